import JvmDerived
import JvmDerived.Pilot.@@N@@Statement
import JvmDerived.Pilot.@@N@@Code
set_option linter.unusedVariables false
set_option linter.unusedSimpArgs false
/- laws to paste: Road.backV, Road.lenW, Road.chN, Road.codOf (cut by pick.py; bodies as the Statement names them) -/
namespace Jvm.Pilot.@@N@@
namespace StrChars
open Jvm Sem ClassFile Op Lib Jvm.Stand Jvm.Free.XT Jvm.Free.ALB Jvm.Free.JM Jvm.Free
open Jvm.Lib.Cold (StaticIs)
/-- a char array whose places are chars -/
def Ch (a : Addr) (A : Cell) (U : State) : Prop := Arr .char a A U ∧ Typed .char A
theorem Ch.mv {a : Addr} {A : Cell} {U U' : State} (h : Ch a A U) (hal : U.vm.Alike U'.vm) (hh : U'.heap = U.heap) : Ch a A U' := ⟨h.1.mv hal hh, h.2⟩
theorem Ch.keep {a : Addr} {A : Cell} {U U' : State} (h : Ch a A U) (hal : U.vm.Alike U'.vm) (hk : U'.heap[a]? = some A) : Ch a A U' := ⟨h.1.keep hal hk, h.2⟩
/-- what place i of a char[]'s cell holds -/
def cv (A : Cell) (i : Nat) : Int32 := match A.slots[i]? with | some (.int x) => x | _ => 0
theorem Ch.get {a : Addr} {A : Cell} {U : State} (h : Ch a A U) {i : Nat} (hi : i < A.slots.size) : A.slots[i]? = some (.int (cv A i)) := by
  have e := Array.getElem?_eq_getElem hi
  have f := h.2 i _ e
  unfold cv; rw [e]
  generalize A.slots[i] = v at f
  cases v <;> simp [fits] at f ⊢
/-- the byte that i2b leaves of a char -/
def lo8 (x : Int32) : Int32 := x.toInt8.toInt32
theorem fits_lo8 (y : Int32) : fits .byte (.int (lo8 y)) = true := by
  have h1 := y.toInt8.le_toInt
  have h2 := y.toInt8.toInt_lt
  simp only [lo8, fits, Bool.and_eq_true, decide_eq_true_eq, Int32.le_iff_toInt_le, Int8.toInt_toInt32, show (-128 : Int32).toInt = -128 from by decide, show (127 : Int32).toInt = 127 from by decide]
  omega
/-- A' is A but that each place j of lo .. hi - 1 holds f j -/
def Laid (A A' : Cell) (lo hi : Nat) (f : Nat → Value) : Prop := A'.cls = A.cls ∧ A'.vm = A.vm ∧ A'.slots.size = A.slots.size ∧ ∀ i, A'.slots[i]? = if lo ≤ i ∧ i < hi then some (f i) else A.slots[i]?
theorem Laid.zero (A : Cell) (lo : Nat) (f : Nat → Value) : Laid A A lo (lo + 0) f := ⟨rfl, rfl, rfl, fun i => by rw [if_neg (by omega)]⟩
theorem Laid.step {A Ak : Cell} {lo k : Nat} {f : Nat → Value} {v : Value} (h : Laid A Ak lo k f) (hlo : lo ≤ k) (hk : k < Ak.slots.size) (hv : v = f k) : Laid A (Ak.setSlot k v) lo (k + 1) f := by
  refine ⟨h.1, h.2.1, by simpa [Cell.setSlot] using h.2.2.1, fun i => ?_⟩
  by_cases e : k = i
  · subst e; rw [Cell.slots_setSlot_self v hk, if_pos (by omega), hv]
  · rw [Cell.slots_setSlot_ne v e, h.2.2.2 i]
    by_cases q : lo ≤ i ∧ i < k
    · rw [if_pos q, if_pos (by omega)]
    · rw [if_neg q, if_neg (by omega)]
def U16 : String := "java/lang/StringUTF16"
namespace Cmp5
def yN : MethodName := ⟨"java/lang/StringUTF16", "compress", "([CI[BII)I"⟩
abbrev yB : ByteArray := jdk_52_method_21_code
theorem d0 : decode yB 0 = .ok (.iconst 0, 1) := by decide +kernel
theorem d1 : decode yB 1 = .ok (.istore 5, 2) := by decide +kernel
theorem d3 : decode yB 3 = .ok (.iload 5, 2) := by decide +kernel
theorem d5 : decode yB 5 = .ok (.iload 4, 2) := by decide +kernel
theorem d7 : decode yB 7 = .ok (.if_icmp (.ge) 37, 3) := by decide +kernel
theorem d10 : decode yB 10 = .ok (.aload_n 0, 1) := by decide +kernel
theorem d11 : decode yB 11 = .ok (.iload_n 1, 1) := by decide +kernel
theorem d12 : decode yB 12 = .ok (.caload, 1) := by decide +kernel
theorem d13 : decode yB 13 = .ok (.istore 6, 2) := by decide +kernel
theorem d15 : decode yB 15 = .ok (.iload 6, 2) := by decide +kernel
theorem d17 : decode yB 17 = .ok (.sipush 255, 3) := by decide +kernel
theorem d20 : decode yB 20 = .ok (.if_icmp (.le) 6, 3) := by decide +kernel
theorem d26 : decode yB 26 = .ok (.aload_n 2, 1) := by decide +kernel
theorem d27 : decode yB 27 = .ok (.iload_n 3, 1) := by decide +kernel
theorem d28 : decode yB 28 = .ok (.iload 6, 2) := by decide +kernel
theorem d30 : decode yB 30 = .ok (.i2b, 1) := by decide +kernel
theorem d31 : decode yB 31 = .ok (.bastore, 1) := by decide +kernel
theorem d32 : decode yB 32 = .ok (.iinc 1 1, 3) := by decide +kernel
theorem d35 : decode yB 35 = .ok (.iinc 3 1, 3) := by decide +kernel
theorem d38 : decode yB 38 = .ok (.iinc 5 1, 3) := by decide +kernel
theorem d41 : decode yB 41 = .ok (.goto (-38), 3) := by decide +kernel
theorem d44 : decode yB 44 = .ok (.iload 4, 2) := by decide +kernel
theorem d46 : decode yB 46 = .ok (.ireturn, 1) := by decide +kernel
def site : List Cond := []
def tab : Cond := tabOf yN yB 7 (some .int) site
def P (b : Addr) (A : Cell) (d : Addr) (B : Cell) (o q len : Nat) (args : Array Value) (s : State) : Prop := args = #[.ref b, .int (Int32.ofNat o), .ref d, .int (Int32.ofNat q), .int (Int32.ofNat len)] ∧ Ch b A s ∧ Arr .byte d B s ∧ b ≠ d ∧ o + len ≤ A.slots.size ∧ q + len ≤ B.slots.size ∧ ∀ i, i < len → ¬ 255 < cv A (o + i)
def E (b : Addr) (A : Cell) (d : Addr) (B : Cell) (o q len : Nat) (r : Option Value) (s u : State) : Prop := r = some (.int (Int32.ofNat len)) ∧ ∃ B', Put d B' s u ∧ Laid B B' q (q + len) (fun j => Value.int (lo8 (cv A (o + (j - q)))))
/-- no char of the range above 255: len; the places written hold each char's low byte -/
theorem law (l : Launch) (b : Addr) (A : Cell) (d : Addr) (B : Cell) (o q len : Nat) : Law l yN 5 5 0 0 yB 7 (some .int) site (P b A d B o q len) (E b A d B o q len) (copyLocs d q len) 0 0 := by
  refine Law.of_walk (plainFor_of_name (by decide +kernel)) (by decide +kernel) (by decide +kernel) (by decide) (fun _ _ h => by rw [h.1]; rfl) (fun _ U U' hal hh h => ⟨h.1, h.2.1.mv hal hh, h.2.2.1.mv hal hh, h.2.2.2⟩) (fun r U U' V V' h1 hal h2 h => ⟨h.1, h.2.elim fun B' q => ⟨B', q.1.mv h1 h2, q.2⟩⟩) ?_
  intro p e s m args below meth c s₁ X0 hexec hbytes hml hret hlk hnm hown hh0 W hP
  obtain ⟨rfl, hA, hB, hne, l1, l2, hp⟩ := hP
  have c1 : Steps p.tables e below (s₁.setTop (entryFrame m #[.ref b, .int (Int32.ofNat o), .ref d, .int (Int32.ofNat q), .int (Int32.ofNat len)] 7)) (s₁.setTop (mkF m 0 #[.val (.ref b), .val (.int (Int32.ofNat o)), .val (.ref d), .val (.int (Int32.ofNat q)), .val (.int (Int32.ofNat len)), .unset, .unset] [])) := entry rfl
  have hA0 := hA.1.mv X0.warmed.alike hh0
  have hB0 := hB.mv X0.warmed.alike hh0
  have a31 := hA.1.2.2.2
  have c2 : Steps p.tables e below (s₁.setTop (entryFrame m #[.ref b, .int (Int32.ofNat o), .ref d, .int (Int32.ofNat q), .int (Int32.ofNat len)] 7)) (s₁.setTop (mkF m 3 #[.val (.ref b), .val (.int (Int32.ofNat o)), .val (.ref d), .val (.int (Int32.ofNat q)), .val (.int (Int32.ofNat len)), .val (.int 0), .unset] [])) := c1.trans (by
    refine iconstV X0.here hexec rfl 0 (hb hbytes d0) (by decide) ?_
    refine XS.istore X0.here hexec rfl (hb hbytes d1) rfl rfl ?_
    exact Steps.refl _)
  have loop : ∀ (r i : Nat), i + r = len → ∀ (z : Slot), (z = .unset ∨ ∃ w, z = .val w ∧ w.category = 1) → ∀ (Tl : State) (Bk : Cell), Stand p l e { frames := 0, locals := 0, cells := 0, slots := 0 } s m #[.ref b, .int (Int32.ofNat o), .ref d, .int (Int32.ofNat q), .int (Int32.ofNat len)] below meth c Tl ([] ++ copyLocs d q i) 0 0 → Put d Bk s₁ Tl → Laid B Bk q (q + i) (fun j => Value.int (lo8 (cv A (o + (j - q))))) →
      Steps p.tables e below (s₁.setTop (entryFrame m #[.ref b, .int (Int32.ofNat o), .ref d, .int (Int32.ofNat q), .int (Int32.ofNat len)] 7)) (Tl.setTop (mkF m 3 #[.val (.ref b), .val (.int (Int32.ofNat (o + i))), .val (.ref d), .val (.int (Int32.ofNat (q + i))), .val (.int (Int32.ofNat len)), .val (.int (Int32.ofNat i)), z] [])) → ∃ (T' : State) (B' : Cell) (z' : Slot), Stand p l e { frames := 0, locals := 0, cells := 0, slots := 0 } s m #[.ref b, .int (Int32.ofNat o), .ref d, .int (Int32.ofNat q), .int (Int32.ofNat len)] below meth c T' ([] ++ copyLocs d q len) 0 0 ∧ Put d B' s₁ T' ∧ Laid B B' q (q + len) (fun j => Value.int (lo8 (cv A (o + (j - q))))) ∧
      Steps p.tables e below (s₁.setTop (entryFrame m #[.ref b, .int (Int32.ofNat o), .ref d, .int (Int32.ofNat q), .int (Int32.ofNat len)] 7)) (T'.setTop (mkF m 3 #[.val (.ref b), .val (.int (Int32.ofNat (o + len))), .val (.ref d), .val (.int (Int32.ofNat (q + len))), .val (.int (Int32.ofNat len)), .val (.int (Int32.ofNat len)), z'] [])) := by
    intro r
    induction r with
    | zero =>
      intro i hi z hz Tl Bk Xl pl fl cl
      have hil : i = len := by omega
      rw [hil] at Xl fl cl
      exact ⟨Tl, Bk, z, Xl, pl, fl, cl⟩
    | succ r ih =>
      intro i hi z hz Tl Bk Xl pl fl cl
      have all := X0.warmed.alike.symm.trans Xl.warmed.alike
      have hAl := hA0.keep all (pl.other hne hA0.1)
      have hBk := hB0.like all pl.1 fl.1 fl.2.1 fl.2.2.1
      have hlt : q + i < Bk.slots.size := by rw [fl.2.2.1]; omega
      have c3 : Steps p.tables e below (s₁.setTop (entryFrame m #[.ref b, .int (Int32.ofNat o), .ref d, .int (Int32.ofNat q), .int (Int32.ofNat len)] 7)) (Tl.setTop (mkF m 12 #[.val (.ref b), .val (.int (Int32.ofNat (o + i))), .val (.ref d), .val (.int (Int32.ofNat (q + i))), .val (.int (Int32.ofNat len)), .val (.int (Int32.ofNat i)), z] [.int (Int32.ofNat (o + i)), .ref b])) := cl.trans (by
        refine XS.iload Xl.here hexec rfl (hb hbytes d3) rfl ?_
        refine XS.iload Xl.here hexec rfl (hb hbytes d5) rfl ?_
        refine XS.icmpNo Xl.here hexec rfl (hb hbytes d7) rfl (ii_ge_f (lt32 (by omega) (by omega))) ?_
        refine XS.aloadN Xl.here hexec rfl (hb hbytes d10) rfl rfl ?_
        refine XS.iloadN Xl.here hexec rfl (hb hbytes d11) rfl ?_
        exact Steps.refl _)
      have c4 : Steps p.tables e below (s₁.setTop (entryFrame m #[.ref b, .int (Int32.ofNat o), .ref d, .int (Int32.ofNat q), .int (Int32.ofNat len)] 7)) (Tl.setTop (mkF m 13 #[.val (.ref b), .val (.int (Int32.ofNat (o + i))), .val (.ref d), .val (.int (Int32.ofNat (q + i))), .val (.int (Int32.ofNat len)), .val (.int (Int32.ofNat i)), z] [.int (cv A (o + i))])) := c3.trans (by
        refine Xl.aget hexec hAl rfl (hA.get (i := o + i) (by omega)) rfl rfl (hb hbytes d12) ?_
        exact Steps.refl _)
      have c5 : Steps p.tables e below (s₁.setTop (entryFrame m #[.ref b, .int (Int32.ofNat o), .ref d, .int (Int32.ofNat q), .int (Int32.ofNat len)] 7)) (Tl.setTop (mkF m 15 #[.val (.ref b), .val (.int (Int32.ofNat (o + i))), .val (.ref d), .val (.int (Int32.ofNat (q + i))), .val (.int (Int32.ofNat len)), .val (.int (Int32.ofNat i)), .val (.int (cv A (o + i)))] [])) := c4.trans (by
        refine XS.istoreS Xl.here hexec rfl (hb hbytes d13) rfl rfl hz ?_
        exact Steps.refl _)
      have c6 : Steps p.tables e below (s₁.setTop (entryFrame m #[.ref b, .int (Int32.ofNat o), .ref d, .int (Int32.ofNat q), .int (Int32.ofNat len)] 7)) (Tl.setTop (mkF m 31 #[.val (.ref b), .val (.int (Int32.ofNat (o + i))), .val (.ref d), .val (.int (Int32.ofNat (q + i))), .val (.int (Int32.ofNat len)), .val (.int (Int32.ofNat i)), .val (.int (cv A (o + i)))] [.int (lo8 (cv A (o + i))), .int (Int32.ofNat (q + i)), .ref d])) := c5.trans (by
        refine XS.iload Xl.here hexec rfl (hb hbytes d15) rfl ?_
        refine sipushV Xl.here hexec rfl 255 (hb hbytes d17) (by decide) ?_
        refine XS.icmpYes Xl.here hexec rfl (pc0 := 20) rfl (hb hbytes d20) rfl (ii_le_t (hp i (by omega))) (by decide) rfl ?_
        refine XS.aloadN Xl.here hexec rfl (hb hbytes d26) rfl rfl ?_
        refine XS.iloadN Xl.here hexec rfl (hb hbytes d27) rfl ?_
        refine XS.iload Xl.here hexec rfl (hb hbytes d28) rfl ?_
        refine i2b Xl.here hexec rfl (hb hbytes d30) rfl ?_
        exact Steps.refl _)
      obtain ⟨T7, X7, p7, st7⟩ := Xl.aput hexec hBk rfl hlt rfl (fits_lo8 (cv A (o + i))) (g := (mkF m 31 #[.val (.ref b), .val (.int (Int32.ofNat (o + i))), .val (.ref d), .val (.int (Int32.ofNat (q + i))), .val (.int (Int32.ofNat len)), .val (.int (Int32.ofNat i)), .val (.int (cv A (o + i)))] [.int (lo8 (cv A (o + i))), .int (Int32.ofNat (q + i)), .ref d])) rfl (rest := []) rfl (hb hbytes d31)
      have c8 : Steps p.tables e below (s₁.setTop (entryFrame m #[.ref b, .int (Int32.ofNat o), .ref d, .int (Int32.ofNat q), .int (Int32.ofNat len)] 7)) (T7.setTop (mkF m 32 #[.val (.ref b), .val (.int (Int32.ofNat (o + i))), .val (.ref d), .val (.int (Int32.ofNat (q + i))), .val (.int (Int32.ofNat len)), .val (.int (Int32.ofNat i)), .val (.int (cv A (o + i)))] [])) := c6.trans (st7 _ (Steps.refl _))
      have c9 : Steps p.tables e below (s₁.setTop (entryFrame m #[.ref b, .int (Int32.ofNat o), .ref d, .int (Int32.ofNat q), .int (Int32.ofNat len)] 7)) (T7.setTop (mkF m 3 #[.val (.ref b), .val (.int (Int32.ofNat (o + i) + 1)), .val (.ref d), .val (.int (Int32.ofNat (q + i) + 1)), .val (.int (Int32.ofNat len)), .val (.int (Int32.ofNat i + 1)), .val (.int (cv A (o + i)))] [])) := c8.trans (by
        refine iincV X7.here hexec rfl 1 (hb hbytes d32) (by decide) rfl rfl ?_
        refine iincV X7.here hexec rfl 1 (hb hbytes d35) (by decide) rfl rfl ?_
        refine iincV X7.here hexec rfl 1 (hb hbytes d38) (by decide) rfl rfl ?_
        refine XS.goto X7.here hexec rfl (pc0 := 41) rfl (hb hbytes d41) (by decide) rfl ?_
        exact Steps.refl _)
      have c10 : Steps p.tables e below (s₁.setTop (entryFrame m #[.ref b, .int (Int32.ofNat o), .ref d, .int (Int32.ofNat q), .int (Int32.ofNat len)] 7)) (T7.setTop (mkF m 3 #[.val (.ref b), .val (.int (Int32.ofNat (o + (i + 1)))), .val (.ref d), .val (.int (Int32.ofNat (q + (i + 1)))), .val (.int (Int32.ofNat len)), .val (.int (Int32.ofNat (i + 1))), .val (.int (cv A (o + i)))] [])) := by
        have := c9
        rw [succ32, succ32, succ32] at this
        exact this
      exact ih (i + 1) (by omega) _ (Or.inr ⟨_, rfl, rfl⟩) T7 _ (by rw [copyLocs_step, ← List.append_assoc]; exact X7) (pl.trans p7) (fl.step (by omega) hlt (by simp)) c10
  obtain ⟨T9, B9, z9, X9, p9, f9, g9⟩ := loop len 0 (by omega) .unset (Or.inl rfl) s₁ B (by simpa [copyLocs] using X0) ⟨hB0.1, fun _ _ => rfl, rfl⟩ (Laid.zero _ _ _) c2
  have c11 : Steps p.tables e below (s₁.setTop (entryFrame m #[.ref b, .int (Int32.ofNat o), .ref d, .int (Int32.ofNat q), .int (Int32.ofNat len)] 7)) (T9.setTop (mkF m 46 #[.val (.ref b), .val (.int (Int32.ofNat (o + len))), .val (.ref d), .val (.int (Int32.ofNat (q + len))), .val (.int (Int32.ofNat len)), .val (.int (Int32.ofNat len)), z9] [.int (Int32.ofNat len)])) := g9.trans (by
    refine XS.iload X9.here hexec rfl (hb hbytes d3) rfl ?_
    refine XS.iload X9.here hexec rfl (hb hbytes d5) rfl ?_
    refine XS.icmpYes X9.here hexec rfl (pc0 := 7) rfl (hb hbytes d7) rfl (ii_ge_t (nlt32 (by omega) (Nat.le_refl _))) (by decide) rfl ?_
    refine XS.iload X9.here hexec rfl (hb hbytes d44) rfl ?_
    exact Steps.refl _)
  exact ⟨T9, some (.int (Int32.ofNat len)), _, _, _, X9, by simp, rfl, rfl, (fun h => by cases h), ⟨rfl, B9, p9.from hh0, f9⟩, fun fs hl => c11.trans (X9.ireturnOut hexec hret rfl (Or.inl rfl) (hb hbytes d46) hl)⟩
end Cmp5
namespace Cmp3
def yN : MethodName := ⟨"java/lang/StringUTF16", "compress", "([CII)[B"⟩
abbrev yB : ByteArray := jdk_52_method_16_code
theorem d0 : decode yB 0 = .ok (.iload_n 2, 1) := by decide +kernel
theorem d1 : decode yB 1 = .ok (.newarray .byte, 2) := by decide +kernel
theorem d3 : decode yB 3 = .ok (.astore_n 3, 1) := by decide +kernel
theorem d4 : decode yB 4 = .ok (.aload_n 0, 1) := by decide +kernel
theorem d5 : decode yB 5 = .ok (.iload_n 1, 1) := by decide +kernel
theorem d6 : decode yB 6 = .ok (.aload_n 3, 1) := by decide +kernel
theorem d7 : decode yB 7 = .ok (.iconst 0, 1) := by decide +kernel
theorem d8 : decode yB 8 = .ok (.iload_n 2, 1) := by decide +kernel
theorem d9 : decode yB 9 = .ok (.invokestatic 115, 3) := by decide +kernel
theorem d12 : decode yB 12 = .ok (.istore 4, 2) := by decide +kernel
theorem d14 : decode yB 14 = .ok (.iload 4, 2) := by decide +kernel
theorem d16 : decode yB 16 = .ok (.iload_n 2, 1) := by decide +kernel
theorem d17 : decode yB 17 = .ok (.if_icmp (.eq) 40, 3) := by decide +kernel
theorem d57 : decode yB 57 = .ok (.aload_n 3, 1) := by decide +kernel
theorem d58 : decode yB 58 = .ok (.areturn, 1) := by decide +kernel
def site : List Cond := [.arrayClass .byte, Cmp5.tab] ++ staticW U16 115 Cmp5.yN
def tab : Cond := tabOf yN yB 6 (some (.array .byte)) site
def P (b : Addr) (A : Cell) (o len : Nat) (args : Array Value) (s : State) : Prop := args = #[.ref b, .int (Int32.ofNat o), .int (Int32.ofNat len)] ∧ Ch b A s ∧ o + len ≤ A.slots.size ∧ len ≤ 536870912 ∧ ∀ i, i < len → ¬ 255 < cv A (o + i)
def E (b : Addr) (A : Cell) (o len : Nat) (r : Option Value) (s u : State) : Prop := NewArr .byte "[B" len (fun j => .int (lo8 (cv A (o + j)))) r s u ∧ u.heap.size = s.heap.size + 1
/-- no char of the range above 255: a new byte[] of their low bytes -/
theorem law (l : Launch) (b : Addr) (A : Cell) (o len : Nat) : Law l yN 3 3 1 18 yB 6 (some (.array .byte)) site (P b A o len) (E b A o len) [] 1 len := by
  refine Law.of_walk (plainFor_of_name (by decide +kernel)) (by decide +kernel) (by decide +kernel) (by decide) (fun _ _ h => by rw [h.1]; rfl) (fun _ U U' hal hh h => ⟨h.1, h.2.1.mv hal hh, h.2.2⟩) (fun r U U' V V' h1 hal h2 h => ⟨NewArr.mv r U U' V V' h1 hal h2 h.1, by rw [h1, h2]; exact h.2⟩) ?_
  intro p e s m args below meth c s₁ X0 hexec hbytes hml hret hlk hnm hown hh0 W hP
  obtain ⟨rfl, hA, l1, l2, hp⟩ := hP
  have a31 := hA.1.2.2.2
  have c1 : Steps p.tables e below (s₁.setTop (entryFrame m #[.ref b, .int (Int32.ofNat o), .int (Int32.ofNat len)] 6)) (s₁.setTop (mkF m 0 #[.val (.ref b), .val (.int (Int32.ofNat o)), .val (.int (Int32.ofNat len)), .unset, .unset, .unset] [])) := entry rfl
  have c2 : Steps p.tables e below (s₁.setTop (entryFrame m #[.ref b, .int (Int32.ofNat o), .int (Int32.ofNat len)] 6)) (s₁.setTop (mkF m 1 #[.val (.ref b), .val (.int (Int32.ofNat o)), .val (.int (Int32.ofNat len)), .unset, .unset, .unset] [.int (Int32.ofNat len)])) := c1.trans (by
    refine XS.iloadN X0.here hexec rfl (hb hbytes d0) rfl ?_
    exact Steps.refl _)
  obtain ⟨T3, B3, X3, ba3, bs3, bv3, bh3, bf3, st3⟩ := X0.anew hexec (atype := .byte) (wk W (.arrayClass .byte)) rfl (by show len * 1 ≤ _; omega) (by omega) (g := (mkF m 1 #[.val (.ref b), .val (.int (Int32.ofNat o)), .val (.int (Int32.ofNat len)), .unset, .unset, .unset] [.int (Int32.ofNat len)])) rfl (hb hbytes d1) (rest := []) rfl (Nat.le_refl _) (by show 0 + len ≤ len; omega)
  rw [hh0] at ba3 st3
  have kp3 : XT.Kept s T3 := (XT.Kept.of_eq hh0).push bh3
  have hA3 := hA.keep X3.warmed.alike (kp3 _ _ hA.1.1)
  have hne : b ≠ s.heap.size := hA.1.ne
  have c4 : Steps p.tables e below (s₁.setTop (entryFrame m #[.ref b, .int (Int32.ofNat o), .int (Int32.ofNat len)] 6)) (T3.setTop (mkF m 3 #[.val (.ref b), .val (.int (Int32.ofNat o)), .val (.int (Int32.ofNat len)), .unset, .unset, .unset] [.ref s.heap.size])) := c2.trans (st3 _ (Steps.refl _))
  have c5 : Steps p.tables e below (s₁.setTop (entryFrame m #[.ref b, .int (Int32.ofNat o), .int (Int32.ofNat len)] 6)) (T3.setTop (mkF m 9 #[.val (.ref b), .val (.int (Int32.ofNat o)), .val (.int (Int32.ofNat len)), .val (.ref s.heap.size), .unset, .unset] [.int (Int32.ofNat len), .int 0, .ref s.heap.size, .int (Int32.ofNat o), .ref b])) := c4.trans (by
    refine XS.astoreN X3.here hexec rfl (hb hbytes d3) rfl rfl rfl ?_
    refine XS.aloadN X3.here hexec rfl (hb hbytes d4) rfl rfl ?_
    refine XS.iloadN X3.here hexec rfl (hb hbytes d5) rfl ?_
    refine XS.aloadN X3.here hexec rfl (hb hbytes d6) rfl rfl ?_
    refine iconstV X3.here hexec rfl 0 (hb hbytes d7) (by decide) ?_
    refine XS.iloadN X3.here hexec rfl (hb hbytes d8) rfl ?_
    exact Steps.refl _)
  obtain ⟨v6, T6, X6, E6, g6⟩ := X3.callS hexec (Cmp5.law l b A s.heap.size B3 o 0 len) hown (wks W (staticW U16 115 Cmp5.yN)) (wk W Cmp5.tab) (W := 0) (Nat.le_of_ble_eq_true rfl) (Nat.le_of_ble_eq_true rfl) (Nat.le_refl _) (by show 0 + len + 0 ≤ len; omega) (g := (mkF m 9 #[.val (.ref b), .val (.int (Int32.ofNat o)), .val (.int (Int32.ofNat len)), .val (.ref s.heap.size), .unset, .unset] [.int (Int32.ofNat len), .int (Int32.ofNat 0), .ref s.heap.size, .int (Int32.ofNat o), .ref b])) rfl (by rw [hml]; rfl) c5 (argsL := [.ref b, .int (Int32.ofNat o), .ref s.heap.size, .int (Int32.ofNat 0), .int (Int32.ofNat len)]) (rest := []) rfl rfl (by show 2 * 0 + 0 ≤ _; decide) (hb hbytes d9) (⟨rfl, hA3, ba3, hne, l1, by rw [bs3]; simp, hp⟩)
  obtain ⟨rfl, B6, p6, f6⟩ := E6
  have c7 : Steps p.tables e below (s₁.setTop (entryFrame m #[.ref b, .int (Int32.ofNat o), .int (Int32.ofNat len)] 6)) (T6.setTop (mkF m 12 #[.val (.ref b), .val (.int (Int32.ofNat o)), .val (.int (Int32.ofNat len)), .val (.ref s.heap.size), .unset, .unset] [.int (Int32.ofNat len)])) := g6
  have c8 : Steps p.tables e below (s₁.setTop (entryFrame m #[.ref b, .int (Int32.ofNat o), .int (Int32.ofNat len)] 6)) (T6.setTop (mkF m 58 #[.val (.ref b), .val (.int (Int32.ofNat o)), .val (.int (Int32.ofNat len)), .val (.ref s.heap.size), .val (.int (Int32.ofNat len)), .unset] [.ref s.heap.size])) := c7.trans (by
    refine XS.istore X6.here hexec rfl (hb hbytes d12) rfl rfl ?_
    refine XS.iload X6.here hexec rfl (hb hbytes d14) rfl ?_
    refine XS.iloadN X6.here hexec rfl (hb hbytes d16) rfl ?_
    refine XS.icmpYes X6.here hexec rfl (pc0 := 17) rfl (hb hbytes d17) rfl (ii_eq_t rfl) (by decide) rfl ?_
    refine XS.aloadN X6.here hexec rfl (hb hbytes d57) rfl rfl ?_
    exact Steps.refl _)
  have X8 := X6.wide (L' := []) (cells' := 1) (slots' := len) (fun x hx hlt => by
    simp only [List.nil_append, copyLocs, List.mem_map, List.mem_range] at hx
    obtain ⟨i, -, rfl⟩ := hx
    exact absurd hlt (Nat.lt_irrefl _)) (Nat.le_refl _) (by omega)
  exact ⟨T6, some (.ref s.heap.size), _, _, _, X8, rfl, rfl, rfl, (fun h => by cases h), ⟨⟨rfl, B6, ba3.like (X3.warmed.alike.symm.trans X6.warmed.alike) p6.1 f6.1 f6.2.1 f6.2.2.1, f6.2.1.trans bv3, by rw [X6.warmed.alike.findClass, f6.1]; exact bf3, by rw [f6.2.2.1, bs3]; simp, fun j hj => by rw [f6.2.2.2 j, if_pos (by omega)]; rfl, kp3.put p6 (Nat.le_refl _)⟩, by rw [p6.2.2, bh3, hh0]; simp⟩, fun fs hl => c8.trans (X8.areturnOut hexec rfl hret rfl (hb hbytes d58) hl)⟩
end Cmp3
namespace CodL
def yN : MethodName := ⟨"java/lang/StringUTF16", "coderFromArrayLen", "([BI)B"⟩
abbrev yB : ByteArray := jdk_52_method_15_code
theorem d0 : decode yB 0 = .ok (.iload_n 1, 1) := by decide +kernel
theorem d1 : decode yB 1 = .ok (.aload_n 0, 1) := by decide +kernel
theorem d2 : decode yB 2 = .ok (.arraylength, 1) := by decide +kernel
theorem d3 : decode yB 3 = .ok (.isub, 1) := by decide +kernel
theorem d4 : decode yB 4 = .ok (.bipush 31, 2) := by decide +kernel
theorem d6 : decode yB 6 = .ok (.iushr, 1) := by decide +kernel
theorem d7 : decode yB 7 = .ok (.i2b, 1) := by decide +kernel
theorem d8 : decode yB 8 = .ok (.ireturn, 1) := by decide +kernel
def site : List Cond := []
def tab : Cond := tabOf yN yB 2 (some .byte) site
def P (d : Addr) (B : Cell) (args : Array Value) (s : State) : Prop := args = #[.ref d, .int (Int32.ofNat B.slots.size)] ∧ Arr .byte d B s
def E (r : Option Value) (s u : State) : Prop := XT.PureE (some (.int 0)) r s u
/-- an array as long as the number of chars: LATIN1 -/
theorem law (l : Launch) (d : Addr) (B : Cell) : Law l yN 2 2 0 0 yB 2 (some .byte) site (P d B) E [] 0 0 := by
  refine Law.of_walk (plainFor_of_name (by decide +kernel)) (by decide +kernel) (by decide +kernel) (by decide) (fun _ _ h => by rw [h.1]; rfl) (fun _ U U' hal hh h => ⟨h.1, h.2.mv hal hh⟩) (fun r U U' V V' h1 hal h2 h => XT.PureE.mv r U U' V V' h1 hal h2 h) ?_
  intro p e s m args below meth c s₁ X0 hexec hbytes hml hret hlk hnm hown hh0 W hP
  obtain ⟨rfl, hB⟩ := hP
  have hB0 := hB.mv X0.warmed.alike hh0
  have c1 : Steps p.tables e below (s₁.setTop (entryFrame m #[.ref d, .int (Int32.ofNat B.slots.size)] 2)) (s₁.setTop (mkF m 0 #[.val (.ref d), .val (.int (Int32.ofNat B.slots.size))] [])) := entry rfl
  have c2 : Steps p.tables e below (s₁.setTop (entryFrame m #[.ref d, .int (Int32.ofNat B.slots.size)] 2)) (s₁.setTop (mkF m 2 #[.val (.ref d), .val (.int (Int32.ofNat B.slots.size))] [.ref d, .int (Int32.ofNat B.slots.size)])) := c1.trans (by
    refine XS.iloadN X0.here hexec rfl (hb hbytes d0) rfl ?_
    refine XS.aloadN X0.here hexec rfl (hb hbytes d1) rfl rfl ?_
    exact Steps.refl _)
  have c3 : Steps p.tables e below (s₁.setTop (entryFrame m #[.ref d, .int (Int32.ofNat B.slots.size)] 2)) (s₁.setTop (mkF m 8 #[.val (.ref d), .val (.int (Int32.ofNat B.slots.size))] [.int (lo8 (ushr (Int32.ofNat B.slots.size - Int32.ofNat B.slots.size) 31))])) := c2.trans (by
    refine X0.alen hexec hB0 rfl rfl (hb hbytes d2) ?_
    refine XS.isub X0.here hexec rfl (hb hbytes d3) rfl ?_
    refine bipushV X0.here hexec rfl 31 (hb hbytes d4) (by decide) ?_
    refine iushr X0.here hexec rfl (hb hbytes d6) rfl ?_
    refine i2b X0.here hexec rfl (hb hbytes d7) rfl ?_
    exact Steps.refl _)
  have e0 : lo8 (ushr (Int32.ofNat B.slots.size - Int32.ofNat B.slots.size) 31) = 0 := by rw [Int32.sub_self]; decide
  rw [e0] at c3
  exact ⟨s₁, some (.int 0), _, _, _, X0, rfl, rfl, rfl, (fun h => by cases h), ⟨rfl, hh0⟩, fun fs hl => c3.trans (X0.ireturnOut hexec hret rfl (Or.inr (Or.inr (Or.inl rfl))) (hb hbytes d8) hl)⟩
end CodL
/-- the String at a is Latin-1 over a new byte[] (the heap's one new cell): the low bytes of the len chars of A from o on; every cell but a is kept -/
def Got (a : Addr) (D : Cell) (fV fC : Field) (A : Cell) (o len : Nat) (r : Option Value) (s u : State) : Prop := r = none ∧ ∃ D' V : Cell, Blank "java/lang/String" a D' u ∧ Same D D' [fV.slot, fC.slot] ∧ D'.slots[fV.slot]? = some (.ref s.heap.size) ∧ D'.slots[fC.slot]? = some (.int 0) ∧ Arr .byte s.heap.size V u ∧ V.vm = .none ∧ u.vm.findClass "[B" = some V.cls ∧ V.slots.size = len ∧ (∀ j, j < len → V.slots[j]? = some (.int (lo8 (cv A (o + j))))) ∧ (∀ (y : Addr) (c : Cell), y ≠ a → s.heap[y]? = some c → u.heap[y]? = some c) ∧ u.heap.size = s.heap.size + 1
theorem Got.mv {a : Addr} {D A : Cell} {fV fC : Field} {o len : Nat} : ∀ r (U U' V V' : State), U'.heap = U.heap → V.vm.Alike V'.vm → V'.heap = V.heap → Got a D fV fC A o len r U V → Got a D fV fC A o len r U' V' :=
  fun r U U' V V' h1 hal h2 ⟨e0, D', X, a1, a2, a3, a4, a5, a6, a7, a8, a9, a10, a11⟩ => ⟨e0, D', X, a1.mv hal h2, a2, by rw [h1]; exact a3, a4, by rw [h1]; exact a5.mv hal h2, a6, by rw [hal.findClass]; exact a7, a8, a9, by rw [h1, h2]; exact a10, by rw [h1, h2]; exact a11⟩
namespace New4
def yN : MethodName := ⟨"java/lang/String", "<init>", "([CIILjava/lang/Void;)V"⟩
abbrev yB : ByteArray := jdk_42_method_149_code
theorem d0 : decode yB 0 = .ok (.aload_n 0, 1) := by decide +kernel
theorem d1 : decode yB 1 = .ok (.invokespecial 1, 3) := by decide +kernel
theorem d4 : decode yB 4 = .ok (.iload_n 3, 1) := by decide +kernel
theorem d5 : decode yB 5 = .ok (.ifCond (.ne) 22, 3) := by decide +kernel
theorem d27 : decode yB 27 = .ok (.getstatic 38, 3) := by decide +kernel
theorem d30 : decode yB 30 = .ok (.ifCond (.eq) 28, 3) := by decide +kernel
theorem d33 : decode yB 33 = .ok (.aload_n 1, 1) := by decide +kernel
theorem d34 : decode yB 34 = .ok (.iload_n 2, 1) := by decide +kernel
theorem d35 : decode yB 35 = .ok (.iload_n 3, 1) := by decide +kernel
theorem d36 : decode yB 36 = .ok (.invokestatic 177, 3) := by decide +kernel
theorem d39 : decode yB 39 = .ok (.astore 5, 2) := by decide +kernel
theorem d41 : decode yB 41 = .ok (.aload_n 0, 1) := by decide +kernel
theorem d42 : decode yB 42 = .ok (.aload 5, 2) := by decide +kernel
theorem d44 : decode yB 44 = .ok (.iload_n 3, 1) := by decide +kernel
theorem d45 : decode yB 45 = .ok (.invokestatic 47, 3) := by decide +kernel
theorem d48 : decode yB 48 = .ok (.putfield 15, 3) := by decide +kernel
theorem d51 : decode yB 51 = .ok (.aload_n 0, 1) := by decide +kernel
theorem d52 : decode yB 52 = .ok (.aload 5, 2) := by decide +kernel
theorem d54 : decode yB 54 = .ok (.putfield 9, 3) := by decide +kernel
theorem d57 : decode yB 57 = .ok (.return_, 1) := by decide +kernel
def site : List Cond := [.fieldLink "java/lang/String" 38 "java/lang/String" "COMPACT_STRINGS" "Z", Cmp3.tab, CodL.tab, .laysFinal "java/lang/String" "java/lang/String" "value" "[B", .fieldLink "java/lang/String" 9 "java/lang/String" "value" "[B", .laysFinal "java/lang/String" "java/lang/String" "coder" "B", .fieldLink "java/lang/String" 15 "java/lang/String" "coder" "B"] ++ objW "java/lang/String" 1 ++ staticW "java/lang/String" 177 Cmp3.yN ++ staticW "java/lang/String" 47 CodL.yN
def tab : Cond := tabOf yN yB 6 none site
def P (a : Addr) (D : Cell) (fV fC : Field) (b : Addr) (A : Cell) (z : Int32) (o len : Nat) (args : Array Value) (s : State) : Prop := args = #[.ref a, .ref b, .int (Int32.ofNat o), .int (Int32.ofNat len), .null] ∧ Blank "java/lang/String" a D s ∧ Found "java/lang/String" "value" "[B" fV s ∧ Found "java/lang/String" "coder" "B" fC s ∧ Ch b A s ∧ StaticIs s "java/lang/String" "COMPACT_STRINGS" "Z" (.int z) ∧ ¬ z = 0 ∧ 0 < len ∧ o + len ≤ A.slots.size ∧ len ≤ 536870912 ∧ ∀ i, i < len → ¬ 255 < cv A (o + i)
def E (a : Addr) (D : Cell) (fV fC : Field) (A : Cell) (o len : Nat) (r : Option Value) (s u : State) : Prop := Got a D fV fC A o len r s u
/-- len > 0, no char of the range above 255: a Latin-1 String of their low bytes -/
theorem law (l : Launch) (a : Addr) (D : Cell) (fV fC : Field) (b : Addr) (A : Cell) (z : Int32) (o len : Nat) : Law l yN 5 4 2 35 yB 6 none site (P a D fV fC b A z o len) (E a D fV fC A o len) [⟨a, fC.slot⟩, ⟨a, fV.slot⟩] 1 len := by
  refine Law.of_walk (plainFor_of_name (by decide +kernel)) (by decide +kernel) (by decide +kernel) (by decide) (fun _ _ h => by rw [h.1]; rfl) (fun _ U U' hal hh h => ⟨h.1, h.2.1.mv hal hh, h.2.2.1.al hal, h.2.2.2.1.al hal, h.2.2.2.2.1.mv hal hh, h.2.2.2.2.2.1.there hal hh, h.2.2.2.2.2.2⟩) (fun r U U' V V' h1 hal h2 h => Got.mv r U U' V V' h1 hal h2 h) ?_
  intro p e s m args below meth c s₁ X0 hexec hbytes hml hret hlk hnm hown hh0 W hP
  obtain ⟨rfl, hB, f1, f2, hA, s1, hz, l0, l1, l2, hp⟩ := hP
  have a31 := hA.1.2.2.2
  have c1 : Steps p.tables e below (s₁.setTop (entryFrame m #[.ref a, .ref b, .int (Int32.ofNat o), .int (Int32.ofNat len), .null] 6)) (s₁.setTop (mkF m 0 #[.val (.ref a), .val (.ref b), .val (.int (Int32.ofNat o)), .val (.int (Int32.ofNat len)), .val .null, .unset] [])) := entry rfl
  have c2 : Steps p.tables e below (s₁.setTop (entryFrame m #[.ref a, .ref b, .int (Int32.ofNat o), .int (Int32.ofNat len), .null] 6)) (s₁.setTop (mkF m 1 #[.val (.ref a), .val (.ref b), .val (.int (Int32.ofNat o)), .val (.int (Int32.ofNat len)), .val .null, .unset] [.ref a])) := c1.trans (by
    refine XS.aloadN X0.here hexec rfl (hb hbytes d0) rfl rfl ?_
    exact Steps.refl _)
  obtain ⟨T3, X3, q3, st3⟩ := X0.oinit hexec hown (wks W (objW "java/lang/String" 1)) (g := (mkF m 1 #[.val (.ref a), .val (.ref b), .val (.int (Int32.ofNat o)), .val (.int (Int32.ofNat len)), .val .null, .unset] [.ref a])) rfl (by rw [hml]; rfl) (rest := []) rfl (hb hbytes d1) (W := 0) (by show 2 * 0 + 0 ≤ _; decide) (Nat.le_of_ble_eq_true rfl) (Nat.le_of_ble_eq_true rfl)
  have hh3 := q3.trans hh0
  have c4 : Steps p.tables e below (s₁.setTop (entryFrame m #[.ref a, .ref b, .int (Int32.ofNat o), .int (Int32.ofNat len), .null] 6)) (T3.setTop (mkF m 27 #[.val (.ref a), .val (.ref b), .val (.int (Int32.ofNat o)), .val (.int (Int32.ofNat len)), .val .null, .unset] [])) := (c2.trans (st3 _ (Steps.refl _))).trans (by
    refine XS.iloadN X3.here hexec rfl (hb hbytes d4) rfl ?_
    refine XS.ifYes X3.here hexec rfl (pc0 := 5) rfl (hb hbytes d5) rfl (i0_ne_t (nz32 (by omega) l0)) (by decide) rfl ?_
    exact Steps.refl _)
  obtain ⟨T5, X5, q5, st5⟩ := X3.sget hexec hown (wk W (.fieldLink "java/lang/String" 38 "java/lang/String" "COMPACT_STRINGS" "Z")) s1 (fun _ _ h => by rw [hh3]; exact h) (g := (mkF m 27 #[.val (.ref a), .val (.ref b), .val (.int (Int32.ofNat o)), .val (.int (Int32.ofNat len)), .val .null, .unset] [])) rfl (hb hbytes d27)
  have hh5 := q5.trans hh3
  have c6 : Steps p.tables e below (s₁.setTop (entryFrame m #[.ref a, .ref b, .int (Int32.ofNat o), .int (Int32.ofNat len), .null] 6)) (T5.setTop (mkF m 30 #[.val (.ref a), .val (.ref b), .val (.int (Int32.ofNat o)), .val (.int (Int32.ofNat len)), .val .null, .unset] [.int z])) := c4.trans (st5 _ (Steps.refl _))
  have c7 : Steps p.tables e below (s₁.setTop (entryFrame m #[.ref a, .ref b, .int (Int32.ofNat o), .int (Int32.ofNat len), .null] 6)) (T5.setTop (mkF m 36 #[.val (.ref a), .val (.ref b), .val (.int (Int32.ofNat o)), .val (.int (Int32.ofNat len)), .val .null, .unset] [.int (Int32.ofNat len), .int (Int32.ofNat o), .ref b])) := c6.trans (by
    refine XS.ifNo X5.here hexec rfl (hb hbytes d30) rfl (i0_eq_f hz) ?_
    refine XS.aloadN X5.here hexec rfl (hb hbytes d33) rfl rfl ?_
    refine XS.iloadN X5.here hexec rfl (hb hbytes d34) rfl ?_
    refine XS.iloadN X5.here hexec rfl (hb hbytes d35) rfl ?_
    exact Steps.refl _)
  obtain ⟨v8, T8, X8, E8, g8⟩ := X5.callS hexec (Cmp3.law l b A o len) hown (wks W (staticW "java/lang/String" 177 Cmp3.yN)) (wk W Cmp3.tab) (W := 0) (Nat.le_of_ble_eq_true rfl) (Nat.le_of_ble_eq_true rfl) (Nat.le_refl _) (by show 0 + len ≤ len; omega) (g := (mkF m 36 #[.val (.ref a), .val (.ref b), .val (.int (Int32.ofNat o)), .val (.int (Int32.ofNat len)), .val .null, .unset] [.int (Int32.ofNat len), .int (Int32.ofNat o), .ref b])) rfl (by rw [hml]; rfl) c7 (argsL := [.ref b, .int (Int32.ofNat o), .int (Int32.ofNat len)]) (rest := []) rfl rfl (by show 2 * 0 + 0 ≤ _; decide) (hb hbytes d36) (⟨rfl, hA.mv X5.warmed.alike hh5, l1, l2, hp⟩)
  obtain ⟨e8, z8⟩ := E8
  obtain ⟨rfl, N, n1, n2, n3, n4, n5, n6⟩ := NewArr.mv _ T5 s _ _ hh5.symm (Vm.Alike.refl _) rfl e8
  rw [hh5] at z8
  have hB1 := hB.keep X8.warmed.alike (n6 _ _ hB.1)
  have hne : s.heap.size ≠ a := (Nat.ne_of_lt (Array.getElem?_eq_some_iff.mp hB.1).1).symm
  have c9 : Steps p.tables e below (s₁.setTop (entryFrame m #[.ref a, .ref b, .int (Int32.ofNat o), .int (Int32.ofNat len), .null] 6)) (T8.setTop (mkF m 39 #[.val (.ref a), .val (.ref b), .val (.int (Int32.ofNat o)), .val (.int (Int32.ofNat len)), .val .null, .unset] [.ref s.heap.size])) := g8
  have c10 : Steps p.tables e below (s₁.setTop (entryFrame m #[.ref a, .ref b, .int (Int32.ofNat o), .int (Int32.ofNat len), .null] 6)) (T8.setTop (mkF m 45 #[.val (.ref a), .val (.ref b), .val (.int (Int32.ofNat o)), .val (.int (Int32.ofNat len)), .val .null, .val (.ref s.heap.size)] [.int (Int32.ofNat N.slots.size), .ref s.heap.size, .ref a])) := by
    have hc : Steps p.tables e below (s₁.setTop (entryFrame m #[.ref a, .ref b, .int (Int32.ofNat o), .int (Int32.ofNat len), .null] 6)) (T8.setTop (mkF m 45 #[.val (.ref a), .val (.ref b), .val (.int (Int32.ofNat o)), .val (.int (Int32.ofNat len)), .val .null, .val (.ref s.heap.size)] [.int (Int32.ofNat len), .ref s.heap.size, .ref a])) := c9.trans (by
      refine XS.astore X8.here hexec rfl (hb hbytes d39) rfl rfl rfl ?_
      refine XS.aloadN X8.here hexec rfl (hb hbytes d41) rfl rfl ?_
      refine XS.aload X8.here hexec rfl (hb hbytes d42) rfl rfl ?_
      refine XS.iloadN X8.here hexec rfl (hb hbytes d44) rfl ?_
      exact Steps.refl _)
    rw [n4]; exact hc
  obtain ⟨v11, T11, X11, E11, g11⟩ := X8.callS hexec (CodL.law l s.heap.size N) hown (wks W (staticW "java/lang/String" 47 CodL.yN)) (wk W CodL.tab) (W := 1) (Nat.le_of_ble_eq_true rfl) (Nat.le_of_ble_eq_true rfl) (Nat.le_refl _) (by show 0 + len + 0 ≤ len; omega) (g := (mkF m 45 #[.val (.ref a), .val (.ref b), .val (.int (Int32.ofNat o)), .val (.int (Int32.ofNat len)), .val .null, .val (.ref s.heap.size)] [.int (Int32.ofNat N.slots.size), .ref s.heap.size, .ref a])) rfl (by rw [hml]; rfl) c10 (argsL := [.ref s.heap.size, .int (Int32.ofNat N.slots.size)]) (rest := [.ref a]) rfl rfl (by show 2 * 0 + (1 + 0) ≤ _; decide) (hb hbytes d45) (⟨rfl, n1⟩)
  obtain ⟨rfl, q11⟩ := E11
  have hB11 := hB1.mv (X8.warmed.alike.symm.trans X11.warmed.alike) q11
  have c12 : Steps p.tables e below (s₁.setTop (entryFrame m #[.ref a, .ref b, .int (Int32.ofNat o), .int (Int32.ofNat len), .null] 6)) (T11.setTop (mkF m 48 #[.val (.ref a), .val (.ref b), .val (.int (Int32.ofNat o)), .val (.int (Int32.ofNat len)), .val .null, .val (.ref s.heap.size)] [.int 0, .ref a])) := g11
  obtain ⟨T13, X13, p13, bl13, sl13, st13⟩ := X11.finit hexec hown (wk W (.fieldLink "java/lang/String" 15 "java/lang/String" "coder" "B")) (Or.inr ⟨_, (wk W (.laysFinal "java/lang/String" "java/lang/String" "coder" "B"))⟩) (Or.inl ⟨rfl, hnm⟩) f2 (Or.inl rfl) hB11 (t := .byte) (by decide +kernel) rfl (g := (mkF m 48 #[.val (.ref a), .val (.ref b), .val (.int (Int32.ofNat o)), .val (.int (Int32.ofNat len)), .val .null, .val (.ref s.heap.size)] [.int 0, .ref a])) rfl (rest := []) rfl (hb hbytes d48)
  have c14 : Steps p.tables e below (s₁.setTop (entryFrame m #[.ref a, .ref b, .int (Int32.ofNat o), .int (Int32.ofNat len), .null] 6)) (T13.setTop (mkF m 54 #[.val (.ref a), .val (.ref b), .val (.int (Int32.ofNat o)), .val (.int (Int32.ofNat len)), .val .null, .val (.ref s.heap.size)] [.ref s.heap.size, .ref a])) := (c12.trans (st13 _ (Steps.refl _))).trans (by
    refine XS.aloadN X13.here hexec rfl (hb hbytes d51) rfl rfl ?_
    refine XS.aload X13.here hexec rfl (hb hbytes d52) rfl rfl ?_
    exact Steps.refl _)
  obtain ⟨T15, X15, p15, bl15, sl15, st15⟩ := X13.finit hexec hown (wk W (.fieldLink "java/lang/String" 9 "java/lang/String" "value" "[B")) (Or.inr ⟨_, (wk W (.laysFinal "java/lang/String" "java/lang/String" "value" "[B"))⟩) (Or.inl ⟨rfl, hnm⟩) f1 (Or.inl rfl) bl13 (t := (.array .byte)) (by decide +kernel) rfl (g := (mkF m 54 #[.val (.ref a), .val (.ref b), .val (.int (Int32.ofNat o)), .val (.int (Int32.ofNat len)), .val .null, .val (.ref s.heap.size)] [.ref s.heap.size, .ref a])) rfl (rest := []) rfl (hb hbytes d54)
  have c16 : Steps p.tables e below (s₁.setTop (entryFrame m #[.ref a, .ref b, .int (Int32.ofNat o), .int (Int32.ofNat len), .null] 6)) (T15.setTop (mkF m 57 #[.val (.ref a), .val (.ref b), .val (.int (Int32.ofNat o)), .val (.int (Int32.ofNat len)), .val .null, .val (.ref s.heap.size)] [])) := c14.trans (st15 _ (Steps.refl _))
  have ap := apart (Or.inr ⟨_, (wk W (.laysFinal "java/lang/String" "java/lang/String" "value" "[B"))⟩) (Or.inr ⟨_, (wk W (.laysFinal "java/lang/String" "java/lang/String" "coder" "B"))⟩) f1 f2 (t₁ := .array .byte) (t₂ := .byte) (by decide +kernel) (by decide +kernel) (by decide)
  have al := X8.warmed.alike.symm.trans X15.warmed.alike
  have n7 : T11.heap[s.heap.size]? = some N := by rw [q11]; exact n1.1
  exact ⟨T15, none, _, _, _, X15, by simp, rfl, by omega, (fun _ => rfl), ⟨rfl, _, N, bl15, ((Same.refl D _).set _ (by simp)).set _ (by simp), sl15, (Cell.slots_setSlot_ne _ ap).trans sl13, n1.keep al (p15.other hne (p13.other hne n7)), n2, by rw [al.findClass]; exact n3, n4, n5, fun y c h1 h2 => p15.other h1 (p13.other h1 (by rw [q11]; exact n6 y c h2)), by rw [p15.2.2, p13.2.2, q11]; exact z8⟩, fun fs hl => c16.trans (X15.returnOut hexec hret (hb hbytes d57) hl)⟩
end New4
namespace New1
def yN : MethodName := ⟨"java/lang/String", "<init>", "([C)V"⟩
abbrev yB : ByteArray := jdk_42_method_3_code
theorem d0 : decode yB 0 = .ok (.aload_n 0, 1) := by decide +kernel
theorem d1 : decode yB 1 = .ok (.aload_n 1, 1) := by decide +kernel
theorem d2 : decode yB 2 = .ok (.iconst 0, 1) := by decide +kernel
theorem d3 : decode yB 3 = .ok (.aload_n 1, 1) := by decide +kernel
theorem d4 : decode yB 4 = .ok (.arraylength, 1) := by decide +kernel
theorem d5 : decode yB 5 = .ok (.aconst_null, 1) := by decide +kernel
theorem d6 : decode yB 6 = .ok (.invokespecial 27, 3) := by decide +kernel
theorem d9 : decode yB 9 = .ok (.return_, 1) := by decide +kernel
def site : List Cond := [New4.tab] ++ initW "java/lang/String" 27 New4.yN
def tab : Cond := tabOf yN yB 2 none site
def P (a : Addr) (D : Cell) (fV fC : Field) (b : Addr) (A : Cell) (z : Int32) (args : Array Value) (s : State) : Prop := args = #[.ref a, .ref b] ∧ Blank "java/lang/String" a D s ∧ Found "java/lang/String" "value" "[B" fV s ∧ Found "java/lang/String" "coder" "B" fC s ∧ Ch b A s ∧ StaticIs s "java/lang/String" "COMPACT_STRINGS" "Z" (.int z) ∧ ¬ z = 0 ∧ 0 < A.slots.size ∧ A.slots.size ≤ 536870912 ∧ ∀ i, i < A.slots.size → ¬ 255 < cv A i
def E (a : Addr) (D : Cell) (fV fC : Field) (A : Cell) (r : Option Value) (s u : State) : Prop := Got a D fV fC A 0 A.slots.size r s u
/-- new String(chars), not empty, no char above 255: a Latin-1 String of their low bytes -/
theorem law (l : Launch) (a : Addr) (D : Cell) (fV fC : Field) (b : Addr) (A : Cell) (z : Int32) : Law l yN 2 1 3 52 yB 2 none site (P a D fV fC b A z) (E a D fV fC A) [⟨a, fC.slot⟩, ⟨a, fV.slot⟩] 1 A.slots.size := by
  refine Law.of_walk (plainFor_of_name (by decide +kernel)) (by decide +kernel) (by decide +kernel) (by decide) (fun _ _ h => by rw [h.1]; rfl) (fun _ U U' hal hh h => ⟨h.1, h.2.1.mv hal hh, h.2.2.1.al hal, h.2.2.2.1.al hal, h.2.2.2.2.1.mv hal hh, h.2.2.2.2.2.1.there hal hh, h.2.2.2.2.2.2⟩) (fun r U U' V V' h1 hal h2 h => Got.mv r U U' V V' h1 hal h2 h) ?_
  intro p e s m args below meth c s₁ X0 hexec hbytes hml hret hlk hnm hown hh0 W hP
  obtain ⟨rfl, hB, f1, f2, hA, s1, hz, l0, l2, hp⟩ := hP
  have c1 : Steps p.tables e below (s₁.setTop (entryFrame m #[.ref a, .ref b] 2)) (s₁.setTop (mkF m 0 #[.val (.ref a), .val (.ref b)] [])) := entry rfl
  have c2 : Steps p.tables e below (s₁.setTop (entryFrame m #[.ref a, .ref b] 2)) (s₁.setTop (mkF m 6 #[.val (.ref a), .val (.ref b)] [.null, .int (Int32.ofNat A.slots.size), .int 0, .ref b, .ref a])) := c1.trans (by
    refine XS.aloadN X0.here hexec rfl (hb hbytes d0) rfl rfl ?_
    refine XS.aloadN X0.here hexec rfl (hb hbytes d1) rfl rfl ?_
    refine iconstV X0.here hexec rfl 0 (hb hbytes d2) (by decide) ?_
    refine XS.aloadN X0.here hexec rfl (hb hbytes d3) rfl rfl ?_
    refine X0.alen hexec (hA.1.mv X0.warmed.alike hh0) rfl rfl (hb hbytes d4) ?_
    refine XS.aconstNull X0.here hexec rfl (hb hbytes d5) ?_
    exact Steps.refl _)
  obtain ⟨v3, T3, X3, E3, g3⟩ := X0.callN hexec (New4.law l a D fV fC b A z 0 A.slots.size) rfl hown (wks W (initW "java/lang/String" 27 New4.yN)) (W New4.tab (by simp only [site, List.mem_cons, List.mem_append, true_or, or_true])) (W := 0) (Nat.le_of_ble_eq_true rfl) (Nat.le_of_ble_eq_true rfl) (Nat.le_refl _) (by show 0 + A.slots.size ≤ A.slots.size; omega) (g := (mkF m 6 #[.val (.ref a), .val (.ref b)] [.null, .int (Int32.ofNat A.slots.size), .int (Int32.ofNat 0), .ref b, .ref a])) rfl (by rw [hml]; rfl) c2 (argsL := [.ref b, .int (Int32.ofNat 0), .int (Int32.ofNat A.slots.size), .null]) (rest := []) rfl rfl (by show 2 * 0 + 0 ≤ _; decide) (hb hbytes d6) (⟨rfl, hB.mv X0.warmed.alike hh0, f1.al X0.warmed.alike, f2.al X0.warmed.alike, hA.mv X0.warmed.alike hh0, s1.there X0.warmed.alike hh0, hz, l0, by omega, l2, fun i hi => by rw [Nat.zero_add]; exact hp i hi⟩)
  have e0 := Got.mv _ s₁ s _ _ hh0.symm (Vm.Alike.refl _) rfl E3
  obtain rfl := e0.1
  have c4 : Steps p.tables e below (s₁.setTop (entryFrame m #[.ref a, .ref b] 2)) (T3.setTop (mkF m 9 #[.val (.ref a), .val (.ref b)] [])) := g3
  exact ⟨T3, none, _, _, _, X3, by simp, rfl, by omega, (fun _ => rfl), e0, fun fs hl => c4.trans (X3.returnOut hexec hret (hb hbytes d9) hl)⟩
theorem pays {l : Launch} {R : Room} {p : Program} {e : Env} {below : List Frame} {s : State} {sargs : Array Value} {len W : Nat} (a : Addr) (D : Cell) (fV fC : Field) (b : Addr) (A : Cell) (z : Int32) (htab : tab.before sargs s = true) (hfr : 4 ≤ R.frames) (hlo : W + 65 ≤ R.locals) :
    Back l R p e below s sargs yN len W (fun A₁ a₁ => A₁.cells + 1 ≤ R.cells ∧ A₁.slots + A.slots.size ≤ R.slots ∧ P a D fV fC b A z a₁ A₁.U) (fun A₁ _ v₁ B₁ => E a D fV fC A v₁ A₁.U B₁.U ∧ B₁.locs = A₁.locs ++ [⟨a, fC.slot⟩, ⟨a, fV.slot⟩] ∧ B₁.cells = A₁.cells + 1 ∧ B₁.slots = A₁.slots + A.slots.size) :=
  (law l a D fV fC b A z).pays htab hfr (by omega)
end New1
/-- the byte, read back as charAt reads it, is the char -/
theorem lo8_mask {x : Int32} (h0 : ¬ x < 0) (h1 : ¬ 255 < x) : lo8 x &&& 255 = x := by
  have t : ∀ k : Fin 256, lo8 (Int32.ofNat k.val) &&& 255 = Int32.ofNat k.val := by decide +kernel
  rw [Int32.lt_iff_toInt_lt] at h0 h1
  have e0 : (0 : Int32).toInt = 0 := rfl
  have e1 : (255 : Int32).toInt = 255 := rfl
  obtain ⟨k, hk⟩ : ∃ k : Nat, x.toInt = k := ⟨x.toInt.toNat, by omega⟩
  have hx : x = Int32.ofNat k := Int32.toInt_inj.mp (by rw [hk, Int32.toInt_ofNat_small (by omega)])
  rw [hx]
  exact t ⟨k, by omega⟩
end StrChars
namespace StrChars.Road
open Jvm Sem ClassFile Op Lib Jvm.Stand Jvm.Free Jvm.Free.XT
open Jvm.Lib.Cold (StaticIs)
abbrev ST : String := "java/lang/String"
/-- every table word that New1's law asks, flat -/
abbrev words : List Jvm.Cond := [.code New1.yN New1.yB 2 none, .initialized ST, .methodLink ST 27 New4.yN, .instanceMethod New4.yN,
  .code New4.yN New4.yB 6 none, .fieldLink ST 38 ST "COMPACT_STRINGS" "Z", .laysFinal ST ST "value" "[B", .fieldLink ST 9 ST "value" "[B", .laysFinal ST ST "coder" "B", .fieldLink ST 15 ST "coder" "B",
  .methodLink ST 1 Lib.objectInit, .instanceMethod Lib.objectInit, .code Lib.objectInit ⟨#[0xb1]⟩ 1 none, .methodLink ST 177 Cmp3.yN, .static Cmp3.yN, .methodLink ST 47 CodL.yN, .static CodL.yN,
  .code Cmp3.yN Cmp3.yB 6 (some (.array .byte)), .initialized U16, .arrayClass .byte, .methodLink U16 115 Cmp5.yN, .static Cmp5.yN, .code Cmp5.yN Cmp5.yB 7 (some .int), .code CodL.yN CodL.yB 2 (some .byte)]
theorem tab_of {a : Array Value} {s : State} (h : ∀ w ∈ words, w.before a s = true) : New1.tab.before a s = true := by
  have h5 : Cmp5.tab.before a s = true := unparts (wk h (.code Cmp5.yN Cmp5.yB 7 (some .int))) (wks h (.initialized Cmp5.yN.cls :: Cmp5.site))
  have hc : CodL.tab.before a s = true := unparts (wk h (.code CodL.yN CodL.yB 2 (some .byte))) (wks h (.initialized CodL.yN.cls :: CodL.site))
  have q5 : ∀ w ∈ Cmp5.tab :: words, w.before a s = true := fun w hw => (List.mem_cons.mp hw).elim (fun e => e ▸ h5) (h w)
  have h3 : Cmp3.tab.before a s = true := unparts (wk q5 (.code Cmp3.yN Cmp3.yB 6 (some (.array .byte)))) (wks q5 (.initialized Cmp3.yN.cls :: Cmp3.site))
  have q3 : ∀ w ∈ Cmp3.tab :: CodL.tab :: words, w.before a s = true := fun w hw => (List.mem_cons.mp hw).elim (fun e => e ▸ h3) fun hw => (List.mem_cons.mp hw).elim (fun e => e ▸ hc) (h w)
  have h4 : New4.tab.before a s = true := unparts (wk q3 (.code New4.yN New4.yB 6 none)) (wks q3 (.initialized New4.yN.cls :: New4.site))
  have q4 : ∀ w ∈ New4.tab :: words, w.before a s = true := fun w hw => (List.mem_cons.mp hw).elim (fun e => e ▸ h4) (h w)
  exact unparts (wk q4 (.code New1.yN New1.yB 2 none)) (wks q4 (.initialized New1.yN.cls :: New1.site))
/-- the words ride from the start Z to the walk's own state -/
theorem moved {Z s : State} {a0 args : Array Value} (hZ : Z.Warmed39 s.vm) (hw : ∀ d ∈ words, d.before a0 Z = true) : ∀ d ∈ words, d.before args s = true := fun d hd => by
  have q := hw d hd
  have t : ∀ d ∈ words, d = .arrayClass .byte ∨ (d.onTables && d.keepsFace) = true := by decide +kernel
  rcases t d hd with rfl | t
  · exact RoadKit.mvA hZ q
  · exact RoadKit.mv hZ q t
/-- WHAT COMES BACK, over the tables of the start Z: h the heap at the call, h' behind it -/
def Q (Z : State) (x : Addr) (A : Cell) (h : Heap) (v : Option Value) (h' : Heap) (L : List Loc) : Prop := v = none ∧ (∀ y ∈ L, y.base = x) ∧ RoadKit.Keep h h' [x] ∧ h'.size = h.size + 1 ∧ RoadKit.Exa Z h' x ST ∧ RoadKit.Fld Z h' x ST "value" "[B" (.ref h.size) ∧ RoadKit.Fld Z h' x ST "coder" "B" (.int 0) ∧
  (∃ V : Cell, RoadKit.Arr Z h' h.size V .byte ∧ V.vm = .none ∧ Z.vm.findClass "[B" = some V.cls ∧ V.slots.size = A.slots.size ∧ ∀ j, j < A.slots.size → V.slots[j]? = some (.int (lo8 (cv A j)))) ∧
  ∀ (O n d : String) (w : Value), RoadKit.Fld Z h x O n d w → RoadKit.slotOf Z O n d ≠ RoadKit.slotOf Z ST "value" "[B" → RoadKit.slotOf Z O n d ≠ RoadKit.slotOf Z ST "coder" "B" → RoadKit.Fld Z h' x O n d w
/-- **new String(chars) AT A CALL, IN THE ROAD'S FORM**: for specialBack behind newO: x the fresh String, b the char[] with the cell A -/
theorem back {p : Program} {l : Launch} {e : Env} {R : Room} {s : State} {args : Array Value} {below : List Frame} {len W : Nat} {Z : State} {a0 : Array Value} {h : Heap} (hZ : Z.Warmed39 s.vm) (hw : ∀ d ∈ words, d.before a0 Z = true) {kI : Nat} (wi : (Jvm.Cond.instantiable ST kI).before a0 Z = true)
    {x b : Addr} {A : Cell} {z : Int32} {v0 c0 : Value} (E : RoadKit.Exa Z h x ST) (V : RoadKit.Fld Z h x ST "value" "[B" v0) (C : RoadKit.Fld Z h x ST "coder" "B" c0) (K : RoadKit.Arr Z h b A .char) (hty : Typed .char A) (S : RoadKit.Sta Z h ST "COMPACT_STRINGS" "Z" (.int z)) (hz : ¬ z = 0)
    (l0 : 0 < A.slots.size) (l2 : A.slots.size ≤ 536870912) (hp : ∀ i, i < A.slots.size → ¬ 255 < cv A i) (hfr : 4 ≤ R.frames) (hlo : W + 65 ≤ R.locals) :
    Back l R p e below s args New1.yN len W (fun P a => a = #[.ref x, .ref b] ∧ P.U.heap = h ∧ P.cells + 1 ≤ R.cells ∧ P.slots + A.slots.size ≤ R.slots)
      (fun P _ v B => ∃ L, Q Z x A h v B.U.heap L ∧ B.locs = P.locs ++ L ∧ B.cells = P.cells + 1 ∧ B.slots = P.slots + A.slots.size) := by
  intro m meth c P g ig mk a X hg hsize hdg hW hn hp'
  obtain ⟨rfl, rfl, r1, r2⟩ := hp'
  have al : Z.vm.Alike P.U.vm := hZ.alike.trans X.warmed.alike
  obtain ⟨D, cfV, kV, iV, fV, hD, gV, stV, knV, obV, asV, slV⟩ := id V
  obtain ⟨D', cfC, kC, iC, fC, hD', gC, stC, -, -, asC, slC⟩ := id C
  cases hD.symm.trans hD'
  obtain ⟨D2, kD, e1, e2, e3, e4, e5⟩ := id E
  cases hD.symm.trans e1
  obtain ⟨c2, k2, i1, i2, i3, -⟩ := Cond.instantiable_spec wi
  cases e2.symm.trans i1
  cases e3.symm.trans i2
  obtain ⟨kU, u1, u2⟩ := al.2.2 _ _ e3
  have hB : Blank ST x D P.U := ⟨hD, ⟨knV, fun q hq => by rw [hq] at obV; cases obV⟩, by rw [al.findClass]; exact e2, kU, u1, by rw [u2]; exact i3, by rw [u2]; exact e5 i3⟩
  have F1 : Found ST "value" "[B" fV P.U := ⟨SBG.found_only al ⟨cfV, kV, iV, gV⟩, stV⟩
  have F2 : Found ST "coder" "B" fC P.U := ⟨SBG.found_only al ⟨cfC, kC, iC, gC⟩, stC⟩
  have hA : Ch b A P.U := ⟨⟨K.1, State.isArrayOf_alike al K.2.1, K.2.2, by omega⟩, hty⟩
  have hS : StaticIs P.U ST "COMPACT_STRINGS" "Z" (.int z) := by
    obtain ⟨cfS, iS, kS, fS, st, cS, t1, t2, t3, t4, t5, t6, t7⟩ := S
    exact StaticIs.there (s := { Z with heap := P.U.heap }) ⟨cfS, iS, kS, fS, st, cS, t1, t2, t3, t4, t5, (fun q => by rw [q] at t6; cases t6), t7⟩ al rfl
  obtain ⟨v, B, X', ⟨⟨hv, E', V', q1, q2, q3, q4, q5, q6, q7, q8, q9, q10, q11⟩, hl, hc, hs⟩, st⟩ := New1.pays x D fV fC b A z (tab_of (moved hZ hw)) hfr hlo m meth c P g ig mk _ X hg hsize hdg hW hn ⟨r1, r2, rfl, hB, F1, F2, hA, hS, hz, l0, l2, hp⟩
  have al' : Z.vm.Alike B.U.vm := hZ.alike.trans X'.warmed.alike
  have hsz : E'.slots.size = D.slots.size := by
    obtain ⟨-, -, -, kB, w1, w2, w3⟩ := q1
    obtain ⟨kB', y1, y2⟩ := al'.2.2 _ _ e3
    rw [q2.2.1] at w1
    cases w1.symm.trans y1
    rw [w3, e5 i3, y2]
  refine ⟨v, B, X', ⟨_, ⟨hv, ?_, ⟨by omega, fun y cy hy hn' => q10 y cy (by simpa using hn') hy, fun y cy hy => ?_⟩, q11, ⟨E', _, q1.1, by rw [q2.2.1]; exact e2, by rw [q2.2.1]; exact e3, by rw [q2.1]; exact obV, fun _ => by rw [hsz]; exact e5 i3⟩,
    ⟨E', cfV, kV, iV, fV, q1.1, gV, stV, by rw [q2.1]; exact knV, by rw [q2.1]; exact obV, by rw [q2.2.1]; exact asV, q3⟩, ⟨E', cfC, kC, iC, fC, q1.1, gC, stC, by rw [q2.1]; exact knV, by rw [q2.1]; exact obV, by rw [q2.2.1]; exact asC, q4⟩,
    ⟨V', ⟨q5.1, State.isArrayOf_alike al'.symm q5.2.1, q5.2.2.1⟩, q6, by rw [← al'.findClass]; exact q7, q8, fun j hj => by have := q9 j hj; rwa [Nat.zero_add] at this⟩, fun O n d w F n1 n2 => ?_⟩, hl, hc, hs⟩, st⟩
  · intro y hy
    simp only [List.mem_cons, List.not_mem_nil, or_false] at hy
    rcases hy with rfl | rfl <;> rfl
  · by_cases q : y = x
    · subst q
      cases hD.symm.trans hy
      exact ⟨E', q1.1, q2.2.1, q2.1, hsz⟩
    · exact ⟨cy, q10 y cy q hy, rfl, rfl, rfl⟩
  · obtain ⟨D3, cf, k, i, f, g1, g2, g3, g4, g5, g6, g7⟩ := F
    cases hD.symm.trans g1
    simp only [RoadKit.slotOf, g2, gV, gC, Option.map_some, Option.getD_some] at n1 n2
    exact ⟨E', cf, k, i, f, q1.1, g2, g3, by rw [q2.1]; exact g4, by rw [q2.1]; exact g5, by rw [q2.2.1]; exact g6, by rw [q2.2.2 f.slot (by simp [n1, n2])]; exact g7⟩
end StrChars.Road
namespace StrChars.Road
open Jvm Sem ClassFile Op Lib Jvm.Stand Jvm.Free Jvm.Free.XT
/-- WHAT COMES BACK, the byte[] as a list of values -/
def QA (Z : State) (x : Addr) (zn : Int32) (cs : List Int32) (h : Heap) (v : Option Value) (h' : Heap) (L : List Loc) : Prop := v = none ∧ (∀ y ∈ L, y.base = x) ∧ RoadKit.Keep h h' [x] ∧ h'.size = h.size + 1 ∧ RoadKit.Exa Z h' x ST ∧ RoadKit.Fld Z h' x ST "value" "[B" (.ref h.size) ∧ RoadKit.Fld Z h' x ST "coder" "B" (.int 0) ∧
  (∃ kb, Z.vm.findClass "[B" = some kb ∧ RoadKit.Arv Z h' h.size kb .byte zn (cs.map fun c => .int (lo8 c)) (.int 0)) ∧
  ∀ (O n d : String) (w : Value), RoadKit.Fld Z h x O n d w → RoadKit.slotOf Z O n d ≠ RoadKit.slotOf Z ST "value" "[B" → RoadKit.slotOf Z O n d ≠ RoadKit.slotOf Z ST "coder" "B" → RoadKit.Fld Z h' x O n d w
/-- **new String(chars) AT A CALL, THE ARRAYS AS LISTS**: the char[] at b holds cs, not empty, no char above 255 -/
theorem backArv {p : Program} {l : Launch} {e : Env} {R : Room} {s : State} {args : Array Value} {below : List Frame} {len W : Nat} {Z : State} {a0 : Array Value} {h : Heap} (hZ : Z.Warmed39 s.vm) (hw : ∀ d ∈ words, d.before a0 Z = true) {kI : Nat} (wi : (Jvm.Cond.instantiable ST kI).before a0 Z = true)
    {x b : Addr} {k : ClassId} {zn z : Int32} {cs : List Int32} {dv v0 c0 : Value} (E : RoadKit.Exa Z h x ST) (V : RoadKit.Fld Z h x ST "value" "[B" v0) (C : RoadKit.Fld Z h x ST "coder" "B" c0) (K : RoadKit.Arv Z h b k .char zn (cs.map Value.int) dv) (S : RoadKit.Sta Z h ST "COMPACT_STRINGS" "Z" (.int z)) (hz : ¬ z = 0)
    (hlen : zn.toNatClampNeg = cs.length) (h0 : 0 < cs.length) (hbig : cs.length ≤ 536870912) (hall : ∀ c ∈ cs, ¬ 255 < c) (hfr : 4 ≤ R.frames) (hlo : W + 65 ≤ R.locals) :
    Back l R p e below s args New1.yN len W (fun P a => a = #[.ref x, .ref b] ∧ P.U.heap = h ∧ P.cells + 1 ≤ R.cells ∧ P.slots + cs.length ≤ R.slots)
      (fun P _ v B => ∃ L, QA Z x zn cs h v B.U.heap L ∧ B.locs = P.locs ++ L ∧ B.cells = P.cells + 1 ∧ B.slots = P.slots + cs.length) := by
  obtain ⟨A, K1, K2, K3, K4, K5, K6⟩ := K
  have e : A.slots.size = cs.length := K3.trans hlen
  have hat : ∀ (i : Nat) (hi : i < cs.length), A.slots[i]? = some (.int cs[i]) := fun i hi => by rw [K5 i (by omega)]; simp [List.getD_eq_getElem?_getD, hi]
  have hcv : ∀ (i : Nat) (hi : i < cs.length), cv A i = cs[i] := fun i hi => by unfold cv; rw [hat i hi]
  have hty : Typed .char A := fun i v hv => by
    have hi : i < A.slots.size := (Array.getElem?_eq_some_iff.mp hv).1
    have q := K5 i hi
    rw [hv] at q
    rw [Option.some.inj q]
    exact K6 i hi
  refine Back.mono (back hZ hw wi E V C K1 hty S hz (by omega) (by omega) (fun i hi => by rw [hcv i (by omega)]; exact hall _ (List.getElem_mem _)) hfr hlo) (fun P a hp => ⟨hp.1, hp.2.1, hp.2.2.1, by rw [e]; exact hp.2.2.2⟩) (fun P a v B hp hq => ?_)
  obtain ⟨L, ⟨q1, q2, q3, q4, q5, q6, q7, ⟨V', v1, v2, v3, v4, v5⟩, q9⟩, hl, hc, hs⟩ := hq
  refine ⟨L, ⟨q1, q2, q3, q4, q5, q6, q7, ⟨V'.cls, v3, V', v1, rfl, by rw [v4, e, hlen], K4, fun i hi => ?_, fun i hi => ?_⟩, q9⟩, hl, hc, by rw [hs, e]⟩
  · have hi' : i < cs.length := by omega
    rw [v5 i (by omega), hcv i hi']; simp [List.getD_eq_getElem?_getD, hi']
  · have hi' : i < cs.length := by omega
    simp only [List.getD_eq_getElem?_getD, List.getElem?_map, List.getElem?_eq_getElem hi', Option.map_some, Option.getD_some]
    exact fits_lo8 _
end StrChars.Road
namespace StrChars.Road
open Jvm Sem ClassFile Op Lib Jvm.Stand Jvm.Free Jvm.Free.XT
/-- WHAT COMES BACK, in the writer's own shape -/
def QV (Z : State) (x : Addr) (N : Int32) (bs : List Int32) (h : Heap) (n0 : Nat) (v : Option Value) (h' : Heap) (L : List Loc) : Prop := v = none ∧ RoadKit.Fr n0 L ∧ RoadKit.Keep h h' [x] ∧ RoadKit.Exa Z h' x ST ∧ RoadKit.Fld Z h' x ST "coder" "B" (.int 0) ∧
  ∃ (t : Addr) (kb : ClassId), n0 ≤ t ∧ h.size ≤ t ∧ ¬ t = x ∧ RoadKit.Fld Z h' x ST "value" "[B" (.ref t) ∧ RoadKit.Arv Z h' t kb .byte N (bs.map Value.int) (.int 0)
/-- **new String(chars) AT A CALL, FOR THE WRITER**: a char[] of n known ints, each 0 to 255 -/
theorem backV {p : Program} {l : Launch} {e : Env} {R : Room} {s : State} {args : Array Value} {below : List Frame} {len W : Nat} {Z : State} {a0 : Array Value} {h : Heap} (hZ : Z.Warmed39 s.vm) (hw : ∀ d ∈ words, d.before a0 Z = true) {kI : Nat} (wi : (Jvm.Cond.instantiable ST kI).before a0 Z = true)
    {x b : Addr} {kC : ClassId} {cs bs : List Int32} {d v0 c0 : Value} {z N : Int32} {n n0 : Nat} (hx0 : n0 ≤ x) (hh0 : n0 ≤ h.size) (E : RoadKit.Exa Z h x ST) (V : RoadKit.Fld Z h x ST "value" "[B" v0) (C : RoadKit.Fld Z h x ST "coder" "B" c0) (K : RoadKit.Arv Z h b kC .char N (cs.map Value.int) d) (S : RoadKit.Sta Z h ST "COMPACT_STRINGS" "Z" (.int z)) (hz : ¬ z = 0)
    (hn : cs.length = n) (hN : N = Int32.ofNat n) (l0 : 0 < n) (l2 : n ≤ 4000) (hp : ∀ c ∈ cs, ¬ c < 0 ∧ ¬ (255 : Int32) < c) (hb : bs = cs.map (fun c => c.toInt8.toInt32)) (hfr : 4 ≤ R.frames) (hlo : W + 65 ≤ R.locals) :
    Back l R p e below s args (⟨"java/lang/String", "<init>", "([C)V"⟩ : MethodName) len W (fun P a => a = #[.ref x, .ref b] ∧ P.U.heap = h ∧ P.cells + 1 ≤ R.cells ∧ P.slots + n ≤ R.slots)
      (fun P _ v B => ∃ L, QV Z x N bs h n0 v B.U.heap L ∧ B.locs = P.locs ++ L ∧ B.cells = P.cells + 1 ∧ B.slots = P.slots + n) := by
  subst hn hN hb
  refine Back.mono (backArv hZ hw wi E V C K S hz (n32 (by omega)) l0 (by omega) (fun c hc => (hp c hc).2) hfr hlo) (fun P a hp => hp) (fun P a v B hp hq => ?_)
  obtain ⟨L, ⟨q1, q2, q3, q4, q5, q6, q7, ⟨kb, v1, v2⟩, q9⟩, hl, hc, hs⟩ := hq
  exact ⟨L, ⟨q1, fun y hy => by rw [q2 y hy]; exact hx0, q3, q5, q7, h.size, kb, hh0, Nat.le_refl _, Nat.ne_of_gt E.lt, q6, by rw [List.map_map]; exact v2⟩, hl, hc, hs⟩
end StrChars.Road
namespace StrChars
open Jvm Sem ClassFile Op Lib Jvm.Stand Jvm.Free.XT Jvm.Free.ALB Jvm.Free.JM Jvm.Free
open Jvm.Lib.Cold (StaticIs)
def hi8 (x : Int32) : Int32 := lo8 (x >>> ((8 : Int32) &&& 31))
/-- what StringUTF16.getChar makes of two bytes -/
def pairCh (u v : Int32) : Int32 := (((u &&& 255) <<< ((0 : Int32) &&& 31)) ||| ((v &&& 255) <<< ((8 : Int32) &&& 31))).toUInt32.toUInt16.toUInt32.toInt32
theorem shr0 (c : Int32) : c >>> ((0 : Int32) &&& 31) = c := by
  have e : ((0 : Int32) &&& 31) = 0 := by decide
  rw [e]
  apply Int32.toBitVec_inj.mp
  rw [Int32.toBitVec_shiftRight]
  have e1 : ((0 : Int32).toBitVec.smod 32) = 0#32 := by decide
  rw [e1, BitVec.sshiftRight_eq']
  exact BitVec.sshiftRight_zero
theorem lo8_and (x : Int32) : (lo8 x &&& 255).toBitVec.toNat = x.toBitVec.toNat % 256 := by
  have h : (lo8 x).toBitVec = (x.toBitVec.signExtend 8).signExtend 32 := by rw [lo8, Int8.toBitVec_toInt32, Int32.toBitVec_toInt8]
  rw [Int32.toBitVec_and, BitVec.toNat_and, h]
  have e : ((x.toBitVec.signExtend 8).signExtend 32).toNat % 256 = x.toBitVec.toNat % 256 := by
    rw [BitVec.toNat_signExtend]
    have hlt := x.toBitVec.isLt
    simp only [BitVec.toNat_setWidth, BitVec.toNat_signExtend]
    split <;> split <;> omega
  rw [← e]
  exact Nat.and_two_pow_sub_one_eq_mod _ 8
theorem pair_says {c : Int32} (h0 : ¬ c < 0) (h1 : ¬ 65535 < c) : pairCh (lo8 c) (hi8 c) = c := by
  rw [Int32.lt_iff_toInt_lt] at h0 h1
  have e0 : (0 : Int32).toInt = 0 := rfl
  have e1 : (65535 : Int32).toInt = 65535 := rfl
  have hc : c.toInt = c.toBitVec.toNat := by
    have := c.toBitVec.isLt
    have e : c.toInt = c.toBitVec.toInt := rfl
    rw [e] at h0 h1
    rw [e]
    rw [BitVec.toInt_eq_toNat_cond] at h0 h1 ⊢
    split at h0 <;> split <;> omega
  have hn : c.toBitVec.toNat < 65536 := by omega
  have a1 := lo8_and c
  have a2 : (hi8 c &&& 255).toBitVec.toNat = c.toBitVec.toNat / 256 := by
    rw [hi8, lo8_and]
    have e : ((8 : Int32) &&& 31) = 8 := by decide
    rw [e, Int32.toBitVec_shiftRight]
    have e2 : ((8 : Int32).toBitVec.smod 32) = 8#32 := by decide
    rw [e2, BitVec.sshiftRight_eq', BitVec.toNat_sshiftRight_of_msb_false (by rw [BitVec.msb_eq_false_iff_two_mul_lt]; omega)]
    show c.toBitVec.toNat >>> 8 % 256 = _
    rw [Nat.shiftRight_eq_div_pow]
    omega
  unfold pairCh
  apply Int32.toBitVec_inj.mp
  apply BitVec.eq_of_toNat_eq
  have f0 : ((0 : Int32) &&& 31) = 0 := by decide
  have f8 : ((8 : Int32) &&& 31) = 8 := by decide
  rw [f0, f8]
  have g : (((lo8 c &&& 255) <<< (0 : Int32)) ||| ((hi8 c &&& 255) <<< (8 : Int32))).toBitVec.toNat = c.toBitVec.toNat := by
    rw [Int32.toBitVec_or, Int32.toBitVec_shiftLeft, Int32.toBitVec_shiftLeft]
    have s0 : ((0 : Int32).toBitVec.smod 32) = 0#32 := by decide
    have s8 : ((8 : Int32).toBitVec.smod 32) = 8#32 := by decide
    rw [s0, s8, BitVec.toNat_or]
    simp only [BitVec.shiftLeft_eq', BitVec.toNat_shiftLeft, a1, a2]
    show (c.toBitVec.toNat % 256) <<< 0 % 2 ^ 32 ||| (c.toBitVec.toNat / 256) <<< 8 % 2 ^ 32 = _
    rw [Nat.shiftLeft_zero, Nat.mod_eq_of_lt (show c.toBitVec.toNat % 256 < 2 ^ 32 by omega), Nat.mod_eq_of_lt (show (c.toBitVec.toNat / 256) <<< 8 < 2 ^ 32 by rw [Nat.shiftLeft_eq]; omega), Nat.or_comm, ← Nat.shiftLeft_add_eq_or_of_lt (by omega), Nat.shiftLeft_eq]
    omega
  show BitVec.toNat (((((lo8 c &&& 255) <<< (0 : Int32)) ||| ((hi8 c &&& 255) <<< (8 : Int32))).toBitVec.setWidth 16).setWidth 32) = _
  rw [BitVec.toNat_setWidth, BitVec.toNat_setWidth, g]
  omega
end StrChars
namespace StrChars
open Jvm Sem ClassFile Op Lib Jvm.Stand Jvm.Free.XT Jvm.Free.ALB Jvm.Free.JM Jvm.Free
open Jvm.Lib.Cold (StaticIs)
theorem shr1 {n : Nat} (h : 2 * n < 2 ^ 31) : Int32.ofNat (2 * n) >>> ((1 : Int32) &&& 31) = Int32.ofNat n := by
  have e : ((1 : Int32) &&& 31) = 1 := by decide
  rw [e]
  apply Int32.toBitVec_inj.mp
  rw [Int32.toBitVec_shiftRight]
  have e1 : ((1 : Int32).toBitVec.smod 32) = 1#32 := by decide
  have hm : (BitVec.ofNat 32 (2 * n)).toNat = 2 * n := by rw [BitVec.toNat_ofNat, Nat.mod_eq_of_lt (by omega)]
  rw [e1, BitVec.sshiftRight_eq']
  apply BitVec.eq_of_toNat_eq
  show ((BitVec.ofNat 32 (2 * n)).sshiftRight 1).toNat = (BitVec.ofNat 32 n).toNat
  rw [BitVec.toNat_sshiftRight_of_msb_false (by rw [BitVec.msb_eq_false_iff_two_mul_lt, hm]; omega), hm, BitVec.toNat_ofNat, Nat.shiftRight_eq_div_pow]
  omega
/-- charAt's cast of a byte read back -/
def chr8 (u : Int32) : Int32 := (u &&& 255).toUInt32.toUInt16.toUInt32.toInt32
theorem chr8_lo8 {c : Int32} (h0 : ¬ c < 0) (h1 : ¬ 255 < c) : chr8 (lo8 c) = c := by
  have t : ∀ k : Fin 256, (Int32.ofNat k.val).toUInt32.toUInt16.toUInt32.toInt32 = Int32.ofNat k.val := by decide +kernel
  unfold chr8
  rw [lo8_mask h0 h1]
  rw [Int32.lt_iff_toInt_lt] at h0 h1
  have e0 : (0 : Int32).toInt = 0 := rfl
  have e1 : (255 : Int32).toInt = 255 := rfl
  obtain ⟨k, hk⟩ : ∃ k : Nat, c.toInt = k := ⟨c.toInt.toNat, by omega⟩
  have hx : c = Int32.ofNat k := Int32.toInt_inj.mp (by rw [hk, Int32.toInt_ofNat_small (by omega)])
  rw [hx]
  exact t ⟨k, by omega⟩
theorem narrow_ch {c : Int32} (h0 : ¬ c < 0) (h1 : ¬ 65535 < c) : narrow .char (.int c) = .int c := by
  have q : narrow .char (.int (pairCh (lo8 c) (hi8 c))) = .int (pairCh (lo8 c) (hi8 c)) := narrow_c _
  rwa [pair_says h0 h1] at q
/-- the array's cell V codes the n chars f 0 .. f (n - 1) by the coder cd, as the JDK does: coder 1 just where some char is above 255 -/
def Cod (cd : Int32) (n : Nat) (f : Nat → Int32) (V : Cell) : Prop := (cd = 0 ∧ V.slots.size = n ∧ ∀ j, j < n → V.slots[j]? = some (.int (lo8 (f j))) ∧ ¬ 255 < f j) ∨ (cd = 1 ∧ V.slots.size = 2 * n ∧ (∀ j, j < n → V.slots[2 * j]? = some (.int (lo8 (f j))) ∧ V.slots[2 * j + 1]? = some (.int (hi8 (f j)))) ∧ ∃ j, j < n ∧ 255 < f j)
theorem Cod.cd {cd : Int32} {n : Nat} {f : Nat → Int32} {V : Cell} (h : Cod cd n f V) : cd = 0 ∨ cd = 1 := h.imp (fun q => q.1) fun q => q.1
theorem Cod.len {cd : Int32} {n : Nat} {f : Nat → Int32} {V : Cell} (h : Cod cd n f V) (hs : V.slots.size < 2 ^ 31) : Int32.ofNat V.slots.size >>> (cd &&& 31) = Int32.ofNat n := by
  rcases h with ⟨rfl, h, -⟩ | ⟨rfl, h, -⟩
  · rw [shr0, h]
  · rw [h, shr1 (by omega)]
/-- **x is a String of the n chars f 0 .. f (n - 1)**, Latin-1 or UTF-16; its array at t has the cell V -/
def Txt (x t : Addr) (V : Cell) (cd : Int32) (n : Nat) (f : Nat → Int32) (U : State) : Prop := Exact "java/lang/String" x U ∧ Has x "java/lang/String" "value" "[B" (.ref t) U ∧ Has x "java/lang/String" "coder" "B" (.int cd) U ∧ XT.Arr .byte t V U ∧ Cod cd n f V ∧ ∀ j, j < n → ¬ f j < 0 ∧ ¬ 65535 < f j
theorem Txt.mv {x t : Addr} {V : Cell} {cd : Int32} {n : Nat} {f : Nat → Int32} {U U' : State} (h : Txt x t V cd n f U) (hal : U.vm.Alike U'.vm) (hh : U'.heap = U.heap) : Txt x t V cd n f U' := ⟨h.1.mv hal hh, h.2.1.mv hal hh, h.2.2.1.mv hal hh, h.2.2.2.1.mv hal hh, h.2.2.2.2⟩
namespace Cdr
def yN : MethodName := ⟨"java/lang/String", "coder", "()B"⟩
abbrev yB : ByteArray := jdk_42_method_152_code
theorem d0 : decode yB 0 = .ok (.getstatic 38, 3) := by decide +kernel
theorem d3 : decode yB 3 = .ok (.ifCond (.eq) 10, 3) := by decide +kernel
theorem d6 : decode yB 6 = .ok (.aload_n 0, 1) := by decide +kernel
theorem d7 : decode yB 7 = .ok (.getfield 15, 3) := by decide +kernel
theorem d10 : decode yB 10 = .ok (.goto 4, 3) := by decide +kernel
theorem d14 : decode yB 14 = .ok (.ireturn, 1) := by decide +kernel
def site : List Cond := [.fieldLink "java/lang/String" 38 "java/lang/String" "COMPACT_STRINGS" "Z", .fieldLink "java/lang/String" 15 "java/lang/String" "coder" "B"]
def tab : Cond := tabOf yN yB 1 (some .byte) site
def P (x : Addr) (cd z : Int32) (args : Array Value) (s : State) : Prop := args = #[.ref x] ∧ Has x "java/lang/String" "coder" "B" (.int cd) s ∧ (cd = 0 ∨ cd = 1) ∧ StaticIs s "java/lang/String" "COMPACT_STRINGS" "Z" (.int z) ∧ ¬ z = 0
def E (cd : Int32) (r : Option Value) (s u : State) : Prop := XT.PureE (some (.int cd)) r s u
theorem law (l : Launch) (x : Addr) (cd z : Int32) : Law l yN 1 0 0 0 yB 1 (some .byte) site (P x cd z) (E cd) [] 0 0 := by
  refine Law.of_walk (plainFor_of_name (by decide +kernel)) (by decide +kernel) (by decide +kernel) (by decide) (fun _ _ h => by rw [h.1]; rfl) (fun _ U U' hal hh h => ⟨h.1, h.2.1.mv hal hh, h.2.2.1, h.2.2.2.1.there hal hh, h.2.2.2.2⟩) (fun r U U' V V' h1 hal h2 h => XT.PureE.mv r U U' V V' h1 hal h2 h) ?_
  intro p e s m args below meth c s₁ X0 hexec hbytes hml hret hlk hnm hown hh0 W hP
  obtain ⟨rfl, hx, hc, s1, hz⟩ := hP
  have c1 : Steps p.tables e below (s₁.setTop (entryFrame m #[.ref x] 1)) (s₁.setTop (mkF m 0 #[.val (.ref x)] [])) := entry rfl
  obtain ⟨T2, X2, q2, st2⟩ := X0.sget hexec hown (wk W (.fieldLink "java/lang/String" 38 "java/lang/String" "COMPACT_STRINGS" "Z")) s1 (fun _ _ h => by rw [hh0]; exact h) (g := (mkF m 0 #[.val (.ref x)] [])) rfl (hb hbytes d0)
  have hh2 := q2.trans hh0
  have c3 : Steps p.tables e below (s₁.setTop (entryFrame m #[.ref x] 1)) (T2.setTop (mkF m 7 #[.val (.ref x)] [.ref x])) := (c1.trans (st2 _ (Steps.refl _))).trans (by
    refine XS.ifNo X2.here hexec rfl (hb hbytes d3) rfl (i0_eq_f hz) ?_
    refine XS.aloadN X2.here hexec rfl (hb hbytes d6) rfl rfl ?_
    exact Steps.refl _)
  obtain ⟨T4, X4, q4, st4⟩ := X2.hget hexec hown (wk W (.fieldLink "java/lang/String" 15 "java/lang/String" "coder" "B")) (hx.mv X2.warmed.alike hh2) (g := (mkF m 7 #[.val (.ref x)] [.ref x])) rfl (rest := []) rfl (hb hbytes d7)
  have c5 : Steps p.tables e below (s₁.setTop (entryFrame m #[.ref x] 1)) (T4.setTop (mkF m 14 #[.val (.ref x)] [.int cd])) := (c3.trans (st4 _ (Steps.refl _))).trans (by
    refine XS.goto X4.here hexec rfl (pc0 := 10) rfl (hb hbytes d10) (by decide) rfl ?_
    exact Steps.refl _)
  exact ⟨T4, some (.int cd), _, _, _, X4, rfl, rfl, rfl, (fun h => by cases h), ⟨rfl, q4.trans hh2⟩, fun fs hl => c5.trans (X4.ireturnOut hexec hret (by rcases hc with rfl | rfl <;> rfl) (Or.inr (Or.inr (Or.inl rfl))) (hb hbytes d14) hl)⟩
end Cdr
namespace Len
def yN : MethodName := ⟨"java/lang/String", "length", "()I"⟩
abbrev yB : ByteArray := jdk_42_method_54_code
theorem d0 : decode yB 0 = .ok (.aload_n 0, 1) := by decide +kernel
theorem d1 : decode yB 1 = .ok (.getfield 9, 3) := by decide +kernel
theorem d4 : decode yB 4 = .ok (.arraylength, 1) := by decide +kernel
theorem d5 : decode yB 5 = .ok (.aload_n 0, 1) := by decide +kernel
theorem d6 : decode yB 6 = .ok (.invokevirtual 335, 3) := by decide +kernel
theorem d9 : decode yB 9 = .ok (.ishr, 1) := by decide +kernel
theorem d10 : decode yB 10 = .ok (.ireturn, 1) := by decide +kernel
def site : List Cond := [.fieldLink "java/lang/String" 9 "java/lang/String" "value" "[B", Cdr.tab] ++ virtW "java/lang/String" 335 "java/lang/String" Cdr.yN Cdr.yN
def tab : Cond := tabOf yN yB 1 (some .int) site
def P (x t : Addr) (V : Cell) (cd : Int32) (n : Nat) (f : Nat → Int32) (z : Int32) (args : Array Value) (s : State) : Prop := args = #[.ref x] ∧ Txt x t V cd n f s ∧ StaticIs s "java/lang/String" "COMPACT_STRINGS" "Z" (.int z) ∧ ¬ z = 0
def E (n : Nat) (r : Option Value) (s u : State) : Prop := XT.PureE (some (.int (Int32.ofNat n))) r s u
/-- length() of a String of n chars, in either coding -/
theorem law (l : Launch) (x t : Addr) (V : Cell) (cd : Int32) (n : Nat) (f : Nat → Int32) (z : Int32) : Law l yN 1 0 1 13 yB 1 (some .int) site (P x t V cd n f z) (E n) [] 0 0 := by
  refine Law.of_walk (plainFor_of_name (by decide +kernel)) (by decide +kernel) (by decide +kernel) (by decide) (fun _ _ h => by rw [h.1]; rfl) (fun _ U U' hal hh h => ⟨h.1, h.2.1.mv hal hh, h.2.2.1.there hal hh, h.2.2.2⟩) (fun r U U' V V' h1 hal h2 h => XT.PureE.mv r U U' V V' h1 hal h2 h) ?_
  intro p e s m args below meth c s₁ X0 hexec hbytes hml hret hlk hnm hown hh0 W hP
  obtain ⟨rfl, hx, s1, hz⟩ := hP
  have v31 := hx.2.2.2.1.2.2.2
  have c1 : Steps p.tables e below (s₁.setTop (entryFrame m #[.ref x] 1)) (s₁.setTop (mkF m 1 #[.val (.ref x)] [.ref x])) := Steps.trans (entry rfl) (by
    show Steps p.tables e below (s₁.setTop (mkF m 0 #[.val (.ref x)] [])) _
    refine XS.aloadN X0.here hexec rfl (hb hbytes d0) rfl rfl ?_
    exact Steps.refl _)
  obtain ⟨T2, X2, q2, st2⟩ := X0.hget hexec hown (wk W (.fieldLink "java/lang/String" 9 "java/lang/String" "value" "[B")) (hx.mv X0.warmed.alike hh0).2.1 (g := (mkF m 1 #[.val (.ref x)] [.ref x])) rfl (rest := []) rfl (hb hbytes d1)
  have hh2 := q2.trans hh0
  have hx2 := hx.mv X2.warmed.alike hh2
  have c3 : Steps p.tables e below (s₁.setTop (entryFrame m #[.ref x] 1)) (T2.setTop (mkF m 6 #[.val (.ref x)] [.ref x, .int (Int32.ofNat V.slots.size)])) := (c1.trans (st2 _ (Steps.refl _))).trans (by
    refine X2.alen hexec hx2.2.2.2.1 rfl rfl (hb hbytes d4) ?_
    refine XS.aloadN X2.here hexec rfl (hb hbytes d5) rfl rfl ?_
    exact Steps.refl _)
  obtain ⟨v4, T4, X4, E4, g4⟩ := X2.callV hexec (Cdr.law l x cd z) hown (wks W (virtW "java/lang/String" 335 "java/lang/String" Cdr.yN Cdr.yN)) rfl (by decide) (wk W Cdr.tab) (W := 1) (Nat.le_of_ble_eq_true rfl) (Nat.le_of_ble_eq_true rfl) (Nat.le_refl _) (Nat.le_refl _) (hx2.1.fc X2.warmed.alike) hx2.1.is (g := (mkF m 6 #[.val (.ref x)] [.ref x, .int (Int32.ofNat V.slots.size)])) rfl (by rw [hml]; rfl) c3 (argsL := []) (rest := [.int (Int32.ofNat V.slots.size)]) rfl rfl (by show 2 * 0 + (1 + 0) ≤ _; decide) (hb hbytes d6) (⟨rfl, hx2.2.2.1, hx.2.2.2.2.1.cd, s1.there X2.warmed.alike hh2, hz⟩)
  obtain ⟨rfl, q4⟩ := E4
  have c5 : Steps p.tables e below (s₁.setTop (entryFrame m #[.ref x] 1)) (T4.setTop (mkF m 10 #[.val (.ref x)] [.int (Int32.ofNat V.slots.size >>> (cd &&& 31))])) := Steps.trans g4 (by
    refine ishr X4.here hexec rfl (hb hbytes d9) rfl ?_
    exact Steps.refl _)
  rw [hx.2.2.2.2.1.len v31] at c5
  exact ⟨T4, some (.int (Int32.ofNat n)), _, _, _, X4, rfl, rfl, rfl, (fun h => by cases h), ⟨rfl, q4.trans hh2⟩, fun fs hl => c5.trans (X4.ireturnOut hexec hret rfl (Or.inl rfl) (hb hbytes d10) hl)⟩
theorem pays {l : Launch} {R : Room} {p : Program} {e : Env} {below : List Frame} {s : State} {sargs : Array Value} {len W : Nat} (x t : Addr) (V : Cell) (cd : Int32) (n : Nat) (f : Nat → Int32) (z : Int32) (htab : tab.before sargs s = true) (hfr : 2 ≤ R.frames) (hlo : W + 25 ≤ R.locals) :
    Back l R p e below s sargs yN len W (fun A₁ a₁ => A₁.cells + 0 ≤ R.cells ∧ A₁.slots + 0 ≤ R.slots ∧ P x t V cd n f z a₁ A₁.U) (fun A₁ _ v₁ B₁ => E n v₁ A₁.U B₁.U ∧ B₁.locs = A₁.locs ++ [] ∧ B₁.cells = A₁.cells + 0 ∧ B₁.slots = A₁.slots + 0) :=
  (law l x t V cd n f z).pays htab hfr (by omega)
end Len
namespace IsL
def yN : MethodName := ⟨"java/lang/String", "isLatin1", "()Z"⟩
abbrev yB : ByteArray := jdk_42_method_154_code
theorem d0 : decode yB 0 = .ok (.getstatic 38, 3) := by decide +kernel
theorem d3 : decode yB 3 = .ok (.ifCond (.eq) 14, 3) := by decide +kernel
theorem d6 : decode yB 6 = .ok (.aload_n 0, 1) := by decide +kernel
theorem d7 : decode yB 7 = .ok (.getfield 15, 3) := by decide +kernel
theorem d10 : decode yB 10 = .ok (.ifCond (.ne) 7, 3) := by decide +kernel
theorem d13 : decode yB 13 = .ok (.iconst 1, 1) := by decide +kernel
theorem d14 : decode yB 14 = .ok (.goto 4, 3) := by decide +kernel
theorem d17 : decode yB 17 = .ok (.iconst 0, 1) := by decide +kernel
theorem d18 : decode yB 18 = .ok (.ireturn, 1) := by decide +kernel
def site : List Cond := [.fieldLink "java/lang/String" 38 "java/lang/String" "COMPACT_STRINGS" "Z", .fieldLink "java/lang/String" 15 "java/lang/String" "coder" "B"]
def tab : Cond := tabOf yN yB 1 (some .boolean) site
def P (x : Addr) (cd z : Int32) (args : Array Value) (s : State) : Prop := args = #[.ref x] ∧ Has x "java/lang/String" "coder" "B" (.int cd) s ∧ (cd = 0 ∨ cd = 1) ∧ StaticIs s "java/lang/String" "COMPACT_STRINGS" "Z" (.int z) ∧ ¬ z = 0
def E (cd : Int32) (r : Option Value) (s u : State) : Prop := XT.PureE (some (.int (1 - cd))) r s u
theorem law (l : Launch) (x : Addr) (cd z : Int32) : Law l yN 1 0 0 0 yB 1 (some .boolean) site (P x cd z) (E cd) [] 0 0 := by
  refine Law.of_walk (plainFor_of_name (by decide +kernel)) (by decide +kernel) (by decide +kernel) (by decide) (fun _ _ h => by rw [h.1]; rfl) (fun _ U U' hal hh h => ⟨h.1, h.2.1.mv hal hh, h.2.2.1, h.2.2.2.1.there hal hh, h.2.2.2.2⟩) (fun r U U' V V' h1 hal h2 h => XT.PureE.mv r U U' V V' h1 hal h2 h) ?_
  intro p e s m args below meth c s₁ X0 hexec hbytes hml hret hlk hnm hown hh0 W hP
  obtain ⟨rfl, hx, hc, s1, hz⟩ := hP
  have c1 : Steps p.tables e below (s₁.setTop (entryFrame m #[.ref x] 1)) (s₁.setTop (mkF m 0 #[.val (.ref x)] [])) := entry rfl
  obtain ⟨T2, X2, q2, st2⟩ := X0.sget hexec hown (wk W (.fieldLink "java/lang/String" 38 "java/lang/String" "COMPACT_STRINGS" "Z")) s1 (fun _ _ h => by rw [hh0]; exact h) (g := (mkF m 0 #[.val (.ref x)] [])) rfl (hb hbytes d0)
  have hh2 := q2.trans hh0
  have c3 : Steps p.tables e below (s₁.setTop (entryFrame m #[.ref x] 1)) (T2.setTop (mkF m 7 #[.val (.ref x)] [.ref x])) := (c1.trans (st2 _ (Steps.refl _))).trans (by
    refine XS.ifNo X2.here hexec rfl (hb hbytes d3) rfl (i0_eq_f hz) ?_
    refine XS.aloadN X2.here hexec rfl (hb hbytes d6) rfl rfl ?_
    exact Steps.refl _)
  obtain ⟨T4, X4, q4, st4⟩ := X2.hget hexec hown (wk W (.fieldLink "java/lang/String" 15 "java/lang/String" "coder" "B")) (hx.mv X2.warmed.alike hh2) (g := (mkF m 7 #[.val (.ref x)] [.ref x])) rfl (rest := []) rfl (hb hbytes d7)
  have c5 : Steps p.tables e below (s₁.setTop (entryFrame m #[.ref x] 1)) (T4.setTop (mkF m 10 #[.val (.ref x)] [.int cd])) := c3.trans (st4 _ (Steps.refl _))
  have c6 : Steps p.tables e below (s₁.setTop (entryFrame m #[.ref x] 1)) (T4.setTop (mkF m 18 #[.val (.ref x)] [.int (1 - cd)])) := by
    rcases hc with rfl | rfl
    · exact c5.trans (by
        refine XS.ifNo X4.here hexec rfl (hb hbytes d10) rfl (i0_ne_f rfl) ?_
        refine iconstV X4.here hexec rfl 1 (hb hbytes d13) (by decide) ?_
        refine XS.goto X4.here hexec rfl (pc0 := 14) rfl (hb hbytes d14) (by decide) rfl ?_
        exact Steps.refl _)
    · exact c5.trans (by
        refine XS.ifYes X4.here hexec rfl (pc0 := 10) rfl (hb hbytes d10) rfl (i0_ne_t (by decide)) (by decide) rfl ?_
        refine iconstV X4.here hexec rfl 0 (hb hbytes d17) (by decide) ?_
        exact Steps.refl _)
  exact ⟨T4, some (.int (1 - cd)), _, _, _, X4, rfl, rfl, rfl, (fun h => by cases h), ⟨rfl, q4.trans hh2⟩, fun fs hl => c6.trans (X4.ireturnOut hexec hret (by rcases hc with rfl | rfl <;> rfl) (Or.inr (Or.inl rfl)) (hb hbytes d18) hl)⟩
end IsL
namespace LChA
def yN : MethodName := ⟨"java/lang/StringLatin1", "charAt", "([BI)C"⟩
abbrev yB : ByteArray := jdk_43_method_2_code
theorem d0 : decode yB 0 = .ok (.iload_n 1, 1) := by decide +kernel
theorem d1 : decode yB 1 = .ok (.aload_n 0, 1) := by decide +kernel
theorem d2 : decode yB 2 = .ok (.arraylength, 1) := by decide +kernel
theorem d3 : decode yB 3 = .ok (.invokestatic 9, 3) := by decide +kernel
theorem d6 : decode yB 6 = .ok (.aload_n 0, 1) := by decide +kernel
theorem d7 : decode yB 7 = .ok (.iload_n 1, 1) := by decide +kernel
theorem d8 : decode yB 8 = .ok (.baload, 1) := by decide +kernel
theorem d9 : decode yB 9 = .ok (.sipush 255, 3) := by decide +kernel
theorem d12 : decode yB 12 = .ok (.iand, 1) := by decide +kernel
theorem d13 : decode yB 13 = .ok (.i2c, 1) := by decide +kernel
theorem d14 : decode yB 14 = .ok (.ireturn, 1) := by decide +kernel
def site : List Cond := [JO.Str_checkIndex.tab] ++ staticW "java/lang/StringLatin1" 9 JO.Str_checkIndex.yN
def tab : Cond := tabOf yN yB 2 (some .char) site
def P (t : Addr) (V : Cell) (i : Nat) (u : Int32) (fm : Value) (args : Array Value) (s : State) : Prop := args = #[.ref t, .int (Int32.ofNat i)] ∧ XT.Arr .byte t V s ∧ V.slots[i]? = some (.int u) ∧ (StaticIs s "jdk/internal/util/Preconditions" "SIOOBE_FORMATTER" "Ljava/util/function/BiFunction;" fm ∧ fm.isRef = true)
def E (u : Int32) (r : Option Value) (s w : State) : Prop := XT.PureE (some (.int (chr8 u))) r s w
theorem law (l : Launch) (t : Addr) (V : Cell) (i : Nat) (u : Int32) (fm : Value) : Law l yN 2 2 2 27 yB 2 (some .char) site (P t V i u fm) (E u) [] 0 0 := by
  refine Law.of_walk (plainFor_of_name (by decide +kernel)) (by decide +kernel) (by decide +kernel) (by decide) (fun _ _ h => by rw [h.1]; rfl) (fun _ U U' hal hh h => ⟨h.1, h.2.1.mv hal hh, h.2.2.1, h.2.2.2.1.there hal hh, h.2.2.2.2⟩) (fun r U U' V V' h1 hal h2 h => XT.PureE.mv r U U' V V' h1 hal h2 h) ?_
  intro p e s m args below meth c s₁ X0 hexec hbytes hml hret hlk hnm hown hh0 W hP
  obtain ⟨rfl, hV, hu, s1, rf⟩ := hP
  have v31 := hV.2.2.2
  have hi : i < V.slots.size := (Array.getElem?_eq_some_iff.mp hu).1
  have c1 : Steps p.tables e below (s₁.setTop (entryFrame m #[.ref t, .int (Int32.ofNat i)] 2)) (s₁.setTop (mkF m 0 #[.val (.ref t), .val (.int (Int32.ofNat i))] [])) := entry rfl
  have c2 : Steps p.tables e below (s₁.setTop (entryFrame m #[.ref t, .int (Int32.ofNat i)] 2)) (s₁.setTop (mkF m 3 #[.val (.ref t), .val (.int (Int32.ofNat i))] [.int (Int32.ofNat V.slots.size), .int (Int32.ofNat i)])) := c1.trans (by
    refine XS.iloadN X0.here hexec rfl (hb hbytes d0) rfl ?_
    refine XS.aloadN X0.here hexec rfl (hb hbytes d1) rfl rfl ?_
    refine X0.alen hexec (hV.mv X0.warmed.alike hh0) rfl rfl (hb hbytes d2) ?_
    exact Steps.refl _)
  obtain ⟨v3, T3, X3, E3, g3⟩ := X0.callS hexec (JO.Str_checkIndex.law l (Int32.ofNat i) (Int32.ofNat V.slots.size) fm) hown (wks W (staticW "java/lang/StringLatin1" 9 JO.Str_checkIndex.yN)) (wk W JO.Str_checkIndex.tab) (W := 0) (Nat.le_of_ble_eq_true rfl) (Nat.le_of_ble_eq_true rfl) (Nat.le_refl _) (Nat.le_refl _) (g := (mkF m 3 #[.val (.ref t), .val (.int (Int32.ofNat i))] [.int (Int32.ofNat V.slots.size), .int (Int32.ofNat i)])) rfl (by rw [hml]; rfl) c2 (argsL := [.int (Int32.ofNat i), .int (Int32.ofNat V.slots.size)]) (rest := []) rfl rfl (by show 2 * 0 + 0 ≤ _; decide) (hb hbytes d3) (⟨rfl, rf, s1.there X0.warmed.alike hh0, Int32.ofNat_not_neg (by omega), lt32 v31 hi⟩)
  obtain ⟨rfl, q3⟩ := E3
  have hh3 := q3.trans hh0
  have c4 : Steps p.tables e below (s₁.setTop (entryFrame m #[.ref t, .int (Int32.ofNat i)] 2)) (T3.setTop (mkF m 14 #[.val (.ref t), .val (.int (Int32.ofNat i))] [.int (chr8 u)])) := Steps.trans g3 (by
    refine XS.aloadN X3.here hexec rfl (hb hbytes d6) rfl rfl ?_
    refine XS.iloadN X3.here hexec rfl (hb hbytes d7) rfl ?_
    refine X3.aget hexec (hV.mv X3.warmed.alike hh3) rfl hu rfl rfl (hb hbytes d8) ?_
    refine sipushV X3.here hexec rfl 255 (hb hbytes d9) (by decide) ?_
    refine XS.iand X3.here hexec rfl (hb hbytes d12) rfl ?_
    refine i2c X3.here hexec rfl (hb hbytes d13) rfl ?_
    exact Steps.refl _)
  exact ⟨T3, some (.int (chr8 u)), _, _, _, X3, rfl, rfl, rfl, (fun h => by cases h), ⟨rfl, hh3⟩, fun fs hl => c4.trans (X3.ireturnOut hexec hret (narrow_c _) (Or.inr (Or.inr (Or.inr (Or.inl rfl)))) (hb hbytes d14) hl)⟩
end LChA
end StrChars
namespace StrChars.Road
open Jvm Sem ClassFile Op Lib Jvm.Stand Jvm.Free Jvm.Free.XT
open Jvm.Lib.Cold (StaticIs)
theorem consq {a : Array Value} {s : State} {c : Jvm.Cond} {L : List Jvm.Cond} (h0 : c.before a s = true) (h : ∀ w ∈ L, w.before a s = true) : ∀ w ∈ c :: L, w.before a s = true := fun w hw => (List.mem_cons.mp hw).elim (fun e => e ▸ h0) (h w)
/-- the words of String.length(), either coding -/
abbrev wordsLen : List Jvm.Cond := [.code Len.yN Len.yB 1 (some .int), .initialized ST, .fieldLink ST 9 ST "value" "[B", .fieldLink ST 38 ST "COMPACT_STRINGS" "Z", .fieldLink ST 15 ST "coder" "B", .code Cdr.yN Cdr.yB 1 (some .byte), .methodLink ST 335 Cdr.yN, .declares Cdr.yN, .selects ST Cdr.yN Cdr.yN, .instanceMethod Cdr.yN]
theorem tabLen_of {a : Array Value} {s : State} (h : ∀ w ∈ wordsLen, w.before a s = true) : Len.tab.before a s = true := by
  have hc : Cdr.tab.before a s = true := unparts (wk h (.code Cdr.yN Cdr.yB 1 (some .byte))) (wks h (.initialized Cdr.yN.cls :: Cdr.site))
  have q := consq hc h
  exact unparts (wk q (.code Len.yN Len.yB 1 (some .int))) (wks q (.initialized Len.yN.cls :: Len.site))
theorem movedLen {Z s : State} {a0 args : Array Value} (hZ : Z.Warmed39 s.vm) (hw : ∀ d ∈ wordsLen, d.before a0 Z = true) : ∀ d ∈ wordsLen, d.before args s = true := fun d hd => by
  have q := hw d hd
  have t : ∀ d ∈ wordsLen, d = .arrayClass .byte ∨ (d.onTables && d.keepsFace) = true := by decide +kernel
  rcases t d hd with rfl | t
  · exact RoadKit.mvA hZ q
  · exact RoadKit.mv hZ q t
/-- the bytes of the chars cs, low before high -/
def wideBytes : List Int32 → List Value
  | [] => []
  | c :: cs => .int (lo8 c) :: .int (hi8 c) :: wideBytes cs
theorem wide_lo (d : Value) : ∀ (cs : List Int32) (j : Nat), j < cs.length → (wideBytes cs).getD (2 * j) d = .int (lo8 (cs.getD j 0))
  | [], j, h => absurd h (Nat.not_lt_zero j)
  | c :: cs, 0, _ => rfl
  | c :: cs, j + 1, h => by
    have q := wide_lo d cs j (by simpa using h)
    rw [show 2 * (j + 1) = 2 * j + 1 + 1 from by omega]
    simpa [wideBytes] using q
theorem wide_hi (d : Value) : ∀ (cs : List Int32) (j : Nat), j < cs.length → (wideBytes cs).getD (2 * j + 1) d = .int (hi8 (cs.getD j 0))
  | [], j, h => absurd h (Nat.not_lt_zero j)
  | c :: cs, 0, _ => rfl
  | c :: cs, j + 1, h => by
    have q := wide_hi d cs j (by simpa using h)
    rw [show 2 * (j + 1) + 1 = 2 * j + 1 + 1 + 1 from by omega]
    simpa [wideBytes] using q
theorem low_at (d : Value) (cs : List Int32) (j : Nat) (h : j < cs.length) : (cs.map fun c => Value.int (lo8 c)).getD j d = .int (lo8 (cs.getD j 0)) := by
  simp [List.getD_eq_getElem?_getD, h]
/-- an array of N2 bytes vs codes the chars cs by the coder cd -/
def CodA (cs : List Int32) (cd N2 : Int32) (vs : List Value) : Prop := (cd = 0 ∧ N2 = Int32.ofNat cs.length ∧ vs = (cs.map fun c => Value.int (lo8 c)) ∧ ∀ c ∈ cs, ¬ 255 < c) ∨ (cd = 1 ∧ N2 = Int32.ofNat (2 * cs.length) ∧ vs = wideBytes cs ∧ ∃ c ∈ cs, 255 < c)
theorem CodA.cod {cs : List Int32} {cd N2 : Int32} {vs : List Value} {V : Cell} (h : CodA cs cd N2 vs) (hn : 2 * cs.length < 2 ^ 31) (hs : V.slots.size = N2.toNatClampNeg) (hv : RoadKit.Has V vs (.int 0)) : Cod cd cs.length (fun j => cs.getD j 0) V := by
  rcases h with ⟨rfl, rfl, rfl, h⟩ | ⟨rfl, rfl, rfl, c, hc, hw⟩
  · rw [n32 (by omega)] at hs
    exact Or.inl ⟨rfl, hs, fun j hj => ⟨by rw [hv j (by omega), low_at _ _ _ hj], by
      have e : cs.getD j 0 = cs[j] := by simp [List.getD_eq_getElem?_getD, hj]
      show ¬ 255 < cs.getD j 0
      rw [e]; exact h _ (List.getElem_mem _)⟩⟩
  · rw [n32 (by omega)] at hs
    obtain ⟨j, hj, rfl⟩ := List.getElem_of_mem hc
    exact Or.inr ⟨rfl, hs, fun j hj => ⟨by rw [hv _ (by omega), wide_lo _ _ _ hj], by rw [hv _ (by omega), wide_hi _ _ _ hj]⟩, j, hj, by
      have e : cs.getD j 0 = cs[j] := by simp [List.getD_eq_getElem?_getD, hj]
      show 255 < cs.getD j 0
      rw [e]; exact hw⟩
/-- an object of exactly java/lang/String, its two fields found: as the laws ask it -/
theorem strObj {Z U : State} {a0 : Array Value} {kI : Nat} (wi : (Jvm.Cond.instantiable ST kI).before a0 Z = true) (al : Z.vm.Alike U.vm) {x : Addr} {v0 c0 : Value} (E : RoadKit.Exa Z U.heap x ST) (V : RoadKit.Fld Z U.heap x ST "value" "[B" v0) (C : RoadKit.Fld Z U.heap x ST "coder" "B" c0) :
    ∃ (D : Cell) (fV fC : Field), Blank ST x D U ∧ Found ST "value" "[B" fV U ∧ Found ST "coder" "B" fC U ∧ D.slots[fV.slot]? = some v0 ∧ D.slots[fC.slot]? = some c0 ∧ RoadKit.slotOf Z ST "value" "[B" = fV.slot ∧ RoadKit.slotOf Z ST "coder" "B" = fC.slot := by
  obtain ⟨D, cfV, kV, iV, fV, hD, gV, stV, knV, obV, asV, slV⟩ := V
  obtain ⟨D', cfC, kC, iC, fC, hD', gC, stC, -, -, asC, slC⟩ := C
  cases hD.symm.trans hD'
  obtain ⟨D2, kD, e1, e2, e3, e4, e5⟩ := E
  cases hD.symm.trans e1
  obtain ⟨c2, k2, i1, i2, i3, -⟩ := Cond.instantiable_spec wi
  cases e2.symm.trans i1
  cases e3.symm.trans i2
  obtain ⟨kU, u1, u2⟩ := al.2.2 _ _ e3
  exact ⟨D, fV, fC, ⟨hD, ⟨knV, fun q hq => by rw [hq] at obV; cases obV⟩, by rw [al.findClass]; exact e2, kU, u1, by rw [u2]; exact i3, by rw [u2]; exact e5 i3⟩, ⟨SBG.found_only al ⟨cfV, kV, iV, gV⟩, stV⟩, ⟨SBG.found_only al ⟨cfC, kC, iC, gC⟩, stC⟩, slV, slC, by simp [RoadKit.slotOf, gV], by simp [RoadKit.slotOf, gC]⟩
theorem sta_is {Z U : State} (al : Z.vm.Alike U.vm) {C n d : String} {v : Value} (S : RoadKit.Sta Z U.heap C n d v) : StaticIs U C n d v := by
  obtain ⟨cfS, iS, kS, fS, st, cS, t1, t2, t3, t4, t5, t6, t7⟩ := S
  exact StaticIs.there (s := { Z with heap := U.heap }) ⟨cfS, iS, kS, fS, st, cS, t1, t2, t3, t4, t5, (fun q => by rw [q] at t6; cases t6), t7⟩ al rfl
/-- **length() OF SUCH A STRING** -/
theorem lenW {p : Program} {l : Launch} {e : Env} {R : Room} {s : State} {args : Array Value} {below : List Frame} {len W : Nat} {Z : State} {a0 : Array Value} {h : Heap} (hZ : Z.Warmed39 s.vm) (hw : ∀ d ∈ wordsLen, d.before a0 Z = true) {kI : Nat} (wi : (Jvm.Cond.instantiable ST kI).before a0 Z = true)
    {x t : Addr} {kb : ClassId} {cs : List Int32} {cd N2 z : Int32} {vs : List Value} (E : RoadKit.Exa Z h x ST) (V : RoadKit.Fld Z h x ST "value" "[B" (.ref t)) (C : RoadKit.Fld Z h x ST "coder" "B" (.int cd)) (K : RoadKit.Arv Z h t kb .byte N2 vs (.int 0)) (hc : CodA cs cd N2 vs) (hb : ∀ c ∈ cs, ¬ c < 0 ∧ ¬ (65535 : Int32) < c)
    (S : RoadKit.Sta Z h ST "COMPACT_STRINGS" "Z" (.int z)) (hz : ¬ z = 0) (l2 : cs.length ≤ 4000) (hfr : 2 ≤ R.frames) (hlo : W + 25 ≤ R.locals) :
    Back l R p e below s args (⟨"java/lang/String", "length", "()I"⟩ : MethodName) len W (fun P a => a = #[.ref x] ∧ P.U.heap = h ∧ P.cells + 0 ≤ R.cells ∧ P.slots + 0 ≤ R.slots)
      (fun P _ v B => ∃ L, (v = some (.int (Int32.ofNat cs.length)) ∧ L = [] ∧ B.U.heap = h) ∧ B.locs = P.locs ++ L ∧ B.cells = P.cells + 0 ∧ B.slots = P.slots + 0) := by
  obtain ⟨A, K1, K2, K3, K4, K5, K6⟩ := K
  have hcod := hc.cod (by omega) K3 K5
  intro m meth c P g ig mk a X hg hsize hdg hW hn hp'
  obtain ⟨rfl, rfl, r1, r2⟩ := hp'
  have al : Z.vm.Alike P.U.vm := hZ.alike.trans X.warmed.alike
  obtain ⟨D, fV, fC, hB, F1, F2, g1, g2, -, -⟩ := strObj wi al E V C
  have hx : Txt x t A cd cs.length (fun j => cs.getD j 0) P.U := ⟨⟨_, hB.2.2.1, D, hB.1, rfl, by cases q : D.vm <;> first | rfl | exact absurd q (hB.2.1.2 _)⟩, Has.of hB F1 g1, Has.of hB F2 g2, ⟨K1.1, State.isArrayOf_alike al K1.2.1, K1.2.2, by rcases hcod with ⟨-, q, -⟩ | ⟨-, q, -⟩ <;> omega⟩, hcod, fun j hj => by
    have e : cs.getD j 0 = cs[j] := by simp [List.getD_eq_getElem?_getD, hj]
    show ¬ cs.getD j 0 < 0 ∧ ¬ 65535 < cs.getD j 0
    rw [e]; exact hb _ (List.getElem_mem _)⟩
  obtain ⟨v, B, X', ⟨⟨hv, hh⟩, hl, hk, hs⟩, st⟩ := Len.pays x t A cd cs.length (fun j => cs.getD j 0) z (tabLen_of (movedLen hZ hw)) hfr hlo m meth c P g ig mk _ X hg hsize hdg hW hn ⟨r1, r2, rfl, hx, sta_is al S, hz⟩
  exact ⟨v, B, X', ⟨[], ⟨hv, rfl, hh⟩, hl, hk, hs⟩, st⟩
end StrChars.Road
namespace StrChars.Road
open Jvm Sem ClassFile Op Lib Jvm.Stand Jvm.Free Jvm.Free.XT
open Jvm.Lib.Cold (StaticIs)
/-- the road's facts of a String, as the laws ask it -/
theorem txt_of {Z U : State} {a0 : Array Value} {kI : Nat} (wi : (Jvm.Cond.instantiable ST kI).before a0 Z = true) (al : Z.vm.Alike U.vm) {x t : Addr} {kb : ClassId} {cs : List Int32} {cd N2 : Int32} {vs : List Value} (E : RoadKit.Exa Z U.heap x ST) (V : RoadKit.Fld Z U.heap x ST "value" "[B" (.ref t)) (C : RoadKit.Fld Z U.heap x ST "coder" "B" (.int cd)) (K : RoadKit.Arv Z U.heap t kb .byte N2 vs (.int 0)) (hc : CodA cs cd N2 vs) (hb : ∀ c ∈ cs, ¬ c < 0 ∧ ¬ (65535 : Int32) < c) (l2 : cs.length ≤ 4000) :
    ∃ A, Txt x t A cd cs.length (fun j => cs.getD j 0) U := by
  obtain ⟨A, K1, K2, K3, K4, K5, K6⟩ := K
  have hcod := hc.cod (by omega) K3 K5
  obtain ⟨D, fV, fC, hB, F1, F2, g1, g2, -, -⟩ := strObj wi al E V C
  exact ⟨A, ⟨_, hB.2.2.1, D, hB.1, rfl, by cases q : D.vm <;> first | rfl | exact absurd q (hB.2.1.2 _)⟩, Has.of hB F1 g1, Has.of hB F2 g2, ⟨K1.1, State.isArrayOf_alike al K1.2.1, K1.2.2, by rcases hcod with ⟨-, q, -⟩ | ⟨-, q, -⟩ <;> omega⟩, hcod, fun j hj => by
    have e : cs.getD j 0 = cs[j] := by simp [List.getD_eq_getElem?_getD, hj]
    show ¬ cs.getD j 0 < 0 ∧ ¬ 65535 < cs.getD j 0
    rw [e]; exact hb _ (List.getElem_mem _)⟩
end StrChars.Road
namespace StrChars
open Jvm Sem ClassFile Op Lib Jvm.Stand Jvm.Free.XT Jvm.Free.ALB Jvm.Free.JM Jvm.Free
open Jvm.Lib.Cold (StaticIs)
namespace ChN
def yN : MethodName := ⟨"java/lang/String", "charAt", "(I)C"⟩
abbrev yB : ByteArray := jdk_42_method_56_code
theorem d0 : decode yB 0 = .ok (.aload_n 0, 1) := by decide +kernel
theorem d1 : decode yB 1 = .ok (.invokevirtual 492, 3) := by decide +kernel
theorem d4 : decode yB 4 = .ok (.ifCond (.eq) 12, 3) := by decide +kernel
theorem d7 : decode yB 7 = .ok (.aload_n 0, 1) := by decide +kernel
theorem d8 : decode yB 8 = .ok (.getfield 9, 3) := by decide +kernel
theorem d11 : decode yB 11 = .ok (.iload_n 1, 1) := by decide +kernel
theorem d12 : decode yB 12 = .ok (.invokestatic 495, 3) := by decide +kernel
theorem d15 : decode yB 15 = .ok (.ireturn, 1) := by decide +kernel
def site : List Cond := [.fieldLink "java/lang/String" 9 "java/lang/String" "value" "[B", IsL.tab, LChA.tab] ++ virtW "java/lang/String" 492 "java/lang/String" IsL.yN IsL.yN ++ staticW "java/lang/String" 495 LChA.yN
def tab : Cond := tabOf yN yB 2 (some .char) site
def P (x t : Addr) (V : Cell) (n : Nat) (f : Nat → Int32) (z : Int32) (fm : Value) (i : Nat) (args : Array Value) (s : State) : Prop := args = #[.ref x, .int (Int32.ofNat i)] ∧ Txt x t V 0 n f s ∧ i < n ∧ StaticIs s "java/lang/String" "COMPACT_STRINGS" "Z" (.int z) ∧ ¬ z = 0 ∧ StaticIs s "jdk/internal/util/Preconditions" "SIOOBE_FORMATTER" "Ljava/util/function/BiFunction;" fm ∧ fm.isRef = true
def E (f : Nat → Int32) (i : Nat) (r : Option Value) (s u : State) : Prop := XT.PureE (some (.int (f i))) r s u
/-- charAt(i) of a Latin-1 String of n chars, i < n: f i -/
theorem law (l : Launch) (x t : Addr) (V : Cell) (n : Nat) (f : Nat → Int32) (z : Int32) (fm : Value) (i : Nat) : Law l yN 2 1 3 40 yB 2 (some .char) site (P x t V n f z fm i) (E f i) [] 0 0 := by
  refine Law.of_walk (plainFor_of_name (by decide +kernel)) (by decide +kernel) (by decide +kernel) (by decide) (fun _ _ h => by rw [h.1]; rfl) (fun _ U U' hal hh h => ⟨h.1, h.2.1.mv hal hh, h.2.2.1, h.2.2.2.1.there hal hh, h.2.2.2.2.1, h.2.2.2.2.2.1.there hal hh, h.2.2.2.2.2.2⟩) (fun r U U' V V' h1 hal h2 h => XT.PureE.mv r U U' V V' h1 hal h2 h) ?_
  intro p e s m args below meth c s₁ X0 hexec hbytes hml hret hlk hnm hown hh0 W hP
  obtain ⟨rfl, hx, hi, s1, hz, s3, rf⟩ := hP
  have v31 := hx.2.2.2.1.2.2.2
  have hr := hx.2.2.2.2.2 i hi
  have hx0 := hx.mv X0.warmed.alike hh0
  have c1 : Steps p.tables e below (s₁.setTop (entryFrame m #[.ref x, .int (Int32.ofNat i)] 2)) (s₁.setTop (mkF m 1 #[.val (.ref x), .val (.int (Int32.ofNat i))] [.ref x])) := Steps.trans (entry rfl) (by
    show Steps p.tables e below (s₁.setTop (mkF m 0 #[.val (.ref x), .val (.int (Int32.ofNat i))] [])) _
    refine XS.aloadN X0.here hexec rfl (hb hbytes d0) rfl rfl ?_
    exact Steps.refl _)
  obtain ⟨v2, T2, X2, E2, g2⟩ := X0.callV hexec (IsL.law l x 0 z) hown (wks W (virtW "java/lang/String" 492 "java/lang/String" IsL.yN IsL.yN)) rfl (by decide) (wk W IsL.tab) (W := 0) (Nat.le_of_ble_eq_true rfl) (Nat.le_of_ble_eq_true rfl) (Nat.le_refl _) (Nat.le_refl _) (hx0.1.fc X0.warmed.alike) hx0.1.is (g := (mkF m 1 #[.val (.ref x), .val (.int (Int32.ofNat i))] [.ref x])) rfl (by rw [hml]; rfl) c1 (argsL := []) (rest := []) rfl rfl (by show 2 * 0 + 0 ≤ _; decide) (hb hbytes d1) (⟨rfl, hx0.2.2.1, hx.2.2.2.2.1.cd, s1.there X0.warmed.alike hh0, hz⟩)
  obtain ⟨rfl, q2⟩ := E2
  have hh2 := q2.trans hh0
  have hx2 := hx.mv X2.warmed.alike hh2
  obtain ⟨-, k1, k2⟩ | ⟨k0, -⟩ := hx.2.2.2.2.1
  · have c3 : Steps p.tables e below (s₁.setTop (entryFrame m #[.ref x, .int (Int32.ofNat i)] 2)) (T2.setTop (mkF m 8 #[.val (.ref x), .val (.int (Int32.ofNat i))] [.ref x])) := Steps.trans g2 (by
      refine XS.ifNo X2.here hexec rfl (hb hbytes d4) rfl (i0_eq_f (by decide)) ?_
      refine XS.aloadN X2.here hexec rfl (hb hbytes d7) rfl rfl ?_
      exact Steps.refl _)
    obtain ⟨T4, X4, q4, st4⟩ := X2.hget hexec hown (wk W (.fieldLink "java/lang/String" 9 "java/lang/String" "value" "[B")) hx2.2.1 (g := (mkF m 8 #[.val (.ref x), .val (.int (Int32.ofNat i))] [.ref x])) rfl (rest := []) rfl (hb hbytes d8)
    have hh4 := q4.trans hh2
    have c5 : Steps p.tables e below (s₁.setTop (entryFrame m #[.ref x, .int (Int32.ofNat i)] 2)) (T4.setTop (mkF m 12 #[.val (.ref x), .val (.int (Int32.ofNat i))] [.int (Int32.ofNat i), .ref t])) := (c3.trans (st4 _ (Steps.refl _))).trans (by
      refine XS.iloadN X4.here hexec rfl (hb hbytes d11) rfl ?_
      exact Steps.refl _)
    obtain ⟨v6, T6, X6, E6, g6⟩ := X4.callS hexec (LChA.law l t V i (lo8 (f i)) fm) hown (wks W (staticW "java/lang/String" 495 LChA.yN)) (wk W LChA.tab) (W := 0) (Nat.le_of_ble_eq_true rfl) (Nat.le_of_ble_eq_true rfl) (Nat.le_refl _) (Nat.le_refl _) (g := (mkF m 12 #[.val (.ref x), .val (.int (Int32.ofNat i))] [.int (Int32.ofNat i), .ref t])) rfl (by rw [hml]; rfl) c5 (argsL := [.ref t, .int (Int32.ofNat i)]) (rest := []) rfl rfl (by show 2 * 0 + 0 ≤ _; decide) (hb hbytes d12) (⟨rfl, hx.2.2.2.1.mv X4.warmed.alike hh4, (k2 i hi).1, s3.there X4.warmed.alike hh4, rf⟩)
    obtain ⟨rfl, q6⟩ := E6
    rw [chr8_lo8 hr.1 (k2 i hi).2] at g6
    exact ⟨T6, some (.int (f i)), _, _, _, X6, rfl, rfl, rfl, (fun h => by cases h), ⟨rfl, q6.trans hh4⟩, fun fs hl => Steps.trans g6 (X6.ireturnOut hexec hret (narrow_ch hr.1 hr.2) (Or.inr (Or.inr (Or.inr (Or.inl rfl)))) (hb hbytes d15) hl)⟩
  · exact absurd k0 (by decide)
theorem pays {l : Launch} {R : Room} {p : Program} {e : Env} {below : List Frame} {s : State} {sargs : Array Value} {len W : Nat} (x t : Addr) (V : Cell) (n : Nat) (f : Nat → Int32) (z : Int32) (fm : Value) (i : Nat) (htab : tab.before sargs s = true) (hfr : 4 ≤ R.frames) (hlo : W + 53 ≤ R.locals) :
    Back l R p e below s sargs yN len W (fun A₁ a₁ => A₁.cells + 0 ≤ R.cells ∧ A₁.slots + 0 ≤ R.slots ∧ P x t V n f z fm i a₁ A₁.U) (fun A₁ _ v₁ B₁ => E f i v₁ A₁.U B₁.U ∧ B₁.locs = A₁.locs ++ [] ∧ B₁.cells = A₁.cells + 0 ∧ B₁.slots = A₁.slots + 0) :=
  (law l x t V n f z fm i).pays htab hfr (by omega)
end ChN
end StrChars
namespace StrChars.Road
open Jvm Sem ClassFile Op Lib Jvm.Stand Jvm.Free Jvm.Free.XT
open Jvm.Lib.Cold (StaticIs)
/-- the words of String.charAt(int), the Latin-1 road alone -/
abbrev wordsChN : List Jvm.Cond := [.code ChN.yN ChN.yB 2 (some .char), .initialized ST, .fieldLink ST 9 ST "value" "[B", .fieldLink ST 38 ST "COMPACT_STRINGS" "Z", .fieldLink ST 15 ST "coder" "B", .code IsL.yN IsL.yB 1 (some .boolean), .methodLink ST 492 IsL.yN, .declares IsL.yN, .selects ST IsL.yN IsL.yN, .instanceMethod IsL.yN,
  .methodLink ST 495 LChA.yN, .static LChA.yN, .code LChA.yN LChA.yB 2 (some .char), .initialized "java/lang/StringLatin1", .methodLink "java/lang/StringLatin1" 9 JO.Str_checkIndex.yN, .static JO.Str_checkIndex.yN, .code JO.Str_checkIndex.yN JO.Str_checkIndex.yB 2 none,
  .fieldLink ST 1053 "jdk/internal/util/Preconditions" "SIOOBE_FORMATTER" "Ljava/util/function/BiFunction;", .methodLink ST 1059 JC.PreCheck.yN, .static JC.PreCheck.yN, .code JC.PreCheck.yN JC.PreCheck.yB 3 (some .int), .initialized "jdk/internal/util/Preconditions"]
theorem tabChN_of {a : Array Value} {s : State} (h : ∀ w ∈ wordsChN, w.before a s = true) : ChN.tab.before a s = true := by
  have hp : JC.PreCheck.tab.before a s = true := unparts (wk h (.code JC.PreCheck.yN JC.PreCheck.yB 3 (some .int))) (wks h (.initialized JC.PreCheck.yN.cls :: JC.PreCheck.site))
  have qk := consq hp h
  have hk : JO.Str_checkIndex.tab.before a s = true := unparts (wk qk (.code JO.Str_checkIndex.yN JO.Str_checkIndex.yB 2 none)) (wks qk (.initialized JO.Str_checkIndex.yN.cls :: JO.Str_checkIndex.site))
  have ql := consq hk h
  have hl : LChA.tab.before a s = true := unparts (wk ql (.code LChA.yN LChA.yB 2 (some .char))) (wks ql (.initialized LChA.yN.cls :: LChA.site))
  have hi : IsL.tab.before a s = true := unparts (wk h (.code IsL.yN IsL.yB 1 (some .boolean))) (wks h (.initialized IsL.yN.cls :: IsL.site))
  have q := consq hi (consq hl h)
  exact unparts (wk q (.code ChN.yN ChN.yB 2 (some .char))) (wks q (.initialized ChN.yN.cls :: ChN.site))
theorem movedChN {Z s : State} {a0 args : Array Value} (hZ : Z.Warmed39 s.vm) (hw : ∀ d ∈ wordsChN, d.before a0 Z = true) : ∀ d ∈ wordsChN, d.before args s = true := fun d hd => by
  have t : ∀ d ∈ wordsChN, (d.onTables && d.keepsFace) = true := by decide +kernel
  exact RoadKit.mv hZ (hw d hd) (t d hd)
/-- **charAt(i) OF A LATIN-1 STRING**, i < n: the char -/
theorem chN {p : Program} {l : Launch} {e : Env} {R : Room} {s : State} {args : Array Value} {below : List Frame} {len W : Nat} {Z : State} {a0 : Array Value} {h : Heap} (hZ : Z.Warmed39 s.vm) (hw : ∀ d ∈ wordsChN, d.before a0 Z = true) {kI : Nat} (wi : (Jvm.Cond.instantiable ST kI).before a0 Z = true)
    {x t : Addr} {kb : ClassId} {cs : List Int32} {N2 z : Int32} {vs : List Value} {fm : Value} {i : Nat} {j : Int32} (E : RoadKit.Exa Z h x ST) (V : RoadKit.Fld Z h x ST "value" "[B" (.ref t)) (C : RoadKit.Fld Z h x ST "coder" "B" (.int 0)) (K : RoadKit.Arv Z h t kb .byte N2 vs (.int 0)) (hc : CodA cs 0 N2 vs) (hb : ∀ c ∈ cs, ¬ c < 0 ∧ ¬ (65535 : Int32) < c)
    (S : RoadKit.Sta Z h ST "COMPACT_STRINGS" "Z" (.int z)) (hz : ¬ z = 0) (F : RoadKit.Sta Z h "jdk/internal/util/Preconditions" "SIOOBE_FORMATTER" "Ljava/util/function/BiFunction;" fm) (rf : fm.isRef = true) (l2 : cs.length ≤ 4000) (hi : i < cs.length) (hj : j = Int32.ofNat i) (hfr : 4 ≤ R.frames) (hlo : W + 53 ≤ R.locals) :
    Back l R p e below s args (⟨"java/lang/String", "charAt", "(I)C"⟩ : MethodName) len W (fun P a => a = #[.ref x, .int j] ∧ P.U.heap = h ∧ P.cells + 0 ≤ R.cells ∧ P.slots + 0 ≤ R.slots)
      (fun P _ v B => ∃ L, (v = some (.int (cs.getD i 0)) ∧ L = [] ∧ B.U.heap = h) ∧ B.locs = P.locs ++ L ∧ B.cells = P.cells + 0 ∧ B.slots = P.slots + 0) := by
  subst hj
  intro m meth c P g ig mk a X hg hsize hdg hW hn hp'
  obtain ⟨rfl, rfl, r1, r2⟩ := hp'
  have al : Z.vm.Alike P.U.vm := hZ.alike.trans X.warmed.alike
  obtain ⟨A, hx⟩ := txt_of wi al E V C K hc hb l2
  obtain ⟨v, B, X', ⟨⟨hv, hh⟩, hl, hk, hs⟩, st⟩ := ChN.pays x t A cs.length (fun j => cs.getD j 0) z fm i (tabChN_of (movedChN hZ hw)) hfr hlo m meth c P g ig mk _ X hg hsize hdg hW hn ⟨r1, r2, rfl, hx, hi, sta_is al S, hz, sta_is al F, rf⟩
  exact ⟨v, B, X', ⟨[], ⟨hv, rfl, hh⟩, hl, hk, hs⟩, st⟩
/-- what backV says of its String, as the contracts of this text ask it: cs's low bytes, coder 0 -/
theorem codOf {cs : List Int32} {n : Nat} (hn : cs.length = n) (hb : ∀ c ∈ cs, ¬ 255 < c) : CodA cs 0 (Int32.ofNat n) ((cs.map lo8).map Value.int) := Or.inl ⟨rfl, by rw [hn], by simp [List.map_map, Function.comp_def], hb⟩
end StrChars.Road
end Jvm.Pilot.@@N@@
namespace Jvm.Pilot.@@N@@
open Jvm Jvm.ClassFile Sem Op Lib Jvm.Free Jvm.Stand Jvm.LawKit Jvm.RoadKit Bundle Jvm.Pilot.@@N@@.Jvm.D
theorem hI {a0 : Array Value} {Z : State} (hw : ∀ d ∈ tables_1, d.before a0 Z = true) {d : Jvm.Cond} (i : Nat) (h : tables_1[i]? = some d) : d.before a0 Z = true := hw _ (List.mem_of_getElem? h)
theorem pd_0 : parseMethodDescriptor "([CIILjava/lang/Void;)V" = some ⟨[(.array .char), .int, .int, (.object "java/lang/Void")], none⟩ := by decide +kernel
theorem pd_1 : parseMethodDescriptor "(C)Z" = some ⟨[.char], some .boolean⟩ := by decide +kernel
theorem pd_2 : parseMethodDescriptor "(C)[B" = some ⟨[.char], some (.array .byte)⟩ := by decide +kernel
theorem pd_3 : parseMethodDescriptor "([BB)V" = some ⟨[(.array .byte), .byte], none⟩ := by decide +kernel
theorem pd_4 : parseMethodDescriptor "()I" = some ⟨[], some .int⟩ := by decide +kernel
theorem pd_5 : parseMethodDescriptor "(II)I" = some ⟨[.int, .int], some .int⟩ := by decide +kernel
theorem pd_6 : parseMethodDescriptor "(III)I" = some ⟨[.int, .int, .int], some .int⟩ := by decide +kernel
theorem pd_7 : parseMethodDescriptor "(I)I" = some ⟨[.int], some .int⟩ := by decide +kernel
theorem pd_8 : parseMethodDescriptor "([BI)[B" = some ⟨[(.array .byte), .int], some (.array .byte)⟩ := by decide +kernel
theorem pd_9 : parseMethodDescriptor "()B" = some ⟨[], some .byte⟩ := by decide +kernel
theorem pd_10 : parseMethodDescriptor "(Ljava/lang/String;)V" = some ⟨[(.object "java/lang/String")], none⟩ := by decide +kernel
theorem pd_11 : parseMethodDescriptor "([BIB)V" = some ⟨[(.array .byte), .int, .byte], none⟩ := by decide +kernel
theorem pd_12 : parseMethodDescriptor "(I)V" = some ⟨[.int], none⟩ := by decide +kernel
theorem pd_13 : parseMethodDescriptor "(ILjava/lang/String;)V" = some ⟨[.int, (.object "java/lang/String")], none⟩ := by decide +kernel
theorem pd_14 : parseMethodDescriptor "()Z" = some ⟨[], some .boolean⟩ := by decide +kernel
theorem pd_15 : parseMethodDescriptor "(Ljava/lang/String;)Ljava/lang/AbstractStringBuilder;" = some ⟨[(.object "java/lang/String")], some (.object "java/lang/AbstractStringBuilder")⟩ := by decide +kernel
theorem pd_16 : parseMethodDescriptor "(C)Ljava/lang/AbstractStringBuilder;" = some ⟨[.char], some (.object "java/lang/AbstractStringBuilder")⟩ := by decide +kernel
theorem pd_17 : parseMethodDescriptor "(II)V" = some ⟨[.int, .int], none⟩ := by decide +kernel
theorem pd_18 : parseMethodDescriptor "([BII)[B" = some ⟨[(.array .byte), .int, .int], some (.array .byte)⟩ := by decide +kernel
theorem pd_19 : parseMethodDescriptor "()[B" = some ⟨[], some (.array .byte)⟩ := by decide +kernel
theorem pd_20 : parseMethodDescriptor "(Ljava/lang/AbstractStringBuilder;Ljava/lang/Void;)V" = some ⟨[(.object "java/lang/AbstractStringBuilder"), (.object "java/lang/Void")], none⟩ := by decide +kernel
theorem pd_21 : parseMethodDescriptor "(Ljava/lang/StringBuilder;)V" = some ⟨[(.object "java/lang/StringBuilder")], none⟩ := by decide +kernel
theorem pd_22 : parseMethodDescriptor "(IILjava/util/function/BiFunction;)I" = some ⟨[.int, .int, (.object "java/util/function/BiFunction")], some .int⟩ := by decide +kernel
theorem pd_23 : parseMethodDescriptor "([B)I" = some ⟨[(.array .byte)], some .int⟩ := by decide +kernel
theorem pd_24 : parseMethodDescriptor "(I[B)V" = some ⟨[.int, (.array .byte)], none⟩ := by decide +kernel
theorem pd_25 : parseMethodDescriptor "([BI)C" = some ⟨[(.array .byte), .int], some .char⟩ := by decide +kernel
theorem pd_26 : parseMethodDescriptor "([BII)V" = some ⟨[(.array .byte), .int, .int], none⟩ := by decide +kernel
theorem pd_27 : parseMethodDescriptor "(I)[B" = some ⟨[.int], some (.array .byte)⟩ := by decide +kernel
theorem pd_28 : parseMethodDescriptor "([CI[BII)I" = some ⟨[(.array .char), .int, (.array .byte), .int, .int], some .int⟩ := by decide +kernel
theorem pd_29 : parseMethodDescriptor "([CII)[B" = some ⟨[(.array .char), .int, .int], some (.array .byte)⟩ := by decide +kernel
theorem pd_30 : parseMethodDescriptor "([BI)B" = some ⟨[(.array .byte), .int], some .byte⟩ := by decide +kernel
theorem pd_31 : parseMethodDescriptor "(IIILjava/util/function/BiFunction;)I" = some ⟨[.int, .int, .int, (.object "java/util/function/BiFunction")], some .int⟩ := by decide +kernel
theorem pd_32 : parseMethodDescriptor "(II[B)V" = some ⟨[.int, .int, (.array .byte)], none⟩ := by decide +kernel
theorem pd_33 : parseMethodDescriptor "([BI[BII)V" = some ⟨[(.array .byte), .int, (.array .byte), .int, .int], none⟩ := by decide +kernel
theorem pd_34 : parseMethodDescriptor "()V" = some ⟨[], none⟩ := by decide +kernel
theorem pd_35 : parseMethodDescriptor "()Ljava/lang/String;" = some ⟨[], some (.object "java/lang/String")⟩ := by decide +kernel
theorem pd_36 : parseMethodDescriptor "(I)C" = some ⟨[.int], some .char⟩ := by decide +kernel
theorem pd_37 : parseMethodDescriptor "(Ljava/lang/String;)Ljava/lang/StringBuilder;" = some ⟨[(.object "java/lang/String")], some (.object "java/lang/StringBuilder")⟩ := by decide +kernel
theorem pd_38 : parseMethodDescriptor "(C)Ljava/lang/StringBuilder;" = some ⟨[.char], some (.object "java/lang/StringBuilder")⟩ := by decide +kernel
theorem pd_39 : parseMethodDescriptor "(Ljava/lang/String;)Ljava/lang/String;" = some ⟨[(.object "java/lang/String")], some (.object "java/lang/String")⟩ := by decide +kernel
theorem pd_40 : parseMethodDescriptor "(Ljava/lang/String;[CII)Z" = some ⟨[(.object "java/lang/String"), (.array .char), .int, .int], some .boolean⟩ := by decide +kernel
theorem pd_41 : parseMethodDescriptor "([C)V" = some ⟨[(.array .char)], none⟩ := by decide +kernel
theorem pd_42 : parseMethodDescriptor "([CIC)I" = some ⟨[(.array .char), .int, .char], some .int⟩ := by decide +kernel
theorem pd_43 : parseMethodDescriptor "(C)Ljava/lang/String;" = some ⟨[.char], some (.object "java/lang/String")⟩ := by decide +kernel
/-! own kit, part A: a walk as a goal (Go), the world of a walk (Wd), contracts (Met) -/
section OwnA
variable {p : Program} {l : Launch} {e : Env} {R : Room} {s : State} {m : MethodId} {args : Array Value} {below : List Frame} {meth : Method} {c : Code} {T T' : State} {h h' : Heap} {Z : State} {a0 : Array Value} {EL : List (String × Nat)} {own : String} {k n : Nat} {P : Outcome → State → Prop} {F : List Addr}
/-- what a walk owes from here -/
def Go (p : Program) (e : Env) (below : List Frame) (P : Outcome → State → Prop) (T : State) (g : JFrame) : Prop :=
  ∃ t o, Steps p.tables e below (T.setTop g) t ∧ t.status = .running ∧ Ended t below o ∧ P o t
theorem Go.st {g g' : JFrame} (K : Go p e below P T' g') (st : ∀ target, Steps p.tables e below (T'.setTop g') target → Steps p.tables e below (T.setTop g) target) : Go p e below P T g := by
  obtain ⟨t, o, h1, h2⟩ := K
  exact ⟨t, o, st t h1, h2⟩
theorem Go.tr {g g' : JFrame} (K : Go p e below P T' g') (st : Steps p.tables e below (T.setTop g) (T'.setTop g')) : Go p e below P T g := by
  obtain ⟨t, o, h1, h2⟩ := K
  exact ⟨t, o, st.trans h1, h2⟩
/-- an address that the walk may write -/
def Wok (Z : State) (F : List Addr) (h : Heap) (a : Addr) : Prop := Z.heap.size ≤ a ∧ (a ∈ F ∨ (∃ C, Exa Z h a C ∧ C ≠ "java/lang/String" ∧ C ≠ "[B") ∨ ∃ cl ty, Arr Z h a cl ty ∧ ty ≠ .byte)
/-- the world of a walk -/
def Wd (p : Program) (l : Launch) (e : Env) (R : Room) (s : State) (m : MethodId) (args : Array Value) (below : List Frame) (meth : Method) (c : Code) (Z : State) (a0 : Array Value) (EL : List (String × Nat)) (own : String) (F : List Addr) (T : State) (h : Heap) (k n : Nat) : Prop :=
  p.tables.exec = Jvm.exec ∧ Ext Z.heap h ∧ EW Z a0 EL ∧ meth.locks = false ∧
    ∃ (vm0 : Vm) (k0 : Nat) (locs : List Loc), Stand p l e R (s.setVm vm0) m args below meth c T locs k n ∧ Z.Warmed39 vm0 ∧ vm0.findClass own = some m.cls ∧ T.heap = h ∧ s.Since vm0 k0 ∧ k0 ≤ h.size ∧ CHr Z EL s.vm s.heap vm0 h ∧ Fr Z.heap.size locs ∧ (EL = [] → s.WarmedH vm0) ∧ ∀ x ∈ F, x < h.size ∧ Safe Z EL vm0 h x
theorem Wd.here (W : Wd p l e R s m args below meth c Z a0 EL own F T h k n) : At T m c below := by
  obtain ⟨-, -, -, -, vm0, k0, locs, X, -⟩ := W; exact X.here
theorem Wd.hx (W : Wd p l e R s m args below meth c Z a0 EL own F T h k n) : p.tables.exec = Jvm.exec := W.1
theorem Wd.old (W : Wd p l e R s m args below meth c Z a0 EL own F T h k n) : Ext Z.heap h := W.2.1
theorem Wd.hEL (W : Wd p l e R s m args below meth c Z a0 EL own F T h k n) : EW Z a0 EL := W.2.2.1
theorem Wd.safeOf {vm0 : Vm} (hal : Z.vm.Alike vm0) (hF : ∀ x ∈ F, x < h.size ∧ Safe Z EL vm0 h x) {a : Addr} (q : Wok Z F h a) : Safe Z EL vm0 h a := by
  rcases q.2 with q | ⟨C, q1, q2, q3⟩ | ⟨cl, ty, q1, q2⟩
  · exact (hF a q).2
  · exact Safe.exa hal q1 q2 q3
  · exact Safe.arr hal q1 q2
theorem Wd.more (W : Wd p l e R s m args below meth c Z a0 EL own F T h k n) {k' n' : Nat} (hk : k ≤ k') (hn : n ≤ n') : Wd p l e R s m args below meth c Z a0 EL own F T h k' n' := by
  obtain ⟨w1, w2, w3, w4, vm0, k0, locs, X, r⟩ := W
  exact ⟨w1, w2, w3, w4, vm0, k0, locs, X.more hk hn, r⟩
theorem Wd.drop (W : Wd p l e R s m args below meth c Z a0 EL own F T h k n) {F' : List Addr} (q : ∀ x ∈ F', x ∈ F) : Wd p l e R s m args below meth c Z a0 EL own F' T h k n := by
  obtain ⟨w1, w2, w3, w4, vm0, k0, locs, X, a, b, d, f, g, i, j, w, u⟩ := W
  exact ⟨w1, w2, w3, w4, vm0, k0, locs, X, a, b, d, f, g, i, j, w, fun x hx => u x (q x hx)⟩
theorem ext_old_wr {a : Addr} {sl : Nat} {v : Value} (E : Ext Z.heap h) (W : Wr h h' a sl v) (q : Z.heap.size ≤ a) : Ext Z.heap h' := (Old.wr (n0 := Z.heap.size) ⟨rfl, E⟩ W q).2
theorem ext_old_keep {ws : List Addr} (E : Ext Z.heap h) (K : Keep h h' ws) (q : ∀ x ∈ ws, Z.heap.size ≤ x) : Ext Z.heap h' := (Old.keep (n0 := Z.heap.size) ⟨rfl, E⟩ K q).2
theorem ext_trans {h2 : Heap} (E : Ext h h') (E' : Ext h' h2) : Ext h h2 := ⟨Nat.le_trans E.1 E'.1, fun a c q => E'.2 a c (E.2 a c q)⟩
theorem ext_refl (h : Heap) : Ext h h := ⟨Nat.le_refl _, fun _ _ q => q⟩
theorem ext_keep (E : Ext h h') (ws : List Addr) : Keep h h' ws := (Keep.refl h ws).ext E
theorem keep_ext (K : Keep h h' []) : Ext h h' := ⟨K.1, fun a c q => K.2.1 a c q (fun z => nomatch z)⟩
/-- a step over the same tables that only makes cells -/
theorem Wd.grow (W : Wd p l e R s m args below meth c Z a0 EL own F T h k n) {k' n' : Nat} {g g' : JFrame}
    (st : ∀ {vm0 : Vm} {locs : List Loc}, Stand p l e R (s.setVm vm0) m args below meth c T locs k n → Z.Warmed39 vm0 → vm0.findClass own = some m.cls → T.heap = h →
      ∃ T', Stand p l e R (s.setVm vm0) m args below meth c T' locs k' n' ∧ T'.heap = h' ∧ ∀ target, Steps p.tables e below (T'.setTop g') target → Steps p.tables e below (T.setTop g) target)
    (E : Ext h h') (K : ∀ T', Wd p l e R s m args below meth c Z a0 EL own F T' h' k' n' → Go p e below P T' g') : Go p e below P T g := by
  obtain ⟨w1, w2, w3, w4, vm0, k0, locs, X, hZ, hown, eT, hS, hk, hC, hN, hH, hF⟩ := W
  obtain ⟨T', X', eT', st⟩ := st X hZ hown eT
  exact (K T' ⟨w1, ext_trans w2 E, w3, w4, vm0, k0, locs, X', hZ, hown, eT', hS, Nat.le_trans hk E.1, hC.trans (CHr.ext E hC.1), hN, hH, fun x q => ⟨Nat.lt_of_lt_of_le (hF x q).1 E.1, Safe.ext E hC.1 (hF x q).2⟩⟩).st st
/-- a step over the same tables that writes one place -/
theorem Wd.write (W : Wd p l e R s m args below meth c Z a0 EL own F T h k n) {a : Addr} {sl : Nat} {v : Value} {g g' : JFrame} (q : Wok Z F h a)
    (st : ∀ {vm0 : Vm} {locs : List Loc}, Stand p l e R (s.setVm vm0) m args below meth c T locs k n → Z.Warmed39 vm0 → vm0.findClass own = some m.cls → T.heap = h →
      ∃ T' h', Stand p l e R (s.setVm vm0) m args below meth c T' (locs ++ [⟨a, sl⟩]) k n ∧ T'.heap = h' ∧ Wr h h' a sl v ∧ ∀ target, Steps p.tables e below (T'.setTop g') target → Steps p.tables e below (T.setTop g) target)
    (K : ∀ T' h', Wd p l e R s m args below meth c Z a0 EL own F T' h' k n → Wr h h' a sl v → Go p e below P T' g') : Go p e below P T g := by
  obtain ⟨w1, w2, w3, w4, vm0, k0, locs, X, hZ, hown, eT, hS, hk, hC, hN, hH, hF⟩ := W
  obtain ⟨T', h', X', eT', Wr1, st⟩ := st X hZ hown eT
  have hsf := Wd.safeOf hZ.alike hF q
  exact (K T' h' ⟨w1, ext_old_wr w2 Wr1 q.1, w3, w4, vm0, k0, _, X', hZ, hown, eT', hS, by rw [Wr1.size]; exact hk, hC.trans (CHr.wr Wr1 hsf hC.1), Fr.snoc X' hN q.1, hH, fun x r => ⟨by rw [Wr1.size]; exact (hF x r).1, Safe.wr Wr1 hsf hC.1 (hF x r).2⟩⟩ Wr1).st st
/-- the end of a walk: what a contract says (FF: addresses of cells that the callee has made and that are nobody's literal) -/
def Endp (Z : State) (EL : List (String × Nat)) (s : State) (Q : Option Value → Heap → List Addr → Prop) (k n : Nat) (o : Outcome) (t : State) : Prop :=
  ∃ v L FF, o = .returned v ∧ (Q v t.heap FF ∧ Fr Z.heap.size L ∧ Ext Z.heap t.heap ∧ ∀ x ∈ FF, x < t.heap.size ∧ Safe Z EL t.vm t.heap x) ∧ CHr Z EL s.vm s.heap t.vm t.heap ∧ ReturnedEndW s o t L k n ∧ (EL = [] → s.WarmedH t.vm)
/-- a contract -/
def MetW (ws : List Jvm.Cond) (l : Launch) (Z : State) (EL : List (String × Nat)) (F : List Addr) (y : MethodName) (bytes : ByteArray) (maxL : Nat) (ret : Option FieldType) (rm : Room) (as' : Array Value) (h : Heap) (Q : Option Value → Heap → List Addr → Prop) : Prop :=
  MetFree l y (head1 (Jvm.Cond.code y bytes maxL ret :: ws) rm) (fun a U => a = as' ∧ Z.Warmed39 U.vm ∧ U.heap = h ∧ CHv Z EL U.vm h ∧ ∀ x ∈ F, x < h.size ∧ Safe Z EL U.vm h x) (fun _ _ _ _ _ => True) (fun _ U o U' => Endp Z EL U Q rm.cells rm.slots o U')
abbrev Met (l : Launch) (Z : State) (EL : List (String × Nat)) (F : List Addr) (y : MethodName) (bytes : ByteArray) (maxL : Nat) (ret : Option FieldType) (rm : Room) (as' : Array Value) (h : Heap) (Q : Option Value → Heap → List Addr → Prop) : Prop := MetW [] l Z EL F y bytes maxL ret rm as' h Q
theorem CHr.id {vm : Vm} (H : CHv Z EL vm h) : CHr Z EL vm h vm h := CHr.refl H
theorem Met.intro {ws : List Jvm.Cond} {y : MethodName} {bytes : ByteArray} {maxL : Nat} {ret : Option FieldType} {rm : Room} {as' : Array Value} {Q : Option Value → Heap → List Addr → Prop} (pn : plainName y.cls = true) (hEL : EW Z a0 EL) (hO : Ext Z.heap h)
    (body : ∀ (p : Program) (e : Env) (s : State) (m : MethodId) (below : List Frame) (meth : Method) (c : Code) (T : State), Wd p l e rm s m as' below meth c Z a0 EL y.cls F T h 0 0 → c.code = bytes → c.maxLocals = maxL → meth.sig.returnType = ret → meth.name = y.name →
      Go p e below (Endp Z EL s Q rm.cells rm.slots) T (entryFrame m as' maxL)) : MetW ws l Z EL F y bytes maxL ret rm as' h Q := by
  refine MetFree.of_bodySF (plainFor_of_name pn) hisR ?_
  intro p e s m args below meth c s₁ Bd hml0 hP hK
  obtain ⟨rfl, hZ, hh, hC, hF⟩ := hP
  have hown : s.vm.findClass y.cls = some m.cls := findClass_of_methodNamed Bd.named
  have hnm := (name_of_methodNamed Bd.named Bd.method).1
  have X0 : Stand p l e rm s m args below meth c s₁ [] 0 0 := Stand.of_body Bd
  have e0 : s₁.heap = h := by rw [← hh, Bd.state]; rfl
  exact body p e s m below meth c s₁ ⟨Bd.exec, hO, hEL, Bd.notSynchronized, s.vm, h.size, [], X0, hZ, hown, e0, State.WarmedH.since (State.WarmedH.refl s) _, Nat.le_refl _, by rw [hh]; exact CHr.refl hC, Fr.nil _, fun _ => State.WarmedH.refl s, hF⟩ Bd.bytes hml0 Bd.returns hnm
/-- the walk leaves -/
theorem Wd.leave (W : Wd p l e R s m args below meth c Z a0 EL own F T h k n) {Q : Option Value → Heap → List Addr → Prop} {k' n' : Nat} (hk : k ≤ k') (hn : n ≤ n') {v : Option Value} (hv : meth.sig.returnType = none → v = none) {FF : List Addr} (hFF : ∀ x ∈ FF, x ∈ F) (q : Q v h FF) {g : JFrame}
    (st : ∀ {vm0 : Vm} {locs : List Loc} {fs : List Frame}, Stand p l e R (s.setVm vm0) m args below meth c T locs k n → (∀ (f : JFrame) (acts : List Action), f.method = m → f.locked = none → f.entered = [] → (doReturn e (T.setTop f) acts v).1 = T.setFrames fs) → Steps p.tables e below (T.setTop g) (T.setFrames fs)) :
    Go p e below (Endp Z EL s Q k' n') T g := by
  obtain ⟨w1, w2, w3, w4, vm0, k0, locs, X, hZ, hown, rfl, hS, hk0, hC, hN, hH, hF⟩ := W
  obtain ⟨fs, hr, hrun, hended, hend⟩ := X.leaveW hS hk0 hv w4
  have hA := CHv.at X hZ w3 hC.1
  refine ⟨_, _, st X hr, hrun, hended, v, locs, FF, rfl, ⟨q, hN, w2, fun x hx => ?_⟩, ?_, ⟨hend.1, hend.2.1, hend.2.2.1, hend.2.2.2.mono hk hn⟩, fun e => ?_⟩
  · show x < T.heap.size ∧ Safe Z EL T.vm T.heap x
    exact ⟨(hF x (hFF x hx)).1, hA.safe (hF x (hFF x hx)).1 (hF x (hFF x hx)).2⟩
  · show CHr Z EL s.vm s.heap T.vm T.heap
    exact hC.trans hA
  · show s.WarmedH T.vm
    exact State.WarmedH.trans (t := s.setVm vm0) (hH e) X.warmed
end OwnA
/-! own kit, part B: one instruction each (by wip/kit/mkB.py) -/
section OwnB
variable {p : Program} {l : Launch} {e : Env} {R : Room} {s : State} {m : MethodId} {args : Array Value} {below : List Frame} {meth : Method} {c : Code} {T T' : State} {h h' : Heap} {Z : State} {a0 : Array Value} {EL : List (String × Nat)} {own : String} {k n : Nat} {P : Outcome → State → Prop} {F : List Addr}
theorem g_iloadN (W : Wd p l e R s m args below meth c Z a0 EL own F T h k n) {pc pc' : Nat} {ls : Array Slot} {st : List Value} {i : Fin 4} {v : Int32} (hd : decode c.code pc = .ok (.iload_n i, 1)) (hp : pc + 1 = pc') (hl : ls[i.val]? = some (.val (.int v)))  (K : Go p e below P T (mkF m pc' ls (.int v :: st))) : Go p e below P T (mkF m pc ls (st)) := by
  subst hp
  exact K.st fun t q => XS.iloadN W.here W.hx rfl hd hl q
theorem g_iload (W : Wd p l e R s m args below meth c Z a0 EL own F T h k n) {pc pc' : Nat} {ls : Array Slot} {st : List Value} {i : Nat} {v : Int32} (hd : decode c.code pc = .ok (.iload i, 2)) (hp : pc + 2 = pc') (hl : ls[i]? = some (.val (.int v)))  (K : Go p e below P T (mkF m pc' ls (.int v :: st))) : Go p e below P T (mkF m pc ls (st)) := by
  subst hp
  exact K.st fun t q => XS.iload W.here W.hx rfl hd hl q
theorem g_aloadN (W : Wd p l e R s m args below meth c Z a0 EL own F T h k n) {pc pc' : Nat} {ls : Array Slot} {st : List Value} {i : Fin 4} {v : Value} (hd : decode c.code pc = .ok (.aload_n i, 1)) (hp : pc + 1 = pc') (hl : ls[i.val]? = some (.val (v))) (hv : v.isRef = true) (K : Go p e below P T (mkF m pc' ls (v :: st))) : Go p e below P T (mkF m pc ls (st)) := by
  subst hp
  exact K.st fun t q => XS.aloadN W.here W.hx rfl hd hl hv q
theorem g_aload (W : Wd p l e R s m args below meth c Z a0 EL own F T h k n) {pc pc' : Nat} {ls : Array Slot} {st : List Value} {i : Nat} {v : Value} (hd : decode c.code pc = .ok (.aload i, 2)) (hp : pc + 2 = pc') (hl : ls[i]? = some (.val (v))) (hv : v.isRef = true) (K : Go p e below P T (mkF m pc' ls (v :: st))) : Go p e below P T (mkF m pc ls (st)) := by
  subst hp
  exact K.st fun t q => XS.aload W.here W.hx rfl hd hl hv q
theorem g_istoreN (W : Wd p l e R s m args below meth c Z a0 EL own F T h k n) {pc pc' : Nat} {ls : Array Slot} {st : List Value} {i : Fin 4} {v : Int32} {ls' : Array Slot} (hd : decode c.code pc = .ok (.istore_n i, 1)) (hp : pc + 1 = pc') (hl : storeLocals ls i.val (.int v) = some ls') (K : Go p e below P T (mkF m pc' ls' (st))) : Go p e below P T (mkF m pc ls (.int v :: st)) := by
  subst hp
  exact K.st fun t q => XS.istoreN W.here W.hx rfl hd rfl hl q
theorem g_istore (W : Wd p l e R s m args below meth c Z a0 EL own F T h k n) {pc pc' : Nat} {ls : Array Slot} {st : List Value} {i : Nat} {v : Int32} {ls' : Array Slot} (hd : decode c.code pc = .ok (.istore i, 2)) (hp : pc + 2 = pc') (hl : storeLocals ls i (.int v) = some ls') (K : Go p e below P T (mkF m pc' ls' (st))) : Go p e below P T (mkF m pc ls (.int v :: st)) := by
  subst hp
  exact K.st fun t q => XS.istore W.here W.hx rfl hd rfl hl q
theorem g_astoreN (W : Wd p l e R s m args below meth c Z a0 EL own F T h k n) {pc pc' : Nat} {ls : Array Slot} {st : List Value} {i : Fin 4} {v : Value} {ls' : Array Slot} (hd : decode c.code pc = .ok (.astore_n i, 1)) (hp : pc + 1 = pc') (hv : v.isRef = true) (hl : storeLocals ls i.val (v) = some ls') (K : Go p e below P T (mkF m pc' ls' (st))) : Go p e below P T (mkF m pc ls (v :: st)) := by
  subst hp
  exact K.st fun t q => XS.astoreN W.here W.hx rfl hd rfl hv hl q
theorem g_astore (W : Wd p l e R s m args below meth c Z a0 EL own F T h k n) {pc pc' : Nat} {ls : Array Slot} {st : List Value} {i : Nat} {v : Value} {ls' : Array Slot} (hd : decode c.code pc = .ok (.astore i, 2)) (hp : pc + 2 = pc') (hv : v.isRef = true) (hl : storeLocals ls i (v) = some ls') (K : Go p e below P T (mkF m pc' ls' (st))) : Go p e below P T (mkF m pc ls (v :: st)) := by
  subst hp
  exact K.st fun t q => XS.astore W.here W.hx rfl hd rfl hv hl q
theorem g_iconst (W : Wd p l e R s m args below meth c Z a0 EL own F T h k n) {pc pc' : Nat} {ls : Array Slot} {st : List Value} {i : Int} {v : Int32} (hd : decode c.code pc = .ok (.iconst i, 1)) (hp : pc + 1 = pc') (hv : Int32.ofInt i = v) (K : Go p e below P T (mkF m pc' ls (.int v :: st))) : Go p e below P T (mkF m pc ls (st)) := by
  subst hp
  subst hv; exact K.st fun t q => XS.iconst W.here W.hx rfl hd  q
theorem g_bipush (W : Wd p l e R s m args below meth c Z a0 EL own F T h k n) {pc pc' : Nat} {ls : Array Slot} {st : List Value} {i : Int} {v : Int32} (hd : decode c.code pc = .ok (.bipush i, 2)) (hp : pc + 2 = pc') (hv : (Int8.ofInt i).toInt32 = v) (K : Go p e below P T (mkF m pc' ls (.int v :: st))) : Go p e below P T (mkF m pc ls (st)) := by
  subst hp
  subst hv; exact K.st fun t q => XS.bipush W.here W.hx rfl hd  q
theorem g_sipush (W : Wd p l e R s m args below meth c Z a0 EL own F T h k n) {pc pc' : Nat} {ls : Array Slot} {st : List Value} {i : Int} {v : Int32} (hd : decode c.code pc = .ok (.sipush i, 3)) (hp : pc + 3 = pc') (hv : (Int16.ofInt i).toInt32 = v) (K : Go p e below P T (mkF m pc' ls (.int v :: st))) : Go p e below P T (mkF m pc ls (st)) := by
  subst hp
  subst hv; exact K.st fun t q => XS.sipush W.here W.hx rfl hd  q
theorem g_aconst_null (W : Wd p l e R s m args below meth c Z a0 EL own F T h k n) {pc pc' : Nat} {ls : Array Slot} {st : List Value}  (hd : decode c.code pc = .ok (.aconst_null, 1)) (hp : pc + 1 = pc')  (K : Go p e below P T (mkF m pc' ls (.null :: st))) : Go p e below P T (mkF m pc ls (st)) := by
  subst hp
  exact K.st fun t q => XS.aconstNull W.here W.hx rfl hd  q
theorem g_iadd (W : Wd p l e R s m args below meth c Z a0 EL own F T h k n) {pc pc' : Nat} {ls : Array Slot} {st : List Value} {x y : Int32} (hd : decode c.code pc = .ok (.iadd, 1)) (hp : pc + 1 = pc')  (K : Go p e below P T (mkF m pc' ls (.int (x + y) :: st))) : Go p e below P T (mkF m pc ls (.int y :: .int x :: st)) := by
  subst hp
  exact K.st fun t q => XS.iadd W.here W.hx rfl hd rfl q
theorem g_isub (W : Wd p l e R s m args below meth c Z a0 EL own F T h k n) {pc pc' : Nat} {ls : Array Slot} {st : List Value} {x y : Int32} (hd : decode c.code pc = .ok (.isub, 1)) (hp : pc + 1 = pc')  (K : Go p e below P T (mkF m pc' ls (.int (x - y) :: st))) : Go p e below P T (mkF m pc ls (.int y :: .int x :: st)) := by
  subst hp
  exact K.st fun t q => XS.isub W.here W.hx rfl hd rfl q
theorem g_iand (W : Wd p l e R s m args below meth c Z a0 EL own F T h k n) {pc pc' : Nat} {ls : Array Slot} {st : List Value} {x y : Int32} (hd : decode c.code pc = .ok (.iand, 1)) (hp : pc + 1 = pc')  (K : Go p e below P T (mkF m pc' ls (.int (x &&& y) :: st))) : Go p e below P T (mkF m pc ls (.int y :: .int x :: st)) := by
  subst hp
  exact K.st fun t q => XS.iand W.here W.hx rfl hd rfl q
theorem g_ior (W : Wd p l e R s m args below meth c Z a0 EL own F T h k n) {pc pc' : Nat} {ls : Array Slot} {st : List Value} {x y : Int32} (hd : decode c.code pc = .ok (.ior, 1)) (hp : pc + 1 = pc')  (K : Go p e below P T (mkF m pc' ls (.int (x ||| y) :: st))) : Go p e below P T (mkF m pc ls (.int y :: .int x :: st)) := by
  subst hp
  exact K.st fun t q => XT.ior W.here W.hx rfl hd rfl q
theorem g_ishl (W : Wd p l e R s m args below meth c Z a0 EL own F T h k n) {pc pc' : Nat} {ls : Array Slot} {st : List Value} {x y : Int32} (hd : decode c.code pc = .ok (.ishl, 1)) (hp : pc + 1 = pc')  (K : Go p e below P T (mkF m pc' ls (.int (x <<< (y &&& 31)) :: st))) : Go p e below P T (mkF m pc ls (.int y :: .int x :: st)) := by
  subst hp
  exact K.st fun t q => XT.ishl W.here W.hx rfl hd rfl q
theorem g_ishr (W : Wd p l e R s m args below meth c Z a0 EL own F T h k n) {pc pc' : Nat} {ls : Array Slot} {st : List Value} {x y : Int32} (hd : decode c.code pc = .ok (.ishr, 1)) (hp : pc + 1 = pc')  (K : Go p e below P T (mkF m pc' ls (.int (x >>> (y &&& 31)) :: st))) : Go p e below P T (mkF m pc ls (.int y :: .int x :: st)) := by
  subst hp
  exact K.st fun t q => XT.ishr W.here W.hx rfl hd rfl q
theorem g_iushr (W : Wd p l e R s m args below meth c Z a0 EL own F T h k n) {pc pc' : Nat} {ls : Array Slot} {st : List Value} {x y : Int32} (hd : decode c.code pc = .ok (.iushr, 1)) (hp : pc + 1 = pc')  (K : Go p e below P T (mkF m pc' ls (.int (XT.ushr x y) :: st))) : Go p e below P T (mkF m pc ls (.int y :: .int x :: st)) := by
  subst hp
  exact K.st fun t q => XT.iushr W.here W.hx rfl hd rfl q
theorem g_irem (W : Wd p l e R s m args below meth c Z a0 EL own F T h k n) {pc pc' : Nat} {ls : Array Slot} {st : List Value} {x y : Int32} (hd : decode c.code pc = .ok (.irem, 1)) (hp : pc + 1 = pc') (hy : y ≠ 0) (K : Go p e below P T (mkF m pc' ls (.int (x % y) :: st))) : Go p e below P T (mkF m pc ls (.int y :: .int x :: st)) := by
  subst hp
  exact K.st fun t q => XS.irem W.here W.hx rfl hd rfl hy (by rw [irem_eq_mod x y]; exact q)
theorem g_i2b (W : Wd p l e R s m args below meth c Z a0 EL own F T h k n) {pc pc' : Nat} {ls : Array Slot} {st : List Value} {x : Int32} (hd : decode c.code pc = .ok (.i2b, 1)) (hp : pc + 1 = pc')  (K : Go p e below P T (mkF m pc' ls (.int (x.toInt8.toInt32) :: st))) : Go p e below P T (mkF m pc ls (.int x :: st)) := by
  subst hp
  exact K.st fun t q => XT.i2b W.here W.hx rfl hd rfl q
theorem g_i2c (W : Wd p l e R s m args below meth c Z a0 EL own F T h k n) {pc pc' : Nat} {ls : Array Slot} {st : List Value} {x : Int32} (hd : decode c.code pc = .ok (.i2c, 1)) (hp : pc + 1 = pc')  (K : Go p e below P T (mkF m pc' ls (.int (x.toUInt32.toUInt16.toUInt32.toInt32) :: st))) : Go p e below P T (mkF m pc ls (.int x :: st)) := by
  subst hp
  exact K.st fun t q => XT.i2c W.here W.hx rfl hd rfl q
theorem g_iinc (W : Wd p l e R s m args below meth c Z a0 EL own F T h k n) {pc pc' : Nat} {ls : Array Slot} {st : List Value} {i : Nat} {cst : Int} {x : Int32} {ls' : Array Slot} (hd : decode c.code pc = .ok (.iinc i cst, 3)) (hp : pc + 3 = pc') (hl : ls[i]? = some (.val (.int x))) (hl' : storeLocals ls i (.int (x + Int32.ofInt cst)) = some ls') (K : Go p e below P T (mkF m pc' ls' (st))) : Go p e below P T (mkF m pc ls (st)) := by
  subst hp
  exact K.st fun t q => XS.iinc W.here W.hx rfl hd hl hl' q
theorem g_dup (W : Wd p l e R s m args below meth c Z a0 EL own F T h k n) {pc pc' : Nat} {ls : Array Slot} {st : List Value} {x : Value} (hd : decode c.code pc = .ok (.dup, 1)) (hp : pc + 1 = pc') (hc : x.category = 1) (K : Go p e below P T (mkF m pc' ls (x :: x :: st))) : Go p e below P T (mkF m pc ls (x :: st)) := by
  subst hp
  exact K.st fun t q => XS.dup W.here W.hx rfl hd rfl hc q
theorem g_pop (W : Wd p l e R s m args below meth c Z a0 EL own F T h k n) {pc pc' : Nat} {ls : Array Slot} {st : List Value} {x : Value} (hd : decode c.code pc = .ok (.pop, 1)) (hp : pc + 1 = pc') (hc : x.category = 1) (K : Go p e below P T (mkF m pc' ls (st))) : Go p e below P T (mkF m pc ls (x :: st)) := by
  subst hp
  exact K.st fun t q => XT.pop W.here W.hx rfl hd rfl hc q
theorem g_dup_x1 (W : Wd p l e R s m args below meth c Z a0 EL own F T h k n) {pc pc' : Nat} {ls : Array Slot} {st : List Value} {x y : Value} (hd : decode c.code pc = .ok (.dup_x1, 1)) (hp : pc + 1 = pc') (hc : x.category = 1) (hc' : y.category = 1) (K : Go p e below P T (mkF m pc' ls (x :: y :: x :: st))) : Go p e below P T (mkF m pc ls (x :: y :: st)) := by
  subst hp
  exact K.st fun t q => XT.dupX1 W.here W.hx rfl hd rfl hc hc' q
theorem g_goto (W : Wd p l e R s m args below meth c Z a0 EL own F T h k n) {pc pc' : Nat} {ls : Array Slot} {st : List Value} {o : Int} (hd : decode c.code pc = .ok (.goto o, 3)) (ho : 0 ≤ (pc : Int) + o) (hp : ((pc : Int) + o).toNat = pc') (K : Go p e below P T (mkF m pc' ls st)) : Go p e below P T (mkF m pc ls st) :=
  K.st fun t q => XS.goto W.here W.hx rfl rfl hd ho hp q
theorem g_icmpeqY (W : Wd p l e R s m args below meth c Z a0 EL own F T h k n) {pc pc1 pc2 : Nat} {ls : Array Slot} {st : List Value} {x y : Int32} {o : Int} (hd : decode c.code pc = .ok (.if_icmp .eq o, 3)) (ho : 0 ≤ (pc : Int) + o) (hp1 : ((pc : Int) + o).toNat = pc1) (hp2 : pc + 3 = pc2) (hc : x = y) (K : Go p e below P T (mkF m pc1 ls st)) : Go p e below P T (mkF m pc ls (.int y :: .int x :: st)) :=
  K.st fun t q => XS.icmpYes W.here W.hx rfl rfl hd rfl (teq hc).1 ho hp1 q
theorem g_icmpeqN (W : Wd p l e R s m args below meth c Z a0 EL own F T h k n) {pc pc1 pc2 : Nat} {ls : Array Slot} {st : List Value} {x y : Int32} {o : Int} (hd : decode c.code pc = .ok (.if_icmp .eq o, 3)) (ho : 0 ≤ (pc : Int) + o) (hp1 : ((pc : Int) + o).toNat = pc1) (hp2 : pc + 3 = pc2) (hc : ¬ x = y) (K : Go p e below P T (mkF m pc2 ls st)) : Go p e below P T (mkF m pc ls (.int y :: .int x :: st)) := by
  subst hp2
  exact K.st fun t q => XS.icmpNo W.here W.hx rfl hd rfl (feq hc).1 q
theorem g_ifeqY (W : Wd p l e R s m args below meth c Z a0 EL own F T h k n) {pc pc1 pc2 : Nat} {ls : Array Slot} {st : List Value} {x : Int32} {o : Int} (hd : decode c.code pc = .ok (.ifCond .eq o, 3)) (ho : 0 ≤ (pc : Int) + o) (hp1 : ((pc : Int) + o).toNat = pc1) (hp2 : pc + 3 = pc2) (hc : x = 0) (K : Go p e below P T (mkF m pc1 ls st)) : Go p e below P T (mkF m pc ls (.int x :: st)) :=
  K.st fun t q => XS.ifYes W.here W.hx rfl rfl hd rfl (by rw [if0]; exact (teq hc).1) ho hp1 q
theorem g_ifeqN (W : Wd p l e R s m args below meth c Z a0 EL own F T h k n) {pc pc1 pc2 : Nat} {ls : Array Slot} {st : List Value} {x : Int32} {o : Int} (hd : decode c.code pc = .ok (.ifCond .eq o, 3)) (ho : 0 ≤ (pc : Int) + o) (hp1 : ((pc : Int) + o).toNat = pc1) (hp2 : pc + 3 = pc2) (hc : ¬ x = 0) (K : Go p e below P T (mkF m pc2 ls st)) : Go p e below P T (mkF m pc ls (.int x :: st)) := by
  subst hp2
  exact K.st fun t q => XS.ifNo W.here W.hx rfl hd rfl (by rw [if0]; exact (feq hc).1) q
theorem g_icmpneY (W : Wd p l e R s m args below meth c Z a0 EL own F T h k n) {pc pc1 pc2 : Nat} {ls : Array Slot} {st : List Value} {x y : Int32} {o : Int} (hd : decode c.code pc = .ok (.if_icmp .ne o, 3)) (ho : 0 ≤ (pc : Int) + o) (hp1 : ((pc : Int) + o).toNat = pc1) (hp2 : pc + 3 = pc2) (hc : ¬ x = y) (K : Go p e below P T (mkF m pc1 ls st)) : Go p e below P T (mkF m pc ls (.int y :: .int x :: st)) :=
  K.st fun t q => XS.icmpYes W.here W.hx rfl rfl hd rfl (feq hc).2 ho hp1 q
theorem g_icmpneN (W : Wd p l e R s m args below meth c Z a0 EL own F T h k n) {pc pc1 pc2 : Nat} {ls : Array Slot} {st : List Value} {x y : Int32} {o : Int} (hd : decode c.code pc = .ok (.if_icmp .ne o, 3)) (ho : 0 ≤ (pc : Int) + o) (hp1 : ((pc : Int) + o).toNat = pc1) (hp2 : pc + 3 = pc2) (hc : x = y) (K : Go p e below P T (mkF m pc2 ls st)) : Go p e below P T (mkF m pc ls (.int y :: .int x :: st)) := by
  subst hp2
  exact K.st fun t q => XS.icmpNo W.here W.hx rfl hd rfl (teq hc).2 q
theorem g_icmpne (W : Wd p l e R s m args below meth c Z a0 EL own F T h k n) {pc pc1 pc2 : Nat} {ls : Array Slot} {st : List Value} {x y : Int32} {o : Int} (hd : decode c.code pc = .ok (.if_icmp .ne o, 3)) (ho : 0 ≤ (pc : Int) + o) (hp1 : ((pc : Int) + o).toNat = pc1) (hp2 : pc + 3 = pc2) (K1 : ¬ x = y → Go p e below P T (mkF m pc1 ls st)) (K2 : x = y → Go p e below P T (mkF m pc2 ls st)) : Go p e below P T (mkF m pc ls (.int y :: .int x :: st)) := by
  by_cases hc : ¬ x = y
  · exact g_icmpneY W hd ho hp1 hp2 hc (K1 hc)
  · exact g_icmpneN W hd ho hp1 hp2 (by first | exact hc | exact Decidable.not_not.mp hc) (K2 (by first | exact hc | exact Decidable.not_not.mp hc))
theorem g_ifneY (W : Wd p l e R s m args below meth c Z a0 EL own F T h k n) {pc pc1 pc2 : Nat} {ls : Array Slot} {st : List Value} {x : Int32} {o : Int} (hd : decode c.code pc = .ok (.ifCond .ne o, 3)) (ho : 0 ≤ (pc : Int) + o) (hp1 : ((pc : Int) + o).toNat = pc1) (hp2 : pc + 3 = pc2) (hc : ¬ x = 0) (K : Go p e below P T (mkF m pc1 ls st)) : Go p e below P T (mkF m pc ls (.int x :: st)) :=
  K.st fun t q => XS.ifYes W.here W.hx rfl rfl hd rfl (by rw [if0]; exact (feq hc).2) ho hp1 q
theorem g_ifneN (W : Wd p l e R s m args below meth c Z a0 EL own F T h k n) {pc pc1 pc2 : Nat} {ls : Array Slot} {st : List Value} {x : Int32} {o : Int} (hd : decode c.code pc = .ok (.ifCond .ne o, 3)) (ho : 0 ≤ (pc : Int) + o) (hp1 : ((pc : Int) + o).toNat = pc1) (hp2 : pc + 3 = pc2) (hc : x = 0) (K : Go p e below P T (mkF m pc2 ls st)) : Go p e below P T (mkF m pc ls (.int x :: st)) := by
  subst hp2
  exact K.st fun t q => XS.ifNo W.here W.hx rfl hd rfl (by rw [if0]; exact (teq hc).2) q
theorem g_ifne (W : Wd p l e R s m args below meth c Z a0 EL own F T h k n) {pc pc1 pc2 : Nat} {ls : Array Slot} {st : List Value} {x : Int32} {o : Int} (hd : decode c.code pc = .ok (.ifCond .ne o, 3)) (ho : 0 ≤ (pc : Int) + o) (hp1 : ((pc : Int) + o).toNat = pc1) (hp2 : pc + 3 = pc2) (K1 : ¬ x = 0 → Go p e below P T (mkF m pc1 ls st)) (K2 : x = 0 → Go p e below P T (mkF m pc2 ls st)) : Go p e below P T (mkF m pc ls (.int x :: st)) := by
  by_cases hc : ¬ x = 0
  · exact g_ifneY W hd ho hp1 hp2 hc (K1 hc)
  · exact g_ifneN W hd ho hp1 hp2 (by first | exact hc | exact Decidable.not_not.mp hc) (K2 (by first | exact hc | exact Decidable.not_not.mp hc))
theorem g_icmpltY (W : Wd p l e R s m args below meth c Z a0 EL own F T h k n) {pc pc1 pc2 : Nat} {ls : Array Slot} {st : List Value} {x y : Int32} {o : Int} (hd : decode c.code pc = .ok (.if_icmp .lt o, 3)) (ho : 0 ≤ (pc : Int) + o) (hp1 : ((pc : Int) + o).toNat = pc1) (hp2 : pc + 3 = pc2) (hc : x < y) (K : Go p e below P T (mkF m pc1 ls st)) : Go p e below P T (mkF m pc ls (.int y :: .int x :: st)) :=
  K.st fun t q => XS.icmpYes W.here W.hx rfl rfl hd rfl (tlt hc).1 ho hp1 q
theorem g_icmpltN (W : Wd p l e R s m args below meth c Z a0 EL own F T h k n) {pc pc1 pc2 : Nat} {ls : Array Slot} {st : List Value} {x y : Int32} {o : Int} (hd : decode c.code pc = .ok (.if_icmp .lt o, 3)) (ho : 0 ≤ (pc : Int) + o) (hp1 : ((pc : Int) + o).toNat = pc1) (hp2 : pc + 3 = pc2) (hc : ¬ x < y) (K : Go p e below P T (mkF m pc2 ls st)) : Go p e below P T (mkF m pc ls (.int y :: .int x :: st)) := by
  subst hp2
  exact K.st fun t q => XS.icmpNo W.here W.hx rfl hd rfl (flt hc).1 q
theorem g_icmplt (W : Wd p l e R s m args below meth c Z a0 EL own F T h k n) {pc pc1 pc2 : Nat} {ls : Array Slot} {st : List Value} {x y : Int32} {o : Int} (hd : decode c.code pc = .ok (.if_icmp .lt o, 3)) (ho : 0 ≤ (pc : Int) + o) (hp1 : ((pc : Int) + o).toNat = pc1) (hp2 : pc + 3 = pc2) (K1 : x < y → Go p e below P T (mkF m pc1 ls st)) (K2 : ¬ x < y → Go p e below P T (mkF m pc2 ls st)) : Go p e below P T (mkF m pc ls (.int y :: .int x :: st)) := by
  by_cases hc : x < y
  · exact g_icmpltY W hd ho hp1 hp2 hc (K1 hc)
  · exact g_icmpltN W hd ho hp1 hp2 (by first | exact hc | exact Decidable.not_not.mp hc) (K2 (by first | exact hc | exact Decidable.not_not.mp hc))
theorem g_ifltN (W : Wd p l e R s m args below meth c Z a0 EL own F T h k n) {pc pc1 pc2 : Nat} {ls : Array Slot} {st : List Value} {x : Int32} {o : Int} (hd : decode c.code pc = .ok (.ifCond .lt o, 3)) (ho : 0 ≤ (pc : Int) + o) (hp1 : ((pc : Int) + o).toNat = pc1) (hp2 : pc + 3 = pc2) (hc : ¬ x < 0) (K : Go p e below P T (mkF m pc2 ls st)) : Go p e below P T (mkF m pc ls (.int x :: st)) := by
  subst hp2
  exact K.st fun t q => XS.ifNo W.here W.hx rfl hd rfl (by rw [if0]; exact (flt hc).1) q
theorem g_icmpgeY (W : Wd p l e R s m args below meth c Z a0 EL own F T h k n) {pc pc1 pc2 : Nat} {ls : Array Slot} {st : List Value} {x y : Int32} {o : Int} (hd : decode c.code pc = .ok (.if_icmp .ge o, 3)) (ho : 0 ≤ (pc : Int) + o) (hp1 : ((pc : Int) + o).toNat = pc1) (hp2 : pc + 3 = pc2) (hc : ¬ x < y) (K : Go p e below P T (mkF m pc1 ls st)) : Go p e below P T (mkF m pc ls (.int y :: .int x :: st)) :=
  K.st fun t q => XS.icmpYes W.here W.hx rfl rfl hd rfl (flt hc).2.1 ho hp1 q
theorem g_icmpgeN (W : Wd p l e R s m args below meth c Z a0 EL own F T h k n) {pc pc1 pc2 : Nat} {ls : Array Slot} {st : List Value} {x y : Int32} {o : Int} (hd : decode c.code pc = .ok (.if_icmp .ge o, 3)) (ho : 0 ≤ (pc : Int) + o) (hp1 : ((pc : Int) + o).toNat = pc1) (hp2 : pc + 3 = pc2) (hc : x < y) (K : Go p e below P T (mkF m pc2 ls st)) : Go p e below P T (mkF m pc ls (.int y :: .int x :: st)) := by
  subst hp2
  exact K.st fun t q => XS.icmpNo W.here W.hx rfl hd rfl (tlt hc).2.1 q
theorem g_ifgeY (W : Wd p l e R s m args below meth c Z a0 EL own F T h k n) {pc pc1 pc2 : Nat} {ls : Array Slot} {st : List Value} {x : Int32} {o : Int} (hd : decode c.code pc = .ok (.ifCond .ge o, 3)) (ho : 0 ≤ (pc : Int) + o) (hp1 : ((pc : Int) + o).toNat = pc1) (hp2 : pc + 3 = pc2) (hc : ¬ x < 0) (K : Go p e below P T (mkF m pc1 ls st)) : Go p e below P T (mkF m pc ls (.int x :: st)) :=
  K.st fun t q => XS.ifYes W.here W.hx rfl rfl hd rfl (by rw [if0]; exact (flt hc).2.1) ho hp1 q
theorem g_icmpgtY (W : Wd p l e R s m args below meth c Z a0 EL own F T h k n) {pc pc1 pc2 : Nat} {ls : Array Slot} {st : List Value} {x y : Int32} {o : Int} (hd : decode c.code pc = .ok (.if_icmp .gt o, 3)) (ho : 0 ≤ (pc : Int) + o) (hp1 : ((pc : Int) + o).toNat = pc1) (hp2 : pc + 3 = pc2) (hc : y < x) (K : Go p e below P T (mkF m pc1 ls st)) : Go p e below P T (mkF m pc ls (.int y :: .int x :: st)) :=
  K.st fun t q => XS.icmpYes W.here W.hx rfl rfl hd rfl (tlt hc).2.2.1 ho hp1 q
theorem g_icmpgtN (W : Wd p l e R s m args below meth c Z a0 EL own F T h k n) {pc pc1 pc2 : Nat} {ls : Array Slot} {st : List Value} {x y : Int32} {o : Int} (hd : decode c.code pc = .ok (.if_icmp .gt o, 3)) (ho : 0 ≤ (pc : Int) + o) (hp1 : ((pc : Int) + o).toNat = pc1) (hp2 : pc + 3 = pc2) (hc : ¬ y < x) (K : Go p e below P T (mkF m pc2 ls st)) : Go p e below P T (mkF m pc ls (.int y :: .int x :: st)) := by
  subst hp2
  exact K.st fun t q => XS.icmpNo W.here W.hx rfl hd rfl (flt hc).2.2.1 q
theorem g_icmpgt (W : Wd p l e R s m args below meth c Z a0 EL own F T h k n) {pc pc1 pc2 : Nat} {ls : Array Slot} {st : List Value} {x y : Int32} {o : Int} (hd : decode c.code pc = .ok (.if_icmp .gt o, 3)) (ho : 0 ≤ (pc : Int) + o) (hp1 : ((pc : Int) + o).toNat = pc1) (hp2 : pc + 3 = pc2) (K1 : y < x → Go p e below P T (mkF m pc1 ls st)) (K2 : ¬ y < x → Go p e below P T (mkF m pc2 ls st)) : Go p e below P T (mkF m pc ls (.int y :: .int x :: st)) := by
  by_cases hc : y < x
  · exact g_icmpgtY W hd ho hp1 hp2 hc (K1 hc)
  · exact g_icmpgtN W hd ho hp1 hp2 (by first | exact hc | exact Decidable.not_not.mp hc) (K2 (by first | exact hc | exact Decidable.not_not.mp hc))
theorem g_icmpleY (W : Wd p l e R s m args below meth c Z a0 EL own F T h k n) {pc pc1 pc2 : Nat} {ls : Array Slot} {st : List Value} {x y : Int32} {o : Int} (hd : decode c.code pc = .ok (.if_icmp .le o, 3)) (ho : 0 ≤ (pc : Int) + o) (hp1 : ((pc : Int) + o).toNat = pc1) (hp2 : pc + 3 = pc2) (hc : ¬ y < x) (K : Go p e below P T (mkF m pc1 ls st)) : Go p e below P T (mkF m pc ls (.int y :: .int x :: st)) :=
  K.st fun t q => XS.icmpYes W.here W.hx rfl rfl hd rfl (flt hc).2.2.2 ho hp1 q
theorem g_icmpleN (W : Wd p l e R s m args below meth c Z a0 EL own F T h k n) {pc pc1 pc2 : Nat} {ls : Array Slot} {st : List Value} {x y : Int32} {o : Int} (hd : decode c.code pc = .ok (.if_icmp .le o, 3)) (ho : 0 ≤ (pc : Int) + o) (hp1 : ((pc : Int) + o).toNat = pc1) (hp2 : pc + 3 = pc2) (hc : y < x) (K : Go p e below P T (mkF m pc2 ls st)) : Go p e below P T (mkF m pc ls (.int y :: .int x :: st)) := by
  subst hp2
  exact K.st fun t q => XS.icmpNo W.here W.hx rfl hd rfl (tlt hc).2.2.2 q
theorem g_icmple (W : Wd p l e R s m args below meth c Z a0 EL own F T h k n) {pc pc1 pc2 : Nat} {ls : Array Slot} {st : List Value} {x y : Int32} {o : Int} (hd : decode c.code pc = .ok (.if_icmp .le o, 3)) (ho : 0 ≤ (pc : Int) + o) (hp1 : ((pc : Int) + o).toNat = pc1) (hp2 : pc + 3 = pc2) (K1 : ¬ y < x → Go p e below P T (mkF m pc1 ls st)) (K2 : y < x → Go p e below P T (mkF m pc2 ls st)) : Go p e below P T (mkF m pc ls (.int y :: .int x :: st)) := by
  by_cases hc : ¬ y < x
  · exact g_icmpleY W hd ho hp1 hp2 hc (K1 hc)
  · exact g_icmpleN W hd ho hp1 hp2 (by first | exact hc | exact Decidable.not_not.mp hc) (K2 (by first | exact hc | exact Decidable.not_not.mp hc))
theorem g_ifleY (W : Wd p l e R s m args below meth c Z a0 EL own F T h k n) {pc pc1 pc2 : Nat} {ls : Array Slot} {st : List Value} {x : Int32} {o : Int} (hd : decode c.code pc = .ok (.ifCond .le o, 3)) (ho : 0 ≤ (pc : Int) + o) (hp1 : ((pc : Int) + o).toNat = pc1) (hp2 : pc + 3 = pc2) (hc : ¬ 0 < x) (K : Go p e below P T (mkF m pc1 ls st)) : Go p e below P T (mkF m pc ls (.int x :: st)) :=
  K.st fun t q => XS.ifYes W.here W.hx rfl rfl hd rfl (by rw [if0]; exact (flt hc).2.2.2) ho hp1 q
theorem g_ifleN (W : Wd p l e R s m args below meth c Z a0 EL own F T h k n) {pc pc1 pc2 : Nat} {ls : Array Slot} {st : List Value} {x : Int32} {o : Int} (hd : decode c.code pc = .ok (.ifCond .le o, 3)) (ho : 0 ≤ (pc : Int) + o) (hp1 : ((pc : Int) + o).toNat = pc1) (hp2 : pc + 3 = pc2) (hc : 0 < x) (K : Go p e below P T (mkF m pc2 ls st)) : Go p e below P T (mkF m pc ls (.int x :: st)) := by
  subst hp2
  exact K.st fun t q => XS.ifNo W.here W.hx rfl hd rfl (by rw [if0]; exact (tlt hc).2.2.2) q
theorem g_ifnullN (W : Wd p l e R s m args below meth c Z a0 EL own F T h k n) {pc pc1 pc2 : Nat} {ls : Array Slot} {st : List Value} {o : Int} {b : Addr} (hd : decode c.code pc = .ok (.ifnull o, 3)) (ho : 0 ≤ (pc : Int) + o) (hp1 : ((pc : Int) + o).toNat = pc1) (hp2 : pc + 3 = pc2) (K : Go p e below P T (mkF m pc2 ls st)) : Go p e below P T (mkF m pc ls (.ref b :: st)) := by
  subst hp2
  exact K.st fun t q => XS.ifnullNo W.here W.hx rfl hd rfl q
theorem g_ifnonnullY (W : Wd p l e R s m args below meth c Z a0 EL own F T h k n) {pc pc1 pc2 : Nat} {ls : Array Slot} {st : List Value} {o : Int} {b : Addr} (hd : decode c.code pc = .ok (.ifnonnull o, 3)) (ho : 0 ≤ (pc : Int) + o) (hp1 : ((pc : Int) + o).toNat = pc1) (hp2 : pc + 3 = pc2) (K : Go p e below P T (mkF m pc1 ls st)) : Go p e below P T (mkF m pc ls (.ref b :: st)) :=
  K.st fun t q => XT.ifnonnullYes W.here W.hx rfl rfl hd rfl ho hp1 q
theorem g_ldcI (W : Wd p l e R s m args below meth c Z a0 EL own F T h k n) {pc pc' : Nat} {ls : Array Slot} {st : List Value} {index : Nat} {v : Int32} (w : (Jvm.Cond.constant own index v).before a0 Z = true) (hd : decode c.code pc = .ok (.ldc index, 2)) (hp : pc + 2 = pc') (K : Go p e below P T (mkF m pc' ls (.int v :: st))) : Go p e below P T (mkF m pc ls st) := by
  subst hp
  obtain ⟨w1, w2, w3, w4, vm0, k0, locs, X, hZ, hown, r⟩ := W
  exact K.st fun t q => X.ldcI w1 (own := own) hown (mv hZ w) rfl hd q
theorem g_retF (W : Wd p l e R s m args below meth c Z a0 EL own F T h k n) {pc : Nat} {ls : Array Slot} {st : List Value} {v : Value} {t : FieldType} {i : Instr} {Q : Option Value → Heap → List Addr → Prop} {k' n' : Nat} (hd : decode c.code pc = .ok (i, 1)) (hret : meth.sig.returnType = some t) (hn : narrow t v = v)
    (hi : (i = .ireturn ∧ (t = .int ∨ t = .boolean ∨ t = .byte ∨ t = .char ∨ t = .short) ∧ ∃ z, v = .int z) ∨ (i = .lreturn ∧ t = .long ∧ ∃ z, v = .long z) ∨ (i = .dreturn ∧ t = .double ∧ ∃ z, v = .double z) ∨ (i = .freturn ∧ t = .float ∧ ∃ z, v = .float z) ∨ (i = .areturn ∧ t.isReference = true ∧ v.isRef = true))
    (hk : k ≤ k') (hs : n ≤ n') {FF : List Addr} (hFF : ∀ x ∈ FF, x ∈ F) (q : Q (some v) h FF) : Go p e below (Endp Z EL s Q k' n') T (mkF m pc ls (v :: st)) :=
  have hx := W.hx
  W.leave hk hs (fun h => by rw [hret] at h; cases h) hFF q fun X hr => retOut X hx hret hn hi hd hr
theorem g_ret (W : Wd p l e R s m args below meth c Z a0 EL own F T h k n) {pc : Nat} {ls : Array Slot} {st : List Value} {v : Value} {t : FieldType} {i : Instr} {Q : Option Value → Heap → List Addr → Prop} {k' n' : Nat} (hd : decode c.code pc = .ok (i, 1)) (hret : meth.sig.returnType = some t) (hn : narrow t v = v)
    (hi : (i = .ireturn ∧ (t = .int ∨ t = .boolean ∨ t = .byte ∨ t = .char ∨ t = .short) ∧ ∃ z, v = .int z) ∨ (i = .lreturn ∧ t = .long ∧ ∃ z, v = .long z) ∨ (i = .dreturn ∧ t = .double ∧ ∃ z, v = .double z) ∨ (i = .freturn ∧ t = .float ∧ ∃ z, v = .float z) ∨ (i = .areturn ∧ t.isReference = true ∧ v.isRef = true))
    (hk : k ≤ k') (hs : n ≤ n') (q : Q (some v) h []) : Go p e below (Endp Z EL s Q k' n') T (mkF m pc ls (v :: st)) :=
  g_retF W hd hret hn hi hk hs (FF := []) (fun x q => nomatch q) q
theorem g_reti (W : Wd p l e R s m args below meth c Z a0 EL own F T h k n) {pc : Nat} {ls : Array Slot} {st : List Value} {v : Int32} {Q : Option Value → Heap → List Addr → Prop} {k' n' : Nat} (hd : decode c.code pc = .ok (.ireturn, 1)) (hret : meth.sig.returnType = some .int) (hk : k ≤ k') (hs : n ≤ n') (q : Q (some (.int v)) h []) : Go p e below (Endp Z EL s Q k' n') T (mkF m pc ls (.int v :: st)) :=
  g_ret W hd hret rfl (Or.inl ⟨rfl, Or.inl rfl, v, rfl⟩) hk hs q
theorem g_retz (W : Wd p l e R s m args below meth c Z a0 EL own F T h k n) {pc : Nat} {ls : Array Slot} {st : List Value} {v : Int32} {Q : Option Value → Heap → List Addr → Prop} {k' n' : Nat} (hd : decode c.code pc = .ok (.ireturn, 1)) (hret : meth.sig.returnType = some .boolean) (hv : v = 0 ∨ v = 1) (hk : k ≤ k') (hs : n ≤ n') (q : Q (some (.int v)) h []) : Go p e below (Endp Z EL s Q k' n') T (mkF m pc ls (.int v :: st)) :=
  g_ret W hd hret (by rcases hv with rfl | rfl <;> rfl) (Or.inl ⟨rfl, Or.inr (Or.inl rfl), v, rfl⟩) hk hs q
theorem g_retc (W : Wd p l e R s m args below meth c Z a0 EL own F T h k n) {pc : Nat} {ls : Array Slot} {st : List Value} {v : Int32} {Q : Option Value → Heap → List Addr → Prop} {k' n' : Nat} (hd : decode c.code pc = .ok (.ireturn, 1)) (hret : meth.sig.returnType = some .char) (hv : narrow .char (.int v) = .int v) (hk : k ≤ k') (hs : n ≤ n') (q : Q (some (.int v)) h []) : Go p e below (Endp Z EL s Q k' n') T (mkF m pc ls (.int v :: st)) :=
  g_ret W hd hret hv (Or.inl ⟨rfl, Or.inr (Or.inr (Or.inr (Or.inl rfl))), v, rfl⟩) hk hs q
theorem g_areturn (W : Wd p l e R s m args below meth c Z a0 EL own F T h k n) {pc : Nat} {ls : Array Slot} {st : List Value} {v : Value} {t : FieldType} {Q : Option Value → Heap → List Addr → Prop} {k' n' : Nat} (hd : decode c.code pc = .ok (.areturn, 1)) (hret : meth.sig.returnType = some t) (ht : t.isReference = true) (hv : v.isRef = true) (hk : k ≤ k') (hs : n ≤ n') (q : Q (some v) h []) : Go p e below (Endp Z EL s Q k' n') T (mkF m pc ls (v :: st)) :=
  g_ret W hd hret (by rcases ref_cases hv with rfl | ⟨z, rfl⟩ <;> cases t <;> first | rfl | cases ht) (Or.inr (Or.inr (Or.inr (Or.inr ⟨rfl, ht, hv⟩)))) hk hs q
theorem g_return (W : Wd p l e R s m args below meth c Z a0 EL own F T h k n) {pc : Nat} {ls : Array Slot} {Q : Option Value → Heap → List Addr → Prop} {k' n' : Nat} (hd : decode c.code pc = .ok (.return_, 1)) (hret : meth.sig.returnType = none) (hk : k ≤ k') (hs : n ≤ n') (q : Q none h []) : Go p e below (Endp Z EL s Q k' n') T (mkF m pc ls []) :=
  have hx := W.hx
  W.leave hk hs (fun _ => rfl) (FF := []) (fun x q => nomatch q) q fun X hr => X.returnOut hx hret hd hr
theorem g_returnF (W : Wd p l e R s m args below meth c Z a0 EL own F T h k n) {pc : Nat} {ls : Array Slot} {Q : Option Value → Heap → List Addr → Prop} {k' n' : Nat} (hd : decode c.code pc = .ok (.return_, 1)) (hret : meth.sig.returnType = none) (hk : k ≤ k') (hs : n ≤ n') {FF : List Addr} (hFF : ∀ x ∈ FF, x ∈ F) (q : Q none h FF) : Go p e below (Endp Z EL s Q k' n') T (mkF m pc ls []) :=
  have hx := W.hx
  W.leave hk hs (fun _ => rfl) hFF q fun X hr => X.returnOut hx hret hd hr
theorem g_areturnF (W : Wd p l e R s m args below meth c Z a0 EL own F T h k n) {pc : Nat} {ls : Array Slot} {st : List Value} {v : Value} {t : FieldType} {Q : Option Value → Heap → List Addr → Prop} {k' n' : Nat} (hd : decode c.code pc = .ok (.areturn, 1)) (hret : meth.sig.returnType = some t) (ht : t.isReference = true) (hv : v.isRef = true) (hk : k ≤ k') (hs : n ≤ n') {FF : List Addr} (hFF : ∀ x ∈ FF, x ∈ F) (q : Q (some v) h FF) : Go p e below (Endp Z EL s Q k' n') T (mkF m pc ls (v :: st)) :=
  g_retF W hd hret (by rcases ref_cases hv with rfl | ⟨z, rfl⟩ <;> cases t <;> first | rfl | cases ht) (Or.inr (Or.inr (Or.inr (Or.inr ⟨rfl, ht, hv⟩)))) hk hs hFF q
end OwnB
/-! own kit, part C: heap steps and calls -/
section OwnC
variable {p : Program} {l : Launch} {e : Env} {R : Room} {s : State} {m : MethodId} {args : Array Value} {below : List Frame} {meth : Method} {c : Code} {T T' : State} {h h' : Heap} {Z : State} {a0 : Array Value} {EL : List (String × Nat)} {own : String} {k n : Nat} {P : Outcome → State → Prop} {F : List Addr}
theorem g_getfield (W : Wd p l e R s m args below meth c Z a0 EL own F T h k n) {pc pc' : Nat} {ls : Array Slot} {st : List Value} {R0 O nm d host : String} {index : Nat} (w : (Jvm.Cond.fieldLink own index R0 nm d).before a0 Z = true ∨ (Jvm.Cond.fieldLinkNest own index R0 nm d host).before a0 Z = true) (via : Via Z R0 O nm d) {a : Addr} {v : Value} (Fl : Fld Z h a O nm d v)
    (hd : decode c.code pc = .ok (.getfield index, 3)) (hp : pc + 3 = pc') (K : ∀ T', Wd p l e R s m args below meth c Z a0 EL own F T' h k n → Go p e below P T' (mkF m pc' ls (v :: st))) : Go p e below P T (mkF m pc ls (.ref a :: st)) := by
  subst hp
  exact W.grow (fun X hZ hown eT => getF X W.hx hZ hown w via eT Fl rfl rfl hd) (ext_refl h) K
theorem g_getstatic (W : Wd p l e R s m args below meth c Z a0 EL own F T h k n) {pc pc' : Nat} {ls : Array Slot} {st : List Value} {R0 O nm d host : String} {index : Nat} (w : (Jvm.Cond.fieldLink own index R0 nm d).before a0 Z = true ∨ (Jvm.Cond.fieldLinkNest own index R0 nm d host).before a0 Z = true) (via : Via Z R0 O nm d) {v : Value} (Fl : Sta Z h O nm d v)
    (hd : decode c.code pc = .ok (.getstatic index, 3)) (hp : pc + 3 = pc') (K : ∀ T', Wd p l e R s m args below meth c Z a0 EL own F T' h k n → Go p e below P T' (mkF m pc' ls (v :: st))) : Go p e below P T (mkF m pc ls st) := by
  subst hp
  exact W.grow (fun X hZ hown eT => getS2 X W.hx hZ hown w via eT Fl rfl hd) (ext_refl h) K
theorem g_putfield (W : Wd p l e R s m args below meth c Z a0 EL own F T h k n) {pc pc' : Nat} {ls : Array Slot} {st : List Value} {R0 O nm d host C : String} {index kk : Nat} {ty : FieldType} (w : (Jvm.Cond.fieldLink own index R0 nm d).before a0 Z = true ∨ (Jvm.Cond.fieldLinkNest own index R0 nm d host).before a0 Z = true) (via : Via Z R0 O nm d) {a : Addr} {v old : Value} (Fl : Fld Z h a O nm d old) (E : Exa Z h a C)
    (L : (Jvm.Cond.lays C O nm d).before a0 Z = true ∨ ((Jvm.Cond.laysFinal C O nm d).before a0 Z = true ∧ own = O ∧ meth.name = "<init>")) (wi : (Jvm.Cond.instantiable C kk).before a0 Z = true) (hty : parseFieldDescriptor d = some ty) (hn : narrow ty v = v) (hf : fits ty v = true) (q : Wok Z F h a)
    (hd : decode c.code pc = .ok (.putfield index, 3)) (hp : pc + 3 = pc') (K : ∀ T' h', Wd p l e R s m args below meth c Z a0 EL own F T' h' k n → Wr h h' a (Jvm.RoadKit.slotOf Z O nm d) v → Go p e below P T' (mkF m pc' ls st)) : Go p e below P T (mkF m pc ls (v :: .ref a :: st)) := by
  subst hp
  exact W.write q (fun X hZ hown eT => putF X W.hx hZ hown w via eT Fl E L wi hty hn hf rfl rfl hd) K
/-- a step that makes one cell: it is one of the walk's own -/
theorem Wd.make (W : Wd p l e R s m args below meth c Z a0 EL own F T h k n) {k' n' : Nat} {g g' : JFrame} {B : Heap → Prop}
    (st : ∀ {vm0 : Vm} {locs : List Loc}, Stand p l e R (s.setVm vm0) m args below meth c T locs k n → Z.Warmed39 vm0 → vm0.findClass own = some m.cls → T.heap = h →
      ∃ T' h', Stand p l e R (s.setVm vm0) m args below meth c T' locs k' n' ∧ T'.heap = h' ∧ Ext h h' ∧ h.size < h'.size ∧ B h' ∧ ∀ target, Steps p.tables e below (T'.setTop g') target → Steps p.tables e below (T.setTop g) target)
    (K : ∀ T' h', Wd p l e R s m args below meth c Z a0 EL own (h.size :: F) T' h' k' n' → Ext h h' → B h' → Go p e below P T' g') : Go p e below P T g := by
  obtain ⟨w1, w2, w3, w4, vm0, k0, locs, X, hZ, hown, eT, hS, hk, hC, hN, hH, hF⟩ := W
  obtain ⟨T', h', X', eT', E, hlt, hB, st⟩ := st X hZ hown eT
  refine (K T' h' ⟨w1, ext_trans w2 E, w3, w4, vm0, k0, locs, X', hZ, hown, eT', hS, Nat.le_trans hk E.1, hC.trans (CHr.ext E hC.1), hN, hH, fun x q => ?_⟩ E hB).st st
  rcases List.mem_cons.mp q with rfl | q
  · exact ⟨hlt, Safe.ext E hC.1 (Safe.new (Nat.le_refl _))⟩
  · exact ⟨Nat.lt_of_lt_of_le (hF x q).1 E.1, Safe.ext E hC.1 (hF x q).2⟩
theorem g_new (W : Wd p l e R s m args below meth c Z a0 EL own F T h k n) {pc pc' : Nat} {ls : Array Slot} {st : List Value} {C : String} {index nn : Nat} (w : (Jvm.Cond.classLink own index C).before a0 Z = true) (wi : (Jvm.Cond.instantiable C nn).before a0 Z = true) (wz : (Jvm.Cond.initialized C).before a0 Z = true)
    (hd : decode c.code pc = .ok (.new index, 3)) (hp : pc + 3 = pc') (hc : k + 1 ≤ R.cells) (hl : n + nn ≤ R.slots)
    (K : ∀ x T' h', h.size ≤ x → Wd p l e R s m args below meth c Z a0 EL own (x :: F) T' h' (k + 1) (n + nn) → Ext h h' → (Exa Z h' x C ∧ ∀ {O nm d : String} {ty : FieldType}, Laid Z a0 C O nm d → parseFieldDescriptor d = some ty → Fld Z h' x O nm d (defaultValue ty)) → Go p e below P T' (mkF m pc' ls (.ref x :: st))) : Go p e below P T (mkF m pc ls st) := by
  subst hp
  refine W.make (B := fun h' => Exa Z h' h.size C ∧ ∀ {O nm d : String} {ty : FieldType}, Laid Z a0 C O nm d → parseFieldDescriptor d = some ty → Fld Z h' h.size O nm d (defaultValue ty)) (fun X hZ hown eT => ?_) (fun T' h' => K h.size T' h' (Nat.le_refl _))
  obtain ⟨T', h', X', e1, E, A, D, -, st⟩ := newO X W.hx hZ hown w wi wz eT (g := mkF m pc ls st) rfl hd hc hl
  exact ⟨T', h', X', e1, E, A.lt, ⟨A, D⟩, st⟩
/-- an array whose components are these -/
def Ali (Z : State) (h : Heap) (a : Addr) (ty : FieldType) (vs : List Value) : Prop := ∃ cell : Cell, Arr Z h a cell ty ∧ cell.slots.toList = vs ∧ vs.length < 2 ^ 31
theorem Ali.lt {a : Addr} {ty : FieldType} {vs : List Value} (A : Ali Z h a ty vs) : a < h.size := by obtain ⟨c, q, -⟩ := A; exact q.lt
theorem Ali.ext {a : Addr} {ty : FieldType} {vs : List Value} (E : Ext h h') (A : Ali Z h a ty vs) : Ali Z h' a ty vs := by obtain ⟨c, q, r⟩ := A; exact ⟨c, q.ext E, r⟩
theorem Ali.keep {a : Addr} {ty : FieldType} {vs : List Value} {ws : List Addr} (K : Keep h h' ws) (q : a ∉ ws) (A : Ali Z h a ty vs) : Ali Z h' a ty vs := by obtain ⟨c, r, t⟩ := A; exact ⟨c, ⟨K.2.1 _ _ r.1 q, r.2⟩, t⟩
theorem Ali.wok {a : Addr} {ty : FieldType} {vs : List Value} (A : Ali Z h a ty vs) (ht : ty ≠ .byte) (q : Z.heap.size ≤ a) : Wok Z F h a := by obtain ⟨c, r, -⟩ := A; exact ⟨q, Or.inr (Or.inr ⟨c, ty, r, ht⟩)⟩
theorem g_newarray (W : Wd p l e R s m args below meth c Z a0 EL own F T h k n) {pc pc' : Nat} {ls : Array Slot} {st : List Value} {aty : ArrayType} {ty : FieldType} (ht : newarray.typeOf aty = ty) {z : Int32} {i : Nat} (hz : ¬ z < 0) (hi : z.toNatClampNeg = i) (w : (Jvm.Cond.arrayClass ty).before a0 Z = true)
    (hd : decode c.code pc = .ok (.newarray aty, 2)) (hp : pc + 2 = pc') {cap : Nat} (hcap : i ≤ cap) (hb : cap * 8 ≤ 536870912) (hc : k + 1 ≤ R.cells) (hl : n + cap ≤ R.slots)
    (K : ∀ x T' h', h.size ≤ x → Wd p l e R s m args below meth c Z a0 EL own (x :: F) T' h' (k + 1) (n + cap) → Ext h h' → Ali Z h' x ty (List.replicate i (defaultValue ty)) → Go p e below P T' (mkF m pc' ls (.ref x :: st))) : Go p e below P T (mkF m pc ls (.int z :: st)) := by
  subst hp ht
  refine W.make (B := fun h' => Ali Z h' h.size (newarray.typeOf aty) (List.replicate i (defaultValue (newarray.typeOf aty)))) (fun X hZ hown eT => ?_) (fun T' h' => K h.size T' h' (Nat.le_refl _))
  obtain ⟨T', h', cA, X', e1, E, A, st⟩ := newP X W.hx hZ w eT (g := mkF m pc ls (.int z :: st)) rfl hd rfl hz (by rw [hi]; exact hcap) hb hc hl
  refine ⟨T', h', X', e1, E, A.lt, ⟨_, A, by simp [newA, hi], ?_⟩, st⟩
  rw [List.length_replicate]
  have := (back32 hz).2
  omega
theorem Ali.get {a : Addr} {ty : FieldType} {vs : List Value} (A : Ali Z h a ty vs) : ∃ cell : Cell, Arr Z h a cell ty ∧ cell.slots.size = vs.length ∧ ∀ i : Nat, cell.slots[i]? = vs[i]? := by
  obtain ⟨c, A, rfl, -⟩ := A
  exact ⟨c, A, by simp, fun i => by simp⟩
theorem Ali.set {a : Addr} {ty : FieldType} {vs : List Value} {i : Nat} {v : Value} (A : Ali Z h a ty vs) (W : Wr h h' a i v) : Ali Z h' a ty (vs.set i v) := by
  obtain ⟨c, A, rfl, q⟩ := A
  exact ⟨_, A.same W, by simp [Cell.setSlot], by simpa using q⟩
theorem g_castore (W : Wd p l e R s m args below meth c Z a0 EL own F T h k n) {pc pc' : Nat} {ls : Array Slot} {st : List Value} {a : Addr} {cs : List Int32} (A : Ali Z h a .char (cs.map Value.int)) (q : Z.heap.size ≤ a) {j x : Int32} {i : Nat} (hj : ¬ j < 0) (hi : j.toNatClampNeg = i) (hlt : i < cs.length) (hx0 : ¬ x < 0) (hx1 : ¬ 65535 < x)
    (hd : decode c.code pc = .ok (.castore, 1)) (hp : pc + 1 = pc')
    (K : ∀ T' h', Wd p l e R s m args below meth c Z a0 EL own F T' h' k n → Keep h h' [a] → Ali Z h' a .char ((cs.set i x).map Value.int) → Go p e below P T' (mkF m pc' ls st)) : Go p e below P T (mkF m pc ls (.int x :: .int j :: .ref a :: st)) := by
  subst hp
  obtain ⟨cell, A1, hsz, -⟩ := A.get
  have hn : nar .char x = x := by
    have := c_i2c x
    apply Int32.toInt_inj.mp
    have r := rng32 x
    rw [Int32.lt_iff_toInt_lt] at hx0 hx1
    have e0 : (0 : Int32).toInt = 0 := rfl
    have e1 : (65535 : Int32).toInt = 65535 := rfl
    show x.toUInt32.toUInt16.toUInt32.toInt32.toInt = x.toInt
    omega
  refine W.write (a := a) (sl := i) (v := .int x) (A.wok (by decide) q) (fun X hZ hown eT => ?_) (fun T' h' W' Wr1 => K T' h' W' (Keep.of_wr Wr1) (by rw [List.map_set]; exact A.set Wr1))
  obtain ⟨T', h', X', e1, W1, st⟩ := stC X W.hx hZ eT A1 (j := j) (x := x) (by rw [hsz, hi]; simp only [List.length_map]; exact fun r => r.elim hj (by omega)) (g := mkF m pc ls (.int x :: .int j :: .ref a :: st)) rfl rfl hd
  rw [hi] at X' W1
  rw [hn] at W1
  exact ⟨T', h', X', e1, W1, st⟩
theorem g_caload (W : Wd p l e R s m args below meth c Z a0 EL own F T h k n) {pc pc' : Nat} {ls : Array Slot} {st : List Value} {a : Addr} {cs : List Int32} (A : Ali Z h a .char (cs.map Value.int)) {j : Int32} {i : Nat} (hj : ¬ j < 0) (hi : j.toNatClampNeg = i) (hlt : i < cs.length)
    (hd : decode c.code pc = .ok (.caload, 1)) (hp : pc + 1 = pc') (K : Go p e below P T (mkF m pc' ls (.int (cs.getD i 0) :: st))) : Go p e below P T (mkF m pc ls (.int j :: .ref a :: st)) := by
  subst hp
  obtain ⟨cell, A1, hsz, hget⟩ := A.get
  obtain ⟨w1, w2, w3, w4, vm0, k0, locs, X, hZ, hown, rfl, r⟩ := W
  refine K.st fun t q => X.caload w1 A1.1 (State.isArrayOf_alike (s := Z) hZ.alike A1.2.1) A1.2.2 (j := j) (by rw [hsz, hi]; simp only [List.length_map]; exact fun r => r.elim hj (by omega)) (v := .int (cs.getD i 0)) (by rw [hi, hget]; simp [hlt]) (g := mkF m pc ls (.int j :: .ref a :: st)) rfl rfl hd t q
theorem g_arraylength (W : Wd p l e R s m args below meth c Z a0 EL own F T h k n) {pc pc' : Nat} {ls : Array Slot} {st : List Value} {a : Addr} {ty : FieldType} {vs : List Value} (A : Ali Z h a ty vs) {z : Int32} (hz : Int32.ofNat vs.length = z)
    (hd : decode c.code pc = .ok (.arraylength, 1)) (hp : pc + 1 = pc') (K : Go p e below P T (mkF m pc' ls (.int z :: st))) : Go p e below P T (mkF m pc ls (.ref a :: st)) := by
  subst hp hz
  obtain ⟨cell, A1, hsz, hget⟩ := A.get
  obtain ⟨w1, w2, w3, w4, vm0, k0, locs, X, hZ, hown, rfl, r⟩ := W
  refine K.st fun t q => X.arraylength w1 A1.1 (State.isArrayOf_alike (s := Z) hZ.alike A1.2.1) (g := mkF m pc ls (.ref a :: st)) rfl rfl hd t (by rw [hsz]; exact q)
theorem g_initO (W : Wd p l e R s m args below meth c Z a0 EL own F T h k n) {pc pc' : Nat} {ls : Array Slot} {st : List Value} {a : Addr} {index : Nat} (w1 : (Jvm.Cond.methodLink own index Lib.objectInit).before a0 Z = true) (w2 : (Jvm.Cond.instanceMethod Lib.objectInit).before a0 Z = true) (w3 : (Jvm.Cond.code Lib.objectInit ⟨#[0xb1]⟩ 1 none).before a0 Z = true) (hsz : ls.size = c.maxLocals)
    (hd : decode c.code pc = .ok (.invokespecial index, 3)) (hp : pc + 3 = pc') (hf : 1 ≤ R.frames) {Wn : Nat} (hW : (st.map fun v => v.category).sum ≤ Wn) (hl : Wn + 12 ≤ R.locals) (K : ∀ T', Wd p l e R s m args below meth c Z a0 EL own F T' h k n → Go p e below P T' (mkF m pc' ls st)) : Go p e below P T (mkF m pc ls (.ref a :: st)) := by
  subst hp
  exact W.grow (fun X hZ hown eT => initO X W.hx hZ hown w1 w2 w3 eT (g := mkF m pc ls (.ref a :: st)) rfl hsz rfl hd hf (by simpa using hW) hl) (ext_refl h) K
/-! calls by contract -/
theorem nf_cls {y y' : MethodName} {C' : String} (hc : y'.cls = y.cls) (w : (Jvm.Cond.selects C' y' y').before args s = true) : NotFace s y := fun r0 h0 => by
  obtain ⟨c2, r2, m2, q1, q2, q3, q4, kP, hkP, hkPi⟩ := Cond.selects_spec w
  have e1 := findClass_of_methodNamed h0
  have e2 := findClass_of_methodNamed q3
  rw [hc] at e2
  have e : r0.cls = m2.cls := Option.some.inj (e1.symm.trans e2)
  exact ⟨kP, by rw [e]; exact hkP, hkPi⟩
theorem Met.back {F' : List Addr} {y : MethodName} {bytes : ByteArray} {maxL : Nat} {ret : Option FieldType} {rm : Room} {as' : Array Value} {Q : Option Value → Heap → List Addr → Prop} (hM : Met l Z EL F' y bytes maxL ret rm as' h Q) {vm0 : Vm} {len Wn : Nat}
    (hZ : Z.Warmed39 vm0) (wc : (Jvm.Cond.code y bytes maxL ret).before a0 Z = true) (wz : (Jvm.Cond.initialized y.cls).before a0 Z = true) (hf : rm.frames + 1 ≤ R.frames) (hl : Wn + (maxL + 11) + rm.locals ≤ R.locals) (hEL : EW Z a0 EL) (H : CHv Z EL vm0 h) (hF : ∀ x ∈ F', x < h.size ∧ Safe Z EL vm0 h x) :
    BackS l R p e below (s.setVm vm0) args y len Wn (fun A a => a = as' ∧ A.U.heap = h ∧ A.cells + rm.cells ≤ R.cells ∧ A.slots + rm.slots ≤ R.slots)
      (fun A _ v B => ∃ L FF, (Q v B.U.heap FF ∧ Fr Z.heap.size L ∧ Ext Z.heap B.U.heap ∧ ∀ x ∈ FF, x < B.U.heap.size ∧ Safe Z EL B.U.vm B.U.heap x) ∧ B.locs = A.locs ++ L ∧ B.cells = A.cells + rm.cells ∧ B.slots = A.slots + rm.slots ∧ CHr Z EL vm0 h B.U.vm B.U.heap ∧ (EL = [] → (s.setVm vm0).WarmedH B.U.vm)) :=
  BackS.of_freeW (bytes := bytes) (maxL := maxL) (ret := ret) (E := fun _ first o t L k n => k = rm.cells ∧ n = rm.slots ∧ (∃ v FF, o = .returned v ∧ Q v t.heap FF ∧ Fr Z.heap.size L ∧ Ext Z.heap t.heap ∧ ∀ x ∈ FF, x < t.heap.size ∧ Safe Z EL t.vm t.heap x) ∧ CHr Z EL first.vm first.heap t.vm t.heap ∧ (EL = [] → first.WarmedH t.vm)) hM hf hl
    (fun m meth c A a Y hp => have hU : Z.Warmed39 A.U.vm := wtrans (s := s.setVm vm0) hZ Y.warmed
      ⟨by show (Jvm.Cond.and _ .tt).before a A.U = true; rw [Cond.before_and, mv hU wc]; rfl, mv hU wc, mv hU wz, hp.2.2.1, hp.2.2.2⟩)
    (fun m meth c A a g mk Y hp => ⟨hp.1, wtrans (s := s.setVm vm0) hZ Y.warmed, hp.2.1, (CHv.at Y hZ hEL H).1, fun x q => ⟨(hF x q).1, (CHv.at Y hZ hEL H).safe (hF x q).1 (hF x q).2⟩⟩) (fun _ _ _ _ _ _ _ _ _ => trivial)
    (fun _ _ _ _ ⟨v, L, FF, h1, h2, h3, h4, h5⟩ => ⟨L, _, _, h4, rfl, rfl, ⟨v, FF, h1, h2⟩, h3, h5⟩)
    (fun m meth c A a g mk v t L k n Y hp _ _ ⟨e1, e2, ⟨v', FF, e3, e4⟩, e5, e6⟩ => by
      cases e3; subst e1 e2
      refine ⟨L, FF, e4, rfl, rfl, rfl, (CHv.at Y hZ hEL H).trans ?_, fun z => State.WarmedH.trans (t := A.U) Y.warmed (e6 z)⟩
      rw [← hp.2.1]; exact e5)
theorem wd_after (w1 : p.tables.exec = Jvm.exec) (w3 : EW Z a0 EL) (w4 : meth.locks = false) {vm0 : Vm} {k0 : Nat} {locs L : List Loc} {B : Pt} (hZ : Z.Warmed39 vm0) (hown : vm0.findClass own = some m.cls) (hS : s.Since vm0 k0) (hk : k0 ≤ h.size) (hC : CHr Z EL s.vm s.heap vm0 h) (hN : Fr Z.heap.size locs)
    (hF : ∀ x ∈ F, x < h.size ∧ Safe Z EL vm0 h x) (X' : Stand p l e R ((s.setVm vm0).setVm B.U.vm) m args below meth c B.U B.locs B.cells B.slots) (hS' : (s.setVm vm0).Since B.U.vm B.U.heap.size) (hg : h.size ≤ B.U.heap.size) (hNL : Fr Z.heap.size L) (hO : Ext Z.heap B.U.heap) (hl : B.locs = locs ++ L)
    (hc' : CHr Z EL vm0 h B.U.vm B.U.heap) (hH : EL = [] → s.WarmedH vm0) (hH' : EL = [] → (s.setVm vm0).WarmedH B.U.vm) {FF : List Addr} (hFF : ∀ x ∈ FF, x < B.U.heap.size ∧ Safe Z EL B.U.vm B.U.heap x) : Wd p l e R s m args below meth c Z a0 EL own (FF ++ F) B.U B.U.heap B.cells B.slots :=
  ⟨w1, hO, w3, w4, B.U.vm, B.U.heap.size, B.locs, X', State.Warmed39.trans (t := s.setVm vm0) hZ hS'.1, (hS'.1.alike.findClass _ _).trans hown, rfl, hS.trans hS' (Nat.le_trans hk hg), Nat.le_refl _, hC.trans hc', hl ▸ hN.app hNL, fun z => State.WarmedH.trans (t := s.setVm vm0) (hH z) (hH' z), fun x q => (List.mem_append.mp q).elim (hFF x) fun q => ⟨Nat.lt_of_lt_of_le (hF x q).1 hg, hc'.safe (hF x q).1 (hF x q).2⟩⟩
/-- a value comes back -/
def Ret (Q : Value → Heap → Prop) (v : Option Value) (h : Heap) (_ : List Addr) : Prop := ∃ w, v = some w ∧ Q w h
def RetF (Q : Value → Heap → List Addr → Prop) (v : Option Value) (h : Heap) (FF : List Addr) : Prop := ∃ w, v = some w ∧ Q w h FF
def VoidF (Q : Heap → List Addr → Prop) (v : Option Value) (h : Heap) (FF : List Addr) : Prop := v = none ∧ Q h FF
def Void (Q : Heap → Prop) (v : Option Value) (h : Heap) (_ : List Addr) : Prop := v = none ∧ Q h
theorem g_callSO (W : Wd p l e R s m args below meth c Z a0 EL own F T h k n) {F' : List Addr} {y : MethodName} {bytes : ByteArray} {maxL : Nat} {ret : Option FieldType} {rm : Room} {as' : Array Value} {Q : Option Value → Heap → List Addr → Prop} (hM : Met l Z EL F' y bytes maxL ret rm as' h Q) (hF' : ∀ x ∈ F', x ∈ F) {index : Nat}
    (v1 : (Jvm.Cond.methodLink own index y).before a0 Z = true) (v2 : (Jvm.Cond.static y).before a0 Z = true) (v3 : (Jvm.Cond.initialized y.cls).before a0 Z = true) (v4 : (Jvm.Cond.code y bytes maxL ret).before a0 Z = true) (hy : y.cls ≠ "java/lang/invoke/MethodHandle" ∧ y.cls ≠ "java/lang/invoke/VarHandle")
    {ps : List FieldType} {rt : Option FieldType} (pd : parseMethodDescriptor y.desc = some ⟨ps, rt⟩) {argsL : List Value} (has : argsL.toArray = as') (hal : argsL.length = ps.length) {pc pc' : Nat} {ls : Array Slot} {st rest : List Value} (hst : st = argsL.reverse ++ rest) (hsz : ls.size = c.maxLocals)
    (hd : decode c.code pc = .ok (.invokestatic index, 3)) (hp : pc + 3 = pc') {Wn : Nat} (hW : (rest.map fun v => v.category).sum ≤ Wn) (hf : rm.frames + 1 ≤ R.frames) (hl : Wn + (maxL + 11) + rm.locals ≤ R.locals) (hc : k + rm.cells ≤ R.cells) (hs : n + rm.slots ≤ R.slots)
    (K : ∀ v T' h' FF, Wd p l e R s m args below meth c Z a0 EL own (FF ++ F) T' h' (k + rm.cells) (n + rm.slots) → h.size ≤ h'.size → Q v h' FF → Go p e below P T' (mkF m pc' ls (v.toList ++ rest))) : Go p e below P T (mkF m pc ls st) := by
  subst hp hst has
  obtain ⟨w1, w2, w3, w4, vm0, k0, locs, X, hZ, hown, eT, hS, hk, hC, hN, hH, hF⟩ := W
  obtain ⟨v, vm1, B, hw1, X', hS', hg, ⟨L, FF, ⟨q1, q2, q3, q4⟩, r1, r2, r3, r4, r5⟩, st⟩ := callSS X w1 (own := own) hown (mvT (s := s.setVm vm0) hZ v1) (mvT (s := s.setVm vm0) hZ v2) (mvT (s := s.setVm vm0) hZ v3) (mvT (s := s.setVm vm0) hZ v4) hy (Met.back hM hZ v4 v3 hf hl w3 hC.1 (fun x q => hF x (hF' x q))) (g := mkF m pc ls (argsL.reverse ++ rest)) rfl hsz (argsL := argsL) (rest := rest) (lenOf pd hal) rfl (by simpa using hW) hd (fun _ _ => ⟨rfl, eT, hc, hs⟩)
  rw [eT] at hg
  have W' := wd_after (B := B) w1 w3 w4 hZ hown hS hk hC hN hF X' hS' hg q2 q3 r1 r4 hH r5 q4
  simp only [Pt.cells, Pt.slots] at W' r2 r3
  rw [r2, r3] at W'
  exact (K v B.U _ FF W' hg q1).tr st
theorem g_callS (W : Wd p l e R s m args below meth c Z a0 EL own F T h k n) {F' : List Addr} {y : MethodName} {bytes : ByteArray} {maxL : Nat} {ret : Option FieldType} {rm : Room} {as' : Array Value} {Q : Value → Heap → Prop} (hM : Met l Z EL F' y bytes maxL ret rm as' h (Ret Q)) (hF' : ∀ x ∈ F', x ∈ F) {index : Nat}
    (v1 : (Jvm.Cond.methodLink own index y).before a0 Z = true) (v2 : (Jvm.Cond.static y).before a0 Z = true) (v3 : (Jvm.Cond.initialized y.cls).before a0 Z = true) (v4 : (Jvm.Cond.code y bytes maxL ret).before a0 Z = true) (hy : y.cls ≠ "java/lang/invoke/MethodHandle" ∧ y.cls ≠ "java/lang/invoke/VarHandle")
    {ps : List FieldType} {rt : Option FieldType} (pd : parseMethodDescriptor y.desc = some ⟨ps, rt⟩) {argsL : List Value} (has : argsL.toArray = as') (hal : argsL.length = ps.length) {pc pc' : Nat} {ls : Array Slot} {st rest : List Value} (hst : st = argsL.reverse ++ rest) (hsz : ls.size = c.maxLocals)
    (hd : decode c.code pc = .ok (.invokestatic index, 3)) (hp : pc + 3 = pc') {Wn : Nat} (hW : (rest.map fun v => v.category).sum ≤ Wn) (hf : rm.frames + 1 ≤ R.frames) (hl : Wn + (maxL + 11) + rm.locals ≤ R.locals) (hc : k + rm.cells ≤ R.cells) (hs : n + rm.slots ≤ R.slots)
    (K : ∀ v T' h', Wd p l e R s m args below meth c Z a0 EL own F T' h' (k + rm.cells) (n + rm.slots) → h.size ≤ h'.size → Q v h' → Go p e below P T' (mkF m pc' ls (v :: rest))) : Go p e below P T (mkF m pc ls st) :=
  g_callSO W hM hF' v1 v2 v3 v4 hy pd has hal hst hsz hd hp hW hf hl hc hs fun v T' h' FF W' hg q => by
    obtain ⟨w, rfl, q⟩ := q
    exact K w T' h' (W'.drop fun x z => List.mem_append.mpr (Or.inr z)) hg q
theorem g_callSF (W : Wd p l e R s m args below meth c Z a0 EL own F T h k n) {F' : List Addr} {y : MethodName} {bytes : ByteArray} {maxL : Nat} {ret : Option FieldType} {rm : Room} {as' : Array Value} {Q : Value → Heap → List Addr → Prop} (hM : Met l Z EL F' y bytes maxL ret rm as' h (RetF Q)) (hF' : ∀ x ∈ F', x ∈ F) {index : Nat}
    (v1 : (Jvm.Cond.methodLink own index y).before a0 Z = true) (v2 : (Jvm.Cond.static y).before a0 Z = true) (v3 : (Jvm.Cond.initialized y.cls).before a0 Z = true) (v4 : (Jvm.Cond.code y bytes maxL ret).before a0 Z = true) (hy : y.cls ≠ "java/lang/invoke/MethodHandle" ∧ y.cls ≠ "java/lang/invoke/VarHandle")
    {ps : List FieldType} {rt : Option FieldType} (pd : parseMethodDescriptor y.desc = some ⟨ps, rt⟩) {argsL : List Value} (has : argsL.toArray = as') (hal : argsL.length = ps.length) {pc pc' : Nat} {ls : Array Slot} {st rest : List Value} (hst : st = argsL.reverse ++ rest) (hsz : ls.size = c.maxLocals)
    (hd : decode c.code pc = .ok (.invokestatic index, 3)) (hp : pc + 3 = pc') {Wn : Nat} (hW : (rest.map fun v => v.category).sum ≤ Wn) (hf : rm.frames + 1 ≤ R.frames) (hl : Wn + (maxL + 11) + rm.locals ≤ R.locals) (hc : k + rm.cells ≤ R.cells) (hs : n + rm.slots ≤ R.slots)
    (K : ∀ v T' h' FF, Wd p l e R s m args below meth c Z a0 EL own (FF ++ F) T' h' (k + rm.cells) (n + rm.slots) → h.size ≤ h'.size → Q v h' FF → Go p e below P T' (mkF m pc' ls (v :: rest))) : Go p e below P T (mkF m pc ls st) :=
  g_callSO W hM hF' v1 v2 v3 v4 hy pd has hal hst hsz hd hp hW hf hl hc hs fun v T' h' FF W' hg q => by
    obtain ⟨w, rfl, q⟩ := q
    exact K w T' h' FF W' hg q
theorem g_specF (W : Wd p l e R s m args below meth c Z a0 EL own F T h k n) {F' : List Addr} {y : MethodName} {bytes : ByteArray} {maxL : Nat} {rm : Room} {as' : Array Value} {Q : Heap → List Addr → Prop} (hM : Met l Z EL F' y bytes maxL none rm as' h (VoidF Q)) (hF' : ∀ x ∈ F', x ∈ F) {index : Nat} (hy1 : y.name = "<init>")
    (v1 : (Jvm.Cond.methodLink own index y).before a0 Z = true) (v2 : (Jvm.Cond.instanceMethod y).before a0 Z = true) (v3 : (Jvm.Cond.initialized y.cls).before a0 Z = true) (v4 : (Jvm.Cond.code y bytes maxL none).before a0 Z = true) (hy : y.cls ≠ "java/lang/invoke/MethodHandle" ∧ y.cls ≠ "java/lang/invoke/VarHandle")
    {ps : List FieldType} {rt : Option FieldType} (pd : parseMethodDescriptor y.desc = some ⟨ps, rt⟩) {a : Addr} {argsL : List Value} (has : (.ref a :: argsL).toArray = as') (hal : argsL.length = ps.length) {pc pc' : Nat} {ls : Array Slot} {st rest : List Value} (hst : st = argsL.reverse ++ .ref a :: rest) (hsz : ls.size = c.maxLocals)
    (hd : decode c.code pc = .ok (.invokespecial index, 3)) (hp : pc + 3 = pc') {Wn : Nat} (hW : (rest.map fun v => v.category).sum ≤ Wn) (hf : rm.frames + 1 ≤ R.frames) (hl : Wn + (maxL + 11) + rm.locals ≤ R.locals) (hc : k + rm.cells ≤ R.cells) (hs : n + rm.slots ≤ R.slots)
    (K : ∀ T' h' FF, Wd p l e R s m args below meth c Z a0 EL own (FF ++ F) T' h' (k + rm.cells) (n + rm.slots) → h.size ≤ h'.size → Q h' FF → Go p e below P T' (mkF m pc' ls rest)) : Go p e below P T (mkF m pc ls st) := by
  subst hp hst has
  obtain ⟨w1, w2, w3, w4, vm0, k0, locs, X, hZ, hown, eT, hS, hk, hC, hN, hH, hF⟩ := W
  obtain ⟨v, vm1, B, hw1, X', hS', hg, ⟨L, FF, ⟨q1, q2, q3, q4⟩, r1, r2, r3, r4, r5⟩, st⟩ := X.specialBackS w1 (own := own) hy1 hown (mvT (s := s.setVm vm0) hZ v1) (mvT (s := s.setVm vm0) hZ v2) (mvT (s := s.setVm vm0) hZ v4) hy (Met.back hM hZ v4 v3 hf hl w3 hC.1 (fun x q => hF x (hF' x q))) (g := mkF m pc ls (argsL.reverse ++ .ref a :: rest)) rfl hsz (Steps.refl _) (a := a) (argsL := argsL) (rest := rest) (lenOf pd hal) rfl (by simpa using hW) hd (fun _ _ => ⟨rfl, eT, hc, hs⟩)
  rw [eT] at hg
  have W' := wd_after (B := B) w1 w3 w4 hZ hown hS hk hC hN hF X' hS' hg q2 q3 r1 r4 hH r5 q4
  simp only [Pt.cells, Pt.slots] at W' r2 r3
  rw [r2, r3] at W'
  obtain ⟨rfl, q1⟩ := q1
  exact (K B.U _ FF W' hg q1).tr st
theorem g_spec (W : Wd p l e R s m args below meth c Z a0 EL own F T h k n) {F' : List Addr} {y : MethodName} {bytes : ByteArray} {maxL : Nat} {rm : Room} {as' : Array Value} {Q : Heap → Prop} (hM : Met l Z EL F' y bytes maxL none rm as' h (Void Q)) (hF' : ∀ x ∈ F', x ∈ F) {index : Nat} (hy1 : y.name = "<init>")
    (v1 : (Jvm.Cond.methodLink own index y).before a0 Z = true) (v2 : (Jvm.Cond.instanceMethod y).before a0 Z = true) (v3 : (Jvm.Cond.initialized y.cls).before a0 Z = true) (v4 : (Jvm.Cond.code y bytes maxL none).before a0 Z = true) (hy : y.cls ≠ "java/lang/invoke/MethodHandle" ∧ y.cls ≠ "java/lang/invoke/VarHandle")
    {ps : List FieldType} {rt : Option FieldType} (pd : parseMethodDescriptor y.desc = some ⟨ps, rt⟩) {a : Addr} {argsL : List Value} (has : (.ref a :: argsL).toArray = as') (hal : argsL.length = ps.length) {pc pc' : Nat} {ls : Array Slot} {st rest : List Value} (hst : st = argsL.reverse ++ .ref a :: rest) (hsz : ls.size = c.maxLocals)
    (hd : decode c.code pc = .ok (.invokespecial index, 3)) (hp : pc + 3 = pc') {Wn : Nat} (hW : (rest.map fun v => v.category).sum ≤ Wn) (hf : rm.frames + 1 ≤ R.frames) (hl : Wn + (maxL + 11) + rm.locals ≤ R.locals) (hc : k + rm.cells ≤ R.cells) (hs : n + rm.slots ≤ R.slots)
    (K : ∀ T' h', Wd p l e R s m args below meth c Z a0 EL own F T' h' (k + rm.cells) (n + rm.slots) → h.size ≤ h'.size → Q h' → Go p e below P T' (mkF m pc' ls rest)) : Go p e below P T (mkF m pc ls st) :=
  g_specF (Q := fun h _ => Q h) W hM hF' hy1 v1 v2 v3 v4 hy pd has hal hst hsz hd hp hW hf hl hc hs fun T' h' FF W' hg q => K T' h' (W'.drop fun x z => List.mem_append.mpr (Or.inr z)) hg q
theorem g_virtO (W : Wd p l e R s m args below meth c Z a0 EL own F T h k n) {F' : List Addr} {y z : MethodName} {C : String} {bytes : ByteArray} {maxL : Nat} {ret : Option FieldType} {rm : Room} {as' : Array Value} {Q : Option Value → Heap → List Addr → Prop} (hM : Met l Z EL F' z bytes maxL ret rm as' h Q) (hF' : ∀ x ∈ F', x ∈ F) (hyz : ∃ C' y', y'.cls = y.cls ∧ (Jvm.Cond.selects C' y' y').before a0 Z = true) {index : Nat}
    (v1 : (Jvm.Cond.methodLink own index y).before a0 Z = true) (v2 : (Jvm.Cond.declares y).before a0 Z = true) (v5 : (Jvm.Cond.selects C y z).before a0 Z = true) (v6 : (Jvm.Cond.instanceMethod z).before a0 Z = true) (v3 : (Jvm.Cond.initialized z.cls).before a0 Z = true) (v4 : (Jvm.Cond.code z bytes maxL ret).before a0 Z = true) (hy : y.cls ≠ "java/lang/invoke/MethodHandle" ∧ y.cls ≠ "java/lang/invoke/VarHandle")
    {ps : List FieldType} {rt : Option FieldType} (pd : parseMethodDescriptor y.desc = some ⟨ps, rt⟩) {a : Addr} (E : Exa Z h a C) {argsL : List Value} (has : (.ref a :: argsL).toArray = as') (hal : argsL.length = ps.length) {pc pc' : Nat} {ls : Array Slot} {st rest : List Value} (hst : st = argsL.reverse ++ .ref a :: rest) (hsz : ls.size = c.maxLocals)
    (hd : decode c.code pc = .ok (.invokevirtual index, 3)) (hp : pc + 3 = pc') {Wn : Nat} (hW : (rest.map fun v => v.category).sum ≤ Wn) (hf : rm.frames + 1 ≤ R.frames) (hl : Wn + (maxL + 11) + rm.locals ≤ R.locals) (hc : k + rm.cells ≤ R.cells) (hs : n + rm.slots ≤ R.slots)
    (K : ∀ v T' h' FF, Wd p l e R s m args below meth c Z a0 EL own (FF ++ F) T' h' (k + rm.cells) (n + rm.slots) → h.size ≤ h'.size → Q v h' FF → Go p e below P T' (mkF m pc' ls (v.toList ++ rest))) : Go p e below P T (mkF m pc ls st) := by
  subst hp hst has
  obtain ⟨C', y', hyc, hyw⟩ := hyz
  obtain ⟨w1, w2, w3, w4, vm0, k0, locs, X, hZ, hown, eT, hS, hk, hC, hN, hH, hF⟩ := W
  obtain ⟨cq, kq, qa, qb, qc⟩ := isOf (s := s.setVm vm0) hZ eT E
  obtain ⟨v, vm1, B, hw1, X', hS', hg, ⟨L, FF, ⟨q1, q2, q3, q4⟩, r1, r2, r3, r4, r5⟩, st⟩ := X.virtualBackS w1 (own := own) (y := y) (z := z) hown (mvT (s := s.setVm vm0) hZ v1) (mvT (s := s.setVm vm0) hZ v2) (nf_cls (args := #[]) hyc (mvT (s := s.setVm vm0) hZ hyw)) (mvT (s := s.setVm vm0) hZ v5) (mvT (s := s.setVm vm0) hZ v6) hy (Met.back hM hZ v4 v3 hf hl w3 hC.1 (fun x q => hF x (hF' x q))) qa qc (g := mkF m pc ls (argsL.reverse ++ .ref a :: rest)) rfl hsz (Steps.refl _) (argsL := argsL) (rest := rest) (lenOf pd hal) rfl (by simpa using hW) hd (fun _ _ => ⟨rfl, eT, hc, hs⟩)
  rw [eT] at hg
  have W' := wd_after (B := B) w1 w3 w4 hZ hown hS hk hC hN hF X' hS' hg q2 q3 r1 r4 hH r5 q4
  simp only [Pt.cells, Pt.slots] at W' r2 r3
  rw [r2, r3] at W'
  exact (K v B.U _ FF W' hg q1).tr st
theorem g_virt (W : Wd p l e R s m args below meth c Z a0 EL own F T h k n) {F' : List Addr} {y z : MethodName} {C : String} {bytes : ByteArray} {maxL : Nat} {ret : Option FieldType} {rm : Room} {as' : Array Value} {Q : Value → Heap → Prop} (hM : Met l Z EL F' z bytes maxL ret rm as' h (Ret Q)) (hF' : ∀ x ∈ F', x ∈ F) (hyz : ∃ C' y', y'.cls = y.cls ∧ (Jvm.Cond.selects C' y' y').before a0 Z = true) {index : Nat}
    (v1 : (Jvm.Cond.methodLink own index y).before a0 Z = true) (v2 : (Jvm.Cond.declares y).before a0 Z = true) (v5 : (Jvm.Cond.selects C y z).before a0 Z = true) (v6 : (Jvm.Cond.instanceMethod z).before a0 Z = true) (v3 : (Jvm.Cond.initialized z.cls).before a0 Z = true) (v4 : (Jvm.Cond.code z bytes maxL ret).before a0 Z = true) (hy : y.cls ≠ "java/lang/invoke/MethodHandle" ∧ y.cls ≠ "java/lang/invoke/VarHandle")
    {ps : List FieldType} {rt : Option FieldType} (pd : parseMethodDescriptor y.desc = some ⟨ps, rt⟩) {a : Addr} (E : Exa Z h a C) {argsL : List Value} (has : (.ref a :: argsL).toArray = as') (hal : argsL.length = ps.length) {pc pc' : Nat} {ls : Array Slot} {st rest : List Value} (hst : st = argsL.reverse ++ .ref a :: rest) (hsz : ls.size = c.maxLocals)
    (hd : decode c.code pc = .ok (.invokevirtual index, 3)) (hp : pc + 3 = pc') {Wn : Nat} (hW : (rest.map fun v => v.category).sum ≤ Wn) (hf : rm.frames + 1 ≤ R.frames) (hl : Wn + (maxL + 11) + rm.locals ≤ R.locals) (hc : k + rm.cells ≤ R.cells) (hs : n + rm.slots ≤ R.slots)
    (K : ∀ v T' h', Wd p l e R s m args below meth c Z a0 EL own F T' h' (k + rm.cells) (n + rm.slots) → h.size ≤ h'.size → Q v h' → Go p e below P T' (mkF m pc' ls (v :: rest))) : Go p e below P T (mkF m pc ls st) :=
  g_virtO W hM hF' hyz v1 v2 v5 v6 v3 v4 hy pd E has hal hst hsz hd hp hW hf hl hc hs fun v T' h' FF W' hg q => by
    obtain ⟨w, rfl, q⟩ := q
    exact K w T' h' (W'.drop fun x z => List.mem_append.mpr (Or.inr z)) hg q
theorem g_virtF (W : Wd p l e R s m args below meth c Z a0 EL own F T h k n) {F' : List Addr} {y z : MethodName} {C : String} {bytes : ByteArray} {maxL : Nat} {ret : Option FieldType} {rm : Room} {as' : Array Value} {Q : Value → Heap → List Addr → Prop} (hM : Met l Z EL F' z bytes maxL ret rm as' h (RetF Q)) (hF' : ∀ x ∈ F', x ∈ F) (hyz : ∃ C' y', y'.cls = y.cls ∧ (Jvm.Cond.selects C' y' y').before a0 Z = true) {index : Nat}
    (v1 : (Jvm.Cond.methodLink own index y).before a0 Z = true) (v2 : (Jvm.Cond.declares y).before a0 Z = true) (v5 : (Jvm.Cond.selects C y z).before a0 Z = true) (v6 : (Jvm.Cond.instanceMethod z).before a0 Z = true) (v3 : (Jvm.Cond.initialized z.cls).before a0 Z = true) (v4 : (Jvm.Cond.code z bytes maxL ret).before a0 Z = true) (hy : y.cls ≠ "java/lang/invoke/MethodHandle" ∧ y.cls ≠ "java/lang/invoke/VarHandle")
    {ps : List FieldType} {rt : Option FieldType} (pd : parseMethodDescriptor y.desc = some ⟨ps, rt⟩) {a : Addr} (E : Exa Z h a C) {argsL : List Value} (has : (.ref a :: argsL).toArray = as') (hal : argsL.length = ps.length) {pc pc' : Nat} {ls : Array Slot} {st rest : List Value} (hst : st = argsL.reverse ++ .ref a :: rest) (hsz : ls.size = c.maxLocals)
    (hd : decode c.code pc = .ok (.invokevirtual index, 3)) (hp : pc + 3 = pc') {Wn : Nat} (hW : (rest.map fun v => v.category).sum ≤ Wn) (hf : rm.frames + 1 ≤ R.frames) (hl : Wn + (maxL + 11) + rm.locals ≤ R.locals) (hc : k + rm.cells ≤ R.cells) (hs : n + rm.slots ≤ R.slots)
    (K : ∀ v T' h' FF, Wd p l e R s m args below meth c Z a0 EL own (FF ++ F) T' h' (k + rm.cells) (n + rm.slots) → h.size ≤ h'.size → Q v h' FF → Go p e below P T' (mkF m pc' ls (v :: rest))) : Go p e below P T (mkF m pc ls st) :=
  g_virtO W hM hF' hyz v1 v2 v5 v6 v3 v4 hy pd E has hal hst hsz hd hp hW hf hl hc hs fun v T' h' FF W' hg q => by
    obtain ⟨w, rfl, q⟩ := q
    exact K w T' h' FF W' hg q
end OwnC
/-! own kit, part D: Strings of Latin-1 chars -/
section OwnD
variable {p : Program} {l : Launch} {e : Env} {R : Room} {s : State} {m : MethodId} {args : Array Value} {below : List Frame} {meth : Method} {c : Code} {T T' : State} {h h' : Heap} {Z : State} {a0 : Array Value} {EL : List (String × Nat)} {own : String} {k n : Nat} {P : Outcome → State → Prop} {F : List Addr}
theorem own_n32 {n : Nat} (q : n < 2 ^ 31) : (Int32.ofNat n).toNatClampNeg = n := by
  have e : (Int32.ofNat n).toInt = n := Int32.toInt_ofNat_small q
  simp [Int32.toNatClampNeg, e]
theorem own_n0 {n : Nat} (q : n < 2 ^ 31) : ¬ Int32.ofNat n < 0 := by
  rw [Int32.lt_iff_toInt_lt, Int32.toInt_ofNat_small q]
  have e0 : (0 : Int32).toInt = 0 := rfl
  omega
/-- the low byte, signed -/
def lo (x : Int32) : Int32 := x.toInt8.toInt32
def Latin (cs : List Int32) : Prop := ∀ c ∈ cs, ¬ c < 0 ∧ ¬ (255 : Int32) < c
def Str (Z : State) (h : Heap) (a : Addr) (cs : List Int32) : Prop :=
  Exa Z h a "java/lang/String" ∧ Fld Z h a "java/lang/String" "coder" "B" (.int 0) ∧ (∃ t, Fld Z h a "java/lang/String" "value" "[B" (.ref t) ∧ Ali Z h t .byte ((cs.map lo).map Value.int)) ∧ Latin cs ∧ cs.length ≤ 4000
theorem Ali.of_arv {a : Addr} {kk : ClassId} {ty : FieldType} {z : Int32} {vs : List Value} {d : Value} (A : Arv Z h a kk ty z vs d) (hl : z.toNatClampNeg = vs.length) : Ali Z h a ty vs := by
  obtain ⟨c, A, -, S, hz, H, -⟩ := A
  refine ⟨c, A, ?_, ?_⟩
  · apply List.ext_getElem?
    intro i
    rw [Array.getElem?_toList]
    rcases Nat.lt_or_ge i vs.length with q | q
    · rw [H i (by omega)]; simp [q]
    · rw [List.getElem?_eq_none q, Array.getElem?_eq_none (by omega)]
  · have := (back32 hz).2; omega
theorem Ali.arv {a : Addr} {ty : FieldType} {vs : List Value} {d : Value} {z : Int32} (A : Ali Z h a ty vs) (hf : ∀ v ∈ vs, fits ty v = true) (hz : z = Int32.ofNat vs.length) : ∃ kk, Arv Z h a kk ty z vs d := by
  obtain ⟨c, A, rfl, q⟩ := A
  subst hz
  simp only [Array.length_toList] at q hf
  refine ⟨c.cls, c, A, rfl, by rw [Array.length_toList, own_n32 q], by rw [Array.length_toList]; exact own_n0 q, fun i hi => by simp [hi], fun i hi => ?_⟩
  have e : c.slots.toList.getD i d = c.slots[i] := by simp [hi]
  rw [e]
  exact hf _ (by simp)
theorem fits_lo (x : Int32) : fits .byte (.int (lo x)) = true := fits_nar_byte x
theorem Latin.lit {cs : List Int32} (q : Latin cs) : ∀ c ∈ cs, ¬ c < 0 ∧ ¬ (65535 : Int32) < c := fun c hc => ⟨(q c hc).1, fun r => (q c hc).2 (by
  rw [Int32.lt_iff_toInt_lt] at r ⊢
  have e0 : (255 : Int32).toInt = 255 := rfl
  have e1 : (65535 : Int32).toInt = 65535 := rfl
  omega)⟩
theorem Latin.nil : Latin [] := fun _ q => nomatch q
theorem Latin.cons {x : Int32} {cs : List Int32} (q0 : ¬ x < 0) (q1 : ¬ 255 < x) (r : Latin cs) : Latin (x :: cs) := fun c hc => (List.mem_cons.mp hc).elim (fun e => e ▸ ⟨q0, q1⟩) (r c)
theorem fits_chr {x : Int32} (q0 : ¬ x < 0) (q1 : ¬ 65535 < x) : fits .char (.int x) = true := by
  simp only [fits, Bool.and_eq_true, decide_eq_true_eq]
  exact ⟨Int32.not_lt.mp q0, Int32.not_lt.mp q1⟩
theorem Str.ext {a : Addr} {cs : List Int32} (E : Ext h h') (S : Str Z h a cs) : Str Z h' a cs := by
  obtain ⟨s1, s2, ⟨t, s3, s4⟩, r⟩ := S
  exact ⟨s1.ext E, s2.ext E, ⟨t, s3.ext E, s4.ext E⟩, r⟩
theorem Str.lt {a : Addr} {cs : List Int32} (S : Str Z h a cs) : a < h.size := S.1.lt
theorem arr_neT {a b : Addr} {t1 t2 : FieldType} {c1 c2 : Cell} (A : Arr Z h a c1 t1) (B : Arr Z h b c2 t2) (q : t1 ≠ t2) : a ≠ b := fun e => by
  subst e
  cases A.1.symm.trans B.1
  obtain ⟨-, k1, a1, comp1, a2⟩ := A.2.1
  obtain ⟨-, k2, b1, comp2, b2⟩ := B.2.1
  cases a1.symm.trans b1
  rw [a2] at b2
  injection b2 with _ r
  exact q r
theorem Ali.wr {a b : Addr} {ty : FieldType} {vs : List Value} {sl : Nat} {v : Value} (W : Wr h h' b sl v) (q : a ≠ b) (A : Ali Z h a ty vs) : Ali Z h' a ty vs := by obtain ⟨c, r, t⟩ := A; exact ⟨c, r.other W q, t⟩
theorem Ali.neE {x a : Addr} {ty : FieldType} {vs : List Value} {C : String} {nn : Nat} (A : Ali Z h a ty vs) (E : Exa Z h x C) (wi : (Jvm.Cond.instantiable C nn).before a0 Z = true) : a ≠ x := by obtain ⟨c, r, -⟩ := A; exact (ne_arr E wi r).symm
theorem Ali.neA {a b : Addr} {t1 t2 : FieldType} {vs us : List Value} (A : Ali Z h a t1 vs) (B : Ali Z h b t2 us) (q : t1 ≠ t2) : a ≠ b := by obtain ⟨c, r, -⟩ := A; obtain ⟨d, u, -⟩ := B; exact arr_neT r u q
theorem lo_lo (x : Int32) : lo (lo x) = lo x := by
  show x.toInt8.toInt32.toInt8.toInt32 = x.toInt8.toInt32
  rw [Int8.toInt8_toInt32]
theorem g_bastore (W : Wd p l e R s m args below meth c Z a0 EL own F T h k n) {pc pc' : Nat} {ls : Array Slot} {st : List Value} {a : Addr} {bs : List Int32} (A : Ali Z h a .byte (bs.map Value.int)) (q : Z.heap.size ≤ a) (hF : a ∈ F) {j x : Int32} {i : Nat} (hj : ¬ j < 0) (hi : j.toNatClampNeg = i) (hlt : i < bs.length)
    (hd : decode c.code pc = .ok (.bastore, 1)) (hp : pc + 1 = pc')
    (K : ∀ T' h', Wd p l e R s m args below meth c Z a0 EL own F T' h' k n → Keep h h' [a] → Ali Z h' a .byte ((bs.set i (lo x)).map Value.int) → Go p e below P T' (mkF m pc' ls st)) : Go p e below P T (mkF m pc ls (.int x :: .int j :: .ref a :: st)) := by
  subst hp
  obtain ⟨cell, A1, hsz, -⟩ := A.get
  refine W.write (a := a) (sl := i) (v := .int (lo x)) ⟨q, Or.inl hF⟩ (fun X hZ hown eT => ?_) (fun T' h' W' Wr1 => K T' h' W' (Keep.of_wr Wr1) (by rw [List.map_set]; exact A.set Wr1))
  obtain ⟨T', h', X', e1, W1, st⟩ := stB X W.hx hZ eT A1 (j := j) (x := x) (by rw [hsz, hi]; simp only [List.length_map]; exact fun r => r.elim hj (by omega)) (g := mkF m pc ls (.int x :: .int j :: .ref a :: st)) rfl rfl hd
  rw [hi] at X' W1
  exact ⟨T', h', X', e1, W1, st⟩
/-- a place that is no part of a String: an array of another kind, or an object of another class -/
def NoStr (Z : State) (a0 : Array Value) (h : Heap) (x : Addr) : Prop := (∃ C nn, Exa Z h x C ∧ C ≠ "java/lang/String" ∧ (Jvm.Cond.instantiable C nn).before a0 Z = true) ∨ ∃ cl ty, Arr Z h x cl ty ∧ ty ≠ .byte
theorem Ali.noStr {x : Addr} {ty : FieldType} {vs : List Value} (A : Ali Z h x ty vs) (ht : ty ≠ .byte) : NoStr Z a0 h x := by obtain ⟨c, r, -⟩ := A; exact Or.inr ⟨c, ty, r, ht⟩
theorem Str.keep {a x : Addr} {cs : List Int32} (wi : (Jvm.Cond.instantiable "java/lang/String" 4).before a0 Z = true) (S : Str Z h a cs) (K : Keep h h' [x]) (q : NoStr Z a0 h x) : Str Z h' a cs := by
  obtain ⟨s1, s2, ⟨t, s3, ⟨ct, s4, s5⟩⟩, r⟩ := S
  have n1 : a ∉ [x] := ninS (by
    rcases q with ⟨C, nn, q1, q2, q3⟩ | ⟨cl, ty, q1, q2⟩
    · exact Exa.ne s1 q1 (Ne.symm q2)
    · exact ne_arr s1 wi q1) nin0
  have n2 : t ∉ [x] := ninS (by
    rcases q with ⟨C, nn, q1, q2, q3⟩ | ⟨cl, ty, q1, q2⟩
    · exact (ne_arr q1 q3 s4).symm
    · exact arr_neT s4 q1 (Ne.symm q2)) nin0
  exact ⟨s1.keep K, s2.keep K n1, ⟨t, s3.keep K n1, Ali.keep K n2 ⟨ct, s4, s5⟩⟩, r⟩
theorem own_new {b : Addr} {h : Heap} (q : h.size ≤ b) : ∀ x ∈ [b], x ∈ ([] : List Addr) ∨ h.size ≤ x := fun x r => Or.inr (by cases List.mem_singleton.mp r; exact q)
/-- ldc of a String constant -/
theorem g_ldcS (W : Wd p l e R s m args below meth c Z a0 EL own F T h k n) {pc pc' : Nat} {ls : Array Slot} {st : List Value} {index : Nat} {text : String} {cs : List Int32} (w : (Jvm.Cond.stringLink own index text).before a0 Z = true) (wS : ∀ a ∈ Bundle.stringAtoms, a.before a0 Z = true) (hmem : (own, index) ∈ EL)
    (ht : (∀ c ∈ text.toList, c.toNat < 256) ∧ text.toList.map (fun c => Value.int (Jvm.Lit.byteI c.toNat.toUInt16)) = (cs.map lo).map Value.int) (hL : Latin cs) (hlen : cs.length ≤ 4000) {nn : Nat} (hn : 4 * text.toList.length ≤ nn) (hbig : nn ≤ 536870912)
    (hd : decode c.code pc = .ok (.ldc index, 2)) (hp : pc + 2 = pc') (hc : k + 2 ≤ R.cells) (hl : n + (nn + 4) ≤ R.slots)
    (K : ∀ a T' h', Wd p l e R s m args below meth c Z a0 EL own F T' h' (k + 2) (n + (nn + 4)) → Ext h h' → Str Z h' a cs → Go p e below P T' (mkF m pc' ls (.ref a :: st))) : Go p e below P T (mkF m pc ls st) := by
  subst hp
  obtain ⟨w1, w2, w3, w4, vm0, k0, locs, X, hZ, hown, eT, hS, hk, hC, hN, hH, hF⟩ := W
  have hz : (Int32.ofNat cs.length).toNatClampNeg = ((cs.map lo).map Value.int).length := by rw [own_n32 (by omega)]; simp
  obtain ⟨a, T', h', k1, b, kb, X', eT', E, hS', hk1, hZ', hown', q1, q2, q3, q4, -, -, hC', -, -, st⟩ := ldcCH X w1 hZ hown w wS eT hS hk w3 hmem hC.1 ht (own_n0 (by omega)) hz (g := mkF m pc ls st) rfl hd hn hbig hc hl
  exact (K a T' h' ⟨w1, ext_trans w2 E, w3, w4, T'.vm, k1, locs, X', hZ', hown', eT', hS', hk1, hC.trans hC', hN, fun z => (by rw [z] at hmem; cases hmem), fun x q => ⟨Nat.lt_of_lt_of_le (hF x q).1 E.1, hC'.safe (hF x q).1 (hF x q).2⟩⟩ E ⟨q1, q2, ⟨b, q3, Ali.of_arv q4 hz⟩, hL, hlen⟩).st st
/-- a step over the same tables that keeps all but some cells of the walk's own -/
theorem wd_kept (w1 : p.tables.exec = Jvm.exec) (w2 : Ext Z.heap h) (w3 : EW Z a0 EL) (w4 : meth.locks = false) {vm0 : Vm} {k0 : Nat} {locs L : List Loc} {B : Pt} (hZ : Z.Warmed39 vm0) (hown : vm0.findClass own = some m.cls) (hS : s.Since vm0 k0) (hk : k0 ≤ h.size) (hC : CHr Z EL s.vm s.heap vm0 h) (hN : Fr Z.heap.size locs) (hH : EL = [] → s.WarmedH vm0)
    (hF : ∀ x ∈ F, x < h.size ∧ Safe Z EL vm0 h x) (X' : Stand p l e R (s.setVm vm0) m args below meth c B.U B.locs B.cells B.slots) {ws : List Addr} (Kp : Keep h B.U.heap ws) (q : ∀ x ∈ ws, Wok Z F h x) (hNL : Fr Z.heap.size L) (hl : B.locs = locs ++ L) :
    Wd p l e R s m args below meth c Z a0 EL own F B.U B.U.heap B.cells B.slots := by
  have hs : ∀ x ∈ ws, Safe Z EL vm0 h x := fun x hx => Wd.safeOf hZ.alike hF (q x hx)
  exact ⟨w1, ext_old_keep w2 Kp (fun x hx => (q x hx).1), w3, w4, vm0, k0, B.locs, X', hZ, hown, rfl, hS, Nat.le_trans hk Kp.1, hC.trans (CHr.keep Kp hs hC.1), hl ▸ hN.app hNL, hH, fun x r => ⟨Nat.lt_of_lt_of_le (hF x r).1 Kp.1, Safe.keep Kp hs hC.1 (hF x r).2⟩⟩
/-- a String as `new` left it -/
def NewS (Z : State) (F : List Addr) (h : Heap) (x : Addr) : Prop := Z.heap.size ≤ x ∧ x ∈ F ∧ Exa Z h x "java/lang/String" ∧ (∃ v, Fld Z h x "java/lang/String" "value" "[B" v) ∧ ∃ v, Fld Z h x "java/lang/String" "coder" "B" v
theorem NewS.ext {x : Addr} (E : Ext h h') (S : NewS Z F h x) : NewS Z F h' x := by
  obtain ⟨s1, s2, s3, ⟨v, s4⟩, ⟨u, s5⟩⟩ := S
  exact ⟨s1, s2, s3.ext E, ⟨v, s4.ext E⟩, ⟨u, s5.ext E⟩⟩
theorem NewS.mem {x : Addr} {F' : List Addr} (q : ∀ x ∈ F, x ∈ F') (S : NewS Z F h x) : NewS Z F' h x := ⟨S.1, q _ S.2.1, S.2.2⟩
theorem NewS.keep {x b : Addr} (S : NewS Z F h x) (K : Keep h h' [b]) (q : x ≠ b) : NewS Z F h' x := by
  obtain ⟨s1, s2, s3, ⟨v, s4⟩, ⟨u, s5⟩⟩ := S
  exact ⟨s1, s2, s3.keep K, ⟨v, s4.keep K (ninS q nin0)⟩, ⟨u, s5.keep K (ninS q nin0)⟩⟩
theorem NewS.keepA {x b : Addr} {ty : FieldType} {vs : List Value} (wi : (Jvm.Cond.instantiable "java/lang/String" 4).before a0 Z = true) (S : NewS Z F h x) (K : Keep h h' [b]) (A : Ali Z h b ty vs) : NewS Z F h' x := by
  obtain ⟨c, A, -⟩ := A
  exact S.keep K (ne_arr S.2.2.1 wi A)
theorem NewS.one {x : Addr} {F' : List Addr} (S : NewS Z (x :: F') h x) : NewS Z [x] h x := ⟨S.1, List.mem_singleton.mpr rfl, S.2.2⟩
theorem g_newS (W : Wd p l e R s m args below meth c Z a0 EL own F T h k n) {pc pc' : Nat} {ls : Array Slot} {st : List Value} {index : Nat} (w : (Jvm.Cond.classLink own index "java/lang/String").before a0 Z = true) (wi : (Jvm.Cond.instantiable "java/lang/String" 4).before a0 Z = true) (wz : (Jvm.Cond.initialized "java/lang/String").before a0 Z = true)
    (wv : (Jvm.Cond.laysFinal "java/lang/String" "java/lang/String" "value" "[B").before a0 Z = true) (wc : (Jvm.Cond.laysFinal "java/lang/String" "java/lang/String" "coder" "B").before a0 Z = true)
    (hd : decode c.code pc = .ok (.new index, 3)) (hp : pc + 3 = pc') (hc : k + 1 ≤ R.cells) (hl : n + 4 ≤ R.slots)
    (K : ∀ x T' h', h.size ≤ x → Wd p l e R s m args below meth c Z a0 EL own (x :: F) T' h' (k + 1) (n + 4) → Ext h h' → NewS Z (x :: F) h' x → Go p e below P T' (mkF m pc' ls (.ref x :: st))) : Go p e below P T (mkF m pc ls st) := by
  have hO := W.old
  exact g_new W w wi wz hd hp hc hl fun x T' h' hx W' E B => K x T' h' hx W' E ⟨Nat.le_trans hO.1 hx, List.mem_cons_self .., B.1, ⟨_, B.2 (Or.inr wv) (ty := .array .byte) (by decide)⟩, ⟨_, B.2 (Or.inr wc) (ty := .byte) (by decide)⟩⟩
theorem g_baload (W : Wd p l e R s m args below meth c Z a0 EL own F T h k n) {pc pc' : Nat} {ls : Array Slot} {st : List Value} {a : Addr} {cs : List Int32} (A : Ali Z h a .byte (cs.map Value.int)) {j : Int32} {i : Nat} (hj : ¬ j < 0) (hi : j.toNatClampNeg = i) (hlt : i < cs.length)
    (hd : decode c.code pc = .ok (.baload, 1)) (hp : pc + 1 = pc') (K : Go p e below P T (mkF m pc' ls (.int (cs.getD i 0) :: st))) : Go p e below P T (mkF m pc ls (.int j :: .ref a :: st)) := by
  subst hp
  obtain ⟨cell, A1, hsz, hget⟩ := A.get
  obtain ⟨w1, w2, w3, w4, vm0, k0, locs, X, hZ, hown, rfl, r⟩ := W
  refine K.st fun t q => X.baloadBytes w1 A1.1 (State.isArrayOf_alike (s := Z) hZ.alike A1.2.1) A1.2.2 (j := j) (by rw [hsz, hi]; simp only [List.length_map]; exact fun r => r.elim hj (by omega)) (v := .int (cs.getD i 0)) (by rw [hi, hget]; simp [hlt]) (g := mkF m pc ls (.int j :: .ref a :: st)) rfl rfl hd t q
theorem g_checkcast (W : Wd p l e R s m args below meth c Z a0 EL own F T h k n) {pc pc' : Nat} {ls : Array Slot} {st : List Value} {index : Nat} {C : String} (w : (Jvm.Cond.classLink own index C).before a0 Z = true) {a : Addr} (I : Ins Z h a C true) (hd : decode c.code pc = .ok (.checkcast index, 3)) (hp : pc + 3 = pc')
    (K : ∀ T', Wd p l e R s m args below meth c Z a0 EL own F T' h k n → Go p e below P T' (mkF m pc' ls (.ref a :: st))) : Go p e below P T (mkF m pc ls (.ref a :: st)) := by
  subst hp
  exact W.grow (fun X hZ hown eT => castY X W.hx hZ hown w eT I (g := mkF m pc ls (.ref a :: st)) rfl rfl hd) (ext_refl h) K
end OwnD
/-! own kit, part E: String's own methods at a call, over the pasted laws of laws/STRINGS -/
section OwnE
variable {p : Program} {l : Launch} {e : Env} {R : Room} {s : State} {m : MethodId} {args : Array Value} {below : List Frame} {meth : Method} {c : Code} {T T' : State} {h h' : Heap} {Z : State} {a0 : Array Value} {EL : List (String × Nat)} {own : String} {k n : Nat} {P : Outcome → State → Prop} {F : List Addr}
/-- compact strings are on -/
def Cst (Z : State) : Prop := ∃ z : Int32, Sta Z Z.heap "java/lang/String" "COMPACT_STRINGS" "Z" (.int z) ∧ ¬ z = 0
def Fst (Z : State) : Prop := ∃ fm : Value, Sta Z Z.heap "jdk/internal/util/Preconditions" "SIOOBE_FORMATTER" "Ljava/util/function/BiFunction;" fm ∧ fm.isRef = true
theorem Str.cod {a : Addr} {cs : List Int32} (S : Str Z h a cs) : ∃ t kb, Fld Z h a "java/lang/String" "value" "[B" (.ref t) ∧ Arv Z h t kb .byte (Int32.ofNat cs.length) ((cs.map StrChars.lo8).map Value.int) (.int 0) ∧ StrChars.Road.CodA cs 0 (Int32.ofNat cs.length) ((cs.map StrChars.lo8).map Value.int) := by
  obtain ⟨s1, s2, ⟨t, s3, s4⟩, s5, s6⟩ := S
  obtain ⟨kb, A⟩ := s4.arv (d := .int 0) (z := Int32.ofNat cs.length) (fun v hv => by
    simp only [List.mem_map] at hv
    obtain ⟨b, ⟨x, -, rfl⟩, rfl⟩ := hv
    exact fits_lo x) (by simp)
  exact ⟨t, kb, s3, A, StrChars.Road.codOf rfl fun c hc => (s5 c hc).2⟩
theorem g_len (W : Wd p l e R s m args below meth c Z a0 EL own F T h k n) (hw : ∀ d ∈ tables_1, d.before a0 Z = true) (cst : Cst Z) {a : Addr} {cs : List Int32} (S : Str Z h a cs) {index : Nat} (v1 : (Jvm.Cond.methodLink own index (⟨"java/lang/String", "length", "()I"⟩ : MethodName)).before a0 Z = true)
    {pc pc' : Nat} {ls : Array Slot} {rest : List Value} (hsz : ls.size = c.maxLocals) (hd : decode c.code pc = .ok (.invokevirtual index, 3)) (hp : pc + 3 = pc') {Wn : Nat} (hW : (rest.map fun v => v.category).sum ≤ Wn) (hf : 2 ≤ R.frames) (hl : Wn + 25 ≤ R.locals) (hc : k ≤ R.cells) (hs : n ≤ R.slots) {z : Int32} (hz : Int32.ofNat cs.length = z)
    (K : ∀ T', Wd p l e R s m args below meth c Z a0 EL own F T' h k n → Go p e below P T' (mkF m pc' ls (.int z :: rest))) : Go p e below P T (mkF m pc ls (.ref a :: rest)) := by
  subst hp hz
  obtain ⟨zc, Sc, hzc⟩ := cst
  have wl : ∀ d ∈ StrChars.Road.wordsLen, d.before a0 Z = true := fun d hd => hw d ((by decide +kernel : ∀ d ∈ StrChars.Road.wordsLen, d ∈ tables_1) d hd)
  have wi : (Jvm.Cond.instantiable "java/lang/String" 4).before a0 Z = true := hw _ (by decide +kernel)
  obtain ⟨t, kb, q1, q2, q3⟩ := S.cod
  obtain ⟨w1, w2, w3, w4, vm0, k0, locs, X, hZ, hown, rfl, hS, hk, hC, hN, hH, hF⟩ := W
  obtain ⟨cq, kq, qa, qb, qc⟩ := isOf (s := s.setVm vm0) hZ rfl S.1
  obtain ⟨v, vm1, B, hw1, X', ⟨L, ⟨rfl, rfl, e1⟩, r1, r2, r3⟩, st⟩ := X.virtualBack w1 (own := own) (y := (⟨"java/lang/String", "length", "()I"⟩ : MethodName)) (z := (⟨"java/lang/String", "length", "()I"⟩ : MethodName)) hown (mvT (s := s.setVm vm0) hZ v1) (mvT (s := s.setVm vm0) hZ (hw _ (by decide +kernel))) (notFace_of_selects (C := "java/lang/String") (y := (⟨"java/lang/String", "length", "()I"⟩ : MethodName)) (args := #[]) (mvT (s := s.setVm vm0) hZ (hw _ (by decide +kernel)))) (mvT (s := s.setVm vm0) hZ (hw _ (by decide +kernel))) (mvT (s := s.setVm vm0) hZ (hw _ (by decide +kernel))) (by decide)
    (StrChars.Road.lenW (s := s.setVm vm0) hZ wl wi S.1 q1 S.2.1 q2 q3 S.2.2.2.1.lit (Sc.ext w2) hzc S.2.2.2.2 hf hl) qa qc (g := mkF m pc ls (.ref a :: rest)) rfl hsz (Steps.refl _) (argsL := []) (rest := rest) (lenOf (by decide : parseMethodDescriptor "()I" = some ⟨[], some .int⟩) rfl) rfl (by simpa using hW) hd (fun _ _ => ⟨rfl, rfl, hc, hs⟩)
  have W' := wd_kept (B := B) (ws := []) (L := []) w1 w2 w3 w4 hZ hown hS hk hC hN hH hF X' (by rw [e1]; exact Keep.refl _ _) (fun x q => nomatch q) (Fr.nil _) (by simpa using r1)
  simp only [Pt.cells, Pt.slots, Pt.U, Nat.add_zero] at W' r2 r3 e1
  rw [r2, r3, e1] at W'
  exact (K B.U W').tr st
theorem g_initS (W : Wd p l e R s m args below meth c Z a0 EL own F T h k n) (hw : ∀ d ∈ tables_1, d.before a0 Z = true) (cst : Cst Z) {x b : Addr} {cs : List Int32} (S : NewS Z F h x) (A : Ali Z h b .char (cs.map Value.int)) (hL : Latin cs) (l0 : 0 < cs.length) (l1 : cs.length ≤ 4000) {index : Nat}
    (v1 : (Jvm.Cond.methodLink own index (⟨"java/lang/String", "<init>", "([C)V"⟩ : MethodName)).before a0 Z = true)
    {pc pc' : Nat} {ls : Array Slot} {rest : List Value} (hsz : ls.size = c.maxLocals) (hd : decode c.code pc = .ok (.invokespecial index, 3)) (hp : pc + 3 = pc') {Wn : Nat} (hW : (rest.map fun v => v.category).sum ≤ Wn) (hf : 4 ≤ R.frames) (hl : Wn + 65 ≤ R.locals) (hc : k + 1 ≤ R.cells) {nn : Nat} (hnn : cs.length ≤ nn) (hs : n + nn ≤ R.slots)
    (K : ∀ T' h', Wd p l e R s m args below meth c Z a0 EL own F T' h' (k + 1) (n + nn) → Keep h h' [x] → Str Z h' x cs → Go p e below P T' (mkF m pc' ls rest)) : Go p e below P T (mkF m pc ls (.ref b :: .ref x :: rest)) := by
  subst hp
  obtain ⟨zc, Sc, hzc⟩ := cst
  have wl : ∀ d ∈ StrChars.Road.words, d.before a0 Z = true := fun d hd => hw d ((by decide +kernel : ∀ d ∈ StrChars.Road.words, d ∈ tables_1) d hd)
  have wi : (Jvm.Cond.instantiable "java/lang/String" 4).before a0 Z = true := hw _ (by decide +kernel)
  have wcode : (Jvm.Cond.code (⟨"java/lang/String", "<init>", "([C)V"⟩ : MethodName) StrChars.New1.yB 2 none).before a0 Z = true := hw _ (by decide +kernel)
  obtain ⟨s1, s2, s3, ⟨v0, s4⟩, ⟨u0, s5⟩⟩ := S
  obtain ⟨kC, A1⟩ := A.arv (d := .int 0) (z := Int32.ofNat cs.length) (fun v hv => by
    obtain ⟨y, hy, rfl⟩ := List.mem_map.mp hv
    exact fits_chr (hL.lit y hy).1 (hL.lit y hy).2) (by simp)
  obtain ⟨w1, w2, w3, w4, vm0, k0, locs, X, hZ, hown, rfl, hS, hk, hC, hN, hH, hF⟩ := W
  obtain ⟨v, vm1, B, hw1, X', ⟨L, ⟨rfl, f1, f2, f3, f4, t, kb, -, -, -, f5, f6⟩, r1, r2, r3⟩, st⟩ := X.specialBack w1 (own := own) (y := (⟨"java/lang/String", "<init>", "([C)V"⟩ : MethodName)) rfl hown (mvT (s := s.setVm vm0) hZ v1) (mvT (s := s.setVm vm0) hZ (hw _ (by decide +kernel))) (mvT (s := s.setVm vm0) hZ wcode) (by decide)
    (StrChars.Road.backV (s := s.setVm vm0) hZ wl wi s1 w2.1 s3 s4 s5 A1 (Sc.ext w2) hzc rfl rfl l0 l1 hL rfl hf hl) (g := mkF m pc ls (.ref b :: .ref x :: rest)) rfl hsz (Steps.refl _) (a := x) (argsL := [.ref b]) (rest := rest) (lenOf (by decide : parseMethodDescriptor "([C)V" = some ⟨[.array .char], none⟩) rfl) rfl (by simpa using hW) hd (fun _ _ => ⟨rfl, rfl, hc, Nat.le_trans (Nat.add_le_add_left hnn _) hs⟩)
  have W' := wd_kept (B := B) (ws := [x]) (L := L) w1 w2 w3 w4 hZ hown hS hk hC hN hH hF X' f2 (fun y q => by cases List.mem_singleton.mp q; exact ⟨s1, Or.inl s2⟩) f1 r1
  simp only [Pt.cells, Pt.slots, Pt.U] at W' r2 r3
  rw [r2, r3] at W'
  refine (K B.U _ (W'.more (Nat.le_refl _) (Nat.add_le_add_left hnn _)) f2 ⟨f3, f4, ⟨t, f5, Ali.of_arv (vs := (cs.map lo).map Value.int) f6 ?_⟩, hL, l1⟩).tr st
  rw [own_n32 (by omega)]
  simp
end OwnE
/-! own kit, part F: small facts -/
section OwnF
variable {p : Program} {e : Env} {below : List Frame} {P : Outcome → State → Prop} {T : State} {Z : State} {a0 : Array Value}
theorem Go.cast {g g' : JFrame} (q : g = g') (K : Go p e below P T g') : Go p e below P T g := q ▸ K
/-- a char below 256 -/
def Lc (x : Int32) : Prop := ¬ x < 0 ∧ ¬ (255 : Int32) < x
theorem Lc.w {x : Int32} (q : Lc x) : ¬ (65535 : Int32) < x := ((Latin.cons q.1 q.2 Latin.nil).lit x (List.mem_cons_self ..)).2
theorem Lc.mask (x : Int32) : Lc (x &&& 255) := by
  have q := c_and x 255 (by decide)
  have e1 : (255 : Int32).toInt = 255 := rfl
  have e0 : (0 : Int32).toInt = 0 := rfl
  constructor
  · rw [Int32.lt_iff_toInt_lt]; omega
  · rw [Int32.lt_iff_toInt_lt]; omega
theorem nar_char {x : Int32} (h0 : ¬ x < 0) (h1 : ¬ 65535 < x) : x.toUInt32.toUInt16.toUInt32.toInt32 = x := by
  have := c_i2c x
  apply Int32.toInt_inj.mp
  rw [Int32.lt_iff_toInt_lt] at h0 h1
  have e0 : (0 : Int32).toInt = 0 := rfl
  have e1 : (65535 : Int32).toInt = 65535 := rfl
  omega
theorem Lc.i2c {x : Int32} (q : Lc x) : x.toUInt32.toUInt16.toUInt32.toInt32 = x := nar_char q.1 q.w
theorem Lc.nar {x : Int32} (q : Lc x) : narrow .char (.int x) = .int x := by
  show Value.int (Jvm.RoadKit.nar .char x) = _
  rw [show Jvm.RoadKit.nar .char x = x from q.i2c]
theorem Lc.l2i (y : Int64) : Lc (y &&& 255).toInt32 := by
  have a := c_maskL y 255 8 (by decide) (by decide)
  have b := c_l2i (y &&& 255)
  have r := rng32 (y &&& 255).toInt32
  have e0 : (0 : Int32).toInt = 0 := rfl
  have e1 : (255 : Int32).toInt = 255 := rfl
  constructor
  · rw [Int32.lt_iff_toInt_lt]; omega
  · rw [Int32.lt_iff_toInt_lt]; omega
theorem lt_nat {i : Int32} {n : Nat} (h0 : ¬ i < 0) (hn : n < 2 ^ 31) (h : i < Int32.ofNat n) : i.toNatClampNeg < n := by
  rw [Int32.lt_iff_toInt_lt] at h h0
  rw [Int32.toInt_ofNat_small hn] at h
  have e0 : (0 : Int32).toInt = 0 := rfl
  simp only [Int32.toNatClampNeg]
  omega
theorem eq_nat {i : Int32} (h0 : ¬ i < 0) : i = Int32.ofNat i.toNatClampNeg := (back32 h0).1.symm
theorem Lc.zero : Lc 0 := ⟨by decide, by decide⟩
theorem Latin.get {cs : List Int32} (q : Latin cs) (i : Nat) : Lc (cs.getD i 0) := by
  rcases Nat.lt_or_ge i cs.length with h | h
  · have e : cs.getD i 0 = cs[i] := by simp [h]
    rw [e]; exact q _ (List.getElem_mem _)
  · have e : cs.getD i 0 = 0 := by simp [List.getElem?_eq_none h]
    rw [e]; exact Lc.zero
theorem Latin.set {cs : List Int32} (q : Latin cs) (i : Nat) {x : Int32} (hx : Lc x) : Latin (cs.set i x) := fun c hc => by
  rcases List.mem_or_eq_of_mem_set hc with h | rfl
  · exact q c h
  · exact hx
theorem Latin.con {x : Int32} {cs : List Int32} (q : Lc x) (r : Latin cs) : Latin (x :: cs) := Latin.cons q.1 q.2 r
theorem own_wS (hw : ∀ d ∈ tables_1, d.before a0 Z = true) : ∀ a ∈ Bundle.stringAtoms, a.before a0 Z = true := fun d hd => hw d ((by decide +kernel : ∀ d ∈ Bundle.stringAtoms, d ∈ tables_1) d hd)
theorem and3 (x : Int32) : x &&& 3 = 0 ∨ x &&& 3 = 1 ∨ x &&& 3 = 2 ∨ x &&& 3 = 3 := by
  have q := c_and x 3 (by decide)
  have e3 : (3 : Int32).toInt = 3 := rfl
  have e2 : (2 : Int32).toInt = 2 := rfl
  have e1 : (1 : Int32).toInt = 1 := rfl
  have e0 : (0 : Int32).toInt = 0 := rfl
  simp only [← Int32.toInt_inj]
  omega
end OwnF
/-! own kit, part G: arrays of references, what a case says of a String or an array of the start -/
section OwnG
variable {p : Program} {l : Launch} {e : Env} {R : Room} {s : State} {m : MethodId} {args : Array Value} {below : List Frame} {meth : Method} {c : Code} {T T' : State} {h h' : Heap} {Z : State} {a0 : Array Value} {EL : List (String × Nat)} {own : String} {k n : Nat} {P : Outcome → State → Prop} {F : List Addr}
theorem g_clone (W : Wd p l e R s m args below meth c Z a0 EL own F T h k n) {pc pc' : Nat} {ls : Array Slot} {st : List Value} {a : Addr} {ty : FieldType} {cl : Cell} (A : Arr Z h a cl ty) (FC : FitC Z cl) (hlen : cl.slots.size < 2 ^ 31) {ad : String} (E : Exa Z h a ad) {index : Nat}
    (w1 : (Jvm.Cond.methodLink own index ⟨ad, "clone", "()Ljava/lang/Object;"⟩).before a0 Z = true) (w2 : (Jvm.Cond.sameMethod ad "java/lang/Object" "clone" "()Ljava/lang/Object;").before a0 Z = true) (w3 : (Jvm.Cond.native ⟨"java/lang/Object", "clone", "()Ljava/lang/Object;"⟩).before a0 Z = true)
    (w4 : (Jvm.Cond.instanceMethod ⟨"java/lang/Object", "clone", "()Ljava/lang/Object;"⟩).before a0 Z = true) (w5 : (Jvm.Cond.selects ad ⟨ad, "clone", "()Ljava/lang/Object;"⟩ ⟨"java/lang/Object", "clone", "()Ljava/lang/Object;"⟩).before a0 Z = true) (w6 : (Jvm.Cond.castable ad "java/lang/Cloneable").before a0 Z = true)
    (hsz : ls.size = c.maxLocals) (hd : decode c.code pc = .ok (.invokevirtual index, 3)) (hp : pc + 3 = pc') (hf : 1 ≤ R.frames) {Wn : Nat} (hW : (st.map fun v => v.category).sum ≤ Wn) (hl : Wn + 14 ≤ R.locals) {cap : Nat} (hcap : cl.slots.size ≤ cap) (hc : k + 1 ≤ R.cells) (hs : n + cap ≤ R.slots)
    (K : ∀ x T' h', h.size ≤ x → Wd p l e R s m args below meth c Z a0 EL own (x :: F) T' h' (k + 1) (n + cap) → Ext h h' → (Ali Z h' x ty cl.slots.toList ∧ Exa Z h' x ad) → Go p e below P T' (mkF m pc' ls (.ref x :: st))) : Go p e below P T (mkF m pc ls (.ref a :: st)) := by
  subst hp
  refine W.make (B := fun h' => Ali Z h' h.size ty cl.slots.toList ∧ Exa Z h' h.size ad) (fun X hZ hown eT => ?_) (fun T' h' => K h.size T' h' (Nat.le_refl _))
  obtain ⟨T', h', X', e1, E1, A1, E2, st⟩ := cloneA X W.hx hZ hown w1 w2 w3 w4 w5 w6 eT A E FC (g := mkF m pc ls (.ref a :: st)) rfl hsz rfl hd hf (by simpa using hW) hl hcap hc hs
  exact ⟨T', h', X', e1, E1, A1.lt, ⟨⟨_, A1, rfl, by simpa using hlen⟩, E2⟩, st⟩
/-- what a case says of an array: its length, its components -/
theorem arr_at {t : Jvm.Term} {a : Addr} {ty : FieldType} {z : Int32} {n : Nat} {vs : Nat → Value} (ev : t.eval args s none [] s = some (.ref a)) (ha : (Jvm.Cond.arrayOf t ty).value args s none s [] = some true) (hl : (Jvm.Cond.eq (.length t) (.int z)).value args s none s [] = some true) (hz : Int32.ofNat n = z) (hn : n < 2 ^ 31)
    (he : ∀ i, i < n → (Jvm.Term.elem t (.int (Int32.ofNat i))).eval args s none [] s = some (vs i)) : ∃ cl, Arr s s.heap a cl ty ∧ cl.slots.toList = (List.range n).map vs ∧ cl.slots.size = n := by
  obtain ⟨cl, A⟩ := Arr.start ev ha
  have hat := Arr.fin (Vm.Alike.refl _) A
  have hlen := Cond.eq_int (Cond.before_iff.mpr hl) rfl
  have h31 := Jvm.Free.SBG.length_lt ev hat hlen
  have hsz : cl.slots.size = n := by
    have e : (Jvm.Term.length t).eval args s none [] s = some (.int (Int32.ofNat cl.slots.size)) := by simp [Jvm.Term.eval, ev, hat, h31]
    have h2 : Int32.ofNat cl.slots.size = Int32.ofNat n := by rw [hz]; simpa using Option.some.inj (e.symm.trans hlen)
    have := congrArg Int32.toInt h2
    rw [Int32.toInt_ofNat_small h31, Int32.toInt_ofNat_small hn] at this; omega
  refine ⟨cl, A, ?_, hsz⟩
  apply List.ext_getElem?
  intro i
  rw [Array.getElem?_toList]
  rcases Nat.lt_or_ge i n with q | q
  · have e1 := he i q
    rw [Jvm.Free.SBG.elem_at (ix := .int (Int32.ofNat i)) ev hat (by omega) h31 rfl] at e1
    rw [e1]; simp [q]
  · rw [Array.getElem?_eq_none (by omega), List.getElem?_eq_none (by simpa using q)]
/-- what a case says of a String: exactly a String, Latin-1, these bytes -/
theorem str_at {t : Jvm.Term} {a : Addr} {z : Int32} {cs bs : List Int32} (ev : t.eval args s none [] s = some (.ref a)) (hx : (Jvm.Cond.exactly t "java/lang/String").value args s none s [] = some true) (hc : (Jvm.Cond.eq (.field t "java/lang/String" "coder" "B") (.int 0)).value args s none s [] = some true)
    (ha : (Jvm.Cond.arrayOf (.field t "java/lang/String" "value" "[B") .byte).value args s none s [] = some true) (hl : (Jvm.Cond.eq (.length (.field t "java/lang/String" "value" "[B")) (.int z)).value args s none s [] = some true) (hz : Int32.ofNat bs.length = z) (hb : cs.map lo = bs) (hL : Latin cs) (h4 : cs.length ≤ 4000)
    (he : ∀ i, i < bs.length → (Jvm.Cond.eq (.elem (.field t "java/lang/String" "value" "[B") (.int (Int32.ofNat i))) (.int (bs.getD i 0))).value args s none s [] = some true) : Str s s.heap a cs := by
  subst hb
  obtain ⟨tv, ev2⟩ := arr_v ha
  have ec := Cond.eq_int (Cond.before_iff.mpr hc) rfl
  rw [fld_at ev] at ec
  have fv := ev2
  rw [fld_at ev] at fv
  obtain ⟨cl, A, hA, hsz⟩ := arr_at (vs := fun i => .int ((cs.map lo).getD i 0)) ev2 ha hl hz (by simp; omega) (fun i hi => Cond.eq_int (Cond.before_iff.mpr (he i hi)) rfl)
  refine ⟨Exa.start ev hx, Fld.start ec, ⟨tv, Fld.start fv, cl, A, ?_, by simp; omega⟩, hL, h4⟩
  rw [hA]
  apply List.ext_getElem?
  intro i
  rcases Nat.lt_or_ge i (cs.map lo).length with q | q
  · simp only [List.length_map] at q
    simp [q]
  · simp only [List.length_map] at q
    rw [List.getElem?_eq_none (by simpa using q), List.getElem?_eq_none (by simpa using q)]
/-- a component of the array is this static's object -/
theorem elem_ref {t i u : Jvm.Term} {q : Addr} (h : (Jvm.Cond.eq (.elem t i) u).value args s none s [] = some true) (hu : u.eval args s none [] s = some (.ref q)) : (Jvm.Term.elem t i).eval args s none [] s = some (.ref q) := by
  obtain ⟨x, y, e1, e2, -, k2⟩ := cmp_v (Or.inl h)
  cases e2.symm.trans hu
  have hx : x.isRef = true := by
    have : Value.isRef (.ref q) = true ∧ x.isRef = true := k2
    exact this.2
  have e := gotT (eq_R e1 hu hx rfl) h
  rw [e1, e]
end OwnG
/-! own kit, part H: private and super calls, System.arraycopy over bytes -/
section OwnH
variable {p : Program} {l : Launch} {e : Env} {R : Room} {s : State} {m : MethodId} {args : Array Value} {below : List Frame} {meth : Method} {c : Code} {T T' : State} {h h' : Heap} {Z : State} {a0 : Array Value} {EL : List (String × Nat)} {own : String} {k n : Nat} {P : Outcome → State → Prop} {F : List Addr}
theorem decl_of {y : MethodName} {bytes : ByteArray} {maxL : Nat} {ret : Option FieldType} (w1 : (Jvm.Cond.instanceMethod y).before args s = true) (w2 : (Jvm.Cond.code y bytes maxL ret).before args s = true) : (Jvm.Cond.declares y).before args s = true := by
  obtain ⟨mk, mM, h1, h2, h3, h4⟩ := Cond.instanceMethod_spec w1
  obtain ⟨m2, cM, q1, -, -, -, -, -, -, q2⟩ := Cond.code_spec h1 w2
  cases h2.symm.trans q1
  simp [Cond.before, Cond.holds, Cond.value, h1, h2, h3, q2]
theorem same_of {y : MethodName} (w1 : (Jvm.Cond.instanceMethod y).before args s = true) (hn : NotFace s y) (hy : y.cls ≠ "java/lang/invoke/MethodHandle" ∧ y.cls ≠ "java/lang/invoke/VarHandle") : (Jvm.Cond.sameMethod y.cls y.cls y.name y.desc).before args s = true := by
  obtain ⟨mk, mM, h1, h2, h3, h4⟩ := Cond.instanceMethod_spec w1
  obtain ⟨kr, h5, h6⟩ := hn mk h1
  have h7 := findClass_of_methodNamed h1
  have h8 := State.methodFound?_of_named h1 hy
  have h9 : s.methodNamed? ⟨y.cls, y.name, y.desc⟩ = some mk := h1
  simp [Cond.before, Cond.holds, Cond.value, h7, h8, h9, h5, h6]
theorem g_superF (W : Wd p l e R s m args below meth c Z a0 EL own F T h k n) {F' : List Addr} {y : MethodName} {bytes : ByteArray} {maxL : Nat} {ret : Option FieldType} {rm : Room} {as' : Array Value} {Q : Value → Heap → List Addr → Prop} (hM : Met l Z EL F' y bytes maxL ret rm as' h (RetF Q)) (hF' : ∀ x ∈ F', x ∈ F) {index : Nat}
    (v1 : (Jvm.Cond.methodLink own index y).before a0 Z = true) (v2 : (Jvm.Cond.instanceMethod y).before a0 Z = true) (v5 : (Jvm.Cond.superclass own y.cls).before a0 Z = true) (v3 : (Jvm.Cond.initialized y.cls).before a0 Z = true) (v4 : (Jvm.Cond.code y bytes maxL ret).before a0 Z = true) (hy : y.cls ≠ "java/lang/invoke/MethodHandle" ∧ y.cls ≠ "java/lang/invoke/VarHandle") (hni : y.name ≠ "<init>")
    {ps : List FieldType} {rt : Option FieldType} (pd : parseMethodDescriptor y.desc = some ⟨ps, rt⟩) (hnf : ∃ C' y', y'.cls = y.cls ∧ (Jvm.Cond.selects C' y' y').before a0 Z = true) {a : Addr} {K0 : String} (I : Ins Z h a K0 true) {argsL : List Value} (has : (.ref a :: argsL).toArray = as') (hal : argsL.length = ps.length) {pc pc' : Nat} {ls : Array Slot} {st rest : List Value} (hst : st = argsL.reverse ++ .ref a :: rest) (hsz : ls.size = c.maxLocals)
    (hd : decode c.code pc = .ok (.invokespecial index, 3)) (hp : pc + 3 = pc') {Wn : Nat} (hW : (rest.map fun v => v.category).sum ≤ Wn) (hf : rm.frames + 1 ≤ R.frames) (hl : Wn + (maxL + 11) + rm.locals ≤ R.locals) (hc : k + rm.cells ≤ R.cells) (hs : n + rm.slots ≤ R.slots)
    (K : ∀ v T' h' FF, Wd p l e R s m args below meth c Z a0 EL own (FF ++ F) T' h' (k + rm.cells) (n + rm.slots) → h.size ≤ h'.size → Q v h' FF → Go p e below P T' (mkF m pc' ls (v :: rest))) : Go p e below P T (mkF m pc ls st) := by
  subst hp hst has
  obtain ⟨C', y', hyc, hyw⟩ := hnf
  obtain ⟨w1, w2, w3, w4, vm0, k0, locs, X, hZ, hown, eT, hS, hk, hC, hN, hH, hF⟩ := W
  obtain ⟨v, vm1, B, hw1, X', hS', hg, ⟨L, FF, ⟨q1, q2, q3, q4⟩, r1, r2, r3, r4, r5⟩, st⟩ := superBackS X w1 (own := own) hZ hown v1 (same_of v2 (nf_cls hyc hyw) hy) v2 v5 hni (Met.back hM hZ v4 v3 hf hl w3 hC.1 (fun x q => hF x (hF' x q))) eT I (g := mkF m pc ls (argsL.reverse ++ .ref a :: rest)) rfl hsz v4 (argsL := argsL) (rest := rest) (lenOf pd hal) rfl (by simpa using hW) hd (fun _ _ => ⟨rfl, eT, hc, hs⟩)
  rw [eT] at hg
  have W' := wd_after (B := B) w1 w3 w4 hZ hown hS hk hC hN hF X' hS' hg q2 q3 r1 r4 hH r5 q4
  simp only [Pt.cells, Pt.slots] at W' r2 r3
  rw [r2, r3] at W'
  obtain ⟨w, rfl, q1⟩ := q1
  exact (K w B.U _ FF W' hg q1).tr st
theorem g_virtV (W : Wd p l e R s m args below meth c Z a0 EL own F T h k n) {F' : List Addr} {y z : MethodName} {C : String} {bytes : ByteArray} {maxL : Nat} {ret : Option FieldType} {rm : Room} {as' : Array Value} {Q : Heap → Prop} (hM : Met l Z EL F' z bytes maxL ret rm as' h (Void Q)) (hF' : ∀ x ∈ F', x ∈ F) (hyz : ∃ C' y', y'.cls = y.cls ∧ (Jvm.Cond.selects C' y' y').before a0 Z = true) {index : Nat}
    (v1 : (Jvm.Cond.methodLink own index y).before a0 Z = true) (v2 : (Jvm.Cond.declares y).before a0 Z = true) (v5 : (Jvm.Cond.selects C y z).before a0 Z = true) (v6 : (Jvm.Cond.instanceMethod z).before a0 Z = true) (v3 : (Jvm.Cond.initialized z.cls).before a0 Z = true) (v4 : (Jvm.Cond.code z bytes maxL ret).before a0 Z = true) (hy : y.cls ≠ "java/lang/invoke/MethodHandle" ∧ y.cls ≠ "java/lang/invoke/VarHandle")
    {ps : List FieldType} {rt : Option FieldType} (pd : parseMethodDescriptor y.desc = some ⟨ps, rt⟩) {a : Addr} (E : Exa Z h a C) {argsL : List Value} (has : (.ref a :: argsL).toArray = as') (hal : argsL.length = ps.length) {pc pc' : Nat} {ls : Array Slot} {st rest : List Value} (hst : st = argsL.reverse ++ .ref a :: rest) (hsz : ls.size = c.maxLocals)
    (hd : decode c.code pc = .ok (.invokevirtual index, 3)) (hp : pc + 3 = pc') {Wn : Nat} (hW : (rest.map fun v => v.category).sum ≤ Wn) (hf : rm.frames + 1 ≤ R.frames) (hl : Wn + (maxL + 11) + rm.locals ≤ R.locals) (hc : k + rm.cells ≤ R.cells) (hs : n + rm.slots ≤ R.slots)
    (K : ∀ T' h', Wd p l e R s m args below meth c Z a0 EL own F T' h' (k + rm.cells) (n + rm.slots) → h.size ≤ h'.size → Q h' → Go p e below P T' (mkF m pc' ls rest)) : Go p e below P T (mkF m pc ls st) :=
  g_virtO W hM hF' hyz v1 v2 v5 v6 v3 v4 hy pd E has hal hst hsz hd hp hW hf hl hc hs fun v T' h' FF W' hg q => by
    obtain ⟨rfl, q⟩ := q
    exact K T' h' (W'.drop fun x z => List.mem_append.mpr (Or.inr z)) hg q
theorem g_callSV (W : Wd p l e R s m args below meth c Z a0 EL own F T h k n) {F' : List Addr} {y : MethodName} {bytes : ByteArray} {maxL : Nat} {ret : Option FieldType} {rm : Room} {as' : Array Value} {Q : Heap → Prop} (hM : Met l Z EL F' y bytes maxL ret rm as' h (Void Q)) (hF' : ∀ x ∈ F', x ∈ F) {index : Nat}
    (v1 : (Jvm.Cond.methodLink own index y).before a0 Z = true) (v2 : (Jvm.Cond.static y).before a0 Z = true) (v3 : (Jvm.Cond.initialized y.cls).before a0 Z = true) (v4 : (Jvm.Cond.code y bytes maxL ret).before a0 Z = true) (hy : y.cls ≠ "java/lang/invoke/MethodHandle" ∧ y.cls ≠ "java/lang/invoke/VarHandle")
    {ps : List FieldType} {rt : Option FieldType} (pd : parseMethodDescriptor y.desc = some ⟨ps, rt⟩) {argsL : List Value} (has : argsL.toArray = as') (hal : argsL.length = ps.length) {pc pc' : Nat} {ls : Array Slot} {st rest : List Value} (hst : st = argsL.reverse ++ rest) (hsz : ls.size = c.maxLocals)
    (hd : decode c.code pc = .ok (.invokestatic index, 3)) (hp : pc + 3 = pc') {Wn : Nat} (hW : (rest.map fun v => v.category).sum ≤ Wn) (hf : rm.frames + 1 ≤ R.frames) (hl : Wn + (maxL + 11) + rm.locals ≤ R.locals) (hc : k + rm.cells ≤ R.cells) (hs : n + rm.slots ≤ R.slots)
    (K : ∀ T' h', Wd p l e R s m args below meth c Z a0 EL own F T' h' (k + rm.cells) (n + rm.slots) → h.size ≤ h'.size → Q h' → Go p e below P T' (mkF m pc' ls rest)) : Go p e below P T (mkF m pc ls st) :=
  g_callSO W hM hF' v1 v2 v3 v4 hy pd has hal hst hsz hd hp hW hf hl hc hs fun v T' h' FF W' hg q => by
    obtain ⟨rfl, q⟩ := q
    exact K T' h' (W'.drop fun x z => List.mem_append.mpr (Or.inr z)) hg q
theorem Met.introP {ws : List Jvm.Cond} {y : MethodName} {bytes : ByteArray} {maxL : Nat} {ret : Option FieldType} {rm : Room} {as' : Array Value} {Q : Option Value → Heap → List Addr → Prop} (pn : plainFor y = true) (hEL : EW Z a0 EL) (hO : Ext Z.heap h)
    (body : ∀ (p : Program) (e : Env) (s : State) (m : MethodId) (below : List Frame) (meth : Method) (c : Code) (T : State), Wd p l e rm s m as' below meth c Z a0 EL y.cls F T h 0 0 → c.code = bytes → c.maxLocals = maxL → meth.sig.returnType = ret → meth.name = y.name →
      Go p e below (Endp Z EL s Q rm.cells rm.slots) T (entryFrame m as' maxL)) : MetW ws l Z EL F y bytes maxL ret rm as' h Q := by
  refine MetFree.of_bodySF pn hisR ?_
  intro p e s m args below meth c s₁ Bd hml0 hP hK
  obtain ⟨rfl, hZ, hh, hC, hF⟩ := hP
  have hown : s.vm.findClass y.cls = some m.cls := findClass_of_methodNamed Bd.named
  have hnm := (name_of_methodNamed Bd.named Bd.method).1
  have X0 : Stand p l e rm s m args below meth c s₁ [] 0 0 := Stand.of_body Bd
  have e0 : s₁.heap = h := by rw [← hh, Bd.state]; rfl
  exact body p e s m below meth c s₁ ⟨Bd.exec, hO, hEL, Bd.notSynchronized, s.vm, h.size, [], X0, hZ, hown, e0, State.WarmedH.since (State.WarmedH.refl s) _, Nat.le_refl _, by rw [hh]; exact CHr.refl hC, Fr.nil _, fun _ => State.WarmedH.refl s, hF⟩ Bd.bytes hml0 Bd.returns hnm
/-- bytes -/
def Bys (bs : List Int32) : Prop := ∀ b ∈ bs, fits .byte (.int b) = true
theorem Bys.lo (cs : List Int32) : Bys (cs.map lo) := fun b hb => by
  obtain ⟨x, -, rfl⟩ := List.mem_map.mp hb
  exact fits_lo x
theorem Bys.rep (n : Nat) : Bys (List.replicate n 0) := fun b hb => by rw [(List.mem_replicate.mp hb).2]; rfl
theorem Bys.app {x y : List Int32} (hx : Bys x) (hy : Bys y) : Bys (x ++ y) := fun b hb => (List.mem_append.mp hb).elim (hx b) (hy b)
theorem Bys.take {x : List Int32} (hx : Bys x) (n : Nat) : Bys (x.take n) := fun b hb => hx b (List.mem_of_mem_take hb)
theorem Bys.drop {x : List Int32} (hx : Bys x) (n : Nat) : Bys (x.drop n) := fun b hb => hx b (List.mem_of_mem_drop hb)
theorem Bys.set {x : List Int32} (hx : Bys x) (i : Nat) {v : Int32} (hv : fits .byte (.int v) = true) : Bys (x.set i v) := fun b hb => by
  rcases List.mem_or_eq_of_mem_set hb with r | rfl
  · exact hx b r
  · exact hv
theorem g_arraycopy (W : Wd p l e R s m args below meth c Z a0 EL own F T h k n) {pc pc' : Nat} {ls : Array Slot} {rest : List Value} {a b : Addr} {us vs : List Int32} (A : Ali Z h a .byte (us.map Value.int)) (B : Ali Z h b .byte (vs.map Value.int)) (hA : Bys us) (hB : Bys vs) (hbz : Z.heap.size ≤ b) (hbF : b ∈ F) {index : Nat}
    (v1 : (Jvm.Cond.methodLink own index Jvm.Stand.acN).before a0 Z = true) (v2 : (Jvm.Cond.native Jvm.Stand.acN).before a0 Z = true) (v3 : (Jvm.Cond.static Jvm.Stand.acN).before a0 Z = true) (v4 : (Jvm.Cond.initialized "java/lang/System").before a0 Z = true)
    {sp dp nn : Int32} {i j t : Nat} (h1 : ¬ sp < 0) (h2 : ¬ dp < 0) (h3 : ¬ nn < 0) (e1 : sp.toNatClampNeg = i) (e2 : dp.toNatClampNeg = j) (e3 : nn.toNatClampNeg = t) (h4 : i + t ≤ us.length) (h5 : j + t ≤ vs.length)
    (hsz : ls.size = c.maxLocals) (hd : decode c.code pc = .ok (.invokestatic index, 3)) (hp : pc + 3 = pc') (hf : 1 ≤ R.frames) {Wn : Nat} (hW : (rest.map fun v => v.category).sum ≤ Wn) (hl : Wn + (nativeFrameWords "java/lang/System" "arraycopy" 5 + 11) ≤ R.locals)
    (K : ∀ T' h', Wd p l e R s m args below meth c Z a0 EL own F T' h' k n → Keep h h' [b] → Ali Z h' b .byte ((vs.take j ++ (us.drop i).take t ++ vs.drop (j + t)).map Value.int) → Go p e below P T' (mkF m pc' ls rest)) : Go p e below P T (mkF m pc ls (.int nn :: .int dp :: .ref b :: .int sp :: .ref a :: rest)) := by
  subst hp e1 e2 e3
  have la : us.length < 2 ^ 31 := by obtain ⟨_, _, _, q⟩ := A; simpa using q
  have lb : vs.length < 2 ^ 31 := by obtain ⟨_, _, _, q⟩ := B; simpa using q
  obtain ⟨kA, A1⟩ := A.arv (d := .int 0) (z := Int32.ofNat us.length) (fun v hv => by obtain ⟨y, hy, rfl⟩ := List.mem_map.mp hv; exact hA y hy) (by simp)
  obtain ⟨kB, B1⟩ := B.arv (d := .int 0) (z := Int32.ofNat vs.length) (fun v hv => by obtain ⟨y, hy, rfl⟩ := List.mem_map.mp hv; exact hB y hy) (by simp)
  obtain ⟨w1, w2, w3, w4, vm0, k0, locs, X, hZ, hown, eT, hS, hk, hC, hN, hH, hF⟩ := W
  have hus : ((us.drop sp.toNatClampNeg).take nn.toNatClampNeg).map Value.int = (List.range nn.toNatClampNeg).map fun i => (us.map Value.int).getD (sp.toNatClampNeg + i) (.int 0) := by
    apply List.ext_getElem?
    intro q
    rcases Nat.lt_or_ge q nn.toNatClampNeg with r | r
    · have r2 : sp.toNatClampNeg + q < us.length := by omega
      simp [r, r2, List.getElem?_take, List.getElem?_drop]
    · rw [List.getElem?_eq_none (by simp; omega), List.getElem?_eq_none (by simpa using r)]
  obtain ⟨T', h', L, X', eT', hNL, Kp, B2, st⟩ := cpA X w1 hZ hown v1 v2 v3 v4 eT A1 B1 (Or.inl ⟨rfl, rfl⟩) h1 h2 h3 (by rw [own_n32 la]; exact h4) (by rw [own_n32 lb]; exact h5) hus (by simpa using h5) hN hbz (g := mkF m pc ls (.int nn :: .int dp :: .ref b :: .int sp :: .ref a :: rest)) rfl hsz rfl hd hf (by simpa using hW) hl
  have hq : ∀ x ∈ [b], Wok Z F h x := fun x q => by cases List.mem_singleton.mp q; exact ⟨hbz, Or.inl hbF⟩
  have hs : ∀ x ∈ [b], Safe Z EL vm0 h x := fun x q => Wd.safeOf hZ.alike hF (hq x q)
  refine (K T' h' ⟨w1, ext_old_keep w2 Kp (fun x q => (hq x q).1), w3, w4, vm0, k0, L, X', hZ, hown, eT', hS, Nat.le_trans hk Kp.1, hC.trans (CHr.keep Kp hs hC.1), hNL, hH, fun x r => ⟨Nat.lt_of_lt_of_le (hF x r).1 Kp.1, Safe.keep Kp hs hC.1 (hF x r).2⟩⟩ Kp ?_).st st
  have q := Ali.of_arv B2 (by
    rw [own_n32 lb]
    simp only [List.length_append, List.length_take, List.length_drop, List.length_map]
    omega)
  simpa [List.map_take, List.map_drop] using q
end OwnH
/-! own kit, part I: lookupswitch, newarray with its class, a byte array's fitness -/
section OwnI
variable {p : Program} {l : Launch} {e : Env} {R : Room} {s : State} {m : MethodId} {args : Array Value} {below : List Frame} {meth : Method} {c : Code} {T T' : State} {h h' : Heap} {Z : State} {a0 : Array Value} {EL : List (String × Nat)} {own : String} {k n : Nat} {P : Outcome → State → Prop} {F : List Addr}
theorem g_lookHit (W : Wd p l e R s m args below meth c Z a0 EL own F T h k n) {pc pc' : Nat} {ls : Array Slot} {st : List Value} {v : Int32} {default : Int} {pairs : Array (Int × Int)} {len : Nat} (hd : decode c.code pc = .ok (.lookupswitch default pairs, len)) (hs : (pairs.toList.zip (pairs.toList.drop 1)).all (fun (a, next) => a.1 < next.1) = true) {a off : Int} (hf : pairs.find? (·.1 == v.toInt) = some (a, off)) (ho : 0 ≤ (pc : Int) + off) (hp : ((pc : Int) + off).toNat = pc') (K : Go p e below P T (mkF m pc' ls st)) : Go p e below P T (mkF m pc ls (.int v :: st)) := by
  subst hp
  obtain ⟨w1, w2, w3, w4, vm0, k0, locs, X, r⟩ := W
  exact K.st fun t q => X.lookupswitchHit w1 (g := mkF m pc ls (.int v :: st)) rfl rfl hd hs hf ho t q
theorem g_lookMiss (W : Wd p l e R s m args below meth c Z a0 EL own F T h k n) {pc pc' : Nat} {ls : Array Slot} {st : List Value} {v : Int32} {default : Int} {pairs : Array (Int × Int)} {len : Nat} (hd : decode c.code pc = .ok (.lookupswitch default pairs, len)) (hs : (pairs.toList.zip (pairs.toList.drop 1)).all (fun (a, next) => a.1 < next.1) = true) (hf : pairs.find? (·.1 == v.toInt) = none) (ho : 0 ≤ (pc : Int) + default) (hp : ((pc : Int) + default).toNat = pc') (K : Go p e below P T (mkF m pc' ls st)) : Go p e below P T (mkF m pc ls (.int v :: st)) := by
  subst hp
  obtain ⟨w1, w2, w3, w4, vm0, k0, locs, X, r⟩ := W
  exact K.st fun t q => X.lookupswitchMiss w1 (g := mkF m pc ls (.int v :: st)) rfl rfl hd hs hf ho t q
theorem g_newarrayB (W : Wd p l e R s m args below meth c Z a0 EL own F T h k n) {pc pc' : Nat} {ls : Array Slot} {st : List Value} {z : Int32} {i : Nat} (hz : ¬ z < 0) (hi : z.toNatClampNeg = i) (w : (Jvm.Cond.arrayClass .byte).before a0 Z = true)
    (hd : decode c.code pc = .ok (.newarray .byte, 2)) (hp : pc + 2 = pc') {cap : Nat} (hcap : i ≤ cap) (hb : cap * 8 ≤ 536870912) (hc : k + 1 ≤ R.cells) (hl : n + cap ≤ R.slots)
    (K : ∀ x T' h', h.size ≤ x → Wd p l e R s m args below meth c Z a0 EL own (x :: F) T' h' (k + 1) (n + cap) → Ext h h' → (Ali Z h' x .byte ((List.replicate i (0 : Int32)).map Value.int) ∧ Exa Z h' x "[B") → Go p e below P T' (mkF m pc' ls (.ref x :: st))) : Go p e below P T (mkF m pc ls (.int z :: st)) := by
  subst hp
  refine W.make (B := fun h' => Ali Z h' h.size .byte ((List.replicate i (0 : Int32)).map Value.int) ∧ Exa Z h' h.size "[B") (fun X hZ hown eT => ?_) (fun T' h' => K h.size T' h' (Nat.le_refl _))
  obtain ⟨T', h', cA, X', e1, E, A, EX, st⟩ := newPE X W.hx hZ (aty := .byte) w eT (g := mkF m pc ls (.int z :: st)) rfl hd rfl hz (by rw [hi]; exact hcap) hb hc hl (ad := "[B") (by decide)
  refine ⟨T', h', X', e1, E, A.lt, ⟨⟨_, A, ?_, ?_⟩, EX⟩, st⟩
  · rw [List.map_replicate]
    simp [newA, hi, newarray.typeOf, defaultValue]
  · rw [List.length_map, List.length_replicate]
    have := (back32 hz).2
    omega
theorem fitC_byte {a : Addr} {cl : Cell} {bs : List Int32} (A : Arr Z h a cl .byte) (e : cl.slots.toList = bs.map Value.int) (hb : Bys bs) : FitC Z cl := fun i v hv => by
  obtain ⟨-, ⟨-, k, hk, comp, hkind⟩, -⟩ := A
  have q : (bs.map Value.int)[i]? = some v := by rw [← e]; simpa using hv
  obtain ⟨b, hb1, rfl⟩ : ∃ b, bs[i]? = some b ∧ Value.int b = v := by simpa using q
  have := hb b (List.mem_of_getElem? hb1)
  simp [State.fitsSlot, State.slotType?, hk, hkind, this]
end OwnI
/-! new String(new char[0]) -/
theorem pnS : plainName "java/lang/String" = true := by first | (simp [plainName, overriddenIn]; done) | decide +kernel
theorem i4_0 : decode jdk_42_method_149_code 0 = .ok (.aload_n 0, 1) := by decide +kernel
theorem i4_1 : decode jdk_42_method_149_code 1 = .ok (.invokespecial 1, 3) := by decide +kernel
theorem i4_4 : decode jdk_42_method_149_code 4 = .ok (.iload_n 3, 1) := by decide +kernel
theorem i4_5 : decode jdk_42_method_149_code 5 = .ok (.ifCond .ne 22, 3) := by decide +kernel
theorem i4_8 : decode jdk_42_method_149_code 8 = .ok (.aload_n 0, 1) := by decide +kernel
theorem i4_9 : decode jdk_42_method_149_code 9 = .ok (.ldc 7, 2) := by decide +kernel
theorem i4_11 : decode jdk_42_method_149_code 11 = .ok (.getfield 9, 3) := by decide +kernel
theorem i4_14 : decode jdk_42_method_149_code 14 = .ok (.putfield 9, 3) := by decide +kernel
theorem i4_17 : decode jdk_42_method_149_code 17 = .ok (.aload_n 0, 1) := by decide +kernel
theorem i4_18 : decode jdk_42_method_149_code 18 = .ok (.ldc 7, 2) := by decide +kernel
theorem i4_20 : decode jdk_42_method_149_code 20 = .ok (.getfield 15, 3) := by decide +kernel
theorem i4_23 : decode jdk_42_method_149_code 23 = .ok (.putfield 15, 3) := by decide +kernel
theorem i4_26 : decode jdk_42_method_149_code 26 = .ok (.return_, 1) := by decide +kernel
theorem efI4 (m : MethodId) (x0 : Addr) (x1 : Addr) (x2 : Int32) (x3 : Int32) : entryFrame m #[.ref x0, .ref x1, .int x2, .int x3, .null] 6 = mkF m 0 #[.val (.ref x0), .val (.ref x1), .val (.int x2), .val (.int x3), .val .null, .unset] [] := by first | (simp [entryFrame, mkF, argsToLocals, Value.category, maxLocals]; done) | rfl
set_option maxRecDepth 65536 in
set_option maxHeartbeats 4000000 in
theorem t_init4E (l : Launch) {Z : State} {a0 : Array Value} (hw : ∀ d ∈ tables_1, d.before a0 Z = true) (hEL : EW Z a0 consts_1) {h : Heap} (hO : Ext Z.heap h) {x b : Addr} (S : NewS Z [x] h x) :
    Met l Z consts_1 [x] (⟨"java/lang/String", "<init>", "([CIILjava/lang/Void;)V"⟩ : MethodName) jdk_42_method_149_code 6 none { frames := 1, cells := 4, slots := 8, locals := 12 } #[.ref x, .ref b, .int 0, .int 0, .null] h (Void fun h' => Keep h h' [x] ∧ Str Z h' x []) := by
  refine Met.intro pnS hEL hO ?_
  intro p e s m below meth c T W hby hml hret hnm
  have D : ∀ {pc : Nat} {r}, decode jdk_42_method_149_code pc = r → decode c.code pc = r := fun q => hb hby q
  refine Go.cast (efI4 m x b 0 0) ?_
  have wS := own_wS hw
  have wi : (Jvm.Cond.instantiable "java/lang/String" 4).before a0 Z = true := (hI hw 5 rfl)
  refine g_aloadN W (pc' := 1) (D i4_0) rfl rfl (by first | rfl | assumption) ?_
  refine g_initO W (pc' := 4) (hI hw 15 rfl) (hI hw 16 rfl) (hI hw 17 rfl) (by rw [hml]; rfl) (D i4_1) rfl (by decide) (Wn := 0) (Nat.le_refl _) (by decide) (fun T W => ?_)
  refine g_iloadN W (pc' := 5) (D i4_4) rfl rfl ?_
  refine g_ifneN W (pc1 := 27) (pc2 := 8) (D i4_5) (by decide) (by decide) rfl (rfl) ?_
  refine g_aloadN W (pc' := 9) (D i4_8) rfl rfl (by first | rfl | assumption) ?_
  refine g_ldcS W (pc' := 11) (text := "") (cs := []) (hI hw 18 rfl) wS (by decide) (by decide +kernel) (by unfold Latin; decide) (by decide) (nn := 0) (by decide) (by decide) (D i4_9) rfl (by decide) (by decide) (fun a1 T h1 W E1 S1 => ?_)
  obtain ⟨-, -, ⟨t1, f1, A1⟩, -⟩ := S1
  obtain ⟨hx0, hxF, EX, ⟨v0, fv⟩, ⟨u0, fc⟩⟩ := S.ext E1
  refine g_getfield W (pc' := 14) (host := "") (Or.inl (hI hw 24 rfl)) Via.refl (f1) (D i4_11) rfl (fun T W => ?_)
  refine g_putfield W (pc' := 17) (host := "") (Or.inl (hI hw 24 rfl)) Via.refl (fv) (EX) (Or.inr ⟨(hI hw 20 rfl), rfl, hnm⟩) (hI hw 5 rfl) (ty := (.array .byte)) (by decide) rfl rfl (⟨hx0, Or.inl hxF⟩) (D i4_14) rfl (fun T h2 W Wr1 => ?_)
  have K2 : Keep h h2 [x] := (ext_keep E1 [x]).wr Wr1 (Or.inl (List.mem_singleton.mpr rfl))
  have sn : Jvm.RoadKit.slotOf Z "java/lang/String" "value" "[B" ≠ Jvm.RoadKit.slotOf Z "java/lang/String" "coder" "B" := slot_ne (C := "java/lang/String") (Or.inr (hI hw 20 rfl)) (Or.inr (hI hw 21 rfl)) (by decide) (t := .array .byte) (t' := .byte) (by decide) (by decide)
  have A2 := A1.wr Wr1 (A1.neE EX wi)
  replace fv := fv.same Wr1
  replace fc := fc.other Wr1 (Or.inr (Ne.symm sn))
  replace EX := EX.wr Wr1
  refine g_aloadN W (pc' := 18) (D i4_17) rfl rfl (by first | rfl | assumption) ?_
  refine g_ldcS W (pc' := 20) (text := "") (cs := []) (hI hw 18 rfl) wS (by decide) (by decide +kernel) (by unfold Latin; decide) (by decide) (nn := 0) (by decide) (by decide) (D i4_18) rfl (by decide) (by decide) (fun a2 T h3 W E2 S2 => ?_)
  refine g_getfield W (pc' := 23) (host := "") (Or.inl (hI hw 25 rfl)) Via.refl (S2.2.1) (D i4_20) rfl (fun T W => ?_)
  refine g_putfield W (pc' := 26) (host := "") (Or.inl (hI hw 25 rfl)) Via.refl (fc.ext E2) (EX.ext E2) (Or.inr ⟨(hI hw 21 rfl), rfl, hnm⟩) (hI hw 5 rfl) (ty := .byte) (by decide) rfl rfl (⟨hx0, Or.inl hxF⟩) (D i4_23) rfl (fun T h4 W Wr2 => ?_)
  refine g_return W (D i4_26) hret (by decide) (by decide) ⟨rfl, (K2.ext E2).wr Wr2 (Or.inl (List.mem_singleton.mpr rfl)), (EX.ext E2).wr Wr2, (fc.ext E2).same Wr2, ⟨t1, (fv.ext E2).other Wr2 (Or.inr sn), (A2.ext E2).wr Wr2 ((A2.ext E2).neE (EX.ext E2) wi)⟩, Latin.nil, by decide⟩
theorem i1_0 : decode jdk_42_method_3_code 0 = .ok (.aload_n 0, 1) := by decide +kernel
theorem i1_1 : decode jdk_42_method_3_code 1 = .ok (.aload_n 1, 1) := by decide +kernel
theorem i1_2 : decode jdk_42_method_3_code 2 = .ok (.iconst 0, 1) := by decide +kernel
theorem i1_3 : decode jdk_42_method_3_code 3 = .ok (.aload_n 1, 1) := by decide +kernel
theorem i1_4 : decode jdk_42_method_3_code 4 = .ok (.arraylength, 1) := by decide +kernel
theorem i1_5 : decode jdk_42_method_3_code 5 = .ok (.aconst_null, 1) := by decide +kernel
theorem i1_6 : decode jdk_42_method_3_code 6 = .ok (.invokespecial 27, 3) := by decide +kernel
theorem i1_9 : decode jdk_42_method_3_code 9 = .ok (.return_, 1) := by decide +kernel
theorem efI1 (m : MethodId) (x0 : Addr) (x1 : Addr) : entryFrame m #[.ref x0, .ref x1] 2 = mkF m 0 #[.val (.ref x0), .val (.ref x1)] [] := by first | (simp [entryFrame, mkF, argsToLocals, Value.category, maxLocals]; done) | rfl
set_option maxRecDepth 65536 in
set_option maxHeartbeats 4000000 in
theorem t_init1E (l : Launch) {Z : State} {a0 : Array Value} (hw : ∀ d ∈ tables_1, d.before a0 Z = true) (hEL : EW Z a0 consts_1) {h : Heap} (hO : Ext Z.heap h) {x b : Addr} (S : NewS Z [x] h x) (A : Ali Z h b .char (([] : List Int32).map Value.int)) :
    Met l Z consts_1 [x] (⟨"java/lang/String", "<init>", "([C)V"⟩ : MethodName) jdk_42_method_3_code 2 none { frames := 2, cells := 4, slots := 8, locals := 29 } #[.ref x, .ref b] h (Void fun h' => Keep h h' [x] ∧ Str Z h' x []) := by
  refine Met.intro pnS hEL hO ?_
  intro p e s m below meth c T W hby hml hret hnm
  have D : ∀ {pc : Nat} {r}, decode jdk_42_method_3_code pc = r → decode c.code pc = r := fun q => hb hby q
  refine Go.cast (efI1 m x b) ?_
  refine g_aloadN W (pc' := 1) (D i1_0) rfl rfl (by first | rfl | assumption) ?_
  refine g_aloadN W (pc' := 2) (D i1_1) rfl rfl (by first | rfl | assumption) ?_
  refine g_iconst W (pc' := 3) (D i1_2) rfl (v := (0 : Int32)) (by decide) ?_
  refine g_aloadN W (pc' := 4) (D i1_3) rfl rfl (by first | rfl | assumption) ?_
  refine g_arraylength W (pc' := 5) (A) (z := (0 : Int32)) (by decide) (D i1_4) rfl ?_
  refine g_aconst_null W (pc' := 6) (D i1_5) rfl ?_
  refine g_spec W (t_init4E l hw hEL W.old S (b := b)) (fun y q => q) rfl (hI hw 11 rfl) (hI hw 12 rfl) (hI hw 6 rfl) (hI hw 14 rfl) (by decide) pd_0 (argsL := [_, _, _, _]) rfl rfl (pc' := 9) rfl (by rw [hml]; rfl) (D i1_6) rfl (Wn := 0) (Nat.le_refl _) (by decide) (by decide) (by decide) (by decide) (fun T h1 W hg hQ => ?_)
  exact g_return W (D i1_9) hret (by decide) (by decide) ⟨rfl, hQ⟩
/-! String.valueOf(char), a char below 256 -/
theorem ce_0 : decode jdk_43_method_3_code 0 = .ok (.iload_n 0, 1) := by decide +kernel
theorem ce_1 : decode jdk_43_method_3_code 1 = .ok (.sipush 255, 3) := by decide +kernel
theorem ce_4 : decode jdk_43_method_3_code 4 = .ok (.if_icmp .gt 7, 3) := by decide +kernel
theorem ce_7 : decode jdk_43_method_3_code 7 = .ok (.iconst 1, 1) := by decide +kernel
theorem ce_8 : decode jdk_43_method_3_code 8 = .ok (.goto 4, 3) := by decide +kernel
theorem ce_11 : decode jdk_43_method_3_code 11 = .ok (.iconst 0, 1) := by decide +kernel
theorem ce_12 : decode jdk_43_method_3_code 12 = .ok (.ireturn, 1) := by decide +kernel
theorem efCe (m : MethodId) (x0 : Int32) : entryFrame m #[.int x0] 1 = mkF m 0 #[.val (.int x0)] [] := by first | (simp [entryFrame, mkF, argsToLocals, Value.category, maxLocals]; done) | rfl
theorem pnL1 : plainName "java/lang/StringLatin1" = true := by first | (simp [plainName, overriddenIn]; done) | decide +kernel
set_option maxRecDepth 65536 in
set_option maxHeartbeats 4000000 in
theorem t_canEncode (l : Launch) {Z : State} {a0 : Array Value} {EL : List (String × Nat)} (hEL : EW Z a0 EL) {h : Heap} (hO : Ext Z.heap h) {ch : Int32} (hc : Lc ch) :
    Met l Z EL [] (⟨"java/lang/StringLatin1", "canEncode", "(C)Z"⟩ : MethodName) jdk_43_method_3_code 1 (some .boolean) { frames := 0, cells := 0, slots := 0, locals := 0 } #[.int ch] h (Ret fun v h' => v = .int 1 ∧ h = h') := by
  refine Met.intro pnL1 hEL hO ?_
  intro p e s m below meth c T W hby hml hret hnm
  have D : ∀ {pc : Nat} {r}, decode jdk_43_method_3_code pc = r → decode c.code pc = r := fun q => hb hby q
  refine Go.cast (efCe m ch) ?_
  refine g_iloadN W (pc' := 1) (D ce_0) rfl rfl ?_
  refine g_sipush W (pc' := 4) (D ce_1) rfl (v := (255 : Int32)) (by decide) ?_
  refine g_icmpgtN W (pc1 := 11) (pc2 := 7) (D ce_4) (by decide) (by decide) rfl (hc.2) ?_
  refine g_iconst W (pc' := 8) (D ce_7) rfl (v := (1 : Int32)) (by decide) ?_
  refine g_goto W (pc' := 12) (D ce_8) (by decide) (by decide) ?_
  exact g_retz W (D ce_12) hret (Or.inr rfl) (by decide) (by decide) ⟨_, rfl, rfl, rfl⟩
theorem tb_0 : decode jdk_43_method_46_code 0 = .ok (.iconst 1, 1) := by decide +kernel
theorem tb_1 : decode jdk_43_method_46_code 1 = .ok (.newarray .byte, 2) := by decide +kernel
theorem tb_3 : decode jdk_43_method_46_code 3 = .ok (.dup, 1) := by decide +kernel
theorem tb_4 : decode jdk_43_method_46_code 4 = .ok (.iconst 0, 1) := by decide +kernel
theorem tb_5 : decode jdk_43_method_46_code 5 = .ok (.iload_n 0, 1) := by decide +kernel
theorem tb_6 : decode jdk_43_method_46_code 6 = .ok (.i2b, 1) := by decide +kernel
theorem tb_7 : decode jdk_43_method_46_code 7 = .ok (.bastore, 1) := by decide +kernel
theorem tb_8 : decode jdk_43_method_46_code 8 = .ok (.areturn, 1) := by decide +kernel
theorem efTb (m : MethodId) (x0 : Int32) : entryFrame m #[.int x0] 1 = mkF m 0 #[.val (.int x0)] [] := by first | (simp [entryFrame, mkF, argsToLocals, Value.category, maxLocals]; done) | rfl
set_option maxRecDepth 65536 in
set_option maxHeartbeats 4000000 in
theorem t_toBytes (l : Launch) {Z : State} {a0 : Array Value} {EL : List (String × Nat)} (hw : ∀ d ∈ tables_1, d.before a0 Z = true) (hEL : EW Z a0 EL) {h : Heap} (hO : Ext Z.heap h) {ch : Int32} :
    Met l Z EL [] (⟨"java/lang/StringLatin1", "toBytes", "(C)[B"⟩ : MethodName) jdk_43_method_46_code 1 (some (.array .byte)) { frames := 0, cells := 1, slots := 1, locals := 0 } #[.int ch] h (Ret fun v h' => ∃ b, v = .ref b ∧ h.size ≤ b ∧ Ext h h' ∧ Ali Z h' b .byte ([lo ch].map Value.int)) := by
  refine Met.intro pnL1 hEL hO ?_
  intro p e s m below meth c T W hby hml hret hnm
  have D : ∀ {pc : Nat} {r}, decode jdk_43_method_46_code pc = r → decode c.code pc = r := fun q => hb hby q
  refine Go.cast (efTb m ch) ?_
  refine g_iconst W (pc' := 1) (D tb_0) rfl (v := (1 : Int32)) (by decide) ?_
  refine g_newarray W (pc' := 3) (ty := .byte) rfl (i := 1) (by decide) (by decide) (hI hw 19 rfl) (D tb_1) rfl (cap := 1) (by decide) (by decide) (by decide) (by decide) (fun b T h1 hb0 W E A => ?_)
  replace A : Ali Z h1 b .byte ((List.replicate 1 (0 : Int32)).map Value.int) := A
  refine g_dup W (pc' := 4) (D tb_3) rfl rfl ?_
  refine g_iconst W (pc' := 5) (D tb_4) rfl (v := (0 : Int32)) (by decide) ?_
  refine g_iloadN W (pc' := 6) (D tb_5) rfl rfl ?_
  refine g_i2b W (pc' := 7) (D tb_6) rfl ?_
  refine g_bastore W (pc' := 8) (A) (Nat.le_trans hO.1 hb0) (List.mem_cons_self ..) (i := 0) (by decide) (by decide) (by decide) (D tb_7) rfl (fun T h2 W Kp A => ?_)
  refine g_areturn W (D tb_8) hret rfl rfl (by decide) (by decide) ⟨_, rfl, b, rfl, hb0, ?_, ?_⟩
  · exact keep_ext ((ext_keep E []).trans Kp (fun y q => Or.inr (by cases List.mem_singleton.mp q; exact hb0)))
  · have e : lo (lo ch) = lo ch := lo_lo ch
    rw [← e]
    exact A
theorem ib_0 : decode jdk_42_method_151_code 0 = .ok (.aload_n 0, 1) := by decide +kernel
theorem ib_1 : decode jdk_42_method_151_code 1 = .ok (.invokespecial 1, 3) := by decide +kernel
theorem ib_4 : decode jdk_42_method_151_code 4 = .ok (.aload_n 0, 1) := by decide +kernel
theorem ib_5 : decode jdk_42_method_151_code 5 = .ok (.aload_n 1, 1) := by decide +kernel
theorem ib_6 : decode jdk_42_method_151_code 6 = .ok (.putfield 9, 3) := by decide +kernel
theorem ib_9 : decode jdk_42_method_151_code 9 = .ok (.aload_n 0, 1) := by decide +kernel
theorem ib_10 : decode jdk_42_method_151_code 10 = .ok (.iload_n 2, 1) := by decide +kernel
theorem ib_11 : decode jdk_42_method_151_code 11 = .ok (.putfield 15, 3) := by decide +kernel
theorem ib_14 : decode jdk_42_method_151_code 14 = .ok (.return_, 1) := by decide +kernel
theorem efIb (m : MethodId) (x0 : Addr) (x1 : Addr) (x2 : Int32) : entryFrame m #[.ref x0, .ref x1, .int x2] 3 = mkF m 0 #[.val (.ref x0), .val (.ref x1), .val (.int x2)] [] := by first | (simp [entryFrame, mkF, argsToLocals, Value.category, maxLocals]; done) | rfl
set_option maxRecDepth 65536 in
set_option maxHeartbeats 4000000 in
theorem t_initBB (l : Launch) {Z : State} {a0 : Array Value} {EL : List (String × Nat)} (hw : ∀ d ∈ tables_1, d.before a0 Z = true) (hEL : EW Z a0 EL) {h : Heap} (hO : Ext Z.heap h) {x b : Addr} (S : NewS Z [x] h x) {cs : List Int32} (A : Ali Z h b .byte ((cs.map lo).map Value.int)) (hL : Latin cs) (hl : cs.length ≤ 4000) :
    Met l Z EL [x] (⟨"java/lang/String", "<init>", "([BB)V"⟩ : MethodName) jdk_42_method_151_code 3 none { frames := 1, cells := 0, slots := 0, locals := 12 } #[.ref x, .ref b, .int 0] h (Void fun h' => Keep h h' [x] ∧ Str Z h' x cs) := by
  refine Met.intro pnS hEL hO ?_
  intro p e s m below meth c T W hby hml hret hnm
  have D : ∀ {pc : Nat} {r}, decode jdk_42_method_151_code pc = r → decode c.code pc = r := fun q => hb hby q
  refine Go.cast (efIb m x b 0) ?_
  have wi : (Jvm.Cond.instantiable "java/lang/String" 4).before a0 Z = true := (hI hw 5 rfl)
  obtain ⟨hx0, hxF, EX, ⟨v0, fv⟩, ⟨u0, fc⟩⟩ := S
  have sn : Jvm.RoadKit.slotOf Z "java/lang/String" "value" "[B" ≠ Jvm.RoadKit.slotOf Z "java/lang/String" "coder" "B" := slot_ne (C := "java/lang/String") (Or.inr (hI hw 20 rfl)) (Or.inr (hI hw 21 rfl)) (by decide) (t := .array .byte) (t' := .byte) (by decide) (by decide)
  refine g_aloadN W (pc' := 1) (D ib_0) rfl rfl (by first | rfl | assumption) ?_
  refine g_initO W (pc' := 4) (hI hw 15 rfl) (hI hw 16 rfl) (hI hw 17 rfl) (by rw [hml]; rfl) (D ib_1) rfl (by decide) (Wn := 0) (Nat.le_refl _) (by decide) (fun T W => ?_)
  refine g_aloadN W (pc' := 5) (D ib_4) rfl rfl (by first | rfl | assumption) ?_
  refine g_aloadN W (pc' := 6) (D ib_5) rfl rfl (by first | rfl | assumption) ?_
  refine g_putfield W (pc' := 9) (host := "") (Or.inl (hI hw 24 rfl)) Via.refl (fv) (EX) (Or.inr ⟨(hI hw 20 rfl), rfl, hnm⟩) (hI hw 5 rfl) (ty := (.array .byte)) (by decide) rfl rfl (⟨hx0, Or.inl hxF⟩) (D ib_6) rfl (fun T h1 W Wr1 => ?_)
  have A2 := A.wr Wr1 (A.neE EX wi)
  have K1 : Keep h h1 [x] := Keep.of_wr Wr1
  replace fv := fv.same Wr1
  replace fc := fc.other Wr1 (Or.inr (Ne.symm sn))
  replace EX := EX.wr Wr1
  refine g_aloadN W (pc' := 10) (D ib_9) rfl rfl (by first | rfl | assumption) ?_
  refine g_iloadN W (pc' := 11) (D ib_10) rfl rfl ?_
  refine g_putfield W (pc' := 14) (host := "") (Or.inl (hI hw 25 rfl)) Via.refl (fc) (EX) (Or.inr ⟨(hI hw 21 rfl), rfl, hnm⟩) (hI hw 5 rfl) (ty := .byte) (by decide) rfl rfl (⟨hx0, Or.inl hxF⟩) (D ib_11) rfl (fun T h2 W Wr2 => ?_)
  exact g_return W (D ib_14) hret (by decide) (by decide) ⟨rfl, K1.wr Wr2 (Or.inl (List.mem_singleton.mpr rfl)), EX.wr Wr2, fc.same Wr2, ⟨b, fv.other Wr2 (Or.inr sn), A2.wr Wr2 (A2.neE EX wi)⟩, hL, hl⟩
theorem vo_0 : decode jdk_42_method_139_code 0 = .ok (.getstatic 38, 3) := by decide +kernel
theorem vo_3 : decode jdk_42_method_139_code 3 = .ok (.ifCond .eq 23, 3) := by decide +kernel
theorem vo_6 : decode jdk_42_method_139_code 6 = .ok (.iload_n 0, 1) := by decide +kernel
theorem vo_7 : decode jdk_42_method_139_code 7 = .ok (.invokestatic 1015, 3) := by decide +kernel
theorem vo_10 : decode jdk_42_method_139_code 10 = .ok (.ifCond .eq 16, 3) := by decide +kernel
theorem vo_13 : decode jdk_42_method_139_code 13 = .ok (.new 10, 3) := by decide +kernel
theorem vo_16 : decode jdk_42_method_139_code 16 = .ok (.dup, 1) := by decide +kernel
theorem vo_17 : decode jdk_42_method_139_code 17 = .ok (.iload_n 0, 1) := by decide +kernel
theorem vo_18 : decode jdk_42_method_139_code 18 = .ok (.invokestatic 1018, 3) := by decide +kernel
theorem vo_21 : decode jdk_42_method_139_code 21 = .ok (.iconst 0, 1) := by decide +kernel
theorem vo_22 : decode jdk_42_method_139_code 22 = .ok (.invokespecial 209, 3) := by decide +kernel
theorem vo_25 : decode jdk_42_method_139_code 25 = .ok (.areturn, 1) := by decide +kernel
theorem vo_26 : decode jdk_42_method_139_code 26 = .ok (.new 10, 3) := by decide +kernel
theorem vo_29 : decode jdk_42_method_139_code 29 = .ok (.dup, 1) := by decide +kernel
theorem vo_30 : decode jdk_42_method_139_code 30 = .ok (.iload_n 0, 1) := by decide +kernel
theorem vo_31 : decode jdk_42_method_139_code 31 = .ok (.invokestatic 1021, 3) := by decide +kernel
theorem vo_34 : decode jdk_42_method_139_code 34 = .ok (.iconst 1, 1) := by decide +kernel
theorem vo_35 : decode jdk_42_method_139_code 35 = .ok (.invokespecial 209, 3) := by decide +kernel
theorem vo_38 : decode jdk_42_method_139_code 38 = .ok (.areturn, 1) := by decide +kernel
theorem efVo (m : MethodId) (x0 : Int32) : entryFrame m #[.int x0] 1 = mkF m 0 #[.val (.int x0)] [] := by first | (simp [entryFrame, mkF, argsToLocals, Value.category, maxLocals]; done) | rfl
set_option maxRecDepth 65536 in
set_option maxHeartbeats 4000000 in
theorem t_valueOf (l : Launch) {Z : State} {a0 : Array Value} {EL : List (String × Nat)} (hw : ∀ d ∈ tables_1, d.before a0 Z = true) (hEL : EW Z a0 EL) (cst : Cst Z) {h : Heap} (hO : Ext Z.heap h) {ch : Int32} (hc : Lc ch) :
    Met l Z EL [] (⟨"java/lang/String", "valueOf", "(C)Ljava/lang/String;"⟩ : MethodName) jdk_42_method_139_code 1 (some (.object "java/lang/String")) { frames := 2, cells := 2, slots := 5, locals := 30 } #[.int ch] h (Ret fun v h' => ∃ x, v = .ref x ∧ Ext h h' ∧ Str Z h' x [ch]) := by
  refine Met.intro pnS hEL hO ?_
  intro p e s m below meth c T W hby hml hret hnm
  have D : ∀ {pc : Nat} {r}, decode jdk_42_method_139_code pc = r → decode c.code pc = r := fun q => hb hby q
  refine Go.cast (efVo m ch) ?_
  have wi : (Jvm.Cond.instantiable "java/lang/String" 4).before a0 Z = true := (hI hw 5 rfl)
  obtain ⟨zc, Sc, hzc⟩ := cst
  refine g_getstatic W (pc' := 3) (host := "") (Or.inl (hI hw 43 rfl)) Via.refl (Sc.ext W.old) (D vo_0) rfl (fun T W => ?_)
  refine g_ifeqN W (pc1 := 26) (pc2 := 6) (D vo_3) (by decide) (by decide) rfl (hzc) ?_
  refine g_iloadN W (pc' := 7) (D vo_6) rfl rfl ?_
  refine g_callS W (t_canEncode l hEL W.old hc) (fun x q => nomatch q) (hI hw 282 rfl) (hI hw 160 rfl) (hI hw 134 rfl) (hI hw 161 rfl) (by decide) pd_1 (argsL := [_]) rfl rfl (pc' := 10) rfl (by rw [hml]; rfl) (D vo_7) rfl (Wn := 0) (Nat.le_refl _) (by decide) (by decide) (by decide) (by decide) (fun v T h1 W hg hQ => ?_)
  obtain ⟨rfl, rfl⟩ := hQ
  refine g_ifeqN W (pc1 := 26) (pc2 := 13) (D vo_10) (by decide) (by decide) rfl (by decide) ?_
  refine g_newS W (pc' := 16) (hI hw 283 rfl) wi (hI hw 6 rfl) (hI hw 20 rfl) (hI hw 21 rfl) (D vo_13) rfl (by decide) (by decide) (fun x T h1 hx W E1 N => ?_)
  refine g_dup W (pc' := 17) (D vo_16) rfl rfl ?_
  refine g_iloadN W (pc' := 18) (D vo_17) rfl rfl ?_
  refine g_callS W (t_toBytes l hw hEL W.old (ch := ch)) (fun x q => nomatch q) (hI hw 284 rfl) (hI hw 285 rfl) (hI hw 134 rfl) (hI hw 286 rfl) (by decide) pd_2 (argsL := [_]) rfl rfl (pc' := 21) rfl (by rw [hml]; rfl) (D vo_18) rfl (Wn := 2) (Nat.le_refl _) (by decide) (by decide) (by decide) (by decide) (fun v T h2 W hg hQ => ?_)
  obtain ⟨b, rfl, hb0, E2, A⟩ := hQ
  refine g_iconst W (pc' := 22) (D vo_21) rfl (v := (0 : Int32)) (by decide) ?_
  refine g_spec W (t_initBB l hw hEL W.old ((N.mem (fun y q => q)).ext E2) (cs := [ch]) A (Latin.con hc Latin.nil) (by show 1 ≤ 4000; decide)) (fun y q => q) rfl (hI hw 287 rfl) (hI hw 288 rfl) (hI hw 6 rfl) (hI hw 289 rfl) (by decide) pd_3 (argsL := [_, _]) rfl rfl (pc' := 25) rfl (by rw [hml]; rfl) (D vo_22) rfl (Wn := 1) (Nat.le_refl _) (by decide) (by decide) (by decide) (by decide) (fun T h3 W hg hQ => ?_)
  obtain ⟨K3, S⟩ := hQ
  refine g_areturn W (D vo_25) hret rfl rfl (by decide) (by decide) ⟨_, rfl, x, rfl, ?_, S⟩
  exact keep_ext ((ext_keep (ext_trans E1 E2) []).trans K3 (fun y q => Or.inr (by cases List.mem_singleton.mp q; exact hx)))
/-! String.coder() -/
theorem cd_0 : decode jdk_42_method_152_code 0 = .ok (.getstatic 38, 3) := by decide +kernel
theorem cd_3 : decode jdk_42_method_152_code 3 = .ok (.ifCond .eq 10, 3) := by decide +kernel
theorem cd_6 : decode jdk_42_method_152_code 6 = .ok (.aload_n 0, 1) := by decide +kernel
theorem cd_7 : decode jdk_42_method_152_code 7 = .ok (.getfield 15, 3) := by decide +kernel
theorem cd_10 : decode jdk_42_method_152_code 10 = .ok (.goto 4, 3) := by decide +kernel
theorem cd_14 : decode jdk_42_method_152_code 14 = .ok (.ireturn, 1) := by decide +kernel
theorem efCd (m : MethodId) (x0 : Addr) : entryFrame m #[.ref x0] 1 = mkF m 0 #[.val (.ref x0)] [] := by first | (simp [entryFrame, mkF, argsToLocals, Value.category, maxLocals]; done) | rfl
set_option maxRecDepth 65536 in
set_option maxHeartbeats 4000000 in
theorem t_coder (l : Launch) {Z : State} {a0 : Array Value} {EL : List (String × Nat)} (hw : ∀ d ∈ tables_1, d.before a0 Z = true) (hEL : EW Z a0 EL) (cst : Cst Z) {h : Heap} (hO : Ext Z.heap h) {x : Addr} {cs : List Int32} (S : Str Z h x cs) :
    Met l Z EL [] (⟨"java/lang/String", "coder", "()B"⟩ : MethodName) jdk_42_method_152_code 1 (some .byte) { frames := 0, cells := 0, slots := 0, locals := 0 } #[.ref x] h (Ret fun v h' => v = .int 0 ∧ h = h') := by
  refine Met.intro pnS hEL hO ?_
  intro p e s m below meth c T W hby hml hret hnm
  have D : ∀ {pc : Nat} {r}, decode jdk_42_method_152_code pc = r → decode c.code pc = r := fun q => hb hby q
  refine Go.cast (efCd m x) ?_
  obtain ⟨zc, Sc, hzc⟩ := cst
  refine g_getstatic W (pc' := 3) (host := "") (Or.inl (hI hw 43 rfl)) Via.refl (Sc.ext W.old) (D cd_0) rfl (fun T W => ?_)
  refine g_ifeqN W (pc1 := 13) (pc2 := 6) (D cd_3) (by decide) (by decide) rfl (hzc) ?_
  refine g_aloadN W (pc' := 7) (D cd_6) rfl rfl (by first | rfl | assumption) ?_
  refine g_getfield W (pc' := 10) (host := "") (Or.inl (hI hw 25 rfl)) Via.refl (S.2.1) (D cd_7) rfl (fun T W => ?_)
  refine g_goto W (pc' := 14) (D cd_10) (by decide) (by decide) ?_
  exact g_ret W (D cd_14) hret rfl (Or.inl ⟨rfl, Or.inr (Or.inr (Or.inl rfl)), 0, rfl⟩) (by decide) (by decide) ⟨_, rfl, rfl, rfl⟩
/-! StringBuilder over bytes, with growth -/
abbrev SB : String := "java/lang/StringBuilder"
abbrev AB : String := "java/lang/AbstractStringBuilder"
theorem pnSB : plainName "java/lang/StringBuilder" = true := by first | (simp [plainName, overriddenIn]; done) | decide +kernel
theorem pnAB : plainName "java/lang/AbstractStringBuilder" = true := by first | (simp [plainName, overriddenIn]; done) | decide +kernel
theorem pnAr : plainName "java/util/Arrays" = true := by first | (simp [plainName, overriddenIn]; done) | decide +kernel
theorem pnMx : plainFor (⟨"java/lang/Math", "max", "(II)I"⟩ : MethodName) = true := by decide +kernel
theorem pnAS : plainName "jdk/internal/util/ArraysSupport" = true := by first | (simp [plainName, overriddenIn]; done) | decide +kernel
theorem pnMa : plainFor (⟨"java/lang/Math", "min", "(II)I"⟩ : MethodName) = true := by decide +kernel
/-- a StringBuilder x over the byte array t (cap bytes) that holds the chars cs -/
def Sbd (Z : State) (h : Heap) (x t : Addr) (cap : Nat) (cs : List Int32) : Prop :=
  Z.heap.size ≤ x ∧ Z.heap.size ≤ t ∧ Exa Z h x SB ∧ Fld Z h x AB "value" "[B" (.ref t) ∧ Fld Z h x AB "coder" "B" (.int 0) ∧ Fld Z h x AB "count" "I" (.int (Int32.ofNat cs.length)) ∧ (Exa Z h t "[B" ∧ Fld Z h x AB "maybeLatin1" "Z" (.int 0)) ∧ ∃ bs, Ali Z h t .byte (bs.map Value.int) ∧ Bys bs ∧ bs.length = cap ∧ cs.length ≤ cap ∧ bs.take cs.length = cs.map lo
theorem Sbd.ext {Z : State} {h h' : Heap} {x t : Addr} {cap : Nat} {cs : List Int32} (E : Ext h h') (B : Sbd Z h x t cap cs) : Sbd Z h' x t cap cs := by
  obtain ⟨b1, b2, b3, b4, b5, b6, bx, bs, b7, r⟩ := B
  exact ⟨b1, b2, b3.ext E, b4.ext E, b5.ext E, b6.ext E, ⟨bx.1.ext E, bx.2.ext E⟩, bs, b7.ext E, r⟩
theorem Sbd.cap31 {Z : State} {h : Heap} {x t : Addr} {cap : Nat} {cs : List Int32} (B : Sbd Z h x t cap cs) : cap < 2 ^ 31 := by
  obtain ⟨b1, b2, b3, b4, b5, b6, bx, bs, ⟨_, _, _, q⟩, _, r, _⟩ := B
  rw [← r]; simpa using q
theorem shl0 (x : Int32) : x <<< ((0 : Int32) &&& 31) = x := by
  have e : ((0 : Int32) &&& 31) = 0 := by decide
  rw [e]
  apply Int32.toBitVec_inj.mp
  simp
theorem shr0 (x : Int32) : x >>> ((0 : Int32) &&& 31) = x := by
  have e : ((0 : Int32) &&& 31) = 0 := by decide
  rw [e]
  apply Int32.toBitVec_inj.mp
  simp
theorem ens_le {n cap : Nat} (h : n ≤ cap) (hc : cap < 2 ^ 31) : ¬ 0 < Int32.ofNat n - Int32.ofNat cap := by
  have q := c_isub (Int32.ofNat n) (Int32.ofNat cap)
  have r := rng32 (Int32.ofNat n - Int32.ofNat cap)
  rw [Int32.toInt_ofNat_small hc, Int32.toInt_ofNat_small (by omega)] at q
  rw [Int32.lt_iff_toInt_lt]
  have e0 : (0 : Int32).toInt = 0 := rfl
  omega
theorem inc1 (n : Nat) : Int32.ofNat n + Int32.ofInt 1 = Int32.ofNat (n + 1) := by
  have e : Int32.ofInt 1 = Int32.ofNat 1 := rfl
  rw [e, Int32.ofNat_add]
theorem take_set1 {α : Type} {l : List α} {n : Nat} {v : α} (h : n < l.length) : (l.set n v).take (n + 1) = l.take n ++ [v] := by
  rw [List.take_add_one, List.take_set_of_le (Nat.le_refl n)]
  simp [h]
theorem min_lt {n m : Nat} (h : n ≤ m) (hm : m < 2 ^ 31) : ¬ Int32.ofNat m < Int32.ofNat n := by
  rw [Int32.lt_iff_toInt_lt, Int32.toInt_ofNat_small hm, Int32.toInt_ofNat_small (by omega)]
  omega
theorem ofNat_sub' {n k : Nat} (h : k ≤ n) : Int32.ofNat n - Int32.ofNat k = Int32.ofNat (n - k) := by
  have e : Int32.ofNat n = Int32.ofNat (n - k) + Int32.ofNat k := by rw [← Int32.ofNat_add, Nat.sub_add_cancel h]
  rw [e, Int32.add_sub_cancel]
theorem own_grow {h h1 : Heap} {ws us : List Addr} (K : Keep h h1 ws) (q : ∀ z ∈ ws, z ∈ us) : Keep h h1 us := ⟨K.1, fun a c p r => K.2.1 a c p (fun z => r (q a z)), K.2.2⟩
theorem keep_two {h h1 h2 : Heap} {x t t' : Addr} (K1 : Keep h h1 [x]) (K2 : Keep h1 h2 [x, t']) (ht : t' = t ∨ h.size ≤ t') : Keep h h2 [x, t] :=
  (own_grow K1 (fun z hz => by cases List.mem_singleton.mp hz; exact List.mem_cons_self ..)).trans K2 (fun z hz => by
    rcases List.mem_cons.mp hz with rfl | hz
    · exact Or.inl (List.mem_cons_self ..)
    · cases List.mem_singleton.mp hz
      rcases ht with rfl | ht
      · exact Or.inl (List.mem_cons_of_mem _ (List.mem_singleton.mpr rfl))
      · exact Or.inr ht)
theorem gv_0 : decode jdk_68_method_64_code 0 = .ok (.aload_n 0, 1) := by decide +kernel
theorem gv_1 : decode jdk_68_method_64_code 1 = .ok (.getfield 15, 3) := by decide +kernel
theorem gv_4 : decode jdk_68_method_64_code 4 = .ok (.areturn, 1) := by decide +kernel
theorem efGv (m : MethodId) (x0 : Addr) : entryFrame m #[.ref x0] 1 = mkF m 0 #[.val (.ref x0)] [] := by first | (simp [entryFrame, mkF, argsToLocals, Value.category, maxLocals]; done) | rfl
set_option maxRecDepth 65536 in
set_option maxHeartbeats 4000000 in
theorem t_getValue (l : Launch) {Z : State} {a0 : Array Value} {EL : List (String × Nat)} (hw : ∀ d ∈ tables_1, d.before a0 Z = true) (hEL : EW Z a0 EL) (cst : Cst Z) {h : Heap} (hO : Ext Z.heap h) {x t : Addr} {cap : Nat} {cs : List Int32} (B : Sbd Z h x t cap cs) :
    Met l Z EL [] (⟨"java/lang/AbstractStringBuilder", "getValue", "()[B"⟩ : MethodName) jdk_68_method_64_code 1 (some (.array .byte)) { frames := 0, cells := 0, slots := 0, locals := 0 } #[.ref x] h (Ret fun v h' => v = .ref t ∧ h = h') := by
  refine Met.intro pnAB hEL hO ?_
  intro p e s m below meth c T W hby hml hret hnm
  have D : ∀ {pc : Nat} {r}, decode jdk_68_method_64_code pc = r → decode c.code pc = r := fun q => hb hby q
  refine Go.cast (efGv m x) ?_
  refine g_aloadN W (pc' := 1) (D gv_0) rfl rfl (by first | rfl | assumption) ?_
  refine g_getfield W (pc' := 4) (host := "") (Or.inl (hI hw 55 rfl)) Via.refl (B.2.2.2.1) (D gv_1) rfl (fun T W => ?_)
  exact g_areturn W (D gv_4) hret rfl rfl (by decide) (by decide) ⟨_, rfl, rfl, rfl⟩
theorem la_0 : decode jdk_68_method_6_code 0 = .ok (.aload_n 0, 1) := by decide +kernel
theorem la_1 : decode jdk_68_method_6_code 1 = .ok (.getfield 79, 3) := by decide +kernel
theorem la_4 : decode jdk_68_method_6_code 4 = .ok (.ireturn, 1) := by decide +kernel
theorem efLa (m : MethodId) (x0 : Addr) : entryFrame m #[.ref x0] 1 = mkF m 0 #[.val (.ref x0)] [] := by first | (simp [entryFrame, mkF, argsToLocals, Value.category, maxLocals]; done) | rfl
set_option maxRecDepth 65536 in
set_option maxHeartbeats 4000000 in
theorem t_lenA (l : Launch) {Z : State} {a0 : Array Value} {EL : List (String × Nat)} (hw : ∀ d ∈ tables_1, d.before a0 Z = true) (hEL : EW Z a0 EL) (cst : Cst Z) {h : Heap} (hO : Ext Z.heap h) {x t : Addr} {cap : Nat} {cs : List Int32} (B : Sbd Z h x t cap cs) :
    Met l Z EL [] (⟨"java/lang/AbstractStringBuilder", "length", "()I"⟩ : MethodName) jdk_68_method_6_code 1 (some .int) { frames := 0, cells := 0, slots := 0, locals := 0 } #[.ref x] h (RetF fun v h' _ => v = .int (Int32.ofNat cs.length) ∧ h = h') := by
  refine Met.intro pnAB hEL hO ?_
  intro p e s m below meth c T W hby hml hret hnm
  have D : ∀ {pc : Nat} {r}, decode jdk_68_method_6_code pc = r → decode c.code pc = r := fun q => hb hby q
  refine Go.cast (efLa m x) ?_
  refine g_aloadN W (pc' := 1) (D la_0) rfl rfl (by first | rfl | assumption) ?_
  refine g_getfield W (pc' := 4) (host := "") (Or.inl (hI hw 85 rfl)) Via.refl (B.2.2.2.2.2.1) (D la_1) rfl (fun T W => ?_)
  exact g_reti W (D la_4) hret (by decide) (by decide) ⟨_, rfl, rfl, rfl⟩
theorem lb_0 : decode jdk_67_method_93_code 0 = .ok (.aload_n 0, 1) := by decide +kernel
theorem lb_1 : decode jdk_67_method_93_code 1 = .ok (.invokespecial 343, 3) := by decide +kernel
theorem lb_4 : decode jdk_67_method_93_code 4 = .ok (.ireturn, 1) := by decide +kernel
theorem efLb (m : MethodId) (x0 : Addr) : entryFrame m #[.ref x0] 1 = mkF m 0 #[.val (.ref x0)] [] := by first | (simp [entryFrame, mkF, argsToLocals, Value.category, maxLocals]; done) | rfl
set_option maxRecDepth 65536 in
set_option maxHeartbeats 4000000 in
theorem t_lenB (l : Launch) {Z : State} {a0 : Array Value} {EL : List (String × Nat)} (hw : ∀ d ∈ tables_1, d.before a0 Z = true) (hEL : EW Z a0 EL) (cst : Cst Z) {h : Heap} (hO : Ext Z.heap h) {x t : Addr} {cap : Nat} {cs : List Int32} (B : Sbd Z h x t cap cs) :
    Met l Z EL [] (⟨"java/lang/StringBuilder", "length", "()I"⟩ : MethodName) jdk_67_method_93_code 1 (some .int) { frames := 1, cells := 0, slots := 0, locals := 12 } #[.ref x] h (Ret fun v h' => v = .int (Int32.ofNat cs.length) ∧ h = h') := by
  refine Met.intro pnSB hEL hO ?_
  intro p e s m below meth c T W hby hml hret hnm
  have D : ∀ {pc : Nat} {r}, decode jdk_67_method_93_code pc = r → decode c.code pc = r := fun q => hb hby q
  refine Go.cast (efLb m x) ?_
  refine g_aloadN W (pc' := 1) (D lb_0) rfl rfl (by first | rfl | assumption) ?_
  refine g_superF W (t_lenA l hw hEL cst W.old B) (fun x q => nomatch q) (hI hw 82 rfl) (hI hw 78 rfl) (hI hw 83 rfl) (hI hw 51 rfl) (hI hw 84 rfl) (by decide) (by decide) pd_4 (⟨"java/lang/StringBuilder", ⟨"java/lang/AbstractStringBuilder", "getValue", "()[B"⟩, rfl, (hI hw 74 rfl)⟩) (Ins.self B.2.2.1) (argsL := []) rfl rfl (pc' := 4) rfl (by rw [hml]; rfl) (D lb_1) rfl (Wn := 0) (Nat.le_refl _) (by decide) (by decide) (by decide) (by decide) (fun v T h1 FF W hg hQ => ?_)
  obtain ⟨rfl, rfl⟩ := hQ
  exact g_reti W (D lb_4) hret (by decide) (by decide) ⟨_, rfl, rfl, rfl⟩
theorem il_0 : decode jdk_68_method_68_code 0 = .ok (.getstatic 18, 3) := by decide +kernel
theorem il_3 : decode jdk_68_method_68_code 3 = .ok (.ifCond .eq 14, 3) := by decide +kernel
theorem il_6 : decode jdk_68_method_68_code 6 = .ok (.aload_n 0, 1) := by decide +kernel
theorem il_7 : decode jdk_68_method_68_code 7 = .ok (.getfield 22, 3) := by decide +kernel
theorem il_10 : decode jdk_68_method_68_code 10 = .ok (.ifCond .ne 7, 3) := by decide +kernel
theorem il_13 : decode jdk_68_method_68_code 13 = .ok (.iconst 1, 1) := by decide +kernel
theorem il_14 : decode jdk_68_method_68_code 14 = .ok (.goto 4, 3) := by decide +kernel
theorem il_17 : decode jdk_68_method_68_code 17 = .ok (.iconst 0, 1) := by decide +kernel
theorem il_18 : decode jdk_68_method_68_code 18 = .ok (.ireturn, 1) := by decide +kernel
theorem efIl (m : MethodId) (x0 : Addr) : entryFrame m #[.ref x0] 1 = mkF m 0 #[.val (.ref x0)] [] := by first | (simp [entryFrame, mkF, argsToLocals, Value.category, maxLocals]; done) | rfl
set_option maxRecDepth 65536 in
set_option maxHeartbeats 4000000 in
theorem t_isLatinA (l : Launch) {Z : State} {a0 : Array Value} {EL : List (String × Nat)} (hw : ∀ d ∈ tables_1, d.before a0 Z = true) (hEL : EW Z a0 EL) (cst : Cst Z) {h : Heap} (hO : Ext Z.heap h) {x t : Addr} {cap : Nat} {cs : List Int32} (B : Sbd Z h x t cap cs) :
    Met l Z EL [] (⟨"java/lang/AbstractStringBuilder", "isLatin1", "()Z"⟩ : MethodName) jdk_68_method_68_code 1 (some .boolean) { frames := 0, cells := 0, slots := 0, locals := 0 } #[.ref x] h (Ret fun v h' => v = .int 1 ∧ h = h') := by
  refine Met.intro pnAB hEL hO ?_
  intro p e s m below meth c T W hby hml hret hnm
  have D : ∀ {pc : Nat} {r}, decode jdk_68_method_68_code pc = r → decode c.code pc = r := fun q => hb hby q
  refine Go.cast (efIl m x) ?_
  obtain ⟨zc, Sc, hzc⟩ := cst
  refine g_getstatic W (pc' := 3) (host := "") (Or.inl (hI hw 54 rfl)) Via.refl (Sc.ext W.old) (D il_0) rfl (fun T W => ?_)
  refine g_ifeqN W (pc1 := 17) (pc2 := 6) (D il_3) (by decide) (by decide) rfl (hzc) ?_
  refine g_aloadN W (pc' := 7) (D il_6) rfl rfl (by first | rfl | assumption) ?_
  refine g_getfield W (pc' := 10) (host := "") (Or.inl (hI hw 57 rfl)) Via.refl (B.2.2.2.2.1) (D il_7) rfl (fun T W => ?_)
  refine g_ifneN W (pc1 := 17) (pc2 := 13) (D il_10) (by decide) (by decide) rfl (rfl) ?_
  refine g_iconst W (pc' := 14) (D il_13) rfl (v := (1 : Int32)) (by decide) ?_
  refine g_goto W (pc' := 18) (D il_14) (by decide) (by decide) ?_
  exact g_retz W (D il_18) hret (Or.inr rfl) (by decide) (by decide) ⟨_, rfl, rfl, rfl⟩
theorem mn_0 : decode jdk_29_method_69_code 0 = .ok (.iload_n 0, 1) := by decide +kernel
theorem mn_1 : decode jdk_29_method_69_code 1 = .ok (.iload_n 1, 1) := by decide +kernel
theorem mn_2 : decode jdk_29_method_69_code 2 = .ok (.if_icmp .gt 7, 3) := by decide +kernel
theorem mn_5 : decode jdk_29_method_69_code 5 = .ok (.iload_n 0, 1) := by decide +kernel
theorem mn_6 : decode jdk_29_method_69_code 6 = .ok (.goto 4, 3) := by decide +kernel
theorem mn_9 : decode jdk_29_method_69_code 9 = .ok (.iload_n 1, 1) := by decide +kernel
theorem mn_10 : decode jdk_29_method_69_code 10 = .ok (.ireturn, 1) := by decide +kernel
theorem ef_mn (m : MethodId) (x0 : Int32) (x1 : Int32) : entryFrame m #[.int x0, .int x1] 2 = mkF m 0 #[.val (.int x0), .val (.int x1)] [] := by first | (simp [entryFrame, mkF, argsToLocals, Value.category, maxLocals]; done) | rfl
set_option maxRecDepth 65536 in
set_option maxHeartbeats 4000000 in
theorem t_min (l : Launch) {Z : State} {a0 : Array Value} {EL : List (String × Nat)} (hw : ∀ d ∈ tables_1, d.before a0 Z = true) (hEL : EW Z a0 EL) (cst : Cst Z) {h : Heap} (hO : Ext Z.heap h) {n k : Nat} (hk : k < 2 ^ 31) (hn : n < 2 ^ 31) :
    Met l Z EL [] (⟨"java/lang/Math", "min", "(II)I"⟩ : MethodName) jdk_29_method_69_code 2 (some .int) { frames := 0, cells := 0, slots := 0, locals := 0 } #[.int (Int32.ofNat n), .int (Int32.ofNat k)] h (Ret fun v h' => v = .int (Int32.ofNat (min n k)) ∧ h = h') := by
  refine Met.introP pnMa hEL hO ?_
  intro p e s m below meth c T W hby hml hret hnm
  have D : ∀ {pc : Nat} {r}, decode jdk_29_method_69_code pc = r → decode c.code pc = r := fun q => hb hby q
  refine Go.cast (ef_mn m (Int32.ofNat n) (Int32.ofNat k)) ?_
  refine g_iloadN W (pc' := 1) (D mn_0) rfl rfl ?_
  refine g_iloadN W (pc' := 2) (D mn_1) rfl rfl ?_
  refine g_icmpgt W (pc1 := 9) (pc2 := 5) (D mn_2) (by decide) (by decide) rfl (fun q => ?_) (fun q => ?_)
  · refine g_iloadN W (pc' := 10) (D mn_9) rfl rfl ?_
    refine g_reti W (D mn_10) hret (by decide) (by decide) ⟨_, rfl, ?_, rfl⟩
    rw [Int32.lt_iff_toInt_lt, Int32.toInt_ofNat_small hn, Int32.toInt_ofNat_small hk] at q
    rw [show min n k = k by omega]
  · refine g_iloadN W (pc' := 6) (D mn_5) rfl rfl ?_
    refine g_goto W (pc' := 10) (D mn_6) (by decide) (by decide) ?_
    refine g_reti W (D mn_10) hret (by decide) (by decide) ⟨_, rfl, ?_, rfl⟩
    rw [Int32.lt_iff_toInt_lt, Int32.toInt_ofNat_small hn, Int32.toInt_ofNat_small hk] at q
    rw [show min n k = n by omega]
theorem mx_0 : decode jdk_29_method_65_code 0 = .ok (.iload_n 0, 1) := by decide +kernel
theorem mx_1 : decode jdk_29_method_65_code 1 = .ok (.iload_n 1, 1) := by decide +kernel
theorem mx_2 : decode jdk_29_method_65_code 2 = .ok (.if_icmp .lt 7, 3) := by decide +kernel
theorem mx_5 : decode jdk_29_method_65_code 5 = .ok (.iload_n 0, 1) := by decide +kernel
theorem mx_6 : decode jdk_29_method_65_code 6 = .ok (.goto 4, 3) := by decide +kernel
theorem mx_9 : decode jdk_29_method_65_code 9 = .ok (.iload_n 1, 1) := by decide +kernel
theorem mx_10 : decode jdk_29_method_65_code 10 = .ok (.ireturn, 1) := by decide +kernel
theorem ef_mx (m : MethodId) (x0 : Int32) (x1 : Int32) : entryFrame m #[.int x0, .int x1] 2 = mkF m 0 #[.val (.int x0), .val (.int x1)] [] := by first | (simp [entryFrame, mkF, argsToLocals, Value.category, maxLocals]; done) | rfl
set_option maxRecDepth 65536 in
set_option maxHeartbeats 4000000 in
theorem t_max (l : Launch) {Z : State} {a0 : Array Value} {EL : List (String × Nat)} (hw : ∀ d ∈ tables_1, d.before a0 Z = true) (hEL : EW Z a0 EL) (cst : Cst Z) {h : Heap} (hO : Ext Z.heap h) {n k : Nat} (hk : k < 2 ^ 31) (hn : n < 2 ^ 31) :
    Met l Z EL [] (⟨"java/lang/Math", "max", "(II)I"⟩ : MethodName) jdk_29_method_65_code 2 (some .int) { frames := 0, cells := 0, slots := 0, locals := 0 } #[.int (Int32.ofNat n), .int (Int32.ofNat k)] h (Ret fun v h' => v = .int (Int32.ofNat (max n k)) ∧ h = h') := by
  refine Met.introP pnMx hEL hO ?_
  intro p e s m below meth c T W hby hml hret hnm
  have D : ∀ {pc : Nat} {r}, decode jdk_29_method_65_code pc = r → decode c.code pc = r := fun q => hb hby q
  refine Go.cast (ef_mx m (Int32.ofNat n) (Int32.ofNat k)) ?_
  refine g_iloadN W (pc' := 1) (D mx_0) rfl rfl ?_
  refine g_iloadN W (pc' := 2) (D mx_1) rfl rfl ?_
  refine g_icmplt W (pc1 := 9) (pc2 := 5) (D mx_2) (by decide) (by decide) rfl (fun q => ?_) (fun q => ?_)
  · refine g_iloadN W (pc' := 10) (D mx_9) rfl rfl ?_
    refine g_reti W (D mx_10) hret (by decide) (by decide) ⟨_, rfl, ?_, rfl⟩
    rw [Int32.lt_iff_toInt_lt, Int32.toInt_ofNat_small hn, Int32.toInt_ofNat_small hk] at q
    rw [show max n k = k by omega]
  · refine g_iloadN W (pc' := 6) (D mx_5) rfl rfl ?_
    refine g_goto W (pc' := 10) (D mx_6) (by decide) (by decide) ?_
    refine g_reti W (D mx_10) hret (by decide) (by decide) ⟨_, rfl, ?_, rfl⟩
    rw [Int32.lt_iff_toInt_lt, Int32.toInt_ofNat_small hn, Int32.toInt_ofNat_small hk] at q
    rw [show max n k = n by omega]
theorem nl_0 : decode jdk_48_method_27_code 0 = .ok (.iload_n 0, 1) := by decide +kernel
theorem nl_1 : decode jdk_48_method_27_code 1 = .ok (.iload_n 1, 1) := by decide +kernel
theorem nl_2 : decode jdk_48_method_27_code 2 = .ok (.iload_n 2, 1) := by decide +kernel
theorem nl_3 : decode jdk_48_method_27_code 3 = .ok (.invokestatic 194, 3) := by decide +kernel
theorem nl_6 : decode jdk_48_method_27_code 6 = .ok (.iadd, 1) := by decide +kernel
theorem nl_7 : decode jdk_48_method_27_code 7 = .ok (.istore_n 3, 1) := by decide +kernel
theorem nl_8 : decode jdk_48_method_27_code 8 = .ok (.iconst 0, 1) := by decide +kernel
theorem nl_9 : decode jdk_48_method_27_code 9 = .ok (.iload_n 3, 1) := by decide +kernel
theorem nl_10 : decode jdk_48_method_27_code 10 = .ok (.if_icmp .ge 11, 3) := by decide +kernel
theorem nl_13 : decode jdk_48_method_27_code 13 = .ok (.iload_n 3, 1) := by decide +kernel
theorem nl_14 : decode jdk_48_method_27_code 14 = .ok (.ldc 200, 2) := by decide +kernel
theorem nl_16 : decode jdk_48_method_27_code 16 = .ok (.if_icmp .gt 5, 3) := by decide +kernel
theorem nl_19 : decode jdk_48_method_27_code 19 = .ok (.iload_n 3, 1) := by decide +kernel
theorem nl_20 : decode jdk_48_method_27_code 20 = .ok (.ireturn, 1) := by decide +kernel
theorem efNl (m : MethodId) (x0 : Int32) (x1 : Int32) (x2 : Int32) : entryFrame m #[.int x0, .int x1, .int x2] 4 = mkF m 0 #[.val (.int x0), .val (.int x1), .val (.int x2), .unset] [] := by first | (simp [entryFrame, mkF, argsToLocals, Value.category, maxLocals]; done) | rfl
set_option maxRecDepth 65536 in
set_option maxHeartbeats 4000000 in
theorem t_newLen (l : Launch) {Z : State} {a0 : Array Value} {EL : List (String × Nat)} (hw : ∀ d ∈ tables_1, d.before a0 Z = true) (hEL : EW Z a0 EL) (cst : Cst Z) {h : Heap} (hO : Ext Z.heap h) {o g q : Nat} (h0 : 0 < o + max g q) (h1 : o + max g q < 1000) :
    Met l Z EL [] (⟨"jdk/internal/util/ArraysSupport", "newLength", "(III)I"⟩ : MethodName) jdk_48_method_27_code 4 (some .int) { frames := 1, cells := 0, slots := 0, locals := 14 } #[.int (Int32.ofNat o), .int (Int32.ofNat g), .int (Int32.ofNat q)] h (Ret fun v h' => v = .int (Int32.ofNat (o + max g q)) ∧ h = h') := by
  refine Met.intro pnAS hEL hO ?_
  intro p e s m below meth c T W hby hml hret hnm
  have D : ∀ {pc : Nat} {r}, decode jdk_48_method_27_code pc = r → decode c.code pc = r := fun q => hb hby q
  refine Go.cast (efNl m (Int32.ofNat o) (Int32.ofNat g) (Int32.ofNat q)) ?_
  refine g_iloadN W (pc' := 1) (D nl_0) rfl rfl ?_
  refine g_iloadN W (pc' := 2) (D nl_1) rfl rfl ?_
  refine g_iloadN W (pc' := 3) (D nl_2) rfl rfl ?_
  refine g_callS W (t_max l hw hEL cst W.old (n := g) (k := q) (by omega) (by omega)) (fun x q => nomatch q) (hI hw 182 rfl) (hI hw 183 rfl) (hI hw 184 rfl) (hI hw 185 rfl) (by decide) pd_5 (argsL := [_, _]) rfl rfl (pc' := 6) rfl (by rw [hml]; rfl) (D nl_3) rfl (Wn := 1) (Nat.le_refl _) (by decide) (by decide) (by decide) (by decide) (fun v T h1 W hg hQ => ?_)
  obtain ⟨rfl, rfl⟩ := hQ
  refine g_iadd W (pc' := 7) (D nl_6) rfl ?_
  rw [← Int32.ofNat_add]
  refine g_istoreN W (pc' := 8) (D nl_7) rfl (ls' := #[_, _, _, _]) rfl ?_
  refine g_iconst W (pc' := 9) (D nl_8) rfl (v := (0 : Int32)) (by decide) ?_
  refine g_iloadN W (pc' := 10) (D nl_9) rfl rfl ?_
  refine g_icmpgeN W (pc1 := 21) (pc2 := 13) (D nl_10) (by decide) (by decide) rfl (by rw [Int32.lt_iff_toInt_lt, Int32.toInt_ofNat_small (by omega)]; have e0 : (0 : Int32).toInt = 0 := rfl; omega) ?_
  refine g_iloadN W (pc' := 14) (D nl_13) rfl rfl ?_
  refine g_ldcI W (pc' := 16) (hI hw 186 rfl) (D nl_14) rfl ?_
  refine g_icmpgtN W (pc1 := 21) (pc2 := 19) (D nl_16) (by decide) (by decide) rfl (by rw [Int32.lt_iff_toInt_lt, Int32.toInt_ofNat_small (by omega)]; have e0 : (2147483639 : Int32).toInt = 2147483639 := rfl; omega) ?_
  refine g_iloadN W (pc' := 20) (D nl_19) rfl rfl ?_
  exact g_reti W (D nl_20) hret (by decide) (by decide) ⟨_, rfl, rfl, rfl⟩
theorem nc_0 : decode jdk_68_method_10_code 0 = .ok (.aload_n 0, 1) := by decide +kernel
theorem nc_1 : decode jdk_68_method_10_code 1 = .ok (.getfield 15, 3) := by decide +kernel
theorem nc_4 : decode jdk_68_method_10_code 4 = .ok (.arraylength, 1) := by decide +kernel
theorem nc_5 : decode jdk_68_method_10_code 5 = .ok (.istore_n 2, 1) := by decide +kernel
theorem nc_6 : decode jdk_68_method_10_code 6 = .ok (.iload_n 1, 1) := by decide +kernel
theorem nc_7 : decode jdk_68_method_10_code 7 = .ok (.aload_n 0, 1) := by decide +kernel
theorem nc_8 : decode jdk_68_method_10_code 8 = .ok (.getfield 22, 3) := by decide +kernel
theorem nc_11 : decode jdk_68_method_10_code 11 = .ok (.ishl, 1) := by decide +kernel
theorem nc_12 : decode jdk_68_method_10_code 12 = .ok (.istore_n 3, 1) := by decide +kernel
theorem nc_13 : decode jdk_68_method_10_code 13 = .ok (.iload_n 3, 1) := by decide +kernel
theorem nc_14 : decode jdk_68_method_10_code 14 = .ok (.iload_n 2, 1) := by decide +kernel
theorem nc_15 : decode jdk_68_method_10_code 15 = .ok (.isub, 1) := by decide +kernel
theorem nc_16 : decode jdk_68_method_10_code 16 = .ok (.istore 4, 2) := by decide +kernel
theorem nc_18 : decode jdk_68_method_10_code 18 = .ok (.iload_n 2, 1) := by decide +kernel
theorem nc_19 : decode jdk_68_method_10_code 19 = .ok (.iload 4, 2) := by decide +kernel
theorem nc_21 : decode jdk_68_method_10_code 21 = .ok (.iload_n 2, 1) := by decide +kernel
theorem nc_22 : decode jdk_68_method_10_code 22 = .ok (.iconst 2, 1) := by decide +kernel
theorem nc_23 : decode jdk_68_method_10_code 23 = .ok (.aload_n 0, 1) := by decide +kernel
theorem nc_24 : decode jdk_68_method_10_code 24 = .ok (.getfield 22, 3) := by decide +kernel
theorem nc_27 : decode jdk_68_method_10_code 27 = .ok (.ishl, 1) := by decide +kernel
theorem nc_28 : decode jdk_68_method_10_code 28 = .ok (.iadd, 1) := by decide +kernel
theorem nc_29 : decode jdk_68_method_10_code 29 = .ok (.invokestatic 114, 3) := by decide +kernel
theorem nc_32 : decode jdk_68_method_10_code 32 = .ok (.istore 5, 2) := by decide +kernel
theorem nc_34 : decode jdk_68_method_10_code 34 = .ok (.iload 5, 2) := by decide +kernel
theorem nc_36 : decode jdk_68_method_10_code 36 = .ok (.ldc 39, 2) := by decide +kernel
theorem nc_38 : decode jdk_68_method_10_code 38 = .ok (.if_icmp .ne 13, 3) := by decide +kernel
theorem nc_51 : decode jdk_68_method_10_code 51 = .ok (.iload 5, 2) := by decide +kernel
theorem nc_53 : decode jdk_68_method_10_code 53 = .ok (.aload_n 0, 1) := by decide +kernel
theorem nc_54 : decode jdk_68_method_10_code 54 = .ok (.getfield 22, 3) := by decide +kernel
theorem nc_57 : decode jdk_68_method_10_code 57 = .ok (.ishr, 1) := by decide +kernel
theorem nc_58 : decode jdk_68_method_10_code 58 = .ok (.ireturn, 1) := by decide +kernel
theorem efNc (m : MethodId) (x0 : Addr) (x1 : Int32) : entryFrame m #[.ref x0, .int x1] 6 = mkF m 0 #[.val (.ref x0), .val (.int x1), .unset, .unset, .unset, .unset] [] := by first | (simp [entryFrame, mkF, argsToLocals, Value.category, maxLocals]; done) | rfl
set_option maxRecDepth 65536 in
set_option maxHeartbeats 4000000 in
theorem t_newCap (l : Launch) {Z : State} {a0 : Array Value} {EL : List (String × Nat)} (hw : ∀ d ∈ tables_1, d.before a0 Z = true) (hEL : EW Z a0 EL) (cst : Cst Z) {h : Heap} (hO : Ext Z.heap h) {x t : Addr} {cap : Nat} {cs : List Int32} (B : Sbd Z h x t cap cs) (hc : cap ≤ 64) {n : Nat} (hn : cap < n) (hn2 : n ≤ 32) :
    Met l Z EL [] (⟨"java/lang/AbstractStringBuilder", "newCapacity", "(I)I"⟩ : MethodName) jdk_68_method_10_code 6 (some .int) { frames := 2, cells := 0, slots := 0, locals := 29 } #[.ref x, .int (Int32.ofNat n)] h (Ret fun v h' => v = .int (Int32.ofNat (cap + max (n - cap) (cap + 2))) ∧ h = h') := by
  refine Met.intro pnAB hEL hO ?_
  intro p e s m below meth c T W hby hml hret hnm
  have D : ∀ {pc : Nat} {r}, decode jdk_68_method_10_code pc = r → decode c.code pc = r := fun q => hb hby q
  refine Go.cast (efNc m x (Int32.ofNat n)) ?_
  obtain ⟨b1, b2, b3, b4, b5, b6, bx, bs, b7, b8, b9, b10, b11⟩ := B
  refine g_aloadN W (pc' := 1) (D nc_0) rfl rfl (by first | rfl | assumption) ?_
  refine g_getfield W (pc' := 4) (host := "") (Or.inl (hI hw 55 rfl)) Via.refl (b4) (D nc_1) rfl (fun T W => ?_)
  refine g_arraylength W (pc' := 5) (b7) (z := Int32.ofNat cap) (by rw [List.length_map, b9]) (D nc_4) rfl ?_
  refine g_istoreN W (pc' := 6) (D nc_5) rfl (ls' := #[_, _, _, _, _, _]) rfl ?_
  refine g_iloadN W (pc' := 7) (D nc_6) rfl rfl ?_
  refine g_aloadN W (pc' := 8) (D nc_7) rfl rfl (by first | rfl | assumption) ?_
  refine g_getfield W (pc' := 11) (host := "") (Or.inl (hI hw 57 rfl)) Via.refl (b5) (D nc_8) rfl (fun T W => ?_)
  refine g_ishl W (pc' := 12) (D nc_11) rfl ?_
  rw [shl0]
  refine g_istoreN W (pc' := 13) (D nc_12) rfl (ls' := #[_, _, _, _, _, _]) rfl ?_
  refine g_iloadN W (pc' := 14) (D nc_13) rfl rfl ?_
  refine g_iloadN W (pc' := 15) (D nc_14) rfl rfl ?_
  refine g_isub W (pc' := 16) (D nc_15) rfl ?_
  rw [ofNat_sub' (Nat.le_of_lt hn)]
  refine g_istore W (pc' := 18) (D nc_16) rfl (ls' := #[_, _, _, _, _, _]) rfl ?_
  refine g_iloadN W (pc' := 19) (D nc_18) rfl rfl ?_
  refine g_iload W (pc' := 21) (D nc_19) rfl rfl ?_
  refine g_iloadN W (pc' := 22) (D nc_21) rfl rfl ?_
  refine g_iconst W (pc' := 23) (D nc_22) rfl (v := (2 : Int32)) (by decide) ?_
  refine g_aloadN W (pc' := 24) (D nc_23) rfl rfl (by first | rfl | assumption) ?_
  refine g_getfield W (pc' := 27) (host := "") (Or.inl (hI hw 57 rfl)) Via.refl (b5) (D nc_24) rfl (fun T W => ?_)
  refine g_ishl W (pc' := 28) (D nc_27) rfl ?_
  rw [shl0]
  refine g_iadd W (pc' := 29) (D nc_28) rfl ?_
  have e2 : Int32.ofNat cap + 2 = Int32.ofNat (cap + 2) := by rw [Int32.ofNat_add]; rfl
  rw [e2]
  refine g_callS W (t_newLen l hw hEL cst W.old (o := cap) (g := n - cap) (q := cap + 2) (by omega) (by omega)) (fun x q => nomatch q) (hI hw 178 rfl) (hI hw 179 rfl) (hI hw 180 rfl) (hI hw 181 rfl) (by decide) pd_6 (argsL := [_, _, _]) rfl rfl (pc' := 32) rfl (by rw [hml]; rfl) (D nc_29) rfl (Wn := 0) (Nat.le_refl _) (by decide) (by decide) (by decide) (by decide) (fun v T h1 W hg hQ => ?_)
  obtain ⟨rfl, rfl⟩ := hQ
  refine g_istore W (pc' := 34) (D nc_32) rfl (ls' := #[_, _, _, _, _, _]) rfl ?_
  refine g_iload W (pc' := 36) (D nc_34) rfl rfl ?_
  refine g_ldcI W (pc' := 38) (hI hw 187 rfl) (D nc_36) rfl ?_
  refine g_icmpneY W (pc1 := 51) (pc2 := 41) (D nc_38) (by decide) (by decide) rfl (fun r => by have := congrArg Int32.toInt r; rw [Int32.toInt_ofNat_small (by omega)] at this; have e0 : (2147483647 : Int32).toInt = 2147483647 := rfl; omega) ?_
  refine g_iload W (pc' := 53) (D nc_51) rfl rfl ?_
  refine g_aloadN W (pc' := 54) (D nc_53) rfl rfl (by first | rfl | assumption) ?_
  refine g_getfield W (pc' := 57) (host := "") (Or.inl (hI hw 57 rfl)) Via.refl (b5) (D nc_54) rfl (fun T W => ?_)
  refine g_ishr W (pc' := 58) (D nc_57) rfl ?_
  rw [shr0]
  exact g_reti W (D nc_58) hret (by decide) (by decide) ⟨_, rfl, rfl, rfl⟩
theorem co_0 : decode jdk_65_method_121_code 0 = .ok (.iload_n 1, 1) := by decide +kernel
theorem co_1 : decode jdk_65_method_121_code 1 = .ok (.aload_n 0, 1) := by decide +kernel
theorem co_2 : decode jdk_65_method_121_code 2 = .ok (.arraylength, 1) := by decide +kernel
theorem co_3 : decode jdk_65_method_121_code 3 = .ok (.if_icmp .ne 11, 3) := by decide +kernel
theorem co_14 : decode jdk_65_method_121_code 14 = .ok (.iload_n 1, 1) := by decide +kernel
theorem co_15 : decode jdk_65_method_121_code 15 = .ok (.newarray .byte, 2) := by decide +kernel
theorem co_17 : decode jdk_65_method_121_code 17 = .ok (.astore_n 2, 1) := by decide +kernel
theorem co_18 : decode jdk_65_method_121_code 18 = .ok (.aload_n 0, 1) := by decide +kernel
theorem co_19 : decode jdk_65_method_121_code 19 = .ok (.iconst 0, 1) := by decide +kernel
theorem co_20 : decode jdk_65_method_121_code 20 = .ok (.aload_n 2, 1) := by decide +kernel
theorem co_21 : decode jdk_65_method_121_code 21 = .ok (.iconst 0, 1) := by decide +kernel
theorem co_22 : decode jdk_65_method_121_code 22 = .ok (.aload_n 0, 1) := by decide +kernel
theorem co_23 : decode jdk_65_method_121_code 23 = .ok (.arraylength, 1) := by decide +kernel
theorem co_24 : decode jdk_65_method_121_code 24 = .ok (.iload_n 1, 1) := by decide +kernel
theorem co_25 : decode jdk_65_method_121_code 25 = .ok (.invokestatic 304, 3) := by decide +kernel
theorem co_28 : decode jdk_65_method_121_code 28 = .ok (.invokestatic 150, 3) := by decide +kernel
theorem co_31 : decode jdk_65_method_121_code 31 = .ok (.aload_n 2, 1) := by decide +kernel
theorem co_32 : decode jdk_65_method_121_code 32 = .ok (.areturn, 1) := by decide +kernel
theorem efCo (m : MethodId) (x0 : Addr) (x1 : Int32) : entryFrame m #[.ref x0, .int x1] 3 = mkF m 0 #[.val (.ref x0), .val (.int x1), .unset] [] := by first | (simp [entryFrame, mkF, argsToLocals, Value.category, maxLocals]; done) | rfl
set_option maxRecDepth 65536 in
set_option maxHeartbeats 4000000 in
theorem t_copyOf (l : Launch) {Z : State} {a0 : Array Value} {EL : List (String × Nat)} (hw : ∀ d ∈ tables_1, d.before a0 Z = true) (hEL : EW Z a0 EL) (cst : Cst Z) {h : Heap} (hO : Ext Z.heap h) {a : Addr} {bs : List Int32} (A : Ali Z h a .byte (bs.map Value.int)) (hB : Bys bs) {n : Nat} (hn : bs.length < n) (hn2 : n ≤ 128) :
    Met l Z EL [] (⟨"java/util/Arrays", "copyOf", "([BI)[B"⟩ : MethodName) jdk_65_method_121_code 3 (some (.array .byte)) { frames := 1, cells := 1, slots := 128, locals := 18 } #[.ref a, .int (Int32.ofNat n)] h (RetF fun v h' FF => ∃ b, FF = [b] ∧ v = .ref b ∧ h.size ≤ b ∧ Ext h h' ∧ Exa Z h' b "[B" ∧ Ali Z h' b .byte ((bs ++ List.replicate (n - bs.length) 0).map Value.int)) := by
  refine Met.intro pnAr hEL hO ?_
  intro p e s m below meth c T W hby hml hret hnm
  have D : ∀ {pc : Nat} {r}, decode jdk_65_method_121_code pc = r → decode c.code pc = r := fun q => hb hby q
  refine Go.cast (efCo m a (Int32.ofNat n)) ?_
  refine g_iloadN W (pc' := 1) (D co_0) rfl rfl ?_
  refine g_aloadN W (pc' := 2) (D co_1) rfl rfl (by first | rfl | assumption) ?_
  refine g_arraylength W (pc' := 3) (A) (z := Int32.ofNat bs.length) (by simp) (D co_2) rfl ?_
  refine g_icmpneY W (pc1 := 14) (pc2 := 6) (D co_3) (by decide) (by decide) rfl (fun r => by have := congrArg Int32.toInt r; rw [Int32.toInt_ofNat_small (by omega), Int32.toInt_ofNat_small (by omega)] at this; omega) ?_
  refine g_iloadN W (pc' := 15) (D co_14) rfl rfl ?_
  refine g_newarrayB W (pc' := 17) (i := n) (own_n0 (by omega)) (own_n32 (by omega)) (hI hw 19 rfl) (D co_15) rfl (cap := 128) hn2 (by decide) (by decide) (by decide) (fun b T h1 hb W E1 Ab => ?_)
  obtain ⟨Ab, Eb⟩ := Ab
  refine g_astoreN W (pc' := 18) (D co_17) rfl (by first | rfl | assumption) (ls' := #[_, _, _]) rfl ?_
  refine g_aloadN W (pc' := 19) (D co_18) rfl rfl (by first | rfl | assumption) ?_
  refine g_iconst W (pc' := 20) (D co_19) rfl (v := (0 : Int32)) (by decide) ?_
  refine g_aloadN W (pc' := 21) (D co_20) rfl rfl (by first | rfl | assumption) ?_
  refine g_iconst W (pc' := 22) (D co_21) rfl (v := (0 : Int32)) (by decide) ?_
  refine g_aloadN W (pc' := 23) (D co_22) rfl rfl (by first | rfl | assumption) ?_
  refine g_arraylength W (pc' := 24) (A.ext E1) (z := Int32.ofNat bs.length) (by simp) (D co_23) rfl ?_
  refine g_iloadN W (pc' := 25) (D co_24) rfl rfl ?_
  refine g_callS W (t_min l hw hEL cst W.old (n := bs.length) (k := n) (by omega) (by omega)) (fun x q => nomatch q) (hI hw 191 rfl) (hI hw 192 rfl) (hI hw 184 rfl) (hI hw 193 rfl) (by decide) pd_5 (argsL := [_, _]) rfl rfl (pc' := 28) rfl (by rw [hml]; rfl) (D co_25) rfl (Wn := 4) (Nat.le_refl _) (by decide) (by decide) (by decide) (by decide) (fun v T h2 W hg hQ => ?_)
  obtain ⟨rfl, rfl⟩ := hQ
  rw [Nat.min_eq_left (Nat.le_of_lt hn)]
  refine g_arraycopy W (pc' := 31) (A.ext E1) Ab hB (Bys.rep n) (Nat.le_trans hO.1 hb) (List.mem_cons_self ..) (hI hw 194 rfl) (hI hw 197 rfl) (hI hw 195 rfl) (hI hw 196 rfl) (i := 0) (j := 0) (t := bs.length) (by decide) (by decide) (own_n0 (by omega)) (by decide) (by decide) (own_n32 (by omega)) (by omega) (by rw [List.length_replicate]; omega) (by rw [hml]; rfl) (D co_28) rfl (by decide) (Wn := 0) (Nat.le_refl _) (by decide) (fun T h2 W Kp A2 => ?_)
  have e : (List.replicate n (0 : Int32)).take 0 ++ (bs.drop 0).take bs.length ++ (List.replicate n (0 : Int32)).drop (0 + bs.length) = bs ++ List.replicate (n - bs.length) 0 := by simp
  rw [e] at A2
  refine g_aloadN W (pc' := 32) (D co_31) rfl rfl (by first | rfl | assumption) ?_
  exact g_areturnF W (D co_32) hret rfl rfl (by decide) (by decide) (FF := [b]) (fun z hz => by cases List.mem_singleton.mp hz; exact List.mem_cons_self ..) ⟨_, rfl, b, rfl, rfl, hb, keep_ext ((ext_keep E1 []).trans Kp (own_new hb)), Eb.keep Kp, A2⟩
theorem en_0 : decode jdk_68_method_9_code 0 = .ok (.aload_n 0, 1) := by decide +kernel
theorem en_1 : decode jdk_68_method_9_code 1 = .ok (.getfield 15, 3) := by decide +kernel
theorem en_4 : decode jdk_68_method_9_code 4 = .ok (.arraylength, 1) := by decide +kernel
theorem en_5 : decode jdk_68_method_9_code 5 = .ok (.aload_n 0, 1) := by decide +kernel
theorem en_6 : decode jdk_68_method_9_code 6 = .ok (.getfield 22, 3) := by decide +kernel
theorem en_9 : decode jdk_68_method_9_code 9 = .ok (.ishr, 1) := by decide +kernel
theorem en_10 : decode jdk_68_method_9_code 10 = .ok (.istore_n 2, 1) := by decide +kernel
theorem en_11 : decode jdk_68_method_9_code 11 = .ok (.iload_n 1, 1) := by decide +kernel
theorem en_12 : decode jdk_68_method_9_code 12 = .ok (.iload_n 2, 1) := by decide +kernel
theorem en_13 : decode jdk_68_method_9_code 13 = .ok (.isub, 1) := by decide +kernel
theorem en_14 : decode jdk_68_method_9_code 14 = .ok (.ifCond .le 24, 3) := by decide +kernel
theorem en_17 : decode jdk_68_method_9_code 17 = .ok (.aload_n 0, 1) := by decide +kernel
theorem en_18 : decode jdk_68_method_9_code 18 = .ok (.aload_n 0, 1) := by decide +kernel
theorem en_19 : decode jdk_68_method_9_code 19 = .ok (.getfield 15, 3) := by decide +kernel
theorem en_22 : decode jdk_68_method_9_code 22 = .ok (.aload_n 0, 1) := by decide +kernel
theorem en_23 : decode jdk_68_method_9_code 23 = .ok (.iload_n 1, 1) := by decide +kernel
theorem en_24 : decode jdk_68_method_9_code 24 = .ok (.invokevirtual 104, 3) := by decide +kernel
theorem en_27 : decode jdk_68_method_9_code 27 = .ok (.aload_n 0, 1) := by decide +kernel
theorem en_28 : decode jdk_68_method_9_code 28 = .ok (.getfield 22, 3) := by decide +kernel
theorem en_31 : decode jdk_68_method_9_code 31 = .ok (.ishl, 1) := by decide +kernel
theorem en_32 : decode jdk_68_method_9_code 32 = .ok (.invokestatic 108, 3) := by decide +kernel
theorem en_35 : decode jdk_68_method_9_code 35 = .ok (.putfield 15, 3) := by decide +kernel
theorem en_38 : decode jdk_68_method_9_code 38 = .ok (.return_, 1) := by decide +kernel
theorem efEn (m : MethodId) (x0 : Addr) (x1 : Int32) : entryFrame m #[.ref x0, .int x1] 3 = mkF m 0 #[.val (.ref x0), .val (.int x1), .unset] [] := by first | (simp [entryFrame, mkF, argsToLocals, Value.category, maxLocals]; done) | rfl
set_option maxRecDepth 65536 in
set_option maxHeartbeats 4000000 in
theorem t_ensure (l : Launch) {Z : State} {a0 : Array Value} {EL : List (String × Nat)} (hw : ∀ d ∈ tables_1, d.before a0 Z = true) (hEL : EW Z a0 EL) (cst : Cst Z) {h : Heap} (hO : Ext Z.heap h) {x t : Addr} {cap : Nat} {cs : List Int32} (B : Sbd Z h x t cap cs) (hc : cap ≤ 64) {n : Nat} (hn : n ≤ 32) :
    Met l Z EL [t] (⟨"java/lang/AbstractStringBuilder", "ensureCapacityInternal", "(I)V"⟩ : MethodName) jdk_68_method_9_code 3 none { frames := 3, cells := 1, slots := 128, locals := 48 } #[.ref x, .int (Int32.ofNat n)] h (VoidF fun h' FF => ∃ t' cap', FF = [t'] ∧ (t' = t ∨ h.size ≤ t') ∧ cap' ≤ 64 ∧ n ≤ cap' ∧ Keep h h' [x] ∧ Sbd Z h' x t' cap' cs) := by
  have n_value_coder : Jvm.RoadKit.slotOf Z AB "value" "[B" ≠ Jvm.RoadKit.slotOf Z AB "coder" "B" := slot_ne (C := SB) (Or.inl (hI hw 56 rfl)) (Or.inl (hI hw 58 rfl)) (by decide) (t := .array .byte) (t' := .byte) (by decide) (by decide)
  have n_value_count : Jvm.RoadKit.slotOf Z AB "value" "[B" ≠ Jvm.RoadKit.slotOf Z AB "count" "I" := slot_ne (C := SB) (Or.inl (hI hw 56 rfl)) (Or.inl (hI hw 86 rfl)) (by decide) (t := .array .byte) (t' := .int) (by decide) (by decide)
  have n_coder_count : Jvm.RoadKit.slotOf Z AB "coder" "B" ≠ Jvm.RoadKit.slotOf Z AB "count" "I" := slot_ne (C := SB) (Or.inl (hI hw 58 rfl)) (Or.inl (hI hw 86 rfl)) (by decide) (t := .byte) (t' := .int) (by decide) (by decide)
  have n_value_maybeLatin1 : Jvm.RoadKit.slotOf Z AB "value" "[B" ≠ Jvm.RoadKit.slotOf Z AB "maybeLatin1" "Z" := slot_ne (C := SB) (Or.inl (hI hw 56 rfl)) (Or.inl (hI hw 278 rfl)) (by decide) (t := .array .byte) (t' := .boolean) (by decide) (by decide)
  have n_coder_maybeLatin1 : Jvm.RoadKit.slotOf Z AB "coder" "B" ≠ Jvm.RoadKit.slotOf Z AB "maybeLatin1" "Z" := slot_ne (C := SB) (Or.inl (hI hw 58 rfl)) (Or.inl (hI hw 278 rfl)) (by decide) (t := .byte) (t' := .boolean) (by decide) (by decide)
  have n_count_maybeLatin1 : Jvm.RoadKit.slotOf Z AB "count" "I" ≠ Jvm.RoadKit.slotOf Z AB "maybeLatin1" "Z" := slot_ne (C := SB) (Or.inl (hI hw 86 rfl)) (Or.inl (hI hw 278 rfl)) (by decide) (t := .int) (t' := .boolean) (by decide) (by decide)
  refine Met.intro pnAB hEL hO ?_
  intro p e s m below meth c T W hby hml hret hnm
  have D : ∀ {pc : Nat} {r}, decode jdk_68_method_9_code pc = r → decode c.code pc = r := fun q => hb hby q
  refine Go.cast (efEn m x (Int32.ofNat n)) ?_
  have hc31 := B.cap31
  have B0 := B
  obtain ⟨b1, b2, b3, b4, b5, b6, bx, bs, b7, b8, b9, b10, b11⟩ := B
  refine g_aloadN W (pc' := 1) (D en_0) rfl rfl (by first | rfl | assumption) ?_
  refine g_getfield W (pc' := 4) (host := "") (Or.inl (hI hw 55 rfl)) Via.refl (b4) (D en_1) rfl (fun T W => ?_)
  refine g_arraylength W (pc' := 5) (b7) (z := Int32.ofNat cap) (by rw [List.length_map, b9]) (D en_4) rfl ?_
  refine g_aloadN W (pc' := 6) (D en_5) rfl rfl (by first | rfl | assumption) ?_
  refine g_getfield W (pc' := 9) (host := "") (Or.inl (hI hw 57 rfl)) Via.refl (b5) (D en_6) rfl (fun T W => ?_)
  refine g_ishr W (pc' := 10) (D en_9) rfl ?_
  rw [shr0]
  refine g_istoreN W (pc' := 11) (D en_10) rfl (ls' := #[_, _, _]) rfl ?_
  refine g_iloadN W (pc' := 12) (D en_11) rfl rfl ?_
  refine g_iloadN W (pc' := 13) (D en_12) rfl rfl ?_
  refine g_isub W (pc' := 14) (D en_13) rfl ?_
  rcases Nat.lt_or_ge cap n with q | q
  · refine g_ifleN W (pc1 := 38) (pc2 := 17) (D en_14) (by decide) (by decide) rfl (by rw [ofNat_sub' (Nat.le_of_lt q), Int32.lt_iff_toInt_lt, Int32.toInt_ofNat_small (by omega)]; have e0 : (0 : Int32).toInt = 0 := rfl; omega) ?_
    refine g_aloadN W (pc' := 18) (D en_17) rfl rfl (by first | rfl | assumption) ?_
    refine g_aloadN W (pc' := 19) (D en_18) rfl rfl (by first | rfl | assumption) ?_
    refine g_getfield W (pc' := 22) (host := "") (Or.inl (hI hw 55 rfl)) Via.refl (b4) (D en_19) rfl (fun T W => ?_)
    refine g_aloadN W (pc' := 23) (D en_22) rfl rfl (by first | rfl | assumption) ?_
    refine g_iloadN W (pc' := 24) (D en_23) rfl rfl ?_
    refine g_virt W (t_newCap l hw hEL cst W.old B0 hc q hn) (fun x q => nomatch q) ⟨_, _, rfl, (hI hw 176 rfl)⟩ (hI hw 173 rfl) (decl_of (hI hw 174 rfl) (hI hw 177 rfl)) (hI hw 176 rfl) (hI hw 174 rfl) (hI hw 51 rfl) (hI hw 177 rfl) (by decide) pd_7 (b3) (argsL := [_]) rfl rfl (pc' := 27) rfl (by rw [hml]; rfl) (D en_24) rfl (Wn := 2) (Nat.le_refl _) (by decide) (by decide) (by decide) (by decide) (fun v T h1 W hg hQ => ?_)
    obtain ⟨rfl, rfl⟩ := hQ
    refine g_aloadN W (pc' := 28) (D en_27) rfl rfl (by first | rfl | assumption) ?_
    refine g_getfield W (pc' := 31) (host := "") (Or.inl (hI hw 57 rfl)) Via.refl (b5) (D en_28) rfl (fun T W => ?_)
    refine g_ishl W (pc' := 32) (D en_31) rfl ?_
    rw [shl0]
    refine g_callSF W (t_copyOf l hw hEL cst W.old b7 b8 (n := cap + max (n - cap) (cap + 2)) (by omega) (by omega)) (fun x q => nomatch q) (hI hw 188 rfl) (hI hw 189 rfl) (hI hw 94 rfl) (hI hw 190 rfl) (by decide) pd_8 (argsL := [_, _]) rfl rfl (pc' := 35) rfl (by rw [hml]; rfl) (D en_32) rfl (Wn := 1) (Nat.le_refl _) (by decide) (by decide) (by decide) (by decide) (fun v T h1 FF W hg hQ => ?_)
    obtain ⟨b, rfl, rfl, hb, E1, Eb, Ab⟩ := hQ
    replace b3 := b3.ext E1
    refine g_putfield W (pc' := 38) (host := "") (Or.inl (hI hw 55 rfl)) Via.refl (b4.ext E1) (b3) (Or.inl (hI hw 56 rfl)) (hI hw 31 rfl) (ty := (.array .byte)) (by decide) rfl rfl (⟨b1, Or.inr (Or.inl ⟨SB, b3, by decide, by decide⟩)⟩) (D en_35) rfl (fun T h2 W Wr1 => ?_)
    refine g_returnF W (D en_38) hret (by decide) (by decide) (FF := [b]) (fun z hz => List.mem_append.mpr (Or.inl hz)) ⟨rfl, b, cap + max (n - cap) (cap + 2), rfl, Or.inr hb, by omega, by omega, (ext_keep E1 [x]).wr Wr1 (Or.inl (List.mem_singleton.mpr rfl)), b1, Nat.le_trans hO.1 hb, b3.wr Wr1, (b4.ext E1).same Wr1, (b5.ext E1).other Wr1 (Or.inr (Ne.symm n_value_coder)), (b6.ext E1).other Wr1 (Or.inr (Ne.symm n_value_count)), ⟨Eb.wr Wr1, (bx.2.ext E1).other Wr1 (Or.inr (Ne.symm n_value_maybeLatin1))⟩, bs ++ List.replicate (cap + max (n - cap) (cap + 2) - bs.length) 0, Ab.wr Wr1 (Ab.neE b3 (hI hw 31 rfl)), b8.app (Bys.rep _), by rw [List.length_append, List.length_replicate]; omega, by omega, ?_⟩
    rw [List.take_append_of_le_length (by omega)]; exact b11
  · refine g_ifleY W (pc1 := 38) (pc2 := 17) (D en_14) (by decide) (by decide) rfl (ens_le q hc31) ?_
    exact g_returnF W (D en_38) hret (by decide) (by decide) (FF := [t]) (fun z hz => hz) ⟨rfl, t, cap, rfl, Or.inl rfl, hc, q, Keep.refl _ _, B0⟩
theorem nf_0 : decode jdk_68_method_71_code 0 = .ok (.getstatic 18, 3) := by decide +kernel
theorem nf_3 : decode jdk_68_method_71_code 3 = .ok (.ifCond .eq 18, 3) := by decide +kernel
theorem nf_6 : decode jdk_68_method_71_code 6 = .ok (.aload_n 0, 1) := by decide +kernel
theorem nf_7 : decode jdk_68_method_71_code 7 = .ok (.getfield 22, 3) := by decide +kernel
theorem nf_10 : decode jdk_68_method_71_code 10 = .ok (.aload_n 1, 1) := by decide +kernel
theorem nf_11 : decode jdk_68_method_71_code 11 = .ok (.invokevirtual 40, 3) := by decide +kernel
theorem nf_14 : decode jdk_68_method_71_code 14 = .ok (.if_icmp .eq 7, 3) := by decide +kernel
theorem nf_17 : decode jdk_68_method_71_code 17 = .ok (.aload_n 0, 1) := by decide +kernel
theorem nf_18 : decode jdk_68_method_71_code 18 = .ok (.invokevirtual 195, 3) := by decide +kernel
theorem nf_21 : decode jdk_68_method_71_code 21 = .ok (.return_, 1) := by decide +kernel
theorem efNf (m : MethodId) (x0 : Addr) (x1 : Addr) : entryFrame m #[.ref x0, .ref x1] 2 = mkF m 0 #[.val (.ref x0), .val (.ref x1)] [] := by first | (simp [entryFrame, mkF, argsToLocals, Value.category, maxLocals]; done) | rfl
set_option maxRecDepth 65536 in
set_option maxHeartbeats 4000000 in
theorem t_inflate (l : Launch) {Z : State} {a0 : Array Value} {EL : List (String × Nat)} (hw : ∀ d ∈ tables_1, d.before a0 Z = true) (hEL : EW Z a0 EL) (cst : Cst Z) {h : Heap} (hO : Ext Z.heap h) {x t : Addr} {cap : Nat} {cs : List Int32} (B : Sbd Z h x t cap cs) {y : Addr} {ds : List Int32} (S : Str Z h y ds) :
    Met l Z EL [] (⟨"java/lang/AbstractStringBuilder", "inflateIfNeededFor", "(Ljava/lang/String;)V"⟩ : MethodName) jdk_68_method_71_code 2 none { frames := 1, cells := 0, slots := 0, locals := 13 } #[.ref x, .ref y] h (Void fun h' => h = h') := by
  refine Met.intro pnAB hEL hO ?_
  intro p e s m below meth c T W hby hml hret hnm
  have D : ∀ {pc : Nat} {r}, decode jdk_68_method_71_code pc = r → decode c.code pc = r := fun q => hb hby q
  refine Go.cast (efNf m x y) ?_
  obtain ⟨zc, Sc, hzc⟩ := id cst
  refine g_getstatic W (pc' := 3) (host := "") (Or.inl (hI hw 54 rfl)) Via.refl (Sc.ext W.old) (D nf_0) rfl (fun T W => ?_)
  refine g_ifeqN W (pc1 := 21) (pc2 := 6) (D nf_3) (by decide) (by decide) rfl (hzc) ?_
  refine g_aloadN W (pc' := 7) (D nf_6) rfl rfl (by first | rfl | assumption) ?_
  refine g_getfield W (pc' := 10) (host := "") (Or.inl (hI hw 57 rfl)) Via.refl (B.2.2.2.2.1) (D nf_7) rfl (fun T W => ?_)
  refine g_aloadN W (pc' := 11) (D nf_10) rfl rfl (by first | rfl | assumption) ?_
  refine g_virt W (t_coder l hw hEL cst W.old S) (fun x q => nomatch q) ⟨_, _, rfl, (hI hw 41 rfl)⟩ (hI hw 208 rfl) (hI hw 39 rfl) (hI hw 41 rfl) (hI hw 40 rfl) (hI hw 6 rfl) (hI hw 42 rfl) (by decide) pd_9 (S.1) (argsL := []) rfl rfl (pc' := 14) rfl (by rw [hml]; rfl) (D nf_11) rfl (Wn := 1) (Nat.le_refl _) (by decide) (by decide) (by decide) (by decide) (fun v T h1 W hg hQ => ?_)
  obtain ⟨rfl, rfl⟩ := hQ
  refine g_icmpeqY W (pc1 := 21) (pc2 := 17) (D nf_14) (by decide) (by decide) rfl (rfl) ?_
  exact g_return W (D nf_21) hret (by decide) (by decide) ⟨rfl, rfl⟩
theorem gb_0 : decode jdk_42_method_147_code 0 = .ok (.aload_n 0, 1) := by decide +kernel
theorem gb_1 : decode jdk_42_method_147_code 1 = .ok (.invokevirtual 335, 3) := by decide +kernel
theorem gb_4 : decode jdk_42_method_147_code 4 = .ok (.iload_n 3, 1) := by decide +kernel
theorem gb_5 : decode jdk_42_method_147_code 5 = .ok (.if_icmp .ne 23, 3) := by decide +kernel
theorem gb_8 : decode jdk_42_method_147_code 8 = .ok (.aload_n 0, 1) := by decide +kernel
theorem gb_9 : decode jdk_42_method_147_code 9 = .ok (.getfield 9, 3) := by decide +kernel
theorem gb_12 : decode jdk_42_method_147_code 12 = .ok (.iconst 0, 1) := by decide +kernel
theorem gb_13 : decode jdk_42_method_147_code 13 = .ok (.aload_n 1, 1) := by decide +kernel
theorem gb_14 : decode jdk_42_method_147_code 14 = .ok (.iload_n 2, 1) := by decide +kernel
theorem gb_15 : decode jdk_42_method_147_code 15 = .ok (.iload_n 3, 1) := by decide +kernel
theorem gb_16 : decode jdk_42_method_147_code 16 = .ok (.ishl, 1) := by decide +kernel
theorem gb_17 : decode jdk_42_method_147_code 17 = .ok (.aload_n 0, 1) := by decide +kernel
theorem gb_18 : decode jdk_42_method_147_code 18 = .ok (.getfield 9, 3) := by decide +kernel
theorem gb_21 : decode jdk_42_method_147_code 21 = .ok (.arraylength, 1) := by decide +kernel
theorem gb_22 : decode jdk_42_method_147_code 22 = .ok (.invokestatic 212, 3) := by decide +kernel
theorem gb_25 : decode jdk_42_method_147_code 25 = .ok (.goto 18, 3) := by decide +kernel
theorem gb_28 : decode jdk_42_method_147_code 28 = .ok (.aload_n 0, 1) := by decide +kernel
theorem gb_29 : decode jdk_42_method_147_code 29 = .ok (.getfield 9, 3) := by decide +kernel
theorem gb_32 : decode jdk_42_method_147_code 32 = .ok (.iconst 0, 1) := by decide +kernel
theorem gb_33 : decode jdk_42_method_147_code 33 = .ok (.aload_n 1, 1) := by decide +kernel
theorem gb_34 : decode jdk_42_method_147_code 34 = .ok (.iload_n 2, 1) := by decide +kernel
theorem gb_35 : decode jdk_42_method_147_code 35 = .ok (.aload_n 0, 1) := by decide +kernel
theorem gb_36 : decode jdk_42_method_147_code 36 = .ok (.getfield 9, 3) := by decide +kernel
theorem gb_39 : decode jdk_42_method_147_code 39 = .ok (.arraylength, 1) := by decide +kernel
theorem gb_40 : decode jdk_42_method_147_code 40 = .ok (.invokestatic 106, 3) := by decide +kernel
theorem gb_43 : decode jdk_42_method_147_code 43 = .ok (.return_, 1) := by decide +kernel
theorem efGb (m : MethodId) (x0 : Addr) (x1 : Addr) (x2 : Int32) (x3 : Int32) : entryFrame m #[.ref x0, .ref x1, .int x2, .int x3] 4 = mkF m 0 #[.val (.ref x0), .val (.ref x1), .val (.int x2), .val (.int x3)] [] := by first | (simp [entryFrame, mkF, argsToLocals, Value.category, maxLocals]; done) | rfl
set_option maxRecDepth 65536 in
set_option maxHeartbeats 4000000 in
theorem t_getBytes (l : Launch) {Z : State} {a0 : Array Value} {EL : List (String × Nat)} (hw : ∀ d ∈ tables_1, d.before a0 Z = true) (hEL : EW Z a0 EL) (cst : Cst Z) {h : Heap} (hO : Ext Z.heap h) {y t : Addr} {ds : List Int32} (S : Str Z h y ds) {bs : List Int32} (A : Ali Z h t .byte (bs.map Value.int)) (hB : Bys bs) (hz : Z.heap.size ≤ t) {i : Nat} (hi : i + ds.length ≤ bs.length) :
    Met l Z EL [t] (⟨"java/lang/String", "getBytes", "([BIB)V"⟩ : MethodName) jdk_42_method_147_code 4 none { frames := 1, cells := 0, slots := 0, locals := 20 } #[.ref y, .ref t, .int (Int32.ofNat i), .int 0] h (Void fun h' => Keep h h' [t] ∧ Ali Z h' t .byte ((bs.take i ++ ds.map lo ++ bs.drop (i + ds.length)).map Value.int)) := by
  refine Met.intro pnS hEL hO ?_
  intro p e s m below meth c T W hby hml hret hnm
  have D : ∀ {pc : Nat} {r}, decode jdk_42_method_147_code pc = r → decode c.code pc = r := fun q => hb hby q
  refine Go.cast (efGb m y t (Int32.ofNat i) 0) ?_
  have l31 : bs.length < 2 ^ 31 := by obtain ⟨_, _, _, q⟩ := A; simpa using q
  refine g_aloadN W (pc' := 1) (D gb_0) rfl rfl (by first | rfl | assumption) ?_
  refine g_virt W (t_coder l hw hEL cst W.old S) (fun x q => nomatch q) ⟨_, _, rfl, (hI hw 41 rfl)⟩ (hI hw 38 rfl) (hI hw 39 rfl) (hI hw 41 rfl) (hI hw 40 rfl) (hI hw 6 rfl) (hI hw 42 rfl) (by decide) pd_9 (S.1) (argsL := []) rfl rfl (pc' := 4) rfl (by rw [hml]; rfl) (D gb_1) rfl (Wn := 0) (Nat.le_refl _) (by decide) (by decide) (by decide) (by decide) (fun v T h1 W hg hQ => ?_)
  obtain ⟨rfl, rfl⟩ := hQ
  refine g_iloadN W (pc' := 5) (D gb_4) rfl rfl ?_
  refine g_icmpneN W (pc1 := 28) (pc2 := 8) (D gb_5) (by decide) (by decide) rfl (rfl) ?_
  obtain ⟨s1, s2, ⟨u, s3, s4⟩, s5, s6⟩ := S
  refine g_aloadN W (pc' := 9) (D gb_8) rfl rfl (by first | rfl | assumption) ?_
  refine g_getfield W (pc' := 12) (host := "") (Or.inl (hI hw 24 rfl)) Via.refl (s3) (D gb_9) rfl (fun T W => ?_)
  refine g_iconst W (pc' := 13) (D gb_12) rfl (v := (0 : Int32)) (by decide) ?_
  refine g_aloadN W (pc' := 14) (D gb_13) rfl rfl (by first | rfl | assumption) ?_
  refine g_iloadN W (pc' := 15) (D gb_14) rfl rfl ?_
  refine g_iloadN W (pc' := 16) (D gb_15) rfl rfl ?_
  refine g_ishl W (pc' := 17) (D gb_16) rfl ?_
  rw [shl0]
  refine g_aloadN W (pc' := 18) (D gb_17) rfl rfl (by first | rfl | assumption) ?_
  refine g_getfield W (pc' := 21) (host := "") (Or.inl (hI hw 24 rfl)) Via.refl (s3) (D gb_18) rfl (fun T W => ?_)
  refine g_arraylength W (pc' := 22) (s4) (z := Int32.ofNat ds.length) (by simp) (D gb_21) rfl ?_
  refine g_arraycopy W (pc' := 25) s4 A (Bys.lo ds) hB hz (List.mem_singleton.mpr rfl) (hI hw 214 rfl) (hI hw 197 rfl) (hI hw 195 rfl) (hI hw 196 rfl) (i := 0) (j := i) (t := ds.length) (by decide) (own_n0 (by omega)) (own_n0 (by omega)) (by decide) (own_n32 (by omega)) (own_n32 (by omega)) (by simp) hi (by rw [hml]; rfl) (D gb_22) rfl (by decide) (Wn := 0) (Nat.le_refl _) (by decide) (fun T h2 W Kp A2 => ?_)
  have e : ((ds.map lo).drop 0).take ds.length = ds.map lo := by rw [List.drop_zero]; exact List.take_of_length_le (by simp)
  rw [e] at A2
  refine g_goto W (pc' := 43) (D gb_25) (by decide) (by decide) ?_
  exact g_return W (D gb_43) hret (by decide) (by decide) ⟨rfl, Kp, A2⟩
theorem ps_0 : decode jdk_68_method_73_code 0 = .ok (.aload_n 0, 1) := by decide +kernel
theorem ps_1 : decode jdk_68_method_73_code 1 = .ok (.aload_n 2, 1) := by decide +kernel
theorem ps_2 : decode jdk_68_method_73_code 2 = .ok (.invokevirtual 397, 3) := by decide +kernel
theorem ps_5 : decode jdk_68_method_73_code 5 = .ok (.aload_n 2, 1) := by decide +kernel
theorem ps_6 : decode jdk_68_method_73_code 6 = .ok (.aload_n 0, 1) := by decide +kernel
theorem ps_7 : decode jdk_68_method_73_code 7 = .ok (.getfield 15, 3) := by decide +kernel
theorem ps_10 : decode jdk_68_method_73_code 10 = .ok (.iload_n 1, 1) := by decide +kernel
theorem ps_11 : decode jdk_68_method_73_code 11 = .ok (.aload_n 0, 1) := by decide +kernel
theorem ps_12 : decode jdk_68_method_73_code 12 = .ok (.getfield 22, 3) := by decide +kernel
theorem ps_15 : decode jdk_68_method_73_code 15 = .ok (.invokevirtual 399, 3) := by decide +kernel
theorem ps_18 : decode jdk_68_method_73_code 18 = .ok (.return_, 1) := by decide +kernel
theorem efPs (m : MethodId) (x0 : Addr) (x1 : Int32) (x2 : Addr) : entryFrame m #[.ref x0, .int x1, .ref x2] 3 = mkF m 0 #[.val (.ref x0), .val (.int x1), .val (.ref x2)] [] := by first | (simp [entryFrame, mkF, argsToLocals, Value.category, maxLocals]; done) | rfl
set_option maxRecDepth 65536 in
set_option maxHeartbeats 4000000 in
theorem t_putAt (l : Launch) {Z : State} {a0 : Array Value} {EL : List (String × Nat)} (hw : ∀ d ∈ tables_1, d.before a0 Z = true) (hEL : EW Z a0 EL) (cst : Cst Z) {h : Heap} (hO : Ext Z.heap h) {x t : Addr} {cap : Nat} {cs : List Int32} (B : Sbd Z h x t cap cs) {y : Addr} {ds : List Int32} (S : Str Z h y ds) {bs : List Int32} (A : Ali Z h t .byte (bs.map Value.int)) (hB : Bys bs) {i : Nat} (hi : i + ds.length ≤ bs.length) :
    Met l Z EL [t] (⟨"java/lang/AbstractStringBuilder", "putStringAt", "(ILjava/lang/String;)V"⟩ : MethodName) jdk_68_method_73_code 3 none { frames := 2, cells := 0, slots := 0, locals := 40 } #[.ref x, .int (Int32.ofNat i), .ref y] h (Void fun h' => Keep h h' [t] ∧ Ali Z h' t .byte ((bs.take i ++ ds.map lo ++ bs.drop (i + ds.length)).map Value.int)) := by
  refine Met.intro pnAB hEL hO ?_
  intro p e s m below meth c T W hby hml hret hnm
  have D : ∀ {pc : Nat} {r}, decode jdk_68_method_73_code pc = r → decode c.code pc = r := fun q => hb hby q
  refine Go.cast (efPs m x (Int32.ofNat i) y) ?_
  refine g_aloadN W (pc' := 1) (D ps_0) rfl rfl (by first | rfl | assumption) ?_
  refine g_aloadN W (pc' := 2) (D ps_1) rfl rfl (by first | rfl | assumption) ?_
  refine g_virtV W (t_inflate l hw hEL cst W.old B S) (fun x q => nomatch q) ⟨_, _, rfl, (hI hw 206 rfl)⟩ (hI hw 203 rfl) (decl_of (hI hw 204 rfl) (hI hw 207 rfl)) (hI hw 206 rfl) (hI hw 204 rfl) (hI hw 51 rfl) (hI hw 207 rfl) (by decide) pd_10 (B.2.2.1) (argsL := [_]) rfl rfl (pc' := 5) rfl (by rw [hml]; rfl) (D ps_2) rfl (Wn := 0) (Nat.le_refl _) (by decide) (by decide) (by decide) (by decide) (fun T h1 W hg hQ => ?_)
  subst hQ
  refine g_aloadN W (pc' := 6) (D ps_5) rfl rfl (by first | rfl | assumption) ?_
  refine g_aloadN W (pc' := 7) (D ps_6) rfl rfl (by first | rfl | assumption) ?_
  refine g_getfield W (pc' := 10) (host := "") (Or.inl (hI hw 55 rfl)) Via.refl (B.2.2.2.1) (D ps_7) rfl (fun T W => ?_)
  refine g_iloadN W (pc' := 11) (D ps_10) rfl rfl ?_
  refine g_aloadN W (pc' := 12) (D ps_11) rfl rfl (by first | rfl | assumption) ?_
  refine g_getfield W (pc' := 15) (host := "") (Or.inl (hI hw 57 rfl)) Via.refl (B.2.2.2.2.1) (D ps_12) rfl (fun T W => ?_)
  refine g_virtV W (t_getBytes l hw hEL cst W.old S A hB B.2.1 hi) (fun y q => q) ⟨_, _, rfl, (hI hw 212 rfl)⟩ (hI hw 209 rfl) (hI hw 210 rfl) (hI hw 212 rfl) (hI hw 211 rfl) (hI hw 6 rfl) (hI hw 213 rfl) (by decide) pd_11 (S.1) (argsL := [_, _, _]) rfl rfl (pc' := 18) rfl (by rw [hml]; rfl) (D ps_15) rfl (Wn := 0) (Nat.le_refl _) (by decide) (by decide) (by decide) (by decide) (fun T h1 W hg hQ => ?_)
  exact g_return W (D ps_18) hret (by decide) (by decide) ⟨rfl, hQ⟩
theorem Sbd.put {Z : State} {a0 : Array Value} (hw : ∀ d ∈ tables_1, d.before a0 Z = true) {h h1 h2 : Heap} {x t : Addr} {cap : Nat} {cs ds : List Int32} (B : Sbd Z h x t cap cs) (K1 : Keep h h1 [t]) {us : List Int32} (A1 : Ali Z h1 t .byte (us.map Value.int)) (hu : Bys us) (hl : us.length = cap) (hd : (cs ++ ds).length ≤ cap) (ht : us.take (cs ++ ds).length = (cs ++ ds).map lo) (W2 : Wr h1 h2 x (Jvm.RoadKit.slotOf Z AB "count" "I") (.int (Int32.ofNat (cs ++ ds).length))) : Keep h h2 [x, t] ∧ Sbd Z h2 x t cap (cs ++ ds) := by
  have n_value_coder : Jvm.RoadKit.slotOf Z AB "value" "[B" ≠ Jvm.RoadKit.slotOf Z AB "coder" "B" := slot_ne (C := SB) (Or.inl (hI hw 56 rfl)) (Or.inl (hI hw 58 rfl)) (by decide) (t := .array .byte) (t' := .byte) (by decide) (by decide)
  have n_value_count : Jvm.RoadKit.slotOf Z AB "value" "[B" ≠ Jvm.RoadKit.slotOf Z AB "count" "I" := slot_ne (C := SB) (Or.inl (hI hw 56 rfl)) (Or.inl (hI hw 86 rfl)) (by decide) (t := .array .byte) (t' := .int) (by decide) (by decide)
  have n_coder_count : Jvm.RoadKit.slotOf Z AB "coder" "B" ≠ Jvm.RoadKit.slotOf Z AB "count" "I" := slot_ne (C := SB) (Or.inl (hI hw 58 rfl)) (Or.inl (hI hw 86 rfl)) (by decide) (t := .byte) (t' := .int) (by decide) (by decide)
  have n_value_maybeLatin1 : Jvm.RoadKit.slotOf Z AB "value" "[B" ≠ Jvm.RoadKit.slotOf Z AB "maybeLatin1" "Z" := slot_ne (C := SB) (Or.inl (hI hw 56 rfl)) (Or.inl (hI hw 278 rfl)) (by decide) (t := .array .byte) (t' := .boolean) (by decide) (by decide)
  have n_coder_maybeLatin1 : Jvm.RoadKit.slotOf Z AB "coder" "B" ≠ Jvm.RoadKit.slotOf Z AB "maybeLatin1" "Z" := slot_ne (C := SB) (Or.inl (hI hw 58 rfl)) (Or.inl (hI hw 278 rfl)) (by decide) (t := .byte) (t' := .boolean) (by decide) (by decide)
  have n_count_maybeLatin1 : Jvm.RoadKit.slotOf Z AB "count" "I" ≠ Jvm.RoadKit.slotOf Z AB "maybeLatin1" "Z" := slot_ne (C := SB) (Or.inl (hI hw 86 rfl)) (Or.inl (hI hw 278 rfl)) (by decide) (t := .int) (t' := .boolean) (by decide) (by decide)
  have wiB : (Jvm.Cond.instantiable SB 4).before a0 Z = true := (hI hw 31 rfl)
  obtain ⟨b1, b2, b3, b4, b5, b6, bx, bs, b7, r⟩ := B
  have ne : x ∉ [t] := ninS (b7.neE b3 wiB).symm nin0
  refine ⟨?_, b1, b2, (b3.keep K1).wr W2, (b4.keep K1 ne).other W2 (Or.inr n_value_count), (b5.keep K1 ne).other W2 (Or.inr n_coder_count), (b6.keep K1 ne).same W2, ⟨(bx.1.keep K1).wr W2, (bx.2.keep K1 ne).other W2 (Or.inr (Ne.symm n_count_maybeLatin1))⟩, us, A1.wr W2 (A1.neE (b3.keep K1) wiB), hu, hl, hd, ht⟩
  have K2 : Keep h h1 [x, t] := ⟨K1.1, fun a c q r => K1.2.1 a c q (fun z => r (List.mem_cons_of_mem x z)), K1.2.2⟩
  exact K2.wr W2 (Or.inl (List.mem_cons_self ..))
theorem aa_0 : decode jdk_68_method_22_code 0 = .ok (.aload_n 1, 1) := by decide +kernel
theorem aa_1 : decode jdk_68_method_22_code 1 = .ok (.ifnonnull 8, 3) := by decide +kernel
theorem aa_9 : decode jdk_68_method_22_code 9 = .ok (.aload_n 1, 1) := by decide +kernel
theorem aa_10 : decode jdk_68_method_22_code 10 = .ok (.invokevirtual 32, 3) := by decide +kernel
theorem aa_13 : decode jdk_68_method_22_code 13 = .ok (.istore_n 2, 1) := by decide +kernel
theorem aa_14 : decode jdk_68_method_22_code 14 = .ok (.aload_n 0, 1) := by decide +kernel
theorem aa_15 : decode jdk_68_method_22_code 15 = .ok (.aload_n 0, 1) := by decide +kernel
theorem aa_16 : decode jdk_68_method_22_code 16 = .ok (.getfield 79, 3) := by decide +kernel
theorem aa_19 : decode jdk_68_method_22_code 19 = .ok (.iload_n 2, 1) := by decide +kernel
theorem aa_20 : decode jdk_68_method_22_code 20 = .ok (.iadd, 1) := by decide +kernel
theorem aa_21 : decode jdk_68_method_22_code 21 = .ok (.invokevirtual 100, 3) := by decide +kernel
theorem aa_24 : decode jdk_68_method_22_code 24 = .ok (.aload_n 0, 1) := by decide +kernel
theorem aa_25 : decode jdk_68_method_22_code 25 = .ok (.aload_n 0, 1) := by decide +kernel
theorem aa_26 : decode jdk_68_method_22_code 26 = .ok (.getfield 79, 3) := by decide +kernel
theorem aa_29 : decode jdk_68_method_22_code 29 = .ok (.aload_n 1, 1) := by decide +kernel
theorem aa_30 : decode jdk_68_method_22_code 30 = .ok (.invokevirtual 208, 3) := by decide +kernel
theorem aa_33 : decode jdk_68_method_22_code 33 = .ok (.aload_n 0, 1) := by decide +kernel
theorem aa_34 : decode jdk_68_method_22_code 34 = .ok (.dup, 1) := by decide +kernel
theorem aa_35 : decode jdk_68_method_22_code 35 = .ok (.getfield 79, 3) := by decide +kernel
theorem aa_38 : decode jdk_68_method_22_code 38 = .ok (.iload_n 2, 1) := by decide +kernel
theorem aa_39 : decode jdk_68_method_22_code 39 = .ok (.iadd, 1) := by decide +kernel
theorem aa_40 : decode jdk_68_method_22_code 40 = .ok (.putfield 79, 3) := by decide +kernel
theorem aa_43 : decode jdk_68_method_22_code 43 = .ok (.aload_n 0, 1) := by decide +kernel
theorem aa_44 : decode jdk_68_method_22_code 44 = .ok (.areturn, 1) := by decide +kernel
theorem efAa (m : MethodId) (x0 : Addr) (x1 : Addr) : entryFrame m #[.ref x0, .ref x1] 3 = mkF m 0 #[.val (.ref x0), .val (.ref x1), .unset] [] := by first | (simp [entryFrame, mkF, argsToLocals, Value.category, maxLocals]; done) | rfl
set_option maxRecDepth 65536 in
set_option maxHeartbeats 4000000 in
theorem t_appendA (l : Launch) {Z : State} {a0 : Array Value} {EL : List (String × Nat)} (hw : ∀ d ∈ tables_1, d.before a0 Z = true) (hEL : EW Z a0 EL) (cst : Cst Z) {h : Heap} (hO : Ext Z.heap h) {x t : Addr} {cap : Nat} {cs : List Int32} (B : Sbd Z h x t cap cs) {y : Addr} {ds : List Int32} (S : Str Z h y ds) (hc : cap ≤ 64) (hn : cs.length + ds.length ≤ 32) :
    Met l Z EL [t] (⟨"java/lang/AbstractStringBuilder", "append", "(Ljava/lang/String;)Ljava/lang/AbstractStringBuilder;"⟩ : MethodName) jdk_68_method_22_code 3 (some (.object AB)) { frames := 4, cells := 1, slots := 128, locals := 62 } #[.ref x, .ref y] h (RetF fun v h' FF => ∃ t' cap', FF = [t'] ∧ v = .ref x ∧ (t' = t ∨ h.size ≤ t') ∧ cap' ≤ 64 ∧ Keep h h' [x, t] ∧ Sbd Z h' x t' cap' (cs ++ ds)) := by
  refine Met.intro pnAB hEL hO ?_
  intro p e s m below meth c T W hby hml hret hnm
  have D : ∀ {pc : Nat} {r}, decode jdk_68_method_22_code pc = r → decode c.code pc = r := fun q => hb hby q
  refine Go.cast (efAa m x y) ?_
  have B0 := B
  obtain ⟨b1, b2, b3, b4, b5, b6, bx, bs, b7, b8, b9, b10, b11⟩ := B
  refine g_aloadN W (pc' := 1) (D aa_0) rfl rfl (by first | rfl | assumption) ?_
  refine g_ifnonnullY W (pc1 := 9) (pc2 := 4) (D aa_1) (by decide) (by decide) rfl ?_
  refine g_aloadN W (pc' := 10) (D aa_9) rfl rfl (by first | rfl | assumption) ?_
  refine g_len W hw cst (S) (hI hw 172 rfl) (pc' := 13) (by rw [hml]; rfl) (D aa_10) rfl (Wn := 0) (Nat.le_refl _) (by decide) (by decide) (by decide) (by decide) (rfl) (fun T W => ?_)
  refine g_istoreN W (pc' := 14) (D aa_13) rfl (ls' := #[_, _, _]) rfl ?_
  refine g_aloadN W (pc' := 15) (D aa_14) rfl rfl (by first | rfl | assumption) ?_
  refine g_aloadN W (pc' := 16) (D aa_15) rfl rfl (by first | rfl | assumption) ?_
  refine g_getfield W (pc' := 19) (host := "") (Or.inl (hI hw 85 rfl)) Via.refl (b6) (D aa_16) rfl (fun T W => ?_)
  refine g_iloadN W (pc' := 20) (D aa_19) rfl rfl ?_
  refine g_iadd W (pc' := 21) (D aa_20) rfl ?_
  rw [← Int32.ofNat_add]
  refine g_virtO W (t_ensure l hw hEL cst W.old B0 hc hn) (fun y q => q) ⟨_, _, rfl, (hI hw 156 rfl)⟩ (hI hw 153 rfl) (decl_of (hI hw 154 rfl) (hI hw 157 rfl)) (hI hw 156 rfl) (hI hw 154 rfl) (hI hw 51 rfl) (hI hw 157 rfl) (by decide) pd_12 (b3) (argsL := [_]) rfl rfl (pc' := 24) rfl (by rw [hml]; rfl) (D aa_21) rfl (Wn := 0) (Nat.le_refl _) (by decide) (by decide) (by decide) (by decide) (fun v T h1 FF W hg hQ => ?_)
  obtain ⟨rfl, t', cap', rfl, ht, hc', hn', K1, B1⟩ := hQ
  replace W := W.drop (F' := [t']) (fun z hz => List.mem_append.mpr (Or.inl hz))
  refine Go.cast (g' := mkF m 24 #[.val (.ref x), .val (.ref y), .val (.int (Int32.ofNat ds.length))] []) rfl ?_
  have S1 := S.keep (hI hw 5 rfl) K1 (Or.inl ⟨SB, 4, b3, by decide, (hI hw 31 rfl)⟩)
  have B2 := B1
  obtain ⟨b1, b2, b3, b4, b5, b6, bx, bs, b7, b8, b9, b10, b11⟩ := B1
  refine g_aloadN W (pc' := 25) (D aa_24) rfl rfl (by first | rfl | assumption) ?_
  refine g_aloadN W (pc' := 26) (D aa_25) rfl rfl (by first | rfl | assumption) ?_
  refine g_getfield W (pc' := 29) (host := "") (Or.inl (hI hw 85 rfl)) Via.refl (b6) (D aa_26) rfl (fun T W => ?_)
  refine g_aloadN W (pc' := 30) (D aa_29) rfl rfl (by first | rfl | assumption) ?_
  refine g_virtV W (t_putAt l hw hEL cst W.old B2 S1 b7 b8 (i := cs.length) (by omega)) (fun y q => q) ⟨_, _, rfl, (hI hw 201 rfl)⟩ (hI hw 198 rfl) (decl_of (hI hw 199 rfl) (hI hw 202 rfl)) (hI hw 201 rfl) (hI hw 199 rfl) (hI hw 51 rfl) (hI hw 202 rfl) (by decide) pd_13 (b3) (argsL := [_, _]) rfl rfl (pc' := 33) rfl (by rw [hml]; rfl) (D aa_30) rfl (Wn := 0) (Nat.le_refl _) (by decide) (by decide) (by decide) (by decide) (fun T h2 W hg hQ => ?_)
  obtain ⟨K2, A2⟩ := hQ
  have ne : x ∉ [t'] := ninS (b7.neE b3 (hI hw 31 rfl)).symm nin0
  refine g_aloadN W (pc' := 34) (D aa_33) rfl rfl (by first | rfl | assumption) ?_
  refine g_dup W (pc' := 35) (D aa_34) rfl rfl ?_
  refine g_getfield W (pc' := 38) (host := "") (Or.inl (hI hw 85 rfl)) Via.refl (b6.keep K2 ne) (D aa_35) rfl (fun T W => ?_)
  refine g_iloadN W (pc' := 39) (D aa_38) rfl rfl ?_
  refine g_iadd W (pc' := 40) (D aa_39) rfl ?_
  rw [← Int32.ofNat_add]
  refine g_putfield W (pc' := 43) (host := "") (Or.inl (hI hw 85 rfl)) Via.refl (b6.keep K2 ne) (b3.keep K2) (Or.inl (hI hw 86 rfl)) (hI hw 31 rfl) (ty := .int) (by decide) rfl rfl (⟨b1, Or.inr (Or.inl ⟨SB, b3.keep K2, by decide, by decide⟩)⟩) (D aa_40) rfl (fun T h3 W Wr1 => ?_)
  refine g_aloadN W (pc' := 44) (D aa_43) rfl rfl (by first | rfl | assumption) ?_
  have hp := B2.put hw (ds := ds) K2 A2 ((((b8.take _)).app (Bys.lo ds)).app (b8.drop _)) (by simp only [List.length_append, List.length_take, List.length_drop, List.length_map]; omega) (by rw [List.length_append]; omega) (by
    rw [b11, ← List.map_append]
    exact List.take_left' (by simp)) (by rw [List.length_append]; exact Wr1)
  exact g_areturnF W (D aa_44) hret rfl rfl (by decide) (by decide) (FF := [t']) (fun z hz => hz) ⟨_, rfl, t', cap', rfl, rfl, ht, hc', keep_two K1 hp.1 ht, hp.2⟩
theorem ac_0 : decode jdk_68_method_31_code 0 = .ok (.aload_n 0, 1) := by decide +kernel
theorem ac_1 : decode jdk_68_method_31_code 1 = .ok (.aload_n 0, 1) := by decide +kernel
theorem ac_2 : decode jdk_68_method_31_code 2 = .ok (.getfield 79, 3) := by decide +kernel
theorem ac_5 : decode jdk_68_method_31_code 5 = .ok (.iconst 1, 1) := by decide +kernel
theorem ac_6 : decode jdk_68_method_31_code 6 = .ok (.iadd, 1) := by decide +kernel
theorem ac_7 : decode jdk_68_method_31_code 7 = .ok (.invokevirtual 100, 3) := by decide +kernel
theorem ac_10 : decode jdk_68_method_31_code 10 = .ok (.aload_n 0, 1) := by decide +kernel
theorem ac_11 : decode jdk_68_method_31_code 11 = .ok (.invokevirtual 83, 3) := by decide +kernel
theorem ac_14 : decode jdk_68_method_31_code 14 = .ok (.ifCond .eq 31, 3) := by decide +kernel
theorem ac_17 : decode jdk_68_method_31_code 17 = .ok (.iload_n 1, 1) := by decide +kernel
theorem ac_18 : decode jdk_68_method_31_code 18 = .ok (.invokestatic 191, 3) := by decide +kernel
theorem ac_21 : decode jdk_68_method_31_code 21 = .ok (.ifCond .eq 24, 3) := by decide +kernel
theorem ac_24 : decode jdk_68_method_31_code 24 = .ok (.aload_n 0, 1) := by decide +kernel
theorem ac_25 : decode jdk_68_method_31_code 25 = .ok (.getfield 15, 3) := by decide +kernel
theorem ac_28 : decode jdk_68_method_31_code 28 = .ok (.aload_n 0, 1) := by decide +kernel
theorem ac_29 : decode jdk_68_method_31_code 29 = .ok (.dup, 1) := by decide +kernel
theorem ac_30 : decode jdk_68_method_31_code 30 = .ok (.getfield 79, 3) := by decide +kernel
theorem ac_33 : decode jdk_68_method_31_code 33 = .ok (.dup_x1, 1) := by decide +kernel
theorem ac_34 : decode jdk_68_method_31_code 34 = .ok (.iconst 1, 1) := by decide +kernel
theorem ac_35 : decode jdk_68_method_31_code 35 = .ok (.iadd, 1) := by decide +kernel
theorem ac_36 : decode jdk_68_method_31_code 36 = .ok (.putfield 79, 3) := by decide +kernel
theorem ac_39 : decode jdk_68_method_31_code 39 = .ok (.iload_n 1, 1) := by decide +kernel
theorem ac_40 : decode jdk_68_method_31_code 40 = .ok (.i2b, 1) := by decide +kernel
theorem ac_41 : decode jdk_68_method_31_code 41 = .ok (.bastore, 1) := by decide +kernel
theorem ac_42 : decode jdk_68_method_31_code 42 = .ok (.goto 33, 3) := by decide +kernel
theorem ac_45 : decode jdk_68_method_31_code 45 = .ok (.aload_n 0, 1) := by decide +kernel
theorem ac_46 : decode jdk_68_method_31_code 46 = .ok (.invokevirtual 83, 3) := by decide +kernel
theorem ac_49 : decode jdk_68_method_31_code 49 = .ok (.ifCond .eq 7, 3) := by decide +kernel
theorem ac_52 : decode jdk_68_method_31_code 52 = .ok (.aload_n 0, 1) := by decide +kernel
theorem ac_53 : decode jdk_68_method_31_code 53 = .ok (.invokevirtual 195, 3) := by decide +kernel
theorem ac_56 : decode jdk_68_method_31_code 56 = .ok (.aload_n 0, 1) := by decide +kernel
theorem ac_57 : decode jdk_68_method_31_code 57 = .ok (.getfield 15, 3) := by decide +kernel
theorem ac_60 : decode jdk_68_method_31_code 60 = .ok (.aload_n 0, 1) := by decide +kernel
theorem ac_61 : decode jdk_68_method_31_code 61 = .ok (.dup, 1) := by decide +kernel
theorem ac_62 : decode jdk_68_method_31_code 62 = .ok (.getfield 79, 3) := by decide +kernel
theorem ac_65 : decode jdk_68_method_31_code 65 = .ok (.dup_x1, 1) := by decide +kernel
theorem ac_66 : decode jdk_68_method_31_code 66 = .ok (.iconst 1, 1) := by decide +kernel
theorem ac_67 : decode jdk_68_method_31_code 67 = .ok (.iadd, 1) := by decide +kernel
theorem ac_68 : decode jdk_68_method_31_code 68 = .ok (.putfield 79, 3) := by decide +kernel
theorem ac_71 : decode jdk_68_method_31_code 71 = .ok (.iload_n 1, 1) := by decide +kernel
theorem ac_72 : decode jdk_68_method_31_code 72 = .ok (.invokestatic 197, 3) := by decide +kernel
theorem ac_75 : decode jdk_68_method_31_code 75 = .ok (.aload_n 0, 1) := by decide +kernel
theorem ac_76 : decode jdk_68_method_31_code 76 = .ok (.areturn, 1) := by decide +kernel
theorem efAc (m : MethodId) (x0 : Addr) (x1 : Int32) : entryFrame m #[.ref x0, .int x1] 2 = mkF m 0 #[.val (.ref x0), .val (.int x1)] [] := by first | (simp [entryFrame, mkF, argsToLocals, Value.category, maxLocals]; done) | rfl
set_option maxRecDepth 65536 in
set_option maxHeartbeats 4000000 in
theorem t_appendAC (l : Launch) {Z : State} {a0 : Array Value} {EL : List (String × Nat)} (hw : ∀ d ∈ tables_1, d.before a0 Z = true) (hEL : EW Z a0 EL) (cst : Cst Z) {h : Heap} (hO : Ext Z.heap h) {x t : Addr} {cap : Nat} {cs : List Int32} (B : Sbd Z h x t cap cs) {ch : Int32} (hch : Lc ch) (hc : cap ≤ 64) (hn : cs.length + 1 ≤ 32) :
    Met l Z EL [t] (⟨"java/lang/AbstractStringBuilder", "append", "(C)Ljava/lang/AbstractStringBuilder;"⟩ : MethodName) jdk_68_method_31_code 2 (some (.object AB)) { frames := 4, cells := 1, slots := 128, locals := 62 } #[.ref x, .int ch] h (RetF fun v h' FF => ∃ t' cap', FF = [t'] ∧ v = .ref x ∧ (t' = t ∨ h.size ≤ t') ∧ cap' ≤ 64 ∧ Keep h h' [x, t] ∧ Sbd Z h' x t' cap' (cs ++ [ch])) := by
  have n_value_coder : Jvm.RoadKit.slotOf Z AB "value" "[B" ≠ Jvm.RoadKit.slotOf Z AB "coder" "B" := slot_ne (C := SB) (Or.inl (hI hw 56 rfl)) (Or.inl (hI hw 58 rfl)) (by decide) (t := .array .byte) (t' := .byte) (by decide) (by decide)
  have n_value_count : Jvm.RoadKit.slotOf Z AB "value" "[B" ≠ Jvm.RoadKit.slotOf Z AB "count" "I" := slot_ne (C := SB) (Or.inl (hI hw 56 rfl)) (Or.inl (hI hw 86 rfl)) (by decide) (t := .array .byte) (t' := .int) (by decide) (by decide)
  have n_coder_count : Jvm.RoadKit.slotOf Z AB "coder" "B" ≠ Jvm.RoadKit.slotOf Z AB "count" "I" := slot_ne (C := SB) (Or.inl (hI hw 58 rfl)) (Or.inl (hI hw 86 rfl)) (by decide) (t := .byte) (t' := .int) (by decide) (by decide)
  have n_value_maybeLatin1 : Jvm.RoadKit.slotOf Z AB "value" "[B" ≠ Jvm.RoadKit.slotOf Z AB "maybeLatin1" "Z" := slot_ne (C := SB) (Or.inl (hI hw 56 rfl)) (Or.inl (hI hw 278 rfl)) (by decide) (t := .array .byte) (t' := .boolean) (by decide) (by decide)
  have n_coder_maybeLatin1 : Jvm.RoadKit.slotOf Z AB "coder" "B" ≠ Jvm.RoadKit.slotOf Z AB "maybeLatin1" "Z" := slot_ne (C := SB) (Or.inl (hI hw 58 rfl)) (Or.inl (hI hw 278 rfl)) (by decide) (t := .byte) (t' := .boolean) (by decide) (by decide)
  have n_count_maybeLatin1 : Jvm.RoadKit.slotOf Z AB "count" "I" ≠ Jvm.RoadKit.slotOf Z AB "maybeLatin1" "Z" := slot_ne (C := SB) (Or.inl (hI hw 86 rfl)) (Or.inl (hI hw 278 rfl)) (by decide) (t := .int) (t' := .boolean) (by decide) (by decide)
  refine Met.intro pnAB hEL hO ?_
  intro p e s m below meth c T W hby hml hret hnm
  have D : ∀ {pc : Nat} {r}, decode jdk_68_method_31_code pc = r → decode c.code pc = r := fun q => hb hby q
  refine Go.cast (efAc m x ch) ?_
  have B0 := B
  obtain ⟨b1, b2, b3, b4, b5, b6, bx, bs, b7, b8, b9, b10, b11⟩ := B
  refine g_aloadN W (pc' := 1) (D ac_0) rfl rfl (by first | rfl | assumption) ?_
  refine g_aloadN W (pc' := 2) (D ac_1) rfl rfl (by first | rfl | assumption) ?_
  refine g_getfield W (pc' := 5) (host := "") (Or.inl (hI hw 85 rfl)) Via.refl (b6) (D ac_2) rfl (fun T W => ?_)
  refine g_iconst W (pc' := 6) (D ac_5) rfl (v := (1 : Int32)) (by decide) ?_
  refine g_iadd W (pc' := 7) (D ac_6) rfl ?_
  have e1 : Int32.ofNat cs.length + 1 = Int32.ofNat (cs.length + 1) := by rw [Int32.ofNat_add]; rfl
  rw [e1]
  refine g_virtO W (t_ensure l hw hEL cst W.old B0 hc hn) (fun y q => q) ⟨_, _, rfl, (hI hw 156 rfl)⟩ (hI hw 153 rfl) (decl_of (hI hw 154 rfl) (hI hw 157 rfl)) (hI hw 156 rfl) (hI hw 154 rfl) (hI hw 51 rfl) (hI hw 157 rfl) (by decide) pd_12 (b3) (argsL := [_]) rfl rfl (pc' := 10) rfl (by rw [hml]; rfl) (D ac_7) rfl (Wn := 0) (Nat.le_refl _) (by decide) (by decide) (by decide) (by decide) (fun v T h1 FF W hg hQ => ?_)
  obtain ⟨rfl, t', cap', rfl, ht, hc', hn', K1, B1⟩ := hQ
  replace W := W.drop (F' := [t']) (fun z hz => List.mem_append.mpr (Or.inl hz))
  refine Go.cast (g' := mkF m 10 #[.val (.ref x), .val (.int ch)] []) rfl ?_
  have B2 := B1
  obtain ⟨b1, b2, b3, b4, b5, b6, bx, bs, b7, b8, b9, b10, b11⟩ := B1
  refine g_aloadN W (pc' := 11) (D ac_10) rfl rfl (by first | rfl | assumption) ?_
  refine g_virt W (t_isLatinA l hw hEL cst W.old B2) (fun x q => nomatch q) ⟨_, _, rfl, (hI hw 90 rfl)⟩ (hI hw 158 rfl) (hI hw 88 rfl) (hI hw 90 rfl) (hI hw 89 rfl) (hI hw 51 rfl) (hI hw 91 rfl) (by decide) pd_14 (b3) (argsL := []) rfl rfl (pc' := 14) rfl (by rw [hml]; rfl) (D ac_11) rfl (Wn := 0) (Nat.le_refl _) (by decide) (by decide) (by decide) (by decide) (fun v T h2 W hg hQ => ?_)
  obtain ⟨rfl, rfl⟩ := hQ
  refine g_ifeqN W (pc1 := 45) (pc2 := 17) (D ac_14) (by decide) (by decide) rfl (by decide) ?_
  refine g_iloadN W (pc' := 18) (D ac_17) rfl rfl ?_
  refine g_callS W (t_canEncode l hEL W.old hch) (fun x q => nomatch q) (hI hw 159 rfl) (hI hw 160 rfl) (hI hw 134 rfl) (hI hw 161 rfl) (by decide) pd_1 (argsL := [_]) rfl rfl (pc' := 21) rfl (by rw [hml]; rfl) (D ac_18) rfl (Wn := 0) (Nat.le_refl _) (by decide) (by decide) (by decide) (by decide) (fun v T h2 W hg hQ => ?_)
  obtain ⟨rfl, rfl⟩ := hQ
  refine g_ifeqN W (pc1 := 45) (pc2 := 24) (D ac_21) (by decide) (by decide) rfl (by decide) ?_
  refine g_aloadN W (pc' := 25) (D ac_24) rfl rfl (by first | rfl | assumption) ?_
  refine g_getfield W (pc' := 28) (host := "") (Or.inl (hI hw 55 rfl)) Via.refl (b4) (D ac_25) rfl (fun T W => ?_)
  refine g_aloadN W (pc' := 29) (D ac_28) rfl rfl (by first | rfl | assumption) ?_
  refine g_dup W (pc' := 30) (D ac_29) rfl rfl ?_
  refine g_getfield W (pc' := 33) (host := "") (Or.inl (hI hw 85 rfl)) Via.refl (b6) (D ac_30) rfl (fun T W => ?_)
  refine g_dup_x1 W (pc' := 34) (D ac_33) rfl rfl rfl ?_
  refine g_iconst W (pc' := 35) (D ac_34) rfl (v := (1 : Int32)) (by decide) ?_
  refine g_iadd W (pc' := 36) (D ac_35) rfl ?_
  rw [e1]
  refine g_putfield W (pc' := 39) (host := "") (Or.inl (hI hw 85 rfl)) Via.refl (b6) (b3) (Or.inl (hI hw 86 rfl)) (hI hw 31 rfl) (ty := .int) (by decide) rfl rfl (⟨b1, Or.inr (Or.inl ⟨SB, b3, by decide, by decide⟩)⟩) (D ac_36) rfl (fun T h2 W Wr1 => ?_)
  have A2 := b7.wr Wr1 (b7.neE b3 (hI hw 31 rfl))
  have ne : x ∉ [t'] := ninS (b7.neE b3 (hI hw 31 rfl)).symm nin0
  refine g_iloadN W (pc' := 40) (D ac_39) rfl rfl ?_
  refine g_i2b W (pc' := 41) (D ac_40) rfl ?_
  refine g_bastore W (pc' := 42) (A2) (b2) (List.mem_singleton.mpr rfl) (i := cs.length) (own_n0 (by omega)) (own_n32 (by omega)) (by omega) (D ac_41) rfl (fun T h3 W K3 A3 => ?_)
  have el : lo (ch.toInt8.toInt32) = lo ch := lo_lo ch
  rw [el] at A3
  refine g_goto W (pc' := 75) (D ac_42) (by decide) (by decide) ?_
  refine g_aloadN W (pc' := 76) (D ac_75) rfl rfl (by first | rfl | assumption) ?_
  have K2 : Keep h1 h3 [x, t'] := (own_grow (Keep.of_wr Wr1) (fun z hz => by cases List.mem_singleton.mp hz; exact List.mem_cons_self ..)).trans K3 (fun z hz => Or.inl (List.mem_cons_of_mem _ hz))
  refine g_areturnF W (D ac_76) hret rfl rfl (by decide) (by decide) (FF := [t']) (fun z hz => hz) ⟨_, rfl, t', cap', rfl, rfl, ht, hc', keep_two K1 K2 ht, b1, b2, (b3.wr Wr1).keep K3, (b4.other Wr1 (Or.inr n_value_count)).keep K3 ne, (b5.other Wr1 (Or.inr n_coder_count)).keep K3 ne, ?_, ⟨(bx.1.wr Wr1).keep K3, (bx.2.other Wr1 (Or.inr (Ne.symm n_count_maybeLatin1))).keep K3 ne⟩, bs.set cs.length (lo ch), A3, b8.set _ (fits_lo _), by rw [List.length_set]; exact b9, by simp only [List.length_append, List.length_cons, List.length_nil]; omega, ?_⟩
  · rw [List.length_append]; exact (b6.same Wr1).keep K3 ne
  · rw [List.length_append, List.length_cons, List.length_nil, take_set1 (by omega), b11]; simp
theorem baS_0 : decode jdk_67_method_7_code 0 = .ok (.aload_n 0, 1) := by decide +kernel
theorem baS_1 : decode jdk_67_method_7_code 1 = .ok (.aload_n 1, 1) := by decide +kernel
theorem baS_2 : decode jdk_67_method_7_code 2 = .ok (.invokespecial 29, 3) := by decide +kernel
theorem baS_5 : decode jdk_67_method_7_code 5 = .ok (.pop, 1) := by decide +kernel
theorem baS_6 : decode jdk_67_method_7_code 6 = .ok (.aload_n 0, 1) := by decide +kernel
theorem baS_7 : decode jdk_67_method_7_code 7 = .ok (.areturn, 1) := by decide +kernel
theorem efBaS (m : MethodId) (x0 : Addr) (x1 : Addr) : entryFrame m #[.ref x0, .ref x1] 2 = mkF m 0 #[.val (.ref x0), .val (.ref x1)] [] := by first | (simp [entryFrame, mkF, argsToLocals, Value.category, maxLocals]; done) | rfl
set_option maxRecDepth 65536 in
set_option maxHeartbeats 4000000 in
theorem t_append (l : Launch) {Z : State} {a0 : Array Value} {EL : List (String × Nat)} (hw : ∀ d ∈ tables_1, d.before a0 Z = true) (hEL : EW Z a0 EL) (cst : Cst Z) {h : Heap} (hO : Ext Z.heap h) {x t : Addr} {cap : Nat} {cs : List Int32} (B : Sbd Z h x t cap cs) {y : Addr} {ds : List Int32} (S : Str Z h y ds) (hc : cap ≤ 64) (hn : cs.length + ds.length ≤ 32) :
    Met l Z EL [t] (⟨"java/lang/StringBuilder", "append", "(Ljava/lang/String;)Ljava/lang/StringBuilder;"⟩ : MethodName) jdk_67_method_7_code 2 (some (.object SB)) { frames := 5, cells := 1, slots := 128, locals := 76 } #[.ref x, .ref y] h (RetF fun v h' FF => ∃ t' cap', FF = [t'] ∧ v = .ref x ∧ (t' = t ∨ h.size ≤ t') ∧ cap' ≤ 64 ∧ Keep h h' [x, t] ∧ Sbd Z h' x t' cap' (cs ++ ds)) := by
  refine Met.intro pnSB hEL hO ?_
  intro p e s m below meth c T W hby hml hret hnm
  have D : ∀ {pc : Nat} {r}, decode jdk_67_method_7_code pc = r → decode c.code pc = r := fun q => hb hby q
  refine Go.cast (efBaS m x y) ?_
  refine g_aloadN W (pc' := 1) (D baS_0) rfl rfl (by first | rfl | assumption) ?_
  refine g_aloadN W (pc' := 2) (D baS_1) rfl rfl (by first | rfl | assumption) ?_
  refine g_superF W (t_appendA l hw hEL cst W.old B S hc hn) (fun y q => q) (hI hw 168 rfl) (hI hw 169 rfl) (hI hw 83 rfl) (hI hw 51 rfl) (hI hw 171 rfl) (by decide) (by decide) pd_15 (⟨"java/lang/StringBuilder", ⟨"java/lang/AbstractStringBuilder", "getValue", "()[B"⟩, rfl, (hI hw 74 rfl)⟩) (Ins.self B.2.2.1) (argsL := [_]) rfl rfl (pc' := 5) rfl (by rw [hml]; rfl) (D baS_2) rfl (Wn := 0) (Nat.le_refl _) (by decide) (by decide) (by decide) (by decide) (fun v T h1 FF W hg hQ => ?_)
  obtain ⟨t', cap', rfl, rfl, hQ⟩ := hQ
  refine g_pop W (pc' := 6) (D baS_5) rfl rfl ?_
  refine g_aloadN W (pc' := 7) (D baS_6) rfl rfl (by first | rfl | assumption) ?_
  exact g_areturnF W (D baS_7) hret rfl rfl (by decide) (by decide) (FF := [t']) (fun z hz => List.mem_append.mpr (Or.inl hz)) ⟨_, rfl, t', cap', rfl, rfl, hQ⟩
theorem baC_0 : decode jdk_67_method_14_code 0 = .ok (.aload_n 0, 1) := by decide +kernel
theorem baC_1 : decode jdk_67_method_14_code 1 = .ok (.iload_n 1, 1) := by decide +kernel
theorem baC_2 : decode jdk_67_method_14_code 2 = .ok (.invokespecial 50, 3) := by decide +kernel
theorem baC_5 : decode jdk_67_method_14_code 5 = .ok (.pop, 1) := by decide +kernel
theorem baC_6 : decode jdk_67_method_14_code 6 = .ok (.aload_n 0, 1) := by decide +kernel
theorem baC_7 : decode jdk_67_method_14_code 7 = .ok (.areturn, 1) := by decide +kernel
theorem efBaC (m : MethodId) (x0 : Addr) (x1 : Int32) : entryFrame m #[.ref x0, .int x1] 2 = mkF m 0 #[.val (.ref x0), .val (.int x1)] [] := by first | (simp [entryFrame, mkF, argsToLocals, Value.category, maxLocals]; done) | rfl
set_option maxRecDepth 65536 in
set_option maxHeartbeats 4000000 in
theorem t_appendC (l : Launch) {Z : State} {a0 : Array Value} {EL : List (String × Nat)} (hw : ∀ d ∈ tables_1, d.before a0 Z = true) (hEL : EW Z a0 EL) (cst : Cst Z) {h : Heap} (hO : Ext Z.heap h) {x t : Addr} {cap : Nat} {cs : List Int32} (B : Sbd Z h x t cap cs) {ch : Int32} (hch : Lc ch) (hc : cap ≤ 64) (hn : cs.length + 1 ≤ 32) :
    Met l Z EL [t] (⟨"java/lang/StringBuilder", "append", "(C)Ljava/lang/StringBuilder;"⟩ : MethodName) jdk_67_method_14_code 2 (some (.object SB)) { frames := 5, cells := 1, slots := 128, locals := 76 } #[.ref x, .int ch] h (RetF fun v h' FF => ∃ t' cap', FF = [t'] ∧ v = .ref x ∧ (t' = t ∨ h.size ≤ t') ∧ cap' ≤ 64 ∧ Keep h h' [x, t] ∧ Sbd Z h' x t' cap' (cs ++ [ch])) := by
  refine Met.intro pnSB hEL hO ?_
  intro p e s m below meth c T W hby hml hret hnm
  have D : ∀ {pc : Nat} {r}, decode jdk_67_method_14_code pc = r → decode c.code pc = r := fun q => hb hby q
  refine Go.cast (efBaC m x ch) ?_
  refine g_aloadN W (pc' := 1) (D baC_0) rfl rfl (by first | rfl | assumption) ?_
  refine g_iloadN W (pc' := 2) (D baC_1) rfl rfl ?_
  refine g_superF W (t_appendAC l hw hEL cst W.old B hch hc hn) (fun y q => q) (hI hw 149 rfl) (hI hw 150 rfl) (hI hw 83 rfl) (hI hw 51 rfl) (hI hw 152 rfl) (by decide) (by decide) pd_16 (⟨"java/lang/StringBuilder", ⟨"java/lang/AbstractStringBuilder", "getValue", "()[B"⟩, rfl, (hI hw 74 rfl)⟩) (Ins.self B.2.2.1) (argsL := [_]) rfl rfl (pc' := 5) rfl (by rw [hml]; rfl) (D baC_2) rfl (Wn := 0) (Nat.le_refl _) (by decide) (by decide) (by decide) (by decide) (fun v T h1 FF W hg hQ => ?_)
  obtain ⟨t', cap', rfl, rfl, hQ⟩ := hQ
  refine g_pop W (pc' := 6) (D baC_5) rfl rfl ?_
  refine g_aloadN W (pc' := 7) (D baC_6) rfl rfl (by first | rfl | assumption) ?_
  exact g_areturnF W (D baC_7) hret rfl rfl (by decide) (by decide) (FF := [t']) (fun z hz => List.mem_append.mpr (Or.inl hz)) ⟨_, rfl, t', cap', rfl, rfl, hQ⟩
theorem ia_0 : decode jdk_68_method_2_code 0 = .ok (.aload_n 0, 1) := by decide +kernel
theorem ia_1 : decode jdk_68_method_2_code 1 = .ok (.invokespecial 3, 3) := by decide +kernel
theorem ia_4 : decode jdk_68_method_2_code 4 = .ok (.getstatic 18, 3) := by decide +kernel
theorem ia_7 : decode jdk_68_method_2_code 7 = .ok (.ifCond .eq 18, 3) := by decide +kernel
theorem ia_10 : decode jdk_68_method_2_code 10 = .ok (.aload_n 0, 1) := by decide +kernel
theorem ia_11 : decode jdk_68_method_2_code 11 = .ok (.iload_n 1, 1) := by decide +kernel
theorem ia_12 : decode jdk_68_method_2_code 12 = .ok (.newarray .byte, 2) := by decide +kernel
theorem ia_14 : decode jdk_68_method_2_code 14 = .ok (.putfield 15, 3) := by decide +kernel
theorem ia_17 : decode jdk_68_method_2_code 17 = .ok (.aload_n 0, 1) := by decide +kernel
theorem ia_18 : decode jdk_68_method_2_code 18 = .ok (.iconst 0, 1) := by decide +kernel
theorem ia_19 : decode jdk_68_method_2_code 19 = .ok (.putfield 22, 3) := by decide +kernel
theorem ia_22 : decode jdk_68_method_2_code 22 = .ok (.goto 16, 3) := by decide +kernel
theorem ia_38 : decode jdk_68_method_2_code 38 = .ok (.return_, 1) := by decide +kernel
theorem efIa (m : MethodId) (x0 : Addr) (x1 : Int32) : entryFrame m #[.ref x0, .int x1] 2 = mkF m 0 #[.val (.ref x0), .val (.int x1)] [] := by first | (simp [entryFrame, mkF, argsToLocals, Value.category, maxLocals]; done) | rfl
set_option maxRecDepth 65536 in
set_option maxHeartbeats 4000000 in
theorem t_initA (l : Launch) {Z : State} {a0 : Array Value} {EL : List (String × Nat)} (hw : ∀ d ∈ tables_1, d.before a0 Z = true) (hEL : EW Z a0 EL) (cst : Cst Z) {h : Heap} (hO : Ext Z.heap h) {x : Addr} (hx : Z.heap.size ≤ x) (EX : Exa Z h x SB) {u0 u1 : Value} (f0 : Fld Z h x AB "value" "[B" u0) (f1 : Fld Z h x AB "coder" "B" u1) (f2 : Fld Z h x AB "count" "I" (.int 0)) (f3 : Fld Z h x AB "maybeLatin1" "Z" (.int 0)) {n : Nat} (hn : n ≤ 16) :
    Met l Z EL [] (⟨"java/lang/AbstractStringBuilder", "<init>", "(I)V"⟩ : MethodName) jdk_68_method_2_code 2 none { frames := 1, cells := 1, slots := 16, locals := 12 } #[.ref x, .int (Int32.ofNat n)] h (VoidF fun h' FF => ∃ t, FF = [t] ∧ h.size ≤ t ∧ Keep h h' [x] ∧ Sbd Z h' x t n []) := by
  have n_value_coder : Jvm.RoadKit.slotOf Z AB "value" "[B" ≠ Jvm.RoadKit.slotOf Z AB "coder" "B" := slot_ne (C := SB) (Or.inl (hI hw 56 rfl)) (Or.inl (hI hw 58 rfl)) (by decide) (t := .array .byte) (t' := .byte) (by decide) (by decide)
  have n_value_count : Jvm.RoadKit.slotOf Z AB "value" "[B" ≠ Jvm.RoadKit.slotOf Z AB "count" "I" := slot_ne (C := SB) (Or.inl (hI hw 56 rfl)) (Or.inl (hI hw 86 rfl)) (by decide) (t := .array .byte) (t' := .int) (by decide) (by decide)
  have n_coder_count : Jvm.RoadKit.slotOf Z AB "coder" "B" ≠ Jvm.RoadKit.slotOf Z AB "count" "I" := slot_ne (C := SB) (Or.inl (hI hw 58 rfl)) (Or.inl (hI hw 86 rfl)) (by decide) (t := .byte) (t' := .int) (by decide) (by decide)
  have n_value_maybeLatin1 : Jvm.RoadKit.slotOf Z AB "value" "[B" ≠ Jvm.RoadKit.slotOf Z AB "maybeLatin1" "Z" := slot_ne (C := SB) (Or.inl (hI hw 56 rfl)) (Or.inl (hI hw 278 rfl)) (by decide) (t := .array .byte) (t' := .boolean) (by decide) (by decide)
  have n_coder_maybeLatin1 : Jvm.RoadKit.slotOf Z AB "coder" "B" ≠ Jvm.RoadKit.slotOf Z AB "maybeLatin1" "Z" := slot_ne (C := SB) (Or.inl (hI hw 58 rfl)) (Or.inl (hI hw 278 rfl)) (by decide) (t := .byte) (t' := .boolean) (by decide) (by decide)
  have n_count_maybeLatin1 : Jvm.RoadKit.slotOf Z AB "count" "I" ≠ Jvm.RoadKit.slotOf Z AB "maybeLatin1" "Z" := slot_ne (C := SB) (Or.inl (hI hw 86 rfl)) (Or.inl (hI hw 278 rfl)) (by decide) (t := .int) (t' := .boolean) (by decide) (by decide)
  refine Met.intro pnAB hEL hO ?_
  intro p e s m below meth c T W hby hml hret hnm
  have D : ∀ {pc : Nat} {r}, decode jdk_68_method_2_code pc = r → decode c.code pc = r := fun q => hb hby q
  refine Go.cast (efIa m x (Int32.ofNat n)) ?_
  obtain ⟨zc, Sc, hzc⟩ := cst
  refine g_aloadN W (pc' := 1) (D ia_0) rfl rfl (by first | rfl | assumption) ?_
  refine g_initO W (pc' := 4) (hI hw 53 rfl) (hI hw 16 rfl) (hI hw 17 rfl) (by rw [hml]; rfl) (D ia_1) rfl (by decide) (Wn := 0) (Nat.le_refl _) (by decide) (fun T W => ?_)
  refine g_getstatic W (pc' := 7) (host := "") (Or.inl (hI hw 54 rfl)) Via.refl (Sc.ext W.old) (D ia_4) rfl (fun T W => ?_)
  refine g_ifeqN W (pc1 := 25) (pc2 := 10) (D ia_7) (by decide) (by decide) rfl (hzc) ?_
  refine g_aloadN W (pc' := 11) (D ia_10) rfl rfl (by first | rfl | assumption) ?_
  refine g_iloadN W (pc' := 12) (D ia_11) rfl rfl ?_
  refine g_newarrayB W (pc' := 14) (i := n) (own_n0 (by omega)) (own_n32 (by omega)) (hI hw 19 rfl) (D ia_12) rfl (cap := 16) hn (by decide) (by decide) (by decide) (fun t T h1 ht W E1 A => ?_)
  obtain ⟨A, bx⟩ := A
  replace EX := EX.ext E1
  replace f0 := f0.ext E1
  replace f1 := f1.ext E1
  replace f2 := f2.ext E1
  refine g_putfield W (pc' := 17) (host := "") (Or.inl (hI hw 55 rfl)) Via.refl (f0) (EX) (Or.inl (hI hw 56 rfl)) (hI hw 31 rfl) (ty := (.array .byte)) (by decide) rfl rfl (⟨hx, Or.inr (Or.inl ⟨SB, EX, by decide, by decide⟩)⟩) (D ia_14) rfl (fun T h2 W Wr1 => ?_)
  have A2 := A.wr Wr1 (A.neE EX (hI hw 31 rfl))
  replace f0 := f0.same Wr1
  replace f1 := f1.other Wr1 (Or.inr (Ne.symm n_value_coder))
  replace f2 := f2.other Wr1 (Or.inr (Ne.symm n_value_count))
  replace EX := EX.wr Wr1
  refine g_aloadN W (pc' := 18) (D ia_17) rfl rfl (by first | rfl | assumption) ?_
  refine g_iconst W (pc' := 19) (D ia_18) rfl (v := (0 : Int32)) (by decide) ?_
  refine g_putfield W (pc' := 22) (host := "") (Or.inl (hI hw 57 rfl)) Via.refl (f1) (EX) (Or.inl (hI hw 58 rfl)) (hI hw 31 rfl) (ty := .byte) (by decide) rfl rfl (⟨hx, Or.inr (Or.inl ⟨SB, EX, by decide, by decide⟩)⟩) (D ia_19) rfl (fun T h3 W Wr2 => ?_)
  have A3 := A2.wr Wr2 (A2.neE EX (hI hw 31 rfl))
  replace f1 := f1.same Wr2
  replace f0 := f0.other Wr2 (Or.inr n_value_coder)
  replace f2 := f2.other Wr2 (Or.inr (Ne.symm n_coder_count))
  replace EX := EX.wr Wr2
  have KK : Keep h h3 [x] := ((ext_keep E1 [x]).wr Wr1 (Or.inl (List.mem_singleton.mpr rfl))).wr Wr2 (Or.inl (List.mem_singleton.mpr rfl))
  refine g_goto W (pc' := 38) (D ia_22) (by decide) (by decide) ?_
  exact g_returnF W (D ia_38) hret (by decide) (by decide) (FF := [t]) (fun z hz => List.mem_cons.mpr (Or.inl (List.mem_singleton.mp hz))) ⟨rfl, t, rfl, ht, KK, hx, Nat.le_trans hO.1 ht, EX, f0, f1, f2, ⟨(bx.wr Wr1).wr Wr2, ((f3.ext E1).other Wr1 (Or.inr (Ne.symm n_value_maybeLatin1))).other Wr2 (Or.inr (Ne.symm n_coder_maybeLatin1))⟩, List.replicate n 0, A3, Bys.rep n, by simp, by simp, by simp⟩
theorem ibi_0 : decode jdk_67_method_2_code 0 = .ok (.aload_n 0, 1) := by decide +kernel
theorem ibi_1 : decode jdk_67_method_2_code 1 = .ok (.iload_n 1, 1) := by decide +kernel
theorem ibi_2 : decode jdk_67_method_2_code 2 = .ok (.invokespecial 1, 3) := by decide +kernel
theorem ibi_5 : decode jdk_67_method_2_code 5 = .ok (.return_, 1) := by decide +kernel
theorem efIbi (m : MethodId) (x0 : Addr) (x1 : Int32) : entryFrame m #[.ref x0, .int x1] 2 = mkF m 0 #[.val (.ref x0), .val (.int x1)] [] := by first | (simp [entryFrame, mkF, argsToLocals, Value.category, maxLocals]; done) | rfl
set_option maxRecDepth 65536 in
set_option maxHeartbeats 4000000 in
theorem t_initBI (l : Launch) {Z : State} {a0 : Array Value} {EL : List (String × Nat)} (hw : ∀ d ∈ tables_1, d.before a0 Z = true) (hEL : EW Z a0 EL) (cst : Cst Z) {h : Heap} (hO : Ext Z.heap h) {x : Addr} (hx : Z.heap.size ≤ x) (EX : Exa Z h x SB) {u0 u1 : Value} (f0 : Fld Z h x AB "value" "[B" u0) (f1 : Fld Z h x AB "coder" "B" u1) (f2 : Fld Z h x AB "count" "I" (.int 0)) (f3 : Fld Z h x AB "maybeLatin1" "Z" (.int 0)) {n : Nat} (hn : n ≤ 16) :
    Met l Z EL [] (⟨"java/lang/StringBuilder", "<init>", "(I)V"⟩ : MethodName) jdk_67_method_2_code 2 none { frames := 2, cells := 1, slots := 16, locals := 26 } #[.ref x, .int (Int32.ofNat n)] h (VoidF fun h' FF => ∃ t, FF = [t] ∧ h.size ≤ t ∧ Keep h h' [x] ∧ Sbd Z h' x t n []) := by
  refine Met.intro pnSB hEL hO ?_
  intro p e s m below meth c T W hby hml hret hnm
  have D : ∀ {pc : Nat} {r}, decode jdk_67_method_2_code pc = r → decode c.code pc = r := fun q => hb hby q
  refine Go.cast (efIbi m x (Int32.ofNat n)) ?_
  refine g_aloadN W (pc' := 1) (D ibi_0) rfl rfl (by first | rfl | assumption) ?_
  refine g_iloadN W (pc' := 2) (D ibi_1) rfl rfl ?_
  refine g_specF W (t_initA l hw hEL cst W.old hx EX f0 f1 f2 f3 hn) (fun x q => nomatch q) rfl (hI hw 47 rfl) (hI hw 48 rfl) (hI hw 51 rfl) (hI hw 52 rfl) (by decide) pd_12 (argsL := [_]) rfl rfl (pc' := 5) rfl (by rw [hml]; rfl) (D ibi_2) rfl (Wn := 0) (Nat.le_refl _) (by decide) (by decide) (by decide) (by decide) (fun T h1 FF W hg hQ => ?_)
  exact g_returnF W (D ibi_5) hret (by decide) (by decide) (FF := FF) (fun z hz => List.mem_append.mpr (Or.inl hz)) ⟨rfl, hQ⟩
theorem cl_0 : decode jdk_65_method_131_code 0 = .ok (.iload_n 1, 1) := by decide +kernel
theorem cl_1 : decode jdk_65_method_131_code 1 = .ok (.iload_n 0, 1) := by decide +kernel
theorem cl_2 : decode jdk_65_method_131_code 2 = .ok (.if_icmp .ge 35, 3) := by decide +kernel
theorem cl_37 : decode jdk_65_method_131_code 37 = .ok (.return_, 1) := by decide +kernel
theorem efCl (m : MethodId) (x0 : Int32) (x1 : Int32) : entryFrame m #[.int x0, .int x1] 2 = mkF m 0 #[.val (.int x0), .val (.int x1)] [] := by first | (simp [entryFrame, mkF, argsToLocals, Value.category, maxLocals]; done) | rfl
set_option maxRecDepth 65536 in
set_option maxHeartbeats 4000000 in
theorem t_checkLen (l : Launch) {Z : State} {a0 : Array Value} {EL : List (String × Nat)} (hw : ∀ d ∈ tables_1, d.before a0 Z = true) (hEL : EW Z a0 EL) (cst : Cst Z) {h : Heap} (hO : Ext Z.heap h) {k : Nat} (hk : k < 2 ^ 31) :
    Met l Z EL [] (⟨"java/util/Arrays", "checkLength", "(II)V"⟩ : MethodName) jdk_65_method_131_code 2 none { frames := 0, cells := 0, slots := 0, locals := 0 } #[.int 0, .int (Int32.ofNat k)] h (Void fun h' => h = h') := by
  refine Met.intro pnAr hEL hO ?_
  intro p e s m below meth c T W hby hml hret hnm
  have D : ∀ {pc : Nat} {r}, decode jdk_65_method_131_code pc = r → decode c.code pc = r := fun q => hb hby q
  refine Go.cast (efCl m 0 (Int32.ofNat k)) ?_
  refine g_iloadN W (pc' := 1) (D cl_0) rfl rfl ?_
  refine g_iloadN W (pc' := 2) (D cl_1) rfl rfl ?_
  refine g_icmpgeY W (pc1 := 37) (pc2 := 5) (D cl_2) (by decide) (by decide) rfl (own_n0 hk) ?_
  exact g_return W (D cl_37) hret (by decide) (by decide) ⟨rfl, rfl⟩
theorem cb_0 : decode jdk_65_method_133_code 0 = .ok (.iload_n 1, 1) := by decide +kernel
theorem cb_1 : decode jdk_65_method_133_code 1 = .ok (.iload_n 2, 1) := by decide +kernel
theorem cb_2 : decode jdk_65_method_133_code 2 = .ok (.invokestatic 343, 3) := by decide +kernel
theorem cb_5 : decode jdk_65_method_133_code 5 = .ok (.iload_n 2, 1) := by decide +kernel
theorem cb_6 : decode jdk_65_method_133_code 6 = .ok (.iload_n 1, 1) := by decide +kernel
theorem cb_7 : decode jdk_65_method_133_code 7 = .ok (.isub, 1) := by decide +kernel
theorem cb_8 : decode jdk_65_method_133_code 8 = .ok (.istore_n 3, 1) := by decide +kernel
theorem cb_9 : decode jdk_65_method_133_code 9 = .ok (.iload_n 3, 1) := by decide +kernel
theorem cb_10 : decode jdk_65_method_133_code 10 = .ok (.newarray .byte, 2) := by decide +kernel
theorem cb_12 : decode jdk_65_method_133_code 12 = .ok (.astore 4, 2) := by decide +kernel
theorem cb_14 : decode jdk_65_method_133_code 14 = .ok (.aload_n 0, 1) := by decide +kernel
theorem cb_15 : decode jdk_65_method_133_code 15 = .ok (.iload_n 1, 1) := by decide +kernel
theorem cb_16 : decode jdk_65_method_133_code 16 = .ok (.aload 4, 2) := by decide +kernel
theorem cb_18 : decode jdk_65_method_133_code 18 = .ok (.iconst 0, 1) := by decide +kernel
theorem cb_19 : decode jdk_65_method_133_code 19 = .ok (.aload_n 0, 1) := by decide +kernel
theorem cb_20 : decode jdk_65_method_133_code 20 = .ok (.arraylength, 1) := by decide +kernel
theorem cb_21 : decode jdk_65_method_133_code 21 = .ok (.iload_n 1, 1) := by decide +kernel
theorem cb_22 : decode jdk_65_method_133_code 22 = .ok (.isub, 1) := by decide +kernel
theorem cb_23 : decode jdk_65_method_133_code 23 = .ok (.iload_n 3, 1) := by decide +kernel
theorem cb_24 : decode jdk_65_method_133_code 24 = .ok (.invokestatic 304, 3) := by decide +kernel
theorem cb_27 : decode jdk_65_method_133_code 27 = .ok (.invokestatic 150, 3) := by decide +kernel
theorem cb_30 : decode jdk_65_method_133_code 30 = .ok (.aload 4, 2) := by decide +kernel
theorem cb_32 : decode jdk_65_method_133_code 32 = .ok (.areturn, 1) := by decide +kernel
theorem efCb (m : MethodId) (x0 : Addr) (x1 : Int32) (x2 : Int32) : entryFrame m #[.ref x0, .int x1, .int x2] 5 = mkF m 0 #[.val (.ref x0), .val (.int x1), .val (.int x2), .unset, .unset] [] := by first | (simp [entryFrame, mkF, argsToLocals, Value.category, maxLocals]; done) | rfl
set_option maxRecDepth 65536 in
set_option maxHeartbeats 4000000 in
theorem t_copyRB (l : Launch) {Z : State} {a0 : Array Value} {EL : List (String × Nat)} (hw : ∀ d ∈ tables_1, d.before a0 Z = true) (hEL : EW Z a0 EL) (cst : Cst Z) {h : Heap} (hO : Ext Z.heap h) {a : Addr} {bs : List Int32} (A : Ali Z h a .byte (bs.map Value.int)) (hB : Bys bs) {k : Nat} (hk : k ≤ bs.length) (hk2 : k ≤ 64) :
    Met l Z EL [] (⟨"java/util/Arrays", "copyOfRangeByte", "([BII)[B"⟩ : MethodName) jdk_65_method_133_code 5 (some (.array .byte)) { frames := 1, cells := 1, slots := 64, locals := 18 } #[.ref a, .int 0, .int (Int32.ofNat k)] h (Ret fun v h' => ∃ b, v = .ref b ∧ h.size ≤ b ∧ Ext h h' ∧ Ali Z h' b .byte ((bs.take k).map Value.int)) := by
  refine Met.intro pnAr hEL hO ?_
  intro p e s m below meth c T W hby hml hret hnm
  have D : ∀ {pc : Nat} {r}, decode jdk_65_method_133_code pc = r → decode c.code pc = r := fun q => hb hby q
  refine Go.cast (efCb m a 0 (Int32.ofNat k)) ?_
  have l31 : bs.length < 2 ^ 31 := by obtain ⟨_, _, _, q⟩ := A; simpa using q
  refine g_iloadN W (pc' := 1) (D cb_0) rfl rfl ?_
  refine g_iloadN W (pc' := 2) (D cb_1) rfl rfl ?_
  refine g_callSV W (t_checkLen l hw hEL cst W.old (k := k) (by omega)) (fun x q => nomatch q) (hI hw 219 rfl) (hI hw 220 rfl) (hI hw 94 rfl) (hI hw 221 rfl) (by decide) pd_17 (argsL := [_, _]) rfl rfl (pc' := 5) rfl (by rw [hml]; rfl) (D cb_2) rfl (Wn := 0) (Nat.le_refl _) (by decide) (by decide) (by decide) (by decide) (fun T h1 W hg hQ => ?_)
  subst hQ
  refine g_iloadN W (pc' := 6) (D cb_5) rfl rfl ?_
  refine g_iloadN W (pc' := 7) (D cb_6) rfl rfl ?_
  refine g_isub W (pc' := 8) (D cb_7) rfl ?_
  have z0 : Int32.ofNat k - 0 = Int32.ofNat k := by simp
  rw [z0]
  refine g_istoreN W (pc' := 9) (D cb_8) rfl (ls' := #[_, _, _, _, _]) rfl ?_
  refine g_iloadN W (pc' := 10) (D cb_9) rfl rfl ?_
  refine g_newarray W (pc' := 12) (ty := .byte) rfl (i := k) (own_n0 (by omega)) (own_n32 (by omega)) (hI hw 19 rfl) (D cb_10) rfl (cap := 64) hk2 (by decide) (by decide) (by decide) (fun b T h1 hb W E1 Ab => ?_)
  replace Ab : Ali Z h1 b .byte ((List.replicate k (0 : Int32)).map Value.int) := by rw [List.map_replicate]; exact Ab
  refine g_astore W (pc' := 14) (D cb_12) rfl (by first | rfl | assumption) (ls' := #[_, _, _, _, _]) rfl ?_
  refine g_aloadN W (pc' := 15) (D cb_14) rfl rfl (by first | rfl | assumption) ?_
  refine g_iloadN W (pc' := 16) (D cb_15) rfl rfl ?_
  refine g_aload W (pc' := 18) (D cb_16) rfl rfl (by first | rfl | assumption) ?_
  refine g_iconst W (pc' := 19) (D cb_18) rfl (v := (0 : Int32)) (by decide) ?_
  refine g_aloadN W (pc' := 20) (D cb_19) rfl rfl (by first | rfl | assumption) ?_
  refine g_arraylength W (pc' := 21) (A.ext E1) (z := Int32.ofNat bs.length) (by simp) (D cb_20) rfl ?_
  refine g_iloadN W (pc' := 22) (D cb_21) rfl rfl ?_
  refine g_isub W (pc' := 23) (D cb_22) rfl ?_
  have z1 : Int32.ofNat bs.length - 0 = Int32.ofNat bs.length := by simp
  rw [z1]
  refine g_iloadN W (pc' := 24) (D cb_23) rfl rfl ?_
  refine g_callS W (t_min l hw hEL cst W.old (n := bs.length) (k := k) (by omega) l31) (fun x q => nomatch q) (hI hw 191 rfl) (hI hw 192 rfl) (hI hw 184 rfl) (hI hw 193 rfl) (by decide) pd_5 (argsL := [_, _]) rfl rfl (pc' := 27) rfl (by rw [hml]; rfl) (D cb_24) rfl (Wn := 4) (Nat.le_refl _) (by decide) (by decide) (by decide) (by decide) (fun v T h2 W hg hQ => ?_)
  obtain ⟨rfl, rfl⟩ := hQ
  rw [Nat.min_eq_right hk]
  refine g_arraycopy W (pc' := 30) (A.ext E1) Ab hB (Bys.rep k) (Nat.le_trans hO.1 hb) (List.mem_cons_self ..) (hI hw 194 rfl) (hI hw 197 rfl) (hI hw 195 rfl) (hI hw 196 rfl) (i := 0) (j := 0) (t := k) (by decide) (by decide) (own_n0 (by omega)) (by decide) (by decide) (own_n32 (by omega)) (by omega) (by simp) (by rw [hml]; rfl) (D cb_27) rfl (by decide) (Wn := 0) (Nat.le_refl _) (by decide) (fun T h2 W Kp A2 => ?_)
  refine g_aload W (pc' := 32) (D cb_30) rfl rfl (by first | rfl | assumption) ?_
  refine g_areturn W (D cb_32) hret rfl rfl (by decide) (by decide) ⟨_, rfl, b, rfl, hb, keep_ext ((ext_keep E1 []).trans Kp (own_new hb)), ?_⟩
  simpa using A2
theorem cr_0 : decode jdk_65_method_132_code 0 = .ok (.iload_n 1, 1) := by decide +kernel
theorem cr_1 : decode jdk_65_method_132_code 1 = .ok (.ifCond .ne 9, 3) := by decide +kernel
theorem cr_4 : decode jdk_65_method_132_code 4 = .ok (.iload_n 2, 1) := by decide +kernel
theorem cr_5 : decode jdk_65_method_132_code 5 = .ok (.aload_n 0, 1) := by decide +kernel
theorem cr_6 : decode jdk_65_method_132_code 6 = .ok (.arraylength, 1) := by decide +kernel
theorem cr_7 : decode jdk_65_method_132_code 7 = .ok (.if_icmp .eq 10, 3) := by decide +kernel
theorem cr_10 : decode jdk_65_method_132_code 10 = .ok (.aload_n 0, 1) := by decide +kernel
theorem cr_11 : decode jdk_65_method_132_code 11 = .ok (.iload_n 1, 1) := by decide +kernel
theorem cr_12 : decode jdk_65_method_132_code 12 = .ok (.iload_n 2, 1) := by decide +kernel
theorem cr_13 : decode jdk_65_method_132_code 13 = .ok (.invokestatic 339, 3) := by decide +kernel
theorem cr_16 : decode jdk_65_method_132_code 16 = .ok (.areturn, 1) := by decide +kernel
theorem cr_17 : decode jdk_65_method_132_code 17 = .ok (.aload_n 0, 1) := by decide +kernel
theorem cr_18 : decode jdk_65_method_132_code 18 = .ok (.invokevirtual 310, 3) := by decide +kernel
theorem cr_21 : decode jdk_65_method_132_code 21 = .ok (.checkcast 311, 3) := by decide +kernel
theorem cr_24 : decode jdk_65_method_132_code 24 = .ok (.areturn, 1) := by decide +kernel
theorem efCr (m : MethodId) (x0 : Addr) (x1 : Int32) (x2 : Int32) : entryFrame m #[.ref x0, .int x1, .int x2] 3 = mkF m 0 #[.val (.ref x0), .val (.int x1), .val (.int x2)] [] := by first | (simp [entryFrame, mkF, argsToLocals, Value.category, maxLocals]; done) | rfl
set_option maxRecDepth 65536 in
set_option maxHeartbeats 4000000 in
theorem t_copyR (l : Launch) {Z : State} {a0 : Array Value} {EL : List (String × Nat)} (hw : ∀ d ∈ tables_1, d.before a0 Z = true) (hEL : EW Z a0 EL) (cst : Cst Z) {h : Heap} (hO : Ext Z.heap h) {a : Addr} {bs : List Int32} (A : Ali Z h a .byte (bs.map Value.int)) (hB : Bys bs) {k : Nat} (hk : k ≤ bs.length) (hk2 : k ≤ 64) (EA : Exa Z h a "[B") :
    Met l Z EL [] (⟨"java/util/Arrays", "copyOfRange", "([BII)[B"⟩ : MethodName) jdk_65_method_132_code 3 (some (.array .byte)) { frames := 2, cells := 1, slots := 64, locals := 34 } #[.ref a, .int 0, .int (Int32.ofNat k)] h (Ret fun v h' => ∃ b, v = .ref b ∧ h.size ≤ b ∧ Ext h h' ∧ Ali Z h' b .byte ((bs.take k).map Value.int)) := by
  refine Met.intro pnAr hEL hO ?_
  intro p e s m below meth c T W hby hml hret hnm
  have D : ∀ {pc : Nat} {r}, decode jdk_65_method_132_code pc = r → decode c.code pc = r := fun q => hb hby q
  refine Go.cast (efCr m a 0 (Int32.ofNat k)) ?_
  have l31 : bs.length < 2 ^ 31 := by obtain ⟨_, _, _, q⟩ := A; simpa using q
  refine g_iloadN W (pc' := 1) (D cr_0) rfl rfl ?_
  refine g_ifneN W (pc1 := 10) (pc2 := 4) (D cr_1) (by decide) (by decide) rfl (rfl) ?_
  refine g_iloadN W (pc' := 5) (D cr_4) rfl rfl ?_
  refine g_aloadN W (pc' := 6) (D cr_5) rfl rfl (by first | rfl | assumption) ?_
  refine g_arraylength W (pc' := 7) (A) (z := Int32.ofNat bs.length) (by simp) (D cr_6) rfl ?_
  rcases Nat.lt_or_ge k bs.length with q | q
  · refine g_icmpeqN W (pc1 := 17) (pc2 := 10) (D cr_7) (by decide) (by decide) rfl (fun r => by have := congrArg Int32.toInt r; rw [Int32.toInt_ofNat_small l31, Int32.toInt_ofNat_small (by omega)] at this; omega) ?_
    refine g_aloadN W (pc' := 11) (D cr_10) rfl rfl (by first | rfl | assumption) ?_
    refine g_iloadN W (pc' := 12) (D cr_11) rfl rfl ?_
    refine g_iloadN W (pc' := 13) (D cr_12) rfl rfl ?_
    refine g_callS W (t_copyRB l hw hEL cst W.old A hB hk hk2) (fun x q => nomatch q) (hI hw 216 rfl) (hI hw 217 rfl) (hI hw 94 rfl) (hI hw 218 rfl) (by decide) pd_18 (argsL := [_, _, _]) rfl rfl (pc' := 16) rfl (by rw [hml]; rfl) (D cr_13) rfl (Wn := 0) (Nat.le_refl _) (by decide) (by decide) (by decide) (by decide) (fun v T h1 W hg hQ => ?_)
    obtain ⟨b, rfl, hQ⟩ := hQ
    exact g_areturn W (D cr_16) hret rfl rfl (by decide) (by decide) ⟨_, rfl, b, rfl, hQ⟩
  · obtain rfl : k = bs.length := by omega
    refine g_icmpeqY W (pc1 := 17) (pc2 := 10) (D cr_7) (by decide) (by decide) rfl (rfl) ?_
    refine g_aloadN W (pc' := 18) (D cr_17) rfl rfl (by first | rfl | assumption) ?_
    obtain ⟨cl, A1, A2, A3⟩ := A
    have hsz : cl.slots.size = bs.length := by have := congrArg List.length A2; simpa using this
    refine g_clone W (pc' := 21) (A1) (fitC_byte A1 A2 hB) (by omega) (EA) (hI hw 96 rfl) (hI hw 97 rfl) (hI hw 101 rfl) (hI hw 99 rfl) (hI hw 100 rfl) (hI hw 102 rfl) (by rw [hml]; rfl) (D cr_18) rfl (by decide) (Wn := 0) (Nat.le_refl _) (by decide) (cap := 64) (by omega) (by decide) (by decide) (fun b T h1 hb W E1 Ab => ?_)
    obtain ⟨Ab, Eb⟩ := Ab
    refine g_checkcast W (pc' := 24) (hI hw 103 rfl) (Ins.self Eb) (D cr_21) rfl (fun T W => ?_)
    rw [A2] at Ab
    refine g_areturn W (D cr_24) hret rfl rfl (by decide) (by decide) ⟨_, rfl, b, rfl, hb, E1, ?_⟩
    rw [List.take_length]; exact Ab
theorem sv_0 : decode jdk_42_method_150_code 0 = .ok (.aload_n 0, 1) := by decide +kernel
theorem sv_1 : decode jdk_42_method_150_code 1 = .ok (.invokespecial 1, 3) := by decide +kernel
theorem sv_4 : decode jdk_42_method_150_code 4 = .ok (.aload_n 1, 1) := by decide +kernel
theorem sv_5 : decode jdk_42_method_150_code 5 = .ok (.invokevirtual 552, 3) := by decide +kernel
theorem sv_8 : decode jdk_42_method_150_code 8 = .ok (.astore_n 3, 1) := by decide +kernel
theorem sv_9 : decode jdk_42_method_150_code 9 = .ok (.aload_n 1, 1) := by decide +kernel
theorem sv_10 : decode jdk_42_method_150_code 10 = .ok (.invokevirtual 549, 3) := by decide +kernel
theorem sv_13 : decode jdk_42_method_150_code 13 = .ok (.istore 4, 2) := by decide +kernel
theorem sv_15 : decode jdk_42_method_150_code 15 = .ok (.aload_n 1, 1) := by decide +kernel
theorem sv_16 : decode jdk_42_method_150_code 16 = .ok (.invokevirtual 1047, 3) := by decide +kernel
theorem sv_19 : decode jdk_42_method_150_code 19 = .ok (.ifCond .eq 22, 3) := by decide +kernel
theorem sv_22 : decode jdk_42_method_150_code 22 = .ok (.aload_n 0, 1) := by decide +kernel
theorem sv_23 : decode jdk_42_method_150_code 23 = .ok (.iconst 0, 1) := by decide +kernel
theorem sv_24 : decode jdk_42_method_150_code 24 = .ok (.putfield 15, 3) := by decide +kernel
theorem sv_27 : decode jdk_42_method_150_code 27 = .ok (.aload_n 0, 1) := by decide +kernel
theorem sv_28 : decode jdk_42_method_150_code 28 = .ok (.aload_n 3, 1) := by decide +kernel
theorem sv_29 : decode jdk_42_method_150_code 29 = .ok (.iconst 0, 1) := by decide +kernel
theorem sv_30 : decode jdk_42_method_150_code 30 = .ok (.iload 4, 2) := by decide +kernel
theorem sv_32 : decode jdk_42_method_150_code 32 = .ok (.invokestatic 54, 3) := by decide +kernel
theorem sv_35 : decode jdk_42_method_150_code 35 = .ok (.putfield 9, 3) := by decide +kernel
theorem sv_38 : decode jdk_42_method_150_code 38 = .ok (.goto 59, 3) := by decide +kernel
theorem sv_41 : decode jdk_42_method_150_code 41 = .ok (.getstatic 38, 3) := by decide +kernel
theorem sv_44 : decode jdk_42_method_150_code 44 = .ok (.ifCond .eq 35, 3) := by decide +kernel
theorem sv_47 : decode jdk_42_method_150_code 47 = .ok (.aload_n 1, 1) := by decide +kernel
theorem sv_48 : decode jdk_42_method_150_code 48 = .ok (.getfield 1048, 3) := by decide +kernel
theorem sv_51 : decode jdk_42_method_150_code 51 = .ok (.ifCond .eq 28, 3) := by decide +kernel
theorem sv_79 : decode jdk_42_method_150_code 79 = .ok (.aload_n 0, 1) := by decide +kernel
theorem sv_80 : decode jdk_42_method_150_code 80 = .ok (.iconst 1, 1) := by decide +kernel
theorem sv_81 : decode jdk_42_method_150_code 81 = .ok (.putfield 15, 3) := by decide +kernel
theorem sv_84 : decode jdk_42_method_150_code 84 = .ok (.aload_n 0, 1) := by decide +kernel
theorem sv_85 : decode jdk_42_method_150_code 85 = .ok (.aload_n 3, 1) := by decide +kernel
theorem sv_86 : decode jdk_42_method_150_code 86 = .ok (.iconst 0, 1) := by decide +kernel
theorem sv_87 : decode jdk_42_method_150_code 87 = .ok (.iload 4, 2) := by decide +kernel
theorem sv_89 : decode jdk_42_method_150_code 89 = .ok (.iconst 1, 1) := by decide +kernel
theorem sv_90 : decode jdk_42_method_150_code 90 = .ok (.ishl, 1) := by decide +kernel
theorem sv_91 : decode jdk_42_method_150_code 91 = .ok (.invokestatic 54, 3) := by decide +kernel
theorem sv_94 : decode jdk_42_method_150_code 94 = .ok (.putfield 9, 3) := by decide +kernel
theorem sv_97 : decode jdk_42_method_150_code 97 = .ok (.return_, 1) := by decide +kernel
theorem efSv (m : MethodId) (x0 : Addr) (x1 : Addr) : entryFrame m #[.ref x0, .ref x1, .null] 5 = mkF m 0 #[.val (.ref x0), .val (.ref x1), .val .null, .unset, .unset] [] := by first | (simp [entryFrame, mkF, argsToLocals, Value.category, maxLocals]; done) | rfl
set_option maxRecDepth 65536 in
set_option maxHeartbeats 4000000 in
theorem t_strA (l : Launch) {Z : State} {a0 : Array Value} {EL : List (String × Nat)} (hw : ∀ d ∈ tables_1, d.before a0 Z = true) (hEL : EW Z a0 EL) (cst : Cst Z) {h : Heap} (hO : Ext Z.heap h) {y : Addr} (S : NewS Z [y] h y) {x t : Addr} {cap : Nat} {cs : List Int32} (B : Sbd Z h x t cap cs) (hl : cs.length ≤ 64) (hL : Latin cs) :
    Met l Z EL [y] (⟨"java/lang/String", "<init>", "(Ljava/lang/AbstractStringBuilder;Ljava/lang/Void;)V"⟩ : MethodName) jdk_42_method_150_code 5 none { frames := 3, cells := 1, slots := 64, locals := 50 } #[.ref y, .ref x, .null] h (Void fun h' => Keep h h' [y] ∧ Str Z h' y cs) := by
  have wi : (Jvm.Cond.instantiable "java/lang/String" 4).before a0 Z = true := (hI hw 5 rfl)
  have sn : Jvm.RoadKit.slotOf Z "java/lang/String" "value" "[B" ≠ Jvm.RoadKit.slotOf Z "java/lang/String" "coder" "B" := slot_ne (C := "java/lang/String") (Or.inr (hI hw 20 rfl)) (Or.inr (hI hw 21 rfl)) (by decide) (t := .array .byte) (t' := .byte) (by decide) (by decide)
  refine Met.intro pnS hEL hO ?_
  intro p e s m below meth c T W hby hml hret hnm
  have D : ∀ {pc : Nat} {r}, decode jdk_42_method_150_code pc = r → decode c.code pc = r := fun q => hb hby q
  refine Go.cast (efSv m y x) ?_
  obtain ⟨hy0, hyF, EY, ⟨v0, fv⟩, ⟨u0, fc⟩⟩ := S
  refine g_aloadN W (pc' := 1) (D sv_0) rfl rfl (by first | rfl | assumption) ?_
  refine g_initO W (pc' := 4) (hI hw 15 rfl) (hI hw 16 rfl) (hI hw 17 rfl) (by rw [hml]; rfl) (D sv_1) rfl (by decide) (Wn := 0) (Nat.le_refl _) (by decide) (fun T W => ?_)
  refine g_aloadN W (pc' := 5) (D sv_4) rfl rfl (by first | rfl | assumption) ?_
  refine g_virt W (t_getValue l hw hEL cst W.old B) (fun x q => nomatch q) ⟨_, _, rfl, (hI hw 74 rfl)⟩ (hI hw 71 rfl) (hI hw 72 rfl) (hI hw 74 rfl) (hI hw 73 rfl) (hI hw 51 rfl) (hI hw 75 rfl) (by decide) pd_19 (B.2.2.1) (argsL := []) rfl rfl (pc' := 8) rfl (by rw [hml]; rfl) (D sv_5) rfl (Wn := 0) (Nat.le_refl _) (by decide) (by decide) (by decide) (by decide) (fun v T h1 W hg hQ => ?_)
  obtain ⟨rfl, rfl⟩ := hQ
  refine g_astoreN W (pc' := 9) (D sv_8) rfl (by first | rfl | assumption) (ls' := #[_, _, _, _, _]) rfl ?_
  refine g_aloadN W (pc' := 10) (D sv_9) rfl rfl (by first | rfl | assumption) ?_
  refine g_virt (y := (⟨"java/lang/AbstractStringBuilder", "length", "()I"⟩ : MethodName)) W (t_lenB l hw hEL cst W.old B) (fun x q => nomatch q) ⟨"java/lang/StringBuilder", (⟨"java/lang/AbstractStringBuilder", "getValue", "()[B"⟩ : MethodName), rfl, (hI hw 74 rfl)⟩ (hI hw 76 rfl) (hI hw 77 rfl) (hI hw 79 rfl) (hI hw 80 rfl) (hI hw 32 rfl) (hI hw 81 rfl) (by decide) pd_4 (B.2.2.1) (argsL := []) rfl rfl (pc' := 13) rfl (by rw [hml]; rfl) (D sv_10) rfl (Wn := 0) (Nat.le_refl _) (by decide) (by decide) (by decide) (by decide) (fun v T h1 W hg hQ => ?_)
  obtain ⟨rfl, rfl⟩ := hQ
  refine g_istore W (pc' := 15) (D sv_13) rfl (ls' := #[_, _, _, _, _]) rfl ?_
  refine g_aloadN W (pc' := 16) (D sv_15) rfl rfl (by first | rfl | assumption) ?_
  refine g_virt W (t_isLatinA l hw hEL cst W.old B) (fun x q => nomatch q) ⟨_, _, rfl, (hI hw 90 rfl)⟩ (hI hw 87 rfl) (hI hw 88 rfl) (hI hw 90 rfl) (hI hw 89 rfl) (hI hw 51 rfl) (hI hw 91 rfl) (by decide) pd_14 (B.2.2.1) (argsL := []) rfl rfl (pc' := 19) rfl (by rw [hml]; rfl) (D sv_16) rfl (Wn := 0) (Nat.le_refl _) (by decide) (by decide) (by decide) (by decide) (fun v T h1 W hg hQ => ?_)
  obtain ⟨rfl, rfl⟩ := hQ
  refine g_ifeqN W (pc1 := 41) (pc2 := 22) (D sv_19) (by decide) (by decide) rfl (by decide) ?_
  refine g_aloadN W (pc' := 23) (D sv_22) rfl rfl (by first | rfl | assumption) ?_
  refine g_iconst W (pc' := 24) (D sv_23) rfl (v := (0 : Int32)) (by decide) ?_
  refine g_putfield W (pc' := 27) (host := "") (Or.inl (hI hw 25 rfl)) Via.refl (fc) (EY) (Or.inr ⟨(hI hw 21 rfl), rfl, hnm⟩) (hI hw 5 rfl) (ty := .byte) (by decide) rfl rfl (⟨hy0, Or.inl hyF⟩) (D sv_24) rfl (fun T h1 W Wr1 => ?_)
  have K1 : Keep h h1 [y] := Keep.of_wr Wr1
  replace fc := fc.same Wr1
  replace fv := fv.other Wr1 (Or.inr sn)
  obtain ⟨b1, b2, b3, b4, b5, b6, bx, bs, b7, b8, b9, b10, b11⟩ := B
  have A1 := b7.wr Wr1 (b7.neE EY wi)
  replace EY := EY.wr Wr1
  refine g_aloadN W (pc' := 28) (D sv_27) rfl rfl (by first | rfl | assumption) ?_
  refine g_aloadN W (pc' := 29) (D sv_28) rfl rfl (by first | rfl | assumption) ?_
  refine g_iconst W (pc' := 30) (D sv_29) rfl (v := (0 : Int32)) (by decide) ?_
  refine g_iload W (pc' := 32) (D sv_30) rfl rfl ?_
  refine g_callS W (t_copyR l hw hEL cst W.old A1 b8 (k := cs.length) (by omega) (by omega) (bx.1.wr Wr1)) (fun x q => nomatch q) (hI hw 92 rfl) (hI hw 93 rfl) (hI hw 94 rfl) (hI hw 95 rfl) (by decide) pd_18 (argsL := [_, _, _]) rfl rfl (pc' := 35) rfl (by rw [hml]; rfl) (D sv_32) rfl (Wn := 1) (Nat.le_refl _) (by decide) (by decide) (by decide) (by decide) (fun v T h2 W hg hQ => ?_)
  obtain ⟨b, rfl, hb, E2, A2⟩ := hQ
  replace fc := fc.ext E2
  replace fv := fv.ext E2
  replace EY := EY.ext E2
  refine g_putfield W (pc' := 38) (host := "") (Or.inl (hI hw 24 rfl)) Via.refl (fv) (EY) (Or.inr ⟨(hI hw 20 rfl), rfl, hnm⟩) (hI hw 5 rfl) (ty := (.array .byte)) (by decide) rfl rfl (⟨hy0, Or.inl hyF⟩) (D sv_35) rfl (fun T h3 W Wr2 => ?_)
  refine g_goto W (pc' := 97) (D sv_38) (by decide) (by decide) ?_
  have KK : Keep h h3 [y] := (K1.ext E2).wr Wr2 (Or.inl (List.mem_singleton.mpr rfl))
  rw [b11] at A2
  exact g_return W (D sv_97) hret (by decide) (by decide) ⟨rfl, KK, EY.wr Wr2, fc.other Wr2 (Or.inr (Ne.symm sn)), ⟨b, fv.same Wr2, A2.wr Wr2 (A2.neE EY wi)⟩, hL, by omega⟩
theorem sw_0 : decode jdk_42_method_53_code 0 = .ok (.aload_n 0, 1) := by decide +kernel
theorem sw_1 : decode jdk_42_method_53_code 1 = .ok (.aload_n 1, 1) := by decide +kernel
theorem sw_2 : decode jdk_42_method_53_code 2 = .ok (.aconst_null, 1) := by decide +kernel
theorem sw_3 : decode jdk_42_method_53_code 3 = .ok (.invokespecial 489, 3) := by decide +kernel
theorem sw_6 : decode jdk_42_method_53_code 6 = .ok (.return_, 1) := by decide +kernel
theorem efSw (m : MethodId) (x0 : Addr) (x1 : Addr) : entryFrame m #[.ref x0, .ref x1] 2 = mkF m 0 #[.val (.ref x0), .val (.ref x1)] [] := by first | (simp [entryFrame, mkF, argsToLocals, Value.category, maxLocals]; done) | rfl
set_option maxRecDepth 65536 in
set_option maxHeartbeats 4000000 in
theorem t_strB (l : Launch) {Z : State} {a0 : Array Value} {EL : List (String × Nat)} (hw : ∀ d ∈ tables_1, d.before a0 Z = true) (hEL : EW Z a0 EL) (cst : Cst Z) {h : Heap} (hO : Ext Z.heap h) {y : Addr} (S : NewS Z [y] h y) {x t : Addr} {cap : Nat} {cs : List Int32} (B : Sbd Z h x t cap cs) (hl : cs.length ≤ 64) (hL : Latin cs) :
    Met l Z EL [y] (⟨"java/lang/String", "<init>", "(Ljava/lang/StringBuilder;)V"⟩ : MethodName) jdk_42_method_53_code 2 none { frames := 4, cells := 1, slots := 64, locals := 66 } #[.ref y, .ref x] h (Void fun h' => Keep h h' [y] ∧ Str Z h' y cs) := by
  refine Met.intro pnS hEL hO ?_
  intro p e s m below meth c T W hby hml hret hnm
  have D : ∀ {pc : Nat} {r}, decode jdk_42_method_53_code pc = r → decode c.code pc = r := fun q => hb hby q
  refine Go.cast (efSw m y x) ?_
  refine g_aloadN W (pc' := 1) (D sw_0) rfl rfl (by first | rfl | assumption) ?_
  refine g_aloadN W (pc' := 2) (D sw_1) rfl rfl (by first | rfl | assumption) ?_
  refine g_aconst_null W (pc' := 3) (D sw_2) rfl ?_
  refine g_spec W (t_strA l hw hEL cst W.old S B hl hL) (fun z q => q) rfl (hI hw 68 rfl) (hI hw 69 rfl) (hI hw 6 rfl) (hI hw 70 rfl) (by decide) pd_20 (argsL := [_, _]) rfl rfl (pc' := 6) rfl (by rw [hml]; rfl) (D sw_3) rfl (Wn := 0) (Nat.le_refl _) (by decide) (by decide) (by decide) (by decide) (fun T h1 W hg hQ => ?_)
  exact g_return W (D sw_6) hret (by decide) (by decide) ⟨rfl, hQ⟩
theorem ts_0 : decode jdk_67_method_42_code 0 = .ok (.new 18, 3) := by decide +kernel
theorem ts_3 : decode jdk_67_method_42_code 3 = .ok (.dup, 1) := by decide +kernel
theorem ts_4 : decode jdk_67_method_42_code 4 = .ok (.aload_n 0, 1) := by decide +kernel
theorem ts_5 : decode jdk_67_method_42_code 5 = .ok (.invokespecial 137, 3) := by decide +kernel
theorem ts_8 : decode jdk_67_method_42_code 8 = .ok (.areturn, 1) := by decide +kernel
theorem efTs (m : MethodId) (x0 : Addr) : entryFrame m #[.ref x0] 1 = mkF m 0 #[.val (.ref x0)] [] := by first | (simp [entryFrame, mkF, argsToLocals, Value.category, maxLocals]; done) | rfl
set_option maxRecDepth 65536 in
set_option maxHeartbeats 4000000 in
theorem t_toStr (l : Launch) {Z : State} {a0 : Array Value} {EL : List (String × Nat)} (hw : ∀ d ∈ tables_1, d.before a0 Z = true) (hEL : EW Z a0 EL) (cst : Cst Z) {h : Heap} (hO : Ext Z.heap h) {x t : Addr} {cap : Nat} {cs : List Int32} (B : Sbd Z h x t cap cs) (hl : cs.length ≤ 64) (hL : Latin cs) :
    Met l Z EL [] (⟨"java/lang/StringBuilder", "toString", "()Ljava/lang/String;"⟩ : MethodName) jdk_67_method_42_code 1 (some (.object "java/lang/String")) { frames := 5, cells := 2, slots := 68, locals := 80 } #[.ref x] h (Ret fun v h' => ∃ y, v = .ref y ∧ Ext h h' ∧ Str Z h' y cs) := by
  refine Met.intro pnSB hEL hO ?_
  intro p e s m below meth c T W hby hml hret hnm
  have D : ∀ {pc : Nat} {r}, decode jdk_67_method_42_code pc = r → decode c.code pc = r := fun q => hb hby q
  refine Go.cast (efTs m x) ?_
  have wi : (Jvm.Cond.instantiable "java/lang/String" 4).before a0 Z = true := (hI hw 5 rfl)
  refine g_newS W (pc' := 3) (hI hw 64 rfl) wi (hI hw 6 rfl) (hI hw 20 rfl) (hI hw 21 rfl) (D ts_0) rfl (by decide) (by decide) (fun y T h1 hy W E1 N => ?_)
  refine g_dup W (pc' := 4) (D ts_3) rfl rfl ?_
  refine g_aloadN W (pc' := 5) (D ts_4) rfl rfl (by first | rfl | assumption) ?_
  refine g_spec W (t_strB l hw hEL cst W.old N (B.ext E1) hl hL) (fun z q => q) rfl (hI hw 65 rfl) (hI hw 66 rfl) (hI hw 6 rfl) (hI hw 67 rfl) (by decide) pd_21 (argsL := [_]) rfl rfl (pc' := 8) rfl (by rw [hml]; rfl) (D ts_5) rfl (Wn := 1) (Nat.le_refl _) (by decide) (by decide) (by decide) (by decide) (fun T h2 W hg hQ => ?_)
  obtain ⟨K2, S⟩ := hQ
  exact g_areturn W (D ts_8) hret rfl rfl (by decide) (by decide) ⟨_, rfl, y, rfl, keep_ext ((ext_keep E1 []).trans K2 (own_new hy)), S⟩
/-! UTF16 bytes: putChar, getChar and what stands on them -/
theorem pnU : plainName "jdk/internal/util/Preconditions" = true := by first | (simp [plainName, overriddenIn]; done) | decide +kernel
theorem pn16 : plainName "java/lang/StringUTF16" = true := by first | (simp [plainName, overriddenIn]; done) | decide +kernel
abbrev U16 : String := "java/lang/StringUTF16"
/-- StringUTF16's statics -/
def Ust (Z : State) : Prop := Sta Z Z.heap U16 "$assertionsDisabled" "Z" (.int 1) ∧ Sta Z Z.heap U16 "HI_BYTE_SHIFT" "I" (.int 0) ∧ Sta Z Z.heap U16 "LO_BYTE_SHIFT" "I" (.int 8)
/-- a char of 16 bits -/
def Wc (c : Int32) : Prop := ¬ c < 0 ∧ ¬ (65535 : Int32) < c
theorem Lc.wc {c : Int32} (q : Lc c) : Wc c := ⟨q.1, q.w⟩
/-- the high byte -/
def hi (c : Int32) : Int32 := lo (c >>> ((8 : Int32) &&& 31))
/-- the bytes of chars -/
def w16 (cs : List Int32) : List Int32 := cs.flatMap fun c => [lo c, hi c]
theorem w16_cons (c : Int32) (cs : List Int32) : w16 (c :: cs) = lo c :: hi c :: w16 cs := rfl
theorem w16_len (cs : List Int32) : (w16 cs).length = 2 * cs.length := by
  induction cs with
  | nil => rfl
  | cons c cs ih => rw [w16_cons, List.length_cons, List.length_cons, List.length_cons, ih]; omega
theorem w16_app (a b : List Int32) : w16 (a ++ b) = w16 a ++ w16 b := List.flatMap_append
theorem w16_bys (cs : List Int32) : Bys (w16 cs) := fun b hb => by
  obtain ⟨c, -, hb⟩ := List.mem_flatMap.mp hb
  rcases List.mem_cons.mp hb with rfl | hb
  · exact fits_lo _
  · cases List.mem_singleton.mp hb; exact fits_lo _
theorem w16_get {cs : List Int32} {i : Nat} (h : i < cs.length) : (w16 cs).getD (2 * i) 0 = lo (cs.getD i 0) ∧ (w16 cs).getD (2 * i + 1) 0 = hi (cs.getD i 0) := by
  induction cs generalizing i with
  | nil => exact absurd h (Nat.not_lt_zero _)
  | cons c cs ih =>
    cases i with
    | zero => exact ⟨rfl, rfl⟩
    | succ i =>
      have q := ih (i := i) (by simpa using h)
      rw [w16_cons]
      have e1 : 2 * (i + 1) = 2 * i + 1 + 1 := by omega
      rw [e1]
      exact q
theorem shl1 {i : Nat} (h : i < 2 ^ 30) : Int32.ofNat i <<< ((1 : Int32) &&& 31) = Int32.ofNat (2 * i) := by
  have q := c_ishl (Int32.ofNat i) 1 1 (by decide)
  have r := rng32 (Int32.ofNat i <<< ((1 : Int32) &&& 31))
  apply Int32.toInt_inj.mp
  rw [Int32.toInt_ofNat_small (by omega)] at q ⊢
  omega
theorem shr1 {i : Nat} (h : i < 2 ^ 31) : Int32.ofNat i >>> ((1 : Int32) &&& 31) = Int32.ofNat (i / 2) := by
  have q := c_ishr (Int32.ofNat i) 1 1 (by decide)
  apply Int32.toInt_inj.mp
  rw [Int32.toInt_ofNat_small h] at q
  rw [Int32.toInt_ofNat_small (by omega), q]
  omega
theorem get16 {c : Int32} (h : Wc c) : ((((hi c &&& 255) <<< ((8 : Int32) &&& 31)) ||| ((lo c &&& 255) <<< ((0 : Int32) &&& 31)))).toUInt32.toUInt16.toUInt32.toInt32 = c := by
  rw [shl0]
  have a1 := c_mask (lo c) 255 8 (by decide) (by decide)
  have a2 := c_mask (hi c) 255 8 (by decide) (by decide)
  have b1 := c_i2b c
  have b2 := c_i2b (c >>> ((8 : Int32) &&& 31))
  have b3 := c_ishr c 8 8 (by decide)
  have d1 := c_ishl (hi c &&& 255) 8 8 (by decide)
  have r1 := rng32 ((hi c &&& 255) <<< ((8 : Int32) &&& 31))
  have h0 := h.1
  have h1 := h.2
  rw [Int32.lt_iff_toInt_lt] at h0 h1
  have e0 : (0 : Int32).toInt = 0 := rfl
  have e1 : (65535 : Int32).toInt = 65535 := rfl
  have f1 : c.toInt8.toInt32 = lo c := rfl
  have f2 : (c >>> ((8 : Int32) &&& 31)).toInt8.toInt32 = hi c := rfl
  rw [f1] at b1
  rw [f2] at b2
  have g1 := c_or ((hi c &&& 255) <<< ((8 : Int32) &&& 31)) (lo c &&& 255) 8 (by decide) 256 rfl (by omega) (by omega) (by omega)
  have r2 := rng32 (((hi c &&& 255) <<< ((8 : Int32) &&& 31)) ||| (lo c &&& 255))
  have k := c_i2c (((hi c &&& 255) <<< ((8 : Int32) &&& 31)) ||| (lo c &&& 255))
  apply Int32.toInt_inj.mp
  omega
theorem get16' {c : Int32} (h : Wc c) : ((((lo c &&& 255) <<< ((0 : Int32) &&& 31)) ||| ((hi c &&& 255) <<< ((8 : Int32) &&& 31)))).toUInt32.toUInt16.toUInt32.toInt32 = c := by
  rw [Int32.or_comm]; exact get16 h
theorem pc_0 : decode jdk_52_method_4_code 0 = .ok (.getstatic 44, 3) := by decide +kernel
theorem pc_3 : decode jdk_52_method_4_code 3 = .ok (.ifCond .ne 25, 3) := by decide +kernel
theorem pc_28 : decode jdk_52_method_4_code 28 = .ok (.iload_n 1, 1) := by decide +kernel
theorem pc_29 : decode jdk_52_method_4_code 29 = .ok (.iconst 1, 1) := by decide +kernel
theorem pc_30 : decode jdk_52_method_4_code 30 = .ok (.ishl, 1) := by decide +kernel
theorem pc_31 : decode jdk_52_method_4_code 31 = .ok (.istore_n 1, 1) := by decide +kernel
theorem pc_32 : decode jdk_52_method_4_code 32 = .ok (.aload_n 0, 1) := by decide +kernel
theorem pc_33 : decode jdk_52_method_4_code 33 = .ok (.iload_n 1, 1) := by decide +kernel
theorem pc_34 : decode jdk_52_method_4_code 34 = .ok (.iinc 1 1, 3) := by decide +kernel
theorem pc_37 : decode jdk_52_method_4_code 37 = .ok (.iload_n 2, 1) := by decide +kernel
theorem pc_38 : decode jdk_52_method_4_code 38 = .ok (.getstatic 59, 3) := by decide +kernel
theorem pc_41 : decode jdk_52_method_4_code 41 = .ok (.ishr, 1) := by decide +kernel
theorem pc_42 : decode jdk_52_method_4_code 42 = .ok (.i2b, 1) := by decide +kernel
theorem pc_43 : decode jdk_52_method_4_code 43 = .ok (.bastore, 1) := by decide +kernel
theorem pc_44 : decode jdk_52_method_4_code 44 = .ok (.aload_n 0, 1) := by decide +kernel
theorem pc_45 : decode jdk_52_method_4_code 45 = .ok (.iload_n 1, 1) := by decide +kernel
theorem pc_46 : decode jdk_52_method_4_code 46 = .ok (.iload_n 2, 1) := by decide +kernel
theorem pc_47 : decode jdk_52_method_4_code 47 = .ok (.getstatic 63, 3) := by decide +kernel
theorem pc_50 : decode jdk_52_method_4_code 50 = .ok (.ishr, 1) := by decide +kernel
theorem pc_51 : decode jdk_52_method_4_code 51 = .ok (.i2b, 1) := by decide +kernel
theorem pc_52 : decode jdk_52_method_4_code 52 = .ok (.bastore, 1) := by decide +kernel
theorem pc_53 : decode jdk_52_method_4_code 53 = .ok (.return_, 1) := by decide +kernel
theorem ef_pc (m : MethodId) (x0 : Addr) (x1 : Int32) (x2 : Int32) : entryFrame m #[.ref x0, .int x1, .int x2] 3 = mkF m 0 #[.val (.ref x0), .val (.int x1), .val (.int x2)] [] := by first | (simp [entryFrame, mkF, argsToLocals, Value.category, maxLocals]; done) | rfl
set_option maxRecDepth 65536 in
set_option maxHeartbeats 8000000 in
theorem t_putChar (l : Launch) {Z : State} {a0 : Array Value} {EL : List (String × Nat)} (hw : ∀ d ∈ tables_1, d.before a0 Z = true) (hEL : EW Z a0 EL) (cst : Cst Z) (fst : Fst Z) (ust : Ust Z) {h : Heap} (hO : Ext Z.heap h) {t : Addr} {bs : List Int32} (A : Ali Z h t .byte (bs.map Value.int)) (hz : Z.heap.size ≤ t) {i : Nat} (hi2 : 2 * i + 1 < bs.length) {ch : Int32} :
    Met l Z EL [t] (⟨"java/lang/StringUTF16", "putChar", "([BII)V"⟩ : MethodName) jdk_52_method_4_code 3 none { frames := 0, cells := 0, slots := 0, locals := 0 } #[.ref t, .int (Int32.ofNat i), .int ch] h (Void fun h' => Keep h h' [t] ∧ Ali Z h' t .byte (((bs.set (2 * i) (lo ch)).set (2 * i + 1) (hi ch)).map Value.int)) := by
  refine Met.intro pn16 hEL hO ?_
  intro p e s m below meth c T W hby hml hret hnm
  have D : ∀ {pc : Nat} {r}, decode jdk_52_method_4_code pc = r → decode c.code pc = r := fun q => hb hby q
  refine Go.cast (ef_pc m t (Int32.ofNat i) ch) ?_
  obtain ⟨u1, u2, u3⟩ := ust
  have l31 : bs.length < 2 ^ 31 := by obtain ⟨_, _, _, q⟩ := A; simpa using q
  refine g_getstatic W (pc' := 3) (host := "") (Or.inl (hI hw 236 rfl)) Via.refl (u1.ext W.old) (D pc_0) rfl (fun T W => ?_)
  refine g_ifneY W (pc1 := 28) (pc2 := 6) (D pc_3) (by decide) (by decide) rfl (by decide) ?_
  refine g_iloadN W (pc' := 29) (D pc_28) rfl rfl ?_
  refine g_iconst W (pc' := 30) (D pc_29) rfl (v := (1 : Int32)) (by decide) ?_
  refine g_ishl W (pc' := 31) (D pc_30) rfl ?_
  rw [shl1 (by omega)]
  refine g_istoreN W (pc' := 32) (D pc_31) rfl (ls' := #[_, _, _]) rfl ?_
  refine g_aloadN W (pc' := 33) (D pc_32) rfl rfl (by first | rfl | assumption) ?_
  refine g_iloadN W (pc' := 34) (D pc_33) rfl rfl ?_
  refine g_iinc W (pc' := 37) (D pc_34) rfl rfl (ls' := #[_, _, _]) rfl ?_
  refine g_iloadN W (pc' := 38) (D pc_37) rfl rfl ?_
  rw [inc1]
  refine g_getstatic W (pc' := 41) (host := "") (Or.inl (hI hw 237 rfl)) Via.refl (u2.ext W.old) (D pc_38) rfl (fun T W => ?_)
  refine g_ishr W (pc' := 42) (D pc_41) rfl ?_
  rw [shr0]
  refine g_i2b W (pc' := 43) (D pc_42) rfl ?_
  refine g_bastore W (pc' := 44) (A) (hz) (List.mem_singleton.mpr rfl) (i := 2 * i) (own_n0 (by omega)) (own_n32 (by omega)) (by omega) (D pc_43) rfl (fun T g1 W K1 A1 => ?_)
  refine g_aloadN W (pc' := 45) (D pc_44) rfl rfl (by first | rfl | assumption) ?_
  refine g_iloadN W (pc' := 46) (D pc_45) rfl rfl ?_
  refine g_iloadN W (pc' := 47) (D pc_46) rfl rfl ?_
  refine g_getstatic W (pc' := 50) (host := "") (Or.inl (hI hw 238 rfl)) Via.refl (u3.ext W.old) (D pc_47) rfl (fun T W => ?_)
  refine g_ishr W (pc' := 51) (D pc_50) rfl ?_
  refine g_i2b W (pc' := 52) (D pc_51) rfl ?_
  refine g_bastore W (pc' := 53) (A1) (hz) (List.mem_singleton.mpr rfl) (i := 2 * i + 1) (own_n0 (by omega)) (own_n32 (by omega)) (by rw [List.length_set]; omega) (D pc_52) rfl (fun T g2 W K2 A2 => ?_)
  have e1 : lo ch.toInt8.toInt32 = lo ch := lo_lo ch
  have e2 : lo (ch >>> ((8 : Int32) &&& 31)).toInt8.toInt32 = hi ch := lo_lo _
  rw [e1, e2] at A2
  exact g_return W (D pc_53) hret (by decide) (by decide) ⟨rfl, K1.trans K2 (fun z hz => Or.inl hz), A2⟩
theorem gc_0 : decode jdk_52_method_5_code 0 = .ok (.getstatic 44, 3) := by decide +kernel
theorem gc_3 : decode jdk_52_method_5_code 3 = .ok (.ifCond .ne 25, 3) := by decide +kernel
theorem gc_28 : decode jdk_52_method_5_code 28 = .ok (.iload_n 1, 1) := by decide +kernel
theorem gc_29 : decode jdk_52_method_5_code 29 = .ok (.iconst 1, 1) := by decide +kernel
theorem gc_30 : decode jdk_52_method_5_code 30 = .ok (.ishl, 1) := by decide +kernel
theorem gc_31 : decode jdk_52_method_5_code 31 = .ok (.istore_n 1, 1) := by decide +kernel
theorem gc_32 : decode jdk_52_method_5_code 32 = .ok (.aload_n 0, 1) := by decide +kernel
theorem gc_33 : decode jdk_52_method_5_code 33 = .ok (.iload_n 1, 1) := by decide +kernel
theorem gc_34 : decode jdk_52_method_5_code 34 = .ok (.iinc 1 1, 3) := by decide +kernel
theorem gc_37 : decode jdk_52_method_5_code 37 = .ok (.baload, 1) := by decide +kernel
theorem gc_38 : decode jdk_52_method_5_code 38 = .ok (.sipush 255, 3) := by decide +kernel
theorem gc_41 : decode jdk_52_method_5_code 41 = .ok (.iand, 1) := by decide +kernel
theorem gc_42 : decode jdk_52_method_5_code 42 = .ok (.getstatic 59, 3) := by decide +kernel
theorem gc_45 : decode jdk_52_method_5_code 45 = .ok (.ishl, 1) := by decide +kernel
theorem gc_46 : decode jdk_52_method_5_code 46 = .ok (.aload_n 0, 1) := by decide +kernel
theorem gc_47 : decode jdk_52_method_5_code 47 = .ok (.iload_n 1, 1) := by decide +kernel
theorem gc_48 : decode jdk_52_method_5_code 48 = .ok (.baload, 1) := by decide +kernel
theorem gc_49 : decode jdk_52_method_5_code 49 = .ok (.sipush 255, 3) := by decide +kernel
theorem gc_52 : decode jdk_52_method_5_code 52 = .ok (.iand, 1) := by decide +kernel
theorem gc_53 : decode jdk_52_method_5_code 53 = .ok (.getstatic 63, 3) := by decide +kernel
theorem gc_56 : decode jdk_52_method_5_code 56 = .ok (.ishl, 1) := by decide +kernel
theorem gc_57 : decode jdk_52_method_5_code 57 = .ok (.ior, 1) := by decide +kernel
theorem gc_58 : decode jdk_52_method_5_code 58 = .ok (.i2c, 1) := by decide +kernel
theorem gc_59 : decode jdk_52_method_5_code 59 = .ok (.ireturn, 1) := by decide +kernel
theorem ef_gc (m : MethodId) (x0 : Addr) (x1 : Int32) : entryFrame m #[.ref x0, .int x1] 2 = mkF m 0 #[.val (.ref x0), .val (.int x1)] [] := by first | (simp [entryFrame, mkF, argsToLocals, Value.category, maxLocals]; done) | rfl
set_option maxRecDepth 65536 in
set_option maxHeartbeats 8000000 in
theorem t_getChar (l : Launch) {Z : State} {a0 : Array Value} {EL : List (String × Nat)} (hw : ∀ d ∈ tables_1, d.before a0 Z = true) (hEL : EW Z a0 EL) (cst : Cst Z) (fst : Fst Z) (ust : Ust Z) {h : Heap} (hO : Ext Z.heap h) {t : Addr} {bs : List Int32} (A : Ali Z h t .byte (bs.map Value.int)) {i : Nat} (hi2 : 2 * i + 1 < bs.length) {ch : Int32} (hc : Wc ch) (e1 : bs.getD (2 * i) 0 = lo ch) (e2 : bs.getD (2 * i + 1) 0 = hi ch) :
    Met l Z EL [] (⟨"java/lang/StringUTF16", "getChar", "([BI)C"⟩ : MethodName) jdk_52_method_5_code 2 (some .char) { frames := 0, cells := 0, slots := 0, locals := 0 } #[.ref t, .int (Int32.ofNat i)] h (Ret fun v h' => v = .int ch ∧ h = h') := by
  refine Met.intro pn16 hEL hO ?_
  intro p e s m below meth c T W hby hml hret hnm
  have D : ∀ {pc : Nat} {r}, decode jdk_52_method_5_code pc = r → decode c.code pc = r := fun q => hb hby q
  refine Go.cast (ef_gc m t (Int32.ofNat i)) ?_
  obtain ⟨u1, u2, u3⟩ := ust
  have l31 : bs.length < 2 ^ 31 := by obtain ⟨_, _, _, q⟩ := A; simpa using q
  refine g_getstatic W (pc' := 3) (host := "") (Or.inl (hI hw 236 rfl)) Via.refl (u1.ext W.old) (D gc_0) rfl (fun T W => ?_)
  refine g_ifneY W (pc1 := 28) (pc2 := 6) (D gc_3) (by decide) (by decide) rfl (by decide) ?_
  refine g_iloadN W (pc' := 29) (D gc_28) rfl rfl ?_
  refine g_iconst W (pc' := 30) (D gc_29) rfl (v := (1 : Int32)) (by decide) ?_
  refine g_ishl W (pc' := 31) (D gc_30) rfl ?_
  rw [shl1 (by omega)]
  refine g_istoreN W (pc' := 32) (D gc_31) rfl (ls' := #[_, _]) rfl ?_
  refine g_aloadN W (pc' := 33) (D gc_32) rfl rfl (by first | rfl | assumption) ?_
  refine g_iloadN W (pc' := 34) (D gc_33) rfl rfl ?_
  refine g_iinc W (pc' := 37) (D gc_34) rfl rfl (ls' := #[_, _]) rfl ?_
  rw [inc1]
  refine g_baload W (pc' := 38) (A) (i := 2 * i) (own_n0 (by omega)) (own_n32 (by omega)) (by omega) (D gc_37) rfl ?_
  rw [e1]
  refine g_sipush W (pc' := 41) (D gc_38) rfl (v := (255 : Int32)) (by decide) ?_
  refine g_iand W (pc' := 42) (D gc_41) rfl ?_
  refine g_getstatic W (pc' := 45) (host := "") (Or.inl (hI hw 237 rfl)) Via.refl (u2.ext W.old) (D gc_42) rfl (fun T W => ?_)
  refine g_ishl W (pc' := 46) (D gc_45) rfl ?_
  refine g_aloadN W (pc' := 47) (D gc_46) rfl rfl (by first | rfl | assumption) ?_
  refine g_iloadN W (pc' := 48) (D gc_47) rfl rfl ?_
  refine g_baload W (pc' := 49) (A) (i := 2 * i + 1) (own_n0 (by omega)) (own_n32 (by omega)) (by omega) (D gc_48) rfl ?_
  rw [e2]
  refine g_sipush W (pc' := 52) (D gc_49) rfl (v := (255 : Int32)) (by decide) ?_
  refine g_iand W (pc' := 53) (D gc_52) rfl ?_
  refine g_getstatic W (pc' := 56) (host := "") (Or.inl (hI hw 238 rfl)) Via.refl (u3.ext W.old) (D gc_53) rfl (fun T W => ?_)
  refine g_ishl W (pc' := 57) (D gc_56) rfl ?_
  refine g_ior W (pc' := 58) (D gc_57) rfl ?_
  refine g_i2c W (pc' := 59) (D gc_58) rfl ?_
  rw [get16' hc]
  exact g_retc W (D gc_59) hret (by show Value.int (Jvm.RoadKit.nar .char ch) = _; rw [show Jvm.RoadKit.nar .char ch = ch from nar_char hc.1 hc.2]) (by decide) (by decide) ⟨_, rfl, rfl, rfl⟩
theorem ul_0 : decode jdk_52_method_6_code 0 = .ok (.aload_n 0, 1) := by decide +kernel
theorem ul_1 : decode jdk_52_method_6_code 1 = .ok (.arraylength, 1) := by decide +kernel
theorem ul_2 : decode jdk_52_method_6_code 2 = .ok (.iconst 1, 1) := by decide +kernel
theorem ul_3 : decode jdk_52_method_6_code 3 = .ok (.ishr, 1) := by decide +kernel
theorem ul_4 : decode jdk_52_method_6_code 4 = .ok (.ireturn, 1) := by decide +kernel
theorem ef_ul (m : MethodId) (x0 : Addr) : entryFrame m #[.ref x0] 1 = mkF m 0 #[.val (.ref x0)] [] := by first | (simp [entryFrame, mkF, argsToLocals, Value.category, maxLocals]; done) | rfl
set_option maxRecDepth 65536 in
set_option maxHeartbeats 8000000 in
theorem t_len16 (l : Launch) {Z : State} {a0 : Array Value} {EL : List (String × Nat)} (hw : ∀ d ∈ tables_1, d.before a0 Z = true) (hEL : EW Z a0 EL) (cst : Cst Z) (fst : Fst Z) (ust : Ust Z) {h : Heap} (hO : Ext Z.heap h) {t : Addr} {bs : List Int32} (A : Ali Z h t .byte (bs.map Value.int)) :
    Met l Z EL [] (⟨"java/lang/StringUTF16", "length", "([B)I"⟩ : MethodName) jdk_52_method_6_code 1 (some .int) { frames := 0, cells := 0, slots := 0, locals := 0 } #[.ref t] h (Ret fun v h' => v = .int (Int32.ofNat (bs.length / 2)) ∧ h = h') := by
  refine Met.intro pn16 hEL hO ?_
  intro p e s m below meth c T W hby hml hret hnm
  have D : ∀ {pc : Nat} {r}, decode jdk_52_method_6_code pc = r → decode c.code pc = r := fun q => hb hby q
  refine Go.cast (ef_ul m t) ?_
  have l31 : bs.length < 2 ^ 31 := by obtain ⟨_, _, _, q⟩ := A; simpa using q
  refine g_aloadN W (pc' := 1) (D ul_0) rfl rfl (by first | rfl | assumption) ?_
  refine g_arraylength W (pc' := 2) (A) (z := Int32.ofNat bs.length) (by simp) (D ul_1) rfl ?_
  refine g_iconst W (pc' := 3) (D ul_2) rfl (v := (1 : Int32)) (by decide) ?_
  refine g_ishr W (pc' := 4) (D ul_3) rfl ?_
  rw [shr1 l31]
  exact g_reti W (D ul_4) hret (by decide) (by decide) ⟨_, rfl, rfl, rfl⟩
theorem pi_0 : decode jdk_41_method_11_code 0 = .ok (.iload_n 0, 1) := by decide +kernel
theorem pi_1 : decode jdk_41_method_11_code 1 = .ok (.ifCond .lt 8, 3) := by decide +kernel
theorem pi_4 : decode jdk_41_method_11_code 4 = .ok (.iload_n 0, 1) := by decide +kernel
theorem pi_5 : decode jdk_41_method_11_code 5 = .ok (.iload_n 1, 1) := by decide +kernel
theorem pi_6 : decode jdk_41_method_11_code 6 = .ok (.if_icmp .lt 10, 3) := by decide +kernel
theorem pi_16 : decode jdk_41_method_11_code 16 = .ok (.iload_n 0, 1) := by decide +kernel
theorem pi_17 : decode jdk_41_method_11_code 17 = .ok (.ireturn, 1) := by decide +kernel
theorem ef_pi (m : MethodId) (x0 : Int32) (x1 : Int32) (x2 : Addr) : entryFrame m #[.int x0, .int x1, .ref x2] 3 = mkF m 0 #[.val (.int x0), .val (.int x1), .val (.ref x2)] [] := by first | (simp [entryFrame, mkF, argsToLocals, Value.category, maxLocals]; done) | rfl
theorem ef_piN (m : MethodId) (x0 : Int32) (x1 : Int32) : entryFrame m #[.int x0, .int x1, .null] 3 = mkF m 0 #[.val (.int x0), .val (.int x1), .val .null] [] := by first | (simp [entryFrame, mkF, argsToLocals, Value.category, maxLocals]; done) | rfl
set_option maxRecDepth 65536 in
set_option maxHeartbeats 8000000 in
theorem t_pidx (l : Launch) {Z : State} {a0 : Array Value} {EL : List (String × Nat)} (hw : ∀ d ∈ tables_1, d.before a0 Z = true) (hEL : EW Z a0 EL) (cst : Cst Z) (fst : Fst Z) (ust : Ust Z) {h : Heap} (hO : Ext Z.heap h) {i n : Nat} (hi : i < n) (hn : n < 2 ^ 31) {q : Addr} :
    Met l Z EL [] (⟨"jdk/internal/util/Preconditions", "checkIndex", "(IILjava/util/function/BiFunction;)I"⟩ : MethodName) jdk_41_method_11_code 3 (some .int) { frames := 0, cells := 0, slots := 0, locals := 0 } #[.int (Int32.ofNat i), .int (Int32.ofNat n), (.ref q)] h (Ret fun v h' => h = h' ∧ ∃ z, v = .int z) := by
  refine Met.intro pnU hEL hO ?_
  intro p e s m below meth c T W hby hml hret hnm
  have D : ∀ {pc : Nat} {r}, decode jdk_41_method_11_code pc = r → decode c.code pc = r := fun q => hb hby q
  refine Go.cast (ef_pi m (Int32.ofNat i) (Int32.ofNat n) q) ?_
  refine g_iloadN W (pc' := 1) (D pi_0) rfl rfl ?_
  refine g_ifltN W (pc1 := 9) (pc2 := 4) (D pi_1) (by decide) (by decide) rfl (own_n0 (by omega)) ?_
  refine g_iloadN W (pc' := 5) (D pi_4) rfl rfl ?_
  refine g_iloadN W (pc' := 6) (D pi_5) rfl rfl ?_
  refine g_icmpltY W (pc1 := 16) (pc2 := 9) (D pi_6) (by decide) (by decide) rfl ((by rw [Int32.lt_iff_toInt_lt, Int32.toInt_ofNat_small hn, Int32.toInt_ofNat_small (by omega)]; omega)) ?_
  refine g_iloadN W (pc' := 17) (D pi_16) rfl rfl ?_
  exact g_reti W (D pi_17) hret (by decide) (by decide) ⟨_, rfl, rfl, _, rfl⟩
set_option maxRecDepth 65536 in
set_option maxHeartbeats 8000000 in
theorem t_pidxN (l : Launch) {Z : State} {a0 : Array Value} {EL : List (String × Nat)} (hw : ∀ d ∈ tables_1, d.before a0 Z = true) (hEL : EW Z a0 EL) (cst : Cst Z) (fst : Fst Z) (ust : Ust Z) {h : Heap} (hO : Ext Z.heap h) {i n : Nat} (hi : i < n) (hn : n < 2 ^ 31) :
    Met l Z EL [] (⟨"jdk/internal/util/Preconditions", "checkIndex", "(IILjava/util/function/BiFunction;)I"⟩ : MethodName) jdk_41_method_11_code 3 (some .int) { frames := 0, cells := 0, slots := 0, locals := 0 } #[.int (Int32.ofNat i), .int (Int32.ofNat n), .null] h (Ret fun v h' => h = h' ∧ ∃ z, v = .int z) := by
  refine Met.intro pnU hEL hO ?_
  intro p e s m below meth c T W hby hml hret hnm
  have D : ∀ {pc : Nat} {r}, decode jdk_41_method_11_code pc = r → decode c.code pc = r := fun q => hb hby q
  refine Go.cast (ef_piN m (Int32.ofNat i) (Int32.ofNat n)) ?_
  refine g_iloadN W (pc' := 1) (D pi_0) rfl rfl ?_
  refine g_ifltN W (pc1 := 9) (pc2 := 4) (D pi_1) (by decide) (by decide) rfl (own_n0 (by omega)) ?_
  refine g_iloadN W (pc' := 5) (D pi_4) rfl rfl ?_
  refine g_iloadN W (pc' := 6) (D pi_5) rfl rfl ?_
  refine g_icmpltY W (pc1 := 16) (pc2 := 9) (D pi_6) (by decide) (by decide) rfl ((by rw [Int32.lt_iff_toInt_lt, Int32.toInt_ofNat_small hn, Int32.toInt_ofNat_small (by omega)]; omega)) ?_
  refine g_iloadN W (pc' := 17) (D pi_16) rfl rfl ?_
  exact g_reti W (D pi_17) hret (by decide) (by decide) ⟨_, rfl, rfl, _, rfl⟩
theorem ck_0 : decode jdk_42_method_155_code 0 = .ok (.iload_n 0, 1) := by decide +kernel
theorem ck_1 : decode jdk_42_method_155_code 1 = .ok (.iload_n 1, 1) := by decide +kernel
theorem ck_2 : decode jdk_42_method_155_code 2 = .ok (.getstatic 1053, 3) := by decide +kernel
theorem ck_5 : decode jdk_42_method_155_code 5 = .ok (.invokestatic 1059, 3) := by decide +kernel
theorem ck_8 : decode jdk_42_method_155_code 8 = .ok (.pop, 1) := by decide +kernel
theorem ck_9 : decode jdk_42_method_155_code 9 = .ok (.return_, 1) := by decide +kernel
theorem ef_ck (m : MethodId) (x0 : Int32) (x1 : Int32) : entryFrame m #[.int x0, .int x1] 2 = mkF m 0 #[.val (.int x0), .val (.int x1)] [] := by first | (simp [entryFrame, mkF, argsToLocals, Value.category, maxLocals]; done) | rfl
set_option maxRecDepth 65536 in
set_option maxHeartbeats 8000000 in
theorem t_chk (l : Launch) {Z : State} {a0 : Array Value} {EL : List (String × Nat)} (hw : ∀ d ∈ tables_1, d.before a0 Z = true) (hEL : EW Z a0 EL) (cst : Cst Z) (fst : Fst Z) (ust : Ust Z) {h : Heap} (hO : Ext Z.heap h) {i n : Nat} (hi : i < n) (hn : n < 2 ^ 31) :
    Met l Z EL [] (⟨"java/lang/String", "checkIndex", "(II)V"⟩ : MethodName) jdk_42_method_155_code 2 none { frames := 1, cells := 0, slots := 0, locals := 14 } #[.int (Int32.ofNat i), .int (Int32.ofNat n)] h (Void fun h' => h = h') := by
  refine Met.intro pnS hEL hO ?_
  intro p e s m below meth c T W hby hml hret hnm
  have D : ∀ {pc : Nat} {r}, decode jdk_42_method_155_code pc = r → decode c.code pc = r := fun q => hb hby q
  refine Go.cast (ef_ck m (Int32.ofNat i) (Int32.ofNat n)) ?_
  obtain ⟨fm, Sf, rf⟩ := id fst
  refine g_iloadN W (pc' := 1) (D ck_0) rfl rfl ?_
  refine g_iloadN W (pc' := 2) (D ck_1) rfl rfl ?_
  refine g_getstatic W (pc' := 5) (host := "") (Or.inl (hI hw 139 rfl)) Via.refl (Sf.ext W.old) (D ck_2) rfl (fun T W => ?_)
  obtain rfl | ⟨q, rfl⟩ : fm = .null ∨ ∃ q, fm = .ref q := by cases fm <;> simp_all [Value.isRef]
  · refine g_callS W (t_pidxN l hw hEL cst fst ust W.old hi hn) (fun x q => nomatch q) (hI hw 141 rfl) (hI hw 142 rfl) (hI hw 140 rfl) (hI hw 143 rfl) (by decide) pd_22 (argsL := [_, _, _]) rfl rfl (pc' := 8) rfl (by rw [hml]; rfl) (D ck_5) rfl (Wn := 0) (Nat.le_refl _) (by decide) (by decide) (by decide) (by decide) (fun v T h1 W hg hQ => ?_)
    obtain ⟨rfl, z, rfl⟩ := hQ
    refine g_pop W (pc' := 9) (D ck_8) rfl rfl ?_
    exact g_return W (D ck_9) hret (by decide) (by decide) ⟨rfl, rfl⟩
  · refine g_callS W (t_pidx l hw hEL cst fst ust W.old hi hn) (fun x q => nomatch q) (hI hw 141 rfl) (hI hw 142 rfl) (hI hw 140 rfl) (hI hw 143 rfl) (by decide) pd_22 (argsL := [_, _, _]) rfl rfl (pc' := 8) rfl (by rw [hml]; rfl) (D ck_5) rfl (Wn := 0) (Nat.le_refl _) (by decide) (by decide) (by decide) (by decide) (fun v T h1 W hg hQ => ?_)
    obtain ⟨rfl, z, rfl⟩ := hQ
    refine g_pop W (pc' := 9) (D ck_8) rfl rfl ?_
    exact g_return W (D ck_9) hret (by decide) (by decide) ⟨rfl, rfl⟩
theorem cj_0 : decode jdk_52_method_91_code 0 = .ok (.iload_n 0, 1) := by decide +kernel
theorem cj_1 : decode jdk_52_method_91_code 1 = .ok (.aload_n 1, 1) := by decide +kernel
theorem cj_2 : decode jdk_52_method_91_code 2 = .ok (.invokestatic 48, 3) := by decide +kernel
theorem cj_5 : decode jdk_52_method_91_code 5 = .ok (.invokestatic 414, 3) := by decide +kernel
theorem cj_8 : decode jdk_52_method_91_code 8 = .ok (.return_, 1) := by decide +kernel
theorem ef_cj (m : MethodId) (x0 : Int32) (x1 : Addr) : entryFrame m #[.int x0, .ref x1] 2 = mkF m 0 #[.val (.int x0), .val (.ref x1)] [] := by first | (simp [entryFrame, mkF, argsToLocals, Value.category, maxLocals]; done) | rfl
set_option maxRecDepth 65536 in
set_option maxHeartbeats 8000000 in
theorem t_chk16 (l : Launch) {Z : State} {a0 : Array Value} {EL : List (String × Nat)} (hw : ∀ d ∈ tables_1, d.before a0 Z = true) (hEL : EW Z a0 EL) (cst : Cst Z) (fst : Fst Z) (ust : Ust Z) {h : Heap} (hO : Ext Z.heap h) {t : Addr} {bs : List Int32} (A : Ali Z h t .byte (bs.map Value.int)) {i : Nat} (hi : i < bs.length / 2) :
    Met l Z EL [] (⟨"java/lang/StringUTF16", "checkIndex", "(I[B)V"⟩ : MethodName) jdk_52_method_91_code 2 none { frames := 2, cells := 0, slots := 0, locals := 27 } #[.int (Int32.ofNat i), .ref t] h (Void fun h' => h = h') := by
  refine Met.intro pn16 hEL hO ?_
  intro p e s m below meth c T W hby hml hret hnm
  have D : ∀ {pc : Nat} {r}, decode jdk_52_method_91_code pc = r → decode c.code pc = r := fun q => hb hby q
  refine Go.cast (ef_cj m (Int32.ofNat i) t) ?_
  have l31 : bs.length < 2 ^ 31 := by obtain ⟨_, _, _, q⟩ := A; simpa using q
  refine g_iloadN W (pc' := 1) (D cj_0) rfl rfl ?_
  refine g_aloadN W (pc' := 2) (D cj_1) rfl rfl (by first | rfl | assumption) ?_
  refine g_callS W (t_len16 l hw hEL cst fst ust W.old A) (fun x q => nomatch q) (hI hw 248 rfl) (hI hw 249 rfl) (hI hw 111 rfl) (hI hw 250 rfl) (by decide) pd_23 (argsL := [_]) rfl rfl (pc' := 5) rfl (by rw [hml]; rfl) (D cj_2) rfl (Wn := 1) (Nat.le_refl _) (by decide) (by decide) (by decide) (by decide) (fun v T h1 W hg hQ => ?_)
  obtain ⟨rfl, rfl⟩ := hQ
  refine g_callSV W (t_chk l hw hEL cst fst ust W.old hi (by omega)) (fun x q => nomatch q) (hI hw 251 rfl) (hI hw 137 rfl) (hI hw 6 rfl) (hI hw 138 rfl) (by decide) pd_17 (argsL := [_, _]) rfl rfl (pc' := 8) rfl (by rw [hml]; rfl) (D cj_5) rfl (Wn := 0) (Nat.le_refl _) (by decide) (by decide) (by decide) (by decide) (fun T h1 W hg hQ => ?_)
  subst hQ
  exact g_return W (D cj_8) hret (by decide) (by decide) ⟨rfl, rfl⟩
theorem ca_0 : decode jdk_52_method_83_code 0 = .ok (.iload_n 1, 1) := by decide +kernel
theorem ca_1 : decode jdk_52_method_83_code 1 = .ok (.aload_n 0, 1) := by decide +kernel
theorem ca_2 : decode jdk_52_method_83_code 2 = .ok (.invokestatic 67, 3) := by decide +kernel
theorem ca_5 : decode jdk_52_method_83_code 5 = .ok (.aload_n 0, 1) := by decide +kernel
theorem ca_6 : decode jdk_52_method_83_code 6 = .ok (.iload_n 1, 1) := by decide +kernel
theorem ca_7 : decode jdk_52_method_83_code 7 = .ok (.invokestatic 71, 3) := by decide +kernel
theorem ca_10 : decode jdk_52_method_83_code 10 = .ok (.ireturn, 1) := by decide +kernel
theorem ef_ca (m : MethodId) (x0 : Addr) (x1 : Int32) : entryFrame m #[.ref x0, .int x1] 2 = mkF m 0 #[.val (.ref x0), .val (.int x1)] [] := by first | (simp [entryFrame, mkF, argsToLocals, Value.category, maxLocals]; done) | rfl
set_option maxRecDepth 65536 in
set_option maxHeartbeats 8000000 in
theorem t_charAt16 (l : Launch) {Z : State} {a0 : Array Value} {EL : List (String × Nat)} (hw : ∀ d ∈ tables_1, d.before a0 Z = true) (hEL : EW Z a0 EL) (cst : Cst Z) (fst : Fst Z) (ust : Ust Z) {h : Heap} (hO : Ext Z.heap h) {t : Addr} {bs : List Int32} (A : Ali Z h t .byte (bs.map Value.int)) {i : Nat} (hi2 : 2 * i + 1 < bs.length) {ch : Int32} (hc : Wc ch) (e1 : bs.getD (2 * i) 0 = lo ch) (e2 : bs.getD (2 * i + 1) 0 = hi ch) :
    Met l Z EL [] (⟨"java/lang/StringUTF16", "charAt", "([BI)C"⟩ : MethodName) jdk_52_method_83_code 2 (some .char) { frames := 3, cells := 0, slots := 0, locals := 40 } #[.ref t, .int (Int32.ofNat i)] h (Ret fun v h' => v = .int ch ∧ h = h') := by
  refine Met.intro pn16 hEL hO ?_
  intro p e s m below meth c T W hby hml hret hnm
  have D : ∀ {pc : Nat} {r}, decode jdk_52_method_83_code pc = r → decode c.code pc = r := fun q => hb hby q
  refine Go.cast (ef_ca m t (Int32.ofNat i)) ?_
  refine g_iloadN W (pc' := 1) (D ca_0) rfl rfl ?_
  refine g_aloadN W (pc' := 2) (D ca_1) rfl rfl (by first | rfl | assumption) ?_
  refine g_callSV W (t_chk16 l hw hEL cst fst ust W.old A (i := i) (by omega)) (fun x q => nomatch q) (hI hw 245 rfl) (hI hw 246 rfl) (hI hw 111 rfl) (hI hw 247 rfl) (by decide) pd_24 (argsL := [_, _]) rfl rfl (pc' := 5) rfl (by rw [hml]; rfl) (D ca_2) rfl (Wn := 0) (Nat.le_refl _) (by decide) (by decide) (by decide) (by decide) (fun T h1 W hg hQ => ?_)
  subst hQ
  refine g_aloadN W (pc' := 6) (D ca_5) rfl rfl (by first | rfl | assumption) ?_
  refine g_iloadN W (pc' := 7) (D ca_6) rfl rfl ?_
  refine g_callS W (t_getChar l hw hEL cst fst ust W.old A hi2 hc e1 e2) (fun x q => nomatch q) (hI hw 239 rfl) (hI hw 240 rfl) (hI hw 111 rfl) (hI hw 241 rfl) (by decide) pd_25 (argsL := [_, _]) rfl rfl (pc' := 10) rfl (by rw [hml]; rfl) (D ca_7) rfl (Wn := 0) (Nat.le_refl _) (by decide) (by decide) (by decide) (by decide) (fun v T h1 W hg hQ => ?_)
  obtain ⟨rfl, rfl⟩ := hQ
  exact g_retc W (D ca_10) hret (by show Value.int (Jvm.RoadKit.nar .char ch) = _; rw [show Jvm.RoadKit.nar .char ch = ch from nar_char hc.1 hc.2]) (by decide) (by decide) ⟨_, rfl, rfl, rfl⟩
theorem pb_0 : decode jdk_52_method_71_code 0 = .ok (.iload_n 1, 1) := by decide +kernel
theorem pb_1 : decode jdk_52_method_71_code 1 = .ok (.aload_n 0, 1) := by decide +kernel
theorem pb_2 : decode jdk_52_method_71_code 2 = .ok (.invokestatic 67, 3) := by decide +kernel
theorem pb_5 : decode jdk_52_method_71_code 5 = .ok (.aload_n 0, 1) := by decide +kernel
theorem pb_6 : decode jdk_52_method_71_code 6 = .ok (.iload_n 1, 1) := by decide +kernel
theorem pb_7 : decode jdk_52_method_71_code 7 = .ok (.iload_n 2, 1) := by decide +kernel
theorem pb_8 : decode jdk_52_method_71_code 8 = .ok (.invokestatic 111, 3) := by decide +kernel
theorem pb_11 : decode jdk_52_method_71_code 11 = .ok (.return_, 1) := by decide +kernel
theorem ef_pb (m : MethodId) (x0 : Addr) (x1 : Int32) (x2 : Int32) : entryFrame m #[.ref x0, .int x1, .int x2] 3 = mkF m 0 #[.val (.ref x0), .val (.int x1), .val (.int x2)] [] := by first | (simp [entryFrame, mkF, argsToLocals, Value.category, maxLocals]; done) | rfl
set_option maxRecDepth 65536 in
set_option maxHeartbeats 8000000 in
theorem t_putCharSB (l : Launch) {Z : State} {a0 : Array Value} {EL : List (String × Nat)} (hw : ∀ d ∈ tables_1, d.before a0 Z = true) (hEL : EW Z a0 EL) (cst : Cst Z) (fst : Fst Z) (ust : Ust Z) {h : Heap} (hO : Ext Z.heap h) {t : Addr} {bs : List Int32} (A : Ali Z h t .byte (bs.map Value.int)) (hz : Z.heap.size ≤ t) {i : Nat} (hi2 : 2 * i + 1 < bs.length) {ch : Int32} :
    Met l Z EL [t] (⟨"java/lang/StringUTF16", "putCharSB", "([BII)V"⟩ : MethodName) jdk_52_method_71_code 3 none { frames := 3, cells := 0, slots := 0, locals := 40 } #[.ref t, .int (Int32.ofNat i), .int ch] h (Void fun h' => Keep h h' [t] ∧ Ali Z h' t .byte (((bs.set (2 * i) (lo ch)).set (2 * i + 1) (hi ch)).map Value.int)) := by
  refine Met.intro pn16 hEL hO ?_
  intro p e s m below meth c T W hby hml hret hnm
  have D : ∀ {pc : Nat} {r}, decode jdk_52_method_71_code pc = r → decode c.code pc = r := fun q => hb hby q
  refine Go.cast (ef_pb m t (Int32.ofNat i) ch) ?_
  refine g_iloadN W (pc' := 1) (D pb_0) rfl rfl ?_
  refine g_aloadN W (pc' := 2) (D pb_1) rfl rfl (by first | rfl | assumption) ?_
  refine g_callSV W (t_chk16 l hw hEL cst fst ust W.old A (i := i) (by omega)) (fun x q => nomatch q) (hI hw 245 rfl) (hI hw 246 rfl) (hI hw 111 rfl) (hI hw 247 rfl) (by decide) pd_24 (argsL := [_, _]) rfl rfl (pc' := 5) rfl (by rw [hml]; rfl) (D pb_2) rfl (Wn := 0) (Nat.le_refl _) (by decide) (by decide) (by decide) (by decide) (fun T h1 W hg hQ => ?_)
  subst hQ
  refine g_aloadN W (pc' := 6) (D pb_5) rfl rfl (by first | rfl | assumption) ?_
  refine g_iloadN W (pc' := 7) (D pb_6) rfl rfl ?_
  refine g_iloadN W (pc' := 8) (D pb_7) rfl rfl ?_
  refine g_callSV W (t_putChar l hw hEL cst fst ust W.old A hz hi2 (ch := ch)) (fun y q => q) (hI hw 233 rfl) (hI hw 234 rfl) (hI hw 111 rfl) (hI hw 235 rfl) (by decide) pd_26 (argsL := [_, _, _]) rfl rfl (pc' := 11) rfl (by rw [hml]; rfl) (D pb_8) rfl (Wn := 0) (Nat.le_refl _) (by decide) (by decide) (by decide) (by decide) (fun T h1 W hg hQ => ?_)
  exact g_return W (D pb_11) hret (by decide) (by decide) ⟨rfl, hQ⟩
theorem nb_0 : decode jdk_52_method_3_code 0 = .ok (.iload_n 0, 1) := by decide +kernel
theorem nb_1 : decode jdk_52_method_3_code 1 = .ok (.ifCond .ge 11, 3) := by decide +kernel
theorem nb_12 : decode jdk_52_method_3_code 12 = .ok (.iload_n 0, 1) := by decide +kernel
theorem nb_13 : decode jdk_52_method_3_code 13 = .ok (.ldc 20, 2) := by decide +kernel
theorem nb_15 : decode jdk_52_method_3_code 15 = .ok (.if_icmp .lt 40, 3) := by decide +kernel
theorem nb_55 : decode jdk_52_method_3_code 55 = .ok (.iload_n 0, 1) := by decide +kernel
theorem nb_56 : decode jdk_52_method_3_code 56 = .ok (.iconst 1, 1) := by decide +kernel
theorem nb_57 : decode jdk_52_method_3_code 57 = .ok (.ishl, 1) := by decide +kernel
theorem nb_58 : decode jdk_52_method_3_code 58 = .ok (.ireturn, 1) := by decide +kernel
theorem ef_nb (m : MethodId) (x0 : Int32) : entryFrame m #[.int x0] 1 = mkF m 0 #[.val (.int x0)] [] := by first | (simp [entryFrame, mkF, argsToLocals, Value.category, maxLocals]; done) | rfl
set_option maxRecDepth 65536 in
set_option maxHeartbeats 8000000 in
theorem t_nbLen (l : Launch) {Z : State} {a0 : Array Value} {EL : List (String × Nat)} (hw : ∀ d ∈ tables_1, d.before a0 Z = true) (hEL : EW Z a0 EL) (cst : Cst Z) (fst : Fst Z) (ust : Ust Z) {h : Heap} (hO : Ext Z.heap h) {n : Nat} (hn : n ≤ 64) :
    Met l Z EL [] (⟨"java/lang/StringUTF16", "newBytesLength", "(I)I"⟩ : MethodName) jdk_52_method_3_code 1 (some .int) { frames := 0, cells := 0, slots := 0, locals := 0 } #[.int (Int32.ofNat n)] h (Ret fun v h' => v = .int (Int32.ofNat (2 * n)) ∧ h = h') := by
  refine Met.intro pn16 hEL hO ?_
  intro p e s m below meth c T W hby hml hret hnm
  have D : ∀ {pc : Nat} {r}, decode jdk_52_method_3_code pc = r → decode c.code pc = r := fun q => hb hby q
  refine Go.cast (ef_nb m (Int32.ofNat n)) ?_
  refine g_iloadN W (pc' := 1) (D nb_0) rfl rfl ?_
  refine g_ifgeY W (pc1 := 12) (pc2 := 4) (D nb_1) (by decide) (by decide) rfl (own_n0 (by omega)) ?_
  refine g_iloadN W (pc' := 13) (D nb_12) rfl rfl ?_
  refine g_ldcI W (pc' := 15) (hI hw 232 rfl) (D nb_13) rfl ?_
  refine g_icmpltY W (pc1 := 55) (pc2 := 18) (D nb_15) (by decide) (by decide) rfl ((by rw [Int32.lt_iff_toInt_lt, Int32.toInt_ofNat_small (by omega)]; have e0 : (1073741823 : Int32).toInt = 1073741823 := rfl; omega)) ?_
  refine g_iloadN W (pc' := 56) (D nb_55) rfl rfl ?_
  refine g_iconst W (pc' := 57) (D nb_56) rfl (v := (1 : Int32)) (by decide) ?_
  refine g_ishl W (pc' := 58) (D nb_57) rfl ?_
  rw [shl1 (by omega)]
  exact g_reti W (D nb_58) hret (by decide) (by decide) ⟨_, rfl, rfl, rfl⟩
theorem nf2_0 : decode jdk_52_method_2_code 0 = .ok (.iload_n 0, 1) := by decide +kernel
theorem nf2_1 : decode jdk_52_method_2_code 1 = .ok (.invokestatic 11, 3) := by decide +kernel
theorem nf2_4 : decode jdk_52_method_2_code 4 = .ok (.newarray .byte, 2) := by decide +kernel
theorem nf2_6 : decode jdk_52_method_2_code 6 = .ok (.areturn, 1) := by decide +kernel
theorem ef_nf2 (m : MethodId) (x0 : Int32) : entryFrame m #[.int x0] 1 = mkF m 0 #[.val (.int x0)] [] := by first | (simp [entryFrame, mkF, argsToLocals, Value.category, maxLocals]; done) | rfl
set_option maxRecDepth 65536 in
set_option maxHeartbeats 8000000 in
theorem t_nbFor (l : Launch) {Z : State} {a0 : Array Value} {EL : List (String × Nat)} (hw : ∀ d ∈ tables_1, d.before a0 Z = true) (hEL : EW Z a0 EL) (cst : Cst Z) (fst : Fst Z) (ust : Ust Z) {h : Heap} (hO : Ext Z.heap h) {n : Nat} (hn : n ≤ 64) :
    Met l Z EL [] (⟨"java/lang/StringUTF16", "newBytesFor", "(I)[B"⟩ : MethodName) jdk_52_method_2_code 1 (some (.array .byte)) { frames := 1, cells := 1, slots := 128, locals := 12 } #[.int (Int32.ofNat n)] h (RetF fun v h' FF => ∃ b, FF = [b] ∧ v = .ref b ∧ h.size ≤ b ∧ Ext h h' ∧ Exa Z h' b "[B" ∧ Ali Z h' b .byte ((List.replicate (2 * n) (0 : Int32)).map Value.int)) := by
  refine Met.intro pn16 hEL hO ?_
  intro p e s m below meth c T W hby hml hret hnm
  have D : ∀ {pc : Nat} {r}, decode jdk_52_method_2_code pc = r → decode c.code pc = r := fun q => hb hby q
  refine Go.cast (ef_nf2 m (Int32.ofNat n)) ?_
  refine g_iloadN W (pc' := 1) (D nf2_0) rfl rfl ?_
  refine g_callS W (t_nbLen l hw hEL cst fst ust W.old hn) (fun x q => nomatch q) (hI hw 229 rfl) (hI hw 230 rfl) (hI hw 111 rfl) (hI hw 231 rfl) (by decide) pd_7 (argsL := [_]) rfl rfl (pc' := 4) rfl (by rw [hml]; rfl) (D nf2_1) rfl (Wn := 0) (Nat.le_refl _) (by decide) (by decide) (by decide) (by decide) (fun v T h1 W hg hQ => ?_)
  obtain ⟨rfl, rfl⟩ := hQ
  refine g_newarrayB W (pc' := 6) (i := 2 * n) (own_n0 (by omega)) (own_n32 (by omega)) (hI hw 19 rfl) (D nf2_4) rfl (cap := 128) (by omega) (by decide) (by decide) (by decide) (fun b T h1 hb W E1 Ab => ?_)
  exact g_areturnF W (D nf2_6) hret rfl rfl (by decide) (by decide) (FF := [b]) (fun z hz => by cases List.mem_singleton.mp hz; exact List.mem_cons_self ..) ⟨_, rfl, b, rfl, rfl, hb, E1, Ab.2, Ab.1⟩
/-! UTF16 Strings -/
def Str16 (Z : State) (h : Heap) (a : Addr) (cs : List Int32) : Prop :=
  Exa Z h a "java/lang/String" ∧ Fld Z h a "java/lang/String" "coder" "B" (.int 1) ∧ (∃ t, Fld Z h a "java/lang/String" "value" "[B" (.ref t) ∧ Ali Z h t .byte ((w16 cs).map Value.int)) ∧ (∀ c ∈ cs, Wc c) ∧ cs.length ≤ 4000
theorem Str16.ext {Z : State} {h h' : Heap} {a : Addr} {cs : List Int32} (E : Ext h h') (S : Str16 Z h a cs) : Str16 Z h' a cs := by
  obtain ⟨s1, s2, ⟨t, s3, s4⟩, r⟩ := S
  exact ⟨s1.ext E, s2.ext E, ⟨t, s3.ext E, s4.ext E⟩, r⟩
/-- a String of either coder -/
def StrG (Z : State) (h : Heap) (a : Addr) (cs : List Int32) : Prop := Str Z h a cs ∨ Str16 Z h a cs
theorem StrG.ext {Z : State} {h h' : Heap} {a : Addr} {cs : List Int32} (E : Ext h h') (S : StrG Z h a cs) : StrG Z h' a cs := S.elim (fun q => Or.inl (q.ext E)) (fun q => Or.inr (q.ext E))
theorem StrG.exa {Z : State} {h : Heap} {a : Addr} {cs : List Int32} (S : StrG Z h a cs) : Exa Z h a "java/lang/String" := S.elim (fun q => q.1) (fun q => q.1)
theorem StrG.wide {Z : State} {h : Heap} {a : Addr} {cs : List Int32} (S : StrG Z h a cs) : ∀ c ∈ cs, Wc c := S.elim (fun q c hc => Lc.wc (q.2.2.2.1 c hc)) (fun q => q.2.2.2.1)
theorem StrG.short {Z : State} {h : Heap} {a : Addr} {cs : List Int32} (S : StrG Z h a cs) : cs.length ≤ 4000 := S.elim (fun q => q.2.2.2.2) (fun q => q.2.2.2.2)
theorem wide_get {cs : List Int32} (h : ∀ c ∈ cs, Wc c) (i : Nat) : Wc (cs.getD i 0) := by
  rcases Nat.lt_or_ge i cs.length with q | q
  · have e : cs.getD i 0 = cs[i] := by simp [q]
    rw [e]; exact h _ (List.getElem_mem _)
  · have e : cs.getD i 0 = 0 := by simp [List.getElem?_eq_none q]
    rw [e]; exact ⟨by decide, by decide⟩
theorem lo_and {c : Int32} (h : Lc c) : (lo c &&& 255).toUInt32.toUInt16.toUInt32.toInt32 = c := by
  have a1 := c_mask (lo c) 255 8 (by decide) (by decide)
  have b1 := c_i2b c
  have f1 : c.toInt8.toInt32 = lo c := rfl
  rw [f1] at b1
  have h0 := h.1
  have h1 := h.2
  rw [Int32.lt_iff_toInt_lt] at h0 h1
  have e0 : (0 : Int32).toInt = 0 := rfl
  have e1 : (255 : Int32).toInt = 255 := rfl
  have k := c_i2c (lo c &&& 255)
  apply Int32.toInt_inj.mp
  omega
theorem nar_w {ch : Int32} (hc : Wc ch) : narrow .char (.int ch) = .int ch := by show Value.int (Jvm.RoadKit.nar .char ch) = _; rw [show Jvm.RoadKit.nar .char ch = ch from nar_char hc.1 hc.2]
set_option maxRecDepth 65536 in
set_option maxHeartbeats 8000000 in
theorem t_coder16 (l : Launch) {Z : State} {a0 : Array Value} {EL : List (String × Nat)} (hw : ∀ d ∈ tables_1, d.before a0 Z = true) (hEL : EW Z a0 EL) (cst : Cst Z) (fst : Fst Z) (ust : Ust Z) {h : Heap} (hO : Ext Z.heap h) {y : Addr} {cs : List Int32} (S : Str16 Z h y cs) :
    Met l Z EL [] (⟨"java/lang/String", "coder", "()B"⟩ : MethodName) jdk_42_method_152_code 1 (some .byte) { frames := 0, cells := 0, slots := 0, locals := 0 } #[.ref y] h (Ret fun v h' => v = .int 1 ∧ h = h') := by
  refine Met.intro pnS hEL hO ?_
  intro p e s m below meth c T W hby hml hret hnm
  have D : ∀ {pc : Nat} {r}, decode jdk_42_method_152_code pc = r → decode c.code pc = r := fun q => hb hby q
  refine Go.cast (efCd m y) ?_
  obtain ⟨zc, Sc, hzc⟩ := cst
  refine g_getstatic W (pc' := 3) (host := "") (Or.inl (hI hw 43 rfl)) Via.refl (Sc.ext W.old) (D cd_0) rfl (fun T W => ?_)
  refine g_ifeqN W (pc1 := 13) (pc2 := 6) (D cd_3) (by decide) (by decide) rfl (hzc) ?_
  refine g_aloadN W (pc' := 7) (D cd_6) rfl rfl (by first | rfl | assumption) ?_
  refine g_getfield W (pc' := 10) (host := "") (Or.inl (hI hw 25 rfl)) Via.refl (S.2.1) (D cd_7) rfl (fun T W => ?_)
  refine g_goto W (pc' := 14) (D cd_10) (by decide) (by decide) ?_
  exact g_ret W (D cd_14) hret rfl (Or.inl ⟨rfl, Or.inr (Or.inr (Or.inl rfl)), 1, rfl⟩) (by decide) (by decide) ⟨_, rfl, rfl, rfl⟩
theorem sl_0 : decode jdk_42_method_154_code 0 = .ok (.getstatic 38, 3) := by decide +kernel
theorem sl_3 : decode jdk_42_method_154_code 3 = .ok (.ifCond .eq 14, 3) := by decide +kernel
theorem sl_6 : decode jdk_42_method_154_code 6 = .ok (.aload_n 0, 1) := by decide +kernel
theorem sl_7 : decode jdk_42_method_154_code 7 = .ok (.getfield 15, 3) := by decide +kernel
theorem sl_10 : decode jdk_42_method_154_code 10 = .ok (.ifCond .ne 7, 3) := by decide +kernel
theorem sl_13 : decode jdk_42_method_154_code 13 = .ok (.iconst 1, 1) := by decide +kernel
theorem sl_14 : decode jdk_42_method_154_code 14 = .ok (.goto 4, 3) := by decide +kernel
theorem sl_17 : decode jdk_42_method_154_code 17 = .ok (.iconst 0, 1) := by decide +kernel
theorem sl_18 : decode jdk_42_method_154_code 18 = .ok (.ireturn, 1) := by decide +kernel
theorem ef_sl (m : MethodId) (x0 : Addr) : entryFrame m #[.ref x0] 1 = mkF m 0 #[.val (.ref x0)] [] := by first | (simp [entryFrame, mkF, argsToLocals, Value.category, maxLocals]; done) | rfl
set_option maxRecDepth 65536 in
set_option maxHeartbeats 8000000 in
theorem t_isLatL (l : Launch) {Z : State} {a0 : Array Value} {EL : List (String × Nat)} (hw : ∀ d ∈ tables_1, d.before a0 Z = true) (hEL : EW Z a0 EL) (cst : Cst Z) (fst : Fst Z) (ust : Ust Z) {h : Heap} (hO : Ext Z.heap h) {y : Addr} {cs : List Int32} (S : Str Z h y cs) :
    Met l Z EL [] (⟨"java/lang/String", "isLatin1", "()Z"⟩ : MethodName) jdk_42_method_154_code 1 (some .boolean) { frames := 0, cells := 0, slots := 0, locals := 0 } #[.ref y] h (Ret fun v h' => v = .int 1 ∧ h = h') := by
  refine Met.intro pnS hEL hO ?_
  intro p e s m below meth c T W hby hml hret hnm
  have D : ∀ {pc : Nat} {r}, decode jdk_42_method_154_code pc = r → decode c.code pc = r := fun q => hb hby q
  refine Go.cast (ef_sl m y) ?_
  obtain ⟨zc, Sc, hzc⟩ := cst
  refine g_getstatic W (pc' := 3) (host := "") (Or.inl (hI hw 43 rfl)) Via.refl (Sc.ext W.old) (D sl_0) rfl (fun T W => ?_)
  refine g_ifeqN W (pc1 := 17) (pc2 := 6) (D sl_3) (by decide) (by decide) rfl (hzc) ?_
  refine g_aloadN W (pc' := 7) (D sl_6) rfl rfl (by first | rfl | assumption) ?_
  refine g_getfield W (pc' := 10) (host := "") (Or.inl (hI hw 25 rfl)) Via.refl (S.2.1) (D sl_7) rfl (fun T W => ?_)
  refine g_ifneN W (pc1 := 17) (pc2 := 13) (D sl_10) (by decide) (by decide) rfl (rfl) ?_
  refine g_iconst W (pc' := 14) (D sl_13) rfl (v := (1 : Int32)) (by decide) ?_
  refine g_goto W (pc' := 18) (D sl_14) (by decide) (by decide) ?_
  exact g_retz W (D sl_18) hret (Or.inr rfl) (by decide) (by decide) ⟨_, rfl, rfl, rfl⟩
set_option maxRecDepth 65536 in
set_option maxHeartbeats 8000000 in
theorem t_isLatW (l : Launch) {Z : State} {a0 : Array Value} {EL : List (String × Nat)} (hw : ∀ d ∈ tables_1, d.before a0 Z = true) (hEL : EW Z a0 EL) (cst : Cst Z) (fst : Fst Z) (ust : Ust Z) {h : Heap} (hO : Ext Z.heap h) {y : Addr} {cs : List Int32} (S : Str16 Z h y cs) :
    Met l Z EL [] (⟨"java/lang/String", "isLatin1", "()Z"⟩ : MethodName) jdk_42_method_154_code 1 (some .boolean) { frames := 0, cells := 0, slots := 0, locals := 0 } #[.ref y] h (Ret fun v h' => v = .int 0 ∧ h = h') := by
  refine Met.intro pnS hEL hO ?_
  intro p e s m below meth c T W hby hml hret hnm
  have D : ∀ {pc : Nat} {r}, decode jdk_42_method_154_code pc = r → decode c.code pc = r := fun q => hb hby q
  refine Go.cast (ef_sl m y) ?_
  obtain ⟨zc, Sc, hzc⟩ := cst
  refine g_getstatic W (pc' := 3) (host := "") (Or.inl (hI hw 43 rfl)) Via.refl (Sc.ext W.old) (D sl_0) rfl (fun T W => ?_)
  refine g_ifeqN W (pc1 := 17) (pc2 := 6) (D sl_3) (by decide) (by decide) rfl (hzc) ?_
  refine g_aloadN W (pc' := 7) (D sl_6) rfl rfl (by first | rfl | assumption) ?_
  refine g_getfield W (pc' := 10) (host := "") (Or.inl (hI hw 25 rfl)) Via.refl (S.2.1) (D sl_7) rfl (fun T W => ?_)
  refine g_ifneY W (pc1 := 17) (pc2 := 13) (D sl_10) (by decide) (by decide) rfl (by decide) ?_
  refine g_iconst W (pc' := 18) (D sl_17) rfl (v := (0 : Int32)) (by decide) ?_
  exact g_retz W (D sl_18) hret (Or.inl rfl) (by decide) (by decide) ⟨_, rfl, rfl, rfl⟩
theorem sn_0 : decode jdk_42_method_54_code 0 = .ok (.aload_n 0, 1) := by decide +kernel
theorem sn_1 : decode jdk_42_method_54_code 1 = .ok (.getfield 9, 3) := by decide +kernel
theorem sn_4 : decode jdk_42_method_54_code 4 = .ok (.arraylength, 1) := by decide +kernel
theorem sn_5 : decode jdk_42_method_54_code 5 = .ok (.aload_n 0, 1) := by decide +kernel
theorem sn_6 : decode jdk_42_method_54_code 6 = .ok (.invokevirtual 335, 3) := by decide +kernel
theorem sn_9 : decode jdk_42_method_54_code 9 = .ok (.ishr, 1) := by decide +kernel
theorem sn_10 : decode jdk_42_method_54_code 10 = .ok (.ireturn, 1) := by decide +kernel
theorem ef_sn (m : MethodId) (x0 : Addr) : entryFrame m #[.ref x0] 1 = mkF m 0 #[.val (.ref x0)] [] := by first | (simp [entryFrame, mkF, argsToLocals, Value.category, maxLocals]; done) | rfl
set_option maxRecDepth 65536 in
set_option maxHeartbeats 8000000 in
theorem t_lenG (l : Launch) {Z : State} {a0 : Array Value} {EL : List (String × Nat)} (hw : ∀ d ∈ tables_1, d.before a0 Z = true) (hEL : EW Z a0 EL) (cst : Cst Z) (fst : Fst Z) (ust : Ust Z) {h : Heap} (hO : Ext Z.heap h) {y : Addr} {cs : List Int32} (S : StrG Z h y cs) :
    Met l Z EL [] (⟨"java/lang/String", "length", "()I"⟩ : MethodName) jdk_42_method_54_code 1 (some .int) { frames := 1, cells := 0, slots := 0, locals := 13 } #[.ref y] h (Ret fun v h' => v = .int (Int32.ofNat cs.length) ∧ h = h') := by
  refine Met.intro pnS hEL hO ?_
  intro p e s m below meth c T W hby hml hret hnm
  have D : ∀ {pc : Nat} {r}, decode jdk_42_method_54_code pc = r → decode c.code pc = r := fun q => hb hby q
  refine Go.cast (ef_sn m y) ?_
  have h4 := S.short
  refine g_aloadN W (pc' := 1) (D sn_0) rfl rfl (by first | rfl | assumption) ?_
  rcases S with S | S
  · have S0 := S
    obtain ⟨s1, s2, ⟨t, s3, s4⟩, s5, s6⟩ := S
    refine g_getfield W (pc' := 4) (host := "") (Or.inl (hI hw 24 rfl)) Via.refl (s3) (D sn_1) rfl (fun T W => ?_)
    refine g_arraylength W (pc' := 5) (s4) (z := Int32.ofNat cs.length) (by simp) (D sn_4) rfl ?_
    refine g_aloadN W (pc' := 6) (D sn_5) rfl rfl (by first | rfl | assumption) ?_
    refine g_virt W (t_coder l hw hEL cst W.old S0) (fun x q => nomatch q) ⟨_, _, rfl, (hI hw 41 rfl)⟩ (hI hw 38 rfl) (hI hw 39 rfl) (hI hw 41 rfl) (hI hw 40 rfl) (hI hw 6 rfl) (hI hw 42 rfl) (by decide) pd_9 (s1) (argsL := []) rfl rfl (pc' := 9) rfl (by rw [hml]; rfl) (D sn_6) rfl (Wn := 1) (Nat.le_refl _) (by decide) (by decide) (by decide) (by decide) (fun v T h1 W hg hQ => ?_)
    obtain ⟨rfl, rfl⟩ := hQ
    refine g_ishr W (pc' := 10) (D sn_9) rfl ?_
    rw [shr0]
    exact g_reti W (D sn_10) hret (by decide) (by decide) ⟨_, rfl, rfl, rfl⟩
  · have S0 := S
    obtain ⟨s1, s2, ⟨t, s3, s4⟩, s5, s6⟩ := S
    refine g_getfield W (pc' := 4) (host := "") (Or.inl (hI hw 24 rfl)) Via.refl (s3) (D sn_1) rfl (fun T W => ?_)
    refine g_arraylength W (pc' := 5) (s4) (z := Int32.ofNat (2 * cs.length)) (by rw [List.length_map, w16_len]) (D sn_4) rfl ?_
    refine g_aloadN W (pc' := 6) (D sn_5) rfl rfl (by first | rfl | assumption) ?_
    refine g_virt W (t_coder16 l hw hEL cst fst ust W.old S0) (fun x q => nomatch q) ⟨_, _, rfl, (hI hw 41 rfl)⟩ (hI hw 38 rfl) (hI hw 39 rfl) (hI hw 41 rfl) (hI hw 40 rfl) (hI hw 6 rfl) (hI hw 42 rfl) (by decide) pd_9 (s1) (argsL := []) rfl rfl (pc' := 9) rfl (by rw [hml]; rfl) (D sn_6) rfl (Wn := 1) (Nat.le_refl _) (by decide) (by decide) (by decide) (by decide) (fun v T h1 W hg hQ => ?_)
    obtain ⟨rfl, rfl⟩ := hQ
    refine g_ishr W (pc' := 10) (D sn_9) rfl ?_
    rw [shr1 (by omega), Nat.mul_div_cancel_left _ (by decide : 0 < 2)]
    exact g_reti W (D sn_10) hret (by decide) (by decide) ⟨_, rfl, rfl, rfl⟩
theorem lc_0 : decode jdk_43_method_2_code 0 = .ok (.iload_n 1, 1) := by decide +kernel
theorem lc_1 : decode jdk_43_method_2_code 1 = .ok (.aload_n 0, 1) := by decide +kernel
theorem lc_2 : decode jdk_43_method_2_code 2 = .ok (.arraylength, 1) := by decide +kernel
theorem lc_3 : decode jdk_43_method_2_code 3 = .ok (.invokestatic 9, 3) := by decide +kernel
theorem lc_6 : decode jdk_43_method_2_code 6 = .ok (.aload_n 0, 1) := by decide +kernel
theorem lc_7 : decode jdk_43_method_2_code 7 = .ok (.iload_n 1, 1) := by decide +kernel
theorem lc_8 : decode jdk_43_method_2_code 8 = .ok (.baload, 1) := by decide +kernel
theorem lc_9 : decode jdk_43_method_2_code 9 = .ok (.sipush 255, 3) := by decide +kernel
theorem lc_12 : decode jdk_43_method_2_code 12 = .ok (.iand, 1) := by decide +kernel
theorem lc_13 : decode jdk_43_method_2_code 13 = .ok (.i2c, 1) := by decide +kernel
theorem lc_14 : decode jdk_43_method_2_code 14 = .ok (.ireturn, 1) := by decide +kernel
theorem ef_lc (m : MethodId) (x0 : Addr) (x1 : Int32) : entryFrame m #[.ref x0, .int x1] 2 = mkF m 0 #[.val (.ref x0), .val (.int x1)] [] := by first | (simp [entryFrame, mkF, argsToLocals, Value.category, maxLocals]; done) | rfl
set_option maxRecDepth 65536 in
set_option maxHeartbeats 8000000 in
theorem t_charAtL (l : Launch) {Z : State} {a0 : Array Value} {EL : List (String × Nat)} (hw : ∀ d ∈ tables_1, d.before a0 Z = true) (hEL : EW Z a0 EL) (cst : Cst Z) (fst : Fst Z) (ust : Ust Z) {h : Heap} (hO : Ext Z.heap h) {t : Addr} {cs : List Int32} (A : Ali Z h t .byte ((cs.map lo).map Value.int)) (hL : Latin cs) {i : Nat} (hi2 : i < cs.length) :
    Met l Z EL [] (⟨"java/lang/StringLatin1", "charAt", "([BI)C"⟩ : MethodName) jdk_43_method_2_code 2 (some .char) { frames := 2, cells := 0, slots := 0, locals := 27 } #[.ref t, .int (Int32.ofNat i)] h (Ret fun v h' => v = .int (cs.getD i 0) ∧ h = h') := by
  refine Met.intro pnL1 hEL hO ?_
  intro p e s m below meth c T W hby hml hret hnm
  have D : ∀ {pc : Nat} {r}, decode jdk_43_method_2_code pc = r → decode c.code pc = r := fun q => hb hby q
  refine Go.cast (ef_lc m t (Int32.ofNat i)) ?_
  have l31 : cs.length < 2 ^ 31 := by obtain ⟨_, _, _, q⟩ := A; simpa using q
  refine g_iloadN W (pc' := 1) (D lc_0) rfl rfl ?_
  refine g_aloadN W (pc' := 2) (D lc_1) rfl rfl (by first | rfl | assumption) ?_
  refine g_arraylength W (pc' := 3) (A) (z := Int32.ofNat cs.length) (by simp) (D lc_2) rfl ?_
  refine g_callSV W (t_chk l hw hEL cst fst ust W.old hi2 l31) (fun x q => nomatch q) (hI hw 136 rfl) (hI hw 137 rfl) (hI hw 6 rfl) (hI hw 138 rfl) (by decide) pd_17 (argsL := [_, _]) rfl rfl (pc' := 6) rfl (by rw [hml]; rfl) (D lc_3) rfl (Wn := 0) (Nat.le_refl _) (by decide) (by decide) (by decide) (by decide) (fun T h1 W hg hQ => ?_)
  subst hQ
  refine g_aloadN W (pc' := 7) (D lc_6) rfl rfl (by first | rfl | assumption) ?_
  refine g_iloadN W (pc' := 8) (D lc_7) rfl rfl ?_
  refine g_baload W (pc' := 9) (A) (i := i) (own_n0 (by omega)) (own_n32 (by omega)) (by simpa using hi2) (D lc_8) rfl ?_
  have e1 : (cs.map lo).getD i 0 = lo (cs.getD i 0) := by simp [hi2]
  rw [e1]
  refine g_sipush W (pc' := 12) (D lc_9) rfl (v := (255 : Int32)) (by decide) ?_
  refine g_iand W (pc' := 13) (D lc_12) rfl ?_
  refine g_i2c W (pc' := 14) (D lc_13) rfl ?_
  rw [lo_and (hL.get i)]
  exact g_retc W (D lc_14) hret (hL.get i).nar (by decide) (by decide) ⟨_, rfl, rfl, rfl⟩
theorem sc_0 : decode jdk_42_method_56_code 0 = .ok (.aload_n 0, 1) := by decide +kernel
theorem sc_1 : decode jdk_42_method_56_code 1 = .ok (.invokevirtual 492, 3) := by decide +kernel
theorem sc_4 : decode jdk_42_method_56_code 4 = .ok (.ifCond .eq 12, 3) := by decide +kernel
theorem sc_7 : decode jdk_42_method_56_code 7 = .ok (.aload_n 0, 1) := by decide +kernel
theorem sc_8 : decode jdk_42_method_56_code 8 = .ok (.getfield 9, 3) := by decide +kernel
theorem sc_11 : decode jdk_42_method_56_code 11 = .ok (.iload_n 1, 1) := by decide +kernel
theorem sc_12 : decode jdk_42_method_56_code 12 = .ok (.invokestatic 495, 3) := by decide +kernel
theorem sc_15 : decode jdk_42_method_56_code 15 = .ok (.ireturn, 1) := by decide +kernel
theorem sc_16 : decode jdk_42_method_56_code 16 = .ok (.aload_n 0, 1) := by decide +kernel
theorem sc_17 : decode jdk_42_method_56_code 17 = .ok (.getfield 9, 3) := by decide +kernel
theorem sc_20 : decode jdk_42_method_56_code 20 = .ok (.iload_n 1, 1) := by decide +kernel
theorem sc_21 : decode jdk_42_method_56_code 21 = .ok (.invokestatic 498, 3) := by decide +kernel
theorem sc_24 : decode jdk_42_method_56_code 24 = .ok (.ireturn, 1) := by decide +kernel
theorem ef_sc (m : MethodId) (x0 : Addr) (x1 : Int32) : entryFrame m #[.ref x0, .int x1] 2 = mkF m 0 #[.val (.ref x0), .val (.int x1)] [] := by first | (simp [entryFrame, mkF, argsToLocals, Value.category, maxLocals]; done) | rfl
set_option maxRecDepth 65536 in
set_option maxHeartbeats 8000000 in
theorem t_charAtG (l : Launch) {Z : State} {a0 : Array Value} {EL : List (String × Nat)} (hw : ∀ d ∈ tables_1, d.before a0 Z = true) (hEL : EW Z a0 EL) (cst : Cst Z) (fst : Fst Z) (ust : Ust Z) {h : Heap} (hO : Ext Z.heap h) {y : Addr} {cs : List Int32} (S : StrG Z h y cs) {i : Nat} (hi2 : i < cs.length) :
    Met l Z EL [] (⟨"java/lang/String", "charAt", "(I)C"⟩ : MethodName) jdk_42_method_56_code 2 (some .char) { frames := 4, cells := 0, slots := 0, locals := 55 } #[.ref y, .int (Int32.ofNat i)] h (Ret fun v h' => v = .int (cs.getD i 0) ∧ h = h') := by
  refine Met.intro pnS hEL hO ?_
  intro p e s m below meth c T W hby hml hret hnm
  have D : ∀ {pc : Nat} {r}, decode jdk_42_method_56_code pc = r → decode c.code pc = r := fun q => hb hby q
  refine Go.cast (ef_sc m y (Int32.ofNat i)) ?_
  have hW := wide_get S.wide i
  refine g_aloadN W (pc' := 1) (D sc_0) rfl rfl (by first | rfl | assumption) ?_
  rcases S with S | S
  · have S0 := S
    obtain ⟨s1, s2, ⟨t, s3, s4⟩, s5, s6⟩ := S
    refine g_virt W (t_isLatL l hw hEL cst fst ust W.old S0) (fun x q => nomatch q) ⟨_, _, rfl, (hI hw 130 rfl)⟩ (hI hw 127 rfl) (hI hw 128 rfl) (hI hw 130 rfl) (hI hw 129 rfl) (hI hw 6 rfl) (hI hw 131 rfl) (by decide) pd_14 (s1) (argsL := []) rfl rfl (pc' := 4) rfl (by rw [hml]; rfl) (D sc_1) rfl (Wn := 0) (Nat.le_refl _) (by decide) (by decide) (by decide) (by decide) (fun v T h1 W hg hQ => ?_)
    obtain ⟨rfl, rfl⟩ := hQ
    refine g_ifeqN W (pc1 := 16) (pc2 := 7) (D sc_4) (by decide) (by decide) rfl (by decide) ?_
    refine g_aloadN W (pc' := 8) (D sc_7) rfl rfl (by first | rfl | assumption) ?_
    refine g_getfield W (pc' := 11) (host := "") (Or.inl (hI hw 24 rfl)) Via.refl (s3) (D sc_8) rfl (fun T W => ?_)
    refine g_iloadN W (pc' := 12) (D sc_11) rfl rfl ?_
    refine g_callS W (t_charAtL l hw hEL cst fst ust W.old s4 s5 hi2) (fun x q => nomatch q) (hI hw 132 rfl) (hI hw 133 rfl) (hI hw 134 rfl) (hI hw 135 rfl) (by decide) pd_25 (argsL := [_, _]) rfl rfl (pc' := 15) rfl (by rw [hml]; rfl) (D sc_12) rfl (Wn := 0) (Nat.le_refl _) (by decide) (by decide) (by decide) (by decide) (fun v T h1 W hg hQ => ?_)
    obtain ⟨rfl, rfl⟩ := hQ
    exact g_retc W (D sc_15) hret (nar_w hW) (by decide) (by decide) ⟨_, rfl, rfl, rfl⟩
  · have S0 := S
    obtain ⟨s1, s2, ⟨t, s3, s4⟩, s5, s6⟩ := S
    refine g_virt W (t_isLatW l hw hEL cst fst ust W.old S0) (fun x q => nomatch q) ⟨_, _, rfl, (hI hw 130 rfl)⟩ (hI hw 127 rfl) (hI hw 128 rfl) (hI hw 130 rfl) (hI hw 129 rfl) (hI hw 6 rfl) (hI hw 131 rfl) (by decide) pd_14 (s1) (argsL := []) rfl rfl (pc' := 4) rfl (by rw [hml]; rfl) (D sc_1) rfl (Wn := 0) (Nat.le_refl _) (by decide) (by decide) (by decide) (by decide) (fun v T h1 W hg hQ => ?_)
    obtain ⟨rfl, rfl⟩ := hQ
    refine g_ifeqY W (pc1 := 16) (pc2 := 7) (D sc_4) (by decide) (by decide) rfl (rfl) ?_
    refine g_aloadN W (pc' := 17) (D sc_16) rfl rfl (by first | rfl | assumption) ?_
    refine g_getfield W (pc' := 20) (host := "") (Or.inl (hI hw 24 rfl)) Via.refl (s3) (D sc_17) rfl (fun T W => ?_)
    refine g_iloadN W (pc' := 21) (D sc_20) rfl rfl ?_
    refine g_callS W (t_charAt16 l hw hEL cst fst ust W.old s4 (i := i) (by rw [w16_len]; omega) hW (w16_get hi2).1 (w16_get hi2).2) (fun x q => nomatch q) (hI hw 242 rfl) (hI hw 243 rfl) (hI hw 111 rfl) (hI hw 244 rfl) (by decide) pd_25 (argsL := [_, _]) rfl rfl (pc' := 24) rfl (by rw [hml]; rfl) (D sc_21) rfl (Wn := 0) (Nat.le_refl _) (by decide) (by decide) (by decide) (by decide) (fun v T h1 W hg hQ => ?_)
    obtain ⟨rfl, rfl⟩ := hQ
    exact g_retc W (D sc_24) hret (nar_w hW) (by decide) (by decide) ⟨_, rfl, rfl, rfl⟩
theorem cz_0 : decode jdk_52_method_21_code 0 = .ok (.iconst 0, 1) := by decide +kernel
theorem cz_1 : decode jdk_52_method_21_code 1 = .ok (.istore 5, 2) := by decide +kernel
theorem cz_3 : decode jdk_52_method_21_code 3 = .ok (.iload 5, 2) := by decide +kernel
theorem cz_5 : decode jdk_52_method_21_code 5 = .ok (.iload 4, 2) := by decide +kernel
theorem cz_7 : decode jdk_52_method_21_code 7 = .ok (.if_icmp .ge 37, 3) := by decide +kernel
theorem cz_10 : decode jdk_52_method_21_code 10 = .ok (.aload_n 0, 1) := by decide +kernel
theorem cz_11 : decode jdk_52_method_21_code 11 = .ok (.iload_n 1, 1) := by decide +kernel
theorem cz_12 : decode jdk_52_method_21_code 12 = .ok (.caload, 1) := by decide +kernel
theorem cz_13 : decode jdk_52_method_21_code 13 = .ok (.istore 6, 2) := by decide +kernel
theorem cz_15 : decode jdk_52_method_21_code 15 = .ok (.iload 6, 2) := by decide +kernel
theorem cz_17 : decode jdk_52_method_21_code 17 = .ok (.sipush 255, 3) := by decide +kernel
theorem cz_20 : decode jdk_52_method_21_code 20 = .ok (.if_icmp .le 6, 3) := by decide +kernel
theorem cz_23 : decode jdk_52_method_21_code 23 = .ok (.iload 5, 2) := by decide +kernel
theorem cz_25 : decode jdk_52_method_21_code 25 = .ok (.ireturn, 1) := by decide +kernel
theorem cz_26 : decode jdk_52_method_21_code 26 = .ok (.aload_n 2, 1) := by decide +kernel
theorem cz_27 : decode jdk_52_method_21_code 27 = .ok (.iload_n 3, 1) := by decide +kernel
theorem cz_28 : decode jdk_52_method_21_code 28 = .ok (.iload 6, 2) := by decide +kernel
theorem cz_30 : decode jdk_52_method_21_code 30 = .ok (.i2b, 1) := by decide +kernel
theorem cz_31 : decode jdk_52_method_21_code 31 = .ok (.bastore, 1) := by decide +kernel
theorem cz_32 : decode jdk_52_method_21_code 32 = .ok (.iinc 1 1, 3) := by decide +kernel
theorem cz_35 : decode jdk_52_method_21_code 35 = .ok (.iinc 3 1, 3) := by decide +kernel
theorem cz_38 : decode jdk_52_method_21_code 38 = .ok (.iinc 5 1, 3) := by decide +kernel
theorem cz_41 : decode jdk_52_method_21_code 41 = .ok (.goto (-38), 3) := by decide +kernel
theorem ef_cz (m : MethodId) (x0 : Addr) (x1 : Int32) (x2 : Addr) (x3 : Int32) (x4 : Int32) : entryFrame m #[.ref x0, .int x1, .ref x2, .int x3, .int x4] 7 = mkF m 0 #[.val (.ref x0), .val (.int x1), .val (.ref x2), .val (.int x3), .val (.int x4), .unset, .unset] [] := by first | (simp [entryFrame, mkF, argsToLocals, Value.category, maxLocals]; done) | rfl
set_option maxRecDepth 65536 in
set_option maxHeartbeats 8000000 in
theorem t_compI (l : Launch) {Z : State} {a0 : Array Value} {EL : List (String × Nat)} (hw : ∀ d ∈ tables_1, d.before a0 Z = true) (hEL : EW Z a0 EL) (cst : Cst Z) (fst : Fst Z) (ust : Ust Z) {h : Heap} (hO : Ext Z.heap h) {a t : Addr} {cs : List Int32} (A : Ali Z h a .char (cs.map Value.int)) (hW : ∀ c ∈ cs, Wc c) (hN : ¬ Latin cs) (hl : cs.length ≤ 64) (hz : Z.heap.size ≤ t) {bs0 : List Int32} (B0 : Ali Z h t .byte (bs0.map Value.int)) (hb0 : bs0.length = cs.length) :
    Met l Z EL [t] (⟨"java/lang/StringUTF16", "compress", "([CI[BII)I"⟩ : MethodName) jdk_52_method_21_code 7 (some .int) { frames := 0, cells := 0, slots := 0, locals := 0 } #[.ref a, .int 0, .ref t, .int 0, .int (Int32.ofNat cs.length)] h (Ret fun v h' => ∃ j, v = .int (Int32.ofNat j) ∧ j < cs.length ∧ (255 : Int32) < cs.getD j 0 ∧ Keep h h' [t]) := by
  have hat : a ∉ [t] := ninS (A.neA B0 (by decide)) nin0
  refine Met.intro pn16 hEL hO ?_
  intro p e s m below meth c T W hby hml hret hnm
  have D : ∀ {pc : Nat} {r}, decode jdk_52_method_21_code pc = r → decode c.code pc = r := fun q => hb hby q
  refine Go.cast (ef_cz m a 0 t 0 (Int32.ofNat cs.length)) ?_
  have J : ∀ (k i : Nat) (T : State) (g : Heap) (bs : List Int32) (sl : Slot), i + k = cs.length → (∀ j, j < i → Lc (cs.getD j 0)) → Keep h g [t] → Ali Z g t .byte (bs.map Value.int) → bs.length = cs.length → (sl = Slot.unset ∨ ∃ v, sl = .val (.int v)) → Wd p l e { frames := 0, cells := 0, slots := 0, locals := 0 } s m #[.ref a, .int 0, .ref t, .int 0, .int (Int32.ofNat cs.length)] below meth c Z a0 EL U16 [t] T g 0 0 → Go p e below (Endp Z EL s (Ret fun v h' => ∃ j, v = .int (Int32.ofNat j) ∧ j < cs.length ∧ (255 : Int32) < cs.getD j 0 ∧ Keep h h' [t]) 0 0) T (mkF m 3 #[.val (.ref a), .val (.int (Int32.ofNat i)), .val (.ref t), .val (.int (Int32.ofNat i)), .val (.int (Int32.ofNat cs.length)), .val (.int (Int32.ofNat i)), sl] []) := by
    intro k
    induction k with
    | zero =>
      intro i T g bs sl hik hall K B hb hsl W
      exfalso; apply hN; intro c hc
      obtain ⟨j, hj, rfl⟩ := List.mem_iff_getElem.mp hc
      have q := hall j (by omega)
      have e : cs.getD j 0 = cs[j] := by simp [hj]
      rw [e] at q; exact q
    | succ k ih =>
      intro i T g bs sl hik hall K B hb hsl W
      have hc := wide_get hW i
      refine g_iload W (pc' := 5) (D cz_3) rfl rfl ?_
      refine g_iload W (pc' := 7) (D cz_5) rfl rfl ?_
      refine g_icmpgeN W (pc1 := 44) (pc2 := 10) (D cz_7) (by decide) (by decide) rfl ((by rw [Int32.lt_iff_toInt_lt, Int32.toInt_ofNat_small (by omega), Int32.toInt_ofNat_small (by omega)]; omega)) ?_
      refine g_aloadN W (pc' := 11) (D cz_10) rfl rfl (by first | rfl | assumption) ?_
      refine g_iloadN W (pc' := 12) (D cz_11) rfl rfl ?_
      refine g_caload W (pc' := 13) (A.keep K hat) (i := i) (own_n0 (by omega)) (own_n32 (by omega)) (by omega) (D cz_12) rfl ?_
      refine g_istore W (pc' := 15) (D cz_13) rfl (ls' := #[_, _, _, _, _, _, .val (.int (cs.getD i 0))]) (by rcases hsl with rfl | ⟨v, rfl⟩ <;> rfl) ?_
      refine g_iload W (pc' := 17) (D cz_15) rfl rfl ?_
      refine g_sipush W (pc' := 20) (D cz_17) rfl (v := (255 : Int32)) (by decide) ?_
      refine g_icmple W (pc1 := 26) (pc2 := 23) (D cz_20) (by decide) (by decide) rfl (fun q => ?_) (fun q => ?_)
      · refine g_aloadN W (pc' := 27) (D cz_26) rfl rfl (by first | rfl | assumption) ?_
        refine g_iloadN W (pc' := 28) (D cz_27) rfl rfl ?_
        refine g_iload W (pc' := 30) (D cz_28) rfl rfl ?_
        refine g_i2b W (pc' := 31) (D cz_30) rfl ?_
        refine g_bastore W (pc' := 32) (B) (hz) (List.mem_singleton.mpr rfl) (i := i) (own_n0 (by omega)) (own_n32 (by omega)) (by omega) (D cz_31) rfl (fun T g2 W K2 B2 => ?_)
        refine g_iinc W (pc' := 35) (D cz_32) rfl rfl (ls' := #[_, _, _, _, _, _, _]) rfl ?_
        refine g_iinc W (pc' := 38) (D cz_35) rfl rfl (ls' := #[_, _, _, _, _, _, _]) rfl ?_
        refine g_iinc W (pc' := 41) (D cz_38) rfl rfl (ls' := #[_, _, _, _, _, _, _]) rfl ?_
        refine g_goto W (pc' := 3) (D cz_41) (by decide) (by decide) ?_
        rw [inc1]
        exact ih (i + 1) T g2 _ _ (by omega) (fun j hj => by rcases Nat.lt_or_ge j i with r | r; exact hall j r; rw [show j = i by omega]; exact ⟨hc.1, q⟩) (K.trans K2 (fun z hz => Or.inl hz)) B2 (by rw [List.length_set]; exact hb) (Or.inr ⟨_, rfl⟩) W
      · refine g_iload W (pc' := 25) (D cz_23) rfl rfl ?_
        exact g_reti W (D cz_25) hret (by decide) (by decide) ⟨_, rfl, i, rfl, by omega, q, K⟩
  refine g_iconst W (pc' := 1) (D cz_0) rfl (v := (0 : Int32)) (by decide) ?_
  refine g_istore W (pc' := 3) (D cz_1) rfl (ls' := #[_, _, _, _, _, _, _]) rfl ?_
  exact J cs.length 0 _ _ bs0 _ (by omega) (fun j hj => absurd hj (Nat.not_lt_zero _)) (Keep.refl _ _) B0 hb0 (Or.inl rfl) W
theorem tc_0 : decode jdk_52_method_14_code 0 = .ok (.iload_n 2, 1) := by decide +kernel
theorem tc_1 : decode jdk_52_method_14_code 1 = .ok (.invokestatic 107, 3) := by decide +kernel
theorem tc_4 : decode jdk_52_method_14_code 4 = .ok (.astore_n 3, 1) := by decide +kernel
theorem tc_5 : decode jdk_52_method_14_code 5 = .ok (.iconst 0, 1) := by decide +kernel
theorem tc_6 : decode jdk_52_method_14_code 6 = .ok (.istore 4, 2) := by decide +kernel
theorem tc_8 : decode jdk_52_method_14_code 8 = .ok (.iload 4, 2) := by decide +kernel
theorem tc_10 : decode jdk_52_method_14_code 10 = .ok (.iload_n 2, 1) := by decide +kernel
theorem tc_11 : decode jdk_52_method_14_code 11 = .ok (.if_icmp .ge 21, 3) := by decide +kernel
theorem tc_14 : decode jdk_52_method_14_code 14 = .ok (.aload_n 3, 1) := by decide +kernel
theorem tc_15 : decode jdk_52_method_14_code 15 = .ok (.iload 4, 2) := by decide +kernel
theorem tc_17 : decode jdk_52_method_14_code 17 = .ok (.aload_n 0, 1) := by decide +kernel
theorem tc_18 : decode jdk_52_method_14_code 18 = .ok (.iload_n 1, 1) := by decide +kernel
theorem tc_19 : decode jdk_52_method_14_code 19 = .ok (.caload, 1) := by decide +kernel
theorem tc_20 : decode jdk_52_method_14_code 20 = .ok (.invokestatic 111, 3) := by decide +kernel
theorem tc_23 : decode jdk_52_method_14_code 23 = .ok (.iinc 1 1, 3) := by decide +kernel
theorem tc_26 : decode jdk_52_method_14_code 26 = .ok (.iinc 4 1, 3) := by decide +kernel
theorem tc_29 : decode jdk_52_method_14_code 29 = .ok (.goto (-21), 3) := by decide +kernel
theorem tc_32 : decode jdk_52_method_14_code 32 = .ok (.aload_n 3, 1) := by decide +kernel
theorem tc_33 : decode jdk_52_method_14_code 33 = .ok (.areturn, 1) := by decide +kernel
theorem ef_tc (m : MethodId) (x0 : Addr) (x1 : Int32) (x2 : Int32) : entryFrame m #[.ref x0, .int x1, .int x2] 5 = mkF m 0 #[.val (.ref x0), .val (.int x1), .val (.int x2), .unset, .unset] [] := by first | (simp [entryFrame, mkF, argsToLocals, Value.category, maxLocals]; done) | rfl
set_option maxRecDepth 65536 in
set_option maxHeartbeats 8000000 in
theorem t_toB2 (l : Launch) {Z : State} {a0 : Array Value} {EL : List (String × Nat)} (hw : ∀ d ∈ tables_1, d.before a0 Z = true) (hEL : EW Z a0 EL) (cst : Cst Z) (fst : Fst Z) (ust : Ust Z) {h : Heap} (hO : Ext Z.heap h) {a : Addr} {c0 c1 : Int32} (A : Ali Z h a .char (([c0, c1] : List Int32).map Value.int)) :
    Met l Z EL [] (⟨"java/lang/StringUTF16", "toBytes", "([CII)[B"⟩ : MethodName) jdk_52_method_14_code 5 (some (.array .byte)) { frames := 2, cells := 1, slots := 128, locals := 26 } #[.ref a, .int 0, .int 2] h (Ret fun v h' => ∃ b, v = .ref b ∧ h.size ≤ b ∧ Ext h h' ∧ Ali Z h' b .byte ((w16 [c0, c1]).map Value.int)) := by
  refine Met.intro pn16 hEL hO ?_
  intro p e s m below meth c T W hby hml hret hnm
  have D : ∀ {pc : Nat} {r}, decode jdk_52_method_14_code pc = r → decode c.code pc = r := fun q => hb hby q
  refine Go.cast (ef_tc m a 0 2) ?_
  refine g_iloadN W (pc' := 1) (D tc_0) rfl rfl ?_
  refine g_callSF W (t_nbFor l hw hEL cst fst ust W.old (n := 2) (by decide)) (fun x q => nomatch q) (hI hw 226 rfl) (hI hw 227 rfl) (hI hw 111 rfl) (hI hw 228 rfl) (by decide) pd_27 (argsL := [_]) rfl rfl (pc' := 4) rfl (by rw [hml]; rfl) (D tc_1) rfl (Wn := 0) (Nat.le_refl _) (by decide) (by decide) (by decide) (by decide) (fun v T g0 FF W hg hQ => ?_)
  obtain ⟨b, rfl, rfl, hb, E0, Eb, B0⟩ := hQ
  replace W := W.drop (F' := [b]) (fun z hz => List.mem_append.mpr (Or.inl hz))
  have hbz : Z.heap.size ≤ b := Nat.le_trans hO.1 hb
  replace B0 : Ali Z g0 b .byte (([0, 0, 0, 0] : List Int32).map Value.int) := B0
  have KK : Keep h g0 [] := ext_keep E0 []
  replace A := A.ext E0
  have ne : a ∉ [b] := ninS (A.neA B0 (by decide)) nin0
  refine g_astoreN W (pc' := 5) (D tc_4) rfl (by first | rfl | assumption) (ls' := #[_, _, _, _, _]) rfl ?_
  refine g_iconst W (pc' := 6) (D tc_5) rfl (v := (0 : Int32)) (by decide) ?_
  refine g_istore W (pc' := 8) (D tc_6) rfl (ls' := #[_, _, _, _, _]) rfl ?_
  refine g_iload W (pc' := 10) (D tc_8) rfl rfl ?_
  refine g_iloadN W (pc' := 11) (D tc_10) rfl rfl ?_
  refine g_icmpgeN W (pc1 := 32) (pc2 := 14) (D tc_11) (by decide) (by decide) rfl (by decide) ?_
  refine g_aloadN W (pc' := 15) (D tc_14) rfl rfl (by first | rfl | assumption) ?_
  refine g_iload W (pc' := 17) (D tc_15) rfl rfl ?_
  refine g_aloadN W (pc' := 18) (D tc_17) rfl rfl (by first | rfl | assumption) ?_
  refine g_iloadN W (pc' := 19) (D tc_18) rfl rfl ?_
  refine g_caload W (pc' := 20) (A) (i := 0) (by decide) (by decide) (by simp) (D tc_19) rfl ?_
  refine g_callSV W (t_putChar l hw hEL cst fst ust W.old B0 hbz (i := 0) (by simp only [List.length_set, List.length_cons, List.length_nil]; decide) (ch := c0)) (fun y q => q) (hI hw 233 rfl) (hI hw 234 rfl) (hI hw 111 rfl) (hI hw 235 rfl) (by decide) pd_26 (argsL := [_, _, _]) rfl rfl (pc' := 23) rfl (by rw [hml]; rfl) (D tc_20) rfl (Wn := 0) (Nat.le_refl _) (by decide) (by decide) (by decide) (by decide) (fun T g1 W hg hQ => ?_)
  obtain ⟨K0, B1⟩ := hQ
  replace A := A.keep K0 ne
  replace KK := KK.trans K0 (own_new hb)
  refine g_iinc W (pc' := 26) (D tc_23) rfl rfl (ls' := #[_, _, _, _, _]) rfl ?_
  refine g_iinc W (pc' := 29) (D tc_26) rfl rfl (ls' := #[_, _, _, _, _]) rfl ?_
  refine g_goto W (pc' := 8) (D tc_29) (by decide) (by decide) ?_
  refine g_iload W (pc' := 10) (D tc_8) rfl rfl ?_
  refine g_iloadN W (pc' := 11) (D tc_10) rfl rfl ?_
  refine g_icmpgeN W (pc1 := 32) (pc2 := 14) (D tc_11) (by decide) (by decide) rfl (by decide) ?_
  refine g_aloadN W (pc' := 15) (D tc_14) rfl rfl (by first | rfl | assumption) ?_
  refine g_iload W (pc' := 17) (D tc_15) rfl rfl ?_
  refine g_aloadN W (pc' := 18) (D tc_17) rfl rfl (by first | rfl | assumption) ?_
  refine g_iloadN W (pc' := 19) (D tc_18) rfl rfl ?_
  refine g_caload W (pc' := 20) (A) (i := 1) (by decide) (by decide) (by simp) (D tc_19) rfl ?_
  refine g_callSV W (t_putChar l hw hEL cst fst ust W.old B1 hbz (i := 1) (by simp only [List.length_set, List.length_cons, List.length_nil]; decide) (ch := c1)) (fun y q => q) (hI hw 233 rfl) (hI hw 234 rfl) (hI hw 111 rfl) (hI hw 235 rfl) (by decide) pd_26 (argsL := [_, _, _]) rfl rfl (pc' := 23) rfl (by rw [hml]; rfl) (D tc_20) rfl (Wn := 0) (Nat.le_refl _) (by decide) (by decide) (by decide) (by decide) (fun T g2 W hg hQ => ?_)
  obtain ⟨K1, B2⟩ := hQ
  replace A := A.keep K1 ne
  replace KK := KK.trans K1 (own_new hb)
  refine g_iinc W (pc' := 26) (D tc_23) rfl rfl (ls' := #[_, _, _, _, _]) rfl ?_
  refine g_iinc W (pc' := 29) (D tc_26) rfl rfl (ls' := #[_, _, _, _, _]) rfl ?_
  refine g_goto W (pc' := 8) (D tc_29) (by decide) (by decide) ?_
  refine g_iload W (pc' := 10) (D tc_8) rfl rfl ?_
  refine g_iloadN W (pc' := 11) (D tc_10) rfl rfl ?_
  refine g_icmpgeY W (pc1 := 32) (pc2 := 14) (D tc_11) (by decide) (by decide) rfl (by decide) ?_
  refine g_aloadN W (pc' := 33) (D tc_32) rfl rfl (by first | rfl | assumption) ?_
  exact g_areturn W (D tc_33) hret rfl rfl (by decide) (by decide) ⟨_, rfl, b, rfl, hb, keep_ext KK, B2⟩
set_option maxRecDepth 65536 in
set_option maxHeartbeats 8000000 in
theorem t_toB3 (l : Launch) {Z : State} {a0 : Array Value} {EL : List (String × Nat)} (hw : ∀ d ∈ tables_1, d.before a0 Z = true) (hEL : EW Z a0 EL) (cst : Cst Z) (fst : Fst Z) (ust : Ust Z) {h : Heap} (hO : Ext Z.heap h) {a : Addr} {c0 c1 c2 : Int32} (A : Ali Z h a .char (([c0, c1, c2] : List Int32).map Value.int)) :
    Met l Z EL [] (⟨"java/lang/StringUTF16", "toBytes", "([CII)[B"⟩ : MethodName) jdk_52_method_14_code 5 (some (.array .byte)) { frames := 2, cells := 1, slots := 128, locals := 26 } #[.ref a, .int 0, .int 3] h (Ret fun v h' => ∃ b, v = .ref b ∧ h.size ≤ b ∧ Ext h h' ∧ Ali Z h' b .byte ((w16 [c0, c1, c2]).map Value.int)) := by
  refine Met.intro pn16 hEL hO ?_
  intro p e s m below meth c T W hby hml hret hnm
  have D : ∀ {pc : Nat} {r}, decode jdk_52_method_14_code pc = r → decode c.code pc = r := fun q => hb hby q
  refine Go.cast (ef_tc m a 0 3) ?_
  refine g_iloadN W (pc' := 1) (D tc_0) rfl rfl ?_
  refine g_callSF W (t_nbFor l hw hEL cst fst ust W.old (n := 3) (by decide)) (fun x q => nomatch q) (hI hw 226 rfl) (hI hw 227 rfl) (hI hw 111 rfl) (hI hw 228 rfl) (by decide) pd_27 (argsL := [_]) rfl rfl (pc' := 4) rfl (by rw [hml]; rfl) (D tc_1) rfl (Wn := 0) (Nat.le_refl _) (by decide) (by decide) (by decide) (by decide) (fun v T g0 FF W hg hQ => ?_)
  obtain ⟨b, rfl, rfl, hb, E0, Eb, B0⟩ := hQ
  replace W := W.drop (F' := [b]) (fun z hz => List.mem_append.mpr (Or.inl hz))
  have hbz : Z.heap.size ≤ b := Nat.le_trans hO.1 hb
  replace B0 : Ali Z g0 b .byte (([0, 0, 0, 0, 0, 0] : List Int32).map Value.int) := B0
  have KK : Keep h g0 [] := ext_keep E0 []
  replace A := A.ext E0
  have ne : a ∉ [b] := ninS (A.neA B0 (by decide)) nin0
  refine g_astoreN W (pc' := 5) (D tc_4) rfl (by first | rfl | assumption) (ls' := #[_, _, _, _, _]) rfl ?_
  refine g_iconst W (pc' := 6) (D tc_5) rfl (v := (0 : Int32)) (by decide) ?_
  refine g_istore W (pc' := 8) (D tc_6) rfl (ls' := #[_, _, _, _, _]) rfl ?_
  refine g_iload W (pc' := 10) (D tc_8) rfl rfl ?_
  refine g_iloadN W (pc' := 11) (D tc_10) rfl rfl ?_
  refine g_icmpgeN W (pc1 := 32) (pc2 := 14) (D tc_11) (by decide) (by decide) rfl (by decide) ?_
  refine g_aloadN W (pc' := 15) (D tc_14) rfl rfl (by first | rfl | assumption) ?_
  refine g_iload W (pc' := 17) (D tc_15) rfl rfl ?_
  refine g_aloadN W (pc' := 18) (D tc_17) rfl rfl (by first | rfl | assumption) ?_
  refine g_iloadN W (pc' := 19) (D tc_18) rfl rfl ?_
  refine g_caload W (pc' := 20) (A) (i := 0) (by decide) (by decide) (by simp) (D tc_19) rfl ?_
  refine g_callSV W (t_putChar l hw hEL cst fst ust W.old B0 hbz (i := 0) (by simp only [List.length_set, List.length_cons, List.length_nil]; decide) (ch := c0)) (fun y q => q) (hI hw 233 rfl) (hI hw 234 rfl) (hI hw 111 rfl) (hI hw 235 rfl) (by decide) pd_26 (argsL := [_, _, _]) rfl rfl (pc' := 23) rfl (by rw [hml]; rfl) (D tc_20) rfl (Wn := 0) (Nat.le_refl _) (by decide) (by decide) (by decide) (by decide) (fun T g1 W hg hQ => ?_)
  obtain ⟨K0, B1⟩ := hQ
  replace A := A.keep K0 ne
  replace KK := KK.trans K0 (own_new hb)
  refine g_iinc W (pc' := 26) (D tc_23) rfl rfl (ls' := #[_, _, _, _, _]) rfl ?_
  refine g_iinc W (pc' := 29) (D tc_26) rfl rfl (ls' := #[_, _, _, _, _]) rfl ?_
  refine g_goto W (pc' := 8) (D tc_29) (by decide) (by decide) ?_
  refine g_iload W (pc' := 10) (D tc_8) rfl rfl ?_
  refine g_iloadN W (pc' := 11) (D tc_10) rfl rfl ?_
  refine g_icmpgeN W (pc1 := 32) (pc2 := 14) (D tc_11) (by decide) (by decide) rfl (by decide) ?_
  refine g_aloadN W (pc' := 15) (D tc_14) rfl rfl (by first | rfl | assumption) ?_
  refine g_iload W (pc' := 17) (D tc_15) rfl rfl ?_
  refine g_aloadN W (pc' := 18) (D tc_17) rfl rfl (by first | rfl | assumption) ?_
  refine g_iloadN W (pc' := 19) (D tc_18) rfl rfl ?_
  refine g_caload W (pc' := 20) (A) (i := 1) (by decide) (by decide) (by simp) (D tc_19) rfl ?_
  refine g_callSV W (t_putChar l hw hEL cst fst ust W.old B1 hbz (i := 1) (by simp only [List.length_set, List.length_cons, List.length_nil]; decide) (ch := c1)) (fun y q => q) (hI hw 233 rfl) (hI hw 234 rfl) (hI hw 111 rfl) (hI hw 235 rfl) (by decide) pd_26 (argsL := [_, _, _]) rfl rfl (pc' := 23) rfl (by rw [hml]; rfl) (D tc_20) rfl (Wn := 0) (Nat.le_refl _) (by decide) (by decide) (by decide) (by decide) (fun T g2 W hg hQ => ?_)
  obtain ⟨K1, B2⟩ := hQ
  replace A := A.keep K1 ne
  replace KK := KK.trans K1 (own_new hb)
  refine g_iinc W (pc' := 26) (D tc_23) rfl rfl (ls' := #[_, _, _, _, _]) rfl ?_
  refine g_iinc W (pc' := 29) (D tc_26) rfl rfl (ls' := #[_, _, _, _, _]) rfl ?_
  refine g_goto W (pc' := 8) (D tc_29) (by decide) (by decide) ?_
  refine g_iload W (pc' := 10) (D tc_8) rfl rfl ?_
  refine g_iloadN W (pc' := 11) (D tc_10) rfl rfl ?_
  refine g_icmpgeN W (pc1 := 32) (pc2 := 14) (D tc_11) (by decide) (by decide) rfl (by decide) ?_
  refine g_aloadN W (pc' := 15) (D tc_14) rfl rfl (by first | rfl | assumption) ?_
  refine g_iload W (pc' := 17) (D tc_15) rfl rfl ?_
  refine g_aloadN W (pc' := 18) (D tc_17) rfl rfl (by first | rfl | assumption) ?_
  refine g_iloadN W (pc' := 19) (D tc_18) rfl rfl ?_
  refine g_caload W (pc' := 20) (A) (i := 2) (by decide) (by decide) (by simp) (D tc_19) rfl ?_
  refine g_callSV W (t_putChar l hw hEL cst fst ust W.old B2 hbz (i := 2) (by simp only [List.length_set, List.length_cons, List.length_nil]; decide) (ch := c2)) (fun y q => q) (hI hw 233 rfl) (hI hw 234 rfl) (hI hw 111 rfl) (hI hw 235 rfl) (by decide) pd_26 (argsL := [_, _, _]) rfl rfl (pc' := 23) rfl (by rw [hml]; rfl) (D tc_20) rfl (Wn := 0) (Nat.le_refl _) (by decide) (by decide) (by decide) (by decide) (fun T g3 W hg hQ => ?_)
  obtain ⟨K2, B3⟩ := hQ
  replace A := A.keep K2 ne
  replace KK := KK.trans K2 (own_new hb)
  refine g_iinc W (pc' := 26) (D tc_23) rfl rfl (ls' := #[_, _, _, _, _]) rfl ?_
  refine g_iinc W (pc' := 29) (D tc_26) rfl rfl (ls' := #[_, _, _, _, _]) rfl ?_
  refine g_goto W (pc' := 8) (D tc_29) (by decide) (by decide) ?_
  refine g_iload W (pc' := 10) (D tc_8) rfl rfl ?_
  refine g_iloadN W (pc' := 11) (D tc_10) rfl rfl ?_
  refine g_icmpgeY W (pc1 := 32) (pc2 := 14) (D tc_11) (by decide) (by decide) rfl (by decide) ?_
  refine g_aloadN W (pc' := 33) (D tc_32) rfl rfl (by first | rfl | assumption) ?_
  exact g_areturn W (D tc_33) hret rfl rfl (by decide) (by decide) ⟨_, rfl, b, rfl, hb, keep_ext KK, B3⟩
theorem cy_0 : decode jdk_52_method_16_code 0 = .ok (.iload_n 2, 1) := by decide +kernel
theorem cy_1 : decode jdk_52_method_16_code 1 = .ok (.newarray .byte, 2) := by decide +kernel
theorem cy_3 : decode jdk_52_method_16_code 3 = .ok (.astore_n 3, 1) := by decide +kernel
theorem cy_4 : decode jdk_52_method_16_code 4 = .ok (.aload_n 0, 1) := by decide +kernel
theorem cy_5 : decode jdk_52_method_16_code 5 = .ok (.iload_n 1, 1) := by decide +kernel
theorem cy_6 : decode jdk_52_method_16_code 6 = .ok (.aload_n 3, 1) := by decide +kernel
theorem cy_7 : decode jdk_52_method_16_code 7 = .ok (.iconst 0, 1) := by decide +kernel
theorem cy_8 : decode jdk_52_method_16_code 8 = .ok (.iload_n 2, 1) := by decide +kernel
theorem cy_9 : decode jdk_52_method_16_code 9 = .ok (.invokestatic 115, 3) := by decide +kernel
theorem cy_12 : decode jdk_52_method_16_code 12 = .ok (.istore 4, 2) := by decide +kernel
theorem cy_14 : decode jdk_52_method_16_code 14 = .ok (.iload 4, 2) := by decide +kernel
theorem cy_16 : decode jdk_52_method_16_code 16 = .ok (.iload_n 2, 1) := by decide +kernel
theorem cy_17 : decode jdk_52_method_16_code 17 = .ok (.if_icmp .eq 40, 3) := by decide +kernel
theorem cy_20 : decode jdk_52_method_16_code 20 = .ok (.aload_n 0, 1) := by decide +kernel
theorem cy_21 : decode jdk_52_method_16_code 21 = .ok (.iload_n 1, 1) := by decide +kernel
theorem cy_22 : decode jdk_52_method_16_code 22 = .ok (.iload_n 2, 1) := by decide +kernel
theorem cy_23 : decode jdk_52_method_16_code 23 = .ok (.invokestatic 119, 3) := by decide +kernel
theorem cy_26 : decode jdk_52_method_16_code 26 = .ok (.astore 5, 2) := by decide +kernel
theorem cy_28 : decode jdk_52_method_16_code 28 = .ok (.aload 5, 2) := by decide +kernel
theorem cy_30 : decode jdk_52_method_16_code 30 = .ok (.iload 4, 2) := by decide +kernel
theorem cy_32 : decode jdk_52_method_16_code 32 = .ok (.invokestatic 71, 3) := by decide +kernel
theorem cy_35 : decode jdk_52_method_16_code 35 = .ok (.sipush 255, 3) := by decide +kernel
theorem cy_38 : decode jdk_52_method_16_code 38 = .ok (.if_icmp .gt 16, 3) := by decide +kernel
theorem cy_54 : decode jdk_52_method_16_code 54 = .ok (.aload 5, 2) := by decide +kernel
theorem cy_56 : decode jdk_52_method_16_code 56 = .ok (.areturn, 1) := by decide +kernel
theorem ef_cy (m : MethodId) (x0 : Addr) (x1 : Int32) (x2 : Int32) : entryFrame m #[.ref x0, .int x1, .int x2] 6 = mkF m 0 #[.val (.ref x0), .val (.int x1), .val (.int x2), .unset, .unset, .unset] [] := by first | (simp [entryFrame, mkF, argsToLocals, Value.category, maxLocals]; done) | rfl
set_option maxRecDepth 65536 in
set_option maxHeartbeats 8000000 in
theorem t_comp2 (l : Launch) {Z : State} {a0 : Array Value} {EL : List (String × Nat)} (hw : ∀ d ∈ tables_1, d.before a0 Z = true) (hEL : EW Z a0 EL) (cst : Cst Z) (fst : Fst Z) (ust : Ust Z) {h : Heap} (hO : Ext Z.heap h) {a : Addr} {c0 c1 : Int32} (A : Ali Z h a .char (([c0, c1] : List Int32).map Value.int)) (hW : ∀ c ∈ [c0, c1], Wc c) (hN : ¬ Latin [c0, c1]) :
    Met l Z EL [] (⟨"java/lang/StringUTF16", "compress", "([CII)[B"⟩ : MethodName) jdk_52_method_16_code 6 (some (.array .byte)) { frames := 3, cells := 2, slots := 144, locals := 42 } #[.ref a, .int 0, .int 2] h (Ret fun v h' => ∃ b, v = .ref b ∧ h.size ≤ b ∧ Ext h h' ∧ Ali Z h' b .byte ((w16 [c0, c1]).map Value.int)) := by
  refine Met.intro pn16 hEL hO ?_
  intro p e s m below meth c T W hby hml hret hnm
  have D : ∀ {pc : Nat} {r}, decode jdk_52_method_16_code pc = r → decode c.code pc = r := fun q => hb hby q
  refine Go.cast (ef_cy m a 0 2) ?_
  refine g_iloadN W (pc' := 1) (D cy_0) rfl rfl ?_
  refine g_newarray W (pc' := 3) (ty := .byte) rfl (i := 2) (by decide) (by decide) (hI hw 19 rfl) (D cy_1) rfl (cap := 16) (by decide) (by decide) (by decide) (by decide) (fun t T g0 ht W E0 B0 => ?_)
  replace B0 : Ali Z g0 t .byte ((List.replicate 2 (0 : Int32)).map Value.int) := B0
  refine g_astoreN W (pc' := 4) (D cy_3) rfl (by first | rfl | assumption) (ls' := #[_, _, _, _, _, _]) rfl ?_
  refine g_aloadN W (pc' := 5) (D cy_4) rfl rfl (by first | rfl | assumption) ?_
  refine g_iloadN W (pc' := 6) (D cy_5) rfl rfl ?_
  refine g_aloadN W (pc' := 7) (D cy_6) rfl rfl (by first | rfl | assumption) ?_
  refine g_iconst W (pc' := 8) (D cy_7) rfl (v := (0 : Int32)) (by decide) ?_
  refine g_iloadN W (pc' := 9) (D cy_8) rfl rfl ?_
  refine g_callS W (t_compI l hw hEL cst fst ust W.old (cs := [c0, c1]) (A.ext E0) hW hN (by show 2 ≤ 64; decide) (Nat.le_trans hO.1 ht) B0 rfl) (fun y q => q) (hI hw 113 rfl) (hI hw 114 rfl) (hI hw 111 rfl) (hI hw 115 rfl) (by decide) pd_28 (argsL := [_, _, _, _, _]) rfl rfl (pc' := 12) rfl (by rw [hml]; rfl) (D cy_9) rfl (Wn := 0) (Nat.le_refl _) (by decide) (by decide) (by decide) (by decide) (fun v T g1 W hg hQ => ?_)
  obtain ⟨j, rfl, hj, hbig, K1⟩ := hQ
  replace hj : j < 2 := hj
  have E1 : Ext h g1 := keep_ext ((ext_keep E0 []).trans K1 (own_new ht))
  refine g_istore W (pc' := 14) (D cy_12) rfl (ls' := #[_, _, _, _, _, _]) rfl ?_
  refine g_iload W (pc' := 16) (D cy_14) rfl rfl ?_
  refine g_iloadN W (pc' := 17) (D cy_16) rfl rfl ?_
  refine g_icmpeqN W (pc1 := 57) (pc2 := 20) (D cy_17) (by decide) (by decide) rfl (fun r => by have := congrArg Int32.toInt r; rw [Int32.toInt_ofNat_small (by omega)] at this; have e0 : (2 : Int32).toInt = 2 := rfl; omega) ?_
  refine g_aloadN W (pc' := 21) (D cy_20) rfl rfl (by first | rfl | assumption) ?_
  refine g_iloadN W (pc' := 22) (D cy_21) rfl rfl ?_
  refine g_iloadN W (pc' := 23) (D cy_22) rfl rfl ?_
  refine g_callS W (t_toB2 l hw hEL cst fst ust W.old (A.ext E1)) (fun x q => nomatch q) (hI hw 223 rfl) (hI hw 224 rfl) (hI hw 111 rfl) (hI hw 225 rfl) (by decide) pd_29 (argsL := [_, _, _]) rfl rfl (pc' := 26) rfl (by rw [hml]; rfl) (D cy_23) rfl (Wn := 0) (Nat.le_refl _) (by decide) (by decide) (by decide) (by decide) (fun v T g2 W hg hQ => ?_)
  obtain ⟨b, rfl, hb, E2, B2⟩ := hQ
  refine g_astore W (pc' := 28) (D cy_26) rfl (by first | rfl | assumption) (ls' := #[_, _, _, _, _, _]) rfl ?_
  refine g_aload W (pc' := 30) (D cy_28) rfl rfl (by first | rfl | assumption) ?_
  refine g_iload W (pc' := 32) (D cy_30) rfl rfl ?_
  refine g_callS W (t_getChar l hw hEL cst fst ust W.old B2 (i := j) (by rw [w16_len]; show 2 * j + 1 < 2 * 2; omega) (wide_get hW j) (w16_get hj).1 (w16_get hj).2) (fun x q => nomatch q) (hI hw 239 rfl) (hI hw 240 rfl) (hI hw 111 rfl) (hI hw 241 rfl) (by decide) pd_25 (argsL := [_, _]) rfl rfl (pc' := 35) rfl (by rw [hml]; rfl) (D cy_32) rfl (Wn := 0) (Nat.le_refl _) (by decide) (by decide) (by decide) (by decide) (fun v T g3 W hg hQ => ?_)
  obtain ⟨rfl, rfl⟩ := hQ
  refine g_sipush W (pc' := 38) (D cy_35) rfl (v := (255 : Int32)) (by decide) ?_
  refine g_icmpgtY W (pc1 := 54) (pc2 := 41) (D cy_38) (by decide) (by decide) rfl (hbig) ?_
  refine g_aload W (pc' := 56) (D cy_54) rfl rfl (by first | rfl | assumption) ?_
  exact g_areturn W (D cy_56) hret rfl rfl (by decide) (by decide) ⟨_, rfl, b, rfl, Nat.le_trans E1.1 hb, ext_trans E1 E2, B2⟩
set_option maxRecDepth 65536 in
set_option maxHeartbeats 8000000 in
theorem t_comp3 (l : Launch) {Z : State} {a0 : Array Value} {EL : List (String × Nat)} (hw : ∀ d ∈ tables_1, d.before a0 Z = true) (hEL : EW Z a0 EL) (cst : Cst Z) (fst : Fst Z) (ust : Ust Z) {h : Heap} (hO : Ext Z.heap h) {a : Addr} {c0 c1 c2 : Int32} (A : Ali Z h a .char (([c0, c1, c2] : List Int32).map Value.int)) (hW : ∀ c ∈ [c0, c1, c2], Wc c) (hN : ¬ Latin [c0, c1, c2]) :
    Met l Z EL [] (⟨"java/lang/StringUTF16", "compress", "([CII)[B"⟩ : MethodName) jdk_52_method_16_code 6 (some (.array .byte)) { frames := 3, cells := 2, slots := 144, locals := 42 } #[.ref a, .int 0, .int 3] h (Ret fun v h' => ∃ b, v = .ref b ∧ h.size ≤ b ∧ Ext h h' ∧ Ali Z h' b .byte ((w16 [c0, c1, c2]).map Value.int)) := by
  refine Met.intro pn16 hEL hO ?_
  intro p e s m below meth c T W hby hml hret hnm
  have D : ∀ {pc : Nat} {r}, decode jdk_52_method_16_code pc = r → decode c.code pc = r := fun q => hb hby q
  refine Go.cast (ef_cy m a 0 3) ?_
  refine g_iloadN W (pc' := 1) (D cy_0) rfl rfl ?_
  refine g_newarray W (pc' := 3) (ty := .byte) rfl (i := 3) (by decide) (by decide) (hI hw 19 rfl) (D cy_1) rfl (cap := 16) (by decide) (by decide) (by decide) (by decide) (fun t T g0 ht W E0 B0 => ?_)
  replace B0 : Ali Z g0 t .byte ((List.replicate 3 (0 : Int32)).map Value.int) := B0
  refine g_astoreN W (pc' := 4) (D cy_3) rfl (by first | rfl | assumption) (ls' := #[_, _, _, _, _, _]) rfl ?_
  refine g_aloadN W (pc' := 5) (D cy_4) rfl rfl (by first | rfl | assumption) ?_
  refine g_iloadN W (pc' := 6) (D cy_5) rfl rfl ?_
  refine g_aloadN W (pc' := 7) (D cy_6) rfl rfl (by first | rfl | assumption) ?_
  refine g_iconst W (pc' := 8) (D cy_7) rfl (v := (0 : Int32)) (by decide) ?_
  refine g_iloadN W (pc' := 9) (D cy_8) rfl rfl ?_
  refine g_callS W (t_compI l hw hEL cst fst ust W.old (cs := [c0, c1, c2]) (A.ext E0) hW hN (by show 3 ≤ 64; decide) (Nat.le_trans hO.1 ht) B0 rfl) (fun y q => q) (hI hw 113 rfl) (hI hw 114 rfl) (hI hw 111 rfl) (hI hw 115 rfl) (by decide) pd_28 (argsL := [_, _, _, _, _]) rfl rfl (pc' := 12) rfl (by rw [hml]; rfl) (D cy_9) rfl (Wn := 0) (Nat.le_refl _) (by decide) (by decide) (by decide) (by decide) (fun v T g1 W hg hQ => ?_)
  obtain ⟨j, rfl, hj, hbig, K1⟩ := hQ
  replace hj : j < 3 := hj
  have E1 : Ext h g1 := keep_ext ((ext_keep E0 []).trans K1 (own_new ht))
  refine g_istore W (pc' := 14) (D cy_12) rfl (ls' := #[_, _, _, _, _, _]) rfl ?_
  refine g_iload W (pc' := 16) (D cy_14) rfl rfl ?_
  refine g_iloadN W (pc' := 17) (D cy_16) rfl rfl ?_
  refine g_icmpeqN W (pc1 := 57) (pc2 := 20) (D cy_17) (by decide) (by decide) rfl (fun r => by have := congrArg Int32.toInt r; rw [Int32.toInt_ofNat_small (by omega)] at this; have e0 : (3 : Int32).toInt = 3 := rfl; omega) ?_
  refine g_aloadN W (pc' := 21) (D cy_20) rfl rfl (by first | rfl | assumption) ?_
  refine g_iloadN W (pc' := 22) (D cy_21) rfl rfl ?_
  refine g_iloadN W (pc' := 23) (D cy_22) rfl rfl ?_
  refine g_callS W (t_toB3 l hw hEL cst fst ust W.old (A.ext E1)) (fun x q => nomatch q) (hI hw 223 rfl) (hI hw 224 rfl) (hI hw 111 rfl) (hI hw 225 rfl) (by decide) pd_29 (argsL := [_, _, _]) rfl rfl (pc' := 26) rfl (by rw [hml]; rfl) (D cy_23) rfl (Wn := 0) (Nat.le_refl _) (by decide) (by decide) (by decide) (by decide) (fun v T g2 W hg hQ => ?_)
  obtain ⟨b, rfl, hb, E2, B2⟩ := hQ
  refine g_astore W (pc' := 28) (D cy_26) rfl (by first | rfl | assumption) (ls' := #[_, _, _, _, _, _]) rfl ?_
  refine g_aload W (pc' := 30) (D cy_28) rfl rfl (by first | rfl | assumption) ?_
  refine g_iload W (pc' := 32) (D cy_30) rfl rfl ?_
  refine g_callS W (t_getChar l hw hEL cst fst ust W.old B2 (i := j) (by rw [w16_len]; show 2 * j + 1 < 2 * 3; omega) (wide_get hW j) (w16_get hj).1 (w16_get hj).2) (fun x q => nomatch q) (hI hw 239 rfl) (hI hw 240 rfl) (hI hw 111 rfl) (hI hw 241 rfl) (by decide) pd_25 (argsL := [_, _]) rfl rfl (pc' := 35) rfl (by rw [hml]; rfl) (D cy_32) rfl (Wn := 0) (Nat.le_refl _) (by decide) (by decide) (by decide) (by decide) (fun v T g3 W hg hQ => ?_)
  obtain ⟨rfl, rfl⟩ := hQ
  refine g_sipush W (pc' := 38) (D cy_35) rfl (v := (255 : Int32)) (by decide) ?_
  refine g_icmpgtY W (pc1 := 54) (pc2 := 41) (D cy_38) (by decide) (by decide) rfl (hbig) ?_
  refine g_aload W (pc' := 56) (D cy_54) rfl rfl (by first | rfl | assumption) ?_
  exact g_areturn W (D cy_56) hret rfl rfl (by decide) (by decide) ⟨_, rfl, b, rfl, Nat.le_trans E1.1 hb, ext_trans E1 E2, B2⟩
theorem cf_0 : decode jdk_52_method_15_code 0 = .ok (.iload_n 1, 1) := by decide +kernel
theorem cf_1 : decode jdk_52_method_15_code 1 = .ok (.aload_n 0, 1) := by decide +kernel
theorem cf_2 : decode jdk_52_method_15_code 2 = .ok (.arraylength, 1) := by decide +kernel
theorem cf_3 : decode jdk_52_method_15_code 3 = .ok (.isub, 1) := by decide +kernel
theorem cf_4 : decode jdk_52_method_15_code 4 = .ok (.bipush 31, 2) := by decide +kernel
theorem cf_6 : decode jdk_52_method_15_code 6 = .ok (.iushr, 1) := by decide +kernel
theorem cf_7 : decode jdk_52_method_15_code 7 = .ok (.i2b, 1) := by decide +kernel
theorem cf_8 : decode jdk_52_method_15_code 8 = .ok (.ireturn, 1) := by decide +kernel
theorem ef_cf (m : MethodId) (x0 : Addr) (x1 : Int32) : entryFrame m #[.ref x0, .int x1] 2 = mkF m 0 #[.val (.ref x0), .val (.int x1)] [] := by first | (simp [entryFrame, mkF, argsToLocals, Value.category, maxLocals]; done) | rfl
set_option maxRecDepth 65536 in
set_option maxHeartbeats 8000000 in
theorem t_cfa2 (l : Launch) {Z : State} {a0 : Array Value} {EL : List (String × Nat)} (hw : ∀ d ∈ tables_1, d.before a0 Z = true) (hEL : EW Z a0 EL) (cst : Cst Z) (fst : Fst Z) (ust : Ust Z) {h : Heap} (hO : Ext Z.heap h) {t : Addr} {bs : List Int32} (A : Ali Z h t .byte (bs.map Value.int)) (hl : bs.length = 4) :
    Met l Z EL [] (⟨"java/lang/StringUTF16", "coderFromArrayLen", "([BI)B"⟩ : MethodName) jdk_52_method_15_code 2 (some .byte) { frames := 0, cells := 0, slots := 0, locals := 0 } #[.ref t, .int 2] h (Ret fun v h' => v = .int 1 ∧ h = h') := by
  refine Met.intro pn16 hEL hO ?_
  intro p e s m below meth c T W hby hml hret hnm
  have D : ∀ {pc : Nat} {r}, decode jdk_52_method_15_code pc = r → decode c.code pc = r := fun q => hb hby q
  refine Go.cast (ef_cf m t 2) ?_
  refine g_iloadN W (pc' := 1) (D cf_0) rfl rfl ?_
  refine g_aloadN W (pc' := 2) (D cf_1) rfl rfl (by first | rfl | assumption) ?_
  refine g_arraylength W (pc' := 3) (A) (z := (4 : Int32)) (by rw [List.length_map, hl]; rfl) (D cf_2) rfl ?_
  refine g_isub W (pc' := 4) (D cf_3) rfl ?_
  refine g_bipush W (pc' := 6) (D cf_4) rfl (v := (31 : Int32)) (by decide) ?_
  refine g_iushr W (pc' := 7) (D cf_6) rfl ?_
  refine g_i2b W (pc' := 8) (D cf_7) rfl ?_
  refine g_ret W (D cf_8) hret rfl (Or.inl ⟨rfl, Or.inr (Or.inr (Or.inl rfl)), 1, ?_⟩) (by decide) (by decide) ⟨_, rfl, ?_, rfl⟩
  · decide
  · decide
set_option maxRecDepth 65536 in
set_option maxHeartbeats 8000000 in
theorem t_cfa3 (l : Launch) {Z : State} {a0 : Array Value} {EL : List (String × Nat)} (hw : ∀ d ∈ tables_1, d.before a0 Z = true) (hEL : EW Z a0 EL) (cst : Cst Z) (fst : Fst Z) (ust : Ust Z) {h : Heap} (hO : Ext Z.heap h) {t : Addr} {bs : List Int32} (A : Ali Z h t .byte (bs.map Value.int)) (hl : bs.length = 6) :
    Met l Z EL [] (⟨"java/lang/StringUTF16", "coderFromArrayLen", "([BI)B"⟩ : MethodName) jdk_52_method_15_code 2 (some .byte) { frames := 0, cells := 0, slots := 0, locals := 0 } #[.ref t, .int 3] h (Ret fun v h' => v = .int 1 ∧ h = h') := by
  refine Met.intro pn16 hEL hO ?_
  intro p e s m below meth c T W hby hml hret hnm
  have D : ∀ {pc : Nat} {r}, decode jdk_52_method_15_code pc = r → decode c.code pc = r := fun q => hb hby q
  refine Go.cast (ef_cf m t 3) ?_
  refine g_iloadN W (pc' := 1) (D cf_0) rfl rfl ?_
  refine g_aloadN W (pc' := 2) (D cf_1) rfl rfl (by first | rfl | assumption) ?_
  refine g_arraylength W (pc' := 3) (A) (z := (6 : Int32)) (by rw [List.length_map, hl]; rfl) (D cf_2) rfl ?_
  refine g_isub W (pc' := 4) (D cf_3) rfl ?_
  refine g_bipush W (pc' := 6) (D cf_4) rfl (v := (31 : Int32)) (by decide) ?_
  refine g_iushr W (pc' := 7) (D cf_6) rfl ?_
  refine g_i2b W (pc' := 8) (D cf_7) rfl ?_
  refine g_ret W (D cf_8) hret rfl (Or.inl ⟨rfl, Or.inr (Or.inr (Or.inl rfl)), 1, ?_⟩) (by decide) (by decide) ⟨_, rfl, ?_, rfl⟩
  · decide
  · decide
theorem iv_0 : decode jdk_42_method_149_code 0 = .ok (.aload_n 0, 1) := by decide +kernel
theorem iv_1 : decode jdk_42_method_149_code 1 = .ok (.invokespecial 1, 3) := by decide +kernel
theorem iv_4 : decode jdk_42_method_149_code 4 = .ok (.iload_n 3, 1) := by decide +kernel
theorem iv_5 : decode jdk_42_method_149_code 5 = .ok (.ifCond .ne 22, 3) := by decide +kernel
theorem iv_27 : decode jdk_42_method_149_code 27 = .ok (.getstatic 38, 3) := by decide +kernel
theorem iv_30 : decode jdk_42_method_149_code 30 = .ok (.ifCond .eq 28, 3) := by decide +kernel
theorem iv_33 : decode jdk_42_method_149_code 33 = .ok (.aload_n 1, 1) := by decide +kernel
theorem iv_34 : decode jdk_42_method_149_code 34 = .ok (.iload_n 2, 1) := by decide +kernel
theorem iv_35 : decode jdk_42_method_149_code 35 = .ok (.iload_n 3, 1) := by decide +kernel
theorem iv_36 : decode jdk_42_method_149_code 36 = .ok (.invokestatic 177, 3) := by decide +kernel
theorem iv_39 : decode jdk_42_method_149_code 39 = .ok (.astore 5, 2) := by decide +kernel
theorem iv_41 : decode jdk_42_method_149_code 41 = .ok (.aload_n 0, 1) := by decide +kernel
theorem iv_42 : decode jdk_42_method_149_code 42 = .ok (.aload 5, 2) := by decide +kernel
theorem iv_44 : decode jdk_42_method_149_code 44 = .ok (.iload_n 3, 1) := by decide +kernel
theorem iv_45 : decode jdk_42_method_149_code 45 = .ok (.invokestatic 47, 3) := by decide +kernel
theorem iv_48 : decode jdk_42_method_149_code 48 = .ok (.putfield 15, 3) := by decide +kernel
theorem iv_51 : decode jdk_42_method_149_code 51 = .ok (.aload_n 0, 1) := by decide +kernel
theorem iv_52 : decode jdk_42_method_149_code 52 = .ok (.aload 5, 2) := by decide +kernel
theorem iv_54 : decode jdk_42_method_149_code 54 = .ok (.putfield 9, 3) := by decide +kernel
theorem iv_57 : decode jdk_42_method_149_code 57 = .ok (.return_, 1) := by decide +kernel
theorem ef_iv (m : MethodId) (x0 : Addr) (x1 : Addr) (x2 : Int32) (x3 : Int32) : entryFrame m #[.ref x0, .ref x1, .int x2, .int x3, .null] 6 = mkF m 0 #[.val (.ref x0), .val (.ref x1), .val (.int x2), .val (.int x3), .val .null, .unset] [] := by first | (simp [entryFrame, mkF, argsToLocals, Value.category, maxLocals]; done) | rfl
set_option maxRecDepth 65536 in
set_option maxHeartbeats 8000000 in
theorem t_iv2 (l : Launch) {Z : State} {a0 : Array Value} {EL : List (String × Nat)} (hw : ∀ d ∈ tables_1, d.before a0 Z = true) (hEL : EW Z a0 EL) (cst : Cst Z) (fst : Fst Z) (ust : Ust Z) {h : Heap} (hO : Ext Z.heap h) {x a : Addr} (S : NewS Z [x] h x) {c0 c1 : Int32} (A : Ali Z h a .char (([c0, c1] : List Int32).map Value.int)) (hW : ∀ c ∈ [c0, c1], Wc c) (hN : ¬ Latin [c0, c1]) :
    Met l Z EL [x] (⟨"java/lang/String", "<init>", "([CIILjava/lang/Void;)V"⟩ : MethodName) jdk_42_method_149_code 6 none { frames := 4, cells := 2, slots := 144, locals := 60 } #[.ref x, .ref a, .int 0, .int 2, .null] h (Void fun h' => Keep h h' [x] ∧ Str16 Z h' x [c0, c1]) := by
  have wi : (Jvm.Cond.instantiable "java/lang/String" 4).before a0 Z = true := (hI hw 5 rfl)
  have sn : Jvm.RoadKit.slotOf Z "java/lang/String" "value" "[B" ≠ Jvm.RoadKit.slotOf Z "java/lang/String" "coder" "B" := slot_ne (C := "java/lang/String") (Or.inr (hI hw 20 rfl)) (Or.inr (hI hw 21 rfl)) (by decide) (t := .array .byte) (t' := .byte) (by decide) (by decide)
  refine Met.intro pnS hEL hO ?_
  intro p e s m below meth c T W hby hml hret hnm
  have D : ∀ {pc : Nat} {r}, decode jdk_42_method_149_code pc = r → decode c.code pc = r := fun q => hb hby q
  refine Go.cast (ef_iv m x a 0 2) ?_
  obtain ⟨hx0, hxF, EX, ⟨v0, fv⟩, ⟨u0, fc⟩⟩ := S
  obtain ⟨zc, Sc, hzc⟩ := id cst
  refine g_aloadN W (pc' := 1) (D iv_0) rfl rfl (by first | rfl | assumption) ?_
  refine g_initO W (pc' := 4) (hI hw 15 rfl) (hI hw 16 rfl) (hI hw 17 rfl) (by rw [hml]; rfl) (D iv_1) rfl (by decide) (Wn := 0) (Nat.le_refl _) (by decide) (fun T W => ?_)
  refine g_iloadN W (pc' := 5) (D iv_4) rfl rfl ?_
  refine g_ifneY W (pc1 := 27) (pc2 := 8) (D iv_5) (by decide) (by decide) rfl (by decide) ?_
  refine g_getstatic W (pc' := 30) (host := "") (Or.inl (hI hw 43 rfl)) Via.refl (Sc.ext W.old) (D iv_27) rfl (fun T W => ?_)
  refine g_ifeqN W (pc1 := 58) (pc2 := 33) (D iv_30) (by decide) (by decide) rfl (hzc) ?_
  refine g_aloadN W (pc' := 34) (D iv_33) rfl rfl (by first | rfl | assumption) ?_
  refine g_iloadN W (pc' := 35) (D iv_34) rfl rfl ?_
  refine g_iloadN W (pc' := 36) (D iv_35) rfl rfl ?_
  refine g_callS W (t_comp2 l hw hEL cst fst ust W.old A hW hN) (fun x q => nomatch q) (hI hw 109 rfl) (hI hw 110 rfl) (hI hw 111 rfl) (hI hw 112 rfl) (by decide) pd_29 (argsL := [_, _, _]) rfl rfl (pc' := 39) rfl (by rw [hml]; rfl) (D iv_36) rfl (Wn := 0) (Nat.le_refl _) (by decide) (by decide) (by decide) (by decide) (fun v T g1 W hg hQ => ?_)
  obtain ⟨b, rfl, hb, E1, B1⟩ := hQ
  replace EX := EX.ext E1
  replace fv := fv.ext E1
  replace fc := fc.ext E1
  refine g_astore W (pc' := 41) (D iv_39) rfl (by first | rfl | assumption) (ls' := #[_, _, _, _, _, _]) rfl ?_
  refine g_aloadN W (pc' := 42) (D iv_41) rfl rfl (by first | rfl | assumption) ?_
  refine g_aload W (pc' := 44) (D iv_42) rfl rfl (by first | rfl | assumption) ?_
  refine g_iloadN W (pc' := 45) (D iv_44) rfl rfl ?_
  refine g_callS W (t_cfa2 l hw hEL cst fst ust W.old B1 rfl) (fun x q => nomatch q) (hI hw 116 rfl) (hI hw 117 rfl) (hI hw 111 rfl) (hI hw 118 rfl) (by decide) pd_30 (argsL := [_, _]) rfl rfl (pc' := 48) rfl (by rw [hml]; rfl) (D iv_45) rfl (Wn := 1) (Nat.le_refl _) (by decide) (by decide) (by decide) (by decide) (fun v T g2 W hg hQ => ?_)
  obtain ⟨rfl, rfl⟩ := hQ
  refine g_putfield W (pc' := 51) (host := "") (Or.inl (hI hw 25 rfl)) Via.refl (fc) (EX) (Or.inr ⟨(hI hw 21 rfl), rfl, hnm⟩) (hI hw 5 rfl) (ty := .byte) (by decide) rfl rfl (⟨hx0, Or.inl hxF⟩) (D iv_48) rfl (fun T g2 W Wr1 => ?_)
  replace fc := fc.same Wr1
  replace fv := fv.other Wr1 (Or.inr sn)
  have B2 := B1.wr Wr1 (B1.neE EX wi)
  replace EX := EX.wr Wr1
  refine g_aloadN W (pc' := 52) (D iv_51) rfl rfl (by first | rfl | assumption) ?_
  refine g_aload W (pc' := 54) (D iv_52) rfl rfl (by first | rfl | assumption) ?_
  refine g_putfield W (pc' := 57) (host := "") (Or.inl (hI hw 24 rfl)) Via.refl (fv) (EX) (Or.inr ⟨(hI hw 20 rfl), rfl, hnm⟩) (hI hw 5 rfl) (ty := (.array .byte)) (by decide) rfl rfl (⟨hx0, Or.inl hxF⟩) (D iv_54) rfl (fun T g3 W Wr2 => ?_)
  have KK : Keep h g3 [x] := ((ext_keep E1 [x]).wr Wr1 (Or.inl (List.mem_singleton.mpr rfl))).wr Wr2 (Or.inl (List.mem_singleton.mpr rfl))
  exact g_return W (D iv_57) hret (by decide) (by decide) ⟨rfl, KK, EX.wr Wr2, fc.other Wr2 (Or.inr (Ne.symm sn)), ⟨b, fv.same Wr2, B2.wr Wr2 (B2.neE EX wi)⟩, hW, by show 2 ≤ 4000; decide⟩
theorem iw2_0 : decode jdk_42_method_3_code 0 = .ok (.aload_n 0, 1) := by decide +kernel
theorem iw2_1 : decode jdk_42_method_3_code 1 = .ok (.aload_n 1, 1) := by decide +kernel
theorem iw2_2 : decode jdk_42_method_3_code 2 = .ok (.iconst 0, 1) := by decide +kernel
theorem iw2_3 : decode jdk_42_method_3_code 3 = .ok (.aload_n 1, 1) := by decide +kernel
theorem iw2_4 : decode jdk_42_method_3_code 4 = .ok (.arraylength, 1) := by decide +kernel
theorem iw2_5 : decode jdk_42_method_3_code 5 = .ok (.aconst_null, 1) := by decide +kernel
theorem iw2_6 : decode jdk_42_method_3_code 6 = .ok (.invokespecial 27, 3) := by decide +kernel
theorem iw2_9 : decode jdk_42_method_3_code 9 = .ok (.return_, 1) := by decide +kernel
theorem ef_iw2 (m : MethodId) (x0 : Addr) (x1 : Addr) : entryFrame m #[.ref x0, .ref x1] 2 = mkF m 0 #[.val (.ref x0), .val (.ref x1)] [] := by first | (simp [entryFrame, mkF, argsToLocals, Value.category, maxLocals]; done) | rfl
set_option maxRecDepth 65536 in
set_option maxHeartbeats 8000000 in
theorem t_new2 (l : Launch) {Z : State} {a0 : Array Value} {EL : List (String × Nat)} (hw : ∀ d ∈ tables_1, d.before a0 Z = true) (hEL : EW Z a0 EL) (cst : Cst Z) (fst : Fst Z) (ust : Ust Z) {h : Heap} (hO : Ext Z.heap h) {x a : Addr} (S : NewS Z [x] h x) {c0 c1 : Int32} (A : Ali Z h a .char (([c0, c1] : List Int32).map Value.int)) (hW : ∀ c ∈ [c0, c1], Wc c) (hN : ¬ Latin [c0, c1]) :
    Met l Z EL [x] (⟨"java/lang/String", "<init>", "([C)V"⟩ : MethodName) jdk_42_method_3_code 2 none { frames := 5, cells := 2, slots := 144, locals := 78 } #[.ref x, .ref a] h (Void fun h' => Keep h h' [x] ∧ Str16 Z h' x [c0, c1]) := by
  refine Met.intro pnS hEL hO ?_
  intro p e s m below meth c T W hby hml hret hnm
  have D : ∀ {pc : Nat} {r}, decode jdk_42_method_3_code pc = r → decode c.code pc = r := fun q => hb hby q
  refine Go.cast (ef_iw2 m x a) ?_
  refine g_aloadN W (pc' := 1) (D iw2_0) rfl rfl (by first | rfl | assumption) ?_
  refine g_aloadN W (pc' := 2) (D iw2_1) rfl rfl (by first | rfl | assumption) ?_
  refine g_iconst W (pc' := 3) (D iw2_2) rfl (v := (0 : Int32)) (by decide) ?_
  refine g_aloadN W (pc' := 4) (D iw2_3) rfl rfl (by first | rfl | assumption) ?_
  refine g_arraylength W (pc' := 5) (A) (z := (2 : Int32)) (rfl) (D iw2_4) rfl ?_
  refine g_aconst_null W (pc' := 6) (D iw2_5) rfl ?_
  refine g_spec W (t_iv2 l hw hEL cst fst ust W.old S A hW hN) (fun z q => q) rfl (hI hw 11 rfl) (hI hw 12 rfl) (hI hw 6 rfl) (hI hw 14 rfl) (by decide) pd_0 (argsL := [_, _, _, _]) rfl rfl (pc' := 9) rfl (by rw [hml]; rfl) (D iw2_6) rfl (Wn := 0) (Nat.le_refl _) (by decide) (by decide) (by decide) (by decide) (fun T g1 W hg hQ => ?_)
  exact g_return W (D iw2_9) hret (by decide) (by decide) ⟨rfl, hQ⟩
set_option maxRecDepth 65536 in
set_option maxHeartbeats 8000000 in
theorem t_iv3 (l : Launch) {Z : State} {a0 : Array Value} {EL : List (String × Nat)} (hw : ∀ d ∈ tables_1, d.before a0 Z = true) (hEL : EW Z a0 EL) (cst : Cst Z) (fst : Fst Z) (ust : Ust Z) {h : Heap} (hO : Ext Z.heap h) {x a : Addr} (S : NewS Z [x] h x) {c0 c1 c2 : Int32} (A : Ali Z h a .char (([c0, c1, c2] : List Int32).map Value.int)) (hW : ∀ c ∈ [c0, c1, c2], Wc c) (hN : ¬ Latin [c0, c1, c2]) :
    Met l Z EL [x] (⟨"java/lang/String", "<init>", "([CIILjava/lang/Void;)V"⟩ : MethodName) jdk_42_method_149_code 6 none { frames := 4, cells := 2, slots := 144, locals := 60 } #[.ref x, .ref a, .int 0, .int 3, .null] h (Void fun h' => Keep h h' [x] ∧ Str16 Z h' x [c0, c1, c2]) := by
  have wi : (Jvm.Cond.instantiable "java/lang/String" 4).before a0 Z = true := (hI hw 5 rfl)
  have sn : Jvm.RoadKit.slotOf Z "java/lang/String" "value" "[B" ≠ Jvm.RoadKit.slotOf Z "java/lang/String" "coder" "B" := slot_ne (C := "java/lang/String") (Or.inr (hI hw 20 rfl)) (Or.inr (hI hw 21 rfl)) (by decide) (t := .array .byte) (t' := .byte) (by decide) (by decide)
  refine Met.intro pnS hEL hO ?_
  intro p e s m below meth c T W hby hml hret hnm
  have D : ∀ {pc : Nat} {r}, decode jdk_42_method_149_code pc = r → decode c.code pc = r := fun q => hb hby q
  refine Go.cast (ef_iv m x a 0 3) ?_
  obtain ⟨hx0, hxF, EX, ⟨v0, fv⟩, ⟨u0, fc⟩⟩ := S
  obtain ⟨zc, Sc, hzc⟩ := id cst
  refine g_aloadN W (pc' := 1) (D iv_0) rfl rfl (by first | rfl | assumption) ?_
  refine g_initO W (pc' := 4) (hI hw 15 rfl) (hI hw 16 rfl) (hI hw 17 rfl) (by rw [hml]; rfl) (D iv_1) rfl (by decide) (Wn := 0) (Nat.le_refl _) (by decide) (fun T W => ?_)
  refine g_iloadN W (pc' := 5) (D iv_4) rfl rfl ?_
  refine g_ifneY W (pc1 := 27) (pc2 := 8) (D iv_5) (by decide) (by decide) rfl (by decide) ?_
  refine g_getstatic W (pc' := 30) (host := "") (Or.inl (hI hw 43 rfl)) Via.refl (Sc.ext W.old) (D iv_27) rfl (fun T W => ?_)
  refine g_ifeqN W (pc1 := 58) (pc2 := 33) (D iv_30) (by decide) (by decide) rfl (hzc) ?_
  refine g_aloadN W (pc' := 34) (D iv_33) rfl rfl (by first | rfl | assumption) ?_
  refine g_iloadN W (pc' := 35) (D iv_34) rfl rfl ?_
  refine g_iloadN W (pc' := 36) (D iv_35) rfl rfl ?_
  refine g_callS W (t_comp3 l hw hEL cst fst ust W.old A hW hN) (fun x q => nomatch q) (hI hw 109 rfl) (hI hw 110 rfl) (hI hw 111 rfl) (hI hw 112 rfl) (by decide) pd_29 (argsL := [_, _, _]) rfl rfl (pc' := 39) rfl (by rw [hml]; rfl) (D iv_36) rfl (Wn := 0) (Nat.le_refl _) (by decide) (by decide) (by decide) (by decide) (fun v T g1 W hg hQ => ?_)
  obtain ⟨b, rfl, hb, E1, B1⟩ := hQ
  replace EX := EX.ext E1
  replace fv := fv.ext E1
  replace fc := fc.ext E1
  refine g_astore W (pc' := 41) (D iv_39) rfl (by first | rfl | assumption) (ls' := #[_, _, _, _, _, _]) rfl ?_
  refine g_aloadN W (pc' := 42) (D iv_41) rfl rfl (by first | rfl | assumption) ?_
  refine g_aload W (pc' := 44) (D iv_42) rfl rfl (by first | rfl | assumption) ?_
  refine g_iloadN W (pc' := 45) (D iv_44) rfl rfl ?_
  refine g_callS W (t_cfa3 l hw hEL cst fst ust W.old B1 rfl) (fun x q => nomatch q) (hI hw 116 rfl) (hI hw 117 rfl) (hI hw 111 rfl) (hI hw 118 rfl) (by decide) pd_30 (argsL := [_, _]) rfl rfl (pc' := 48) rfl (by rw [hml]; rfl) (D iv_45) rfl (Wn := 1) (Nat.le_refl _) (by decide) (by decide) (by decide) (by decide) (fun v T g2 W hg hQ => ?_)
  obtain ⟨rfl, rfl⟩ := hQ
  refine g_putfield W (pc' := 51) (host := "") (Or.inl (hI hw 25 rfl)) Via.refl (fc) (EX) (Or.inr ⟨(hI hw 21 rfl), rfl, hnm⟩) (hI hw 5 rfl) (ty := .byte) (by decide) rfl rfl (⟨hx0, Or.inl hxF⟩) (D iv_48) rfl (fun T g2 W Wr1 => ?_)
  replace fc := fc.same Wr1
  replace fv := fv.other Wr1 (Or.inr sn)
  have B2 := B1.wr Wr1 (B1.neE EX wi)
  replace EX := EX.wr Wr1
  refine g_aloadN W (pc' := 52) (D iv_51) rfl rfl (by first | rfl | assumption) ?_
  refine g_aload W (pc' := 54) (D iv_52) rfl rfl (by first | rfl | assumption) ?_
  refine g_putfield W (pc' := 57) (host := "") (Or.inl (hI hw 24 rfl)) Via.refl (fv) (EX) (Or.inr ⟨(hI hw 20 rfl), rfl, hnm⟩) (hI hw 5 rfl) (ty := (.array .byte)) (by decide) rfl rfl (⟨hx0, Or.inl hxF⟩) (D iv_54) rfl (fun T g3 W Wr2 => ?_)
  have KK : Keep h g3 [x] := ((ext_keep E1 [x]).wr Wr1 (Or.inl (List.mem_singleton.mpr rfl))).wr Wr2 (Or.inl (List.mem_singleton.mpr rfl))
  exact g_return W (D iv_57) hret (by decide) (by decide) ⟨rfl, KK, EX.wr Wr2, fc.other Wr2 (Or.inr (Ne.symm sn)), ⟨b, fv.same Wr2, B2.wr Wr2 (B2.neE EX wi)⟩, hW, by show 3 ≤ 4000; decide⟩
theorem iw3_0 : decode jdk_42_method_3_code 0 = .ok (.aload_n 0, 1) := by decide +kernel
theorem iw3_1 : decode jdk_42_method_3_code 1 = .ok (.aload_n 1, 1) := by decide +kernel
theorem iw3_2 : decode jdk_42_method_3_code 2 = .ok (.iconst 0, 1) := by decide +kernel
theorem iw3_3 : decode jdk_42_method_3_code 3 = .ok (.aload_n 1, 1) := by decide +kernel
theorem iw3_4 : decode jdk_42_method_3_code 4 = .ok (.arraylength, 1) := by decide +kernel
theorem iw3_5 : decode jdk_42_method_3_code 5 = .ok (.aconst_null, 1) := by decide +kernel
theorem iw3_6 : decode jdk_42_method_3_code 6 = .ok (.invokespecial 27, 3) := by decide +kernel
theorem iw3_9 : decode jdk_42_method_3_code 9 = .ok (.return_, 1) := by decide +kernel
theorem ef_iw3 (m : MethodId) (x0 : Addr) (x1 : Addr) : entryFrame m #[.ref x0, .ref x1] 2 = mkF m 0 #[.val (.ref x0), .val (.ref x1)] [] := by first | (simp [entryFrame, mkF, argsToLocals, Value.category, maxLocals]; done) | rfl
set_option maxRecDepth 65536 in
set_option maxHeartbeats 8000000 in
theorem t_new3 (l : Launch) {Z : State} {a0 : Array Value} {EL : List (String × Nat)} (hw : ∀ d ∈ tables_1, d.before a0 Z = true) (hEL : EW Z a0 EL) (cst : Cst Z) (fst : Fst Z) (ust : Ust Z) {h : Heap} (hO : Ext Z.heap h) {x a : Addr} (S : NewS Z [x] h x) {c0 c1 c2 : Int32} (A : Ali Z h a .char (([c0, c1, c2] : List Int32).map Value.int)) (hW : ∀ c ∈ [c0, c1, c2], Wc c) (hN : ¬ Latin [c0, c1, c2]) :
    Met l Z EL [x] (⟨"java/lang/String", "<init>", "([C)V"⟩ : MethodName) jdk_42_method_3_code 2 none { frames := 5, cells := 2, slots := 144, locals := 78 } #[.ref x, .ref a] h (Void fun h' => Keep h h' [x] ∧ Str16 Z h' x [c0, c1, c2]) := by
  refine Met.intro pnS hEL hO ?_
  intro p e s m below meth c T W hby hml hret hnm
  have D : ∀ {pc : Nat} {r}, decode jdk_42_method_3_code pc = r → decode c.code pc = r := fun q => hb hby q
  refine Go.cast (ef_iw3 m x a) ?_
  refine g_aloadN W (pc' := 1) (D iw3_0) rfl rfl (by first | rfl | assumption) ?_
  refine g_aloadN W (pc' := 2) (D iw3_1) rfl rfl (by first | rfl | assumption) ?_
  refine g_iconst W (pc' := 3) (D iw3_2) rfl (v := (0 : Int32)) (by decide) ?_
  refine g_aloadN W (pc' := 4) (D iw3_3) rfl rfl (by first | rfl | assumption) ?_
  refine g_arraylength W (pc' := 5) (A) (z := (3 : Int32)) (rfl) (D iw3_4) rfl ?_
  refine g_aconst_null W (pc' := 6) (D iw3_5) rfl ?_
  refine g_spec W (t_iv3 l hw hEL cst fst ust W.old S A hW hN) (fun z q => q) rfl (hI hw 11 rfl) (hI hw 12 rfl) (hI hw 6 rfl) (hI hw 14 rfl) (by decide) pd_0 (argsL := [_, _, _, _]) rfl rfl (pc' := 9) rfl (by rw [hml]; rfl) (D iw3_6) rfl (Wn := 0) (Nat.le_refl _) (by decide) (by decide) (by decide) (by decide) (fun T g1 W hg hQ => ?_)
  exact g_return W (D iw3_9) hret (by decide) (by decide) ⟨rfl, hQ⟩
/-! own kit, part J: literals apart from the own cells -/
section OwnJ
variable {p : Program} {l : Launch} {e : Env} {R : Room} {s : State} {m : MethodId} {args : Array Value} {below : List Frame} {meth : Method} {c : Code} {T T' : State} {h h' : Heap} {Z : State} {a0 : Array Value} {EL : List (String × Nat)} {own : String} {k n : Nat} {P : Outcome → State → Prop} {F : List Addr}
/-- ldc of a String constant, apart from what the walk may write -/
theorem g_ldcU (W : Wd p l e R s m args below meth c Z a0 EL own F T h k n) {pc pc' : Nat} {ls : Array Slot} {st : List Value} {index : Nat} {text : String} {cs : List Int32} (w : (Jvm.Cond.stringLink own index text).before a0 Z = true) (wS : ∀ a ∈ Bundle.stringAtoms, a.before a0 Z = true) (hmem : (own, index) ∈ EL)
    (ht : (∀ c ∈ text.toList, c.toNat < 256) ∧ text.toList.map (fun c => Value.int (Jvm.Lit.byteI c.toNat.toUInt16)) = (cs.map lo).map Value.int) (hL : Latin cs) (hlen : cs.length ≤ 4000) {nn : Nat} (hn : 4 * text.toList.length ≤ nn) (hbig : nn ≤ 536870912)
    (hd : decode c.code pc = .ok (.ldc index, 2)) (hp : pc + 2 = pc') (hc : k + 2 ≤ R.cells) (hl : n + (nn + 4) ≤ R.slots)
    (K : ∀ a T' h', Wd p l e R s m args below meth c Z a0 EL own F T' h' (k + 2) (n + (nn + 4)) → Ext h h' → Str Z h' a cs → (∃ b, Fld Z h' a "java/lang/String" "value" "[B" (.ref b) ∧ Ali Z h' b .byte ((cs.map lo).map Value.int) ∧ ∀ z ∈ F, z ≠ b) → Go p e below P T' (mkF m pc' ls (.ref a :: st))) : Go p e below P T (mkF m pc ls st) := by
  subst hp
  obtain ⟨w1, w2, w3, w4, vm0, k0, locs, X, hZ, hown, eT, hS, hk, hC, hN, hH, hF⟩ := W
  have hz : (Int32.ofNat cs.length).toNatClampNeg = ((cs.map lo).map Value.int).length := by rw [own_n32 (by omega)]; simp
  obtain ⟨a, T', h', k1, b, kb, X', eT', E, hS', hk1, hZ', hown', q1, q2, q3, q4, -, -, hC', -, hap, st⟩ := ldcCH X w1 hZ hown w wS eT hS hk w3 hmem hC.1 ht (own_n0 (by omega)) hz (g := mkF m pc ls st) rfl hd hn hbig hc hl
  exact (K a T' h' ⟨w1, ext_trans w2 E, w3, w4, T'.vm, k1, locs, X', hZ', hown', eT', hS', hk1, hC.trans hC', hN, fun z => (by rw [z] at hmem; cases hmem), fun x q => ⟨Nat.lt_of_lt_of_le (hF x q).1 E.1, hC'.safe (hF x q).1 (hF x q).2⟩⟩ E ⟨q1, q2, ⟨b, q3, Ali.of_arv q4 hz⟩, hL, hlen⟩ ⟨b, q3, Ali.of_arv q4 hz, fun z q => (hap z (hC'.safe (hF z q).1 (hF z q).2)).2⟩).st st
end OwnJ
/-! valueOf(char) above 255; inflate -/
theorem lo_and' {c : Int32} (h : Lc c) : lo c &&& 255 = c := by
  have a1 := c_mask (lo c) 255 8 (by decide) (by decide)
  have b1 := c_i2b c
  have f1 : c.toInt8.toInt32 = lo c := rfl
  rw [f1] at b1
  have h0 := h.1
  have h1 := h.2
  rw [Int32.lt_iff_toInt_lt] at h0 h1
  have e0 : (0 : Int32).toInt = 0 := rfl
  have e1 : (255 : Int32).toInt = 255 := rfl
  apply Int32.toInt_inj.mp
  omega
theorem set2 {P R : List Int32} {i : Nat} {x y a b : Int32} (h : P.length = i) : ((P ++ (a :: b :: R)).set i x).set (i + 1) y = P ++ (x :: y :: R) := by
  subst h
  induction P with
  | nil => rfl
  | cons p P ih => simp only [List.cons_append, List.length_cons, List.set_cons_succ, ih]
theorem drop2 {bs : List Int32} {i : Nat} (h : i + 1 < bs.length) : ∃ a b, bs.drop i = a :: b :: bs.drop (i + 2) := by
  refine ⟨bs[i], bs[i + 1], ?_⟩
  rw [List.drop_eq_getElem_cons (by omega), List.drop_eq_getElem_cons (i := i + 1) (by omega)]
theorem or_nn {a b : Int32} (ha : ¬ a < 0) (hb : ¬ b < 0) : ¬ (a ||| b) < 0 := by
  have q := (c_orS a b).1
  rw [Int32.lt_iff_toInt_lt] at ha hb ⊢
  have e0 : (0 : Int32).toInt = 0 := rfl
  rw [e0] at ha hb ⊢
  have := q (by omega) (by omega)
  omega
set_option maxRecDepth 65536 in
set_option maxHeartbeats 8000000 in
theorem t_canEnc0 (l : Launch) {Z : State} {a0 : Array Value} {EL : List (String × Nat)} (hw : ∀ d ∈ tables_1, d.before a0 Z = true) (hEL : EW Z a0 EL) (cst : Cst Z) (fst : Fst Z) (ust : Ust Z) {h : Heap} (hO : Ext Z.heap h) {ch : Int32} (hc : (255 : Int32) < ch) :
    Met l Z EL [] (⟨"java/lang/StringLatin1", "canEncode", "(C)Z"⟩ : MethodName) jdk_43_method_3_code 1 (some .boolean) { frames := 0, cells := 0, slots := 0, locals := 0 } #[.int ch] h (Ret fun v h' => v = .int 0 ∧ h = h') := by
  refine Met.intro pnL1 hEL hO ?_
  intro p e s m below meth c T W hby hml hret hnm
  have D : ∀ {pc : Nat} {r}, decode jdk_43_method_3_code pc = r → decode c.code pc = r := fun q => hb hby q
  refine Go.cast (efCe m ch) ?_
  refine g_iloadN W (pc' := 1) (D ce_0) rfl rfl ?_
  refine g_sipush W (pc' := 4) (D ce_1) rfl (v := (255 : Int32)) (by decide) ?_
  refine g_icmpgtY W (pc1 := 11) (pc2 := 7) (D ce_4) (by decide) (by decide) rfl (hc) ?_
  refine g_iconst W (pc' := 12) (D ce_11) rfl (v := (0 : Int32)) (by decide) ?_
  exact g_retz W (D ce_12) hret (Or.inl rfl) (by decide) (by decide) ⟨_, rfl, rfl, rfl⟩
theorem tw_0 : decode jdk_52_method_24_code 0 = .ok (.iconst 2, 1) := by decide +kernel
theorem tw_1 : decode jdk_52_method_24_code 1 = .ok (.newarray .byte, 2) := by decide +kernel
theorem tw_3 : decode jdk_52_method_24_code 3 = .ok (.astore_n 1, 1) := by decide +kernel
theorem tw_4 : decode jdk_52_method_24_code 4 = .ok (.aload_n 1, 1) := by decide +kernel
theorem tw_5 : decode jdk_52_method_24_code 5 = .ok (.iconst 0, 1) := by decide +kernel
theorem tw_6 : decode jdk_52_method_24_code 6 = .ok (.iload_n 0, 1) := by decide +kernel
theorem tw_7 : decode jdk_52_method_24_code 7 = .ok (.invokestatic 111, 3) := by decide +kernel
theorem tw_10 : decode jdk_52_method_24_code 10 = .ok (.aload_n 1, 1) := by decide +kernel
theorem tw_11 : decode jdk_52_method_24_code 11 = .ok (.areturn, 1) := by decide +kernel
theorem ef_tw (m : MethodId) (x0 : Int32) : entryFrame m #[.int x0] 2 = mkF m 0 #[.val (.int x0), .unset] [] := by first | (simp [entryFrame, mkF, argsToLocals, Value.category, maxLocals]; done) | rfl
set_option maxRecDepth 65536 in
set_option maxHeartbeats 8000000 in
theorem t_toB1 (l : Launch) {Z : State} {a0 : Array Value} {EL : List (String × Nat)} (hw : ∀ d ∈ tables_1, d.before a0 Z = true) (hEL : EW Z a0 EL) (cst : Cst Z) (fst : Fst Z) (ust : Ust Z) {h : Heap} (hO : Ext Z.heap h) {ch : Int32} :
    Met l Z EL [] (⟨"java/lang/StringUTF16", "toBytes", "(C)[B"⟩ : MethodName) jdk_52_method_24_code 2 (some (.array .byte)) { frames := 1, cells := 1, slots := 2, locals := 14 } #[.int ch] h (Ret fun v h' => ∃ b, v = .ref b ∧ h.size ≤ b ∧ Ext h h' ∧ Ali Z h' b .byte ((w16 [ch]).map Value.int)) := by
  refine Met.intro pn16 hEL hO ?_
  intro p e s m below meth c T W hby hml hret hnm
  have D : ∀ {pc : Nat} {r}, decode jdk_52_method_24_code pc = r → decode c.code pc = r := fun q => hb hby q
  refine Go.cast (ef_tw m ch) ?_
  refine g_iconst W (pc' := 1) (D tw_0) rfl (v := (2 : Int32)) (by decide) ?_
  refine g_newarray W (pc' := 3) (ty := .byte) rfl (i := 2) (by decide) (by decide) (hI hw 19 rfl) (D tw_1) rfl (cap := 2) (by decide) (by decide) (by decide) (by decide) (fun b T g1 hb W E1 B0 => ?_)
  replace B0 : Ali Z g1 b .byte (([0, 0] : List Int32).map Value.int) := B0
  refine g_astoreN W (pc' := 4) (D tw_3) rfl (by first | rfl | assumption) (ls' := #[_, _]) rfl ?_
  refine g_aloadN W (pc' := 5) (D tw_4) rfl rfl (by first | rfl | assumption) ?_
  refine g_iconst W (pc' := 6) (D tw_5) rfl (v := (0 : Int32)) (by decide) ?_
  refine g_iloadN W (pc' := 7) (D tw_6) rfl rfl ?_
  refine g_callSV W (t_putChar l hw hEL cst fst ust W.old B0 (Nat.le_trans hO.1 hb) (i := 0) (by decide) (ch := ch)) (fun y q => q) (hI hw 233 rfl) (hI hw 234 rfl) (hI hw 111 rfl) (hI hw 235 rfl) (by decide) pd_26 (argsL := [_, _, _]) rfl rfl (pc' := 10) rfl (by rw [hml]; rfl) (D tw_7) rfl (Wn := 0) (Nat.le_refl _) (by decide) (by decide) (by decide) (by decide) (fun T g2 W hg hQ => ?_)
  obtain ⟨K1, B1⟩ := hQ
  refine g_aloadN W (pc' := 11) (D tw_10) rfl rfl (by first | rfl | assumption) ?_
  exact g_areturn W (D tw_11) hret rfl rfl (by decide) (by decide) ⟨_, rfl, b, rfl, hb, keep_ext ((ext_keep E1 []).trans K1 (own_new hb)), B1⟩
set_option maxRecDepth 65536 in
set_option maxHeartbeats 8000000 in
theorem t_initBW (l : Launch) {Z : State} {a0 : Array Value} {EL : List (String × Nat)} (hw : ∀ d ∈ tables_1, d.before a0 Z = true) (hEL : EW Z a0 EL) (cst : Cst Z) (fst : Fst Z) (ust : Ust Z) {h : Heap} (hO : Ext Z.heap h) {x b : Addr} (S : NewS Z [x] h x) {cs : List Int32} (A : Ali Z h b .byte ((w16 cs).map Value.int)) (hL : ∀ c ∈ cs, Wc c) (hl : cs.length ≤ 4000) :
    Met l Z EL [x] (⟨"java/lang/String", "<init>", "([BB)V"⟩ : MethodName) jdk_42_method_151_code 3 none { frames := 1, cells := 0, slots := 0, locals := 12 } #[.ref x, .ref b, .int 1] h (Void fun h' => Keep h h' [x] ∧ Str16 Z h' x cs) := by
  refine Met.intro pnS hEL hO ?_
  intro p e s m below meth c T W hby hml hret hnm
  have D : ∀ {pc : Nat} {r}, decode jdk_42_method_151_code pc = r → decode c.code pc = r := fun q => hb hby q
  refine Go.cast (efIb m x b 1) ?_
  have wi : (Jvm.Cond.instantiable "java/lang/String" 4).before a0 Z = true := (hI hw 5 rfl)
  obtain ⟨hx0, hxF, EX, ⟨v0, fv⟩, ⟨u0, fc⟩⟩ := S
  have sn : Jvm.RoadKit.slotOf Z "java/lang/String" "value" "[B" ≠ Jvm.RoadKit.slotOf Z "java/lang/String" "coder" "B" := slot_ne (C := "java/lang/String") (Or.inr (hI hw 20 rfl)) (Or.inr (hI hw 21 rfl)) (by decide) (t := .array .byte) (t' := .byte) (by decide) (by decide)
  refine g_aloadN W (pc' := 1) (D ib_0) rfl rfl (by first | rfl | assumption) ?_
  refine g_initO W (pc' := 4) (hI hw 15 rfl) (hI hw 16 rfl) (hI hw 17 rfl) (by rw [hml]; rfl) (D ib_1) rfl (by decide) (Wn := 0) (Nat.le_refl _) (by decide) (fun T W => ?_)
  refine g_aloadN W (pc' := 5) (D ib_4) rfl rfl (by first | rfl | assumption) ?_
  refine g_aloadN W (pc' := 6) (D ib_5) rfl rfl (by first | rfl | assumption) ?_
  refine g_putfield W (pc' := 9) (host := "") (Or.inl (hI hw 24 rfl)) Via.refl (fv) (EX) (Or.inr ⟨(hI hw 20 rfl), rfl, hnm⟩) (hI hw 5 rfl) (ty := (.array .byte)) (by decide) rfl rfl (⟨hx0, Or.inl hxF⟩) (D ib_6) rfl (fun T h1 W Wr1 => ?_)
  have A2 := A.wr Wr1 (A.neE EX wi)
  have K1 : Keep h h1 [x] := Keep.of_wr Wr1
  replace fv := fv.same Wr1
  replace fc := fc.other Wr1 (Or.inr (Ne.symm sn))
  replace EX := EX.wr Wr1
  refine g_aloadN W (pc' := 10) (D ib_9) rfl rfl (by first | rfl | assumption) ?_
  refine g_iloadN W (pc' := 11) (D ib_10) rfl rfl ?_
  refine g_putfield W (pc' := 14) (host := "") (Or.inl (hI hw 25 rfl)) Via.refl (fc) (EX) (Or.inr ⟨(hI hw 21 rfl), rfl, hnm⟩) (hI hw 5 rfl) (ty := .byte) (by decide) rfl rfl (⟨hx0, Or.inl hxF⟩) (D ib_11) rfl (fun T h2 W Wr2 => ?_)
  exact g_return W (D ib_14) hret (by decide) (by decide) ⟨rfl, K1.wr Wr2 (Or.inl (List.mem_singleton.mpr rfl)), EX.wr Wr2, fc.same Wr2, ⟨b, fv.other Wr2 (Or.inr sn), A2.wr Wr2 (A2.neE EX wi)⟩, hL, hl⟩
set_option maxRecDepth 65536 in
set_option maxHeartbeats 8000000 in
theorem t_valueOfW (l : Launch) {Z : State} {a0 : Array Value} {EL : List (String × Nat)} (hw : ∀ d ∈ tables_1, d.before a0 Z = true) (hEL : EW Z a0 EL) (cst : Cst Z) (fst : Fst Z) (ust : Ust Z) {h : Heap} (hO : Ext Z.heap h) {ch : Int32} (hc : Wc ch) (hbig : (255 : Int32) < ch) :
    Met l Z EL [] (⟨"java/lang/String", "valueOf", "(C)Ljava/lang/String;"⟩ : MethodName) jdk_42_method_139_code 1 (some (.object "java/lang/String")) { frames := 2, cells := 2, slots := 6, locals := 30 } #[.int ch] h (Ret fun v h' => ∃ x, v = .ref x ∧ Ext h h' ∧ Str16 Z h' x [ch]) := by
  refine Met.intro pnS hEL hO ?_
  intro p e s m below meth c T W hby hml hret hnm
  have D : ∀ {pc : Nat} {r}, decode jdk_42_method_139_code pc = r → decode c.code pc = r := fun q => hb hby q
  refine Go.cast (efVo m ch) ?_
  have wi : (Jvm.Cond.instantiable "java/lang/String" 4).before a0 Z = true := (hI hw 5 rfl)
  obtain ⟨zc, Sc, hzc⟩ := id cst
  refine g_getstatic W (pc' := 3) (host := "") (Or.inl (hI hw 43 rfl)) Via.refl (Sc.ext W.old) (D vo_0) rfl (fun T W => ?_)
  refine g_ifeqN W (pc1 := 26) (pc2 := 6) (D vo_3) (by decide) (by decide) rfl (hzc) ?_
  refine g_iloadN W (pc' := 7) (D vo_6) rfl rfl ?_
  refine g_callS W (t_canEnc0 l hw hEL cst fst ust W.old hbig) (fun x q => nomatch q) (hI hw 282 rfl) (hI hw 160 rfl) (hI hw 134 rfl) (hI hw 161 rfl) (by decide) pd_1 (argsL := [_]) rfl rfl (pc' := 10) rfl (by rw [hml]; rfl) (D vo_7) rfl (Wn := 0) (Nat.le_refl _) (by decide) (by decide) (by decide) (by decide) (fun v T h1 W hg hQ => ?_)
  obtain ⟨rfl, rfl⟩ := hQ
  refine g_ifeqY W (pc1 := 26) (pc2 := 13) (D vo_10) (by decide) (by decide) rfl (rfl) ?_
  refine g_newS W (pc' := 29) (hI hw 283 rfl) wi (hI hw 6 rfl) (hI hw 20 rfl) (hI hw 21 rfl) (D vo_26) rfl (by decide) (by decide) (fun x T h1 hx W E1 N => ?_)
  refine g_dup W (pc' := 30) (D vo_29) rfl rfl ?_
  refine g_iloadN W (pc' := 31) (D vo_30) rfl rfl ?_
  refine g_callS W (t_toB1 l hw hEL cst fst ust W.old (ch := ch)) (fun x q => nomatch q) (hI hw 292 rfl) (hI hw 293 rfl) (hI hw 111 rfl) (hI hw 294 rfl) (by decide) pd_2 (argsL := [_]) rfl rfl (pc' := 34) rfl (by rw [hml]; rfl) (D vo_31) rfl (Wn := 2) (Nat.le_refl _) (by decide) (by decide) (by decide) (by decide) (fun v T h2 W hg hQ => ?_)
  obtain ⟨b, rfl, hb0, E2, A⟩ := hQ
  refine g_iconst W (pc' := 35) (D vo_34) rfl (v := (1 : Int32)) (by decide) ?_
  refine g_spec W (t_initBW l hw hEL cst fst ust W.old (N.one.ext E2) (cs := [ch]) A (fun z hz => by cases List.mem_singleton.mp hz; exact hc) (by show 1 ≤ 4000; decide)) (fun y q => by cases List.mem_singleton.mp q; exact List.mem_cons_self ..) rfl (hI hw 287 rfl) (hI hw 288 rfl) (hI hw 6 rfl) (hI hw 289 rfl) (by decide) pd_3 (argsL := [_, _]) rfl rfl (pc' := 38) rfl (by rw [hml]; rfl) (D vo_35) rfl (Wn := 1) (Nat.le_refl _) (by decide) (by decide) (by decide) (by decide) (fun T h3 W hg hQ => ?_)
  obtain ⟨K3, S⟩ := hQ
  exact g_areturn W (D vo_38) hret rfl rfl (by decide) (by decide) ⟨_, rfl, x, rfl, keep_ext ((ext_keep (ext_trans E1 E2) []).trans K3 (own_new hx)), S⟩
theorem fs_0 : decode jdk_41_method_13_code 0 = .ok (.iload_n 2, 1) := by decide +kernel
theorem fs_1 : decode jdk_41_method_13_code 1 = .ok (.iload_n 0, 1) := by decide +kernel
theorem fs_2 : decode jdk_41_method_13_code 2 = .ok (.ior, 1) := by decide +kernel
theorem fs_3 : decode jdk_41_method_13_code 3 = .ok (.iload_n 1, 1) := by decide +kernel
theorem fs_4 : decode jdk_41_method_13_code 4 = .ok (.ior, 1) := by decide +kernel
theorem fs_5 : decode jdk_41_method_13_code 5 = .ok (.ifCond .lt 10, 3) := by decide +kernel
theorem fs_8 : decode jdk_41_method_13_code 8 = .ok (.iload_n 1, 1) := by decide +kernel
theorem fs_9 : decode jdk_41_method_13_code 9 = .ok (.iload_n 2, 1) := by decide +kernel
theorem fs_10 : decode jdk_41_method_13_code 10 = .ok (.iload_n 0, 1) := by decide +kernel
theorem fs_11 : decode jdk_41_method_13_code 11 = .ok (.isub, 1) := by decide +kernel
theorem fs_12 : decode jdk_41_method_13_code 12 = .ok (.if_icmp .le 11, 3) := by decide +kernel
theorem fs_23 : decode jdk_41_method_13_code 23 = .ok (.iload_n 0, 1) := by decide +kernel
theorem fs_24 : decode jdk_41_method_13_code 24 = .ok (.ireturn, 1) := by decide +kernel
theorem ef_fs (m : MethodId) (x0 : Int32) (x1 : Int32) (x2 : Int32) (x3 : Addr) : entryFrame m #[.int x0, .int x1, .int x2, .ref x3] 4 = mkF m 0 #[.val (.int x0), .val (.int x1), .val (.int x2), .val (.ref x3)] [] := by first | (simp [entryFrame, mkF, argsToLocals, Value.category, maxLocals]; done) | rfl
theorem ef_fsN (m : MethodId) (x0 : Int32) (x1 : Int32) (x2 : Int32) : entryFrame m #[.int x0, .int x1, .int x2, .null] 4 = mkF m 0 #[.val (.int x0), .val (.int x1), .val (.int x2), .val .null] [] := by first | (simp [entryFrame, mkF, argsToLocals, Value.category, maxLocals]; done) | rfl
set_option maxRecDepth 65536 in
set_option maxHeartbeats 8000000 in
theorem t_pfs (l : Launch) {Z : State} {a0 : Array Value} {EL : List (String × Nat)} (hw : ∀ d ∈ tables_1, d.before a0 Z = true) (hEL : EW Z a0 EL) (cst : Cst Z) (fst : Fst Z) (ust : Ust Z) {h : Heap} (hO : Ext Z.heap h) {f z n : Nat} (hi : f + z ≤ n) (hn : n < 2 ^ 31) {q : Addr} :
    Met l Z EL [] (⟨"jdk/internal/util/Preconditions", "checkFromIndexSize", "(IIILjava/util/function/BiFunction;)I"⟩ : MethodName) jdk_41_method_13_code 4 (some .int) { frames := 0, cells := 0, slots := 0, locals := 0 } #[.int (Int32.ofNat f), .int (Int32.ofNat z), .int (Int32.ofNat n), (.ref q)] h (Ret fun v h' => h = h' ∧ ∃ z, v = .int z) := by
  refine Met.intro pnU hEL hO ?_
  intro p e s m below meth c T W hby hml hret hnm
  have D : ∀ {pc : Nat} {r}, decode jdk_41_method_13_code pc = r → decode c.code pc = r := fun q => hb hby q
  refine Go.cast (ef_fs m (Int32.ofNat f) (Int32.ofNat z) (Int32.ofNat n) q) ?_
  refine g_iloadN W (pc' := 1) (D fs_0) rfl rfl ?_
  refine g_iloadN W (pc' := 2) (D fs_1) rfl rfl ?_
  refine g_ior W (pc' := 3) (D fs_2) rfl ?_
  refine g_iloadN W (pc' := 4) (D fs_3) rfl rfl ?_
  refine g_ior W (pc' := 5) (D fs_4) rfl ?_
  refine g_ifltN W (pc1 := 15) (pc2 := 8) (D fs_5) (by decide) (by decide) rfl (or_nn (or_nn (own_n0 hn) (own_n0 (by omega))) (own_n0 (by omega))) ?_
  refine g_iloadN W (pc' := 9) (D fs_8) rfl rfl ?_
  refine g_iloadN W (pc' := 10) (D fs_9) rfl rfl ?_
  refine g_iloadN W (pc' := 11) (D fs_10) rfl rfl ?_
  refine g_isub W (pc' := 12) (D fs_11) rfl ?_
  have e1 : Int32.ofNat n - Int32.ofNat f = Int32.ofNat (n - f) := by rw [show Int32.ofNat n = Int32.ofNat (n - f) + Int32.ofNat f by rw [← Int32.ofNat_add, Nat.sub_add_cancel (by omega)], Int32.add_sub_cancel]
  rw [e1]
  refine g_icmpleY W (pc1 := 23) (pc2 := 15) (D fs_12) (by decide) (by decide) rfl ((by rw [Int32.lt_iff_toInt_lt, Int32.toInt_ofNat_small (by omega), Int32.toInt_ofNat_small (by omega)]; omega)) ?_
  refine g_iloadN W (pc' := 24) (D fs_23) rfl rfl ?_
  exact g_reti W (D fs_24) hret (by decide) (by decide) ⟨_, rfl, rfl, _, rfl⟩
set_option maxRecDepth 65536 in
set_option maxHeartbeats 8000000 in
theorem t_pfsN (l : Launch) {Z : State} {a0 : Array Value} {EL : List (String × Nat)} (hw : ∀ d ∈ tables_1, d.before a0 Z = true) (hEL : EW Z a0 EL) (cst : Cst Z) (fst : Fst Z) (ust : Ust Z) {h : Heap} (hO : Ext Z.heap h) {f z n : Nat} (hi : f + z ≤ n) (hn : n < 2 ^ 31) :
    Met l Z EL [] (⟨"jdk/internal/util/Preconditions", "checkFromIndexSize", "(IIILjava/util/function/BiFunction;)I"⟩ : MethodName) jdk_41_method_13_code 4 (some .int) { frames := 0, cells := 0, slots := 0, locals := 0 } #[.int (Int32.ofNat f), .int (Int32.ofNat z), .int (Int32.ofNat n), .null] h (Ret fun v h' => h = h' ∧ ∃ z, v = .int z) := by
  refine Met.intro pnU hEL hO ?_
  intro p e s m below meth c T W hby hml hret hnm
  have D : ∀ {pc : Nat} {r}, decode jdk_41_method_13_code pc = r → decode c.code pc = r := fun q => hb hby q
  refine Go.cast (ef_fsN m (Int32.ofNat f) (Int32.ofNat z) (Int32.ofNat n)) ?_
  refine g_iloadN W (pc' := 1) (D fs_0) rfl rfl ?_
  refine g_iloadN W (pc' := 2) (D fs_1) rfl rfl ?_
  refine g_ior W (pc' := 3) (D fs_2) rfl ?_
  refine g_iloadN W (pc' := 4) (D fs_3) rfl rfl ?_
  refine g_ior W (pc' := 5) (D fs_4) rfl ?_
  refine g_ifltN W (pc1 := 15) (pc2 := 8) (D fs_5) (by decide) (by decide) rfl (or_nn (or_nn (own_n0 hn) (own_n0 (by omega))) (own_n0 (by omega))) ?_
  refine g_iloadN W (pc' := 9) (D fs_8) rfl rfl ?_
  refine g_iloadN W (pc' := 10) (D fs_9) rfl rfl ?_
  refine g_iloadN W (pc' := 11) (D fs_10) rfl rfl ?_
  refine g_isub W (pc' := 12) (D fs_11) rfl ?_
  have e1 : Int32.ofNat n - Int32.ofNat f = Int32.ofNat (n - f) := by rw [show Int32.ofNat n = Int32.ofNat (n - f) + Int32.ofNat f by rw [← Int32.ofNat_add, Nat.sub_add_cancel (by omega)], Int32.add_sub_cancel]
  rw [e1]
  refine g_icmpleY W (pc1 := 23) (pc2 := 15) (D fs_12) (by decide) (by decide) rfl ((by rw [Int32.lt_iff_toInt_lt, Int32.toInt_ofNat_small (by omega), Int32.toInt_ofNat_small (by omega)]; omega)) ?_
  refine g_iloadN W (pc' := 24) (D fs_23) rfl rfl ?_
  exact g_reti W (D fs_24) hret (by decide) (by decide) ⟨_, rfl, rfl, _, rfl⟩
theorem bo_0 : decode jdk_42_method_157_code 0 = .ok (.iload_n 0, 1) := by decide +kernel
theorem bo_1 : decode jdk_42_method_157_code 1 = .ok (.iload_n 1, 1) := by decide +kernel
theorem bo_2 : decode jdk_42_method_157_code 2 = .ok (.iload_n 2, 1) := by decide +kernel
theorem bo_3 : decode jdk_42_method_157_code 3 = .ok (.getstatic 1053, 3) := by decide +kernel
theorem bo_6 : decode jdk_42_method_157_code 6 = .ok (.invokestatic 1065, 3) := by decide +kernel
theorem bo_9 : decode jdk_42_method_157_code 9 = .ok (.ireturn, 1) := by decide +kernel
theorem ef_bo (m : MethodId) (x0 : Int32) (x1 : Int32) (x2 : Int32) : entryFrame m #[.int x0, .int x1, .int x2] 3 = mkF m 0 #[.val (.int x0), .val (.int x1), .val (.int x2)] [] := by first | (simp [entryFrame, mkF, argsToLocals, Value.category, maxLocals]; done) | rfl
set_option maxRecDepth 65536 in
set_option maxHeartbeats 8000000 in
theorem t_cbo (l : Launch) {Z : State} {a0 : Array Value} {EL : List (String × Nat)} (hw : ∀ d ∈ tables_1, d.before a0 Z = true) (hEL : EW Z a0 EL) (cst : Cst Z) (fst : Fst Z) (ust : Ust Z) {h : Heap} (hO : Ext Z.heap h) {f z n : Nat} (hi : f + z ≤ n) (hn : n < 2 ^ 31) :
    Met l Z EL [] (⟨"java/lang/String", "checkBoundsOffCount", "(III)I"⟩ : MethodName) jdk_42_method_157_code 3 (some .int) { frames := 1, cells := 0, slots := 0, locals := 15 } #[.int (Int32.ofNat f), .int (Int32.ofNat z), .int (Int32.ofNat n)] h (Ret fun v h' => h = h' ∧ ∃ z, v = .int z) := by
  refine Met.intro pnS hEL hO ?_
  intro p e s m below meth c T W hby hml hret hnm
  have D : ∀ {pc : Nat} {r}, decode jdk_42_method_157_code pc = r → decode c.code pc = r := fun q => hb hby q
  refine Go.cast (ef_bo m (Int32.ofNat f) (Int32.ofNat z) (Int32.ofNat n)) ?_
  obtain ⟨fm, Sf, rf⟩ := id fst
  refine g_iloadN W (pc' := 1) (D bo_0) rfl rfl ?_
  refine g_iloadN W (pc' := 2) (D bo_1) rfl rfl ?_
  refine g_iloadN W (pc' := 3) (D bo_2) rfl rfl ?_
  refine g_getstatic W (pc' := 6) (host := "") (Or.inl (hI hw 139 rfl)) Via.refl (Sf.ext W.old) (D bo_3) rfl (fun T W => ?_)
  obtain rfl | ⟨q, rfl⟩ : fm = .null ∨ ∃ q, fm = .ref q := by cases fm <;> simp_all [Value.isRef]
  · refine g_callS W (t_pfsN l hw hEL cst fst ust W.old hi hn) (fun x q => nomatch q) (hI hw 271 rfl) (hI hw 272 rfl) (hI hw 140 rfl) (hI hw 273 rfl) (by decide) pd_31 (argsL := [_, _, _, _]) rfl rfl (pc' := 9) rfl (by rw [hml]; rfl) (D bo_6) rfl (Wn := 0) (Nat.le_refl _) (by decide) (by decide) (by decide) (by decide) (fun v T h1 W hg hQ => ?_)
    obtain ⟨rfl, z, rfl⟩ := hQ
    exact g_reti W (D bo_9) hret (by decide) (by decide) ⟨_, rfl, rfl, _, rfl⟩
  · refine g_callS W (t_pfs l hw hEL cst fst ust W.old hi hn) (fun x q => nomatch q) (hI hw 271 rfl) (hI hw 272 rfl) (hI hw 140 rfl) (hI hw 273 rfl) (by decide) pd_31 (argsL := [_, _, _, _]) rfl rfl (pc' := 9) rfl (by rw [hml]; rfl) (D bo_6) rfl (Wn := 0) (Nat.le_refl _) (by decide) (by decide) (by decide) (by decide) (fun v T h1 W hg hQ => ?_)
    obtain ⟨rfl, z, rfl⟩ := hQ
    exact g_reti W (D bo_9) hret (by decide) (by decide) ⟨_, rfl, rfl, _, rfl⟩
theorem bp_0 : decode jdk_52_method_94_code 0 = .ok (.iload_n 0, 1) := by decide +kernel
theorem bp_1 : decode jdk_52_method_94_code 1 = .ok (.iload_n 1, 1) := by decide +kernel
theorem bp_2 : decode jdk_52_method_94_code 2 = .ok (.aload_n 2, 1) := by decide +kernel
theorem bp_3 : decode jdk_52_method_94_code 3 = .ok (.invokestatic 48, 3) := by decide +kernel
theorem bp_6 : decode jdk_52_method_94_code 6 = .ok (.invokestatic 419, 3) := by decide +kernel
theorem bp_9 : decode jdk_52_method_94_code 9 = .ok (.pop, 1) := by decide +kernel
theorem bp_10 : decode jdk_52_method_94_code 10 = .ok (.return_, 1) := by decide +kernel
theorem ef_bp (m : MethodId) (x0 : Int32) (x1 : Int32) (x2 : Addr) : entryFrame m #[.int x0, .int x1, .ref x2] 3 = mkF m 0 #[.val (.int x0), .val (.int x1), .val (.ref x2)] [] := by first | (simp [entryFrame, mkF, argsToLocals, Value.category, maxLocals]; done) | rfl
set_option maxRecDepth 65536 in
set_option maxHeartbeats 8000000 in
theorem t_cbo16 (l : Launch) {Z : State} {a0 : Array Value} {EL : List (String × Nat)} (hw : ∀ d ∈ tables_1, d.before a0 Z = true) (hEL : EW Z a0 EL) (cst : Cst Z) (fst : Fst Z) (ust : Ust Z) {h : Heap} (hO : Ext Z.heap h) {t : Addr} {bs : List Int32} (A : Ali Z h t .byte (bs.map Value.int)) {f z : Nat} (hi : 2 * (f + z) ≤ bs.length) :
    Met l Z EL [] (⟨"java/lang/StringUTF16", "checkBoundsOffCount", "(II[B)V"⟩ : MethodName) jdk_52_method_94_code 3 none { frames := 2, cells := 0, slots := 0, locals := 29 } #[.int (Int32.ofNat f), .int (Int32.ofNat z), .ref t] h (Void fun h' => h = h') := by
  refine Met.intro pn16 hEL hO ?_
  intro p e s m below meth c T W hby hml hret hnm
  have D : ∀ {pc : Nat} {r}, decode jdk_52_method_94_code pc = r → decode c.code pc = r := fun q => hb hby q
  refine Go.cast (ef_bp m (Int32.ofNat f) (Int32.ofNat z) t) ?_
  have l31 : bs.length < 2 ^ 31 := by obtain ⟨_, _, _, q⟩ := A; simpa using q
  refine g_iloadN W (pc' := 1) (D bp_0) rfl rfl ?_
  refine g_iloadN W (pc' := 2) (D bp_1) rfl rfl ?_
  refine g_aloadN W (pc' := 3) (D bp_2) rfl rfl (by first | rfl | assumption) ?_
  refine g_callS W (t_len16 l hw hEL cst fst ust W.old A) (fun x q => nomatch q) (hI hw 248 rfl) (hI hw 249 rfl) (hI hw 111 rfl) (hI hw 250 rfl) (by decide) pd_23 (argsL := [_]) rfl rfl (pc' := 6) rfl (by rw [hml]; rfl) (D bp_3) rfl (Wn := 2) (Nat.le_refl _) (by decide) (by decide) (by decide) (by decide) (fun v T h1 W hg hQ => ?_)
  obtain ⟨rfl, rfl⟩ := hQ
  refine g_callS W (t_cbo l hw hEL cst fst ust W.old (f := f) (z := z) (n := bs.length / 2) (by omega) (by omega)) (fun x q => nomatch q) (hI hw 268 rfl) (hI hw 269 rfl) (hI hw 6 rfl) (hI hw 270 rfl) (by decide) pd_6 (argsL := [_, _, _]) rfl rfl (pc' := 9) rfl (by rw [hml]; rfl) (D bp_6) rfl (Wn := 0) (Nat.le_refl _) (by decide) (by decide) (by decide) (by decide) (fun v T h1 W hg hQ => ?_)
  obtain ⟨rfl, z, rfl⟩ := hQ
  refine g_pop W (pc' := 10) (D bp_9) rfl rfl ?_
  exact g_return W (D bp_10) hret (by decide) (by decide) ⟨rfl, rfl⟩
theorem fl_0 : decode jdk_52_method_86_code 0 = .ok (.iload_n 3, 1) := by decide +kernel
theorem fl_1 : decode jdk_52_method_86_code 1 = .ok (.iload 4, 2) := by decide +kernel
theorem fl_3 : decode jdk_52_method_86_code 3 = .ok (.aload_n 2, 1) := by decide +kernel
theorem fl_4 : decode jdk_52_method_86_code 4 = .ok (.invokestatic 173, 3) := by decide +kernel
theorem fl_7 : decode jdk_52_method_86_code 7 = .ok (.iconst 0, 1) := by decide +kernel
theorem fl_8 : decode jdk_52_method_86_code 8 = .ok (.istore 5, 2) := by decide +kernel
theorem fl_10 : decode jdk_52_method_86_code 10 = .ok (.iload 5, 2) := by decide +kernel
theorem fl_12 : decode jdk_52_method_86_code 12 = .ok (.iload 4, 2) := by decide +kernel
theorem fl_14 : decode jdk_52_method_86_code 14 = .ok (.if_icmp .ge 27, 3) := by decide +kernel
theorem fl_17 : decode jdk_52_method_86_code 17 = .ok (.aload_n 2, 1) := by decide +kernel
theorem fl_18 : decode jdk_52_method_86_code 18 = .ok (.iload_n 3, 1) := by decide +kernel
theorem fl_19 : decode jdk_52_method_86_code 19 = .ok (.iinc 3 1, 3) := by decide +kernel
theorem fl_22 : decode jdk_52_method_86_code 22 = .ok (.aload_n 0, 1) := by decide +kernel
theorem fl_23 : decode jdk_52_method_86_code 23 = .ok (.iload_n 1, 1) := by decide +kernel
theorem fl_24 : decode jdk_52_method_86_code 24 = .ok (.iinc 1 1, 3) := by decide +kernel
theorem fl_27 : decode jdk_52_method_86_code 27 = .ok (.baload, 1) := by decide +kernel
theorem fl_28 : decode jdk_52_method_86_code 28 = .ok (.sipush 255, 3) := by decide +kernel
theorem fl_31 : decode jdk_52_method_86_code 31 = .ok (.iand, 1) := by decide +kernel
theorem fl_32 : decode jdk_52_method_86_code 32 = .ok (.invokestatic 111, 3) := by decide +kernel
theorem fl_35 : decode jdk_52_method_86_code 35 = .ok (.iinc 5 1, 3) := by decide +kernel
theorem fl_38 : decode jdk_52_method_86_code 38 = .ok (.goto (-28), 3) := by decide +kernel
theorem fl_41 : decode jdk_52_method_86_code 41 = .ok (.return_, 1) := by decide +kernel
theorem ef_fl (m : MethodId) (x0 : Addr) (x1 : Int32) (x2 : Addr) (x3 : Int32) (x4 : Int32) : entryFrame m #[.ref x0, .int x1, .ref x2, .int x3, .int x4] 6 = mkF m 0 #[.val (.ref x0), .val (.int x1), .val (.ref x2), .val (.int x3), .val (.int x4), .unset] [] := by first | (simp [entryFrame, mkF, argsToLocals, Value.category, maxLocals]; done) | rfl
set_option maxRecDepth 65536 in
set_option maxHeartbeats 8000000 in
theorem t_infl (l : Launch) {Z : State} {a0 : Array Value} {EL : List (String × Nat)} (hw : ∀ d ∈ tables_1, d.before a0 Z = true) (hEL : EW Z a0 EL) (cst : Cst Z) (fst : Fst Z) (ust : Ust Z) {h : Heap} (hO : Ext Z.heap h) {a t : Addr} {us bs : List Int32} {cs : List Int32} (A : Ali Z h a .byte (us.map Value.int)) (hu : us.take cs.length = cs.map lo) (hul : cs.length ≤ us.length) (hL : Latin cs) (B : Ali Z h t .byte (bs.map Value.int)) (hat : a ≠ t) (hz : Z.heap.size ≤ t) {d : Nat} (hd : 2 * (d + cs.length) ≤ bs.length) :
    Met l Z EL [t] (⟨"java/lang/StringUTF16", "inflate", "([BI[BII)V"⟩ : MethodName) jdk_52_method_86_code 6 none { frames := 3, cells := 0, slots := 0, locals := 43 } #[.ref a, .int 0, .ref t, .int (Int32.ofNat d), .int (Int32.ofNat cs.length)] h (Void fun h' => Keep h h' [t] ∧ Ali Z h' t .byte ((bs.take (2 * d) ++ w16 cs ++ bs.drop (2 * (d + cs.length))).map Value.int)) := by
  refine Met.intro pn16 hEL hO ?_
  intro p e s m below meth c T W hby hml hret hnm
  have D : ∀ {pc : Nat} {r}, decode jdk_52_method_86_code pc = r → decode c.code pc = r := fun q => hb hby q
  refine Go.cast (ef_fl m a 0 t (Int32.ofNat d) (Int32.ofNat cs.length)) ?_
  have l31 : bs.length < 2 ^ 31 := by obtain ⟨_, _, _, q⟩ := B; simpa using q
  have J : ∀ (k i : Nat) (T : State) (g : Heap), i + k = cs.length → Keep h g [t] → Ali Z g t .byte ((bs.take (2 * d) ++ w16 (cs.take i) ++ bs.drop (2 * (d + i))).map Value.int) → Wd p l e { frames := 3, cells := 0, slots := 0, locals := 43 } s m #[.ref a, .int 0, .ref t, .int (Int32.ofNat d), .int (Int32.ofNat cs.length)] below meth c Z a0 EL U16 [t] T g 0 0 → Go p e below (Endp Z EL s (Void fun h' => Keep h h' [t] ∧ Ali Z h' t .byte ((bs.take (2 * d) ++ w16 cs ++ bs.drop (2 * (d + cs.length))).map Value.int)) 0 0) T (mkF m 10 #[.val (.ref a), .val (.int (Int32.ofNat i)), .val (.ref t), .val (.int (Int32.ofNat (d + i))), .val (.int (Int32.ofNat cs.length)), .val (.int (Int32.ofNat i))] []) := by
    intro k
    induction k with
    | zero =>
      intro i T g hik K B W
      obtain rfl : i = cs.length := by omega
      refine g_iload W (pc' := 12) (D fl_10) rfl rfl ?_
      refine g_iload W (pc' := 14) (D fl_12) rfl rfl ?_
      refine g_icmpgeY W (pc1 := 41) (pc2 := 17) (D fl_14) (by decide) (by decide) rfl (Int32.lt_irrefl) ?_
      rw [List.take_length] at B
      exact g_return W (D fl_41) hret (by decide) (by decide) ⟨rfl, K, B⟩
    | succ k ih =>
      intro i T g hik K B W
      refine g_iload W (pc' := 12) (D fl_10) rfl rfl ?_
      refine g_iload W (pc' := 14) (D fl_12) rfl rfl ?_
      refine g_icmpgeN W (pc1 := 41) (pc2 := 17) (D fl_14) (by decide) (by decide) rfl ((by rw [Int32.lt_iff_toInt_lt, Int32.toInt_ofNat_small (by omega), Int32.toInt_ofNat_small (by omega)]; omega)) ?_
      refine g_aloadN W (pc' := 18) (D fl_17) rfl rfl (by first | rfl | assumption) ?_
      refine g_iloadN W (pc' := 19) (D fl_18) rfl rfl ?_
      refine g_iinc W (pc' := 22) (D fl_19) rfl rfl (ls' := #[_, _, _, _, _, _]) rfl ?_
      refine g_aloadN W (pc' := 23) (D fl_22) rfl rfl (by first | rfl | assumption) ?_
      refine g_iloadN W (pc' := 24) (D fl_23) rfl rfl ?_
      refine g_iinc W (pc' := 27) (D fl_24) rfl rfl (ls' := #[_, _, _, _, _, _]) rfl ?_
      rw [inc1, inc1]
      refine g_baload W (pc' := 28) (A.keep K (ninS hat nin0)) (i := i) (own_n0 (by omega)) (own_n32 (by omega)) (by omega) (D fl_27) rfl ?_
      have e1 : us.getD i 0 = lo (cs.getD i 0) := by
        have q : (us.take cs.length)[i]? = (cs.map lo)[i]? := by rw [hu]
        have hi2 : i < cs.length := by omega
        have hi3 : i < us.length := by omega
        simp [List.getElem?_take, hi2, hi3] at q ⊢
        exact q
      rw [e1]
      refine g_sipush W (pc' := 31) (D fl_28) rfl (v := (255 : Int32)) (by decide) ?_
      refine g_iand W (pc' := 32) (D fl_31) rfl ?_
      rw [lo_and' (hL.get i)]
      obtain ⟨x0, x1, hx⟩ := drop2 (bs := bs) (i := 2 * (d + i)) (by omega)
      have hP : (bs.take (2 * d) ++ w16 (cs.take i)).length = 2 * (d + i) := by rw [List.length_append, w16_len, List.length_take, List.length_take]; omega
      refine g_callSV W (t_putChar l hw hEL cst fst ust W.old B hz (i := d + i) (by rw [List.length_append, hP, List.length_drop]; omega) (ch := cs.getD i 0)) (fun y q => q) (hI hw 233 rfl) (hI hw 234 rfl) (hI hw 111 rfl) (hI hw 235 rfl) (by decide) pd_26 (argsL := [_, _, _]) rfl rfl (pc' := 35) rfl (by rw [hml]; rfl) (D fl_32) rfl (Wn := 0) (Nat.le_refl _) (by decide) (by decide) (by decide) (by decide) (fun T g2 W hg hQ => ?_)
      obtain ⟨K2, B2⟩ := hQ
      rw [hx, set2 hP] at B2
      refine g_iinc W (pc' := 38) (D fl_35) rfl rfl (ls' := #[_, _, _, _, _, _]) rfl ?_
      refine g_goto W (pc' := 10) (D fl_38) (by decide) (by decide) ?_
      rw [inc1]
      refine ih (i + 1) T g2 (by omega) (K.trans K2 (fun z hz => Or.inl hz)) ?_ W
      have e2 : cs.take (i + 1) = cs.take i ++ [cs.getD i 0] := by have hi2 : i < cs.length := by omega
                                                                   rw [List.take_add_one]; simp [hi2]
      have e3 : 2 * (d + (i + 1)) = 2 * (d + i) + 2 := by omega
      rw [e2, w16_app, e3, w16_cons]
      simpa [w16] using B2
  refine g_iloadN W (pc' := 1) (D fl_0) rfl rfl ?_
  refine g_iload W (pc' := 3) (D fl_1) rfl rfl ?_
  refine g_aloadN W (pc' := 4) (D fl_3) rfl rfl (by first | rfl | assumption) ?_
  refine g_callSV W (t_cbo16 l hw hEL cst fst ust W.old B (f := d) (z := cs.length) hd) (fun x q => nomatch q) (hI hw 265 rfl) (hI hw 266 rfl) (hI hw 111 rfl) (hI hw 267 rfl) (by decide) pd_32 (argsL := [_, _, _]) rfl rfl (pc' := 7) rfl (by rw [hml]; rfl) (D fl_4) rfl (Wn := 0) (Nat.le_refl _) (by decide) (by decide) (by decide) (by decide) (fun T g1 W hg hQ => ?_)
  subst hQ
  refine g_iconst W (pc' := 8) (D fl_7) rfl (v := (0 : Int32)) (by decide) ?_
  refine g_istore W (pc' := 10) (D fl_8) rfl (ls' := #[_, _, _, _, _, _]) rfl ?_
  exact J cs.length 0 _ _ (by omega) (Keep.refl _ _) (by simpa [w16] using B) W
theorem fm_0 : decode jdk_43_method_50_code 0 = .ok (.aload_n 0, 1) := by decide +kernel
theorem fm_1 : decode jdk_43_method_50_code 1 = .ok (.iload_n 1, 1) := by decide +kernel
theorem fm_2 : decode jdk_43_method_50_code 2 = .ok (.aload_n 2, 1) := by decide +kernel
theorem fm_3 : decode jdk_43_method_50_code 3 = .ok (.iload_n 3, 1) := by decide +kernel
theorem fm_4 : decode jdk_43_method_50_code 4 = .ok (.iload 4, 2) := by decide +kernel
theorem fm_6 : decode jdk_43_method_50_code 6 = .ok (.invokestatic 240, 3) := by decide +kernel
theorem fm_9 : decode jdk_43_method_50_code 9 = .ok (.return_, 1) := by decide +kernel
theorem ef_fm (m : MethodId) (x0 : Addr) (x1 : Int32) (x2 : Addr) (x3 : Int32) (x4 : Int32) : entryFrame m #[.ref x0, .int x1, .ref x2, .int x3, .int x4] 5 = mkF m 0 #[.val (.ref x0), .val (.int x1), .val (.ref x2), .val (.int x3), .val (.int x4)] [] := by first | (simp [entryFrame, mkF, argsToLocals, Value.category, maxLocals]; done) | rfl
set_option maxRecDepth 65536 in
set_option maxHeartbeats 8000000 in
theorem t_inflL (l : Launch) {Z : State} {a0 : Array Value} {EL : List (String × Nat)} (hw : ∀ d ∈ tables_1, d.before a0 Z = true) (hEL : EW Z a0 EL) (cst : Cst Z) (fst : Fst Z) (ust : Ust Z) {h : Heap} (hO : Ext Z.heap h) {a t : Addr} {us bs : List Int32} {cs : List Int32} (A : Ali Z h a .byte (us.map Value.int)) (hu : us.take cs.length = cs.map lo) (hul : cs.length ≤ us.length) (hL : Latin cs) (B : Ali Z h t .byte (bs.map Value.int)) (hat : a ≠ t) (hz : Z.heap.size ≤ t) {d : Nat} (hd : 2 * (d + cs.length) ≤ bs.length) :
    Met l Z EL [t] (⟨"java/lang/StringLatin1", "inflate", "([BI[BII)V"⟩ : MethodName) jdk_43_method_50_code 5 none { frames := 4, cells := 0, slots := 0, locals := 60 } #[.ref a, .int 0, .ref t, .int (Int32.ofNat d), .int (Int32.ofNat cs.length)] h (Void fun h' => Keep h h' [t] ∧ Ali Z h' t .byte ((bs.take (2 * d) ++ w16 cs ++ bs.drop (2 * (d + cs.length))).map Value.int)) := by
  refine Met.intro pnL1 hEL hO ?_
  intro p e s m below meth c T W hby hml hret hnm
  have D : ∀ {pc : Nat} {r}, decode jdk_43_method_50_code pc = r → decode c.code pc = r := fun q => hb hby q
  refine Go.cast (ef_fm m a 0 t (Int32.ofNat d) (Int32.ofNat cs.length)) ?_
  refine g_aloadN W (pc' := 1) (D fm_0) rfl rfl (by first | rfl | assumption) ?_
  refine g_iloadN W (pc' := 2) (D fm_1) rfl rfl ?_
  refine g_aloadN W (pc' := 3) (D fm_2) rfl rfl (by first | rfl | assumption) ?_
  refine g_iloadN W (pc' := 4) (D fm_3) rfl rfl ?_
  refine g_iload W (pc' := 6) (D fm_4) rfl rfl ?_
  refine g_callSV W (t_infl l hw hEL cst fst ust W.old A hu hul hL B hat hz hd) (fun y q => q) (hI hw 262 rfl) (hI hw 263 rfl) (hI hw 111 rfl) (hI hw 264 rfl) (by decide) pd_33 (argsL := [_, _, _, _, _]) rfl rfl (pc' := 9) rfl (by rw [hml]; rfl) (D fm_6) rfl (Wn := 0) (Nat.le_refl _) (by decide) (by decide) (by decide) (by decide) (fun T g1 W hg hQ => ?_)
  exact g_return W (D fm_9) hret (by decide) (by decide) ⟨rfl, hQ⟩
/-! StringBuilder over UTF16 bytes -/
def Sb6 (Z : State) (h : Heap) (x t : Addr) (cap : Nat) (cs : List Int32) : Prop :=
  Z.heap.size ≤ x ∧ Z.heap.size ≤ t ∧ Exa Z h x SB ∧ Fld Z h x AB "value" "[B" (.ref t) ∧ Fld Z h x AB "coder" "B" (.int 1) ∧ Fld Z h x AB "count" "I" (.int (Int32.ofNat cs.length)) ∧ (Exa Z h t "[B" ∧ Fld Z h x AB "maybeLatin1" "Z" (.int 0)) ∧ (∀ c ∈ cs, Wc c) ∧ ∃ bs, Ali Z h t .byte (bs.map Value.int) ∧ Bys bs ∧ bs.length = cap ∧ cap % 2 = 0 ∧ cap ≤ 128 ∧ 2 * cs.length ≤ cap ∧ bs.take (2 * cs.length) = w16 cs
theorem Sb6.ext {Z : State} {h h' : Heap} {x t : Addr} {cap : Nat} {cs : List Int32} (E : Ext h h') (B : Sb6 Z h x t cap cs) : Sb6 Z h' x t cap cs := by
  obtain ⟨b1, b2, b3, b4, b5, b6, bx, bw, bs, b7, r⟩ := B
  exact ⟨b1, b2, b3.ext E, b4.ext E, b5.ext E, b6.ext E, ⟨bx.1.ext E, bx.2.ext E⟩, bw, bs, b7.ext E, r⟩
set_option maxRecDepth 65536 in
set_option maxHeartbeats 8000000 in
theorem t_getValue6 (l : Launch) {Z : State} {a0 : Array Value} {EL : List (String × Nat)} (hw : ∀ d ∈ tables_1, d.before a0 Z = true) (hEL : EW Z a0 EL) (cst : Cst Z) (fst : Fst Z) (ust : Ust Z) {h : Heap} (hO : Ext Z.heap h) {x t : Addr} {cap : Nat} {cs : List Int32} (B : Sb6 Z h x t cap cs) :
    Met l Z EL [] (⟨"java/lang/AbstractStringBuilder", "getValue", "()[B"⟩ : MethodName) jdk_68_method_64_code 1 (some (.array .byte)) { frames := 0, cells := 0, slots := 0, locals := 0 } #[.ref x] h (Ret fun v h' => v = .ref t ∧ h = h') := by
  refine Met.intro pnAB hEL hO ?_
  intro p e s m below meth c T W hby hml hret hnm
  have D : ∀ {pc : Nat} {r}, decode jdk_68_method_64_code pc = r → decode c.code pc = r := fun q => hb hby q
  refine Go.cast (efGv m x) ?_
  refine g_aloadN W (pc' := 1) (D gv_0) rfl rfl (by first | rfl | assumption) ?_
  refine g_getfield W (pc' := 4) (host := "") (Or.inl (hI hw 55 rfl)) Via.refl (B.2.2.2.1) (D gv_1) rfl (fun T W => ?_)
  exact g_areturn W (D gv_4) hret rfl rfl (by decide) (by decide) ⟨_, rfl, rfl, rfl⟩
set_option maxRecDepth 65536 in
set_option maxHeartbeats 8000000 in
theorem t_lenA6 (l : Launch) {Z : State} {a0 : Array Value} {EL : List (String × Nat)} (hw : ∀ d ∈ tables_1, d.before a0 Z = true) (hEL : EW Z a0 EL) (cst : Cst Z) (fst : Fst Z) (ust : Ust Z) {h : Heap} (hO : Ext Z.heap h) {x t : Addr} {cap : Nat} {cs : List Int32} (B : Sb6 Z h x t cap cs) :
    Met l Z EL [] (⟨"java/lang/AbstractStringBuilder", "length", "()I"⟩ : MethodName) jdk_68_method_6_code 1 (some .int) { frames := 0, cells := 0, slots := 0, locals := 0 } #[.ref x] h (RetF fun v h' _ => v = .int (Int32.ofNat cs.length) ∧ h = h') := by
  refine Met.intro pnAB hEL hO ?_
  intro p e s m below meth c T W hby hml hret hnm
  have D : ∀ {pc : Nat} {r}, decode jdk_68_method_6_code pc = r → decode c.code pc = r := fun q => hb hby q
  refine Go.cast (efLa m x) ?_
  refine g_aloadN W (pc' := 1) (D la_0) rfl rfl (by first | rfl | assumption) ?_
  refine g_getfield W (pc' := 4) (host := "") (Or.inl (hI hw 85 rfl)) Via.refl (B.2.2.2.2.2.1) (D la_1) rfl (fun T W => ?_)
  exact g_reti W (D la_4) hret (by decide) (by decide) ⟨_, rfl, rfl, rfl⟩
set_option maxRecDepth 65536 in
set_option maxHeartbeats 8000000 in
theorem t_lenB6 (l : Launch) {Z : State} {a0 : Array Value} {EL : List (String × Nat)} (hw : ∀ d ∈ tables_1, d.before a0 Z = true) (hEL : EW Z a0 EL) (cst : Cst Z) (fst : Fst Z) (ust : Ust Z) {h : Heap} (hO : Ext Z.heap h) {x t : Addr} {cap : Nat} {cs : List Int32} (B : Sb6 Z h x t cap cs) :
    Met l Z EL [] (⟨"java/lang/StringBuilder", "length", "()I"⟩ : MethodName) jdk_67_method_93_code 1 (some .int) { frames := 1, cells := 0, slots := 0, locals := 12 } #[.ref x] h (Ret fun v h' => v = .int (Int32.ofNat cs.length) ∧ h = h') := by
  refine Met.intro pnSB hEL hO ?_
  intro p e s m below meth c T W hby hml hret hnm
  have D : ∀ {pc : Nat} {r}, decode jdk_67_method_93_code pc = r → decode c.code pc = r := fun q => hb hby q
  refine Go.cast (efLb m x) ?_
  refine g_aloadN W (pc' := 1) (D lb_0) rfl rfl (by first | rfl | assumption) ?_
  refine g_superF W (t_lenA6 l hw hEL cst fst ust W.old B) (fun x q => nomatch q) (hI hw 82 rfl) (hI hw 78 rfl) (hI hw 83 rfl) (hI hw 51 rfl) (hI hw 84 rfl) (by decide) (by decide) pd_4 (⟨"java/lang/StringBuilder", ⟨"java/lang/AbstractStringBuilder", "getValue", "()[B"⟩, rfl, (hI hw 74 rfl)⟩) (Ins.self B.2.2.1) (argsL := []) rfl rfl (pc' := 4) rfl (by rw [hml]; rfl) (D lb_1) rfl (Wn := 0) (Nat.le_refl _) (by decide) (by decide) (by decide) (by decide) (fun v T h1 FF W hg hQ => ?_)
  obtain ⟨rfl, rfl⟩ := hQ
  exact g_reti W (D lb_4) hret (by decide) (by decide) ⟨_, rfl, rfl, rfl⟩
set_option maxRecDepth 65536 in
set_option maxHeartbeats 8000000 in
theorem t_isLat6 (l : Launch) {Z : State} {a0 : Array Value} {EL : List (String × Nat)} (hw : ∀ d ∈ tables_1, d.before a0 Z = true) (hEL : EW Z a0 EL) (cst : Cst Z) (fst : Fst Z) (ust : Ust Z) {h : Heap} (hO : Ext Z.heap h) {x t : Addr} {cap : Nat} {cs : List Int32} (B : Sb6 Z h x t cap cs) :
    Met l Z EL [] (⟨"java/lang/AbstractStringBuilder", "isLatin1", "()Z"⟩ : MethodName) jdk_68_method_68_code 1 (some .boolean) { frames := 0, cells := 0, slots := 0, locals := 0 } #[.ref x] h (Ret fun v h' => v = .int 0 ∧ h = h') := by
  refine Met.intro pnAB hEL hO ?_
  intro p e s m below meth c T W hby hml hret hnm
  have D : ∀ {pc : Nat} {r}, decode jdk_68_method_68_code pc = r → decode c.code pc = r := fun q => hb hby q
  refine Go.cast (efIl m x) ?_
  obtain ⟨zc, Sc, hzc⟩ := cst
  refine g_getstatic W (pc' := 3) (host := "") (Or.inl (hI hw 54 rfl)) Via.refl (Sc.ext W.old) (D il_0) rfl (fun T W => ?_)
  refine g_ifeqN W (pc1 := 17) (pc2 := 6) (D il_3) (by decide) (by decide) rfl (hzc) ?_
  refine g_aloadN W (pc' := 7) (D il_6) rfl rfl (by first | rfl | assumption) ?_
  refine g_getfield W (pc' := 10) (host := "") (Or.inl (hI hw 57 rfl)) Via.refl (B.2.2.2.2.1) (D il_7) rfl (fun T W => ?_)
  refine g_ifneY W (pc1 := 17) (pc2 := 13) (D il_10) (by decide) (by decide) rfl (by decide) ?_
  refine g_iconst W (pc' := 18) (D il_17) rfl (v := (0 : Int32)) (by decide) ?_
  exact g_retz W (D il_18) hret (Or.inl rfl) (by decide) (by decide) ⟨_, rfl, rfl, rfl⟩
set_option maxRecDepth 65536 in
set_option maxHeartbeats 8000000 in
theorem t_newCap6 (l : Launch) {Z : State} {a0 : Array Value} {EL : List (String × Nat)} (hw : ∀ d ∈ tables_1, d.before a0 Z = true) (hEL : EW Z a0 EL) (cst : Cst Z) (fst : Fst Z) (ust : Ust Z) {h : Heap} (hO : Ext Z.heap h) {x t : Addr} {cap : Nat} {cs : List Int32} (B : Sb6 Z h x t cap cs) {n : Nat} (hn : cap < 2 * n) (hn2 : n ≤ 32) :
    Met l Z EL [] (⟨"java/lang/AbstractStringBuilder", "newCapacity", "(I)I"⟩ : MethodName) jdk_68_method_10_code 6 (some .int) { frames := 2, cells := 0, slots := 0, locals := 29 } #[.ref x, .int (Int32.ofNat n)] h (Ret fun v h' => v = .int (Int32.ofNat ((cap + max (2 * n - cap) (cap + 4)) / 2)) ∧ h = h') := by
  refine Met.intro pnAB hEL hO ?_
  intro p e s m below meth c T W hby hml hret hnm
  have D : ∀ {pc : Nat} {r}, decode jdk_68_method_10_code pc = r → decode c.code pc = r := fun q => hb hby q
  refine Go.cast (efNc m x (Int32.ofNat n)) ?_
  obtain ⟨b1, b2, b3, b4, b5, b6, bx, bw, bs, b7, b8, b9, bev, bc, b10, b11⟩ := B
  refine g_aloadN W (pc' := 1) (D nc_0) rfl rfl (by first | rfl | assumption) ?_
  refine g_getfield W (pc' := 4) (host := "") (Or.inl (hI hw 55 rfl)) Via.refl (b4) (D nc_1) rfl (fun T W => ?_)
  refine g_arraylength W (pc' := 5) (b7) (z := Int32.ofNat cap) (by rw [List.length_map, b9]) (D nc_4) rfl ?_
  refine g_istoreN W (pc' := 6) (D nc_5) rfl (ls' := #[_, _, _, _, _, _]) rfl ?_
  refine g_iloadN W (pc' := 7) (D nc_6) rfl rfl ?_
  refine g_aloadN W (pc' := 8) (D nc_7) rfl rfl (by first | rfl | assumption) ?_
  refine g_getfield W (pc' := 11) (host := "") (Or.inl (hI hw 57 rfl)) Via.refl (b5) (D nc_8) rfl (fun T W => ?_)
  refine g_ishl W (pc' := 12) (D nc_11) rfl ?_
  rw [shl1 (by omega)]
  refine g_istoreN W (pc' := 13) (D nc_12) rfl (ls' := #[_, _, _, _, _, _]) rfl ?_
  refine g_iloadN W (pc' := 14) (D nc_13) rfl rfl ?_
  refine g_iloadN W (pc' := 15) (D nc_14) rfl rfl ?_
  refine g_isub W (pc' := 16) (D nc_15) rfl ?_
  rw [ofNat_sub' (Nat.le_of_lt hn)]
  refine g_istore W (pc' := 18) (D nc_16) rfl (ls' := #[_, _, _, _, _, _]) rfl ?_
  refine g_iloadN W (pc' := 19) (D nc_18) rfl rfl ?_
  refine g_iload W (pc' := 21) (D nc_19) rfl rfl ?_
  refine g_iloadN W (pc' := 22) (D nc_21) rfl rfl ?_
  refine g_iconst W (pc' := 23) (D nc_22) rfl (v := (2 : Int32)) (by decide) ?_
  refine g_aloadN W (pc' := 24) (D nc_23) rfl rfl (by first | rfl | assumption) ?_
  refine g_getfield W (pc' := 27) (host := "") (Or.inl (hI hw 57 rfl)) Via.refl (b5) (D nc_24) rfl (fun T W => ?_)
  refine g_ishl W (pc' := 28) (D nc_27) rfl ?_
  rw [show (2 : Int32) <<< ((1 : Int32) &&& 31) = 4 from by decide]
  refine g_iadd W (pc' := 29) (D nc_28) rfl ?_
  have e2 : Int32.ofNat cap + 4 = Int32.ofNat (cap + 4) := by rw [Int32.ofNat_add]; rfl
  rw [e2]
  refine g_callS W (t_newLen l hw hEL cst W.old (o := cap) (g := 2 * n - cap) (q := cap + 4) (by omega) (by omega)) (fun x q => nomatch q) (hI hw 178 rfl) (hI hw 179 rfl) (hI hw 180 rfl) (hI hw 181 rfl) (by decide) pd_6 (argsL := [_, _, _]) rfl rfl (pc' := 32) rfl (by rw [hml]; rfl) (D nc_29) rfl (Wn := 0) (Nat.le_refl _) (by decide) (by decide) (by decide) (by decide) (fun v T h1 W hg hQ => ?_)
  obtain ⟨rfl, rfl⟩ := hQ
  refine g_istore W (pc' := 34) (D nc_32) rfl (ls' := #[_, _, _, _, _, _]) rfl ?_
  refine g_iload W (pc' := 36) (D nc_34) rfl rfl ?_
  refine g_ldcI W (pc' := 38) (hI hw 187 rfl) (D nc_36) rfl ?_
  refine g_icmpneY W (pc1 := 51) (pc2 := 41) (D nc_38) (by decide) (by decide) rfl (fun r => by have := congrArg Int32.toInt r; rw [Int32.toInt_ofNat_small (by omega)] at this; have e0 : (2147483647 : Int32).toInt = 2147483647 := rfl; omega) ?_
  refine g_iload W (pc' := 53) (D nc_51) rfl rfl ?_
  refine g_aloadN W (pc' := 54) (D nc_53) rfl rfl (by first | rfl | assumption) ?_
  refine g_getfield W (pc' := 57) (host := "") (Or.inl (hI hw 57 rfl)) Via.refl (b5) (D nc_54) rfl (fun T W => ?_)
  refine g_ishr W (pc' := 58) (D nc_57) rfl ?_
  rw [shr1 (by omega)]
  exact g_reti W (D nc_58) hret (by decide) (by decide) ⟨_, rfl, rfl, rfl⟩
set_option maxRecDepth 65536 in
set_option maxHeartbeats 8000000 in
theorem t_ensure6 (l : Launch) {Z : State} {a0 : Array Value} {EL : List (String × Nat)} (hw : ∀ d ∈ tables_1, d.before a0 Z = true) (hEL : EW Z a0 EL) (cst : Cst Z) (fst : Fst Z) (ust : Ust Z) {h : Heap} (hO : Ext Z.heap h) {x t : Addr} {cap : Nat} {cs : List Int32} (B : Sb6 Z h x t cap cs) {n : Nat} (hn : n ≤ 32) :
    Met l Z EL [t] (⟨"java/lang/AbstractStringBuilder", "ensureCapacityInternal", "(I)V"⟩ : MethodName) jdk_68_method_9_code 3 none { frames := 3, cells := 1, slots := 128, locals := 48 } #[.ref x, .int (Int32.ofNat n)] h (VoidF fun h' FF => ∃ t' cap', FF = [t'] ∧ (t' = t ∨ h.size ≤ t') ∧ 2 * n ≤ cap' ∧ Keep h h' [x] ∧ Sb6 Z h' x t' cap' cs) := by
  have n_value_coder : Jvm.RoadKit.slotOf Z AB "value" "[B" ≠ Jvm.RoadKit.slotOf Z AB "coder" "B" := slot_ne (C := SB) (Or.inl (hI hw 56 rfl)) (Or.inl (hI hw 58 rfl)) (by decide) (t := .array .byte) (t' := .byte) (by decide) (by decide)
  have n_value_count : Jvm.RoadKit.slotOf Z AB "value" "[B" ≠ Jvm.RoadKit.slotOf Z AB "count" "I" := slot_ne (C := SB) (Or.inl (hI hw 56 rfl)) (Or.inl (hI hw 86 rfl)) (by decide) (t := .array .byte) (t' := .int) (by decide) (by decide)
  have n_coder_count : Jvm.RoadKit.slotOf Z AB "coder" "B" ≠ Jvm.RoadKit.slotOf Z AB "count" "I" := slot_ne (C := SB) (Or.inl (hI hw 58 rfl)) (Or.inl (hI hw 86 rfl)) (by decide) (t := .byte) (t' := .int) (by decide) (by decide)
  have n_value_maybeLatin1 : Jvm.RoadKit.slotOf Z AB "value" "[B" ≠ Jvm.RoadKit.slotOf Z AB "maybeLatin1" "Z" := slot_ne (C := SB) (Or.inl (hI hw 56 rfl)) (Or.inl (hI hw 278 rfl)) (by decide) (t := .array .byte) (t' := .boolean) (by decide) (by decide)
  have n_coder_maybeLatin1 : Jvm.RoadKit.slotOf Z AB "coder" "B" ≠ Jvm.RoadKit.slotOf Z AB "maybeLatin1" "Z" := slot_ne (C := SB) (Or.inl (hI hw 58 rfl)) (Or.inl (hI hw 278 rfl)) (by decide) (t := .byte) (t' := .boolean) (by decide) (by decide)
  have n_count_maybeLatin1 : Jvm.RoadKit.slotOf Z AB "count" "I" ≠ Jvm.RoadKit.slotOf Z AB "maybeLatin1" "Z" := slot_ne (C := SB) (Or.inl (hI hw 86 rfl)) (Or.inl (hI hw 278 rfl)) (by decide) (t := .int) (t' := .boolean) (by decide) (by decide)
  refine Met.intro pnAB hEL hO ?_
  intro p e s m below meth c T W hby hml hret hnm
  have D : ∀ {pc : Nat} {r}, decode jdk_68_method_9_code pc = r → decode c.code pc = r := fun q => hb hby q
  refine Go.cast (efEn m x (Int32.ofNat n)) ?_
  have B0 := B
  obtain ⟨b1, b2, b3, b4, b5, b6, bx, bw, bs, b7, b8, b9, bev, bc, b10, b11⟩ := B
  refine g_aloadN W (pc' := 1) (D en_0) rfl rfl (by first | rfl | assumption) ?_
  refine g_getfield W (pc' := 4) (host := "") (Or.inl (hI hw 55 rfl)) Via.refl (b4) (D en_1) rfl (fun T W => ?_)
  refine g_arraylength W (pc' := 5) (b7) (z := Int32.ofNat cap) (by rw [List.length_map, b9]) (D en_4) rfl ?_
  refine g_aloadN W (pc' := 6) (D en_5) rfl rfl (by first | rfl | assumption) ?_
  refine g_getfield W (pc' := 9) (host := "") (Or.inl (hI hw 57 rfl)) Via.refl (b5) (D en_6) rfl (fun T W => ?_)
  refine g_ishr W (pc' := 10) (D en_9) rfl ?_
  rw [shr1 (by omega)]
  refine g_istoreN W (pc' := 11) (D en_10) rfl (ls' := #[_, _, _]) rfl ?_
  refine g_iloadN W (pc' := 12) (D en_11) rfl rfl ?_
  refine g_iloadN W (pc' := 13) (D en_12) rfl rfl ?_
  refine g_isub W (pc' := 14) (D en_13) rfl ?_
  rcases Nat.lt_or_ge cap (2 * n) with q | q
  · refine g_ifleN W (pc1 := 38) (pc2 := 17) (D en_14) (by decide) (by decide) rfl (by rw [ofNat_sub' (by omega), Int32.lt_iff_toInt_lt, Int32.toInt_ofNat_small (by omega)]; have e0 : (0 : Int32).toInt = 0 := rfl; omega) ?_
    refine g_aloadN W (pc' := 18) (D en_17) rfl rfl (by first | rfl | assumption) ?_
    refine g_aloadN W (pc' := 19) (D en_18) rfl rfl (by first | rfl | assumption) ?_
    refine g_getfield W (pc' := 22) (host := "") (Or.inl (hI hw 55 rfl)) Via.refl (b4) (D en_19) rfl (fun T W => ?_)
    refine g_aloadN W (pc' := 23) (D en_22) rfl rfl (by first | rfl | assumption) ?_
    refine g_iloadN W (pc' := 24) (D en_23) rfl rfl ?_
    refine g_virt W (t_newCap6 l hw hEL cst fst ust W.old B0 q hn) (fun x q => nomatch q) ⟨_, _, rfl, (hI hw 176 rfl)⟩ (hI hw 173 rfl) (decl_of (hI hw 174 rfl) (hI hw 177 rfl)) (hI hw 176 rfl) (hI hw 174 rfl) (hI hw 51 rfl) (hI hw 177 rfl) (by decide) pd_7 (b3) (argsL := [_]) rfl rfl (pc' := 27) rfl (by rw [hml]; rfl) (D en_24) rfl (Wn := 2) (Nat.le_refl _) (by decide) (by decide) (by decide) (by decide) (fun v T h1 W hg hQ => ?_)
    obtain ⟨rfl, rfl⟩ := hQ
    refine g_aloadN W (pc' := 28) (D en_27) rfl rfl (by first | rfl | assumption) ?_
    refine g_getfield W (pc' := 31) (host := "") (Or.inl (hI hw 57 rfl)) Via.refl (b5) (D en_28) rfl (fun T W => ?_)
    refine g_ishl W (pc' := 32) (D en_31) rfl ?_
    rw [shl1 (by omega), show 2 * ((cap + max (2 * n - cap) (cap + 4)) / 2) = cap + max (2 * n - cap) (cap + 4) by omega]
    refine g_callSF W (t_copyOf l hw hEL cst W.old b7 b8 (n := cap + max (2 * n - cap) (cap + 4)) (by omega) (by omega)) (fun x q => nomatch q) (hI hw 188 rfl) (hI hw 189 rfl) (hI hw 94 rfl) (hI hw 190 rfl) (by decide) pd_8 (argsL := [_, _]) rfl rfl (pc' := 35) rfl (by rw [hml]; rfl) (D en_32) rfl (Wn := 1) (Nat.le_refl _) (by decide) (by decide) (by decide) (by decide) (fun v T h1 FF W hg hQ => ?_)
    obtain ⟨b, rfl, rfl, hb, E1, Eb, Ab⟩ := hQ
    replace b3 := b3.ext E1
    refine g_putfield W (pc' := 38) (host := "") (Or.inl (hI hw 55 rfl)) Via.refl (b4.ext E1) (b3) (Or.inl (hI hw 56 rfl)) (hI hw 31 rfl) (ty := (.array .byte)) (by decide) rfl rfl (⟨b1, Or.inr (Or.inl ⟨SB, b3, by decide, by decide⟩)⟩) (D en_35) rfl (fun T h2 W Wr1 => ?_)
    refine g_returnF W (D en_38) hret (by decide) (by decide) (FF := [b]) (fun z hz => List.mem_append.mpr (Or.inl hz)) ⟨rfl, b, cap + max (2 * n - cap) (cap + 4), rfl, Or.inr hb, by omega, (ext_keep E1 [x]).wr Wr1 (Or.inl (List.mem_singleton.mpr rfl)), b1, Nat.le_trans hO.1 hb, b3.wr Wr1, (b4.ext E1).same Wr1, (b5.ext E1).other Wr1 (Or.inr (Ne.symm n_value_coder)), (b6.ext E1).other Wr1 (Or.inr (Ne.symm n_value_count)), ⟨Eb.wr Wr1, (bx.2.ext E1).other Wr1 (Or.inr (Ne.symm n_value_maybeLatin1))⟩, bw, bs ++ List.replicate (cap + max (2 * n - cap) (cap + 4) - bs.length) 0, Ab.wr Wr1 (Ab.neE b3 (hI hw 31 rfl)), b8.app (Bys.rep _), by rw [List.length_append, List.length_replicate]; omega, by omega, by omega, by omega, ?_⟩
    rw [List.take_append_of_le_length (by omega)]; exact b11
  · refine g_ifleY W (pc1 := 38) (pc2 := 17) (D en_14) (by decide) (by decide) rfl (ens_le (n := n) (cap := cap / 2) (by omega) (by omega)) ?_
    exact g_returnF W (D en_38) hret (by decide) (by decide) (FF := [t]) (fun z hz => hz) ⟨rfl, t, cap, rfl, Or.inl rfl, q, Keep.refl _ _, B0⟩
theorem fi_0 : decode jdk_68_method_11_code 0 = .ok (.aload_n 0, 1) := by decide +kernel
theorem fi_1 : decode jdk_68_method_11_code 1 = .ok (.invokevirtual 83, 3) := by decide +kernel
theorem fi_4 : decode jdk_68_method_11_code 4 = .ok (.ifCond .ne 4, 3) := by decide +kernel
theorem fi_7 : decode jdk_68_method_11_code 7 = .ok (.return_, 1) := by decide +kernel
theorem fi_8 : decode jdk_68_method_11_code 8 = .ok (.aload_n 0, 1) := by decide +kernel
theorem fi_9 : decode jdk_68_method_11_code 9 = .ok (.getfield 15, 3) := by decide +kernel
theorem fi_12 : decode jdk_68_method_11_code 12 = .ok (.arraylength, 1) := by decide +kernel
theorem fi_13 : decode jdk_68_method_11_code 13 = .ok (.invokestatic 26, 3) := by decide +kernel
theorem fi_16 : decode jdk_68_method_11_code 16 = .ok (.astore_n 1, 1) := by decide +kernel
theorem fi_17 : decode jdk_68_method_11_code 17 = .ok (.aload_n 0, 1) := by decide +kernel
theorem fi_18 : decode jdk_68_method_11_code 18 = .ok (.getfield 15, 3) := by decide +kernel
theorem fi_21 : decode jdk_68_method_11_code 21 = .ok (.iconst 0, 1) := by decide +kernel
theorem fi_22 : decode jdk_68_method_11_code 22 = .ok (.aload_n 1, 1) := by decide +kernel
theorem fi_23 : decode jdk_68_method_11_code 23 = .ok (.iconst 0, 1) := by decide +kernel
theorem fi_24 : decode jdk_68_method_11_code 24 = .ok (.aload_n 0, 1) := by decide +kernel
theorem fi_25 : decode jdk_68_method_11_code 25 = .ok (.getfield 79, 3) := by decide +kernel
theorem fi_28 : decode jdk_68_method_11_code 28 = .ok (.invokestatic 125, 3) := by decide +kernel
theorem fi_31 : decode jdk_68_method_11_code 31 = .ok (.aload_n 0, 1) := by decide +kernel
theorem fi_32 : decode jdk_68_method_11_code 32 = .ok (.aload_n 1, 1) := by decide +kernel
theorem fi_33 : decode jdk_68_method_11_code 33 = .ok (.putfield 15, 3) := by decide +kernel
theorem fi_36 : decode jdk_68_method_11_code 36 = .ok (.aload_n 0, 1) := by decide +kernel
theorem fi_37 : decode jdk_68_method_11_code 37 = .ok (.iconst 1, 1) := by decide +kernel
theorem fi_38 : decode jdk_68_method_11_code 38 = .ok (.putfield 22, 3) := by decide +kernel
theorem fi_41 : decode jdk_68_method_11_code 41 = .ok (.return_, 1) := by decide +kernel
theorem ef_fi (m : MethodId) (x0 : Addr) : entryFrame m #[.ref x0] 2 = mkF m 0 #[.val (.ref x0), .unset] [] := by first | (simp [entryFrame, mkF, argsToLocals, Value.category, maxLocals]; done) | rfl
set_option maxRecDepth 65536 in
set_option maxHeartbeats 8000000 in
theorem t_inflNop (l : Launch) {Z : State} {a0 : Array Value} {EL : List (String × Nat)} (hw : ∀ d ∈ tables_1, d.before a0 Z = true) (hEL : EW Z a0 EL) (cst : Cst Z) (fst : Fst Z) (ust : Ust Z) {h : Heap} (hO : Ext Z.heap h) {x t : Addr} {cap : Nat} {cs : List Int32} (B : Sb6 Z h x t cap cs) :
    Met l Z EL [] (⟨"java/lang/AbstractStringBuilder", "inflate", "()V"⟩ : MethodName) jdk_68_method_11_code 2 none { frames := 1, cells := 0, slots := 0, locals := 12 } #[.ref x] h (Void fun h' => h = h') := by
  refine Met.intro pnAB hEL hO ?_
  intro p e s m below meth c T W hby hml hret hnm
  have D : ∀ {pc : Nat} {r}, decode jdk_68_method_11_code pc = r → decode c.code pc = r := fun q => hb hby q
  refine Go.cast (ef_fi m x) ?_
  refine g_aloadN W (pc' := 1) (D fi_0) rfl rfl (by first | rfl | assumption) ?_
  refine g_virt W (t_isLat6 l hw hEL cst fst ust W.old B) (fun x q => nomatch q) ⟨_, _, rfl, (hI hw 90 rfl)⟩ (hI hw 158 rfl) (hI hw 88 rfl) (hI hw 90 rfl) (hI hw 89 rfl) (hI hw 51 rfl) (hI hw 91 rfl) (by decide) pd_14 (B.2.2.1) (argsL := []) rfl rfl (pc' := 4) rfl (by rw [hml]; rfl) (D fi_1) rfl (Wn := 0) (Nat.le_refl _) (by decide) (by decide) (by decide) (by decide) (fun v T h1 W hg hQ => ?_)
  obtain ⟨rfl, rfl⟩ := hQ
  refine g_ifneN W (pc1 := 8) (pc2 := 7) (D fi_4) (by decide) (by decide) rfl (rfl) ?_
  exact g_return W (D fi_7) hret (by decide) (by decide) ⟨rfl, rfl⟩
set_option maxRecDepth 65536 in
set_option maxHeartbeats 8000000 in
theorem t_inflB (l : Launch) {Z : State} {a0 : Array Value} {EL : List (String × Nat)} (hw : ∀ d ∈ tables_1, d.before a0 Z = true) (hEL : EW Z a0 EL) (cst : Cst Z) (fst : Fst Z) (ust : Ust Z) {h : Heap} (hO : Ext Z.heap h) {x t : Addr} {cap : Nat} {cs : List Int32} (B : Sbd Z h x t cap cs) (hL : Latin cs) (hc : cap ≤ 64) :
    Met l Z EL [t] (⟨"java/lang/AbstractStringBuilder", "inflate", "()V"⟩ : MethodName) jdk_68_method_11_code 2 none { frames := 5, cells := 1, slots := 128, locals := 80 } #[.ref x] h (VoidF fun h' FF => ∃ b, FF = [b] ∧ h.size ≤ b ∧ Keep h h' [x] ∧ Sb6 Z h' x b (2 * cap) cs) := by
  have n_value_coder : Jvm.RoadKit.slotOf Z AB "value" "[B" ≠ Jvm.RoadKit.slotOf Z AB "coder" "B" := slot_ne (C := SB) (Or.inl (hI hw 56 rfl)) (Or.inl (hI hw 58 rfl)) (by decide) (t := .array .byte) (t' := .byte) (by decide) (by decide)
  have n_value_count : Jvm.RoadKit.slotOf Z AB "value" "[B" ≠ Jvm.RoadKit.slotOf Z AB "count" "I" := slot_ne (C := SB) (Or.inl (hI hw 56 rfl)) (Or.inl (hI hw 86 rfl)) (by decide) (t := .array .byte) (t' := .int) (by decide) (by decide)
  have n_coder_count : Jvm.RoadKit.slotOf Z AB "coder" "B" ≠ Jvm.RoadKit.slotOf Z AB "count" "I" := slot_ne (C := SB) (Or.inl (hI hw 58 rfl)) (Or.inl (hI hw 86 rfl)) (by decide) (t := .byte) (t' := .int) (by decide) (by decide)
  have n_value_maybeLatin1 : Jvm.RoadKit.slotOf Z AB "value" "[B" ≠ Jvm.RoadKit.slotOf Z AB "maybeLatin1" "Z" := slot_ne (C := SB) (Or.inl (hI hw 56 rfl)) (Or.inl (hI hw 278 rfl)) (by decide) (t := .array .byte) (t' := .boolean) (by decide) (by decide)
  have n_coder_maybeLatin1 : Jvm.RoadKit.slotOf Z AB "coder" "B" ≠ Jvm.RoadKit.slotOf Z AB "maybeLatin1" "Z" := slot_ne (C := SB) (Or.inl (hI hw 58 rfl)) (Or.inl (hI hw 278 rfl)) (by decide) (t := .byte) (t' := .boolean) (by decide) (by decide)
  have n_count_maybeLatin1 : Jvm.RoadKit.slotOf Z AB "count" "I" ≠ Jvm.RoadKit.slotOf Z AB "maybeLatin1" "Z" := slot_ne (C := SB) (Or.inl (hI hw 86 rfl)) (Or.inl (hI hw 278 rfl)) (by decide) (t := .int) (t' := .boolean) (by decide) (by decide)
  refine Met.intro pnAB hEL hO ?_
  intro p e s m below meth c T W hby hml hret hnm
  have D : ∀ {pc : Nat} {r}, decode jdk_68_method_11_code pc = r → decode c.code pc = r := fun q => hb hby q
  refine Go.cast (ef_fi m x) ?_
  have B0 := B
  obtain ⟨b1, b2, b3, b4, b5, b6, bx, bs, b7, b8, b9, b10, b11⟩ := B
  refine g_aloadN W (pc' := 1) (D fi_0) rfl rfl (by first | rfl | assumption) ?_
  refine g_virt W (t_isLatinA l hw hEL cst W.old B0) (fun x q => nomatch q) ⟨_, _, rfl, (hI hw 90 rfl)⟩ (hI hw 158 rfl) (hI hw 88 rfl) (hI hw 90 rfl) (hI hw 89 rfl) (hI hw 51 rfl) (hI hw 91 rfl) (by decide) pd_14 (b3) (argsL := []) rfl rfl (pc' := 4) rfl (by rw [hml]; rfl) (D fi_1) rfl (Wn := 0) (Nat.le_refl _) (by decide) (by decide) (by decide) (by decide) (fun v T h1 W hg hQ => ?_)
  obtain ⟨rfl, rfl⟩ := hQ
  refine g_ifneY W (pc1 := 8) (pc2 := 7) (D fi_4) (by decide) (by decide) rfl (by decide) ?_
  refine g_aloadN W (pc' := 9) (D fi_8) rfl rfl (by first | rfl | assumption) ?_
  refine g_getfield W (pc' := 12) (host := "") (Or.inl (hI hw 55 rfl)) Via.refl (b4) (D fi_9) rfl (fun T W => ?_)
  refine g_arraylength W (pc' := 13) (b7) (z := Int32.ofNat cap) (by rw [List.length_map, b9]) (D fi_12) rfl ?_
  refine g_callSF W (t_nbFor l hw hEL cst fst ust W.old hc) (fun x q => nomatch q) (hI hw 258 rfl) (hI hw 227 rfl) (hI hw 111 rfl) (hI hw 228 rfl) (by decide) pd_27 (argsL := [_]) rfl rfl (pc' := 16) rfl (by rw [hml]; rfl) (D fi_13) rfl (Wn := 0) (Nat.le_refl _) (by decide) (by decide) (by decide) (by decide) (fun v T g1 FF W hg hQ => ?_)
  obtain ⟨b, rfl, rfl, hb, E1, Eb, Ab⟩ := hQ
  replace W := W.drop (F' := [b]) (fun z hz => List.mem_append.mpr (Or.inl hz))
  refine g_astoreN W (pc' := 17) (D fi_16) rfl (by first | rfl | assumption) (ls' := #[_, _]) rfl ?_
  refine g_aloadN W (pc' := 18) (D fi_17) rfl rfl (by first | rfl | assumption) ?_
  refine g_getfield W (pc' := 21) (host := "") (Or.inl (hI hw 55 rfl)) Via.refl (b4.ext E1) (D fi_18) rfl (fun T W => ?_)
  refine g_iconst W (pc' := 22) (D fi_21) rfl (v := (0 : Int32)) (by decide) ?_
  refine g_aloadN W (pc' := 23) (D fi_22) rfl rfl (by first | rfl | assumption) ?_
  refine g_iconst W (pc' := 24) (D fi_23) rfl (v := (0 : Int32)) (by decide) ?_
  refine g_aloadN W (pc' := 25) (D fi_24) rfl rfl (by first | rfl | assumption) ?_
  refine g_getfield W (pc' := 28) (host := "") (Or.inl (hI hw 85 rfl)) Via.refl (b6.ext E1) (D fi_25) rfl (fun T W => ?_)
  have hne : t ≠ b := Nat.ne_of_lt (Nat.lt_of_lt_of_le b7.lt hb)
  refine g_callSV W (t_inflL l hw hEL cst fst ust W.old (b7.ext E1) b11 (by omega) hL Ab hne (Nat.le_trans hO.1 hb) (d := 0) (by rw [List.length_replicate]; omega)) (fun y q => q) (hI hw 259 rfl) (hI hw 260 rfl) (hI hw 134 rfl) (hI hw 261 rfl) (by decide) pd_33 (argsL := [_, _, _, _, _]) rfl rfl (pc' := 31) rfl (by rw [hml]; rfl) (D fi_28) rfl (Wn := 0) (Nat.le_refl _) (by decide) (by decide) (by decide) (by decide) (fun T g2 W hg hQ => ?_)
  obtain ⟨K2, A2⟩ := hQ
  have ne : x ∉ [b] := ninS (Nat.ne_of_lt (Nat.lt_of_lt_of_le b3.lt hb)) nin0
  replace b3 := (b3.ext E1).keep K2
  replace b4 := (b4.ext E1).keep K2 ne
  replace b5 := (b5.ext E1).keep K2 ne
  replace b6 := (b6.ext E1).keep K2 ne
  have bm := (bx.2.ext E1).keep K2 ne
  replace Eb := Eb.keep K2
  refine g_aloadN W (pc' := 32) (D fi_31) rfl rfl (by first | rfl | assumption) ?_
  refine g_aloadN W (pc' := 33) (D fi_32) rfl rfl (by first | rfl | assumption) ?_
  refine g_putfield W (pc' := 36) (host := "") (Or.inl (hI hw 55 rfl)) Via.refl (b4) (b3) (Or.inl (hI hw 56 rfl)) (hI hw 31 rfl) (ty := (.array .byte)) (by decide) rfl rfl (⟨b1, Or.inr (Or.inl ⟨SB, b3, by decide, by decide⟩)⟩) (D fi_33) rfl (fun T g3 W Wr1 => ?_)
  replace A2 := A2.wr Wr1 (A2.neE b3 (hI hw 31 rfl))
  replace b3 := b3.wr Wr1
  replace b4 := b4.same Wr1
  replace b5 := b5.other Wr1 (Or.inr (Ne.symm n_value_coder))
  replace b6 := b6.other Wr1 (Or.inr (Ne.symm n_value_count))
  replace bm := bm.other Wr1 (Or.inr (Ne.symm n_value_maybeLatin1))
  refine g_aloadN W (pc' := 37) (D fi_36) rfl rfl (by first | rfl | assumption) ?_
  refine g_iconst W (pc' := 38) (D fi_37) rfl (v := (1 : Int32)) (by decide) ?_
  refine g_putfield W (pc' := 41) (host := "") (Or.inl (hI hw 57 rfl)) Via.refl (b5) (b3) (Or.inl (hI hw 58 rfl)) (hI hw 31 rfl) (ty := .byte) (by decide) rfl rfl (⟨b1, Or.inr (Or.inl ⟨SB, b3, by decide, by decide⟩)⟩) (D fi_38) rfl (fun T g4 W Wr2 => ?_)
  have KK : Keep h g4 [x] := (((ext_keep E1 [x]).trans K2 (fun z hz => Or.inr (by cases List.mem_singleton.mp hz; exact hb))).wr Wr1 (Or.inl (List.mem_singleton.mpr rfl))).wr Wr2 (Or.inl (List.mem_singleton.mpr rfl))
  refine g_returnF W (D fi_41) hret (by decide) (by decide) (FF := [b]) (fun z hz => hz) ⟨rfl, b, rfl, hb, KK, b1, Nat.le_trans hO.1 hb, b3.wr Wr2, b4.other Wr2 (Or.inr n_value_coder), b5.same Wr2, b6.other Wr2 (Or.inr (Ne.symm n_coder_count)), ⟨(Eb.wr Wr1).wr Wr2, bm.other Wr2 (Or.inr (Ne.symm n_coder_maybeLatin1))⟩, (fun c hc => Lc.wc (hL c hc)), _, A2.wr Wr2 (A2.neE b3 (hI hw 31 rfl)), ((Bys.rep _).take _ |>.app (w16_bys cs)).app ((Bys.rep _).drop _), ?_, by omega, by omega, by omega, ?_⟩
  · simp only [List.length_append, List.length_take, List.length_drop, List.length_replicate, w16_len]; omega
  · simp only [Nat.mul_zero, List.take_zero, List.nil_append]; exact List.take_left' (w16_len cs)
theorem Sb6.put {Z : State} {a0 : Array Value} (hw : ∀ d ∈ tables_1, d.before a0 Z = true) {h h1 h2 : Heap} {x t : Addr} {cap : Nat} {cs ds : List Int32} (B : Sb6 Z h x t cap cs) (K1 : Keep h h1 [t]) {us : List Int32} (A1 : Ali Z h1 t .byte (us.map Value.int)) (hu : Bys us) (hl : us.length = cap) (hd : 2 * (cs ++ ds).length ≤ cap) (hws : ∀ c ∈ ds, Wc c) (ht : us.take (2 * (cs ++ ds).length) = w16 (cs ++ ds)) (W2 : Wr h1 h2 x (Jvm.RoadKit.slotOf Z AB "count" "I") (.int (Int32.ofNat (cs ++ ds).length))) : Keep h h2 [x, t] ∧ Sb6 Z h2 x t cap (cs ++ ds) := by
  have n_value_coder : Jvm.RoadKit.slotOf Z AB "value" "[B" ≠ Jvm.RoadKit.slotOf Z AB "coder" "B" := slot_ne (C := SB) (Or.inl (hI hw 56 rfl)) (Or.inl (hI hw 58 rfl)) (by decide) (t := .array .byte) (t' := .byte) (by decide) (by decide)
  have n_value_count : Jvm.RoadKit.slotOf Z AB "value" "[B" ≠ Jvm.RoadKit.slotOf Z AB "count" "I" := slot_ne (C := SB) (Or.inl (hI hw 56 rfl)) (Or.inl (hI hw 86 rfl)) (by decide) (t := .array .byte) (t' := .int) (by decide) (by decide)
  have n_coder_count : Jvm.RoadKit.slotOf Z AB "coder" "B" ≠ Jvm.RoadKit.slotOf Z AB "count" "I" := slot_ne (C := SB) (Or.inl (hI hw 58 rfl)) (Or.inl (hI hw 86 rfl)) (by decide) (t := .byte) (t' := .int) (by decide) (by decide)
  have n_value_maybeLatin1 : Jvm.RoadKit.slotOf Z AB "value" "[B" ≠ Jvm.RoadKit.slotOf Z AB "maybeLatin1" "Z" := slot_ne (C := SB) (Or.inl (hI hw 56 rfl)) (Or.inl (hI hw 278 rfl)) (by decide) (t := .array .byte) (t' := .boolean) (by decide) (by decide)
  have n_coder_maybeLatin1 : Jvm.RoadKit.slotOf Z AB "coder" "B" ≠ Jvm.RoadKit.slotOf Z AB "maybeLatin1" "Z" := slot_ne (C := SB) (Or.inl (hI hw 58 rfl)) (Or.inl (hI hw 278 rfl)) (by decide) (t := .byte) (t' := .boolean) (by decide) (by decide)
  have n_count_maybeLatin1 : Jvm.RoadKit.slotOf Z AB "count" "I" ≠ Jvm.RoadKit.slotOf Z AB "maybeLatin1" "Z" := slot_ne (C := SB) (Or.inl (hI hw 86 rfl)) (Or.inl (hI hw 278 rfl)) (by decide) (t := .int) (t' := .boolean) (by decide) (by decide)
  have wiB : (Jvm.Cond.instantiable SB 4).before a0 Z = true := (hI hw 31 rfl)
  obtain ⟨b1, b2, b3, b4, b5, b6, bx, bw, bs, b7, b8, b9, bev, bc, b10, b11⟩ := B
  have ne : x ∉ [t] := ninS (b7.neE b3 wiB).symm nin0
  refine ⟨?_, b1, b2, (b3.keep K1).wr W2, (b4.keep K1 ne).other W2 (Or.inr n_value_count), (b5.keep K1 ne).other W2 (Or.inr n_coder_count), (b6.keep K1 ne).same W2, ⟨(bx.1.keep K1).wr W2, (bx.2.keep K1 ne).other W2 (Or.inr (Ne.symm n_count_maybeLatin1))⟩, (fun c hc => (List.mem_append.mp hc).elim (bw c) (hws c)), us, A1.wr W2 (A1.neE (b3.keep K1) wiB), hu, hl, bev, bc, hd, ht⟩
  have K2 : Keep h h1 [x, t] := ⟨K1.1, fun a c q r => K1.2.1 a c q (fun z => r (List.mem_cons_of_mem x z)), K1.2.2⟩
  exact K2.wr W2 (Or.inl (List.mem_cons_self ..))
set_option maxRecDepth 65536 in
set_option maxHeartbeats 8000000 in
theorem t_inflate6 (l : Launch) {Z : State} {a0 : Array Value} {EL : List (String × Nat)} (hw : ∀ d ∈ tables_1, d.before a0 Z = true) (hEL : EW Z a0 EL) (cst : Cst Z) (fst : Fst Z) (ust : Ust Z) {h : Heap} (hO : Ext Z.heap h) {x t : Addr} {cap : Nat} {cs : List Int32} (B : Sb6 Z h x t cap cs) {y : Addr} {ds : List Int32} (S : Str Z h y ds) :
    Met l Z EL [] (⟨"java/lang/AbstractStringBuilder", "inflateIfNeededFor", "(Ljava/lang/String;)V"⟩ : MethodName) jdk_68_method_71_code 2 none { frames := 2, cells := 0, slots := 0, locals := 25 } #[.ref x, .ref y] h (Void fun h' => h = h') := by
  refine Met.intro pnAB hEL hO ?_
  intro p e s m below meth c T W hby hml hret hnm
  have D : ∀ {pc : Nat} {r}, decode jdk_68_method_71_code pc = r → decode c.code pc = r := fun q => hb hby q
  refine Go.cast (efNf m x y) ?_
  obtain ⟨zc, Sc, hzc⟩ := id cst
  refine g_getstatic W (pc' := 3) (host := "") (Or.inl (hI hw 54 rfl)) Via.refl (Sc.ext W.old) (D nf_0) rfl (fun T W => ?_)
  refine g_ifeqN W (pc1 := 21) (pc2 := 6) (D nf_3) (by decide) (by decide) rfl (hzc) ?_
  refine g_aloadN W (pc' := 7) (D nf_6) rfl rfl (by first | rfl | assumption) ?_
  refine g_getfield W (pc' := 10) (host := "") (Or.inl (hI hw 57 rfl)) Via.refl (B.2.2.2.2.1) (D nf_7) rfl (fun T W => ?_)
  refine g_aloadN W (pc' := 11) (D nf_10) rfl rfl (by first | rfl | assumption) ?_
  refine g_virt W (t_coder l hw hEL cst W.old S) (fun x q => nomatch q) ⟨_, _, rfl, (hI hw 41 rfl)⟩ (hI hw 208 rfl) (hI hw 39 rfl) (hI hw 41 rfl) (hI hw 40 rfl) (hI hw 6 rfl) (hI hw 42 rfl) (by decide) pd_9 (S.1) (argsL := []) rfl rfl (pc' := 14) rfl (by rw [hml]; rfl) (D nf_11) rfl (Wn := 1) (Nat.le_refl _) (by decide) (by decide) (by decide) (by decide) (fun v T h1 W hg hQ => ?_)
  obtain ⟨rfl, rfl⟩ := hQ
  refine g_icmpeqN W (pc1 := 21) (pc2 := 17) (D nf_14) (by decide) (by decide) rfl (by decide) ?_
  refine g_aloadN W (pc' := 18) (D nf_17) rfl rfl (by first | rfl | assumption) ?_
  refine g_virtV W (t_inflNop l hw hEL cst fst ust W.old B) (fun x q => nomatch q) ⟨_, _, rfl, (hI hw 256 rfl)⟩ (hI hw 253 rfl) (decl_of (hI hw 254 rfl) (hI hw 257 rfl)) (hI hw 256 rfl) (hI hw 254 rfl) (hI hw 51 rfl) (hI hw 257 rfl) (by decide) pd_34 (B.2.2.1) (argsL := []) rfl rfl (pc' := 21) rfl (by rw [hml]; rfl) (D nf_18) rfl (Wn := 0) (Nat.le_refl _) (by decide) (by decide) (by decide) (by decide) (fun T h1 W hg hQ => ?_)
  subst hQ
  exact g_return W (D nf_21) hret (by decide) (by decide) ⟨rfl, rfl⟩
set_option maxRecDepth 65536 in
set_option maxHeartbeats 8000000 in
theorem t_getBytes6 (l : Launch) {Z : State} {a0 : Array Value} {EL : List (String × Nat)} (hw : ∀ d ∈ tables_1, d.before a0 Z = true) (hEL : EW Z a0 EL) (cst : Cst Z) (fst : Fst Z) (ust : Ust Z) {h : Heap} (hO : Ext Z.heap h) {t : Addr} {y u : Addr} {ds : List Int32} (S : Str Z h y ds) (fu : Fld Z h y "java/lang/String" "value" "[B" (.ref u)) (Au : Ali Z h u .byte ((ds.map lo).map Value.int)) (hut : u ≠ t) {bs : List Int32} (A : Ali Z h t .byte (bs.map Value.int)) (hz : Z.heap.size ≤ t) {i : Nat} (hi2 : 2 * (i + ds.length) ≤ bs.length) :
    Met l Z EL [t] (⟨"java/lang/String", "getBytes", "([BIB)V"⟩ : MethodName) jdk_42_method_147_code 4 none { frames := 5, cells := 0, slots := 0, locals := 76 } #[.ref y, .ref t, .int (Int32.ofNat i), .int 1] h (Void fun h' => Keep h h' [t] ∧ Ali Z h' t .byte ((bs.take (2 * i) ++ w16 ds ++ bs.drop (2 * (i + ds.length))).map Value.int)) := by
  refine Met.intro pnS hEL hO ?_
  intro p e s m below meth c T W hby hml hret hnm
  have D : ∀ {pc : Nat} {r}, decode jdk_42_method_147_code pc = r → decode c.code pc = r := fun q => hb hby q
  refine Go.cast (efGb m y t (Int32.ofNat i) 1) ?_
  refine g_aloadN W (pc' := 1) (D gb_0) rfl rfl (by first | rfl | assumption) ?_
  refine g_virt W (t_coder l hw hEL cst W.old S) (fun x q => nomatch q) ⟨_, _, rfl, (hI hw 41 rfl)⟩ (hI hw 38 rfl) (hI hw 39 rfl) (hI hw 41 rfl) (hI hw 40 rfl) (hI hw 6 rfl) (hI hw 42 rfl) (by decide) pd_9 (S.1) (argsL := []) rfl rfl (pc' := 4) rfl (by rw [hml]; rfl) (D gb_1) rfl (Wn := 0) (Nat.le_refl _) (by decide) (by decide) (by decide) (by decide) (fun v T h1 W hg hQ => ?_)
  obtain ⟨rfl, rfl⟩ := hQ
  refine g_iloadN W (pc' := 5) (D gb_4) rfl rfl ?_
  refine g_icmpneY W (pc1 := 28) (pc2 := 8) (D gb_5) (by decide) (by decide) rfl (by decide) ?_
  refine g_aloadN W (pc' := 29) (D gb_28) rfl rfl (by first | rfl | assumption) ?_
  refine g_getfield W (pc' := 32) (host := "") (Or.inl (hI hw 24 rfl)) Via.refl (fu) (D gb_29) rfl (fun T W => ?_)
  refine g_iconst W (pc' := 33) (D gb_32) rfl (v := (0 : Int32)) (by decide) ?_
  refine g_aloadN W (pc' := 34) (D gb_33) rfl rfl (by first | rfl | assumption) ?_
  refine g_iloadN W (pc' := 35) (D gb_34) rfl rfl ?_
  refine g_aloadN W (pc' := 36) (D gb_35) rfl rfl (by first | rfl | assumption) ?_
  refine g_getfield W (pc' := 39) (host := "") (Or.inl (hI hw 24 rfl)) Via.refl (fu) (D gb_36) rfl (fun T W => ?_)
  refine g_arraylength W (pc' := 40) (Au) (z := Int32.ofNat ds.length) (by simp) (D gb_39) rfl ?_
  refine g_callSV W (t_inflL l hw hEL cst fst ust W.old (cs := ds) Au (List.take_of_length_le (by simp)) (by simp) S.2.2.2.1 A hut hz hi2) (fun y q => q) (hI hw 295 rfl) (hI hw 260 rfl) (hI hw 134 rfl) (hI hw 261 rfl) (by decide) pd_33 (argsL := [_, _, _, _, _]) rfl rfl (pc' := 43) rfl (by rw [hml]; rfl) (D gb_40) rfl (Wn := 0) (Nat.le_refl _) (by decide) (by decide) (by decide) (by decide) (fun T h1 W hg hQ => ?_)
  exact g_return W (D gb_43) hret (by decide) (by decide) ⟨rfl, hQ⟩
set_option maxRecDepth 65536 in
set_option maxHeartbeats 8000000 in
theorem t_putAt6 (l : Launch) {Z : State} {a0 : Array Value} {EL : List (String × Nat)} (hw : ∀ d ∈ tables_1, d.before a0 Z = true) (hEL : EW Z a0 EL) (cst : Cst Z) (fst : Fst Z) (ust : Ust Z) {h : Heap} (hO : Ext Z.heap h) {x t : Addr} {cap : Nat} {cs : List Int32} (B : Sb6 Z h x t cap cs) {y u : Addr} {ds : List Int32} (S : Str Z h y ds) (fu : Fld Z h y "java/lang/String" "value" "[B" (.ref u)) (Au : Ali Z h u .byte ((ds.map lo).map Value.int)) (hut : u ≠ t) {bs : List Int32} (A : Ali Z h t .byte (bs.map Value.int)) {i : Nat} (hi2 : 2 * (i + ds.length) ≤ bs.length) :
    Met l Z EL [t] (⟨"java/lang/AbstractStringBuilder", "putStringAt", "(ILjava/lang/String;)V"⟩ : MethodName) jdk_68_method_73_code 3 none { frames := 6, cells := 0, slots := 0, locals := 92 } #[.ref x, .int (Int32.ofNat i), .ref y] h (Void fun h' => Keep h h' [t] ∧ Ali Z h' t .byte ((bs.take (2 * i) ++ w16 ds ++ bs.drop (2 * (i + ds.length))).map Value.int)) := by
  refine Met.intro pnAB hEL hO ?_
  intro p e s m below meth c T W hby hml hret hnm
  have D : ∀ {pc : Nat} {r}, decode jdk_68_method_73_code pc = r → decode c.code pc = r := fun q => hb hby q
  refine Go.cast (efPs m x (Int32.ofNat i) y) ?_
  refine g_aloadN W (pc' := 1) (D ps_0) rfl rfl (by first | rfl | assumption) ?_
  refine g_aloadN W (pc' := 2) (D ps_1) rfl rfl (by first | rfl | assumption) ?_
  refine g_virtV W (t_inflate6 l hw hEL cst fst ust W.old B S) (fun x q => nomatch q) ⟨_, _, rfl, (hI hw 206 rfl)⟩ (hI hw 203 rfl) (decl_of (hI hw 204 rfl) (hI hw 207 rfl)) (hI hw 206 rfl) (hI hw 204 rfl) (hI hw 51 rfl) (hI hw 207 rfl) (by decide) pd_10 (B.2.2.1) (argsL := [_]) rfl rfl (pc' := 5) rfl (by rw [hml]; rfl) (D ps_2) rfl (Wn := 0) (Nat.le_refl _) (by decide) (by decide) (by decide) (by decide) (fun T h1 W hg hQ => ?_)
  subst hQ
  refine g_aloadN W (pc' := 6) (D ps_5) rfl rfl (by first | rfl | assumption) ?_
  refine g_aloadN W (pc' := 7) (D ps_6) rfl rfl (by first | rfl | assumption) ?_
  refine g_getfield W (pc' := 10) (host := "") (Or.inl (hI hw 55 rfl)) Via.refl (B.2.2.2.1) (D ps_7) rfl (fun T W => ?_)
  refine g_iloadN W (pc' := 11) (D ps_10) rfl rfl ?_
  refine g_aloadN W (pc' := 12) (D ps_11) rfl rfl (by first | rfl | assumption) ?_
  refine g_getfield W (pc' := 15) (host := "") (Or.inl (hI hw 57 rfl)) Via.refl (B.2.2.2.2.1) (D ps_12) rfl (fun T W => ?_)
  refine g_virtV W (t_getBytes6 l hw hEL cst fst ust W.old S fu Au hut A B.2.1 hi2) (fun y q => q) ⟨_, _, rfl, (hI hw 212 rfl)⟩ (hI hw 209 rfl) (hI hw 210 rfl) (hI hw 212 rfl) (hI hw 211 rfl) (hI hw 6 rfl) (hI hw 213 rfl) (by decide) pd_11 (S.1) (argsL := [_, _, _]) rfl rfl (pc' := 18) rfl (by rw [hml]; rfl) (D ps_15) rfl (Wn := 0) (Nat.le_refl _) (by decide) (by decide) (by decide) (by decide) (fun T h1 W hg hQ => ?_)
  exact g_return W (D ps_18) hret (by decide) (by decide) ⟨rfl, hQ⟩
set_option maxRecDepth 65536 in
set_option maxHeartbeats 8000000 in
theorem t_appendA6 (l : Launch) {Z : State} {a0 : Array Value} {EL : List (String × Nat)} (hw : ∀ d ∈ tables_1, d.before a0 Z = true) (hEL : EW Z a0 EL) (cst : Cst Z) (fst : Fst Z) (ust : Ust Z) {h : Heap} (hO : Ext Z.heap h) {x t : Addr} {cap : Nat} {cs : List Int32} (B : Sb6 Z h x t cap cs) {y u : Addr} {ds : List Int32} (S : Str Z h y ds) (fu : Fld Z h y "java/lang/String" "value" "[B" (.ref u)) (Au : Ali Z h u .byte ((ds.map lo).map Value.int)) (hut : u ≠ t) (hn : cs.length + ds.length ≤ 32) :
    Met l Z EL [t] (⟨"java/lang/AbstractStringBuilder", "append", "(Ljava/lang/String;)Ljava/lang/AbstractStringBuilder;"⟩ : MethodName) jdk_68_method_22_code 3 (some (.object AB)) { frames := 7, cells := 1, slots := 128, locals := 106 } #[.ref x, .ref y] h (RetF fun v h' FF => ∃ t' cap', FF = [t'] ∧ v = .ref x ∧ (t' = t ∨ h.size ≤ t') ∧ Keep h h' [x, t] ∧ Sb6 Z h' x t' cap' (cs ++ ds)) := by
  refine Met.intro pnAB hEL hO ?_
  intro p e s m below meth c T W hby hml hret hnm
  have D : ∀ {pc : Nat} {r}, decode jdk_68_method_22_code pc = r → decode c.code pc = r := fun q => hb hby q
  refine Go.cast (efAa m x y) ?_
  have B0 := B
  obtain ⟨b1, b2, b3, b4, b5, b6, bx, bw, bs, b7, b8, b9, bev, bc, b10, b11⟩ := B
  have hy31 : u < h.size := Au.lt
  refine g_aloadN W (pc' := 1) (D aa_0) rfl rfl (by first | rfl | assumption) ?_
  refine g_ifnonnullY W (pc1 := 9) (pc2 := 4) (D aa_1) (by decide) (by decide) rfl ?_
  refine g_aloadN W (pc' := 10) (D aa_9) rfl rfl (by first | rfl | assumption) ?_
  refine g_len W hw cst (S) (hI hw 172 rfl) (pc' := 13) (by rw [hml]; rfl) (D aa_10) rfl (Wn := 0) (Nat.le_refl _) (by decide) (by decide) (by decide) (by decide) (rfl) (fun T W => ?_)
  refine g_istoreN W (pc' := 14) (D aa_13) rfl (ls' := #[_, _, _]) rfl ?_
  refine g_aloadN W (pc' := 15) (D aa_14) rfl rfl (by first | rfl | assumption) ?_
  refine g_aloadN W (pc' := 16) (D aa_15) rfl rfl (by first | rfl | assumption) ?_
  refine g_getfield W (pc' := 19) (host := "") (Or.inl (hI hw 85 rfl)) Via.refl (b6) (D aa_16) rfl (fun T W => ?_)
  refine g_iloadN W (pc' := 20) (D aa_19) rfl rfl ?_
  refine g_iadd W (pc' := 21) (D aa_20) rfl ?_
  rw [← Int32.ofNat_add]
  refine g_virtO W (t_ensure6 l hw hEL cst fst ust W.old B0 hn) (fun y q => q) ⟨_, _, rfl, (hI hw 156 rfl)⟩ (hI hw 153 rfl) (decl_of (hI hw 154 rfl) (hI hw 157 rfl)) (hI hw 156 rfl) (hI hw 154 rfl) (hI hw 51 rfl) (hI hw 157 rfl) (by decide) pd_12 (b3) (argsL := [_]) rfl rfl (pc' := 24) rfl (by rw [hml]; rfl) (D aa_21) rfl (Wn := 0) (Nat.le_refl _) (by decide) (by decide) (by decide) (by decide) (fun v T h1 FF W hg hQ => ?_)
  obtain ⟨rfl, t', cap', rfl, ht, hn', K1, B1⟩ := hQ
  replace W := W.drop (F' := [t']) (fun z hz => List.mem_append.mpr (Or.inl hz))
  refine Go.cast (g' := mkF m 24 #[.val (.ref x), .val (.ref y), .val (.int (Int32.ofNat ds.length))] []) rfl ?_
  have S1 := S.keep (hI hw 5 rfl) K1 (Or.inl ⟨SB, 4, b3, by decide, (hI hw 31 rfl)⟩)
  have Au1 := Au.keep K1 (ninS (Au.neE b3 (hI hw 31 rfl)) nin0)
  have fu1 := fu.keep K1 (ninS (Exa.ne S.1 b3 (by decide)) nin0)
  have hut1 : u ≠ t' := by rcases ht with rfl | r; exact hut; exact Nat.ne_of_lt (Nat.lt_of_lt_of_le hy31 r)
  have B2 := B1
  obtain ⟨b1, b2, b3, b4, b5, b6, bx, bw, bs, b7, b8, b9, bev, bc, b10, b11⟩ := B1
  refine g_aloadN W (pc' := 25) (D aa_24) rfl rfl (by first | rfl | assumption) ?_
  refine g_aloadN W (pc' := 26) (D aa_25) rfl rfl (by first | rfl | assumption) ?_
  refine g_getfield W (pc' := 29) (host := "") (Or.inl (hI hw 85 rfl)) Via.refl (b6) (D aa_26) rfl (fun T W => ?_)
  refine g_aloadN W (pc' := 30) (D aa_29) rfl rfl (by first | rfl | assumption) ?_
  refine g_virtV W (t_putAt6 l hw hEL cst fst ust W.old B2 S1 fu1 Au1 hut1 b7 (i := cs.length) (by omega)) (fun y q => q) ⟨_, _, rfl, (hI hw 201 rfl)⟩ (hI hw 198 rfl) (decl_of (hI hw 199 rfl) (hI hw 202 rfl)) (hI hw 201 rfl) (hI hw 199 rfl) (hI hw 51 rfl) (hI hw 202 rfl) (by decide) pd_13 (b3) (argsL := [_, _]) rfl rfl (pc' := 33) rfl (by rw [hml]; rfl) (D aa_30) rfl (Wn := 0) (Nat.le_refl _) (by decide) (by decide) (by decide) (by decide) (fun T h2 W hg hQ => ?_)
  obtain ⟨K2, A2⟩ := hQ
  have ne : x ∉ [t'] := ninS (b7.neE b3 (hI hw 31 rfl)).symm nin0
  refine g_aloadN W (pc' := 34) (D aa_33) rfl rfl (by first | rfl | assumption) ?_
  refine g_dup W (pc' := 35) (D aa_34) rfl rfl ?_
  refine g_getfield W (pc' := 38) (host := "") (Or.inl (hI hw 85 rfl)) Via.refl (b6.keep K2 ne) (D aa_35) rfl (fun T W => ?_)
  refine g_iloadN W (pc' := 39) (D aa_38) rfl rfl ?_
  refine g_iadd W (pc' := 40) (D aa_39) rfl ?_
  rw [← Int32.ofNat_add]
  refine g_putfield W (pc' := 43) (host := "") (Or.inl (hI hw 85 rfl)) Via.refl (b6.keep K2 ne) (b3.keep K2) (Or.inl (hI hw 86 rfl)) (hI hw 31 rfl) (ty := .int) (by decide) rfl rfl (⟨b1, Or.inr (Or.inl ⟨SB, b3.keep K2, by decide, by decide⟩)⟩) (D aa_40) rfl (fun T h3 W Wr1 => ?_)
  refine g_aloadN W (pc' := 44) (D aa_43) rfl rfl (by first | rfl | assumption) ?_
  have hp := B2.put hw (ds := ds) K2 A2 ((((b8.take _)).app (w16_bys ds)).app (b8.drop _)) (by simp only [List.length_append, List.length_take, List.length_drop, w16_len]; omega) (by rw [List.length_append]; omega) (fun c hc => Lc.wc (S.2.2.2.1 c hc)) (by
    rw [b11, ← w16_app]
    exact List.take_left' (w16_len _)) (by rw [List.length_append]; exact Wr1)
  exact g_areturnF W (D aa_44) hret rfl rfl (by decide) (by decide) (FF := [t']) (fun z hz => hz) ⟨_, rfl, t', cap', rfl, rfl, ht, keep_two K1 hp.1 ht, hp.2⟩
theorem take_set2 {l : List Int32} {n : Nat} {a b : Int32} (h : n + 1 < l.length) : ((l.set n a).set (n + 1) b).take (n + 2) = l.take n ++ [a, b] := by
  rw [show n + 2 = (n + 1) + 1 from rfl, take_set1 (by rw [List.length_set]; exact h), take_set1 (by omega)]
  simp
set_option maxRecDepth 65536 in
set_option maxHeartbeats 8000000 in
theorem t_appendAC6 (l : Launch) {Z : State} {a0 : Array Value} {EL : List (String × Nat)} (hw : ∀ d ∈ tables_1, d.before a0 Z = true) (hEL : EW Z a0 EL) (cst : Cst Z) (fst : Fst Z) (ust : Ust Z) {h : Heap} (hO : Ext Z.heap h) {x t : Addr} {cap : Nat} {cs : List Int32} (B : Sb6 Z h x t cap cs) {ch : Int32} (hch : Wc ch) (hn : cs.length + 1 ≤ 32) :
    Met l Z EL [t] (⟨"java/lang/AbstractStringBuilder", "append", "(C)Ljava/lang/AbstractStringBuilder;"⟩ : MethodName) jdk_68_method_31_code 2 (some (.object AB)) { frames := 6, cells := 2, slots := 256, locals := 100 } #[.ref x, .int ch] h (RetF fun v h' FF => ∃ t' cap', FF = [t'] ∧ v = .ref x ∧ (t' = t ∨ h.size ≤ t') ∧ Keep h h' [x, t] ∧ Sb6 Z h' x t' cap' (cs ++ [ch])) := by
  have n_value_coder : Jvm.RoadKit.slotOf Z AB "value" "[B" ≠ Jvm.RoadKit.slotOf Z AB "coder" "B" := slot_ne (C := SB) (Or.inl (hI hw 56 rfl)) (Or.inl (hI hw 58 rfl)) (by decide) (t := .array .byte) (t' := .byte) (by decide) (by decide)
  have n_value_count : Jvm.RoadKit.slotOf Z AB "value" "[B" ≠ Jvm.RoadKit.slotOf Z AB "count" "I" := slot_ne (C := SB) (Or.inl (hI hw 56 rfl)) (Or.inl (hI hw 86 rfl)) (by decide) (t := .array .byte) (t' := .int) (by decide) (by decide)
  have n_coder_count : Jvm.RoadKit.slotOf Z AB "coder" "B" ≠ Jvm.RoadKit.slotOf Z AB "count" "I" := slot_ne (C := SB) (Or.inl (hI hw 58 rfl)) (Or.inl (hI hw 86 rfl)) (by decide) (t := .byte) (t' := .int) (by decide) (by decide)
  have n_value_maybeLatin1 : Jvm.RoadKit.slotOf Z AB "value" "[B" ≠ Jvm.RoadKit.slotOf Z AB "maybeLatin1" "Z" := slot_ne (C := SB) (Or.inl (hI hw 56 rfl)) (Or.inl (hI hw 278 rfl)) (by decide) (t := .array .byte) (t' := .boolean) (by decide) (by decide)
  have n_coder_maybeLatin1 : Jvm.RoadKit.slotOf Z AB "coder" "B" ≠ Jvm.RoadKit.slotOf Z AB "maybeLatin1" "Z" := slot_ne (C := SB) (Or.inl (hI hw 58 rfl)) (Or.inl (hI hw 278 rfl)) (by decide) (t := .byte) (t' := .boolean) (by decide) (by decide)
  have n_count_maybeLatin1 : Jvm.RoadKit.slotOf Z AB "count" "I" ≠ Jvm.RoadKit.slotOf Z AB "maybeLatin1" "Z" := slot_ne (C := SB) (Or.inl (hI hw 86 rfl)) (Or.inl (hI hw 278 rfl)) (by decide) (t := .int) (t' := .boolean) (by decide) (by decide)
  refine Met.intro pnAB hEL hO ?_
  intro p e s m below meth c T W hby hml hret hnm
  have D : ∀ {pc : Nat} {r}, decode jdk_68_method_31_code pc = r → decode c.code pc = r := fun q => hb hby q
  refine Go.cast (efAc m x ch) ?_
  refine g_aloadN W (pc' := 1) (D ac_0) rfl rfl (by first | rfl | assumption) ?_
  refine g_aloadN W (pc' := 2) (D ac_1) rfl rfl (by first | rfl | assumption) ?_
  refine g_getfield W (pc' := 5) (host := "") (Or.inl (hI hw 85 rfl)) Via.refl (B.2.2.2.2.2.1) (D ac_2) rfl (fun T W => ?_)
  refine g_iconst W (pc' := 6) (D ac_5) rfl (v := (1 : Int32)) (by decide) ?_
  refine g_iadd W (pc' := 7) (D ac_6) rfl ?_
  have e1 : Int32.ofNat cs.length + 1 = Int32.ofNat (cs.length + 1) := by rw [Int32.ofNat_add]; rfl
  rw [e1]
  refine g_virtO W (t_ensure6 l hw hEL cst fst ust W.old B hn) (fun y q => q) ⟨_, _, rfl, (hI hw 156 rfl)⟩ (hI hw 153 rfl) (decl_of (hI hw 154 rfl) (hI hw 157 rfl)) (hI hw 156 rfl) (hI hw 154 rfl) (hI hw 51 rfl) (hI hw 157 rfl) (by decide) pd_12 (B.2.2.1) (argsL := [_]) rfl rfl (pc' := 10) rfl (by rw [hml]; rfl) (D ac_7) rfl (Wn := 0) (Nat.le_refl _) (by decide) (by decide) (by decide) (by decide) (fun v T h1 FF W hg hQ => ?_)
  obtain ⟨rfl, t', cap', rfl, ht, hn', K1, B1⟩ := hQ
  replace W := W.drop (F' := [t']) (fun z hz => List.mem_append.mpr (Or.inl hz))
  refine Go.cast (g' := mkF m 10 #[.val (.ref x), .val (.int ch)] []) rfl ?_
  refine g_aloadN W (pc' := 11) (D ac_10) rfl rfl (by first | rfl | assumption) ?_
  refine g_virt W (t_isLat6 l hw hEL cst fst ust W.old B1) (fun x q => nomatch q) ⟨_, _, rfl, (hI hw 90 rfl)⟩ (hI hw 158 rfl) (hI hw 88 rfl) (hI hw 90 rfl) (hI hw 89 rfl) (hI hw 51 rfl) (hI hw 91 rfl) (by decide) pd_14 (B1.2.2.1) (argsL := []) rfl rfl (pc' := 14) rfl (by rw [hml]; rfl) (D ac_11) rfl (Wn := 0) (Nat.le_refl _) (by decide) (by decide) (by decide) (by decide) (fun v T h2 W hg hQ => ?_)
  obtain ⟨rfl, rfl⟩ := hQ
  refine g_ifeqY W (pc1 := 45) (pc2 := 17) (D ac_14) (by decide) (by decide) rfl (rfl) ?_
  refine g_aloadN W (pc' := 46) (D ac_45) rfl rfl (by first | rfl | assumption) ?_
  refine g_virt W (t_isLat6 l hw hEL cst fst ust W.old B1) (fun x q => nomatch q) ⟨_, _, rfl, (hI hw 90 rfl)⟩ (hI hw 158 rfl) (hI hw 88 rfl) (hI hw 90 rfl) (hI hw 89 rfl) (hI hw 51 rfl) (hI hw 91 rfl) (by decide) pd_14 (B1.2.2.1) (argsL := []) rfl rfl (pc' := 49) rfl (by rw [hml]; rfl) (D ac_46) rfl (Wn := 0) (Nat.le_refl _) (by decide) (by decide) (by decide) (by decide) (fun v T h2 W hg hQ => ?_)
  obtain ⟨rfl, rfl⟩ := hQ
  refine g_ifeqY W (pc1 := 56) (pc2 := 52) (D ac_49) (by decide) (by decide) rfl (rfl) ?_
  obtain ⟨b1, b2, b3, b4, b5, b6, bx, bw, bs, b7, b8, b9, bev, bc, b10, b11⟩ := B1
  refine g_aloadN W (pc' := 57) (D ac_56) rfl rfl (by first | rfl | assumption) ?_
  refine g_getfield W (pc' := 60) (host := "") (Or.inl (hI hw 55 rfl)) Via.refl (b4) (D ac_57) rfl (fun T W => ?_)
  refine g_aloadN W (pc' := 61) (D ac_60) rfl rfl (by first | rfl | assumption) ?_
  refine g_dup W (pc' := 62) (D ac_61) rfl rfl ?_
  refine g_getfield W (pc' := 65) (host := "") (Or.inl (hI hw 85 rfl)) Via.refl (b6) (D ac_62) rfl (fun T W => ?_)
  refine g_dup_x1 W (pc' := 66) (D ac_65) rfl rfl rfl ?_
  refine g_iconst W (pc' := 67) (D ac_66) rfl (v := (1 : Int32)) (by decide) ?_
  refine g_iadd W (pc' := 68) (D ac_67) rfl ?_
  rw [e1]
  refine g_putfield W (pc' := 71) (host := "") (Or.inl (hI hw 85 rfl)) Via.refl (b6) (b3) (Or.inl (hI hw 86 rfl)) (hI hw 31 rfl) (ty := .int) (by decide) rfl rfl (⟨b1, Or.inr (Or.inl ⟨SB, b3, by decide, by decide⟩)⟩) (D ac_68) rfl (fun T k2 W Wr1 => ?_)
  have A2 := b7.wr Wr1 (b7.neE b3 (hI hw 31 rfl))
  have ne : x ∉ [t'] := ninS (b7.neE b3 (hI hw 31 rfl)).symm nin0
  refine g_iloadN W (pc' := 72) (D ac_71) rfl rfl ?_
  refine g_callSV W (t_putCharSB l hw hEL cst fst ust W.old A2 b2 (i := cs.length) (by omega) (ch := ch)) (fun y q => q) (hI hw 274 rfl) (hI hw 275 rfl) (hI hw 111 rfl) (hI hw 276 rfl) (by decide) pd_26 (argsL := [_, _, _]) rfl rfl (pc' := 75) rfl (by rw [hml]; rfl) (D ac_72) rfl (Wn := 0) (Nat.le_refl _) (by decide) (by decide) (by decide) (by decide) (fun T k3 W hg hQ => ?_)
  obtain ⟨K3, A3⟩ := hQ
  refine g_aloadN W (pc' := 76) (D ac_75) rfl rfl (by first | rfl | assumption) ?_
  have K2 : Keep h1 k3 [x, t'] := (own_grow (Keep.of_wr Wr1) (fun z hz => by cases List.mem_singleton.mp hz; exact List.mem_cons_self ..)).trans K3 (fun z hz => Or.inl (List.mem_cons_of_mem _ hz))
  refine g_areturnF W (D ac_76) hret rfl rfl (by decide) (by decide) (FF := [t']) (fun z hz => hz) ⟨_, rfl, t', cap', rfl, rfl, ht, keep_two K1 K2 (ht), b1, b2, (b3.wr Wr1).keep K3, (b4.other Wr1 (Or.inr n_value_count)).keep K3 ne, (b5.other Wr1 (Or.inr n_coder_count)).keep K3 ne, ?_, ⟨(bx.1.wr Wr1).keep K3, (bx.2.other Wr1 (Or.inr (Ne.symm n_count_maybeLatin1))).keep K3 ne⟩, (fun z hz => (List.mem_append.mp hz).elim (bw z) (fun q => by cases List.mem_singleton.mp q; exact hch)), _, A3, (b8.set _ (fits_lo _)).set _ (fits_lo _), by rw [List.length_set, List.length_set]; exact b9, bev, bc, by simp only [List.length_append, List.length_cons, List.length_nil]; omega, ?_⟩
  · rw [List.length_append]; exact (b6.same Wr1).keep K3 ne
  · rw [List.length_append, List.length_cons, List.length_nil, show 2 * (cs.length + (0 + 1)) = 2 * cs.length + 2 by omega, take_set2 (by omega), b11, w16_app]; rfl
set_option maxRecDepth 65536 in
set_option maxHeartbeats 8000000 in
theorem t_appendACx (l : Launch) {Z : State} {a0 : Array Value} {EL : List (String × Nat)} (hw : ∀ d ∈ tables_1, d.before a0 Z = true) (hEL : EW Z a0 EL) (cst : Cst Z) (fst : Fst Z) (ust : Ust Z) {h : Heap} (hO : Ext Z.heap h) {x t : Addr} {cap : Nat} {cs : List Int32} (B : Sbd Z h x t cap cs) (hL : Latin cs) (hc : cap ≤ 64) {ch : Int32} (hch : Wc ch) (hbig : (255 : Int32) < ch) (hn : cs.length + 1 ≤ 32) :
    Met l Z EL [t] (⟨"java/lang/AbstractStringBuilder", "append", "(C)Ljava/lang/AbstractStringBuilder;"⟩ : MethodName) jdk_68_method_31_code 2 (some (.object AB)) { frames := 6, cells := 2, slots := 256, locals := 100 } #[.ref x, .int ch] h (RetF fun v h' FF => ∃ t' cap', FF = [t'] ∧ v = .ref x ∧ (t' = t ∨ h.size ≤ t') ∧ Keep h h' [x, t] ∧ Sb6 Z h' x t' cap' (cs ++ [ch])) := by
  have n_value_coder : Jvm.RoadKit.slotOf Z AB "value" "[B" ≠ Jvm.RoadKit.slotOf Z AB "coder" "B" := slot_ne (C := SB) (Or.inl (hI hw 56 rfl)) (Or.inl (hI hw 58 rfl)) (by decide) (t := .array .byte) (t' := .byte) (by decide) (by decide)
  have n_value_count : Jvm.RoadKit.slotOf Z AB "value" "[B" ≠ Jvm.RoadKit.slotOf Z AB "count" "I" := slot_ne (C := SB) (Or.inl (hI hw 56 rfl)) (Or.inl (hI hw 86 rfl)) (by decide) (t := .array .byte) (t' := .int) (by decide) (by decide)
  have n_coder_count : Jvm.RoadKit.slotOf Z AB "coder" "B" ≠ Jvm.RoadKit.slotOf Z AB "count" "I" := slot_ne (C := SB) (Or.inl (hI hw 58 rfl)) (Or.inl (hI hw 86 rfl)) (by decide) (t := .byte) (t' := .int) (by decide) (by decide)
  have n_value_maybeLatin1 : Jvm.RoadKit.slotOf Z AB "value" "[B" ≠ Jvm.RoadKit.slotOf Z AB "maybeLatin1" "Z" := slot_ne (C := SB) (Or.inl (hI hw 56 rfl)) (Or.inl (hI hw 278 rfl)) (by decide) (t := .array .byte) (t' := .boolean) (by decide) (by decide)
  have n_coder_maybeLatin1 : Jvm.RoadKit.slotOf Z AB "coder" "B" ≠ Jvm.RoadKit.slotOf Z AB "maybeLatin1" "Z" := slot_ne (C := SB) (Or.inl (hI hw 58 rfl)) (Or.inl (hI hw 278 rfl)) (by decide) (t := .byte) (t' := .boolean) (by decide) (by decide)
  have n_count_maybeLatin1 : Jvm.RoadKit.slotOf Z AB "count" "I" ≠ Jvm.RoadKit.slotOf Z AB "maybeLatin1" "Z" := slot_ne (C := SB) (Or.inl (hI hw 86 rfl)) (Or.inl (hI hw 278 rfl)) (by decide) (t := .int) (t' := .boolean) (by decide) (by decide)
  refine Met.intro pnAB hEL hO ?_
  intro p e s m below meth c T W hby hml hret hnm
  have D : ∀ {pc : Nat} {r}, decode jdk_68_method_31_code pc = r → decode c.code pc = r := fun q => hb hby q
  refine Go.cast (efAc m x ch) ?_
  refine g_aloadN W (pc' := 1) (D ac_0) rfl rfl (by first | rfl | assumption) ?_
  refine g_aloadN W (pc' := 2) (D ac_1) rfl rfl (by first | rfl | assumption) ?_
  refine g_getfield W (pc' := 5) (host := "") (Or.inl (hI hw 85 rfl)) Via.refl (B.2.2.2.2.2.1) (D ac_2) rfl (fun T W => ?_)
  refine g_iconst W (pc' := 6) (D ac_5) rfl (v := (1 : Int32)) (by decide) ?_
  refine g_iadd W (pc' := 7) (D ac_6) rfl ?_
  have e1 : Int32.ofNat cs.length + 1 = Int32.ofNat (cs.length + 1) := by rw [Int32.ofNat_add]; rfl
  rw [e1]
  refine g_virtO W (t_ensure l hw hEL cst W.old B hc hn) (fun y q => q) ⟨_, _, rfl, (hI hw 156 rfl)⟩ (hI hw 153 rfl) (decl_of (hI hw 154 rfl) (hI hw 157 rfl)) (hI hw 156 rfl) (hI hw 154 rfl) (hI hw 51 rfl) (hI hw 157 rfl) (by decide) pd_12 (B.2.2.1) (argsL := [_]) rfl rfl (pc' := 10) rfl (by rw [hml]; rfl) (D ac_7) rfl (Wn := 0) (Nat.le_refl _) (by decide) (by decide) (by decide) (by decide) (fun v T h1 FF W hg hQ => ?_)
  obtain ⟨rfl, t', cap', rfl, ht, hc', hn', K1, B1⟩ := hQ
  replace W := W.drop (F' := [t']) (fun z hz => List.mem_append.mpr (Or.inl hz))
  refine Go.cast (g' := mkF m 10 #[.val (.ref x), .val (.int ch)] []) rfl ?_
  refine g_aloadN W (pc' := 11) (D ac_10) rfl rfl (by first | rfl | assumption) ?_
  refine g_virt W (t_isLatinA l hw hEL cst W.old B1) (fun x q => nomatch q) ⟨_, _, rfl, (hI hw 90 rfl)⟩ (hI hw 158 rfl) (hI hw 88 rfl) (hI hw 90 rfl) (hI hw 89 rfl) (hI hw 51 rfl) (hI hw 91 rfl) (by decide) pd_14 (B1.2.2.1) (argsL := []) rfl rfl (pc' := 14) rfl (by rw [hml]; rfl) (D ac_11) rfl (Wn := 0) (Nat.le_refl _) (by decide) (by decide) (by decide) (by decide) (fun v T h2 W hg hQ => ?_)
  obtain ⟨rfl, rfl⟩ := hQ
  refine g_ifeqN W (pc1 := 45) (pc2 := 17) (D ac_14) (by decide) (by decide) rfl (by decide) ?_
  refine g_iloadN W (pc' := 18) (D ac_17) rfl rfl ?_
  refine g_callS W (t_canEnc0 l hw hEL cst fst ust W.old hbig) (fun x q => nomatch q) (hI hw 159 rfl) (hI hw 160 rfl) (hI hw 134 rfl) (hI hw 161 rfl) (by decide) pd_1 (argsL := [_]) rfl rfl (pc' := 21) rfl (by rw [hml]; rfl) (D ac_18) rfl (Wn := 0) (Nat.le_refl _) (by decide) (by decide) (by decide) (by decide) (fun v T h2 W hg hQ => ?_)
  obtain ⟨rfl, rfl⟩ := hQ
  refine g_ifeqY W (pc1 := 45) (pc2 := 24) (D ac_21) (by decide) (by decide) rfl (rfl) ?_
  refine g_aloadN W (pc' := 46) (D ac_45) rfl rfl (by first | rfl | assumption) ?_
  refine g_virt W (t_isLatinA l hw hEL cst W.old B1) (fun x q => nomatch q) ⟨_, _, rfl, (hI hw 90 rfl)⟩ (hI hw 158 rfl) (hI hw 88 rfl) (hI hw 90 rfl) (hI hw 89 rfl) (hI hw 51 rfl) (hI hw 91 rfl) (by decide) pd_14 (B1.2.2.1) (argsL := []) rfl rfl (pc' := 49) rfl (by rw [hml]; rfl) (D ac_46) rfl (Wn := 0) (Nat.le_refl _) (by decide) (by decide) (by decide) (by decide) (fun v T h2 W hg hQ => ?_)
  obtain ⟨rfl, rfl⟩ := hQ
  refine g_ifeqN W (pc1 := 56) (pc2 := 52) (D ac_49) (by decide) (by decide) rfl (by decide) ?_
  refine g_aloadN W (pc' := 53) (D ac_52) rfl rfl (by first | rfl | assumption) ?_
  refine g_virtO W (t_inflB l hw hEL cst fst ust W.old B1 hL hc') (fun y q => q) ⟨_, _, rfl, (hI hw 256 rfl)⟩ (hI hw 253 rfl) (decl_of (hI hw 254 rfl) (hI hw 257 rfl)) (hI hw 256 rfl) (hI hw 254 rfl) (hI hw 51 rfl) (hI hw 257 rfl) (by decide) pd_34 (B1.2.2.1) (argsL := []) rfl rfl (pc' := 56) rfl (by rw [hml]; rfl) (D ac_53) rfl (Wn := 0) (Nat.le_refl _) (by decide) (by decide) (by decide) (by decide) (fun v T k1 FF W hg hQ => ?_)
  obtain ⟨rfl, b, rfl, hb, K5, B5⟩ := hQ
  replace W := W.drop (F' := [b]) (fun z hz => List.mem_append.mpr (Or.inl hz))
  refine Go.cast (g' := mkF m 56 #[.val (.ref x), .val (.int ch)] []) rfl ?_
  have K15 : Keep h k1 [x] := K1.trans K5 (fun z hz => Or.inl hz)
  have htb : b = t ∨ h.size ≤ b := Or.inr (Nat.le_trans K1.1 hb)
  obtain ⟨b1, b2, b3, b4, b5, b6, bx, bw, bs, b7, b8, b9, bev, bc, b10, b11⟩ := B5
  refine g_aloadN W (pc' := 57) (D ac_56) rfl rfl (by first | rfl | assumption) ?_
  refine g_getfield W (pc' := 60) (host := "") (Or.inl (hI hw 55 rfl)) Via.refl (b4) (D ac_57) rfl (fun T W => ?_)
  refine g_aloadN W (pc' := 61) (D ac_60) rfl rfl (by first | rfl | assumption) ?_
  refine g_dup W (pc' := 62) (D ac_61) rfl rfl ?_
  refine g_getfield W (pc' := 65) (host := "") (Or.inl (hI hw 85 rfl)) Via.refl (b6) (D ac_62) rfl (fun T W => ?_)
  refine g_dup_x1 W (pc' := 66) (D ac_65) rfl rfl rfl ?_
  refine g_iconst W (pc' := 67) (D ac_66) rfl (v := (1 : Int32)) (by decide) ?_
  refine g_iadd W (pc' := 68) (D ac_67) rfl ?_
  rw [e1]
  refine g_putfield W (pc' := 71) (host := "") (Or.inl (hI hw 85 rfl)) Via.refl (b6) (b3) (Or.inl (hI hw 86 rfl)) (hI hw 31 rfl) (ty := .int) (by decide) rfl rfl (⟨b1, Or.inr (Or.inl ⟨SB, b3, by decide, by decide⟩)⟩) (D ac_68) rfl (fun T k2 W Wr1 => ?_)
  have A2 := b7.wr Wr1 (b7.neE b3 (hI hw 31 rfl))
  have ne : x ∉ [b] := ninS (b7.neE b3 (hI hw 31 rfl)).symm nin0
  refine g_iloadN W (pc' := 72) (D ac_71) rfl rfl ?_
  refine g_callSV W (t_putCharSB l hw hEL cst fst ust W.old A2 b2 (i := cs.length) (by omega) (ch := ch)) (fun y q => q) (hI hw 274 rfl) (hI hw 275 rfl) (hI hw 111 rfl) (hI hw 276 rfl) (by decide) pd_26 (argsL := [_, _, _]) rfl rfl (pc' := 75) rfl (by rw [hml]; rfl) (D ac_72) rfl (Wn := 0) (Nat.le_refl _) (by decide) (by decide) (by decide) (by decide) (fun T k3 W hg hQ => ?_)
  obtain ⟨K3, A3⟩ := hQ
  refine g_aloadN W (pc' := 76) (D ac_75) rfl rfl (by first | rfl | assumption) ?_
  have K2 : Keep k1 k3 [x, b] := (own_grow (Keep.of_wr Wr1) (fun z hz => by cases List.mem_singleton.mp hz; exact List.mem_cons_self ..)).trans K3 (fun z hz => Or.inl (List.mem_cons_of_mem _ hz))
  refine g_areturnF W (D ac_76) hret rfl rfl (by decide) (by decide) (FF := [b]) (fun z hz => hz) ⟨_, rfl, b, (2 * cap'), rfl, rfl, htb, keep_two K15 K2 (htb), b1, b2, (b3.wr Wr1).keep K3, (b4.other Wr1 (Or.inr n_value_count)).keep K3 ne, (b5.other Wr1 (Or.inr n_coder_count)).keep K3 ne, ?_, ⟨(bx.1.wr Wr1).keep K3, (bx.2.other Wr1 (Or.inr (Ne.symm n_count_maybeLatin1))).keep K3 ne⟩, (fun z hz => (List.mem_append.mp hz).elim (bw z) (fun q => by cases List.mem_singleton.mp q; exact hch)), _, A3, (b8.set _ (fits_lo _)).set _ (fits_lo _), by rw [List.length_set, List.length_set]; exact b9, bev, bc, by simp only [List.length_append, List.length_cons, List.length_nil]; omega, ?_⟩
  · rw [List.length_append]; exact (b6.same Wr1).keep K3 ne
  · rw [List.length_append, List.length_cons, List.length_nil, show 2 * (cs.length + (0 + 1)) = 2 * cs.length + 2 by omega, take_set2 (by omega), b11, w16_app]; rfl
set_option maxRecDepth 65536 in
set_option maxHeartbeats 8000000 in
theorem t_append6 (l : Launch) {Z : State} {a0 : Array Value} {EL : List (String × Nat)} (hw : ∀ d ∈ tables_1, d.before a0 Z = true) (hEL : EW Z a0 EL) (cst : Cst Z) (fst : Fst Z) (ust : Ust Z) {h : Heap} (hO : Ext Z.heap h) {x t : Addr} {cap : Nat} {cs : List Int32} (B : Sb6 Z h x t cap cs) {y u : Addr} {ds : List Int32} (S : Str Z h y ds) (fu : Fld Z h y "java/lang/String" "value" "[B" (.ref u)) (Au : Ali Z h u .byte ((ds.map lo).map Value.int)) (hut : u ≠ t) (hn : cs.length + ds.length ≤ 32) :
    Met l Z EL [t] (⟨"java/lang/StringBuilder", "append", "(Ljava/lang/String;)Ljava/lang/StringBuilder;"⟩ : MethodName) jdk_67_method_7_code 2 (some (.object SB)) { frames := 8, cells := 1, slots := 128, locals := 120 } #[.ref x, .ref y] h (RetF fun v h' FF => ∃ t' cap', FF = [t'] ∧ v = .ref x ∧ (t' = t ∨ h.size ≤ t') ∧ Keep h h' [x, t] ∧ Sb6 Z h' x t' cap' (cs ++ ds)) := by
  refine Met.intro pnSB hEL hO ?_
  intro p e s m below meth c T W hby hml hret hnm
  have D : ∀ {pc : Nat} {r}, decode jdk_67_method_7_code pc = r → decode c.code pc = r := fun q => hb hby q
  refine Go.cast (efBaS m x y) ?_
  refine g_aloadN W (pc' := 1) (D baS_0) rfl rfl (by first | rfl | assumption) ?_
  refine g_aloadN W (pc' := 2) (D baS_1) rfl rfl (by first | rfl | assumption) ?_
  refine g_superF W (t_appendA6 l hw hEL cst fst ust W.old B S fu Au hut hn) (fun y q => q) (hI hw 168 rfl) (hI hw 169 rfl) (hI hw 83 rfl) (hI hw 51 rfl) (hI hw 171 rfl) (by decide) (by decide) pd_15 (⟨"java/lang/StringBuilder", ⟨"java/lang/AbstractStringBuilder", "getValue", "()[B"⟩, rfl, (hI hw 74 rfl)⟩) (Ins.self B.2.2.1) (argsL := [_]) rfl rfl (pc' := 5) rfl (by rw [hml]; rfl) (D baS_2) rfl (Wn := 0) (Nat.le_refl _) (by decide) (by decide) (by decide) (by decide) (fun v T h1 FF W hg hQ => ?_)
  obtain ⟨t', cap', rfl, rfl, hQ⟩ := hQ
  refine g_pop W (pc' := 6) (D baS_5) rfl rfl ?_
  refine g_aloadN W (pc' := 7) (D baS_6) rfl rfl (by first | rfl | assumption) ?_
  exact g_areturnF W (D baS_7) hret rfl rfl (by decide) (by decide) (FF := [t']) (fun z hz => List.mem_append.mpr (Or.inl hz)) ⟨_, rfl, t', cap', rfl, rfl, hQ⟩
set_option maxRecDepth 65536 in
set_option maxHeartbeats 8000000 in
theorem t_appendC6 (l : Launch) {Z : State} {a0 : Array Value} {EL : List (String × Nat)} (hw : ∀ d ∈ tables_1, d.before a0 Z = true) (hEL : EW Z a0 EL) (cst : Cst Z) (fst : Fst Z) (ust : Ust Z) {h : Heap} (hO : Ext Z.heap h) {x t : Addr} {cap : Nat} {cs : List Int32} (B : Sb6 Z h x t cap cs) {ch : Int32} (hch : Wc ch) (hn : cs.length + 1 ≤ 32) :
    Met l Z EL [t] (⟨"java/lang/StringBuilder", "append", "(C)Ljava/lang/StringBuilder;"⟩ : MethodName) jdk_67_method_14_code 2 (some (.object SB)) { frames := 7, cells := 2, slots := 256, locals := 114 } #[.ref x, .int ch] h (RetF fun v h' FF => ∃ t' cap', FF = [t'] ∧ v = .ref x ∧ (t' = t ∨ h.size ≤ t') ∧ Keep h h' [x, t] ∧ Sb6 Z h' x t' cap' (cs ++ [ch])) := by
  refine Met.intro pnSB hEL hO ?_
  intro p e s m below meth c T W hby hml hret hnm
  have D : ∀ {pc : Nat} {r}, decode jdk_67_method_14_code pc = r → decode c.code pc = r := fun q => hb hby q
  refine Go.cast (efBaC m x ch) ?_
  refine g_aloadN W (pc' := 1) (D baC_0) rfl rfl (by first | rfl | assumption) ?_
  refine g_iloadN W (pc' := 2) (D baC_1) rfl rfl ?_
  refine g_superF W (t_appendAC6 l hw hEL cst fst ust W.old B hch hn) (fun y q => q) (hI hw 149 rfl) (hI hw 150 rfl) (hI hw 83 rfl) (hI hw 51 rfl) (hI hw 152 rfl) (by decide) (by decide) pd_16 (⟨"java/lang/StringBuilder", ⟨"java/lang/AbstractStringBuilder", "getValue", "()[B"⟩, rfl, (hI hw 74 rfl)⟩) (Ins.self B.2.2.1) (argsL := [_]) rfl rfl (pc' := 5) rfl (by rw [hml]; rfl) (D baC_2) rfl (Wn := 0) (Nat.le_refl _) (by decide) (by decide) (by decide) (by decide) (fun v T h1 FF W hg hQ => ?_)
  obtain ⟨t', cap', rfl, rfl, hQ⟩ := hQ
  refine g_pop W (pc' := 6) (D baC_5) rfl rfl ?_
  refine g_aloadN W (pc' := 7) (D baC_6) rfl rfl (by first | rfl | assumption) ?_
  exact g_areturnF W (D baC_7) hret rfl rfl (by decide) (by decide) (FF := [t']) (fun z hz => List.mem_append.mpr (Or.inl hz)) ⟨_, rfl, t', cap', rfl, rfl, hQ⟩
set_option maxRecDepth 65536 in
set_option maxHeartbeats 8000000 in
theorem t_appendCx (l : Launch) {Z : State} {a0 : Array Value} {EL : List (String × Nat)} (hw : ∀ d ∈ tables_1, d.before a0 Z = true) (hEL : EW Z a0 EL) (cst : Cst Z) (fst : Fst Z) (ust : Ust Z) {h : Heap} (hO : Ext Z.heap h) {x t : Addr} {cap : Nat} {cs : List Int32} (B : Sbd Z h x t cap cs) (hL : Latin cs) (hc : cap ≤ 64) {ch : Int32} (hch : Wc ch) (hbig : (255 : Int32) < ch) (hn : cs.length + 1 ≤ 32) :
    Met l Z EL [t] (⟨"java/lang/StringBuilder", "append", "(C)Ljava/lang/StringBuilder;"⟩ : MethodName) jdk_67_method_14_code 2 (some (.object SB)) { frames := 7, cells := 2, slots := 256, locals := 114 } #[.ref x, .int ch] h (RetF fun v h' FF => ∃ t' cap', FF = [t'] ∧ v = .ref x ∧ (t' = t ∨ h.size ≤ t') ∧ Keep h h' [x, t] ∧ Sb6 Z h' x t' cap' (cs ++ [ch])) := by
  refine Met.intro pnSB hEL hO ?_
  intro p e s m below meth c T W hby hml hret hnm
  have D : ∀ {pc : Nat} {r}, decode jdk_67_method_14_code pc = r → decode c.code pc = r := fun q => hb hby q
  refine Go.cast (efBaC m x ch) ?_
  refine g_aloadN W (pc' := 1) (D baC_0) rfl rfl (by first | rfl | assumption) ?_
  refine g_iloadN W (pc' := 2) (D baC_1) rfl rfl ?_
  refine g_superF W (t_appendACx l hw hEL cst fst ust W.old B hL hc hch hbig hn) (fun y q => q) (hI hw 149 rfl) (hI hw 150 rfl) (hI hw 83 rfl) (hI hw 51 rfl) (hI hw 152 rfl) (by decide) (by decide) pd_16 (⟨"java/lang/StringBuilder", ⟨"java/lang/AbstractStringBuilder", "getValue", "()[B"⟩, rfl, (hI hw 74 rfl)⟩) (Ins.self B.2.2.1) (argsL := [_]) rfl rfl (pc' := 5) rfl (by rw [hml]; rfl) (D baC_2) rfl (Wn := 0) (Nat.le_refl _) (by decide) (by decide) (by decide) (by decide) (fun v T h1 FF W hg hQ => ?_)
  obtain ⟨t', cap', rfl, rfl, hQ⟩ := hQ
  refine g_pop W (pc' := 6) (D baC_5) rfl rfl ?_
  refine g_aloadN W (pc' := 7) (D baC_6) rfl rfl (by first | rfl | assumption) ?_
  exact g_areturnF W (D baC_7) hret rfl rfl (by decide) (by decide) (FF := [t']) (fun z hz => List.mem_append.mpr (Or.inl hz)) ⟨_, rfl, t', cap', rfl, rfl, hQ⟩
set_option maxRecDepth 65536 in
set_option maxHeartbeats 8000000 in
theorem t_strA6 (l : Launch) {Z : State} {a0 : Array Value} {EL : List (String × Nat)} (hw : ∀ d ∈ tables_1, d.before a0 Z = true) (hEL : EW Z a0 EL) (cst : Cst Z) (fst : Fst Z) (ust : Ust Z) {h : Heap} (hO : Ext Z.heap h) {y : Addr} (S : NewS Z [y] h y) {x t : Addr} {cap : Nat} {cs : List Int32} (B : Sb6 Z h x t cap cs) (hl : cs.length ≤ 32) :
    Met l Z EL [y] (⟨"java/lang/String", "<init>", "(Ljava/lang/AbstractStringBuilder;Ljava/lang/Void;)V"⟩ : MethodName) jdk_42_method_150_code 5 none { frames := 3, cells := 1, slots := 64, locals := 50 } #[.ref y, .ref x, .null] h (Void fun h' => Keep h h' [y] ∧ Str16 Z h' y cs) := by
  have wi : (Jvm.Cond.instantiable "java/lang/String" 4).before a0 Z = true := (hI hw 5 rfl)
  have sn : Jvm.RoadKit.slotOf Z "java/lang/String" "value" "[B" ≠ Jvm.RoadKit.slotOf Z "java/lang/String" "coder" "B" := slot_ne (C := "java/lang/String") (Or.inr (hI hw 20 rfl)) (Or.inr (hI hw 21 rfl)) (by decide) (t := .array .byte) (t' := .byte) (by decide) (by decide)
  refine Met.intro pnS hEL hO ?_
  intro p e s m below meth c T W hby hml hret hnm
  have D : ∀ {pc : Nat} {r}, decode jdk_42_method_150_code pc = r → decode c.code pc = r := fun q => hb hby q
  refine Go.cast (efSv m y x) ?_
  obtain ⟨hy0, hyF, EY, ⟨v0, fv⟩, ⟨u0, fc⟩⟩ := S
  obtain ⟨zc, Sc, hzc⟩ := id cst
  refine g_aloadN W (pc' := 1) (D sv_0) rfl rfl (by first | rfl | assumption) ?_
  refine g_initO W (pc' := 4) (hI hw 15 rfl) (hI hw 16 rfl) (hI hw 17 rfl) (by rw [hml]; rfl) (D sv_1) rfl (by decide) (Wn := 0) (Nat.le_refl _) (by decide) (fun T W => ?_)
  refine g_aloadN W (pc' := 5) (D sv_4) rfl rfl (by first | rfl | assumption) ?_
  refine g_virt W (t_getValue6 l hw hEL cst fst ust W.old B) (fun x q => nomatch q) ⟨_, _, rfl, (hI hw 74 rfl)⟩ (hI hw 71 rfl) (hI hw 72 rfl) (hI hw 74 rfl) (hI hw 73 rfl) (hI hw 51 rfl) (hI hw 75 rfl) (by decide) pd_19 (B.2.2.1) (argsL := []) rfl rfl (pc' := 8) rfl (by rw [hml]; rfl) (D sv_5) rfl (Wn := 0) (Nat.le_refl _) (by decide) (by decide) (by decide) (by decide) (fun v T h1 W hg hQ => ?_)
  obtain ⟨rfl, rfl⟩ := hQ
  refine g_astoreN W (pc' := 9) (D sv_8) rfl (by first | rfl | assumption) (ls' := #[_, _, _, _, _]) rfl ?_
  refine g_aloadN W (pc' := 10) (D sv_9) rfl rfl (by first | rfl | assumption) ?_
  refine g_virt (y := (⟨"java/lang/AbstractStringBuilder", "length", "()I"⟩ : MethodName)) W (t_lenB6 l hw hEL cst fst ust W.old B) (fun x q => nomatch q) ⟨"java/lang/StringBuilder", (⟨"java/lang/AbstractStringBuilder", "getValue", "()[B"⟩ : MethodName), rfl, (hI hw 74 rfl)⟩ (hI hw 76 rfl) (hI hw 77 rfl) (hI hw 79 rfl) (hI hw 80 rfl) (hI hw 32 rfl) (hI hw 81 rfl) (by decide) pd_4 (B.2.2.1) (argsL := []) rfl rfl (pc' := 13) rfl (by rw [hml]; rfl) (D sv_10) rfl (Wn := 0) (Nat.le_refl _) (by decide) (by decide) (by decide) (by decide) (fun v T h1 W hg hQ => ?_)
  obtain ⟨rfl, rfl⟩ := hQ
  refine g_istore W (pc' := 15) (D sv_13) rfl (ls' := #[_, _, _, _, _]) rfl ?_
  refine g_aloadN W (pc' := 16) (D sv_15) rfl rfl (by first | rfl | assumption) ?_
  refine g_virt W (t_isLat6 l hw hEL cst fst ust W.old B) (fun x q => nomatch q) ⟨_, _, rfl, (hI hw 90 rfl)⟩ (hI hw 87 rfl) (hI hw 88 rfl) (hI hw 90 rfl) (hI hw 89 rfl) (hI hw 51 rfl) (hI hw 91 rfl) (by decide) pd_14 (B.2.2.1) (argsL := []) rfl rfl (pc' := 19) rfl (by rw [hml]; rfl) (D sv_16) rfl (Wn := 0) (Nat.le_refl _) (by decide) (by decide) (by decide) (by decide) (fun v T h1 W hg hQ => ?_)
  obtain ⟨rfl, rfl⟩ := hQ
  refine g_ifeqY W (pc1 := 41) (pc2 := 22) (D sv_19) (by decide) (by decide) rfl (rfl) ?_
  obtain ⟨b1, b2, b3, b4, b5, b6, bx, bw, bs, b7, b8, b9, bev, bc, b10, b11⟩ := B
  refine g_getstatic W (pc' := 44) (host := "") (Or.inl (hI hw 43 rfl)) Via.refl (Sc.ext W.old) (D sv_41) rfl (fun T W => ?_)
  refine g_ifeqN W (pc1 := 79) (pc2 := 47) (D sv_44) (by decide) (by decide) rfl (hzc) ?_
  refine g_aloadN W (pc' := 48) (D sv_47) rfl rfl (by first | rfl | assumption) ?_
  refine g_getfield W (pc' := 51) (host := "") (Or.inl (hI hw 277 rfl)) Via.refl (bx.2) (D sv_48) rfl (fun T W => ?_)
  refine g_ifeqY W (pc1 := 79) (pc2 := 54) (D sv_51) (by decide) (by decide) rfl (rfl) ?_
  refine g_aloadN W (pc' := 80) (D sv_79) rfl rfl (by first | rfl | assumption) ?_
  refine g_iconst W (pc' := 81) (D sv_80) rfl (v := (1 : Int32)) (by decide) ?_
  refine g_putfield W (pc' := 84) (host := "") (Or.inl (hI hw 25 rfl)) Via.refl (fc) (EY) (Or.inr ⟨(hI hw 21 rfl), rfl, hnm⟩) (hI hw 5 rfl) (ty := .byte) (by decide) rfl rfl (⟨hy0, Or.inl hyF⟩) (D sv_81) rfl (fun T h1 W Wr1 => ?_)
  have K1 : Keep h h1 [y] := Keep.of_wr Wr1
  replace fc := fc.same Wr1
  replace fv := fv.other Wr1 (Or.inr sn)
  have A1 := b7.wr Wr1 (b7.neE EY wi)
  replace EY := EY.wr Wr1
  refine g_aloadN W (pc' := 85) (D sv_84) rfl rfl (by first | rfl | assumption) ?_
  refine g_aloadN W (pc' := 86) (D sv_85) rfl rfl (by first | rfl | assumption) ?_
  refine g_iconst W (pc' := 87) (D sv_86) rfl (v := (0 : Int32)) (by decide) ?_
  refine g_iload W (pc' := 89) (D sv_87) rfl rfl ?_
  refine g_iconst W (pc' := 90) (D sv_89) rfl (v := (1 : Int32)) (by decide) ?_
  refine g_ishl W (pc' := 91) (D sv_90) rfl ?_
  rw [shl1 (by omega)]
  refine g_callS W (t_copyR l hw hEL cst W.old A1 b8 (k := 2 * cs.length) (by omega) (by omega) (bx.1.wr Wr1)) (fun x q => nomatch q) (hI hw 92 rfl) (hI hw 93 rfl) (hI hw 94 rfl) (hI hw 95 rfl) (by decide) pd_18 (argsL := [_, _, _]) rfl rfl (pc' := 94) rfl (by rw [hml]; rfl) (D sv_91) rfl (Wn := 1) (Nat.le_refl _) (by decide) (by decide) (by decide) (by decide) (fun v T h2 W hg hQ => ?_)
  obtain ⟨b, rfl, hb, E2, A2⟩ := hQ
  replace fc := fc.ext E2
  replace fv := fv.ext E2
  replace EY := EY.ext E2
  refine g_putfield W (pc' := 97) (host := "") (Or.inl (hI hw 24 rfl)) Via.refl (fv) (EY) (Or.inr ⟨(hI hw 20 rfl), rfl, hnm⟩) (hI hw 5 rfl) (ty := (.array .byte)) (by decide) rfl rfl (⟨hy0, Or.inl hyF⟩) (D sv_94) rfl (fun T h3 W Wr2 => ?_)
  have KK : Keep h h3 [y] := (K1.ext E2).wr Wr2 (Or.inl (List.mem_singleton.mpr rfl))
  rw [b11] at A2
  exact g_return W (D sv_97) hret (by decide) (by decide) ⟨rfl, KK, EY.wr Wr2, fc.other Wr2 (Or.inr (Ne.symm sn)), ⟨b, fv.same Wr2, A2.wr Wr2 (A2.neE EY wi)⟩, bw, by omega⟩
set_option maxRecDepth 65536 in
set_option maxHeartbeats 8000000 in
theorem t_strB6 (l : Launch) {Z : State} {a0 : Array Value} {EL : List (String × Nat)} (hw : ∀ d ∈ tables_1, d.before a0 Z = true) (hEL : EW Z a0 EL) (cst : Cst Z) (fst : Fst Z) (ust : Ust Z) {h : Heap} (hO : Ext Z.heap h) {y : Addr} (S : NewS Z [y] h y) {x t : Addr} {cap : Nat} {cs : List Int32} (B : Sb6 Z h x t cap cs) (hl : cs.length ≤ 32) :
    Met l Z EL [y] (⟨"java/lang/String", "<init>", "(Ljava/lang/StringBuilder;)V"⟩ : MethodName) jdk_42_method_53_code 2 none { frames := 4, cells := 1, slots := 64, locals := 66 } #[.ref y, .ref x] h (Void fun h' => Keep h h' [y] ∧ Str16 Z h' y cs) := by
  refine Met.intro pnS hEL hO ?_
  intro p e s m below meth c T W hby hml hret hnm
  have D : ∀ {pc : Nat} {r}, decode jdk_42_method_53_code pc = r → decode c.code pc = r := fun q => hb hby q
  refine Go.cast (efSw m y x) ?_
  refine g_aloadN W (pc' := 1) (D sw_0) rfl rfl (by first | rfl | assumption) ?_
  refine g_aloadN W (pc' := 2) (D sw_1) rfl rfl (by first | rfl | assumption) ?_
  refine g_aconst_null W (pc' := 3) (D sw_2) rfl ?_
  refine g_spec W (t_strA6 l hw hEL cst fst ust W.old S B hl) (fun z q => q) rfl (hI hw 68 rfl) (hI hw 69 rfl) (hI hw 6 rfl) (hI hw 70 rfl) (by decide) pd_20 (argsL := [_, _]) rfl rfl (pc' := 6) rfl (by rw [hml]; rfl) (D sw_3) rfl (Wn := 0) (Nat.le_refl _) (by decide) (by decide) (by decide) (by decide) (fun T h1 W hg hQ => ?_)
  exact g_return W (D sw_6) hret (by decide) (by decide) ⟨rfl, hQ⟩
set_option maxRecDepth 65536 in
set_option maxHeartbeats 8000000 in
theorem t_toStr6 (l : Launch) {Z : State} {a0 : Array Value} {EL : List (String × Nat)} (hw : ∀ d ∈ tables_1, d.before a0 Z = true) (hEL : EW Z a0 EL) (cst : Cst Z) (fst : Fst Z) (ust : Ust Z) {h : Heap} (hO : Ext Z.heap h) {x t : Addr} {cap : Nat} {cs : List Int32} (B : Sb6 Z h x t cap cs) (hl : cs.length ≤ 32) :
    Met l Z EL [] (⟨"java/lang/StringBuilder", "toString", "()Ljava/lang/String;"⟩ : MethodName) jdk_67_method_42_code 1 (some (.object "java/lang/String")) { frames := 5, cells := 2, slots := 68, locals := 80 } #[.ref x] h (Ret fun v h' => ∃ y, v = .ref y ∧ Ext h h' ∧ Str16 Z h' y cs) := by
  refine Met.intro pnSB hEL hO ?_
  intro p e s m below meth c T W hby hml hret hnm
  have D : ∀ {pc : Nat} {r}, decode jdk_67_method_42_code pc = r → decode c.code pc = r := fun q => hb hby q
  refine Go.cast (efTs m x) ?_
  have wi : (Jvm.Cond.instantiable "java/lang/String" 4).before a0 Z = true := (hI hw 5 rfl)
  refine g_newS W (pc' := 3) (hI hw 64 rfl) wi (hI hw 6 rfl) (hI hw 20 rfl) (hI hw 21 rfl) (D ts_0) rfl (by decide) (by decide) (fun y T h1 hy W E1 N => ?_)
  refine g_dup W (pc' := 4) (D ts_3) rfl rfl ?_
  refine g_aloadN W (pc' := 5) (D ts_4) rfl rfl (by first | rfl | assumption) ?_
  refine g_spec W (t_strB6 l hw hEL cst fst ust W.old N (B.ext E1) hl) (fun z q => q) rfl (hI hw 65 rfl) (hI hw 66 rfl) (hI hw 6 rfl) (hI hw 67 rfl) (by decide) pd_21 (argsL := [_]) rfl rfl (pc' := 8) rfl (by rw [hml]; rfl) (D ts_5) rfl (Wn := 1) (Nat.le_refl _) (by decide) (by decide) (by decide) (by decide) (fun T h2 W hg hQ => ?_)
  obtain ⟨K2, S⟩ := hQ
  exact g_areturn W (D ts_8) hret rfl rfl (by decide) (by decide) ⟨_, rfl, y, rfl, keep_ext ((ext_keep E1 []).trans K2 (own_new hy)), S⟩
abbrev LW : String := "com/example/tallyman/tallyman/HtmlTextPinLaw"
abbrev HT : String := "com/example/tallyman/tallyman/Html"
theorem pnLW : plainName "com/example/tallyman/tallyman/HtmlTextPinLaw" = true := by first | (simp [plainName, overriddenIn]; done) | decide +kernel
theorem pnHT : plainName "com/example/tallyman/tallyman/Html" = true := by first | (simp [plainName, overriddenIn]; done) | decide +kernel
/-- a char as Html.text lays it -/
def escS (c : Int32) : List Int32 := if c = 38 then [38, 97, 109, 112, 59] else if c = 60 then [38, 108, 116, 59] else if c = 62 then [38, 103, 116, 59] else if c = 34 then [38, 113, 117, 111, 116, 59] else if c = 39 then [38, 35, 51, 57, 59] else [c]
theorem escS_len (c : Int32) : 1 ≤ (escS c).length ∧ (escS c).length ≤ 6 := by
  unfold escS
  (repeat' split) <;> simp
theorem escS_latin {c : Int32} (hc : Lc c) : Latin (escS c) := by
  unfold escS
  split; · unfold Latin; decide
  split; · unfold Latin; decide
  split; · unfold Latin; decide
  split; · unfold Latin; decide
  split; · unfold Latin; decide
  exact Latin.con hc Latin.nil
def escT (cs : List Int32) : List Int32 := cs.flatMap escS
theorem escT_cons (c : Int32) (cs : List Int32) : escT (c :: cs) = escS c ++ escT cs := rfl
theorem escT_len (cs : List Int32) : (escT cs).length ≤ 6 * cs.length := by
  induction cs with
  | nil => simp [escT]
  | cons c cs ih => rw [escT_cons, List.length_append, List.length_cons]; have := (escS_len c).2; omega
theorem escT_latin {cs : List Int32} (h : Latin cs) : Latin (escT cs) := fun z hz => by
  obtain ⟨c, hc, hz⟩ := List.mem_flatMap.mp hz
  exact escS_latin (h c hc) z hz
theorem Latin.app {a b : List Int32} (ha : Latin a) (hb : Latin b) : Latin (a ++ b) := fun z hz => (List.mem_append.mp hz).elim (ha z) (hb z)
theorem drop_getD {cs : List Int32} {i : Nat} (h : i < cs.length) : cs.drop i = cs.getD i 0 :: cs.drop (i + 1) := by
  rw [List.drop_eq_getElem_cons h]; simp [h]
theorem int_ne {c : Int32} {n : Int} (k : Int32) (hk : k.toInt = n) (h : ¬ c = k) : ¬ n = c.toInt := fun e => h (Int32.toInt_inj.mp (by rw [hk]; exact e.symm))
/-- a builder of either coder -/
def Bg (Z : State) (g : Heap) (b t : Addr) (out : List Int32) : Prop := (∃ cap, cap ≤ 64 ∧ Sbd Z g b t cap out ∧ Latin out) ∨ ∃ cap, Sb6 Z g b t cap out
theorem tx_0 : decode prog_10_method_4_code 0 = .ok (.new 26, 3) := by decide +kernel
theorem tx_3 : decode prog_10_method_4_code 3 = .ok (.dup, 1) := by decide +kernel
theorem tx_4 : decode prog_10_method_4_code 4 = .ok (.aload_n 0, 1) := by decide +kernel
theorem tx_5 : decode prog_10_method_4_code 5 = .ok (.invokevirtual 28, 3) := by decide +kernel
theorem tx_8 : decode prog_10_method_4_code 8 = .ok (.invokespecial 34, 3) := by decide +kernel
theorem tx_11 : decode prog_10_method_4_code 11 = .ok (.astore_n 1, 1) := by decide +kernel
theorem tx_12 : decode prog_10_method_4_code 12 = .ok (.iconst 0, 1) := by decide +kernel
theorem tx_13 : decode prog_10_method_4_code 13 = .ok (.istore_n 2, 1) := by decide +kernel
theorem tx_14 : decode prog_10_method_4_code 14 = .ok (.iload_n 2, 1) := by decide +kernel
theorem tx_15 : decode prog_10_method_4_code 15 = .ok (.aload_n 0, 1) := by decide +kernel
theorem tx_16 : decode prog_10_method_4_code 16 = .ok (.invokevirtual 28, 3) := by decide +kernel
theorem tx_19 : decode prog_10_method_4_code 19 = .ok (.if_icmp .ge 123, 3) := by decide +kernel
theorem tx_22 : decode prog_10_method_4_code 22 = .ok (.aload_n 0, 1) := by decide +kernel
theorem tx_23 : decode prog_10_method_4_code 23 = .ok (.iload_n 2, 1) := by decide +kernel
theorem tx_24 : decode prog_10_method_4_code 24 = .ok (.invokevirtual 37, 3) := by decide +kernel
theorem tx_27 : decode prog_10_method_4_code 27 = .ok (.istore_n 3, 1) := by decide +kernel
theorem tx_28 : decode prog_10_method_4_code 28 = .ok (.iload_n 3, 1) := by decide +kernel
theorem tx_29 : decode prog_10_method_4_code 29 = .ok (.lookupswitch 101 #[(34, 81), (38, 51), (39, 91), (60, 61), (62, 71)], 51) := by decide +kernel
theorem tx_80 : decode prog_10_method_4_code 80 = .ok (.aload_n 1, 1) := by decide +kernel
theorem tx_81 : decode prog_10_method_4_code 81 = .ok (.ldc 41, 2) := by decide +kernel
theorem tx_83 : decode prog_10_method_4_code 83 = .ok (.invokevirtual 43, 3) := by decide +kernel
theorem tx_86 : decode prog_10_method_4_code 86 = .ok (.pop, 1) := by decide +kernel
theorem tx_87 : decode prog_10_method_4_code 87 = .ok (.goto 49, 3) := by decide +kernel
theorem tx_90 : decode prog_10_method_4_code 90 = .ok (.aload_n 1, 1) := by decide +kernel
theorem tx_91 : decode prog_10_method_4_code 91 = .ok (.ldc 47, 2) := by decide +kernel
theorem tx_93 : decode prog_10_method_4_code 93 = .ok (.invokevirtual 43, 3) := by decide +kernel
theorem tx_96 : decode prog_10_method_4_code 96 = .ok (.pop, 1) := by decide +kernel
theorem tx_97 : decode prog_10_method_4_code 97 = .ok (.goto 39, 3) := by decide +kernel
theorem tx_100 : decode prog_10_method_4_code 100 = .ok (.aload_n 1, 1) := by decide +kernel
theorem tx_101 : decode prog_10_method_4_code 101 = .ok (.ldc 49, 2) := by decide +kernel
theorem tx_103 : decode prog_10_method_4_code 103 = .ok (.invokevirtual 43, 3) := by decide +kernel
theorem tx_106 : decode prog_10_method_4_code 106 = .ok (.pop, 1) := by decide +kernel
theorem tx_107 : decode prog_10_method_4_code 107 = .ok (.goto 29, 3) := by decide +kernel
theorem tx_110 : decode prog_10_method_4_code 110 = .ok (.aload_n 1, 1) := by decide +kernel
theorem tx_111 : decode prog_10_method_4_code 111 = .ok (.ldc 51, 2) := by decide +kernel
theorem tx_113 : decode prog_10_method_4_code 113 = .ok (.invokevirtual 43, 3) := by decide +kernel
theorem tx_116 : decode prog_10_method_4_code 116 = .ok (.pop, 1) := by decide +kernel
theorem tx_117 : decode prog_10_method_4_code 117 = .ok (.goto 19, 3) := by decide +kernel
theorem tx_120 : decode prog_10_method_4_code 120 = .ok (.aload_n 1, 1) := by decide +kernel
theorem tx_121 : decode prog_10_method_4_code 121 = .ok (.ldc 53, 2) := by decide +kernel
theorem tx_123 : decode prog_10_method_4_code 123 = .ok (.invokevirtual 43, 3) := by decide +kernel
theorem tx_126 : decode prog_10_method_4_code 126 = .ok (.pop, 1) := by decide +kernel
theorem tx_127 : decode prog_10_method_4_code 127 = .ok (.goto 9, 3) := by decide +kernel
theorem tx_130 : decode prog_10_method_4_code 130 = .ok (.aload_n 1, 1) := by decide +kernel
theorem tx_131 : decode prog_10_method_4_code 131 = .ok (.iload_n 3, 1) := by decide +kernel
theorem tx_132 : decode prog_10_method_4_code 132 = .ok (.invokevirtual 55, 3) := by decide +kernel
theorem tx_135 : decode prog_10_method_4_code 135 = .ok (.pop, 1) := by decide +kernel
theorem tx_136 : decode prog_10_method_4_code 136 = .ok (.iinc 2 1, 3) := by decide +kernel
theorem tx_139 : decode prog_10_method_4_code 139 = .ok (.goto (-125), 3) := by decide +kernel
theorem tx_142 : decode prog_10_method_4_code 142 = .ok (.aload_n 1, 1) := by decide +kernel
theorem tx_143 : decode prog_10_method_4_code 143 = .ok (.invokevirtual 58, 3) := by decide +kernel
theorem tx_146 : decode prog_10_method_4_code 146 = .ok (.areturn, 1) := by decide +kernel
theorem efTx (m : MethodId) (x0 : Addr) : entryFrame m #[.ref x0] 4 = mkF m 0 #[.val (.ref x0), .unset, .unset, .unset] [] := by first | (simp [entryFrame, mkF, argsToLocals, Value.category, maxLocals]; done) | rfl
set_option maxRecDepth 65536 in
set_option maxHeartbeats 80000000 in
theorem t_text (l : Launch) {Z : State} {a0 : Array Value} (hw : ∀ d ∈ tables_1, d.before a0 Z = true) (hEL : EW Z a0 consts_1) (cst : Cst Z) (fst : Fst Z) (ust : Ust Z) {h : Heap} (hO : Ext Z.heap h) {y : Addr} {cs : List Int32} (S : StrG Z h y cs) (h3 : cs.length ≤ 3) :
    Met l Z consts_1 [] (⟨HT, "text", "(Ljava/lang/String;)Ljava/lang/String;"⟩ : MethodName) prog_10_method_4_code 4 (some (.object "java/lang/String")) { frames := 9, cells := 13, slots := 868, locals := 134 } #[.ref y] h (Ret fun v h' => ∃ r, v = .ref r ∧ Ext h h' ∧ StrG Z h' r (escT cs)) := by
  have wS := own_wS hw
  refine Met.intro pnHT hEL hO ?_
  intro p e s m below meth c T W hby hml hret hnm
  have D : ∀ {pc : Nat} {r}, decode prog_10_method_4_code pc = r → decode c.code pc = r := fun q => hb hby q
  refine Go.cast (efTx m y) ?_
  have hz0 := W.old.1
  have hWd := S.wide
  refine g_new W (pc' := 3) (hI hw 30 rfl) (hI hw 31 rfl) (hI hw 32 rfl) (D tx_0) rfl (by decide) (by decide) (fun b T g1 hb W E1 B3 => ?_)
  have hbz : Z.heap.size ≤ b := Nat.le_trans hz0 hb
  have v0 := B3.2 (O := AB) (nm := "value") (d := "[B") (Or.inl (hI hw 56 rfl)) (ty := .array .byte) (by decide)
  have v1 := B3.2 (O := AB) (nm := "coder") (d := "B") (Or.inl (hI hw 58 rfl)) (ty := .byte) (by decide)
  have v2 := B3.2 (O := AB) (nm := "count") (d := "I") (Or.inl (hI hw 86 rfl)) (ty := .int) (by decide)
  have v3 := B3.2 (O := AB) (nm := "maybeLatin1") (d := "Z") (Or.inl (hI hw 278 rfl)) (ty := .boolean) (by decide)
  have J3 : ∀ (sl : Slot) (hsl : sl = .unset ∨ ∃ v, sl = .val (.int v)) (T : State) (g : Heap) (t : Addr) (out : List Int32), Ext h g → h.size ≤ t → Bg Z g b t out → out ++ escT (cs.drop 3) = escT cs → out.length ≤ 18 → 3 ≤ cs.length → Wd p l e { frames := 9, cells := 13, slots := 868, locals := 134 } s m #[.ref y] below meth c Z a0 consts_1 HT [t] T g 11 800 → Go p e below (Endp Z consts_1 s (Ret fun v h' => ∃ r, v = .ref r ∧ Ext h h' ∧ StrG Z h' r (escT cs)) 13 868) T (mkF m 14 #[.val (.ref y), .val (.ref b), .val (.int 3), sl] []) := by
    intro sl hsl T g t out E0 ht B hout hlen hi W
    refine g_iloadN W (pc' := 15) (D tx_14) rfl rfl ?_
    refine g_aloadN W (pc' := 16) (D tx_15) rfl rfl (by first | rfl | assumption) ?_
    refine g_virt W (t_lenG l hw hEL cst fst ust W.old (S.ext E0)) (fun x q => nomatch q) ⟨_, _, rfl, (hI hw 36 rfl)⟩ (hI hw 33 rfl) (hI hw 34 rfl) (hI hw 36 rfl) (hI hw 35 rfl) (hI hw 6 rfl) (hI hw 37 rfl) (by decide) pd_4 ((S.ext E0).exa) (argsL := []) rfl rfl (pc' := 19) rfl (by rw [hml]; rfl) (D tx_16) rfl (Wn := 1) (Nat.le_refl _) (by decide) (by decide) (by decide) (by decide) (fun v T g0 W hg hQ => ?_)
    obtain ⟨rfl, rfl⟩ := hQ
    obtain hl3 : cs.length = 3 := by omega
    refine g_icmpgeY W (pc1 := 142) (pc2 := 22) (D tx_19) (by decide) (by decide) rfl ((by rw [hl3]; decide)) ?_
    refine g_aloadN W (pc' := 143) (D tx_142) rfl rfl (by first | rfl | assumption) ?_
    have eo : out = escT cs := by rw [← hout, List.drop_eq_nil_of_le (by omega)]; simp [escT]
    subst eo
    rcases B with ⟨cap, hcap, B, hLo⟩ | ⟨cap, B⟩
    · refine g_virt W (t_toStr l hw hEL cst W.old B (by omega) hLo) (fun x q => nomatch q) ⟨_, _, rfl, (hI hw 62 rfl)⟩ (hI hw 59 rfl) (hI hw 60 rfl) (hI hw 62 rfl) (hI hw 61 rfl) (hI hw 32 rfl) (hI hw 63 rfl) (by decide) pd_35 (B.2.2.1) (argsL := []) rfl rfl (pc' := 146) rfl (by rw [hml]; rfl) (D tx_143) rfl (Wn := 0) (Nat.le_refl _) (by decide) (by decide) (by decide) (by decide) (fun v T g2 W hg hQ => ?_)
      obtain ⟨r, rfl, E2, SR⟩ := hQ
      exact g_areturn W (D tx_146) hret rfl rfl (by decide) (by decide) ⟨_, rfl, r, rfl, ext_trans E0 E2, Or.inl SR⟩
    · refine g_virt W (t_toStr6 l hw hEL cst fst ust W.old B (by omega)) (fun x q => nomatch q) ⟨_, _, rfl, (hI hw 62 rfl)⟩ (hI hw 59 rfl) (hI hw 60 rfl) (hI hw 62 rfl) (hI hw 61 rfl) (hI hw 32 rfl) (hI hw 63 rfl) (by decide) pd_35 (B.2.2.1) (argsL := []) rfl rfl (pc' := 146) rfl (by rw [hml]; rfl) (D tx_143) rfl (Wn := 0) (Nat.le_refl _) (by decide) (by decide) (by decide) (by decide) (fun v T g2 W hg hQ => ?_)
      obtain ⟨r, rfl, E2, SR⟩ := hQ
      exact g_areturn W (D tx_146) hret rfl rfl (by decide) (by decide) ⟨_, rfl, r, rfl, ext_trans E0 E2, Or.inr SR⟩
  have J2 : ∀ (sl : Slot) (hsl : sl = .unset ∨ ∃ v, sl = .val (.int v)) (T : State) (g : Heap) (t : Addr) (out : List Int32), Ext h g → h.size ≤ t → Bg Z g b t out → out ++ escT (cs.drop 2) = escT cs → out.length ≤ 12 → 2 ≤ cs.length → Wd p l e { frames := 9, cells := 13, slots := 868, locals := 134 } s m #[.ref y] below meth c Z a0 consts_1 HT [t] T g 8 540 → Go p e below (Endp Z consts_1 s (Ret fun v h' => ∃ r, v = .ref r ∧ Ext h h' ∧ StrG Z h' r (escT cs)) 13 868) T (mkF m 14 #[.val (.ref y), .val (.ref b), .val (.int 2), sl] []) := by
    intro sl hsl T g t out E0 ht B hout hlen hi W
    refine g_iloadN W (pc' := 15) (D tx_14) rfl rfl ?_
    refine g_aloadN W (pc' := 16) (D tx_15) rfl rfl (by first | rfl | assumption) ?_
    refine g_virt W (t_lenG l hw hEL cst fst ust W.old (S.ext E0)) (fun x q => nomatch q) ⟨_, _, rfl, (hI hw 36 rfl)⟩ (hI hw 33 rfl) (hI hw 34 rfl) (hI hw 36 rfl) (hI hw 35 rfl) (hI hw 6 rfl) (hI hw 37 rfl) (by decide) pd_4 ((S.ext E0).exa) (argsL := []) rfl rfl (pc' := 19) rfl (by rw [hml]; rfl) (D tx_16) rfl (Wn := 1) (Nat.le_refl _) (by decide) (by decide) (by decide) (by decide) (fun v T g0 W hg hQ => ?_)
    obtain ⟨rfl, rfl⟩ := hQ
    rcases Nat.lt_or_ge 2 cs.length with hk | hk
    rotate_left
    · refine g_icmpgeY W (pc1 := 142) (pc2 := 22) (D tx_19) (by decide) (by decide) rfl ((by have := min_lt (n := cs.length) (m := 2) hk (by decide); simpa using this)) ?_
      refine g_aloadN W (pc' := 143) (D tx_142) rfl rfl (by first | rfl | assumption) ?_
      have eo : out = escT cs := by rw [← hout, List.drop_eq_nil_of_le (by omega)]; simp [escT]
      subst eo
      rcases B with ⟨cap, hcap, B, hLo⟩ | ⟨cap, B⟩
      · refine g_virt W (t_toStr l hw hEL cst W.old B (by omega) hLo) (fun x q => nomatch q) ⟨_, _, rfl, (hI hw 62 rfl)⟩ (hI hw 59 rfl) (hI hw 60 rfl) (hI hw 62 rfl) (hI hw 61 rfl) (hI hw 32 rfl) (hI hw 63 rfl) (by decide) pd_35 (B.2.2.1) (argsL := []) rfl rfl (pc' := 146) rfl (by rw [hml]; rfl) (D tx_143) rfl (Wn := 0) (Nat.le_refl _) (by decide) (by decide) (by decide) (by decide) (fun v T g2 W hg hQ => ?_)
        obtain ⟨r, rfl, E2, SR⟩ := hQ
        exact g_areturn W (D tx_146) hret rfl rfl (by decide) (by decide) ⟨_, rfl, r, rfl, ext_trans E0 E2, Or.inl SR⟩
      · refine g_virt W (t_toStr6 l hw hEL cst fst ust W.old B (by omega)) (fun x q => nomatch q) ⟨_, _, rfl, (hI hw 62 rfl)⟩ (hI hw 59 rfl) (hI hw 60 rfl) (hI hw 62 rfl) (hI hw 61 rfl) (hI hw 32 rfl) (hI hw 63 rfl) (by decide) pd_35 (B.2.2.1) (argsL := []) rfl rfl (pc' := 146) rfl (by rw [hml]; rfl) (D tx_143) rfl (Wn := 0) (Nat.le_refl _) (by decide) (by decide) (by decide) (by decide) (fun v T g2 W hg hQ => ?_)
        obtain ⟨r, rfl, E2, SR⟩ := hQ
        exact g_areturn W (D tx_146) hret rfl rfl (by decide) (by decide) ⟨_, rfl, r, rfl, ext_trans E0 E2, Or.inr SR⟩
    · refine g_icmpgeN W (pc1 := 142) (pc2 := 22) (D tx_19) (by decide) (by decide) rfl ((by rw [Int32.lt_iff_toInt_lt, Int32.toInt_ofNat_small (by omega)]; have e0 : (2 : Int32).toInt = 2 := rfl; omega)) ?_
      refine g_aloadN W (pc' := 23) (D tx_22) rfl rfl (by first | rfl | assumption) ?_
      refine g_iloadN W (pc' := 24) (D tx_23) rfl rfl ?_
      refine g_virt W (t_charAtG l hw hEL cst fst ust W.old (S.ext E0) (i := 2) hk) (fun x q => nomatch q) ⟨_, _, rfl, (hI hw 125 rfl)⟩ (hI hw 122 rfl) (hI hw 123 rfl) (hI hw 125 rfl) (hI hw 124 rfl) (hI hw 6 rfl) (hI hw 126 rfl) (by decide) pd_36 ((S.ext E0).exa) (argsL := [_]) rfl rfl (pc' := 27) rfl (by rw [hml]; rfl) (D tx_24) rfl (Wn := 0) (Nat.le_refl _) (by decide) (by decide) (by decide) (by decide) (fun v T g0 W hg hQ => ?_)
      obtain ⟨rfl, rfl⟩ := hQ
      have hd := drop_getD hk
      have hLc := wide_get hWd 2
      generalize cs.getD 2 0 = ch at hd hLc ⊢
      rw [hd, escT_cons] at hout
      refine g_istoreN W (pc' := 28) (D tx_27) rfl (ls' := #[_, _, _, .val (.int ch)]) (by rcases hsl with rfl | ⟨v, rfl⟩ <;> rfl) ?_
      refine g_iloadN W (pc' := 29) (D tx_28) rfl rfl ?_
      by_cases q38 : ch = 38
      · subst q38
        refine g_lookHit W (pc' := 80) (D tx_29) (by decide) (a := 38) (off := 51) (by decide) (by decide) (by decide) ?_
        refine g_aloadN W (pc' := 81) (D tx_80) rfl rfl (by first | rfl | assumption) ?_
        refine g_ldcU W (pc' := 83) (text := "&amp;") (cs := [38, 97, 109, 112, 59]) (hI hw 290 rfl) wS (by decide) (by decide +kernel) (by unfold Latin; decide) (by decide) (nn := 20) (by decide) (by decide) (D tx_81) rfl (by decide) (by decide) (fun sl2 T g2 W E2 SL hU => ?_)
        obtain ⟨u, fu, Au, hne⟩ := hU
        have hut : u ≠ t := (hne t (List.mem_singleton.mpr rfl)).symm
        have E9 := ext_trans E0 E2
        rcases B with ⟨cap, hcap, B, hLo⟩ | ⟨cap, B⟩
        · refine g_virtF W (t_append l hw hEL cst W.old (B.ext E2) SL hcap (by simp only [List.length_cons, List.length_nil]; omega)) (fun y q => q) ⟨_, _, rfl, (hI hw 166 rfl)⟩ (hI hw 163 rfl) (hI hw 164 rfl) (hI hw 166 rfl) (hI hw 165 rfl) (hI hw 32 rfl) (hI hw 167 rfl) (by decide) pd_37 ((B.ext E2).2.2.1) (argsL := [_]) rfl rfl (pc' := 86) rfl (by rw [hml]; rfl) (D tx_83) rfl (Wn := 0) (Nat.le_refl _) (by decide) (by decide) (by decide) (by decide) (fun v T g3 FF W hg hQ => ?_)
          obtain ⟨t', cap', rfl, rfl, ht', hc', K2, B2⟩ := hQ
          replace W := W.drop (F' := [t']) (fun z hz => List.mem_append.mpr (Or.inl hz))
          refine g_pop W (pc' := 87) (D tx_86) rfl rfl ?_
          refine g_goto W (pc' := 136) (D tx_87) (by decide) (by decide) ?_
          refine g_iinc W (pc' := 139) (D tx_136) rfl rfl (ls' := #[_, _, _, _]) rfl ?_
          refine g_goto W (pc' := 14) (D tx_139) (by decide) (by decide) ?_
          refine J3 _ (Or.inr ⟨_, rfl⟩) _ _ t' _ (keep_ext ((ext_keep E9 []).trans K2 (fun z hz => Or.inr (by rcases List.mem_cons.mp hz with rfl | hz; exact hb; cases List.mem_singleton.mp hz; exact ht)))) (by rcases ht' with rfl | r; exact ht; exact Nat.le_trans E9.1 r) (Or.inl ⟨cap', hc', B2, hLo.app SL.2.2.2.1⟩) ?_ ?_ hk (W.more (by decide) (by decide))
          · rw [List.append_assoc, ← hout, show escS 38 = [38, 97, 109, 112, 59] from rfl]
          · simp only [List.length_append, List.length_cons, List.length_nil]; omega
        · refine g_virtF W (t_append6 l hw hEL cst fst ust W.old (B.ext E2) SL fu Au hut (by simp only [List.length_cons, List.length_nil]; omega)) (fun y q => q) ⟨_, _, rfl, (hI hw 166 rfl)⟩ (hI hw 163 rfl) (hI hw 164 rfl) (hI hw 166 rfl) (hI hw 165 rfl) (hI hw 32 rfl) (hI hw 167 rfl) (by decide) pd_37 ((B.ext E2).2.2.1) (argsL := [_]) rfl rfl (pc' := 86) rfl (by rw [hml]; rfl) (D tx_83) rfl (Wn := 0) (Nat.le_refl _) (by decide) (by decide) (by decide) (by decide) (fun v T g3 FF W hg hQ => ?_)
          obtain ⟨t', cap', rfl, rfl, ht', K2, B2⟩ := hQ
          replace W := W.drop (F' := [t']) (fun z hz => List.mem_append.mpr (Or.inl hz))
          refine g_pop W (pc' := 87) (D tx_86) rfl rfl ?_
          refine g_goto W (pc' := 136) (D tx_87) (by decide) (by decide) ?_
          refine g_iinc W (pc' := 139) (D tx_136) rfl rfl (ls' := #[_, _, _, _]) rfl ?_
          refine g_goto W (pc' := 14) (D tx_139) (by decide) (by decide) ?_
          refine J3 _ (Or.inr ⟨_, rfl⟩) _ _ t' _ (keep_ext ((ext_keep E9 []).trans K2 (fun z hz => Or.inr (by rcases List.mem_cons.mp hz with rfl | hz; exact hb; cases List.mem_singleton.mp hz; exact ht)))) (by rcases ht' with rfl | r; exact ht; exact Nat.le_trans E9.1 r) (Or.inr ⟨cap', B2⟩) ?_ ?_ hk (W.more (by decide) (by decide))
          · rw [List.append_assoc, ← hout, show escS 38 = [38, 97, 109, 112, 59] from rfl]
          · simp only [List.length_append, List.length_cons, List.length_nil]; omega
      by_cases q60 : ch = 60
      · subst q60
        refine g_lookHit W (pc' := 90) (D tx_29) (by decide) (a := 60) (off := 61) (by decide) (by decide) (by decide) ?_
        refine g_aloadN W (pc' := 91) (D tx_90) rfl rfl (by first | rfl | assumption) ?_
        refine g_ldcU W (pc' := 93) (text := "&lt;") (cs := [38, 108, 116, 59]) (hI hw 162 rfl) wS (by decide) (by decide +kernel) (by unfold Latin; decide) (by decide) (nn := 16) (by decide) (by decide) (D tx_91) rfl (by decide) (by decide) (fun sl2 T g2 W E2 SL hU => ?_)
        obtain ⟨u, fu, Au, hne⟩ := hU
        have hut : u ≠ t := (hne t (List.mem_singleton.mpr rfl)).symm
        have E9 := ext_trans E0 E2
        rcases B with ⟨cap, hcap, B, hLo⟩ | ⟨cap, B⟩
        · refine g_virtF W (t_append l hw hEL cst W.old (B.ext E2) SL hcap (by simp only [List.length_cons, List.length_nil]; omega)) (fun y q => q) ⟨_, _, rfl, (hI hw 166 rfl)⟩ (hI hw 163 rfl) (hI hw 164 rfl) (hI hw 166 rfl) (hI hw 165 rfl) (hI hw 32 rfl) (hI hw 167 rfl) (by decide) pd_37 ((B.ext E2).2.2.1) (argsL := [_]) rfl rfl (pc' := 96) rfl (by rw [hml]; rfl) (D tx_93) rfl (Wn := 0) (Nat.le_refl _) (by decide) (by decide) (by decide) (by decide) (fun v T g3 FF W hg hQ => ?_)
          obtain ⟨t', cap', rfl, rfl, ht', hc', K2, B2⟩ := hQ
          replace W := W.drop (F' := [t']) (fun z hz => List.mem_append.mpr (Or.inl hz))
          refine g_pop W (pc' := 97) (D tx_96) rfl rfl ?_
          refine g_goto W (pc' := 136) (D tx_97) (by decide) (by decide) ?_
          refine g_iinc W (pc' := 139) (D tx_136) rfl rfl (ls' := #[_, _, _, _]) rfl ?_
          refine g_goto W (pc' := 14) (D tx_139) (by decide) (by decide) ?_
          refine J3 _ (Or.inr ⟨_, rfl⟩) _ _ t' _ (keep_ext ((ext_keep E9 []).trans K2 (fun z hz => Or.inr (by rcases List.mem_cons.mp hz with rfl | hz; exact hb; cases List.mem_singleton.mp hz; exact ht)))) (by rcases ht' with rfl | r; exact ht; exact Nat.le_trans E9.1 r) (Or.inl ⟨cap', hc', B2, hLo.app SL.2.2.2.1⟩) ?_ ?_ hk (W.more (by decide) (by decide))
          · rw [List.append_assoc, ← hout, show escS 60 = [38, 108, 116, 59] from rfl]
          · simp only [List.length_append, List.length_cons, List.length_nil]; omega
        · refine g_virtF W (t_append6 l hw hEL cst fst ust W.old (B.ext E2) SL fu Au hut (by simp only [List.length_cons, List.length_nil]; omega)) (fun y q => q) ⟨_, _, rfl, (hI hw 166 rfl)⟩ (hI hw 163 rfl) (hI hw 164 rfl) (hI hw 166 rfl) (hI hw 165 rfl) (hI hw 32 rfl) (hI hw 167 rfl) (by decide) pd_37 ((B.ext E2).2.2.1) (argsL := [_]) rfl rfl (pc' := 96) rfl (by rw [hml]; rfl) (D tx_93) rfl (Wn := 0) (Nat.le_refl _) (by decide) (by decide) (by decide) (by decide) (fun v T g3 FF W hg hQ => ?_)
          obtain ⟨t', cap', rfl, rfl, ht', K2, B2⟩ := hQ
          replace W := W.drop (F' := [t']) (fun z hz => List.mem_append.mpr (Or.inl hz))
          refine g_pop W (pc' := 97) (D tx_96) rfl rfl ?_
          refine g_goto W (pc' := 136) (D tx_97) (by decide) (by decide) ?_
          refine g_iinc W (pc' := 139) (D tx_136) rfl rfl (ls' := #[_, _, _, _]) rfl ?_
          refine g_goto W (pc' := 14) (D tx_139) (by decide) (by decide) ?_
          refine J3 _ (Or.inr ⟨_, rfl⟩) _ _ t' _ (keep_ext ((ext_keep E9 []).trans K2 (fun z hz => Or.inr (by rcases List.mem_cons.mp hz with rfl | hz; exact hb; cases List.mem_singleton.mp hz; exact ht)))) (by rcases ht' with rfl | r; exact ht; exact Nat.le_trans E9.1 r) (Or.inr ⟨cap', B2⟩) ?_ ?_ hk (W.more (by decide) (by decide))
          · rw [List.append_assoc, ← hout, show escS 60 = [38, 108, 116, 59] from rfl]
          · simp only [List.length_append, List.length_cons, List.length_nil]; omega
      by_cases q62 : ch = 62
      · subst q62
        refine g_lookHit W (pc' := 100) (D tx_29) (by decide) (a := 62) (off := 71) (by decide) (by decide) (by decide) ?_
        refine g_aloadN W (pc' := 101) (D tx_100) rfl rfl (by first | rfl | assumption) ?_
        refine g_ldcU W (pc' := 103) (text := "&gt;") (cs := [38, 103, 116, 59]) (hI hw 291 rfl) wS (by decide) (by decide +kernel) (by unfold Latin; decide) (by decide) (nn := 16) (by decide) (by decide) (D tx_101) rfl (by decide) (by decide) (fun sl2 T g2 W E2 SL hU => ?_)
        obtain ⟨u, fu, Au, hne⟩ := hU
        have hut : u ≠ t := (hne t (List.mem_singleton.mpr rfl)).symm
        have E9 := ext_trans E0 E2
        rcases B with ⟨cap, hcap, B, hLo⟩ | ⟨cap, B⟩
        · refine g_virtF W (t_append l hw hEL cst W.old (B.ext E2) SL hcap (by simp only [List.length_cons, List.length_nil]; omega)) (fun y q => q) ⟨_, _, rfl, (hI hw 166 rfl)⟩ (hI hw 163 rfl) (hI hw 164 rfl) (hI hw 166 rfl) (hI hw 165 rfl) (hI hw 32 rfl) (hI hw 167 rfl) (by decide) pd_37 ((B.ext E2).2.2.1) (argsL := [_]) rfl rfl (pc' := 106) rfl (by rw [hml]; rfl) (D tx_103) rfl (Wn := 0) (Nat.le_refl _) (by decide) (by decide) (by decide) (by decide) (fun v T g3 FF W hg hQ => ?_)
          obtain ⟨t', cap', rfl, rfl, ht', hc', K2, B2⟩ := hQ
          replace W := W.drop (F' := [t']) (fun z hz => List.mem_append.mpr (Or.inl hz))
          refine g_pop W (pc' := 107) (D tx_106) rfl rfl ?_
          refine g_goto W (pc' := 136) (D tx_107) (by decide) (by decide) ?_
          refine g_iinc W (pc' := 139) (D tx_136) rfl rfl (ls' := #[_, _, _, _]) rfl ?_
          refine g_goto W (pc' := 14) (D tx_139) (by decide) (by decide) ?_
          refine J3 _ (Or.inr ⟨_, rfl⟩) _ _ t' _ (keep_ext ((ext_keep E9 []).trans K2 (fun z hz => Or.inr (by rcases List.mem_cons.mp hz with rfl | hz; exact hb; cases List.mem_singleton.mp hz; exact ht)))) (by rcases ht' with rfl | r; exact ht; exact Nat.le_trans E9.1 r) (Or.inl ⟨cap', hc', B2, hLo.app SL.2.2.2.1⟩) ?_ ?_ hk (W.more (by decide) (by decide))
          · rw [List.append_assoc, ← hout, show escS 62 = [38, 103, 116, 59] from rfl]
          · simp only [List.length_append, List.length_cons, List.length_nil]; omega
        · refine g_virtF W (t_append6 l hw hEL cst fst ust W.old (B.ext E2) SL fu Au hut (by simp only [List.length_cons, List.length_nil]; omega)) (fun y q => q) ⟨_, _, rfl, (hI hw 166 rfl)⟩ (hI hw 163 rfl) (hI hw 164 rfl) (hI hw 166 rfl) (hI hw 165 rfl) (hI hw 32 rfl) (hI hw 167 rfl) (by decide) pd_37 ((B.ext E2).2.2.1) (argsL := [_]) rfl rfl (pc' := 106) rfl (by rw [hml]; rfl) (D tx_103) rfl (Wn := 0) (Nat.le_refl _) (by decide) (by decide) (by decide) (by decide) (fun v T g3 FF W hg hQ => ?_)
          obtain ⟨t', cap', rfl, rfl, ht', K2, B2⟩ := hQ
          replace W := W.drop (F' := [t']) (fun z hz => List.mem_append.mpr (Or.inl hz))
          refine g_pop W (pc' := 107) (D tx_106) rfl rfl ?_
          refine g_goto W (pc' := 136) (D tx_107) (by decide) (by decide) ?_
          refine g_iinc W (pc' := 139) (D tx_136) rfl rfl (ls' := #[_, _, _, _]) rfl ?_
          refine g_goto W (pc' := 14) (D tx_139) (by decide) (by decide) ?_
          refine J3 _ (Or.inr ⟨_, rfl⟩) _ _ t' _ (keep_ext ((ext_keep E9 []).trans K2 (fun z hz => Or.inr (by rcases List.mem_cons.mp hz with rfl | hz; exact hb; cases List.mem_singleton.mp hz; exact ht)))) (by rcases ht' with rfl | r; exact ht; exact Nat.le_trans E9.1 r) (Or.inr ⟨cap', B2⟩) ?_ ?_ hk (W.more (by decide) (by decide))
          · rw [List.append_assoc, ← hout, show escS 62 = [38, 103, 116, 59] from rfl]
          · simp only [List.length_append, List.length_cons, List.length_nil]; omega
      by_cases q34 : ch = 34
      · subst q34
        refine g_lookHit W (pc' := 110) (D tx_29) (by decide) (a := 34) (off := 81) (by decide) (by decide) (by decide) ?_
        refine g_aloadN W (pc' := 111) (D tx_110) rfl rfl (by first | rfl | assumption) ?_
        refine g_ldcU W (pc' := 113) (text := "&quot;") (cs := [38, 113, 117, 111, 116, 59]) (hI hw 215 rfl) wS (by decide) (by decide +kernel) (by unfold Latin; decide) (by decide) (nn := 24) (by decide) (by decide) (D tx_111) rfl (by decide) (by decide) (fun sl2 T g2 W E2 SL hU => ?_)
        obtain ⟨u, fu, Au, hne⟩ := hU
        have hut : u ≠ t := (hne t (List.mem_singleton.mpr rfl)).symm
        have E9 := ext_trans E0 E2
        rcases B with ⟨cap, hcap, B, hLo⟩ | ⟨cap, B⟩
        · refine g_virtF W (t_append l hw hEL cst W.old (B.ext E2) SL hcap (by simp only [List.length_cons, List.length_nil]; omega)) (fun y q => q) ⟨_, _, rfl, (hI hw 166 rfl)⟩ (hI hw 163 rfl) (hI hw 164 rfl) (hI hw 166 rfl) (hI hw 165 rfl) (hI hw 32 rfl) (hI hw 167 rfl) (by decide) pd_37 ((B.ext E2).2.2.1) (argsL := [_]) rfl rfl (pc' := 116) rfl (by rw [hml]; rfl) (D tx_113) rfl (Wn := 0) (Nat.le_refl _) (by decide) (by decide) (by decide) (by decide) (fun v T g3 FF W hg hQ => ?_)
          obtain ⟨t', cap', rfl, rfl, ht', hc', K2, B2⟩ := hQ
          replace W := W.drop (F' := [t']) (fun z hz => List.mem_append.mpr (Or.inl hz))
          refine g_pop W (pc' := 117) (D tx_116) rfl rfl ?_
          refine g_goto W (pc' := 136) (D tx_117) (by decide) (by decide) ?_
          refine g_iinc W (pc' := 139) (D tx_136) rfl rfl (ls' := #[_, _, _, _]) rfl ?_
          refine g_goto W (pc' := 14) (D tx_139) (by decide) (by decide) ?_
          refine J3 _ (Or.inr ⟨_, rfl⟩) _ _ t' _ (keep_ext ((ext_keep E9 []).trans K2 (fun z hz => Or.inr (by rcases List.mem_cons.mp hz with rfl | hz; exact hb; cases List.mem_singleton.mp hz; exact ht)))) (by rcases ht' with rfl | r; exact ht; exact Nat.le_trans E9.1 r) (Or.inl ⟨cap', hc', B2, hLo.app SL.2.2.2.1⟩) ?_ ?_ hk (W.more (by decide) (by decide))
          · rw [List.append_assoc, ← hout, show escS 34 = [38, 113, 117, 111, 116, 59] from rfl]
          · simp only [List.length_append, List.length_cons, List.length_nil]; omega
        · refine g_virtF W (t_append6 l hw hEL cst fst ust W.old (B.ext E2) SL fu Au hut (by simp only [List.length_cons, List.length_nil]; omega)) (fun y q => q) ⟨_, _, rfl, (hI hw 166 rfl)⟩ (hI hw 163 rfl) (hI hw 164 rfl) (hI hw 166 rfl) (hI hw 165 rfl) (hI hw 32 rfl) (hI hw 167 rfl) (by decide) pd_37 ((B.ext E2).2.2.1) (argsL := [_]) rfl rfl (pc' := 116) rfl (by rw [hml]; rfl) (D tx_113) rfl (Wn := 0) (Nat.le_refl _) (by decide) (by decide) (by decide) (by decide) (fun v T g3 FF W hg hQ => ?_)
          obtain ⟨t', cap', rfl, rfl, ht', K2, B2⟩ := hQ
          replace W := W.drop (F' := [t']) (fun z hz => List.mem_append.mpr (Or.inl hz))
          refine g_pop W (pc' := 117) (D tx_116) rfl rfl ?_
          refine g_goto W (pc' := 136) (D tx_117) (by decide) (by decide) ?_
          refine g_iinc W (pc' := 139) (D tx_136) rfl rfl (ls' := #[_, _, _, _]) rfl ?_
          refine g_goto W (pc' := 14) (D tx_139) (by decide) (by decide) ?_
          refine J3 _ (Or.inr ⟨_, rfl⟩) _ _ t' _ (keep_ext ((ext_keep E9 []).trans K2 (fun z hz => Or.inr (by rcases List.mem_cons.mp hz with rfl | hz; exact hb; cases List.mem_singleton.mp hz; exact ht)))) (by rcases ht' with rfl | r; exact ht; exact Nat.le_trans E9.1 r) (Or.inr ⟨cap', B2⟩) ?_ ?_ hk (W.more (by decide) (by decide))
          · rw [List.append_assoc, ← hout, show escS 34 = [38, 113, 117, 111, 116, 59] from rfl]
          · simp only [List.length_append, List.length_cons, List.length_nil]; omega
      by_cases q39 : ch = 39
      · subst q39
        refine g_lookHit W (pc' := 120) (D tx_29) (by decide) (a := 39) (off := 91) (by decide) (by decide) (by decide) ?_
        refine g_aloadN W (pc' := 121) (D tx_120) rfl rfl (by first | rfl | assumption) ?_
        refine g_ldcU W (pc' := 123) (text := "&#39;") (cs := [38, 35, 51, 57, 59]) (hI hw 252 rfl) wS (by decide) (by decide +kernel) (by unfold Latin; decide) (by decide) (nn := 20) (by decide) (by decide) (D tx_121) rfl (by decide) (by decide) (fun sl2 T g2 W E2 SL hU => ?_)
        obtain ⟨u, fu, Au, hne⟩ := hU
        have hut : u ≠ t := (hne t (List.mem_singleton.mpr rfl)).symm
        have E9 := ext_trans E0 E2
        rcases B with ⟨cap, hcap, B, hLo⟩ | ⟨cap, B⟩
        · refine g_virtF W (t_append l hw hEL cst W.old (B.ext E2) SL hcap (by simp only [List.length_cons, List.length_nil]; omega)) (fun y q => q) ⟨_, _, rfl, (hI hw 166 rfl)⟩ (hI hw 163 rfl) (hI hw 164 rfl) (hI hw 166 rfl) (hI hw 165 rfl) (hI hw 32 rfl) (hI hw 167 rfl) (by decide) pd_37 ((B.ext E2).2.2.1) (argsL := [_]) rfl rfl (pc' := 126) rfl (by rw [hml]; rfl) (D tx_123) rfl (Wn := 0) (Nat.le_refl _) (by decide) (by decide) (by decide) (by decide) (fun v T g3 FF W hg hQ => ?_)
          obtain ⟨t', cap', rfl, rfl, ht', hc', K2, B2⟩ := hQ
          replace W := W.drop (F' := [t']) (fun z hz => List.mem_append.mpr (Or.inl hz))
          refine g_pop W (pc' := 127) (D tx_126) rfl rfl ?_
          refine g_goto W (pc' := 136) (D tx_127) (by decide) (by decide) ?_
          refine g_iinc W (pc' := 139) (D tx_136) rfl rfl (ls' := #[_, _, _, _]) rfl ?_
          refine g_goto W (pc' := 14) (D tx_139) (by decide) (by decide) ?_
          refine J3 _ (Or.inr ⟨_, rfl⟩) _ _ t' _ (keep_ext ((ext_keep E9 []).trans K2 (fun z hz => Or.inr (by rcases List.mem_cons.mp hz with rfl | hz; exact hb; cases List.mem_singleton.mp hz; exact ht)))) (by rcases ht' with rfl | r; exact ht; exact Nat.le_trans E9.1 r) (Or.inl ⟨cap', hc', B2, hLo.app SL.2.2.2.1⟩) ?_ ?_ hk (W.more (by decide) (by decide))
          · rw [List.append_assoc, ← hout, show escS 39 = [38, 35, 51, 57, 59] from rfl]
          · simp only [List.length_append, List.length_cons, List.length_nil]; omega
        · refine g_virtF W (t_append6 l hw hEL cst fst ust W.old (B.ext E2) SL fu Au hut (by simp only [List.length_cons, List.length_nil]; omega)) (fun y q => q) ⟨_, _, rfl, (hI hw 166 rfl)⟩ (hI hw 163 rfl) (hI hw 164 rfl) (hI hw 166 rfl) (hI hw 165 rfl) (hI hw 32 rfl) (hI hw 167 rfl) (by decide) pd_37 ((B.ext E2).2.2.1) (argsL := [_]) rfl rfl (pc' := 126) rfl (by rw [hml]; rfl) (D tx_123) rfl (Wn := 0) (Nat.le_refl _) (by decide) (by decide) (by decide) (by decide) (fun v T g3 FF W hg hQ => ?_)
          obtain ⟨t', cap', rfl, rfl, ht', K2, B2⟩ := hQ
          replace W := W.drop (F' := [t']) (fun z hz => List.mem_append.mpr (Or.inl hz))
          refine g_pop W (pc' := 127) (D tx_126) rfl rfl ?_
          refine g_goto W (pc' := 136) (D tx_127) (by decide) (by decide) ?_
          refine g_iinc W (pc' := 139) (D tx_136) rfl rfl (ls' := #[_, _, _, _]) rfl ?_
          refine g_goto W (pc' := 14) (D tx_139) (by decide) (by decide) ?_
          refine J3 _ (Or.inr ⟨_, rfl⟩) _ _ t' _ (keep_ext ((ext_keep E9 []).trans K2 (fun z hz => Or.inr (by rcases List.mem_cons.mp hz with rfl | hz; exact hb; cases List.mem_singleton.mp hz; exact ht)))) (by rcases ht' with rfl | r; exact ht; exact Nat.le_trans E9.1 r) (Or.inr ⟨cap', B2⟩) ?_ ?_ hk (W.more (by decide) (by decide))
          · rw [List.append_assoc, ← hout, show escS 39 = [38, 35, 51, 57, 59] from rfl]
          · simp only [List.length_append, List.length_cons, List.length_nil]; omega
      refine g_lookMiss W (pc' := 130) (D tx_29) (by decide) (by
        simp only [List.find?_toArray, List.find?_cons, List.find?_nil]
        rw [show ((34 : Int) == ch.toInt) = false from beq_eq_false_iff_ne.mpr (int_ne 34 rfl q34)]
        rw [show ((38 : Int) == ch.toInt) = false from beq_eq_false_iff_ne.mpr (int_ne 38 rfl q38)]
        rw [show ((39 : Int) == ch.toInt) = false from beq_eq_false_iff_ne.mpr (int_ne 39 rfl q39)]
        rw [show ((60 : Int) == ch.toInt) = false from beq_eq_false_iff_ne.mpr (int_ne 60 rfl q60)]
        rw [show ((62 : Int) == ch.toInt) = false from beq_eq_false_iff_ne.mpr (int_ne 62 rfl q62)]
        ) (by decide) (by decide) ?_
      have E9 := E0
      have ev : escS ch = [ch] := by unfold escS; rw [if_neg q38, if_neg q60, if_neg q62, if_neg q34, if_neg q39]
      refine g_aloadN W (pc' := 131) (D tx_130) rfl rfl (by first | rfl | assumption) ?_
      refine g_iloadN W (pc' := 132) (D tx_131) rfl rfl ?_
      rcases B with ⟨cap, hcap, B, hLo⟩ | ⟨cap, B⟩
      · by_cases hbig : (255 : Int32) < ch
        · refine g_virtF W (t_appendCx l hw hEL cst fst ust W.old B hLo hcap hLc hbig (by omega)) (fun y q => q) ⟨_, _, rfl, (hI hw 147 rfl)⟩ (hI hw 144 rfl) (hI hw 145 rfl) (hI hw 147 rfl) (hI hw 146 rfl) (hI hw 32 rfl) (hI hw 148 rfl) (by decide) pd_38 (B.2.2.1) (argsL := [_]) rfl rfl (pc' := 135) rfl (by rw [hml]; rfl) (D tx_132) rfl (Wn := 0) (Nat.le_refl _) (by decide) (by decide) (by decide) (by decide) (fun v T g3 FF W hg hQ => ?_)
          obtain ⟨t', cap', rfl, rfl, ht', K2, B2⟩ := hQ
          replace W := W.drop (F' := [t']) (fun z hz => List.mem_append.mpr (Or.inl hz))
          refine g_pop W (pc' := 136) (D tx_135) rfl rfl ?_
          refine g_iinc W (pc' := 139) (D tx_136) rfl rfl (ls' := #[_, _, _, _]) rfl ?_
          refine g_goto W (pc' := 14) (D tx_139) (by decide) (by decide) ?_
          refine J3 _ (Or.inr ⟨_, rfl⟩) _ _ t' _ (keep_ext ((ext_keep E9 []).trans K2 (fun z hz => Or.inr (by rcases List.mem_cons.mp hz with rfl | hz; exact hb; cases List.mem_singleton.mp hz; exact ht)))) (by rcases ht' with rfl | r; exact ht; exact Nat.le_trans E9.1 r) (Or.inr ⟨cap', B2⟩) ?_ ?_ hk (W.more (by decide) (by decide))
          · rw [List.append_assoc, ← hout, ev]
          · simp only [List.length_append, List.length_cons, List.length_nil]; omega
        · refine g_virtF W (t_appendC l hw hEL cst W.old B ⟨hLc.1, hbig⟩ hcap (by omega)) (fun y q => q) ⟨_, _, rfl, (hI hw 147 rfl)⟩ (hI hw 144 rfl) (hI hw 145 rfl) (hI hw 147 rfl) (hI hw 146 rfl) (hI hw 32 rfl) (hI hw 148 rfl) (by decide) pd_38 (B.2.2.1) (argsL := [_]) rfl rfl (pc' := 135) rfl (by rw [hml]; rfl) (D tx_132) rfl (Wn := 0) (Nat.le_refl _) (by decide) (by decide) (by decide) (by decide) (fun v T g3 FF W hg hQ => ?_)
          obtain ⟨t', cap', rfl, rfl, ht', hc', K2, B2⟩ := hQ
          replace W := W.drop (F' := [t']) (fun z hz => List.mem_append.mpr (Or.inl hz))
          refine g_pop W (pc' := 136) (D tx_135) rfl rfl ?_
          refine g_iinc W (pc' := 139) (D tx_136) rfl rfl (ls' := #[_, _, _, _]) rfl ?_
          refine g_goto W (pc' := 14) (D tx_139) (by decide) (by decide) ?_
          refine J3 _ (Or.inr ⟨_, rfl⟩) _ _ t' _ (keep_ext ((ext_keep E9 []).trans K2 (fun z hz => Or.inr (by rcases List.mem_cons.mp hz with rfl | hz; exact hb; cases List.mem_singleton.mp hz; exact ht)))) (by rcases ht' with rfl | r; exact ht; exact Nat.le_trans E9.1 r) (Or.inl ⟨cap', hc', B2, hLo.app (Latin.cons hLc.1 hbig Latin.nil)⟩) ?_ ?_ hk (W.more (by decide) (by decide))
          · rw [List.append_assoc, ← hout, ev]
          · simp only [List.length_append, List.length_cons, List.length_nil]; omega
      · refine g_virtF W (t_appendC6 l hw hEL cst fst ust W.old B hLc (by omega)) (fun y q => q) ⟨_, _, rfl, (hI hw 147 rfl)⟩ (hI hw 144 rfl) (hI hw 145 rfl) (hI hw 147 rfl) (hI hw 146 rfl) (hI hw 32 rfl) (hI hw 148 rfl) (by decide) pd_38 (B.2.2.1) (argsL := [_]) rfl rfl (pc' := 135) rfl (by rw [hml]; rfl) (D tx_132) rfl (Wn := 0) (Nat.le_refl _) (by decide) (by decide) (by decide) (by decide) (fun v T g3 FF W hg hQ => ?_)
        obtain ⟨t', cap', rfl, rfl, ht', K2, B2⟩ := hQ
        replace W := W.drop (F' := [t']) (fun z hz => List.mem_append.mpr (Or.inl hz))
        refine g_pop W (pc' := 136) (D tx_135) rfl rfl ?_
        refine g_iinc W (pc' := 139) (D tx_136) rfl rfl (ls' := #[_, _, _, _]) rfl ?_
        refine g_goto W (pc' := 14) (D tx_139) (by decide) (by decide) ?_
        refine J3 _ (Or.inr ⟨_, rfl⟩) _ _ t' _ (keep_ext ((ext_keep E9 []).trans K2 (fun z hz => Or.inr (by rcases List.mem_cons.mp hz with rfl | hz; exact hb; cases List.mem_singleton.mp hz; exact ht)))) (by rcases ht' with rfl | r; exact ht; exact Nat.le_trans E9.1 r) (Or.inr ⟨cap', B2⟩) ?_ ?_ hk (W.more (by decide) (by decide))
        · rw [List.append_assoc, ← hout, ev]
        · simp only [List.length_append, List.length_cons, List.length_nil]; omega
  have J1 : ∀ (sl : Slot) (hsl : sl = .unset ∨ ∃ v, sl = .val (.int v)) (T : State) (g : Heap) (t : Addr) (out : List Int32), Ext h g → h.size ≤ t → Bg Z g b t out → out ++ escT (cs.drop 1) = escT cs → out.length ≤ 6 → 1 ≤ cs.length → Wd p l e { frames := 9, cells := 13, slots := 868, locals := 134 } s m #[.ref y] below meth c Z a0 consts_1 HT [t] T g 5 280 → Go p e below (Endp Z consts_1 s (Ret fun v h' => ∃ r, v = .ref r ∧ Ext h h' ∧ StrG Z h' r (escT cs)) 13 868) T (mkF m 14 #[.val (.ref y), .val (.ref b), .val (.int 1), sl] []) := by
    intro sl hsl T g t out E0 ht B hout hlen hi W
    refine g_iloadN W (pc' := 15) (D tx_14) rfl rfl ?_
    refine g_aloadN W (pc' := 16) (D tx_15) rfl rfl (by first | rfl | assumption) ?_
    refine g_virt W (t_lenG l hw hEL cst fst ust W.old (S.ext E0)) (fun x q => nomatch q) ⟨_, _, rfl, (hI hw 36 rfl)⟩ (hI hw 33 rfl) (hI hw 34 rfl) (hI hw 36 rfl) (hI hw 35 rfl) (hI hw 6 rfl) (hI hw 37 rfl) (by decide) pd_4 ((S.ext E0).exa) (argsL := []) rfl rfl (pc' := 19) rfl (by rw [hml]; rfl) (D tx_16) rfl (Wn := 1) (Nat.le_refl _) (by decide) (by decide) (by decide) (by decide) (fun v T g0 W hg hQ => ?_)
    obtain ⟨rfl, rfl⟩ := hQ
    rcases Nat.lt_or_ge 1 cs.length with hk | hk
    rotate_left
    · refine g_icmpgeY W (pc1 := 142) (pc2 := 22) (D tx_19) (by decide) (by decide) rfl ((by have := min_lt (n := cs.length) (m := 1) hk (by decide); simpa using this)) ?_
      refine g_aloadN W (pc' := 143) (D tx_142) rfl rfl (by first | rfl | assumption) ?_
      have eo : out = escT cs := by rw [← hout, List.drop_eq_nil_of_le (by omega)]; simp [escT]
      subst eo
      rcases B with ⟨cap, hcap, B, hLo⟩ | ⟨cap, B⟩
      · refine g_virt W (t_toStr l hw hEL cst W.old B (by omega) hLo) (fun x q => nomatch q) ⟨_, _, rfl, (hI hw 62 rfl)⟩ (hI hw 59 rfl) (hI hw 60 rfl) (hI hw 62 rfl) (hI hw 61 rfl) (hI hw 32 rfl) (hI hw 63 rfl) (by decide) pd_35 (B.2.2.1) (argsL := []) rfl rfl (pc' := 146) rfl (by rw [hml]; rfl) (D tx_143) rfl (Wn := 0) (Nat.le_refl _) (by decide) (by decide) (by decide) (by decide) (fun v T g2 W hg hQ => ?_)
        obtain ⟨r, rfl, E2, SR⟩ := hQ
        exact g_areturn W (D tx_146) hret rfl rfl (by decide) (by decide) ⟨_, rfl, r, rfl, ext_trans E0 E2, Or.inl SR⟩
      · refine g_virt W (t_toStr6 l hw hEL cst fst ust W.old B (by omega)) (fun x q => nomatch q) ⟨_, _, rfl, (hI hw 62 rfl)⟩ (hI hw 59 rfl) (hI hw 60 rfl) (hI hw 62 rfl) (hI hw 61 rfl) (hI hw 32 rfl) (hI hw 63 rfl) (by decide) pd_35 (B.2.2.1) (argsL := []) rfl rfl (pc' := 146) rfl (by rw [hml]; rfl) (D tx_143) rfl (Wn := 0) (Nat.le_refl _) (by decide) (by decide) (by decide) (by decide) (fun v T g2 W hg hQ => ?_)
        obtain ⟨r, rfl, E2, SR⟩ := hQ
        exact g_areturn W (D tx_146) hret rfl rfl (by decide) (by decide) ⟨_, rfl, r, rfl, ext_trans E0 E2, Or.inr SR⟩
    · refine g_icmpgeN W (pc1 := 142) (pc2 := 22) (D tx_19) (by decide) (by decide) rfl ((by rw [Int32.lt_iff_toInt_lt, Int32.toInt_ofNat_small (by omega)]; have e0 : (1 : Int32).toInt = 1 := rfl; omega)) ?_
      refine g_aloadN W (pc' := 23) (D tx_22) rfl rfl (by first | rfl | assumption) ?_
      refine g_iloadN W (pc' := 24) (D tx_23) rfl rfl ?_
      refine g_virt W (t_charAtG l hw hEL cst fst ust W.old (S.ext E0) (i := 1) hk) (fun x q => nomatch q) ⟨_, _, rfl, (hI hw 125 rfl)⟩ (hI hw 122 rfl) (hI hw 123 rfl) (hI hw 125 rfl) (hI hw 124 rfl) (hI hw 6 rfl) (hI hw 126 rfl) (by decide) pd_36 ((S.ext E0).exa) (argsL := [_]) rfl rfl (pc' := 27) rfl (by rw [hml]; rfl) (D tx_24) rfl (Wn := 0) (Nat.le_refl _) (by decide) (by decide) (by decide) (by decide) (fun v T g0 W hg hQ => ?_)
      obtain ⟨rfl, rfl⟩ := hQ
      have hd := drop_getD hk
      have hLc := wide_get hWd 1
      generalize cs.getD 1 0 = ch at hd hLc ⊢
      rw [hd, escT_cons] at hout
      refine g_istoreN W (pc' := 28) (D tx_27) rfl (ls' := #[_, _, _, .val (.int ch)]) (by rcases hsl with rfl | ⟨v, rfl⟩ <;> rfl) ?_
      refine g_iloadN W (pc' := 29) (D tx_28) rfl rfl ?_
      by_cases q38 : ch = 38
      · subst q38
        refine g_lookHit W (pc' := 80) (D tx_29) (by decide) (a := 38) (off := 51) (by decide) (by decide) (by decide) ?_
        refine g_aloadN W (pc' := 81) (D tx_80) rfl rfl (by first | rfl | assumption) ?_
        refine g_ldcU W (pc' := 83) (text := "&amp;") (cs := [38, 97, 109, 112, 59]) (hI hw 290 rfl) wS (by decide) (by decide +kernel) (by unfold Latin; decide) (by decide) (nn := 20) (by decide) (by decide) (D tx_81) rfl (by decide) (by decide) (fun sl2 T g2 W E2 SL hU => ?_)
        obtain ⟨u, fu, Au, hne⟩ := hU
        have hut : u ≠ t := (hne t (List.mem_singleton.mpr rfl)).symm
        have E9 := ext_trans E0 E2
        rcases B with ⟨cap, hcap, B, hLo⟩ | ⟨cap, B⟩
        · refine g_virtF W (t_append l hw hEL cst W.old (B.ext E2) SL hcap (by simp only [List.length_cons, List.length_nil]; omega)) (fun y q => q) ⟨_, _, rfl, (hI hw 166 rfl)⟩ (hI hw 163 rfl) (hI hw 164 rfl) (hI hw 166 rfl) (hI hw 165 rfl) (hI hw 32 rfl) (hI hw 167 rfl) (by decide) pd_37 ((B.ext E2).2.2.1) (argsL := [_]) rfl rfl (pc' := 86) rfl (by rw [hml]; rfl) (D tx_83) rfl (Wn := 0) (Nat.le_refl _) (by decide) (by decide) (by decide) (by decide) (fun v T g3 FF W hg hQ => ?_)
          obtain ⟨t', cap', rfl, rfl, ht', hc', K2, B2⟩ := hQ
          replace W := W.drop (F' := [t']) (fun z hz => List.mem_append.mpr (Or.inl hz))
          refine g_pop W (pc' := 87) (D tx_86) rfl rfl ?_
          refine g_goto W (pc' := 136) (D tx_87) (by decide) (by decide) ?_
          refine g_iinc W (pc' := 139) (D tx_136) rfl rfl (ls' := #[_, _, _, _]) rfl ?_
          refine g_goto W (pc' := 14) (D tx_139) (by decide) (by decide) ?_
          refine J2 _ (Or.inr ⟨_, rfl⟩) _ _ t' _ (keep_ext ((ext_keep E9 []).trans K2 (fun z hz => Or.inr (by rcases List.mem_cons.mp hz with rfl | hz; exact hb; cases List.mem_singleton.mp hz; exact ht)))) (by rcases ht' with rfl | r; exact ht; exact Nat.le_trans E9.1 r) (Or.inl ⟨cap', hc', B2, hLo.app SL.2.2.2.1⟩) ?_ ?_ hk (W.more (by decide) (by decide))
          · rw [List.append_assoc, ← hout, show escS 38 = [38, 97, 109, 112, 59] from rfl]
          · simp only [List.length_append, List.length_cons, List.length_nil]; omega
        · refine g_virtF W (t_append6 l hw hEL cst fst ust W.old (B.ext E2) SL fu Au hut (by simp only [List.length_cons, List.length_nil]; omega)) (fun y q => q) ⟨_, _, rfl, (hI hw 166 rfl)⟩ (hI hw 163 rfl) (hI hw 164 rfl) (hI hw 166 rfl) (hI hw 165 rfl) (hI hw 32 rfl) (hI hw 167 rfl) (by decide) pd_37 ((B.ext E2).2.2.1) (argsL := [_]) rfl rfl (pc' := 86) rfl (by rw [hml]; rfl) (D tx_83) rfl (Wn := 0) (Nat.le_refl _) (by decide) (by decide) (by decide) (by decide) (fun v T g3 FF W hg hQ => ?_)
          obtain ⟨t', cap', rfl, rfl, ht', K2, B2⟩ := hQ
          replace W := W.drop (F' := [t']) (fun z hz => List.mem_append.mpr (Or.inl hz))
          refine g_pop W (pc' := 87) (D tx_86) rfl rfl ?_
          refine g_goto W (pc' := 136) (D tx_87) (by decide) (by decide) ?_
          refine g_iinc W (pc' := 139) (D tx_136) rfl rfl (ls' := #[_, _, _, _]) rfl ?_
          refine g_goto W (pc' := 14) (D tx_139) (by decide) (by decide) ?_
          refine J2 _ (Or.inr ⟨_, rfl⟩) _ _ t' _ (keep_ext ((ext_keep E9 []).trans K2 (fun z hz => Or.inr (by rcases List.mem_cons.mp hz with rfl | hz; exact hb; cases List.mem_singleton.mp hz; exact ht)))) (by rcases ht' with rfl | r; exact ht; exact Nat.le_trans E9.1 r) (Or.inr ⟨cap', B2⟩) ?_ ?_ hk (W.more (by decide) (by decide))
          · rw [List.append_assoc, ← hout, show escS 38 = [38, 97, 109, 112, 59] from rfl]
          · simp only [List.length_append, List.length_cons, List.length_nil]; omega
      by_cases q60 : ch = 60
      · subst q60
        refine g_lookHit W (pc' := 90) (D tx_29) (by decide) (a := 60) (off := 61) (by decide) (by decide) (by decide) ?_
        refine g_aloadN W (pc' := 91) (D tx_90) rfl rfl (by first | rfl | assumption) ?_
        refine g_ldcU W (pc' := 93) (text := "&lt;") (cs := [38, 108, 116, 59]) (hI hw 162 rfl) wS (by decide) (by decide +kernel) (by unfold Latin; decide) (by decide) (nn := 16) (by decide) (by decide) (D tx_91) rfl (by decide) (by decide) (fun sl2 T g2 W E2 SL hU => ?_)
        obtain ⟨u, fu, Au, hne⟩ := hU
        have hut : u ≠ t := (hne t (List.mem_singleton.mpr rfl)).symm
        have E9 := ext_trans E0 E2
        rcases B with ⟨cap, hcap, B, hLo⟩ | ⟨cap, B⟩
        · refine g_virtF W (t_append l hw hEL cst W.old (B.ext E2) SL hcap (by simp only [List.length_cons, List.length_nil]; omega)) (fun y q => q) ⟨_, _, rfl, (hI hw 166 rfl)⟩ (hI hw 163 rfl) (hI hw 164 rfl) (hI hw 166 rfl) (hI hw 165 rfl) (hI hw 32 rfl) (hI hw 167 rfl) (by decide) pd_37 ((B.ext E2).2.2.1) (argsL := [_]) rfl rfl (pc' := 96) rfl (by rw [hml]; rfl) (D tx_93) rfl (Wn := 0) (Nat.le_refl _) (by decide) (by decide) (by decide) (by decide) (fun v T g3 FF W hg hQ => ?_)
          obtain ⟨t', cap', rfl, rfl, ht', hc', K2, B2⟩ := hQ
          replace W := W.drop (F' := [t']) (fun z hz => List.mem_append.mpr (Or.inl hz))
          refine g_pop W (pc' := 97) (D tx_96) rfl rfl ?_
          refine g_goto W (pc' := 136) (D tx_97) (by decide) (by decide) ?_
          refine g_iinc W (pc' := 139) (D tx_136) rfl rfl (ls' := #[_, _, _, _]) rfl ?_
          refine g_goto W (pc' := 14) (D tx_139) (by decide) (by decide) ?_
          refine J2 _ (Or.inr ⟨_, rfl⟩) _ _ t' _ (keep_ext ((ext_keep E9 []).trans K2 (fun z hz => Or.inr (by rcases List.mem_cons.mp hz with rfl | hz; exact hb; cases List.mem_singleton.mp hz; exact ht)))) (by rcases ht' with rfl | r; exact ht; exact Nat.le_trans E9.1 r) (Or.inl ⟨cap', hc', B2, hLo.app SL.2.2.2.1⟩) ?_ ?_ hk (W.more (by decide) (by decide))
          · rw [List.append_assoc, ← hout, show escS 60 = [38, 108, 116, 59] from rfl]
          · simp only [List.length_append, List.length_cons, List.length_nil]; omega
        · refine g_virtF W (t_append6 l hw hEL cst fst ust W.old (B.ext E2) SL fu Au hut (by simp only [List.length_cons, List.length_nil]; omega)) (fun y q => q) ⟨_, _, rfl, (hI hw 166 rfl)⟩ (hI hw 163 rfl) (hI hw 164 rfl) (hI hw 166 rfl) (hI hw 165 rfl) (hI hw 32 rfl) (hI hw 167 rfl) (by decide) pd_37 ((B.ext E2).2.2.1) (argsL := [_]) rfl rfl (pc' := 96) rfl (by rw [hml]; rfl) (D tx_93) rfl (Wn := 0) (Nat.le_refl _) (by decide) (by decide) (by decide) (by decide) (fun v T g3 FF W hg hQ => ?_)
          obtain ⟨t', cap', rfl, rfl, ht', K2, B2⟩ := hQ
          replace W := W.drop (F' := [t']) (fun z hz => List.mem_append.mpr (Or.inl hz))
          refine g_pop W (pc' := 97) (D tx_96) rfl rfl ?_
          refine g_goto W (pc' := 136) (D tx_97) (by decide) (by decide) ?_
          refine g_iinc W (pc' := 139) (D tx_136) rfl rfl (ls' := #[_, _, _, _]) rfl ?_
          refine g_goto W (pc' := 14) (D tx_139) (by decide) (by decide) ?_
          refine J2 _ (Or.inr ⟨_, rfl⟩) _ _ t' _ (keep_ext ((ext_keep E9 []).trans K2 (fun z hz => Or.inr (by rcases List.mem_cons.mp hz with rfl | hz; exact hb; cases List.mem_singleton.mp hz; exact ht)))) (by rcases ht' with rfl | r; exact ht; exact Nat.le_trans E9.1 r) (Or.inr ⟨cap', B2⟩) ?_ ?_ hk (W.more (by decide) (by decide))
          · rw [List.append_assoc, ← hout, show escS 60 = [38, 108, 116, 59] from rfl]
          · simp only [List.length_append, List.length_cons, List.length_nil]; omega
      by_cases q62 : ch = 62
      · subst q62
        refine g_lookHit W (pc' := 100) (D tx_29) (by decide) (a := 62) (off := 71) (by decide) (by decide) (by decide) ?_
        refine g_aloadN W (pc' := 101) (D tx_100) rfl rfl (by first | rfl | assumption) ?_
        refine g_ldcU W (pc' := 103) (text := "&gt;") (cs := [38, 103, 116, 59]) (hI hw 291 rfl) wS (by decide) (by decide +kernel) (by unfold Latin; decide) (by decide) (nn := 16) (by decide) (by decide) (D tx_101) rfl (by decide) (by decide) (fun sl2 T g2 W E2 SL hU => ?_)
        obtain ⟨u, fu, Au, hne⟩ := hU
        have hut : u ≠ t := (hne t (List.mem_singleton.mpr rfl)).symm
        have E9 := ext_trans E0 E2
        rcases B with ⟨cap, hcap, B, hLo⟩ | ⟨cap, B⟩
        · refine g_virtF W (t_append l hw hEL cst W.old (B.ext E2) SL hcap (by simp only [List.length_cons, List.length_nil]; omega)) (fun y q => q) ⟨_, _, rfl, (hI hw 166 rfl)⟩ (hI hw 163 rfl) (hI hw 164 rfl) (hI hw 166 rfl) (hI hw 165 rfl) (hI hw 32 rfl) (hI hw 167 rfl) (by decide) pd_37 ((B.ext E2).2.2.1) (argsL := [_]) rfl rfl (pc' := 106) rfl (by rw [hml]; rfl) (D tx_103) rfl (Wn := 0) (Nat.le_refl _) (by decide) (by decide) (by decide) (by decide) (fun v T g3 FF W hg hQ => ?_)
          obtain ⟨t', cap', rfl, rfl, ht', hc', K2, B2⟩ := hQ
          replace W := W.drop (F' := [t']) (fun z hz => List.mem_append.mpr (Or.inl hz))
          refine g_pop W (pc' := 107) (D tx_106) rfl rfl ?_
          refine g_goto W (pc' := 136) (D tx_107) (by decide) (by decide) ?_
          refine g_iinc W (pc' := 139) (D tx_136) rfl rfl (ls' := #[_, _, _, _]) rfl ?_
          refine g_goto W (pc' := 14) (D tx_139) (by decide) (by decide) ?_
          refine J2 _ (Or.inr ⟨_, rfl⟩) _ _ t' _ (keep_ext ((ext_keep E9 []).trans K2 (fun z hz => Or.inr (by rcases List.mem_cons.mp hz with rfl | hz; exact hb; cases List.mem_singleton.mp hz; exact ht)))) (by rcases ht' with rfl | r; exact ht; exact Nat.le_trans E9.1 r) (Or.inl ⟨cap', hc', B2, hLo.app SL.2.2.2.1⟩) ?_ ?_ hk (W.more (by decide) (by decide))
          · rw [List.append_assoc, ← hout, show escS 62 = [38, 103, 116, 59] from rfl]
          · simp only [List.length_append, List.length_cons, List.length_nil]; omega
        · refine g_virtF W (t_append6 l hw hEL cst fst ust W.old (B.ext E2) SL fu Au hut (by simp only [List.length_cons, List.length_nil]; omega)) (fun y q => q) ⟨_, _, rfl, (hI hw 166 rfl)⟩ (hI hw 163 rfl) (hI hw 164 rfl) (hI hw 166 rfl) (hI hw 165 rfl) (hI hw 32 rfl) (hI hw 167 rfl) (by decide) pd_37 ((B.ext E2).2.2.1) (argsL := [_]) rfl rfl (pc' := 106) rfl (by rw [hml]; rfl) (D tx_103) rfl (Wn := 0) (Nat.le_refl _) (by decide) (by decide) (by decide) (by decide) (fun v T g3 FF W hg hQ => ?_)
          obtain ⟨t', cap', rfl, rfl, ht', K2, B2⟩ := hQ
          replace W := W.drop (F' := [t']) (fun z hz => List.mem_append.mpr (Or.inl hz))
          refine g_pop W (pc' := 107) (D tx_106) rfl rfl ?_
          refine g_goto W (pc' := 136) (D tx_107) (by decide) (by decide) ?_
          refine g_iinc W (pc' := 139) (D tx_136) rfl rfl (ls' := #[_, _, _, _]) rfl ?_
          refine g_goto W (pc' := 14) (D tx_139) (by decide) (by decide) ?_
          refine J2 _ (Or.inr ⟨_, rfl⟩) _ _ t' _ (keep_ext ((ext_keep E9 []).trans K2 (fun z hz => Or.inr (by rcases List.mem_cons.mp hz with rfl | hz; exact hb; cases List.mem_singleton.mp hz; exact ht)))) (by rcases ht' with rfl | r; exact ht; exact Nat.le_trans E9.1 r) (Or.inr ⟨cap', B2⟩) ?_ ?_ hk (W.more (by decide) (by decide))
          · rw [List.append_assoc, ← hout, show escS 62 = [38, 103, 116, 59] from rfl]
          · simp only [List.length_append, List.length_cons, List.length_nil]; omega
      by_cases q34 : ch = 34
      · subst q34
        refine g_lookHit W (pc' := 110) (D tx_29) (by decide) (a := 34) (off := 81) (by decide) (by decide) (by decide) ?_
        refine g_aloadN W (pc' := 111) (D tx_110) rfl rfl (by first | rfl | assumption) ?_
        refine g_ldcU W (pc' := 113) (text := "&quot;") (cs := [38, 113, 117, 111, 116, 59]) (hI hw 215 rfl) wS (by decide) (by decide +kernel) (by unfold Latin; decide) (by decide) (nn := 24) (by decide) (by decide) (D tx_111) rfl (by decide) (by decide) (fun sl2 T g2 W E2 SL hU => ?_)
        obtain ⟨u, fu, Au, hne⟩ := hU
        have hut : u ≠ t := (hne t (List.mem_singleton.mpr rfl)).symm
        have E9 := ext_trans E0 E2
        rcases B with ⟨cap, hcap, B, hLo⟩ | ⟨cap, B⟩
        · refine g_virtF W (t_append l hw hEL cst W.old (B.ext E2) SL hcap (by simp only [List.length_cons, List.length_nil]; omega)) (fun y q => q) ⟨_, _, rfl, (hI hw 166 rfl)⟩ (hI hw 163 rfl) (hI hw 164 rfl) (hI hw 166 rfl) (hI hw 165 rfl) (hI hw 32 rfl) (hI hw 167 rfl) (by decide) pd_37 ((B.ext E2).2.2.1) (argsL := [_]) rfl rfl (pc' := 116) rfl (by rw [hml]; rfl) (D tx_113) rfl (Wn := 0) (Nat.le_refl _) (by decide) (by decide) (by decide) (by decide) (fun v T g3 FF W hg hQ => ?_)
          obtain ⟨t', cap', rfl, rfl, ht', hc', K2, B2⟩ := hQ
          replace W := W.drop (F' := [t']) (fun z hz => List.mem_append.mpr (Or.inl hz))
          refine g_pop W (pc' := 117) (D tx_116) rfl rfl ?_
          refine g_goto W (pc' := 136) (D tx_117) (by decide) (by decide) ?_
          refine g_iinc W (pc' := 139) (D tx_136) rfl rfl (ls' := #[_, _, _, _]) rfl ?_
          refine g_goto W (pc' := 14) (D tx_139) (by decide) (by decide) ?_
          refine J2 _ (Or.inr ⟨_, rfl⟩) _ _ t' _ (keep_ext ((ext_keep E9 []).trans K2 (fun z hz => Or.inr (by rcases List.mem_cons.mp hz with rfl | hz; exact hb; cases List.mem_singleton.mp hz; exact ht)))) (by rcases ht' with rfl | r; exact ht; exact Nat.le_trans E9.1 r) (Or.inl ⟨cap', hc', B2, hLo.app SL.2.2.2.1⟩) ?_ ?_ hk (W.more (by decide) (by decide))
          · rw [List.append_assoc, ← hout, show escS 34 = [38, 113, 117, 111, 116, 59] from rfl]
          · simp only [List.length_append, List.length_cons, List.length_nil]; omega
        · refine g_virtF W (t_append6 l hw hEL cst fst ust W.old (B.ext E2) SL fu Au hut (by simp only [List.length_cons, List.length_nil]; omega)) (fun y q => q) ⟨_, _, rfl, (hI hw 166 rfl)⟩ (hI hw 163 rfl) (hI hw 164 rfl) (hI hw 166 rfl) (hI hw 165 rfl) (hI hw 32 rfl) (hI hw 167 rfl) (by decide) pd_37 ((B.ext E2).2.2.1) (argsL := [_]) rfl rfl (pc' := 116) rfl (by rw [hml]; rfl) (D tx_113) rfl (Wn := 0) (Nat.le_refl _) (by decide) (by decide) (by decide) (by decide) (fun v T g3 FF W hg hQ => ?_)
          obtain ⟨t', cap', rfl, rfl, ht', K2, B2⟩ := hQ
          replace W := W.drop (F' := [t']) (fun z hz => List.mem_append.mpr (Or.inl hz))
          refine g_pop W (pc' := 117) (D tx_116) rfl rfl ?_
          refine g_goto W (pc' := 136) (D tx_117) (by decide) (by decide) ?_
          refine g_iinc W (pc' := 139) (D tx_136) rfl rfl (ls' := #[_, _, _, _]) rfl ?_
          refine g_goto W (pc' := 14) (D tx_139) (by decide) (by decide) ?_
          refine J2 _ (Or.inr ⟨_, rfl⟩) _ _ t' _ (keep_ext ((ext_keep E9 []).trans K2 (fun z hz => Or.inr (by rcases List.mem_cons.mp hz with rfl | hz; exact hb; cases List.mem_singleton.mp hz; exact ht)))) (by rcases ht' with rfl | r; exact ht; exact Nat.le_trans E9.1 r) (Or.inr ⟨cap', B2⟩) ?_ ?_ hk (W.more (by decide) (by decide))
          · rw [List.append_assoc, ← hout, show escS 34 = [38, 113, 117, 111, 116, 59] from rfl]
          · simp only [List.length_append, List.length_cons, List.length_nil]; omega
      by_cases q39 : ch = 39
      · subst q39
        refine g_lookHit W (pc' := 120) (D tx_29) (by decide) (a := 39) (off := 91) (by decide) (by decide) (by decide) ?_
        refine g_aloadN W (pc' := 121) (D tx_120) rfl rfl (by first | rfl | assumption) ?_
        refine g_ldcU W (pc' := 123) (text := "&#39;") (cs := [38, 35, 51, 57, 59]) (hI hw 252 rfl) wS (by decide) (by decide +kernel) (by unfold Latin; decide) (by decide) (nn := 20) (by decide) (by decide) (D tx_121) rfl (by decide) (by decide) (fun sl2 T g2 W E2 SL hU => ?_)
        obtain ⟨u, fu, Au, hne⟩ := hU
        have hut : u ≠ t := (hne t (List.mem_singleton.mpr rfl)).symm
        have E9 := ext_trans E0 E2
        rcases B with ⟨cap, hcap, B, hLo⟩ | ⟨cap, B⟩
        · refine g_virtF W (t_append l hw hEL cst W.old (B.ext E2) SL hcap (by simp only [List.length_cons, List.length_nil]; omega)) (fun y q => q) ⟨_, _, rfl, (hI hw 166 rfl)⟩ (hI hw 163 rfl) (hI hw 164 rfl) (hI hw 166 rfl) (hI hw 165 rfl) (hI hw 32 rfl) (hI hw 167 rfl) (by decide) pd_37 ((B.ext E2).2.2.1) (argsL := [_]) rfl rfl (pc' := 126) rfl (by rw [hml]; rfl) (D tx_123) rfl (Wn := 0) (Nat.le_refl _) (by decide) (by decide) (by decide) (by decide) (fun v T g3 FF W hg hQ => ?_)
          obtain ⟨t', cap', rfl, rfl, ht', hc', K2, B2⟩ := hQ
          replace W := W.drop (F' := [t']) (fun z hz => List.mem_append.mpr (Or.inl hz))
          refine g_pop W (pc' := 127) (D tx_126) rfl rfl ?_
          refine g_goto W (pc' := 136) (D tx_127) (by decide) (by decide) ?_
          refine g_iinc W (pc' := 139) (D tx_136) rfl rfl (ls' := #[_, _, _, _]) rfl ?_
          refine g_goto W (pc' := 14) (D tx_139) (by decide) (by decide) ?_
          refine J2 _ (Or.inr ⟨_, rfl⟩) _ _ t' _ (keep_ext ((ext_keep E9 []).trans K2 (fun z hz => Or.inr (by rcases List.mem_cons.mp hz with rfl | hz; exact hb; cases List.mem_singleton.mp hz; exact ht)))) (by rcases ht' with rfl | r; exact ht; exact Nat.le_trans E9.1 r) (Or.inl ⟨cap', hc', B2, hLo.app SL.2.2.2.1⟩) ?_ ?_ hk (W.more (by decide) (by decide))
          · rw [List.append_assoc, ← hout, show escS 39 = [38, 35, 51, 57, 59] from rfl]
          · simp only [List.length_append, List.length_cons, List.length_nil]; omega
        · refine g_virtF W (t_append6 l hw hEL cst fst ust W.old (B.ext E2) SL fu Au hut (by simp only [List.length_cons, List.length_nil]; omega)) (fun y q => q) ⟨_, _, rfl, (hI hw 166 rfl)⟩ (hI hw 163 rfl) (hI hw 164 rfl) (hI hw 166 rfl) (hI hw 165 rfl) (hI hw 32 rfl) (hI hw 167 rfl) (by decide) pd_37 ((B.ext E2).2.2.1) (argsL := [_]) rfl rfl (pc' := 126) rfl (by rw [hml]; rfl) (D tx_123) rfl (Wn := 0) (Nat.le_refl _) (by decide) (by decide) (by decide) (by decide) (fun v T g3 FF W hg hQ => ?_)
          obtain ⟨t', cap', rfl, rfl, ht', K2, B2⟩ := hQ
          replace W := W.drop (F' := [t']) (fun z hz => List.mem_append.mpr (Or.inl hz))
          refine g_pop W (pc' := 127) (D tx_126) rfl rfl ?_
          refine g_goto W (pc' := 136) (D tx_127) (by decide) (by decide) ?_
          refine g_iinc W (pc' := 139) (D tx_136) rfl rfl (ls' := #[_, _, _, _]) rfl ?_
          refine g_goto W (pc' := 14) (D tx_139) (by decide) (by decide) ?_
          refine J2 _ (Or.inr ⟨_, rfl⟩) _ _ t' _ (keep_ext ((ext_keep E9 []).trans K2 (fun z hz => Or.inr (by rcases List.mem_cons.mp hz with rfl | hz; exact hb; cases List.mem_singleton.mp hz; exact ht)))) (by rcases ht' with rfl | r; exact ht; exact Nat.le_trans E9.1 r) (Or.inr ⟨cap', B2⟩) ?_ ?_ hk (W.more (by decide) (by decide))
          · rw [List.append_assoc, ← hout, show escS 39 = [38, 35, 51, 57, 59] from rfl]
          · simp only [List.length_append, List.length_cons, List.length_nil]; omega
      refine g_lookMiss W (pc' := 130) (D tx_29) (by decide) (by
        simp only [List.find?_toArray, List.find?_cons, List.find?_nil]
        rw [show ((34 : Int) == ch.toInt) = false from beq_eq_false_iff_ne.mpr (int_ne 34 rfl q34)]
        rw [show ((38 : Int) == ch.toInt) = false from beq_eq_false_iff_ne.mpr (int_ne 38 rfl q38)]
        rw [show ((39 : Int) == ch.toInt) = false from beq_eq_false_iff_ne.mpr (int_ne 39 rfl q39)]
        rw [show ((60 : Int) == ch.toInt) = false from beq_eq_false_iff_ne.mpr (int_ne 60 rfl q60)]
        rw [show ((62 : Int) == ch.toInt) = false from beq_eq_false_iff_ne.mpr (int_ne 62 rfl q62)]
        ) (by decide) (by decide) ?_
      have E9 := E0
      have ev : escS ch = [ch] := by unfold escS; rw [if_neg q38, if_neg q60, if_neg q62, if_neg q34, if_neg q39]
      refine g_aloadN W (pc' := 131) (D tx_130) rfl rfl (by first | rfl | assumption) ?_
      refine g_iloadN W (pc' := 132) (D tx_131) rfl rfl ?_
      rcases B with ⟨cap, hcap, B, hLo⟩ | ⟨cap, B⟩
      · by_cases hbig : (255 : Int32) < ch
        · refine g_virtF W (t_appendCx l hw hEL cst fst ust W.old B hLo hcap hLc hbig (by omega)) (fun y q => q) ⟨_, _, rfl, (hI hw 147 rfl)⟩ (hI hw 144 rfl) (hI hw 145 rfl) (hI hw 147 rfl) (hI hw 146 rfl) (hI hw 32 rfl) (hI hw 148 rfl) (by decide) pd_38 (B.2.2.1) (argsL := [_]) rfl rfl (pc' := 135) rfl (by rw [hml]; rfl) (D tx_132) rfl (Wn := 0) (Nat.le_refl _) (by decide) (by decide) (by decide) (by decide) (fun v T g3 FF W hg hQ => ?_)
          obtain ⟨t', cap', rfl, rfl, ht', K2, B2⟩ := hQ
          replace W := W.drop (F' := [t']) (fun z hz => List.mem_append.mpr (Or.inl hz))
          refine g_pop W (pc' := 136) (D tx_135) rfl rfl ?_
          refine g_iinc W (pc' := 139) (D tx_136) rfl rfl (ls' := #[_, _, _, _]) rfl ?_
          refine g_goto W (pc' := 14) (D tx_139) (by decide) (by decide) ?_
          refine J2 _ (Or.inr ⟨_, rfl⟩) _ _ t' _ (keep_ext ((ext_keep E9 []).trans K2 (fun z hz => Or.inr (by rcases List.mem_cons.mp hz with rfl | hz; exact hb; cases List.mem_singleton.mp hz; exact ht)))) (by rcases ht' with rfl | r; exact ht; exact Nat.le_trans E9.1 r) (Or.inr ⟨cap', B2⟩) ?_ ?_ hk (W.more (by decide) (by decide))
          · rw [List.append_assoc, ← hout, ev]
          · simp only [List.length_append, List.length_cons, List.length_nil]; omega
        · refine g_virtF W (t_appendC l hw hEL cst W.old B ⟨hLc.1, hbig⟩ hcap (by omega)) (fun y q => q) ⟨_, _, rfl, (hI hw 147 rfl)⟩ (hI hw 144 rfl) (hI hw 145 rfl) (hI hw 147 rfl) (hI hw 146 rfl) (hI hw 32 rfl) (hI hw 148 rfl) (by decide) pd_38 (B.2.2.1) (argsL := [_]) rfl rfl (pc' := 135) rfl (by rw [hml]; rfl) (D tx_132) rfl (Wn := 0) (Nat.le_refl _) (by decide) (by decide) (by decide) (by decide) (fun v T g3 FF W hg hQ => ?_)
          obtain ⟨t', cap', rfl, rfl, ht', hc', K2, B2⟩ := hQ
          replace W := W.drop (F' := [t']) (fun z hz => List.mem_append.mpr (Or.inl hz))
          refine g_pop W (pc' := 136) (D tx_135) rfl rfl ?_
          refine g_iinc W (pc' := 139) (D tx_136) rfl rfl (ls' := #[_, _, _, _]) rfl ?_
          refine g_goto W (pc' := 14) (D tx_139) (by decide) (by decide) ?_
          refine J2 _ (Or.inr ⟨_, rfl⟩) _ _ t' _ (keep_ext ((ext_keep E9 []).trans K2 (fun z hz => Or.inr (by rcases List.mem_cons.mp hz with rfl | hz; exact hb; cases List.mem_singleton.mp hz; exact ht)))) (by rcases ht' with rfl | r; exact ht; exact Nat.le_trans E9.1 r) (Or.inl ⟨cap', hc', B2, hLo.app (Latin.cons hLc.1 hbig Latin.nil)⟩) ?_ ?_ hk (W.more (by decide) (by decide))
          · rw [List.append_assoc, ← hout, ev]
          · simp only [List.length_append, List.length_cons, List.length_nil]; omega
      · refine g_virtF W (t_appendC6 l hw hEL cst fst ust W.old B hLc (by omega)) (fun y q => q) ⟨_, _, rfl, (hI hw 147 rfl)⟩ (hI hw 144 rfl) (hI hw 145 rfl) (hI hw 147 rfl) (hI hw 146 rfl) (hI hw 32 rfl) (hI hw 148 rfl) (by decide) pd_38 (B.2.2.1) (argsL := [_]) rfl rfl (pc' := 135) rfl (by rw [hml]; rfl) (D tx_132) rfl (Wn := 0) (Nat.le_refl _) (by decide) (by decide) (by decide) (by decide) (fun v T g3 FF W hg hQ => ?_)
        obtain ⟨t', cap', rfl, rfl, ht', K2, B2⟩ := hQ
        replace W := W.drop (F' := [t']) (fun z hz => List.mem_append.mpr (Or.inl hz))
        refine g_pop W (pc' := 136) (D tx_135) rfl rfl ?_
        refine g_iinc W (pc' := 139) (D tx_136) rfl rfl (ls' := #[_, _, _, _]) rfl ?_
        refine g_goto W (pc' := 14) (D tx_139) (by decide) (by decide) ?_
        refine J2 _ (Or.inr ⟨_, rfl⟩) _ _ t' _ (keep_ext ((ext_keep E9 []).trans K2 (fun z hz => Or.inr (by rcases List.mem_cons.mp hz with rfl | hz; exact hb; cases List.mem_singleton.mp hz; exact ht)))) (by rcases ht' with rfl | r; exact ht; exact Nat.le_trans E9.1 r) (Or.inr ⟨cap', B2⟩) ?_ ?_ hk (W.more (by decide) (by decide))
        · rw [List.append_assoc, ← hout, ev]
        · simp only [List.length_append, List.length_cons, List.length_nil]; omega
  have J0 : ∀ (sl : Slot) (hsl : sl = .unset ∨ ∃ v, sl = .val (.int v)) (T : State) (g : Heap) (t : Addr) (out : List Int32), Ext h g → h.size ≤ t → Bg Z g b t out → out ++ escT (cs.drop 0) = escT cs → out.length ≤ 0 → 0 ≤ cs.length → Wd p l e { frames := 9, cells := 13, slots := 868, locals := 134 } s m #[.ref y] below meth c Z a0 consts_1 HT [t] T g 2 20 → Go p e below (Endp Z consts_1 s (Ret fun v h' => ∃ r, v = .ref r ∧ Ext h h' ∧ StrG Z h' r (escT cs)) 13 868) T (mkF m 14 #[.val (.ref y), .val (.ref b), .val (.int 0), sl] []) := by
    intro sl hsl T g t out E0 ht B hout hlen hi W
    refine g_iloadN W (pc' := 15) (D tx_14) rfl rfl ?_
    refine g_aloadN W (pc' := 16) (D tx_15) rfl rfl (by first | rfl | assumption) ?_
    refine g_virt W (t_lenG l hw hEL cst fst ust W.old (S.ext E0)) (fun x q => nomatch q) ⟨_, _, rfl, (hI hw 36 rfl)⟩ (hI hw 33 rfl) (hI hw 34 rfl) (hI hw 36 rfl) (hI hw 35 rfl) (hI hw 6 rfl) (hI hw 37 rfl) (by decide) pd_4 ((S.ext E0).exa) (argsL := []) rfl rfl (pc' := 19) rfl (by rw [hml]; rfl) (D tx_16) rfl (Wn := 1) (Nat.le_refl _) (by decide) (by decide) (by decide) (by decide) (fun v T g0 W hg hQ => ?_)
    obtain ⟨rfl, rfl⟩ := hQ
    rcases Nat.lt_or_ge 0 cs.length with hk | hk
    rotate_left
    · refine g_icmpgeY W (pc1 := 142) (pc2 := 22) (D tx_19) (by decide) (by decide) rfl ((by have := min_lt (n := cs.length) (m := 0) hk (by decide); simpa using this)) ?_
      refine g_aloadN W (pc' := 143) (D tx_142) rfl rfl (by first | rfl | assumption) ?_
      have eo : out = escT cs := by rw [← hout, List.drop_eq_nil_of_le (by omega)]; simp [escT]
      subst eo
      rcases B with ⟨cap, hcap, B, hLo⟩ | ⟨cap, B⟩
      · refine g_virt W (t_toStr l hw hEL cst W.old B (by omega) hLo) (fun x q => nomatch q) ⟨_, _, rfl, (hI hw 62 rfl)⟩ (hI hw 59 rfl) (hI hw 60 rfl) (hI hw 62 rfl) (hI hw 61 rfl) (hI hw 32 rfl) (hI hw 63 rfl) (by decide) pd_35 (B.2.2.1) (argsL := []) rfl rfl (pc' := 146) rfl (by rw [hml]; rfl) (D tx_143) rfl (Wn := 0) (Nat.le_refl _) (by decide) (by decide) (by decide) (by decide) (fun v T g2 W hg hQ => ?_)
        obtain ⟨r, rfl, E2, SR⟩ := hQ
        exact g_areturn W (D tx_146) hret rfl rfl (by decide) (by decide) ⟨_, rfl, r, rfl, ext_trans E0 E2, Or.inl SR⟩
      · refine g_virt W (t_toStr6 l hw hEL cst fst ust W.old B (by omega)) (fun x q => nomatch q) ⟨_, _, rfl, (hI hw 62 rfl)⟩ (hI hw 59 rfl) (hI hw 60 rfl) (hI hw 62 rfl) (hI hw 61 rfl) (hI hw 32 rfl) (hI hw 63 rfl) (by decide) pd_35 (B.2.2.1) (argsL := []) rfl rfl (pc' := 146) rfl (by rw [hml]; rfl) (D tx_143) rfl (Wn := 0) (Nat.le_refl _) (by decide) (by decide) (by decide) (by decide) (fun v T g2 W hg hQ => ?_)
        obtain ⟨r, rfl, E2, SR⟩ := hQ
        exact g_areturn W (D tx_146) hret rfl rfl (by decide) (by decide) ⟨_, rfl, r, rfl, ext_trans E0 E2, Or.inr SR⟩
    · refine g_icmpgeN W (pc1 := 142) (pc2 := 22) (D tx_19) (by decide) (by decide) rfl ((by rw [Int32.lt_iff_toInt_lt, Int32.toInt_ofNat_small (by omega)]; have e0 : (0 : Int32).toInt = 0 := rfl; omega)) ?_
      refine g_aloadN W (pc' := 23) (D tx_22) rfl rfl (by first | rfl | assumption) ?_
      refine g_iloadN W (pc' := 24) (D tx_23) rfl rfl ?_
      refine g_virt W (t_charAtG l hw hEL cst fst ust W.old (S.ext E0) (i := 0) hk) (fun x q => nomatch q) ⟨_, _, rfl, (hI hw 125 rfl)⟩ (hI hw 122 rfl) (hI hw 123 rfl) (hI hw 125 rfl) (hI hw 124 rfl) (hI hw 6 rfl) (hI hw 126 rfl) (by decide) pd_36 ((S.ext E0).exa) (argsL := [_]) rfl rfl (pc' := 27) rfl (by rw [hml]; rfl) (D tx_24) rfl (Wn := 0) (Nat.le_refl _) (by decide) (by decide) (by decide) (by decide) (fun v T g0 W hg hQ => ?_)
      obtain ⟨rfl, rfl⟩ := hQ
      have hd := drop_getD hk
      have hLc := wide_get hWd 0
      generalize cs.getD 0 0 = ch at hd hLc ⊢
      rw [hd, escT_cons] at hout
      refine g_istoreN W (pc' := 28) (D tx_27) rfl (ls' := #[_, _, _, .val (.int ch)]) (by rcases hsl with rfl | ⟨v, rfl⟩ <;> rfl) ?_
      refine g_iloadN W (pc' := 29) (D tx_28) rfl rfl ?_
      by_cases q38 : ch = 38
      · subst q38
        refine g_lookHit W (pc' := 80) (D tx_29) (by decide) (a := 38) (off := 51) (by decide) (by decide) (by decide) ?_
        refine g_aloadN W (pc' := 81) (D tx_80) rfl rfl (by first | rfl | assumption) ?_
        refine g_ldcU W (pc' := 83) (text := "&amp;") (cs := [38, 97, 109, 112, 59]) (hI hw 290 rfl) wS (by decide) (by decide +kernel) (by unfold Latin; decide) (by decide) (nn := 20) (by decide) (by decide) (D tx_81) rfl (by decide) (by decide) (fun sl2 T g2 W E2 SL hU => ?_)
        obtain ⟨u, fu, Au, hne⟩ := hU
        have hut : u ≠ t := (hne t (List.mem_singleton.mpr rfl)).symm
        have E9 := ext_trans E0 E2
        rcases B with ⟨cap, hcap, B, hLo⟩ | ⟨cap, B⟩
        · refine g_virtF W (t_append l hw hEL cst W.old (B.ext E2) SL hcap (by simp only [List.length_cons, List.length_nil]; omega)) (fun y q => q) ⟨_, _, rfl, (hI hw 166 rfl)⟩ (hI hw 163 rfl) (hI hw 164 rfl) (hI hw 166 rfl) (hI hw 165 rfl) (hI hw 32 rfl) (hI hw 167 rfl) (by decide) pd_37 ((B.ext E2).2.2.1) (argsL := [_]) rfl rfl (pc' := 86) rfl (by rw [hml]; rfl) (D tx_83) rfl (Wn := 0) (Nat.le_refl _) (by decide) (by decide) (by decide) (by decide) (fun v T g3 FF W hg hQ => ?_)
          obtain ⟨t', cap', rfl, rfl, ht', hc', K2, B2⟩ := hQ
          replace W := W.drop (F' := [t']) (fun z hz => List.mem_append.mpr (Or.inl hz))
          refine g_pop W (pc' := 87) (D tx_86) rfl rfl ?_
          refine g_goto W (pc' := 136) (D tx_87) (by decide) (by decide) ?_
          refine g_iinc W (pc' := 139) (D tx_136) rfl rfl (ls' := #[_, _, _, _]) rfl ?_
          refine g_goto W (pc' := 14) (D tx_139) (by decide) (by decide) ?_
          refine J1 _ (Or.inr ⟨_, rfl⟩) _ _ t' _ (keep_ext ((ext_keep E9 []).trans K2 (fun z hz => Or.inr (by rcases List.mem_cons.mp hz with rfl | hz; exact hb; cases List.mem_singleton.mp hz; exact ht)))) (by rcases ht' with rfl | r; exact ht; exact Nat.le_trans E9.1 r) (Or.inl ⟨cap', hc', B2, hLo.app SL.2.2.2.1⟩) ?_ ?_ hk (W.more (by decide) (by decide))
          · rw [List.append_assoc, ← hout, show escS 38 = [38, 97, 109, 112, 59] from rfl]
          · simp only [List.length_append, List.length_cons, List.length_nil]; omega
        · refine g_virtF W (t_append6 l hw hEL cst fst ust W.old (B.ext E2) SL fu Au hut (by simp only [List.length_cons, List.length_nil]; omega)) (fun y q => q) ⟨_, _, rfl, (hI hw 166 rfl)⟩ (hI hw 163 rfl) (hI hw 164 rfl) (hI hw 166 rfl) (hI hw 165 rfl) (hI hw 32 rfl) (hI hw 167 rfl) (by decide) pd_37 ((B.ext E2).2.2.1) (argsL := [_]) rfl rfl (pc' := 86) rfl (by rw [hml]; rfl) (D tx_83) rfl (Wn := 0) (Nat.le_refl _) (by decide) (by decide) (by decide) (by decide) (fun v T g3 FF W hg hQ => ?_)
          obtain ⟨t', cap', rfl, rfl, ht', K2, B2⟩ := hQ
          replace W := W.drop (F' := [t']) (fun z hz => List.mem_append.mpr (Or.inl hz))
          refine g_pop W (pc' := 87) (D tx_86) rfl rfl ?_
          refine g_goto W (pc' := 136) (D tx_87) (by decide) (by decide) ?_
          refine g_iinc W (pc' := 139) (D tx_136) rfl rfl (ls' := #[_, _, _, _]) rfl ?_
          refine g_goto W (pc' := 14) (D tx_139) (by decide) (by decide) ?_
          refine J1 _ (Or.inr ⟨_, rfl⟩) _ _ t' _ (keep_ext ((ext_keep E9 []).trans K2 (fun z hz => Or.inr (by rcases List.mem_cons.mp hz with rfl | hz; exact hb; cases List.mem_singleton.mp hz; exact ht)))) (by rcases ht' with rfl | r; exact ht; exact Nat.le_trans E9.1 r) (Or.inr ⟨cap', B2⟩) ?_ ?_ hk (W.more (by decide) (by decide))
          · rw [List.append_assoc, ← hout, show escS 38 = [38, 97, 109, 112, 59] from rfl]
          · simp only [List.length_append, List.length_cons, List.length_nil]; omega
      by_cases q60 : ch = 60
      · subst q60
        refine g_lookHit W (pc' := 90) (D tx_29) (by decide) (a := 60) (off := 61) (by decide) (by decide) (by decide) ?_
        refine g_aloadN W (pc' := 91) (D tx_90) rfl rfl (by first | rfl | assumption) ?_
        refine g_ldcU W (pc' := 93) (text := "&lt;") (cs := [38, 108, 116, 59]) (hI hw 162 rfl) wS (by decide) (by decide +kernel) (by unfold Latin; decide) (by decide) (nn := 16) (by decide) (by decide) (D tx_91) rfl (by decide) (by decide) (fun sl2 T g2 W E2 SL hU => ?_)
        obtain ⟨u, fu, Au, hne⟩ := hU
        have hut : u ≠ t := (hne t (List.mem_singleton.mpr rfl)).symm
        have E9 := ext_trans E0 E2
        rcases B with ⟨cap, hcap, B, hLo⟩ | ⟨cap, B⟩
        · refine g_virtF W (t_append l hw hEL cst W.old (B.ext E2) SL hcap (by simp only [List.length_cons, List.length_nil]; omega)) (fun y q => q) ⟨_, _, rfl, (hI hw 166 rfl)⟩ (hI hw 163 rfl) (hI hw 164 rfl) (hI hw 166 rfl) (hI hw 165 rfl) (hI hw 32 rfl) (hI hw 167 rfl) (by decide) pd_37 ((B.ext E2).2.2.1) (argsL := [_]) rfl rfl (pc' := 96) rfl (by rw [hml]; rfl) (D tx_93) rfl (Wn := 0) (Nat.le_refl _) (by decide) (by decide) (by decide) (by decide) (fun v T g3 FF W hg hQ => ?_)
          obtain ⟨t', cap', rfl, rfl, ht', hc', K2, B2⟩ := hQ
          replace W := W.drop (F' := [t']) (fun z hz => List.mem_append.mpr (Or.inl hz))
          refine g_pop W (pc' := 97) (D tx_96) rfl rfl ?_
          refine g_goto W (pc' := 136) (D tx_97) (by decide) (by decide) ?_
          refine g_iinc W (pc' := 139) (D tx_136) rfl rfl (ls' := #[_, _, _, _]) rfl ?_
          refine g_goto W (pc' := 14) (D tx_139) (by decide) (by decide) ?_
          refine J1 _ (Or.inr ⟨_, rfl⟩) _ _ t' _ (keep_ext ((ext_keep E9 []).trans K2 (fun z hz => Or.inr (by rcases List.mem_cons.mp hz with rfl | hz; exact hb; cases List.mem_singleton.mp hz; exact ht)))) (by rcases ht' with rfl | r; exact ht; exact Nat.le_trans E9.1 r) (Or.inl ⟨cap', hc', B2, hLo.app SL.2.2.2.1⟩) ?_ ?_ hk (W.more (by decide) (by decide))
          · rw [List.append_assoc, ← hout, show escS 60 = [38, 108, 116, 59] from rfl]
          · simp only [List.length_append, List.length_cons, List.length_nil]; omega
        · refine g_virtF W (t_append6 l hw hEL cst fst ust W.old (B.ext E2) SL fu Au hut (by simp only [List.length_cons, List.length_nil]; omega)) (fun y q => q) ⟨_, _, rfl, (hI hw 166 rfl)⟩ (hI hw 163 rfl) (hI hw 164 rfl) (hI hw 166 rfl) (hI hw 165 rfl) (hI hw 32 rfl) (hI hw 167 rfl) (by decide) pd_37 ((B.ext E2).2.2.1) (argsL := [_]) rfl rfl (pc' := 96) rfl (by rw [hml]; rfl) (D tx_93) rfl (Wn := 0) (Nat.le_refl _) (by decide) (by decide) (by decide) (by decide) (fun v T g3 FF W hg hQ => ?_)
          obtain ⟨t', cap', rfl, rfl, ht', K2, B2⟩ := hQ
          replace W := W.drop (F' := [t']) (fun z hz => List.mem_append.mpr (Or.inl hz))
          refine g_pop W (pc' := 97) (D tx_96) rfl rfl ?_
          refine g_goto W (pc' := 136) (D tx_97) (by decide) (by decide) ?_
          refine g_iinc W (pc' := 139) (D tx_136) rfl rfl (ls' := #[_, _, _, _]) rfl ?_
          refine g_goto W (pc' := 14) (D tx_139) (by decide) (by decide) ?_
          refine J1 _ (Or.inr ⟨_, rfl⟩) _ _ t' _ (keep_ext ((ext_keep E9 []).trans K2 (fun z hz => Or.inr (by rcases List.mem_cons.mp hz with rfl | hz; exact hb; cases List.mem_singleton.mp hz; exact ht)))) (by rcases ht' with rfl | r; exact ht; exact Nat.le_trans E9.1 r) (Or.inr ⟨cap', B2⟩) ?_ ?_ hk (W.more (by decide) (by decide))
          · rw [List.append_assoc, ← hout, show escS 60 = [38, 108, 116, 59] from rfl]
          · simp only [List.length_append, List.length_cons, List.length_nil]; omega
      by_cases q62 : ch = 62
      · subst q62
        refine g_lookHit W (pc' := 100) (D tx_29) (by decide) (a := 62) (off := 71) (by decide) (by decide) (by decide) ?_
        refine g_aloadN W (pc' := 101) (D tx_100) rfl rfl (by first | rfl | assumption) ?_
        refine g_ldcU W (pc' := 103) (text := "&gt;") (cs := [38, 103, 116, 59]) (hI hw 291 rfl) wS (by decide) (by decide +kernel) (by unfold Latin; decide) (by decide) (nn := 16) (by decide) (by decide) (D tx_101) rfl (by decide) (by decide) (fun sl2 T g2 W E2 SL hU => ?_)
        obtain ⟨u, fu, Au, hne⟩ := hU
        have hut : u ≠ t := (hne t (List.mem_singleton.mpr rfl)).symm
        have E9 := ext_trans E0 E2
        rcases B with ⟨cap, hcap, B, hLo⟩ | ⟨cap, B⟩
        · refine g_virtF W (t_append l hw hEL cst W.old (B.ext E2) SL hcap (by simp only [List.length_cons, List.length_nil]; omega)) (fun y q => q) ⟨_, _, rfl, (hI hw 166 rfl)⟩ (hI hw 163 rfl) (hI hw 164 rfl) (hI hw 166 rfl) (hI hw 165 rfl) (hI hw 32 rfl) (hI hw 167 rfl) (by decide) pd_37 ((B.ext E2).2.2.1) (argsL := [_]) rfl rfl (pc' := 106) rfl (by rw [hml]; rfl) (D tx_103) rfl (Wn := 0) (Nat.le_refl _) (by decide) (by decide) (by decide) (by decide) (fun v T g3 FF W hg hQ => ?_)
          obtain ⟨t', cap', rfl, rfl, ht', hc', K2, B2⟩ := hQ
          replace W := W.drop (F' := [t']) (fun z hz => List.mem_append.mpr (Or.inl hz))
          refine g_pop W (pc' := 107) (D tx_106) rfl rfl ?_
          refine g_goto W (pc' := 136) (D tx_107) (by decide) (by decide) ?_
          refine g_iinc W (pc' := 139) (D tx_136) rfl rfl (ls' := #[_, _, _, _]) rfl ?_
          refine g_goto W (pc' := 14) (D tx_139) (by decide) (by decide) ?_
          refine J1 _ (Or.inr ⟨_, rfl⟩) _ _ t' _ (keep_ext ((ext_keep E9 []).trans K2 (fun z hz => Or.inr (by rcases List.mem_cons.mp hz with rfl | hz; exact hb; cases List.mem_singleton.mp hz; exact ht)))) (by rcases ht' with rfl | r; exact ht; exact Nat.le_trans E9.1 r) (Or.inl ⟨cap', hc', B2, hLo.app SL.2.2.2.1⟩) ?_ ?_ hk (W.more (by decide) (by decide))
          · rw [List.append_assoc, ← hout, show escS 62 = [38, 103, 116, 59] from rfl]
          · simp only [List.length_append, List.length_cons, List.length_nil]; omega
        · refine g_virtF W (t_append6 l hw hEL cst fst ust W.old (B.ext E2) SL fu Au hut (by simp only [List.length_cons, List.length_nil]; omega)) (fun y q => q) ⟨_, _, rfl, (hI hw 166 rfl)⟩ (hI hw 163 rfl) (hI hw 164 rfl) (hI hw 166 rfl) (hI hw 165 rfl) (hI hw 32 rfl) (hI hw 167 rfl) (by decide) pd_37 ((B.ext E2).2.2.1) (argsL := [_]) rfl rfl (pc' := 106) rfl (by rw [hml]; rfl) (D tx_103) rfl (Wn := 0) (Nat.le_refl _) (by decide) (by decide) (by decide) (by decide) (fun v T g3 FF W hg hQ => ?_)
          obtain ⟨t', cap', rfl, rfl, ht', K2, B2⟩ := hQ
          replace W := W.drop (F' := [t']) (fun z hz => List.mem_append.mpr (Or.inl hz))
          refine g_pop W (pc' := 107) (D tx_106) rfl rfl ?_
          refine g_goto W (pc' := 136) (D tx_107) (by decide) (by decide) ?_
          refine g_iinc W (pc' := 139) (D tx_136) rfl rfl (ls' := #[_, _, _, _]) rfl ?_
          refine g_goto W (pc' := 14) (D tx_139) (by decide) (by decide) ?_
          refine J1 _ (Or.inr ⟨_, rfl⟩) _ _ t' _ (keep_ext ((ext_keep E9 []).trans K2 (fun z hz => Or.inr (by rcases List.mem_cons.mp hz with rfl | hz; exact hb; cases List.mem_singleton.mp hz; exact ht)))) (by rcases ht' with rfl | r; exact ht; exact Nat.le_trans E9.1 r) (Or.inr ⟨cap', B2⟩) ?_ ?_ hk (W.more (by decide) (by decide))
          · rw [List.append_assoc, ← hout, show escS 62 = [38, 103, 116, 59] from rfl]
          · simp only [List.length_append, List.length_cons, List.length_nil]; omega
      by_cases q34 : ch = 34
      · subst q34
        refine g_lookHit W (pc' := 110) (D tx_29) (by decide) (a := 34) (off := 81) (by decide) (by decide) (by decide) ?_
        refine g_aloadN W (pc' := 111) (D tx_110) rfl rfl (by first | rfl | assumption) ?_
        refine g_ldcU W (pc' := 113) (text := "&quot;") (cs := [38, 113, 117, 111, 116, 59]) (hI hw 215 rfl) wS (by decide) (by decide +kernel) (by unfold Latin; decide) (by decide) (nn := 24) (by decide) (by decide) (D tx_111) rfl (by decide) (by decide) (fun sl2 T g2 W E2 SL hU => ?_)
        obtain ⟨u, fu, Au, hne⟩ := hU
        have hut : u ≠ t := (hne t (List.mem_singleton.mpr rfl)).symm
        have E9 := ext_trans E0 E2
        rcases B with ⟨cap, hcap, B, hLo⟩ | ⟨cap, B⟩
        · refine g_virtF W (t_append l hw hEL cst W.old (B.ext E2) SL hcap (by simp only [List.length_cons, List.length_nil]; omega)) (fun y q => q) ⟨_, _, rfl, (hI hw 166 rfl)⟩ (hI hw 163 rfl) (hI hw 164 rfl) (hI hw 166 rfl) (hI hw 165 rfl) (hI hw 32 rfl) (hI hw 167 rfl) (by decide) pd_37 ((B.ext E2).2.2.1) (argsL := [_]) rfl rfl (pc' := 116) rfl (by rw [hml]; rfl) (D tx_113) rfl (Wn := 0) (Nat.le_refl _) (by decide) (by decide) (by decide) (by decide) (fun v T g3 FF W hg hQ => ?_)
          obtain ⟨t', cap', rfl, rfl, ht', hc', K2, B2⟩ := hQ
          replace W := W.drop (F' := [t']) (fun z hz => List.mem_append.mpr (Or.inl hz))
          refine g_pop W (pc' := 117) (D tx_116) rfl rfl ?_
          refine g_goto W (pc' := 136) (D tx_117) (by decide) (by decide) ?_
          refine g_iinc W (pc' := 139) (D tx_136) rfl rfl (ls' := #[_, _, _, _]) rfl ?_
          refine g_goto W (pc' := 14) (D tx_139) (by decide) (by decide) ?_
          refine J1 _ (Or.inr ⟨_, rfl⟩) _ _ t' _ (keep_ext ((ext_keep E9 []).trans K2 (fun z hz => Or.inr (by rcases List.mem_cons.mp hz with rfl | hz; exact hb; cases List.mem_singleton.mp hz; exact ht)))) (by rcases ht' with rfl | r; exact ht; exact Nat.le_trans E9.1 r) (Or.inl ⟨cap', hc', B2, hLo.app SL.2.2.2.1⟩) ?_ ?_ hk (W.more (by decide) (by decide))
          · rw [List.append_assoc, ← hout, show escS 34 = [38, 113, 117, 111, 116, 59] from rfl]
          · simp only [List.length_append, List.length_cons, List.length_nil]; omega
        · refine g_virtF W (t_append6 l hw hEL cst fst ust W.old (B.ext E2) SL fu Au hut (by simp only [List.length_cons, List.length_nil]; omega)) (fun y q => q) ⟨_, _, rfl, (hI hw 166 rfl)⟩ (hI hw 163 rfl) (hI hw 164 rfl) (hI hw 166 rfl) (hI hw 165 rfl) (hI hw 32 rfl) (hI hw 167 rfl) (by decide) pd_37 ((B.ext E2).2.2.1) (argsL := [_]) rfl rfl (pc' := 116) rfl (by rw [hml]; rfl) (D tx_113) rfl (Wn := 0) (Nat.le_refl _) (by decide) (by decide) (by decide) (by decide) (fun v T g3 FF W hg hQ => ?_)
          obtain ⟨t', cap', rfl, rfl, ht', K2, B2⟩ := hQ
          replace W := W.drop (F' := [t']) (fun z hz => List.mem_append.mpr (Or.inl hz))
          refine g_pop W (pc' := 117) (D tx_116) rfl rfl ?_
          refine g_goto W (pc' := 136) (D tx_117) (by decide) (by decide) ?_
          refine g_iinc W (pc' := 139) (D tx_136) rfl rfl (ls' := #[_, _, _, _]) rfl ?_
          refine g_goto W (pc' := 14) (D tx_139) (by decide) (by decide) ?_
          refine J1 _ (Or.inr ⟨_, rfl⟩) _ _ t' _ (keep_ext ((ext_keep E9 []).trans K2 (fun z hz => Or.inr (by rcases List.mem_cons.mp hz with rfl | hz; exact hb; cases List.mem_singleton.mp hz; exact ht)))) (by rcases ht' with rfl | r; exact ht; exact Nat.le_trans E9.1 r) (Or.inr ⟨cap', B2⟩) ?_ ?_ hk (W.more (by decide) (by decide))
          · rw [List.append_assoc, ← hout, show escS 34 = [38, 113, 117, 111, 116, 59] from rfl]
          · simp only [List.length_append, List.length_cons, List.length_nil]; omega
      by_cases q39 : ch = 39
      · subst q39
        refine g_lookHit W (pc' := 120) (D tx_29) (by decide) (a := 39) (off := 91) (by decide) (by decide) (by decide) ?_
        refine g_aloadN W (pc' := 121) (D tx_120) rfl rfl (by first | rfl | assumption) ?_
        refine g_ldcU W (pc' := 123) (text := "&#39;") (cs := [38, 35, 51, 57, 59]) (hI hw 252 rfl) wS (by decide) (by decide +kernel) (by unfold Latin; decide) (by decide) (nn := 20) (by decide) (by decide) (D tx_121) rfl (by decide) (by decide) (fun sl2 T g2 W E2 SL hU => ?_)
        obtain ⟨u, fu, Au, hne⟩ := hU
        have hut : u ≠ t := (hne t (List.mem_singleton.mpr rfl)).symm
        have E9 := ext_trans E0 E2
        rcases B with ⟨cap, hcap, B, hLo⟩ | ⟨cap, B⟩
        · refine g_virtF W (t_append l hw hEL cst W.old (B.ext E2) SL hcap (by simp only [List.length_cons, List.length_nil]; omega)) (fun y q => q) ⟨_, _, rfl, (hI hw 166 rfl)⟩ (hI hw 163 rfl) (hI hw 164 rfl) (hI hw 166 rfl) (hI hw 165 rfl) (hI hw 32 rfl) (hI hw 167 rfl) (by decide) pd_37 ((B.ext E2).2.2.1) (argsL := [_]) rfl rfl (pc' := 126) rfl (by rw [hml]; rfl) (D tx_123) rfl (Wn := 0) (Nat.le_refl _) (by decide) (by decide) (by decide) (by decide) (fun v T g3 FF W hg hQ => ?_)
          obtain ⟨t', cap', rfl, rfl, ht', hc', K2, B2⟩ := hQ
          replace W := W.drop (F' := [t']) (fun z hz => List.mem_append.mpr (Or.inl hz))
          refine g_pop W (pc' := 127) (D tx_126) rfl rfl ?_
          refine g_goto W (pc' := 136) (D tx_127) (by decide) (by decide) ?_
          refine g_iinc W (pc' := 139) (D tx_136) rfl rfl (ls' := #[_, _, _, _]) rfl ?_
          refine g_goto W (pc' := 14) (D tx_139) (by decide) (by decide) ?_
          refine J1 _ (Or.inr ⟨_, rfl⟩) _ _ t' _ (keep_ext ((ext_keep E9 []).trans K2 (fun z hz => Or.inr (by rcases List.mem_cons.mp hz with rfl | hz; exact hb; cases List.mem_singleton.mp hz; exact ht)))) (by rcases ht' with rfl | r; exact ht; exact Nat.le_trans E9.1 r) (Or.inl ⟨cap', hc', B2, hLo.app SL.2.2.2.1⟩) ?_ ?_ hk (W.more (by decide) (by decide))
          · rw [List.append_assoc, ← hout, show escS 39 = [38, 35, 51, 57, 59] from rfl]
          · simp only [List.length_append, List.length_cons, List.length_nil]; omega
        · refine g_virtF W (t_append6 l hw hEL cst fst ust W.old (B.ext E2) SL fu Au hut (by simp only [List.length_cons, List.length_nil]; omega)) (fun y q => q) ⟨_, _, rfl, (hI hw 166 rfl)⟩ (hI hw 163 rfl) (hI hw 164 rfl) (hI hw 166 rfl) (hI hw 165 rfl) (hI hw 32 rfl) (hI hw 167 rfl) (by decide) pd_37 ((B.ext E2).2.2.1) (argsL := [_]) rfl rfl (pc' := 126) rfl (by rw [hml]; rfl) (D tx_123) rfl (Wn := 0) (Nat.le_refl _) (by decide) (by decide) (by decide) (by decide) (fun v T g3 FF W hg hQ => ?_)
          obtain ⟨t', cap', rfl, rfl, ht', K2, B2⟩ := hQ
          replace W := W.drop (F' := [t']) (fun z hz => List.mem_append.mpr (Or.inl hz))
          refine g_pop W (pc' := 127) (D tx_126) rfl rfl ?_
          refine g_goto W (pc' := 136) (D tx_127) (by decide) (by decide) ?_
          refine g_iinc W (pc' := 139) (D tx_136) rfl rfl (ls' := #[_, _, _, _]) rfl ?_
          refine g_goto W (pc' := 14) (D tx_139) (by decide) (by decide) ?_
          refine J1 _ (Or.inr ⟨_, rfl⟩) _ _ t' _ (keep_ext ((ext_keep E9 []).trans K2 (fun z hz => Or.inr (by rcases List.mem_cons.mp hz with rfl | hz; exact hb; cases List.mem_singleton.mp hz; exact ht)))) (by rcases ht' with rfl | r; exact ht; exact Nat.le_trans E9.1 r) (Or.inr ⟨cap', B2⟩) ?_ ?_ hk (W.more (by decide) (by decide))
          · rw [List.append_assoc, ← hout, show escS 39 = [38, 35, 51, 57, 59] from rfl]
          · simp only [List.length_append, List.length_cons, List.length_nil]; omega
      refine g_lookMiss W (pc' := 130) (D tx_29) (by decide) (by
        simp only [List.find?_toArray, List.find?_cons, List.find?_nil]
        rw [show ((34 : Int) == ch.toInt) = false from beq_eq_false_iff_ne.mpr (int_ne 34 rfl q34)]
        rw [show ((38 : Int) == ch.toInt) = false from beq_eq_false_iff_ne.mpr (int_ne 38 rfl q38)]
        rw [show ((39 : Int) == ch.toInt) = false from beq_eq_false_iff_ne.mpr (int_ne 39 rfl q39)]
        rw [show ((60 : Int) == ch.toInt) = false from beq_eq_false_iff_ne.mpr (int_ne 60 rfl q60)]
        rw [show ((62 : Int) == ch.toInt) = false from beq_eq_false_iff_ne.mpr (int_ne 62 rfl q62)]
        ) (by decide) (by decide) ?_
      have E9 := E0
      have ev : escS ch = [ch] := by unfold escS; rw [if_neg q38, if_neg q60, if_neg q62, if_neg q34, if_neg q39]
      refine g_aloadN W (pc' := 131) (D tx_130) rfl rfl (by first | rfl | assumption) ?_
      refine g_iloadN W (pc' := 132) (D tx_131) rfl rfl ?_
      rcases B with ⟨cap, hcap, B, hLo⟩ | ⟨cap, B⟩
      · by_cases hbig : (255 : Int32) < ch
        · refine g_virtF W (t_appendCx l hw hEL cst fst ust W.old B hLo hcap hLc hbig (by omega)) (fun y q => q) ⟨_, _, rfl, (hI hw 147 rfl)⟩ (hI hw 144 rfl) (hI hw 145 rfl) (hI hw 147 rfl) (hI hw 146 rfl) (hI hw 32 rfl) (hI hw 148 rfl) (by decide) pd_38 (B.2.2.1) (argsL := [_]) rfl rfl (pc' := 135) rfl (by rw [hml]; rfl) (D tx_132) rfl (Wn := 0) (Nat.le_refl _) (by decide) (by decide) (by decide) (by decide) (fun v T g3 FF W hg hQ => ?_)
          obtain ⟨t', cap', rfl, rfl, ht', K2, B2⟩ := hQ
          replace W := W.drop (F' := [t']) (fun z hz => List.mem_append.mpr (Or.inl hz))
          refine g_pop W (pc' := 136) (D tx_135) rfl rfl ?_
          refine g_iinc W (pc' := 139) (D tx_136) rfl rfl (ls' := #[_, _, _, _]) rfl ?_
          refine g_goto W (pc' := 14) (D tx_139) (by decide) (by decide) ?_
          refine J1 _ (Or.inr ⟨_, rfl⟩) _ _ t' _ (keep_ext ((ext_keep E9 []).trans K2 (fun z hz => Or.inr (by rcases List.mem_cons.mp hz with rfl | hz; exact hb; cases List.mem_singleton.mp hz; exact ht)))) (by rcases ht' with rfl | r; exact ht; exact Nat.le_trans E9.1 r) (Or.inr ⟨cap', B2⟩) ?_ ?_ hk (W.more (by decide) (by decide))
          · rw [List.append_assoc, ← hout, ev]
          · simp only [List.length_append, List.length_cons, List.length_nil]; omega
        · refine g_virtF W (t_appendC l hw hEL cst W.old B ⟨hLc.1, hbig⟩ hcap (by omega)) (fun y q => q) ⟨_, _, rfl, (hI hw 147 rfl)⟩ (hI hw 144 rfl) (hI hw 145 rfl) (hI hw 147 rfl) (hI hw 146 rfl) (hI hw 32 rfl) (hI hw 148 rfl) (by decide) pd_38 (B.2.2.1) (argsL := [_]) rfl rfl (pc' := 135) rfl (by rw [hml]; rfl) (D tx_132) rfl (Wn := 0) (Nat.le_refl _) (by decide) (by decide) (by decide) (by decide) (fun v T g3 FF W hg hQ => ?_)
          obtain ⟨t', cap', rfl, rfl, ht', hc', K2, B2⟩ := hQ
          replace W := W.drop (F' := [t']) (fun z hz => List.mem_append.mpr (Or.inl hz))
          refine g_pop W (pc' := 136) (D tx_135) rfl rfl ?_
          refine g_iinc W (pc' := 139) (D tx_136) rfl rfl (ls' := #[_, _, _, _]) rfl ?_
          refine g_goto W (pc' := 14) (D tx_139) (by decide) (by decide) ?_
          refine J1 _ (Or.inr ⟨_, rfl⟩) _ _ t' _ (keep_ext ((ext_keep E9 []).trans K2 (fun z hz => Or.inr (by rcases List.mem_cons.mp hz with rfl | hz; exact hb; cases List.mem_singleton.mp hz; exact ht)))) (by rcases ht' with rfl | r; exact ht; exact Nat.le_trans E9.1 r) (Or.inl ⟨cap', hc', B2, hLo.app (Latin.cons hLc.1 hbig Latin.nil)⟩) ?_ ?_ hk (W.more (by decide) (by decide))
          · rw [List.append_assoc, ← hout, ev]
          · simp only [List.length_append, List.length_cons, List.length_nil]; omega
      · refine g_virtF W (t_appendC6 l hw hEL cst fst ust W.old B hLc (by omega)) (fun y q => q) ⟨_, _, rfl, (hI hw 147 rfl)⟩ (hI hw 144 rfl) (hI hw 145 rfl) (hI hw 147 rfl) (hI hw 146 rfl) (hI hw 32 rfl) (hI hw 148 rfl) (by decide) pd_38 (B.2.2.1) (argsL := [_]) rfl rfl (pc' := 135) rfl (by rw [hml]; rfl) (D tx_132) rfl (Wn := 0) (Nat.le_refl _) (by decide) (by decide) (by decide) (by decide) (fun v T g3 FF W hg hQ => ?_)
        obtain ⟨t', cap', rfl, rfl, ht', K2, B2⟩ := hQ
        replace W := W.drop (F' := [t']) (fun z hz => List.mem_append.mpr (Or.inl hz))
        refine g_pop W (pc' := 136) (D tx_135) rfl rfl ?_
        refine g_iinc W (pc' := 139) (D tx_136) rfl rfl (ls' := #[_, _, _, _]) rfl ?_
        refine g_goto W (pc' := 14) (D tx_139) (by decide) (by decide) ?_
        refine J1 _ (Or.inr ⟨_, rfl⟩) _ _ t' _ (keep_ext ((ext_keep E9 []).trans K2 (fun z hz => Or.inr (by rcases List.mem_cons.mp hz with rfl | hz; exact hb; cases List.mem_singleton.mp hz; exact ht)))) (by rcases ht' with rfl | r; exact ht; exact Nat.le_trans E9.1 r) (Or.inr ⟨cap', B2⟩) ?_ ?_ hk (W.more (by decide) (by decide))
        · rw [List.append_assoc, ← hout, ev]
        · simp only [List.length_append, List.length_cons, List.length_nil]; omega
  refine g_dup W (pc' := 4) (D tx_3) rfl rfl ?_
  refine g_aloadN W (pc' := 5) (D tx_4) rfl rfl (by first | rfl | assumption) ?_
  refine g_virt W (t_lenG l hw hEL cst fst ust W.old (S.ext E1)) (fun x q => nomatch q) ⟨_, _, rfl, (hI hw 36 rfl)⟩ (hI hw 33 rfl) (hI hw 34 rfl) (hI hw 36 rfl) (hI hw 35 rfl) (hI hw 6 rfl) (hI hw 37 rfl) (by decide) pd_4 ((S.ext E1).exa) (argsL := []) rfl rfl (pc' := 8) rfl (by rw [hml]; rfl) (D tx_5) rfl (Wn := 2) (Nat.le_refl _) (by decide) (by decide) (by decide) (by decide) (fun v T g0 W hg hQ => ?_)
  obtain ⟨rfl, rfl⟩ := hQ
  refine g_specF W (t_initBI l hw hEL cst W.old hbz B3.1 v0 v1 v2 v3 (n := cs.length) (by omega)) (fun x q => nomatch q) rfl (hI hw 44 rfl) (hI hw 45 rfl) (hI hw 32 rfl) (hI hw 46 rfl) (by decide) pd_12 (argsL := [_]) rfl rfl (pc' := 11) rfl (by rw [hml]; rfl) (D tx_8) rfl (Wn := 1) (Nat.le_refl _) (by decide) (by decide) (by decide) (by decide) (fun T g2 FF W hg hQ => ?_)
  obtain ⟨t, rfl, ht, K1, Bd⟩ := hQ
  replace W := W.drop (F' := [t]) (fun z hz => List.mem_append.mpr (Or.inl hz))
  have EE : Ext h g2 := keep_ext ((ext_keep E1 []).trans K1 (own_new hb))
  refine g_astoreN W (pc' := 12) (D tx_11) rfl (by first | rfl | assumption) (ls' := #[_, _, _, _]) rfl ?_
  refine g_iconst W (pc' := 13) (D tx_12) rfl (v := (0 : Int32)) (by decide) ?_
  refine g_istoreN W (pc' := 14) (D tx_13) rfl (ls' := #[_, _, _, _]) rfl ?_
  exact J0 _ (Or.inl rfl) _ _ t [] EE (Nat.le_trans E1.1 ht) (Or.inl ⟨_, by omega, Bd, Latin.nil⟩) (by simp) (by simp) (by omega) W
theorem escT_nil : escT [] = [] := rfl
theorem dw_0 : decode method_4_code 0 = .ok (.iload_n 0, 1) := by decide +kernel
theorem dw_1 : decode method_4_code 1 = .ok (.iconst 1, 1) := by decide +kernel
theorem dw_2 : decode method_4_code 2 = .ok (.iushr, 1) := by decide +kernel
theorem dw_3 : decode method_4_code 3 = .ok (.istore_n 1, 1) := by decide +kernel
theorem dw_4 : decode method_4_code 4 = .ok (.iload_n 0, 1) := by decide +kernel
theorem dw_5 : decode method_4_code 5 = .ok (.iconst 1, 1) := by decide +kernel
theorem dw_6 : decode method_4_code 6 = .ok (.iand, 1) := by decide +kernel
theorem dw_7 : decode method_4_code 7 = .ok (.ifCond .ne 41, 3) := by decide +kernel
theorem dw_10 : decode method_4_code 10 = .ok (.iload_n 1, 1) := by decide +kernel
theorem dw_11 : decode method_4_code 11 = .ok (.iconst 5, 1) := by decide +kernel
theorem dw_12 : decode method_4_code 12 = .ok (.irem, 1) := by decide +kernel
theorem dw_13 : decode method_4_code 13 = .ok (.istore_n 2, 1) := by decide +kernel
theorem dw_14 : decode method_4_code 14 = .ok (.iload_n 2, 1) := by decide +kernel
theorem dw_15 : decode method_4_code 15 = .ok (.ifCond .ne 6, 3) := by decide +kernel
theorem dw_18 : decode method_4_code 18 = .ok (.bipush 38, 2) := by decide +kernel
theorem dw_20 : decode method_4_code 20 = .ok (.ireturn, 1) := by decide +kernel
theorem dw_21 : decode method_4_code 21 = .ok (.iload_n 2, 1) := by decide +kernel
theorem dw_22 : decode method_4_code 22 = .ok (.iconst 1, 1) := by decide +kernel
theorem dw_23 : decode method_4_code 23 = .ok (.if_icmp .ne 6, 3) := by decide +kernel
theorem dw_26 : decode method_4_code 26 = .ok (.bipush 60, 2) := by decide +kernel
theorem dw_28 : decode method_4_code 28 = .ok (.ireturn, 1) := by decide +kernel
theorem dw_29 : decode method_4_code 29 = .ok (.iload_n 2, 1) := by decide +kernel
theorem dw_30 : decode method_4_code 30 = .ok (.iconst 2, 1) := by decide +kernel
theorem dw_31 : decode method_4_code 31 = .ok (.if_icmp .ne 6, 3) := by decide +kernel
theorem dw_34 : decode method_4_code 34 = .ok (.bipush 62, 2) := by decide +kernel
theorem dw_36 : decode method_4_code 36 = .ok (.ireturn, 1) := by decide +kernel
theorem dw_37 : decode method_4_code 37 = .ok (.iload_n 2, 1) := by decide +kernel
theorem dw_38 : decode method_4_code 38 = .ok (.iconst 3, 1) := by decide +kernel
theorem dw_39 : decode method_4_code 39 = .ok (.if_icmp .ne 6, 3) := by decide +kernel
theorem dw_42 : decode method_4_code 42 = .ok (.bipush 34, 2) := by decide +kernel
theorem dw_44 : decode method_4_code 44 = .ok (.ireturn, 1) := by decide +kernel
theorem dw_45 : decode method_4_code 45 = .ok (.bipush 39, 2) := by decide +kernel
theorem dw_47 : decode method_4_code 47 = .ok (.ireturn, 1) := by decide +kernel
theorem dw_48 : decode method_4_code 48 = .ok (.iload_n 1, 1) := by decide +kernel
theorem dw_49 : decode method_4_code 49 = .ok (.i2c, 1) := by decide +kernel
theorem dw_50 : decode method_4_code 50 = .ok (.ireturn, 1) := by decide +kernel
theorem efDw (m : MethodId) (x0 : Int32) : entryFrame m #[.int x0] 3 = mkF m 0 #[.val (.int x0), .unset, .unset] [] := by first | (simp [entryFrame, mkF, argsToLocals, Value.category, maxLocals]; done) | rfl
set_option maxRecDepth 65536 in
set_option maxHeartbeats 8000000 in
theorem t_draw (l : Launch) {Z : State} {a0 : Array Value} (hEL : EW Z a0 consts_1) {h : Heap} (hO : Ext Z.heap h) {x : Int32} :
    Met l Z consts_1 [] (⟨LW, "draw", "(I)C"⟩ : MethodName) method_4_code 3 (some .char) { frames := 0, cells := 0, slots := 0, locals := 0 } #[.int x] h (Ret fun v h' => (∃ ch, v = .int ch ∧ Wc ch) ∧ h = h') := by
  refine Met.intro pnLW hEL hO ?_
  intro p e s m below meth c T W hby hml hret hnm
  have D : ∀ {pc : Nat} {r}, decode method_4_code pc = r → decode c.code pc = r := fun q => hb hby q
  refine Go.cast (efDw m x) ?_
  refine g_iloadN W (pc' := 1) (D dw_0) rfl rfl ?_
  refine g_iconst W (pc' := 2) (D dw_1) rfl (v := (1 : Int32)) (by decide) ?_
  refine g_iushr W (pc' := 3) (D dw_2) rfl ?_
  refine g_istoreN W (pc' := 4) (D dw_3) rfl (ls' := #[_, _, _]) rfl ?_
  refine g_iloadN W (pc' := 5) (D dw_4) rfl rfl ?_
  refine g_iconst W (pc' := 6) (D dw_5) rfl (v := (1 : Int32)) (by decide) ?_
  refine g_iand W (pc' := 7) (D dw_6) rfl ?_
  refine g_ifne W (pc1 := 48) (pc2 := 10) (D dw_7) (by decide) (by decide) rfl (fun q => ?_) (fun q => ?_)
  · refine g_iloadN W (pc' := 49) (D dw_48) rfl rfl ?_
    refine g_i2c W (pc' := 50) (D dw_49) rfl ?_
    have hq : Wc (XT.ushr x 1).toUInt32.toUInt16.toUInt32.toInt32 := by
      have k := c_i2c (XT.ushr x 1)
      have e0 : (0 : Int32).toInt = 0 := rfl
      have e1 : (65535 : Int32).toInt = 65535 := rfl
      constructor <;> (rw [Int32.lt_iff_toInt_lt]; omega)
    exact g_retc W (D dw_50) hret (nar_w hq) (by decide) (by decide) ⟨_, rfl, ⟨_, rfl, hq⟩, rfl⟩
  · refine g_iloadN W (pc' := 11) (D dw_10) rfl rfl ?_
    refine g_iconst W (pc' := 12) (D dw_11) rfl (v := (5 : Int32)) (by decide) ?_
    refine g_irem W (pc' := 13) (D dw_12) rfl (by first | decide | assumption) ?_
    refine g_istoreN W (pc' := 14) (D dw_13) rfl (ls' := #[_, _, _]) rfl ?_
    refine g_iloadN W (pc' := 15) (D dw_14) rfl rfl ?_
    refine g_ifne W (pc1 := 21) (pc2 := 18) (D dw_15) (by decide) (by decide) rfl (fun q15 => ?_) (fun q15 => ?_)
    rotate_left
    · refine g_bipush W (pc' := 20) (D dw_18) rfl (v := (38 : Int32)) (by decide) ?_
      exact g_retc W (D dw_20) hret (nar_w ⟨by decide, by decide⟩) (by decide) (by decide) ⟨_, rfl, ⟨_, rfl, ⟨by decide, by decide⟩⟩, rfl⟩
    · skip
      refine g_iloadN W (pc' := 22) (D dw_21) rfl rfl ?_
      refine g_iconst W (pc' := 23) (D dw_22) rfl (v := (1 : Int32)) (by decide) ?_
      refine g_icmpne W (pc1 := 29) (pc2 := 26) (D dw_23) (by decide) (by decide) rfl (fun q23 => ?_) (fun q23 => ?_)
      rotate_left
      · refine g_bipush W (pc' := 28) (D dw_26) rfl (v := (60 : Int32)) (by decide) ?_
        exact g_retc W (D dw_28) hret (nar_w ⟨by decide, by decide⟩) (by decide) (by decide) ⟨_, rfl, ⟨_, rfl, ⟨by decide, by decide⟩⟩, rfl⟩
      · skip
        refine g_iloadN W (pc' := 30) (D dw_29) rfl rfl ?_
        refine g_iconst W (pc' := 31) (D dw_30) rfl (v := (2 : Int32)) (by decide) ?_
        refine g_icmpne W (pc1 := 37) (pc2 := 34) (D dw_31) (by decide) (by decide) rfl (fun q31 => ?_) (fun q31 => ?_)
        rotate_left
        · refine g_bipush W (pc' := 36) (D dw_34) rfl (v := (62 : Int32)) (by decide) ?_
          exact g_retc W (D dw_36) hret (nar_w ⟨by decide, by decide⟩) (by decide) (by decide) ⟨_, rfl, ⟨_, rfl, ⟨by decide, by decide⟩⟩, rfl⟩
        · skip
          refine g_iloadN W (pc' := 38) (D dw_37) rfl rfl ?_
          refine g_iconst W (pc' := 39) (D dw_38) rfl (v := (3 : Int32)) (by decide) ?_
          refine g_icmpne W (pc1 := 45) (pc2 := 42) (D dw_39) (by decide) (by decide) rfl (fun q39 => ?_) (fun q39 => ?_)
          rotate_left
          · refine g_bipush W (pc' := 44) (D dw_42) rfl (v := (34 : Int32)) (by decide) ?_
            exact g_retc W (D dw_44) hret (nar_w ⟨by decide, by decide⟩) (by decide) (by decide) ⟨_, rfl, ⟨_, rfl, ⟨by decide, by decide⟩⟩, rfl⟩
          · skip
            refine g_bipush W (pc' := 47) (D dw_45) rfl (v := (39 : Int32)) (by decide) ?_
            exact g_retc W (D dw_47) hret (nar_w ⟨by decide, by decide⟩) (by decide) (by decide) ⟨_, rfl, ⟨_, rfl, ⟨by decide, by decide⟩⟩, rfl⟩
theorem pu_0 : decode method_5_code 0 = .ok (.iload_n 2, 1) := by decide +kernel
theorem pu_1 : decode method_5_code 1 = .ok (.bipush 38, 2) := by decide +kernel
theorem pu_3 : decode method_5_code 3 = .ok (.if_icmp .ne 40, 3) := by decide +kernel
theorem pu_6 : decode method_5_code 6 = .ok (.aload_n 0, 1) := by decide +kernel
theorem pu_7 : decode method_5_code 7 = .ok (.iload_n 1, 1) := by decide +kernel
theorem pu_8 : decode method_5_code 8 = .ok (.bipush 38, 2) := by decide +kernel
theorem pu_10 : decode method_5_code 10 = .ok (.castore, 1) := by decide +kernel
theorem pu_11 : decode method_5_code 11 = .ok (.aload_n 0, 1) := by decide +kernel
theorem pu_12 : decode method_5_code 12 = .ok (.iload_n 1, 1) := by decide +kernel
theorem pu_13 : decode method_5_code 13 = .ok (.iconst 1, 1) := by decide +kernel
theorem pu_14 : decode method_5_code 14 = .ok (.iadd, 1) := by decide +kernel
theorem pu_15 : decode method_5_code 15 = .ok (.bipush 97, 2) := by decide +kernel
theorem pu_17 : decode method_5_code 17 = .ok (.castore, 1) := by decide +kernel
theorem pu_18 : decode method_5_code 18 = .ok (.aload_n 0, 1) := by decide +kernel
theorem pu_19 : decode method_5_code 19 = .ok (.iload_n 1, 1) := by decide +kernel
theorem pu_20 : decode method_5_code 20 = .ok (.iconst 2, 1) := by decide +kernel
theorem pu_21 : decode method_5_code 21 = .ok (.iadd, 1) := by decide +kernel
theorem pu_22 : decode method_5_code 22 = .ok (.bipush 109, 2) := by decide +kernel
theorem pu_24 : decode method_5_code 24 = .ok (.castore, 1) := by decide +kernel
theorem pu_25 : decode method_5_code 25 = .ok (.aload_n 0, 1) := by decide +kernel
theorem pu_26 : decode method_5_code 26 = .ok (.iload_n 1, 1) := by decide +kernel
theorem pu_27 : decode method_5_code 27 = .ok (.iconst 3, 1) := by decide +kernel
theorem pu_28 : decode method_5_code 28 = .ok (.iadd, 1) := by decide +kernel
theorem pu_29 : decode method_5_code 29 = .ok (.bipush 112, 2) := by decide +kernel
theorem pu_31 : decode method_5_code 31 = .ok (.castore, 1) := by decide +kernel
theorem pu_32 : decode method_5_code 32 = .ok (.aload_n 0, 1) := by decide +kernel
theorem pu_33 : decode method_5_code 33 = .ok (.iload_n 1, 1) := by decide +kernel
theorem pu_34 : decode method_5_code 34 = .ok (.iconst 4, 1) := by decide +kernel
theorem pu_35 : decode method_5_code 35 = .ok (.iadd, 1) := by decide +kernel
theorem pu_36 : decode method_5_code 36 = .ok (.bipush 59, 2) := by decide +kernel
theorem pu_38 : decode method_5_code 38 = .ok (.castore, 1) := by decide +kernel
theorem pu_39 : decode method_5_code 39 = .ok (.iload_n 1, 1) := by decide +kernel
theorem pu_40 : decode method_5_code 40 = .ok (.iconst 5, 1) := by decide +kernel
theorem pu_41 : decode method_5_code 41 = .ok (.iadd, 1) := by decide +kernel
theorem pu_42 : decode method_5_code 42 = .ok (.ireturn, 1) := by decide +kernel
theorem pu_43 : decode method_5_code 43 = .ok (.iload_n 2, 1) := by decide +kernel
theorem pu_44 : decode method_5_code 44 = .ok (.bipush 60, 2) := by decide +kernel
theorem pu_46 : decode method_5_code 46 = .ok (.if_icmp .ne 33, 3) := by decide +kernel
theorem pu_49 : decode method_5_code 49 = .ok (.aload_n 0, 1) := by decide +kernel
theorem pu_50 : decode method_5_code 50 = .ok (.iload_n 1, 1) := by decide +kernel
theorem pu_51 : decode method_5_code 51 = .ok (.bipush 38, 2) := by decide +kernel
theorem pu_53 : decode method_5_code 53 = .ok (.castore, 1) := by decide +kernel
theorem pu_54 : decode method_5_code 54 = .ok (.aload_n 0, 1) := by decide +kernel
theorem pu_55 : decode method_5_code 55 = .ok (.iload_n 1, 1) := by decide +kernel
theorem pu_56 : decode method_5_code 56 = .ok (.iconst 1, 1) := by decide +kernel
theorem pu_57 : decode method_5_code 57 = .ok (.iadd, 1) := by decide +kernel
theorem pu_58 : decode method_5_code 58 = .ok (.bipush 108, 2) := by decide +kernel
theorem pu_60 : decode method_5_code 60 = .ok (.castore, 1) := by decide +kernel
theorem pu_61 : decode method_5_code 61 = .ok (.aload_n 0, 1) := by decide +kernel
theorem pu_62 : decode method_5_code 62 = .ok (.iload_n 1, 1) := by decide +kernel
theorem pu_63 : decode method_5_code 63 = .ok (.iconst 2, 1) := by decide +kernel
theorem pu_64 : decode method_5_code 64 = .ok (.iadd, 1) := by decide +kernel
theorem pu_65 : decode method_5_code 65 = .ok (.bipush 116, 2) := by decide +kernel
theorem pu_67 : decode method_5_code 67 = .ok (.castore, 1) := by decide +kernel
theorem pu_68 : decode method_5_code 68 = .ok (.aload_n 0, 1) := by decide +kernel
theorem pu_69 : decode method_5_code 69 = .ok (.iload_n 1, 1) := by decide +kernel
theorem pu_70 : decode method_5_code 70 = .ok (.iconst 3, 1) := by decide +kernel
theorem pu_71 : decode method_5_code 71 = .ok (.iadd, 1) := by decide +kernel
theorem pu_72 : decode method_5_code 72 = .ok (.bipush 59, 2) := by decide +kernel
theorem pu_74 : decode method_5_code 74 = .ok (.castore, 1) := by decide +kernel
theorem pu_75 : decode method_5_code 75 = .ok (.iload_n 1, 1) := by decide +kernel
theorem pu_76 : decode method_5_code 76 = .ok (.iconst 4, 1) := by decide +kernel
theorem pu_77 : decode method_5_code 77 = .ok (.iadd, 1) := by decide +kernel
theorem pu_78 : decode method_5_code 78 = .ok (.ireturn, 1) := by decide +kernel
theorem pu_79 : decode method_5_code 79 = .ok (.iload_n 2, 1) := by decide +kernel
theorem pu_80 : decode method_5_code 80 = .ok (.bipush 62, 2) := by decide +kernel
theorem pu_82 : decode method_5_code 82 = .ok (.if_icmp .ne 33, 3) := by decide +kernel
theorem pu_85 : decode method_5_code 85 = .ok (.aload_n 0, 1) := by decide +kernel
theorem pu_86 : decode method_5_code 86 = .ok (.iload_n 1, 1) := by decide +kernel
theorem pu_87 : decode method_5_code 87 = .ok (.bipush 38, 2) := by decide +kernel
theorem pu_89 : decode method_5_code 89 = .ok (.castore, 1) := by decide +kernel
theorem pu_90 : decode method_5_code 90 = .ok (.aload_n 0, 1) := by decide +kernel
theorem pu_91 : decode method_5_code 91 = .ok (.iload_n 1, 1) := by decide +kernel
theorem pu_92 : decode method_5_code 92 = .ok (.iconst 1, 1) := by decide +kernel
theorem pu_93 : decode method_5_code 93 = .ok (.iadd, 1) := by decide +kernel
theorem pu_94 : decode method_5_code 94 = .ok (.bipush 103, 2) := by decide +kernel
theorem pu_96 : decode method_5_code 96 = .ok (.castore, 1) := by decide +kernel
theorem pu_97 : decode method_5_code 97 = .ok (.aload_n 0, 1) := by decide +kernel
theorem pu_98 : decode method_5_code 98 = .ok (.iload_n 1, 1) := by decide +kernel
theorem pu_99 : decode method_5_code 99 = .ok (.iconst 2, 1) := by decide +kernel
theorem pu_100 : decode method_5_code 100 = .ok (.iadd, 1) := by decide +kernel
theorem pu_101 : decode method_5_code 101 = .ok (.bipush 116, 2) := by decide +kernel
theorem pu_103 : decode method_5_code 103 = .ok (.castore, 1) := by decide +kernel
theorem pu_104 : decode method_5_code 104 = .ok (.aload_n 0, 1) := by decide +kernel
theorem pu_105 : decode method_5_code 105 = .ok (.iload_n 1, 1) := by decide +kernel
theorem pu_106 : decode method_5_code 106 = .ok (.iconst 3, 1) := by decide +kernel
theorem pu_107 : decode method_5_code 107 = .ok (.iadd, 1) := by decide +kernel
theorem pu_108 : decode method_5_code 108 = .ok (.bipush 59, 2) := by decide +kernel
theorem pu_110 : decode method_5_code 110 = .ok (.castore, 1) := by decide +kernel
theorem pu_111 : decode method_5_code 111 = .ok (.iload_n 1, 1) := by decide +kernel
theorem pu_112 : decode method_5_code 112 = .ok (.iconst 4, 1) := by decide +kernel
theorem pu_113 : decode method_5_code 113 = .ok (.iadd, 1) := by decide +kernel
theorem pu_114 : decode method_5_code 114 = .ok (.ireturn, 1) := by decide +kernel
theorem pu_115 : decode method_5_code 115 = .ok (.iload_n 2, 1) := by decide +kernel
theorem pu_116 : decode method_5_code 116 = .ok (.bipush 34, 2) := by decide +kernel
theorem pu_118 : decode method_5_code 118 = .ok (.if_icmp .ne 48, 3) := by decide +kernel
theorem pu_121 : decode method_5_code 121 = .ok (.aload_n 0, 1) := by decide +kernel
theorem pu_122 : decode method_5_code 122 = .ok (.iload_n 1, 1) := by decide +kernel
theorem pu_123 : decode method_5_code 123 = .ok (.bipush 38, 2) := by decide +kernel
theorem pu_125 : decode method_5_code 125 = .ok (.castore, 1) := by decide +kernel
theorem pu_126 : decode method_5_code 126 = .ok (.aload_n 0, 1) := by decide +kernel
theorem pu_127 : decode method_5_code 127 = .ok (.iload_n 1, 1) := by decide +kernel
theorem pu_128 : decode method_5_code 128 = .ok (.iconst 1, 1) := by decide +kernel
theorem pu_129 : decode method_5_code 129 = .ok (.iadd, 1) := by decide +kernel
theorem pu_130 : decode method_5_code 130 = .ok (.bipush 113, 2) := by decide +kernel
theorem pu_132 : decode method_5_code 132 = .ok (.castore, 1) := by decide +kernel
theorem pu_133 : decode method_5_code 133 = .ok (.aload_n 0, 1) := by decide +kernel
theorem pu_134 : decode method_5_code 134 = .ok (.iload_n 1, 1) := by decide +kernel
theorem pu_135 : decode method_5_code 135 = .ok (.iconst 2, 1) := by decide +kernel
theorem pu_136 : decode method_5_code 136 = .ok (.iadd, 1) := by decide +kernel
theorem pu_137 : decode method_5_code 137 = .ok (.bipush 117, 2) := by decide +kernel
theorem pu_139 : decode method_5_code 139 = .ok (.castore, 1) := by decide +kernel
theorem pu_140 : decode method_5_code 140 = .ok (.aload_n 0, 1) := by decide +kernel
theorem pu_141 : decode method_5_code 141 = .ok (.iload_n 1, 1) := by decide +kernel
theorem pu_142 : decode method_5_code 142 = .ok (.iconst 3, 1) := by decide +kernel
theorem pu_143 : decode method_5_code 143 = .ok (.iadd, 1) := by decide +kernel
theorem pu_144 : decode method_5_code 144 = .ok (.bipush 111, 2) := by decide +kernel
theorem pu_146 : decode method_5_code 146 = .ok (.castore, 1) := by decide +kernel
theorem pu_147 : decode method_5_code 147 = .ok (.aload_n 0, 1) := by decide +kernel
theorem pu_148 : decode method_5_code 148 = .ok (.iload_n 1, 1) := by decide +kernel
theorem pu_149 : decode method_5_code 149 = .ok (.iconst 4, 1) := by decide +kernel
theorem pu_150 : decode method_5_code 150 = .ok (.iadd, 1) := by decide +kernel
theorem pu_151 : decode method_5_code 151 = .ok (.bipush 116, 2) := by decide +kernel
theorem pu_153 : decode method_5_code 153 = .ok (.castore, 1) := by decide +kernel
theorem pu_154 : decode method_5_code 154 = .ok (.aload_n 0, 1) := by decide +kernel
theorem pu_155 : decode method_5_code 155 = .ok (.iload_n 1, 1) := by decide +kernel
theorem pu_156 : decode method_5_code 156 = .ok (.iconst 5, 1) := by decide +kernel
theorem pu_157 : decode method_5_code 157 = .ok (.iadd, 1) := by decide +kernel
theorem pu_158 : decode method_5_code 158 = .ok (.bipush 59, 2) := by decide +kernel
theorem pu_160 : decode method_5_code 160 = .ok (.castore, 1) := by decide +kernel
theorem pu_161 : decode method_5_code 161 = .ok (.iload_n 1, 1) := by decide +kernel
theorem pu_162 : decode method_5_code 162 = .ok (.bipush 6, 2) := by decide +kernel
theorem pu_164 : decode method_5_code 164 = .ok (.iadd, 1) := by decide +kernel
theorem pu_165 : decode method_5_code 165 = .ok (.ireturn, 1) := by decide +kernel
theorem pu_166 : decode method_5_code 166 = .ok (.iload_n 2, 1) := by decide +kernel
theorem pu_167 : decode method_5_code 167 = .ok (.bipush 39, 2) := by decide +kernel
theorem pu_169 : decode method_5_code 169 = .ok (.if_icmp .ne 40, 3) := by decide +kernel
theorem pu_172 : decode method_5_code 172 = .ok (.aload_n 0, 1) := by decide +kernel
theorem pu_173 : decode method_5_code 173 = .ok (.iload_n 1, 1) := by decide +kernel
theorem pu_174 : decode method_5_code 174 = .ok (.bipush 38, 2) := by decide +kernel
theorem pu_176 : decode method_5_code 176 = .ok (.castore, 1) := by decide +kernel
theorem pu_177 : decode method_5_code 177 = .ok (.aload_n 0, 1) := by decide +kernel
theorem pu_178 : decode method_5_code 178 = .ok (.iload_n 1, 1) := by decide +kernel
theorem pu_179 : decode method_5_code 179 = .ok (.iconst 1, 1) := by decide +kernel
theorem pu_180 : decode method_5_code 180 = .ok (.iadd, 1) := by decide +kernel
theorem pu_181 : decode method_5_code 181 = .ok (.bipush 35, 2) := by decide +kernel
theorem pu_183 : decode method_5_code 183 = .ok (.castore, 1) := by decide +kernel
theorem pu_184 : decode method_5_code 184 = .ok (.aload_n 0, 1) := by decide +kernel
theorem pu_185 : decode method_5_code 185 = .ok (.iload_n 1, 1) := by decide +kernel
theorem pu_186 : decode method_5_code 186 = .ok (.iconst 2, 1) := by decide +kernel
theorem pu_187 : decode method_5_code 187 = .ok (.iadd, 1) := by decide +kernel
theorem pu_188 : decode method_5_code 188 = .ok (.bipush 51, 2) := by decide +kernel
theorem pu_190 : decode method_5_code 190 = .ok (.castore, 1) := by decide +kernel
theorem pu_191 : decode method_5_code 191 = .ok (.aload_n 0, 1) := by decide +kernel
theorem pu_192 : decode method_5_code 192 = .ok (.iload_n 1, 1) := by decide +kernel
theorem pu_193 : decode method_5_code 193 = .ok (.iconst 3, 1) := by decide +kernel
theorem pu_194 : decode method_5_code 194 = .ok (.iadd, 1) := by decide +kernel
theorem pu_195 : decode method_5_code 195 = .ok (.bipush 57, 2) := by decide +kernel
theorem pu_197 : decode method_5_code 197 = .ok (.castore, 1) := by decide +kernel
theorem pu_198 : decode method_5_code 198 = .ok (.aload_n 0, 1) := by decide +kernel
theorem pu_199 : decode method_5_code 199 = .ok (.iload_n 1, 1) := by decide +kernel
theorem pu_200 : decode method_5_code 200 = .ok (.iconst 4, 1) := by decide +kernel
theorem pu_201 : decode method_5_code 201 = .ok (.iadd, 1) := by decide +kernel
theorem pu_202 : decode method_5_code 202 = .ok (.bipush 59, 2) := by decide +kernel
theorem pu_204 : decode method_5_code 204 = .ok (.castore, 1) := by decide +kernel
theorem pu_205 : decode method_5_code 205 = .ok (.iload_n 1, 1) := by decide +kernel
theorem pu_206 : decode method_5_code 206 = .ok (.iconst 5, 1) := by decide +kernel
theorem pu_207 : decode method_5_code 207 = .ok (.iadd, 1) := by decide +kernel
theorem pu_208 : decode method_5_code 208 = .ok (.ireturn, 1) := by decide +kernel
theorem pu_209 : decode method_5_code 209 = .ok (.aload_n 0, 1) := by decide +kernel
theorem pu_210 : decode method_5_code 210 = .ok (.iload_n 1, 1) := by decide +kernel
theorem pu_211 : decode method_5_code 211 = .ok (.iload_n 2, 1) := by decide +kernel
theorem pu_212 : decode method_5_code 212 = .ok (.castore, 1) := by decide +kernel
theorem pu_213 : decode method_5_code 213 = .ok (.iload_n 1, 1) := by decide +kernel
theorem pu_214 : decode method_5_code 214 = .ok (.iconst 1, 1) := by decide +kernel
theorem pu_215 : decode method_5_code 215 = .ok (.iadd, 1) := by decide +kernel
theorem pu_216 : decode method_5_code 216 = .ok (.ireturn, 1) := by decide +kernel
theorem efPu (m : MethodId) (x0 : Addr) (x1 : Int32) (x2 : Int32) : entryFrame m #[.ref x0, .int x1, .int x2] 3 = mkF m 0 #[.val (.ref x0), .val (.int x1), .val (.int x2)] [] := by first | (simp [entryFrame, mkF, argsToLocals, Value.category, maxLocals]; done) | rfl
set_option maxRecDepth 65536 in
set_option maxHeartbeats 16000000 in
theorem t_put (l : Launch) {Z : State} {a0 : Array Value} (hEL : EW Z a0 consts_1) {h : Heap} (hO : Ext Z.heap h) {x : Addr} {es : List Int32} (A : Ali Z h x .char (es.map Value.int)) (hz : Z.heap.size ≤ x) {off : Nat} (ho : off + 6 ≤ es.length) (hl : es.length = 18) {ch : Int32} (hc : Wc ch) :
    Met l Z consts_1 [] (⟨LW, "put", "([CIC)I"⟩ : MethodName) method_5_code 3 (some .int) { frames := 0, cells := 0, slots := 0, locals := 0 } #[.ref x, .int (Int32.ofNat off), .int ch] h (Ret fun v h' => ∃ es' : List Int32, v = .int (Int32.ofNat (off + (escS ch).length)) ∧ Keep h h' [x] ∧ Ali Z h' x .char (es'.map Value.int) ∧ es'.length = 18 ∧ es'.take (off + (escS ch).length) = es.take off ++ escS ch) := by
  refine Met.intro pnLW hEL hO ?_
  intro p e s m below meth c T W hby hml hret hnm
  have D : ∀ {pc : Nat} {r}, decode method_5_code pc = r → decode c.code pc = r := fun q => hb hby q
  refine Go.cast (efPu m x (Int32.ofNat off) ch) ?_
  have e1 : Int32.ofNat off + 1 = Int32.ofNat (off + 1) := by rw [Int32.ofNat_add]; rfl
  have e2 : Int32.ofNat off + 2 = Int32.ofNat (off + 2) := by rw [Int32.ofNat_add]; rfl
  have e3 : Int32.ofNat off + 3 = Int32.ofNat (off + 3) := by rw [Int32.ofNat_add]; rfl
  have e4 : Int32.ofNat off + 4 = Int32.ofNat (off + 4) := by rw [Int32.ofNat_add]; rfl
  have e5 : Int32.ofNat off + 5 = Int32.ofNat (off + 5) := by rw [Int32.ofNat_add]; rfl
  have e6 : Int32.ofNat off + 6 = Int32.ofNat (off + 6) := by rw [Int32.ofNat_add]; rfl
  refine g_iloadN W (pc' := 1) (D pu_0) rfl rfl ?_
  refine g_bipush W (pc' := 3) (D pu_1) rfl (v := (38 : Int32)) (by decide) ?_
  by_cases q38 : ch = 38
  · subst q38
    refine g_icmpneN W (pc1 := 43) (pc2 := 6) (D pu_3) (by decide) (by decide) rfl (rfl) ?_
    have K0 : Keep h h [x] := Keep.refl _ _
    refine g_aloadN W (pc' := 7) (D pu_6) rfl rfl (by first | rfl | assumption) ?_
    refine g_iloadN W (pc' := 8) (D pu_7) rfl rfl ?_
    refine g_bipush W (pc' := 10) (D pu_8) rfl (v := (38 : Int32)) (by decide) ?_
    refine g_castore W (pc' := 11) (A) (hz) (i := off) (own_n0 (by omega)) (own_n32 (by omega)) (by first | omega | (simp only [List.length_set]; omega)) (by decide) (by decide) (D pu_10) rfl (fun T g1 W Kp A1 => ?_)
    have K1 := K0.trans Kp (fun z hz => Or.inl hz)
    refine g_aloadN W (pc' := 12) (D pu_11) rfl rfl (by first | rfl | assumption) ?_
    refine g_iloadN W (pc' := 13) (D pu_12) rfl rfl ?_
    refine g_iconst W (pc' := 14) (D pu_13) rfl (v := (1 : Int32)) (by decide) ?_
    refine g_iadd W (pc' := 15) (D pu_14) rfl ?_
    refine g_bipush W (pc' := 17) (D pu_15) rfl (v := (97 : Int32)) (by decide) ?_
    rw [e1]
    refine g_castore W (pc' := 18) (A1) (hz) (i := off + 1) (own_n0 (by omega)) (own_n32 (by omega)) (by first | omega | (simp only [List.length_set]; omega)) (by decide) (by decide) (D pu_17) rfl (fun T g2 W Kp A2 => ?_)
    have K2 := K1.trans Kp (fun z hz => Or.inl hz)
    refine g_aloadN W (pc' := 19) (D pu_18) rfl rfl (by first | rfl | assumption) ?_
    refine g_iloadN W (pc' := 20) (D pu_19) rfl rfl ?_
    refine g_iconst W (pc' := 21) (D pu_20) rfl (v := (2 : Int32)) (by decide) ?_
    refine g_iadd W (pc' := 22) (D pu_21) rfl ?_
    refine g_bipush W (pc' := 24) (D pu_22) rfl (v := (109 : Int32)) (by decide) ?_
    rw [e2]
    refine g_castore W (pc' := 25) (A2) (hz) (i := off + 2) (own_n0 (by omega)) (own_n32 (by omega)) (by first | omega | (simp only [List.length_set]; omega)) (by decide) (by decide) (D pu_24) rfl (fun T g3 W Kp A3 => ?_)
    have K3 := K2.trans Kp (fun z hz => Or.inl hz)
    refine g_aloadN W (pc' := 26) (D pu_25) rfl rfl (by first | rfl | assumption) ?_
    refine g_iloadN W (pc' := 27) (D pu_26) rfl rfl ?_
    refine g_iconst W (pc' := 28) (D pu_27) rfl (v := (3 : Int32)) (by decide) ?_
    refine g_iadd W (pc' := 29) (D pu_28) rfl ?_
    refine g_bipush W (pc' := 31) (D pu_29) rfl (v := (112 : Int32)) (by decide) ?_
    rw [e3]
    refine g_castore W (pc' := 32) (A3) (hz) (i := off + 3) (own_n0 (by omega)) (own_n32 (by omega)) (by first | omega | (simp only [List.length_set]; omega)) (by decide) (by decide) (D pu_31) rfl (fun T g4 W Kp A4 => ?_)
    have K4 := K3.trans Kp (fun z hz => Or.inl hz)
    refine g_aloadN W (pc' := 33) (D pu_32) rfl rfl (by first | rfl | assumption) ?_
    refine g_iloadN W (pc' := 34) (D pu_33) rfl rfl ?_
    refine g_iconst W (pc' := 35) (D pu_34) rfl (v := (4 : Int32)) (by decide) ?_
    refine g_iadd W (pc' := 36) (D pu_35) rfl ?_
    refine g_bipush W (pc' := 38) (D pu_36) rfl (v := (59 : Int32)) (by decide) ?_
    rw [e4]
    refine g_castore W (pc' := 39) (A4) (hz) (i := off + 4) (own_n0 (by omega)) (own_n32 (by omega)) (by first | omega | (simp only [List.length_set]; omega)) (by decide) (by decide) (D pu_38) rfl (fun T g5 W Kp A5 => ?_)
    have K5 := K4.trans Kp (fun z hz => Or.inl hz)
    refine g_iloadN W (pc' := 40) (D pu_39) rfl rfl ?_
    refine g_iconst W (pc' := 41) (D pu_40) rfl (v := (5 : Int32)) (by decide) ?_
    refine g_iadd W (pc' := 42) (D pu_41) rfl ?_
    rw [e5]
    refine g_reti W (D pu_42) hret (by decide) (by decide) ⟨_, rfl, _, ?_, K5, A5, by simp only [List.length_set]; exact hl, ?_⟩
    · rw [show escS 38 = [38, 97, 109, 112, 59] from rfl]; rfl
    · rw [show escS 38 = [38, 97, 109, 112, 59] from rfl, show off + ([38, 97, 109, 112, 59] : List Int32).length = off + 4 + 1 from rfl, take_set1 (by first | omega | (simp only [List.length_set]; omega)), take_set1 (by first | omega | (simp only [List.length_set]; omega)), take_set1 (by first | omega | (simp only [List.length_set]; omega)), take_set1 (by first | omega | (simp only [List.length_set]; omega)), take_set1 (by first | omega | (simp only [List.length_set]; omega))] <;> simp
  · skip
    refine g_icmpneY W (pc1 := 43) (pc2 := 6) (D pu_3) (by decide) (by decide) rfl (q38) ?_
    refine g_iloadN W (pc' := 44) (D pu_43) rfl rfl ?_
    refine g_bipush W (pc' := 46) (D pu_44) rfl (v := (60 : Int32)) (by decide) ?_
    by_cases q60 : ch = 60
    · subst q60
      refine g_icmpneN W (pc1 := 79) (pc2 := 49) (D pu_46) (by decide) (by decide) rfl (rfl) ?_
      have K0 : Keep h h [x] := Keep.refl _ _
      refine g_aloadN W (pc' := 50) (D pu_49) rfl rfl (by first | rfl | assumption) ?_
      refine g_iloadN W (pc' := 51) (D pu_50) rfl rfl ?_
      refine g_bipush W (pc' := 53) (D pu_51) rfl (v := (38 : Int32)) (by decide) ?_
      refine g_castore W (pc' := 54) (A) (hz) (i := off) (own_n0 (by omega)) (own_n32 (by omega)) (by first | omega | (simp only [List.length_set]; omega)) (by decide) (by decide) (D pu_53) rfl (fun T g1 W Kp A1 => ?_)
      have K1 := K0.trans Kp (fun z hz => Or.inl hz)
      refine g_aloadN W (pc' := 55) (D pu_54) rfl rfl (by first | rfl | assumption) ?_
      refine g_iloadN W (pc' := 56) (D pu_55) rfl rfl ?_
      refine g_iconst W (pc' := 57) (D pu_56) rfl (v := (1 : Int32)) (by decide) ?_
      refine g_iadd W (pc' := 58) (D pu_57) rfl ?_
      refine g_bipush W (pc' := 60) (D pu_58) rfl (v := (108 : Int32)) (by decide) ?_
      rw [e1]
      refine g_castore W (pc' := 61) (A1) (hz) (i := off + 1) (own_n0 (by omega)) (own_n32 (by omega)) (by first | omega | (simp only [List.length_set]; omega)) (by decide) (by decide) (D pu_60) rfl (fun T g2 W Kp A2 => ?_)
      have K2 := K1.trans Kp (fun z hz => Or.inl hz)
      refine g_aloadN W (pc' := 62) (D pu_61) rfl rfl (by first | rfl | assumption) ?_
      refine g_iloadN W (pc' := 63) (D pu_62) rfl rfl ?_
      refine g_iconst W (pc' := 64) (D pu_63) rfl (v := (2 : Int32)) (by decide) ?_
      refine g_iadd W (pc' := 65) (D pu_64) rfl ?_
      refine g_bipush W (pc' := 67) (D pu_65) rfl (v := (116 : Int32)) (by decide) ?_
      rw [e2]
      refine g_castore W (pc' := 68) (A2) (hz) (i := off + 2) (own_n0 (by omega)) (own_n32 (by omega)) (by first | omega | (simp only [List.length_set]; omega)) (by decide) (by decide) (D pu_67) rfl (fun T g3 W Kp A3 => ?_)
      have K3 := K2.trans Kp (fun z hz => Or.inl hz)
      refine g_aloadN W (pc' := 69) (D pu_68) rfl rfl (by first | rfl | assumption) ?_
      refine g_iloadN W (pc' := 70) (D pu_69) rfl rfl ?_
      refine g_iconst W (pc' := 71) (D pu_70) rfl (v := (3 : Int32)) (by decide) ?_
      refine g_iadd W (pc' := 72) (D pu_71) rfl ?_
      refine g_bipush W (pc' := 74) (D pu_72) rfl (v := (59 : Int32)) (by decide) ?_
      rw [e3]
      refine g_castore W (pc' := 75) (A3) (hz) (i := off + 3) (own_n0 (by omega)) (own_n32 (by omega)) (by first | omega | (simp only [List.length_set]; omega)) (by decide) (by decide) (D pu_74) rfl (fun T g4 W Kp A4 => ?_)
      have K4 := K3.trans Kp (fun z hz => Or.inl hz)
      refine g_iloadN W (pc' := 76) (D pu_75) rfl rfl ?_
      refine g_iconst W (pc' := 77) (D pu_76) rfl (v := (4 : Int32)) (by decide) ?_
      refine g_iadd W (pc' := 78) (D pu_77) rfl ?_
      rw [e4]
      refine g_reti W (D pu_78) hret (by decide) (by decide) ⟨_, rfl, _, ?_, K4, A4, by simp only [List.length_set]; exact hl, ?_⟩
      · rw [show escS 60 = [38, 108, 116, 59] from rfl]; rfl
      · rw [show escS 60 = [38, 108, 116, 59] from rfl, show off + ([38, 108, 116, 59] : List Int32).length = off + 3 + 1 from rfl, take_set1 (by first | omega | (simp only [List.length_set]; omega)), take_set1 (by first | omega | (simp only [List.length_set]; omega)), take_set1 (by first | omega | (simp only [List.length_set]; omega)), take_set1 (by first | omega | (simp only [List.length_set]; omega))] <;> simp
    · skip
      refine g_icmpneY W (pc1 := 79) (pc2 := 49) (D pu_46) (by decide) (by decide) rfl (q60) ?_
      refine g_iloadN W (pc' := 80) (D pu_79) rfl rfl ?_
      refine g_bipush W (pc' := 82) (D pu_80) rfl (v := (62 : Int32)) (by decide) ?_
      by_cases q62 : ch = 62
      · subst q62
        refine g_icmpneN W (pc1 := 115) (pc2 := 85) (D pu_82) (by decide) (by decide) rfl (rfl) ?_
        have K0 : Keep h h [x] := Keep.refl _ _
        refine g_aloadN W (pc' := 86) (D pu_85) rfl rfl (by first | rfl | assumption) ?_
        refine g_iloadN W (pc' := 87) (D pu_86) rfl rfl ?_
        refine g_bipush W (pc' := 89) (D pu_87) rfl (v := (38 : Int32)) (by decide) ?_
        refine g_castore W (pc' := 90) (A) (hz) (i := off) (own_n0 (by omega)) (own_n32 (by omega)) (by first | omega | (simp only [List.length_set]; omega)) (by decide) (by decide) (D pu_89) rfl (fun T g1 W Kp A1 => ?_)
        have K1 := K0.trans Kp (fun z hz => Or.inl hz)
        refine g_aloadN W (pc' := 91) (D pu_90) rfl rfl (by first | rfl | assumption) ?_
        refine g_iloadN W (pc' := 92) (D pu_91) rfl rfl ?_
        refine g_iconst W (pc' := 93) (D pu_92) rfl (v := (1 : Int32)) (by decide) ?_
        refine g_iadd W (pc' := 94) (D pu_93) rfl ?_
        refine g_bipush W (pc' := 96) (D pu_94) rfl (v := (103 : Int32)) (by decide) ?_
        rw [e1]
        refine g_castore W (pc' := 97) (A1) (hz) (i := off + 1) (own_n0 (by omega)) (own_n32 (by omega)) (by first | omega | (simp only [List.length_set]; omega)) (by decide) (by decide) (D pu_96) rfl (fun T g2 W Kp A2 => ?_)
        have K2 := K1.trans Kp (fun z hz => Or.inl hz)
        refine g_aloadN W (pc' := 98) (D pu_97) rfl rfl (by first | rfl | assumption) ?_
        refine g_iloadN W (pc' := 99) (D pu_98) rfl rfl ?_
        refine g_iconst W (pc' := 100) (D pu_99) rfl (v := (2 : Int32)) (by decide) ?_
        refine g_iadd W (pc' := 101) (D pu_100) rfl ?_
        refine g_bipush W (pc' := 103) (D pu_101) rfl (v := (116 : Int32)) (by decide) ?_
        rw [e2]
        refine g_castore W (pc' := 104) (A2) (hz) (i := off + 2) (own_n0 (by omega)) (own_n32 (by omega)) (by first | omega | (simp only [List.length_set]; omega)) (by decide) (by decide) (D pu_103) rfl (fun T g3 W Kp A3 => ?_)
        have K3 := K2.trans Kp (fun z hz => Or.inl hz)
        refine g_aloadN W (pc' := 105) (D pu_104) rfl rfl (by first | rfl | assumption) ?_
        refine g_iloadN W (pc' := 106) (D pu_105) rfl rfl ?_
        refine g_iconst W (pc' := 107) (D pu_106) rfl (v := (3 : Int32)) (by decide) ?_
        refine g_iadd W (pc' := 108) (D pu_107) rfl ?_
        refine g_bipush W (pc' := 110) (D pu_108) rfl (v := (59 : Int32)) (by decide) ?_
        rw [e3]
        refine g_castore W (pc' := 111) (A3) (hz) (i := off + 3) (own_n0 (by omega)) (own_n32 (by omega)) (by first | omega | (simp only [List.length_set]; omega)) (by decide) (by decide) (D pu_110) rfl (fun T g4 W Kp A4 => ?_)
        have K4 := K3.trans Kp (fun z hz => Or.inl hz)
        refine g_iloadN W (pc' := 112) (D pu_111) rfl rfl ?_
        refine g_iconst W (pc' := 113) (D pu_112) rfl (v := (4 : Int32)) (by decide) ?_
        refine g_iadd W (pc' := 114) (D pu_113) rfl ?_
        rw [e4]
        refine g_reti W (D pu_114) hret (by decide) (by decide) ⟨_, rfl, _, ?_, K4, A4, by simp only [List.length_set]; exact hl, ?_⟩
        · rw [show escS 62 = [38, 103, 116, 59] from rfl]; rfl
        · rw [show escS 62 = [38, 103, 116, 59] from rfl, show off + ([38, 103, 116, 59] : List Int32).length = off + 3 + 1 from rfl, take_set1 (by first | omega | (simp only [List.length_set]; omega)), take_set1 (by first | omega | (simp only [List.length_set]; omega)), take_set1 (by first | omega | (simp only [List.length_set]; omega)), take_set1 (by first | omega | (simp only [List.length_set]; omega))] <;> simp
      · skip
        refine g_icmpneY W (pc1 := 115) (pc2 := 85) (D pu_82) (by decide) (by decide) rfl (q62) ?_
        refine g_iloadN W (pc' := 116) (D pu_115) rfl rfl ?_
        refine g_bipush W (pc' := 118) (D pu_116) rfl (v := (34 : Int32)) (by decide) ?_
        by_cases q34 : ch = 34
        · subst q34
          refine g_icmpneN W (pc1 := 166) (pc2 := 121) (D pu_118) (by decide) (by decide) rfl (rfl) ?_
          have K0 : Keep h h [x] := Keep.refl _ _
          refine g_aloadN W (pc' := 122) (D pu_121) rfl rfl (by first | rfl | assumption) ?_
          refine g_iloadN W (pc' := 123) (D pu_122) rfl rfl ?_
          refine g_bipush W (pc' := 125) (D pu_123) rfl (v := (38 : Int32)) (by decide) ?_
          refine g_castore W (pc' := 126) (A) (hz) (i := off) (own_n0 (by omega)) (own_n32 (by omega)) (by first | omega | (simp only [List.length_set]; omega)) (by decide) (by decide) (D pu_125) rfl (fun T g1 W Kp A1 => ?_)
          have K1 := K0.trans Kp (fun z hz => Or.inl hz)
          refine g_aloadN W (pc' := 127) (D pu_126) rfl rfl (by first | rfl | assumption) ?_
          refine g_iloadN W (pc' := 128) (D pu_127) rfl rfl ?_
          refine g_iconst W (pc' := 129) (D pu_128) rfl (v := (1 : Int32)) (by decide) ?_
          refine g_iadd W (pc' := 130) (D pu_129) rfl ?_
          refine g_bipush W (pc' := 132) (D pu_130) rfl (v := (113 : Int32)) (by decide) ?_
          rw [e1]
          refine g_castore W (pc' := 133) (A1) (hz) (i := off + 1) (own_n0 (by omega)) (own_n32 (by omega)) (by first | omega | (simp only [List.length_set]; omega)) (by decide) (by decide) (D pu_132) rfl (fun T g2 W Kp A2 => ?_)
          have K2 := K1.trans Kp (fun z hz => Or.inl hz)
          refine g_aloadN W (pc' := 134) (D pu_133) rfl rfl (by first | rfl | assumption) ?_
          refine g_iloadN W (pc' := 135) (D pu_134) rfl rfl ?_
          refine g_iconst W (pc' := 136) (D pu_135) rfl (v := (2 : Int32)) (by decide) ?_
          refine g_iadd W (pc' := 137) (D pu_136) rfl ?_
          refine g_bipush W (pc' := 139) (D pu_137) rfl (v := (117 : Int32)) (by decide) ?_
          rw [e2]
          refine g_castore W (pc' := 140) (A2) (hz) (i := off + 2) (own_n0 (by omega)) (own_n32 (by omega)) (by first | omega | (simp only [List.length_set]; omega)) (by decide) (by decide) (D pu_139) rfl (fun T g3 W Kp A3 => ?_)
          have K3 := K2.trans Kp (fun z hz => Or.inl hz)
          refine g_aloadN W (pc' := 141) (D pu_140) rfl rfl (by first | rfl | assumption) ?_
          refine g_iloadN W (pc' := 142) (D pu_141) rfl rfl ?_
          refine g_iconst W (pc' := 143) (D pu_142) rfl (v := (3 : Int32)) (by decide) ?_
          refine g_iadd W (pc' := 144) (D pu_143) rfl ?_
          refine g_bipush W (pc' := 146) (D pu_144) rfl (v := (111 : Int32)) (by decide) ?_
          rw [e3]
          refine g_castore W (pc' := 147) (A3) (hz) (i := off + 3) (own_n0 (by omega)) (own_n32 (by omega)) (by first | omega | (simp only [List.length_set]; omega)) (by decide) (by decide) (D pu_146) rfl (fun T g4 W Kp A4 => ?_)
          have K4 := K3.trans Kp (fun z hz => Or.inl hz)
          refine g_aloadN W (pc' := 148) (D pu_147) rfl rfl (by first | rfl | assumption) ?_
          refine g_iloadN W (pc' := 149) (D pu_148) rfl rfl ?_
          refine g_iconst W (pc' := 150) (D pu_149) rfl (v := (4 : Int32)) (by decide) ?_
          refine g_iadd W (pc' := 151) (D pu_150) rfl ?_
          refine g_bipush W (pc' := 153) (D pu_151) rfl (v := (116 : Int32)) (by decide) ?_
          rw [e4]
          refine g_castore W (pc' := 154) (A4) (hz) (i := off + 4) (own_n0 (by omega)) (own_n32 (by omega)) (by first | omega | (simp only [List.length_set]; omega)) (by decide) (by decide) (D pu_153) rfl (fun T g5 W Kp A5 => ?_)
          have K5 := K4.trans Kp (fun z hz => Or.inl hz)
          refine g_aloadN W (pc' := 155) (D pu_154) rfl rfl (by first | rfl | assumption) ?_
          refine g_iloadN W (pc' := 156) (D pu_155) rfl rfl ?_
          refine g_iconst W (pc' := 157) (D pu_156) rfl (v := (5 : Int32)) (by decide) ?_
          refine g_iadd W (pc' := 158) (D pu_157) rfl ?_
          refine g_bipush W (pc' := 160) (D pu_158) rfl (v := (59 : Int32)) (by decide) ?_
          rw [e5]
          refine g_castore W (pc' := 161) (A5) (hz) (i := off + 5) (own_n0 (by omega)) (own_n32 (by omega)) (by first | omega | (simp only [List.length_set]; omega)) (by decide) (by decide) (D pu_160) rfl (fun T g6 W Kp A6 => ?_)
          have K6 := K5.trans Kp (fun z hz => Or.inl hz)
          refine g_iloadN W (pc' := 162) (D pu_161) rfl rfl ?_
          refine g_bipush W (pc' := 164) (D pu_162) rfl (v := (6 : Int32)) (by decide) ?_
          refine g_iadd W (pc' := 165) (D pu_164) rfl ?_
          rw [e6]
          refine g_reti W (D pu_165) hret (by decide) (by decide) ⟨_, rfl, _, ?_, K6, A6, by simp only [List.length_set]; exact hl, ?_⟩
          · rw [show escS 34 = [38, 113, 117, 111, 116, 59] from rfl]; rfl
          · rw [show escS 34 = [38, 113, 117, 111, 116, 59] from rfl, show off + ([38, 113, 117, 111, 116, 59] : List Int32).length = off + 5 + 1 from rfl, take_set1 (by first | omega | (simp only [List.length_set]; omega)), take_set1 (by first | omega | (simp only [List.length_set]; omega)), take_set1 (by first | omega | (simp only [List.length_set]; omega)), take_set1 (by first | omega | (simp only [List.length_set]; omega)), take_set1 (by first | omega | (simp only [List.length_set]; omega)), take_set1 (by first | omega | (simp only [List.length_set]; omega))] <;> simp
        · skip
          refine g_icmpneY W (pc1 := 166) (pc2 := 121) (D pu_118) (by decide) (by decide) rfl (q34) ?_
          refine g_iloadN W (pc' := 167) (D pu_166) rfl rfl ?_
          refine g_bipush W (pc' := 169) (D pu_167) rfl (v := (39 : Int32)) (by decide) ?_
          by_cases q39 : ch = 39
          · subst q39
            refine g_icmpneN W (pc1 := 209) (pc2 := 172) (D pu_169) (by decide) (by decide) rfl (rfl) ?_
            have K0 : Keep h h [x] := Keep.refl _ _
            refine g_aloadN W (pc' := 173) (D pu_172) rfl rfl (by first | rfl | assumption) ?_
            refine g_iloadN W (pc' := 174) (D pu_173) rfl rfl ?_
            refine g_bipush W (pc' := 176) (D pu_174) rfl (v := (38 : Int32)) (by decide) ?_
            refine g_castore W (pc' := 177) (A) (hz) (i := off) (own_n0 (by omega)) (own_n32 (by omega)) (by first | omega | (simp only [List.length_set]; omega)) (by decide) (by decide) (D pu_176) rfl (fun T g1 W Kp A1 => ?_)
            have K1 := K0.trans Kp (fun z hz => Or.inl hz)
            refine g_aloadN W (pc' := 178) (D pu_177) rfl rfl (by first | rfl | assumption) ?_
            refine g_iloadN W (pc' := 179) (D pu_178) rfl rfl ?_
            refine g_iconst W (pc' := 180) (D pu_179) rfl (v := (1 : Int32)) (by decide) ?_
            refine g_iadd W (pc' := 181) (D pu_180) rfl ?_
            refine g_bipush W (pc' := 183) (D pu_181) rfl (v := (35 : Int32)) (by decide) ?_
            rw [e1]
            refine g_castore W (pc' := 184) (A1) (hz) (i := off + 1) (own_n0 (by omega)) (own_n32 (by omega)) (by first | omega | (simp only [List.length_set]; omega)) (by decide) (by decide) (D pu_183) rfl (fun T g2 W Kp A2 => ?_)
            have K2 := K1.trans Kp (fun z hz => Or.inl hz)
            refine g_aloadN W (pc' := 185) (D pu_184) rfl rfl (by first | rfl | assumption) ?_
            refine g_iloadN W (pc' := 186) (D pu_185) rfl rfl ?_
            refine g_iconst W (pc' := 187) (D pu_186) rfl (v := (2 : Int32)) (by decide) ?_
            refine g_iadd W (pc' := 188) (D pu_187) rfl ?_
            refine g_bipush W (pc' := 190) (D pu_188) rfl (v := (51 : Int32)) (by decide) ?_
            rw [e2]
            refine g_castore W (pc' := 191) (A2) (hz) (i := off + 2) (own_n0 (by omega)) (own_n32 (by omega)) (by first | omega | (simp only [List.length_set]; omega)) (by decide) (by decide) (D pu_190) rfl (fun T g3 W Kp A3 => ?_)
            have K3 := K2.trans Kp (fun z hz => Or.inl hz)
            refine g_aloadN W (pc' := 192) (D pu_191) rfl rfl (by first | rfl | assumption) ?_
            refine g_iloadN W (pc' := 193) (D pu_192) rfl rfl ?_
            refine g_iconst W (pc' := 194) (D pu_193) rfl (v := (3 : Int32)) (by decide) ?_
            refine g_iadd W (pc' := 195) (D pu_194) rfl ?_
            refine g_bipush W (pc' := 197) (D pu_195) rfl (v := (57 : Int32)) (by decide) ?_
            rw [e3]
            refine g_castore W (pc' := 198) (A3) (hz) (i := off + 3) (own_n0 (by omega)) (own_n32 (by omega)) (by first | omega | (simp only [List.length_set]; omega)) (by decide) (by decide) (D pu_197) rfl (fun T g4 W Kp A4 => ?_)
            have K4 := K3.trans Kp (fun z hz => Or.inl hz)
            refine g_aloadN W (pc' := 199) (D pu_198) rfl rfl (by first | rfl | assumption) ?_
            refine g_iloadN W (pc' := 200) (D pu_199) rfl rfl ?_
            refine g_iconst W (pc' := 201) (D pu_200) rfl (v := (4 : Int32)) (by decide) ?_
            refine g_iadd W (pc' := 202) (D pu_201) rfl ?_
            refine g_bipush W (pc' := 204) (D pu_202) rfl (v := (59 : Int32)) (by decide) ?_
            rw [e4]
            refine g_castore W (pc' := 205) (A4) (hz) (i := off + 4) (own_n0 (by omega)) (own_n32 (by omega)) (by first | omega | (simp only [List.length_set]; omega)) (by decide) (by decide) (D pu_204) rfl (fun T g5 W Kp A5 => ?_)
            have K5 := K4.trans Kp (fun z hz => Or.inl hz)
            refine g_iloadN W (pc' := 206) (D pu_205) rfl rfl ?_
            refine g_iconst W (pc' := 207) (D pu_206) rfl (v := (5 : Int32)) (by decide) ?_
            refine g_iadd W (pc' := 208) (D pu_207) rfl ?_
            rw [e5]
            refine g_reti W (D pu_208) hret (by decide) (by decide) ⟨_, rfl, _, ?_, K5, A5, by simp only [List.length_set]; exact hl, ?_⟩
            · rw [show escS 39 = [38, 35, 51, 57, 59] from rfl]; rfl
            · rw [show escS 39 = [38, 35, 51, 57, 59] from rfl, show off + ([38, 35, 51, 57, 59] : List Int32).length = off + 4 + 1 from rfl, take_set1 (by first | omega | (simp only [List.length_set]; omega)), take_set1 (by first | omega | (simp only [List.length_set]; omega)), take_set1 (by first | omega | (simp only [List.length_set]; omega)), take_set1 (by first | omega | (simp only [List.length_set]; omega)), take_set1 (by first | omega | (simp only [List.length_set]; omega))] <;> simp
          · skip
            refine g_icmpneY W (pc1 := 209) (pc2 := 172) (D pu_169) (by decide) (by decide) rfl (q39) ?_
            have ev : escS ch = [ch] := by unfold escS; rw [if_neg q38, if_neg q60, if_neg q62, if_neg q34, if_neg q39]
            have K0 : Keep h h [x] := Keep.refl _ _
            refine g_aloadN W (pc' := 210) (D pu_209) rfl rfl (by first | rfl | assumption) ?_
            refine g_iloadN W (pc' := 211) (D pu_210) rfl rfl ?_
            refine g_iloadN W (pc' := 212) (D pu_211) rfl rfl ?_
            refine g_castore W (pc' := 213) (A) (hz) (i := off) (own_n0 (by omega)) (own_n32 (by omega)) (by first | omega | (simp only [List.length_set]; omega)) (hc.1) (hc.2) (D pu_212) rfl (fun T g1 W Kp A1 => ?_)
            have K1 := K0.trans Kp (fun z hz => Or.inl hz)
            refine g_iloadN W (pc' := 214) (D pu_213) rfl rfl ?_
            refine g_iconst W (pc' := 215) (D pu_214) rfl (v := (1 : Int32)) (by decide) ?_
            refine g_iadd W (pc' := 216) (D pu_215) rfl ?_
            rw [e1]
            refine g_reti W (D pu_216) hret (by decide) (by decide) ⟨_, rfl, _, ?_, K1, A1, by simp only [List.length_set]; exact hl, ?_⟩
            · rw [ev]; rfl
            · rw [ev, show off + ([ch] : List Int32).length = off + 0 + 1 from rfl, take_set1 (by first | omega | (simp only [List.length_set]; omega))] <;> simp
theorem sm_0 : decode method_3_code 0 = .ok (.iload_n 3, 1) := by decide +kernel
theorem sm_1 : decode method_3_code 1 = .ok (.iload_n 2, 1) := by decide +kernel
theorem sm_2 : decode method_3_code 2 = .ok (.if_icmp .ge 14, 3) := by decide +kernel
theorem sm_5 : decode method_3_code 5 = .ok (.aload_n 0, 1) := by decide +kernel
theorem sm_6 : decode method_3_code 6 = .ok (.iload_n 3, 1) := by decide +kernel
theorem sm_7 : decode method_3_code 7 = .ok (.invokevirtual 40, 3) := by decide +kernel
theorem sm_10 : decode method_3_code 10 = .ok (.aload_n 1, 1) := by decide +kernel
theorem sm_11 : decode method_3_code 11 = .ok (.iload_n 3, 1) := by decide +kernel
theorem sm_12 : decode method_3_code 12 = .ok (.caload, 1) := by decide +kernel
theorem sm_13 : decode method_3_code 13 = .ok (.if_icmp .ne 7, 3) := by decide +kernel
theorem sm_16 : decode method_3_code 16 = .ok (.iconst 1, 1) := by decide +kernel
theorem sm_17 : decode method_3_code 17 = .ok (.goto 4, 3) := by decide +kernel
theorem sm_21 : decode method_3_code 21 = .ok (.ireturn, 1) := by decide +kernel
theorem efSm (m : MethodId) (x0 : Addr) (x1 : Addr) (x2 : Int32) (x3 : Int32) : entryFrame m #[.ref x0, .ref x1, .int x2, .int x3] 4 = mkF m 0 #[.val (.ref x0), .val (.ref x1), .val (.int x2), .val (.int x3)] [] := by first | (simp [entryFrame, mkF, argsToLocals, Value.category, maxLocals]; done) | rfl
set_option maxRecDepth 65536 in
set_option maxHeartbeats 8000000 in
theorem t_same (l : Launch) {Z : State} {a0 : Array Value} (hw : ∀ d ∈ tables_1, d.before a0 Z = true) (hEL : EW Z a0 consts_1) (cst : Cst Z) (fst : Fst Z) (ust : Ust Z) {h : Heap} (hO : Ext Z.heap h) {r x : Addr} {R0 es : List Int32} (S : StrG Z h r R0) (A : Ali Z h x .char (es.map Value.int)) (hl : es.length = 18) (he : es.take R0.length = R0) (hm : R0.length ≤ 18) {k : Nat} (hk : k < 18) :
    Met l Z consts_1 [] (⟨LW, "same", "(Ljava/lang/String;[CII)Z"⟩ : MethodName) method_3_code 4 (some .boolean) { frames := 5, cells := 0, slots := 0, locals := 70 } #[.ref r, .ref x, .int (Int32.ofNat R0.length), .int (Int32.ofNat k)] h (Ret fun v h' => v = .int 1 ∧ h = h') := by
  refine Met.intro pnLW hEL hO ?_
  intro p e s m below meth c T W hby hml hret hnm
  have D : ∀ {pc : Nat} {r}, decode method_3_code pc = r → decode c.code pc = r := fun q => hb hby q
  refine Go.cast (efSm m r x (Int32.ofNat R0.length) (Int32.ofNat k)) ?_
  refine g_iloadN W (pc' := 1) (D sm_0) rfl rfl ?_
  refine g_iloadN W (pc' := 2) (D sm_1) rfl rfl ?_
  rcases Nat.lt_or_ge k R0.length with q | q
  · refine g_icmpgeN W (pc1 := 16) (pc2 := 5) (D sm_2) (by decide) (by decide) rfl ((by rw [Int32.lt_iff_toInt_lt, Int32.toInt_ofNat_small (by omega), Int32.toInt_ofNat_small (by omega)]; omega)) ?_
    refine g_aloadN W (pc' := 6) (D sm_5) rfl rfl (by first | rfl | assumption) ?_
    refine g_iloadN W (pc' := 7) (D sm_6) rfl rfl ?_
    refine g_virt W (t_charAtG l hw hEL cst fst ust W.old S (i := k) q) (fun x q => nomatch q) ⟨_, _, rfl, (hI hw 125 rfl)⟩ (hI hw 222 rfl) (hI hw 123 rfl) (hI hw 125 rfl) (hI hw 124 rfl) (hI hw 6 rfl) (hI hw 126 rfl) (by decide) pd_36 (S.exa) (argsL := [_]) rfl rfl (pc' := 10) rfl (by rw [hml]; rfl) (D sm_7) rfl (Wn := 0) (Nat.le_refl _) (by decide) (by decide) (by decide) (by decide) (fun v T g1 W hg hQ => ?_)
    obtain ⟨rfl, rfl⟩ := hQ
    refine g_aloadN W (pc' := 11) (D sm_10) rfl rfl (by first | rfl | assumption) ?_
    refine g_iloadN W (pc' := 12) (D sm_11) rfl rfl ?_
    refine g_caload W (pc' := 13) (A) (i := k) (own_n0 (by omega)) (own_n32 (by omega)) (by omega) (D sm_12) rfl ?_
    have ee : R0.getD k 0 = es.getD k 0 := by
      have z := List.getElem?_take_of_lt (l := es) q
      rw [he] at z
      rw [List.getD_eq_getElem?_getD, List.getD_eq_getElem?_getD, z]
    refine g_icmpneN W (pc1 := 20) (pc2 := 16) (D sm_13) (by decide) (by decide) rfl (ee) ?_
    refine g_iconst W (pc' := 17) (D sm_16) rfl (v := (1 : Int32)) (by decide) ?_
    refine g_goto W (pc' := 21) (D sm_17) (by decide) (by decide) ?_
    exact g_retz W (D sm_21) hret (Or.inr rfl) (by decide) (by decide) ⟨_, rfl, rfl, rfl⟩
  · refine g_icmpgeY W (pc1 := 16) (pc2 := 5) (D sm_2) (by decide) (by decide) rfl ((min_lt q (by omega))) ?_
    refine g_iconst W (pc' := 17) (D sm_16) rfl (v := (1 : Int32)) (by decide) ?_
    refine g_goto W (pc' := 21) (D sm_17) (by decide) (by decide) ?_
    exact g_retz W (D sm_21) hret (Or.inr rfl) (by decide) (by decide) ⟨_, rfl, rfl, rfl⟩
theorem efL (m : MethodId) (x0 : Int32) (x1 : Int32) (x2 : Int32) (x3 : Int32) : entryFrame m #[.int x0, .int x1, .int x2, .int x3] maxLocals = mkF m 0 #[.val (.int x0), .val (.int x1), .val (.int x2), .val (.int x3), .unset, .unset, .unset, .unset, .unset, .unset, .unset, .unset, .unset] [] := by first | (simp [entryFrame, mkF, argsToLocals, Value.category, maxLocals]; done) | rfl
theorem wc_big {c : Int32} (h : Wc c) (q : ¬ Lc c) : (255 : Int32) < c := Decidable.byContradiction fun r => q ⟨h.1, r⟩
set_option maxRecDepth 65536 in
set_option maxHeartbeats 100000000 in
open Classical in
theorem t_law (l : Launch) {Z : State} {a0 : Array Value} (hw : ∀ d ∈ tables_1, d.before a0 Z = true) (cst : Cst Z) (fst : Fst Z) (ust : Ust Z) (hEL : EW Z a0 consts_1) (sel a b cc : Int32) :
    MetW tables_1 l Z consts_1 [] x code maxLocals ret room_1 #[.int sel, .int a, .int b, .int cc] Z.heap (Ret fun v _ => v = .int 1) := by
  have hO : Ext Z.heap Z.heap := ext_refl _
  have wi : (Jvm.Cond.instantiable "java/lang/String" 4).before a0 Z = true := (hI hw 5 rfl)
  refine Met.intro pnLW hEL hO ?_
  intro p e s m below meth c T W hby hml hret hnm
  have D : ∀ {pc : Nat} {r}, decode code pc = r → decode c.code pc = r := fun q => hb hby q
  refine Go.cast (efL m sel a b cc) ?_
  refine g_iloadN W (pc' := 1) (D at_0) rfl rfl ?_
  refine g_iconst W (pc' := 2) (D at_1) rfl (v := (3 : Int32)) (by decide) ?_
  refine g_iand W (pc' := 3) (D at_2) rfl ?_
  refine g_istore W (pc' := 5) (D at_3) rfl (ls' := #[_, _, _, _, _, _, _, _, _, _, _, _, _]) rfl ?_
  refine g_iloadN W (pc' := 6) (D at_5) rfl rfl ?_
  refine g_callS W (t_draw l hEL W.old) (fun x q => nomatch q) (hI hw 0 rfl) (hI hw 1 rfl) (hI hw 2 rfl) (hI hw 3 rfl) (by decide) pd_36 (argsL := [_]) rfl rfl (pc' := 9) rfl (by rw [hml]; rfl) (D at_6) rfl (Wn := 0) (Nat.le_refl _) (by decide) (by decide) (by decide) (by decide) (fun v T g W hg hQ => ?_)
  obtain ⟨⟨c0, rfl, wc0⟩, rfl⟩ := hQ
  refine g_istore W (pc' := 11) (D at_9) rfl (ls' := #[_, _, _, _, _, _, _, _, _, _, _, _, _]) rfl ?_
  refine g_iloadN W (pc' := 12) (D at_11) rfl rfl ?_
  refine g_callS W (t_draw l hEL W.old) (fun x q => nomatch q) (hI hw 0 rfl) (hI hw 1 rfl) (hI hw 2 rfl) (hI hw 3 rfl) (by decide) pd_36 (argsL := [_]) rfl rfl (pc' := 15) rfl (by rw [hml]; rfl) (D at_12) rfl (Wn := 0) (Nat.le_refl _) (by decide) (by decide) (by decide) (by decide) (fun v T g W hg hQ => ?_)
  obtain ⟨⟨c1, rfl, wc1⟩, rfl⟩ := hQ
  refine g_istore W (pc' := 17) (D at_15) rfl (ls' := #[_, _, _, _, _, _, _, _, _, _, _, _, _]) rfl ?_
  refine g_iloadN W (pc' := 18) (D at_17) rfl rfl ?_
  refine g_callS W (t_draw l hEL W.old) (fun x q => nomatch q) (hI hw 0 rfl) (hI hw 1 rfl) (hI hw 2 rfl) (hI hw 3 rfl) (by decide) pd_36 (argsL := [_]) rfl rfl (pc' := 21) rfl (by rw [hml]; rfl) (D at_18) rfl (Wn := 0) (Nat.le_refl _) (by decide) (by decide) (by decide) (by decide) (fun v T g W hg hQ => ?_)
  obtain ⟨⟨c2, rfl, wc2⟩, rfl⟩ := hQ
  refine g_istore W (pc' := 23) (D at_21) rfl (ls' := #[_, _, _, _, _, _, _, _, _, _, _, _, _]) rfl ?_
  refine g_iload W (pc' := 25) (D at_23) rfl rfl ?_
  rcases and3 sel with hs | hs | hs | hs
  · rw [hs]
    have J : ∀ (y : Addr) (T : State) (g : Heap) (F : List Addr), StrG Z g y [] → Wd p l e room_1 s m #[.int sel, .int a, .int b, .int cc] below meth c Z a0 consts_1 LW F T g 6 160 → Go p e below (Endp Z consts_1 s (Ret fun v _ => v = .int 1) room_1.cells room_1.slots) T (mkF m 117 #[.val (.int sel), .val (.int a), .val (.int b), .val (.int cc), .val (.int 0), .val (.int c0), .val (.int c1), .val (.int c2), .val (.ref y), .unset, .unset, .unset, .unset] []) := by
      intro y T g F S W
      refine g_bipush W (pc' := 119) (D at_117) rfl (v := (18 : Int32)) (by decide) ?_
      have hzo := W.old.1
      refine g_newarray W (pc' := 121) (ty := .char) rfl (i := 18) (by decide) (by decide) (hI hw 7 rfl) (D at_119) rfl (cap := 18) (by decide) (by decide) (by decide) (by decide) (fun xe T u0 hxe W Ex A0 => ?_)
      replace A0 : Ali Z u0 xe .char ((List.replicate 18 (0 : Int32)).map Value.int) := A0
      have hze : Z.heap.size ≤ xe := Nat.le_trans hzo hxe
      have KK : Keep g u0 [] := ext_keep Ex []
      have l0 : (List.replicate 18 (0 : Int32)).length = 18 := rfl
      refine g_astore W (pc' := 123) (D at_121) rfl (by first | rfl | assumption) (ls' := #[_, _, _, _, _, _, _, _, _, _, _, _, _]) rfl ?_
      refine g_iconst W (pc' := 124) (D at_123) rfl (v := (0 : Int32)) (by decide) ?_
      refine g_istore W (pc' := 126) (D at_124) rfl (ls' := #[_, _, _, _, _, _, _, _, _, _, _, _, _]) rfl ?_
      refine g_iload W (pc' := 128) (D at_126) rfl rfl ?_
      refine g_iconst W (pc' := 129) (D at_128) rfl (v := (1 : Int32)) (by decide) ?_
      refine g_icmpltY W (pc1 := 143) (pc2 := 132) (D at_129) (by decide) (by decide) rfl (by decide) ?_
      refine g_iload W (pc' := 145) (D at_143) rfl rfl ?_
      refine g_iconst W (pc' := 146) (D at_145) rfl (v := (2 : Int32)) (by decide) ?_
      refine g_icmpltY W (pc1 := 160) (pc2 := 149) (D at_146) (by decide) (by decide) rfl (by decide) ?_
      refine g_iload W (pc' := 162) (D at_160) rfl rfl ?_
      refine g_iconst W (pc' := 163) (D at_162) rfl (v := (3 : Int32)) (by decide) ?_
      refine g_icmpltY W (pc1 := 177) (pc2 := 166) (D at_163) (by decide) (by decide) rfl (by decide) ?_
      refine g_aload W (pc' := 179) (D at_177) rfl rfl (by first | rfl | assumption) ?_
      refine g_callS W (t_text l hw hEL cst fst ust W.old (S.ext (keep_ext KK)) (by show 0 ≤ 3; decide)) (fun x q => nomatch q) (hI hw 26 rfl) (hI hw 27 rfl) (hI hw 28 rfl) (hI hw 29 rfl) (by decide) pd_39 (argsL := [_]) rfl rfl (pc' := 182) rfl (by rw [hml]; rfl) (D at_179) rfl (Wn := 0) (Nat.le_refl _) (by decide) (by decide) (by decide) (by decide) (fun v T ut W hg hQ => ?_)
      obtain ⟨r, rfl, Et, SR⟩ := hQ
      have hm : (escT []).length = 0 := by simp only [escT_cons, escT_nil, List.length_append, List.length_nil] <;> omega
      refine g_astore W (pc' := 184) (D at_182) rfl (by first | rfl | assumption) (ls' := #[_, _, _, _, _, _, _, _, _, _, _, _, _]) rfl ?_
      refine g_aload W (pc' := 186) (D at_184) rfl rfl (by first | rfl | assumption) ?_
      refine g_ifnullN W (pc1 := 199) (pc2 := 189) (D at_186) (by decide) (by decide) rfl ?_
      refine g_aload W (pc' := 191) (D at_189) rfl rfl (by first | rfl | assumption) ?_
      refine g_virt W (t_lenG l hw hEL cst fst ust W.old SR) (fun x q => nomatch q) ⟨_, _, rfl, (hI hw 36 rfl)⟩ (hI hw 105 rfl) (hI hw 34 rfl) (hI hw 36 rfl) (hI hw 35 rfl) (hI hw 6 rfl) (hI hw 37 rfl) (by decide) pd_4 (SR.exa) (argsL := []) rfl rfl (pc' := 194) rfl (by rw [hml]; rfl) (D at_191) rfl (Wn := 0) (Nat.le_refl _) (by decide) (by decide) (by decide) (by decide) (fun v T u W hg hQ => ?_)
      obtain ⟨rfl, rfl⟩ := hQ
      refine g_iload W (pc' := 196) (D at_194) rfl rfl ?_
      refine g_icmpeqY W (pc1 := 201) (pc2 := 199) (D at_196) (by decide) (by decide) rfl ((congrArg Int32.ofNat hm)) ?_
      have he : (List.replicate 18 (0 : Int32)).take (escT []).length = escT [] := rfl
      have A9 := A0.ext Et
      have h18 : (escT []).length ≤ 18 := by rw [hm]; omega
      refine g_iconst W (pc' := 202) (D at_201) rfl (v := (1 : Int32)) (by decide) ?_
      refine g_istore W (pc' := 204) (D at_202) rfl (ls' := #[_, _, _, _, _, _, _, _, _, _, _, _, _]) rfl ?_
      refine g_iload W (pc' := 206) (D at_204) rfl rfl ?_
      refine g_aload W (pc' := 208) (D at_206) rfl rfl (by first | rfl | assumption) ?_
      refine g_aload W (pc' := 210) (D at_208) rfl rfl (by first | rfl | assumption) ?_
      refine g_iload W (pc' := 212) (D at_210) rfl rfl ?_
      refine g_iconst W (pc' := 213) (D at_212) rfl (v := (0 : Int32)) (by decide) ?_
      have z0 := t_same l hw hEL cst fst ust W.old SR A9 l0 he h18 (k := 0) (by decide)
      rw [hm] at z0
      refine g_callS W (z0) (fun x q => nomatch q) (hI hw 106 rfl) (hI hw 107 rfl) (hI hw 2 rfl) (hI hw 108 rfl) (by decide) pd_40 (argsL := [_, _, _, _]) rfl rfl (pc' := 216) rfl (by rw [hml]; rfl) (D at_213) rfl (Wn := 1) (Nat.le_refl _) (by decide) (by decide) (by decide) (by decide) (fun v T u W hg hQ => ?_)
      obtain ⟨rfl, rfl⟩ := hQ
      refine g_iand W (pc' := 217) (D at_216) rfl ?_
      rw [show ((1 : Int32) &&& 1) = 1 from by decide]
      refine g_istore W (pc' := 219) (D at_217) rfl (ls' := #[_, _, _, _, _, _, _, _, _, _, _, _, _]) rfl ?_
      refine g_iload W (pc' := 221) (D at_219) rfl rfl ?_
      refine g_aload W (pc' := 223) (D at_221) rfl rfl (by first | rfl | assumption) ?_
      refine g_aload W (pc' := 225) (D at_223) rfl rfl (by first | rfl | assumption) ?_
      refine g_iload W (pc' := 227) (D at_225) rfl rfl ?_
      refine g_iconst W (pc' := 228) (D at_227) rfl (v := (1 : Int32)) (by decide) ?_
      have z1 := t_same l hw hEL cst fst ust W.old SR A9 l0 he h18 (k := 1) (by decide)
      rw [hm] at z1
      refine g_callS W (z1) (fun x q => nomatch q) (hI hw 106 rfl) (hI hw 107 rfl) (hI hw 2 rfl) (hI hw 108 rfl) (by decide) pd_40 (argsL := [_, _, _, _]) rfl rfl (pc' := 231) rfl (by rw [hml]; rfl) (D at_228) rfl (Wn := 1) (Nat.le_refl _) (by decide) (by decide) (by decide) (by decide) (fun v T u W hg hQ => ?_)
      obtain ⟨rfl, rfl⟩ := hQ
      refine g_iand W (pc' := 232) (D at_231) rfl ?_
      rw [show ((1 : Int32) &&& 1) = 1 from by decide]
      refine g_istore W (pc' := 234) (D at_232) rfl (ls' := #[_, _, _, _, _, _, _, _, _, _, _, _, _]) rfl ?_
      refine g_iload W (pc' := 236) (D at_234) rfl rfl ?_
      refine g_aload W (pc' := 238) (D at_236) rfl rfl (by first | rfl | assumption) ?_
      refine g_aload W (pc' := 240) (D at_238) rfl rfl (by first | rfl | assumption) ?_
      refine g_iload W (pc' := 242) (D at_240) rfl rfl ?_
      refine g_iconst W (pc' := 243) (D at_242) rfl (v := (2 : Int32)) (by decide) ?_
      have z2 := t_same l hw hEL cst fst ust W.old SR A9 l0 he h18 (k := 2) (by decide)
      rw [hm] at z2
      refine g_callS W (z2) (fun x q => nomatch q) (hI hw 106 rfl) (hI hw 107 rfl) (hI hw 2 rfl) (hI hw 108 rfl) (by decide) pd_40 (argsL := [_, _, _, _]) rfl rfl (pc' := 246) rfl (by rw [hml]; rfl) (D at_243) rfl (Wn := 1) (Nat.le_refl _) (by decide) (by decide) (by decide) (by decide) (fun v T u W hg hQ => ?_)
      obtain ⟨rfl, rfl⟩ := hQ
      refine g_iand W (pc' := 247) (D at_246) rfl ?_
      rw [show ((1 : Int32) &&& 1) = 1 from by decide]
      refine g_istore W (pc' := 249) (D at_247) rfl (ls' := #[_, _, _, _, _, _, _, _, _, _, _, _, _]) rfl ?_
      refine g_iload W (pc' := 251) (D at_249) rfl rfl ?_
      refine g_aload W (pc' := 253) (D at_251) rfl rfl (by first | rfl | assumption) ?_
      refine g_aload W (pc' := 255) (D at_253) rfl rfl (by first | rfl | assumption) ?_
      refine g_iload W (pc' := 257) (D at_255) rfl rfl ?_
      refine g_iconst W (pc' := 258) (D at_257) rfl (v := (3 : Int32)) (by decide) ?_
      have z3 := t_same l hw hEL cst fst ust W.old SR A9 l0 he h18 (k := 3) (by decide)
      rw [hm] at z3
      refine g_callS W (z3) (fun x q => nomatch q) (hI hw 106 rfl) (hI hw 107 rfl) (hI hw 2 rfl) (hI hw 108 rfl) (by decide) pd_40 (argsL := [_, _, _, _]) rfl rfl (pc' := 261) rfl (by rw [hml]; rfl) (D at_258) rfl (Wn := 1) (Nat.le_refl _) (by decide) (by decide) (by decide) (by decide) (fun v T u W hg hQ => ?_)
      obtain ⟨rfl, rfl⟩ := hQ
      refine g_iand W (pc' := 262) (D at_261) rfl ?_
      rw [show ((1 : Int32) &&& 1) = 1 from by decide]
      refine g_istore W (pc' := 264) (D at_262) rfl (ls' := #[_, _, _, _, _, _, _, _, _, _, _, _, _]) rfl ?_
      refine g_iload W (pc' := 266) (D at_264) rfl rfl ?_
      refine g_aload W (pc' := 268) (D at_266) rfl rfl (by first | rfl | assumption) ?_
      refine g_aload W (pc' := 270) (D at_268) rfl rfl (by first | rfl | assumption) ?_
      refine g_iload W (pc' := 272) (D at_270) rfl rfl ?_
      refine g_iconst W (pc' := 273) (D at_272) rfl (v := (4 : Int32)) (by decide) ?_
      have z4 := t_same l hw hEL cst fst ust W.old SR A9 l0 he h18 (k := 4) (by decide)
      rw [hm] at z4
      refine g_callS W (z4) (fun x q => nomatch q) (hI hw 106 rfl) (hI hw 107 rfl) (hI hw 2 rfl) (hI hw 108 rfl) (by decide) pd_40 (argsL := [_, _, _, _]) rfl rfl (pc' := 276) rfl (by rw [hml]; rfl) (D at_273) rfl (Wn := 1) (Nat.le_refl _) (by decide) (by decide) (by decide) (by decide) (fun v T u W hg hQ => ?_)
      obtain ⟨rfl, rfl⟩ := hQ
      refine g_iand W (pc' := 277) (D at_276) rfl ?_
      rw [show ((1 : Int32) &&& 1) = 1 from by decide]
      refine g_istore W (pc' := 279) (D at_277) rfl (ls' := #[_, _, _, _, _, _, _, _, _, _, _, _, _]) rfl ?_
      refine g_iload W (pc' := 281) (D at_279) rfl rfl ?_
      refine g_aload W (pc' := 283) (D at_281) rfl rfl (by first | rfl | assumption) ?_
      refine g_aload W (pc' := 285) (D at_283) rfl rfl (by first | rfl | assumption) ?_
      refine g_iload W (pc' := 287) (D at_285) rfl rfl ?_
      refine g_iconst W (pc' := 288) (D at_287) rfl (v := (5 : Int32)) (by decide) ?_
      have z5 := t_same l hw hEL cst fst ust W.old SR A9 l0 he h18 (k := 5) (by decide)
      rw [hm] at z5
      refine g_callS W (z5) (fun x q => nomatch q) (hI hw 106 rfl) (hI hw 107 rfl) (hI hw 2 rfl) (hI hw 108 rfl) (by decide) pd_40 (argsL := [_, _, _, _]) rfl rfl (pc' := 291) rfl (by rw [hml]; rfl) (D at_288) rfl (Wn := 1) (Nat.le_refl _) (by decide) (by decide) (by decide) (by decide) (fun v T u W hg hQ => ?_)
      obtain ⟨rfl, rfl⟩ := hQ
      refine g_iand W (pc' := 292) (D at_291) rfl ?_
      rw [show ((1 : Int32) &&& 1) = 1 from by decide]
      refine g_istore W (pc' := 294) (D at_292) rfl (ls' := #[_, _, _, _, _, _, _, _, _, _, _, _, _]) rfl ?_
      refine g_iload W (pc' := 296) (D at_294) rfl rfl ?_
      refine g_aload W (pc' := 298) (D at_296) rfl rfl (by first | rfl | assumption) ?_
      refine g_aload W (pc' := 300) (D at_298) rfl rfl (by first | rfl | assumption) ?_
      refine g_iload W (pc' := 302) (D at_300) rfl rfl ?_
      refine g_bipush W (pc' := 304) (D at_302) rfl (v := (6 : Int32)) (by decide) ?_
      have z6 := t_same l hw hEL cst fst ust W.old SR A9 l0 he h18 (k := 6) (by decide)
      rw [hm] at z6
      refine g_callS W (z6) (fun x q => nomatch q) (hI hw 106 rfl) (hI hw 107 rfl) (hI hw 2 rfl) (hI hw 108 rfl) (by decide) pd_40 (argsL := [_, _, _, _]) rfl rfl (pc' := 307) rfl (by rw [hml]; rfl) (D at_304) rfl (Wn := 1) (Nat.le_refl _) (by decide) (by decide) (by decide) (by decide) (fun v T u W hg hQ => ?_)
      obtain ⟨rfl, rfl⟩ := hQ
      refine g_iand W (pc' := 308) (D at_307) rfl ?_
      rw [show ((1 : Int32) &&& 1) = 1 from by decide]
      refine g_istore W (pc' := 310) (D at_308) rfl (ls' := #[_, _, _, _, _, _, _, _, _, _, _, _, _]) rfl ?_
      refine g_iload W (pc' := 312) (D at_310) rfl rfl ?_
      refine g_aload W (pc' := 314) (D at_312) rfl rfl (by first | rfl | assumption) ?_
      refine g_aload W (pc' := 316) (D at_314) rfl rfl (by first | rfl | assumption) ?_
      refine g_iload W (pc' := 318) (D at_316) rfl rfl ?_
      refine g_bipush W (pc' := 320) (D at_318) rfl (v := (7 : Int32)) (by decide) ?_
      have z7 := t_same l hw hEL cst fst ust W.old SR A9 l0 he h18 (k := 7) (by decide)
      rw [hm] at z7
      refine g_callS W (z7) (fun x q => nomatch q) (hI hw 106 rfl) (hI hw 107 rfl) (hI hw 2 rfl) (hI hw 108 rfl) (by decide) pd_40 (argsL := [_, _, _, _]) rfl rfl (pc' := 323) rfl (by rw [hml]; rfl) (D at_320) rfl (Wn := 1) (Nat.le_refl _) (by decide) (by decide) (by decide) (by decide) (fun v T u W hg hQ => ?_)
      obtain ⟨rfl, rfl⟩ := hQ
      refine g_iand W (pc' := 324) (D at_323) rfl ?_
      rw [show ((1 : Int32) &&& 1) = 1 from by decide]
      refine g_istore W (pc' := 326) (D at_324) rfl (ls' := #[_, _, _, _, _, _, _, _, _, _, _, _, _]) rfl ?_
      refine g_iload W (pc' := 328) (D at_326) rfl rfl ?_
      refine g_aload W (pc' := 330) (D at_328) rfl rfl (by first | rfl | assumption) ?_
      refine g_aload W (pc' := 332) (D at_330) rfl rfl (by first | rfl | assumption) ?_
      refine g_iload W (pc' := 334) (D at_332) rfl rfl ?_
      refine g_bipush W (pc' := 336) (D at_334) rfl (v := (8 : Int32)) (by decide) ?_
      have z8 := t_same l hw hEL cst fst ust W.old SR A9 l0 he h18 (k := 8) (by decide)
      rw [hm] at z8
      refine g_callS W (z8) (fun x q => nomatch q) (hI hw 106 rfl) (hI hw 107 rfl) (hI hw 2 rfl) (hI hw 108 rfl) (by decide) pd_40 (argsL := [_, _, _, _]) rfl rfl (pc' := 339) rfl (by rw [hml]; rfl) (D at_336) rfl (Wn := 1) (Nat.le_refl _) (by decide) (by decide) (by decide) (by decide) (fun v T u W hg hQ => ?_)
      obtain ⟨rfl, rfl⟩ := hQ
      refine g_iand W (pc' := 340) (D at_339) rfl ?_
      rw [show ((1 : Int32) &&& 1) = 1 from by decide]
      refine g_istore W (pc' := 342) (D at_340) rfl (ls' := #[_, _, _, _, _, _, _, _, _, _, _, _, _]) rfl ?_
      refine g_iload W (pc' := 344) (D at_342) rfl rfl ?_
      refine g_aload W (pc' := 346) (D at_344) rfl rfl (by first | rfl | assumption) ?_
      refine g_aload W (pc' := 348) (D at_346) rfl rfl (by first | rfl | assumption) ?_
      refine g_iload W (pc' := 350) (D at_348) rfl rfl ?_
      refine g_bipush W (pc' := 352) (D at_350) rfl (v := (9 : Int32)) (by decide) ?_
      have z9 := t_same l hw hEL cst fst ust W.old SR A9 l0 he h18 (k := 9) (by decide)
      rw [hm] at z9
      refine g_callS W (z9) (fun x q => nomatch q) (hI hw 106 rfl) (hI hw 107 rfl) (hI hw 2 rfl) (hI hw 108 rfl) (by decide) pd_40 (argsL := [_, _, _, _]) rfl rfl (pc' := 355) rfl (by rw [hml]; rfl) (D at_352) rfl (Wn := 1) (Nat.le_refl _) (by decide) (by decide) (by decide) (by decide) (fun v T u W hg hQ => ?_)
      obtain ⟨rfl, rfl⟩ := hQ
      refine g_iand W (pc' := 356) (D at_355) rfl ?_
      rw [show ((1 : Int32) &&& 1) = 1 from by decide]
      refine g_istore W (pc' := 358) (D at_356) rfl (ls' := #[_, _, _, _, _, _, _, _, _, _, _, _, _]) rfl ?_
      refine g_iload W (pc' := 360) (D at_358) rfl rfl ?_
      refine g_aload W (pc' := 362) (D at_360) rfl rfl (by first | rfl | assumption) ?_
      refine g_aload W (pc' := 364) (D at_362) rfl rfl (by first | rfl | assumption) ?_
      refine g_iload W (pc' := 366) (D at_364) rfl rfl ?_
      refine g_bipush W (pc' := 368) (D at_366) rfl (v := (10 : Int32)) (by decide) ?_
      have z10 := t_same l hw hEL cst fst ust W.old SR A9 l0 he h18 (k := 10) (by decide)
      rw [hm] at z10
      refine g_callS W (z10) (fun x q => nomatch q) (hI hw 106 rfl) (hI hw 107 rfl) (hI hw 2 rfl) (hI hw 108 rfl) (by decide) pd_40 (argsL := [_, _, _, _]) rfl rfl (pc' := 371) rfl (by rw [hml]; rfl) (D at_368) rfl (Wn := 1) (Nat.le_refl _) (by decide) (by decide) (by decide) (by decide) (fun v T u W hg hQ => ?_)
      obtain ⟨rfl, rfl⟩ := hQ
      refine g_iand W (pc' := 372) (D at_371) rfl ?_
      rw [show ((1 : Int32) &&& 1) = 1 from by decide]
      refine g_istore W (pc' := 374) (D at_372) rfl (ls' := #[_, _, _, _, _, _, _, _, _, _, _, _, _]) rfl ?_
      refine g_iload W (pc' := 376) (D at_374) rfl rfl ?_
      refine g_aload W (pc' := 378) (D at_376) rfl rfl (by first | rfl | assumption) ?_
      refine g_aload W (pc' := 380) (D at_378) rfl rfl (by first | rfl | assumption) ?_
      refine g_iload W (pc' := 382) (D at_380) rfl rfl ?_
      refine g_bipush W (pc' := 384) (D at_382) rfl (v := (11 : Int32)) (by decide) ?_
      have z11 := t_same l hw hEL cst fst ust W.old SR A9 l0 he h18 (k := 11) (by decide)
      rw [hm] at z11
      refine g_callS W (z11) (fun x q => nomatch q) (hI hw 106 rfl) (hI hw 107 rfl) (hI hw 2 rfl) (hI hw 108 rfl) (by decide) pd_40 (argsL := [_, _, _, _]) rfl rfl (pc' := 387) rfl (by rw [hml]; rfl) (D at_384) rfl (Wn := 1) (Nat.le_refl _) (by decide) (by decide) (by decide) (by decide) (fun v T u W hg hQ => ?_)
      obtain ⟨rfl, rfl⟩ := hQ
      refine g_iand W (pc' := 388) (D at_387) rfl ?_
      rw [show ((1 : Int32) &&& 1) = 1 from by decide]
      refine g_istore W (pc' := 390) (D at_388) rfl (ls' := #[_, _, _, _, _, _, _, _, _, _, _, _, _]) rfl ?_
      refine g_iload W (pc' := 392) (D at_390) rfl rfl ?_
      refine g_aload W (pc' := 394) (D at_392) rfl rfl (by first | rfl | assumption) ?_
      refine g_aload W (pc' := 396) (D at_394) rfl rfl (by first | rfl | assumption) ?_
      refine g_iload W (pc' := 398) (D at_396) rfl rfl ?_
      refine g_bipush W (pc' := 400) (D at_398) rfl (v := (12 : Int32)) (by decide) ?_
      have z12 := t_same l hw hEL cst fst ust W.old SR A9 l0 he h18 (k := 12) (by decide)
      rw [hm] at z12
      refine g_callS W (z12) (fun x q => nomatch q) (hI hw 106 rfl) (hI hw 107 rfl) (hI hw 2 rfl) (hI hw 108 rfl) (by decide) pd_40 (argsL := [_, _, _, _]) rfl rfl (pc' := 403) rfl (by rw [hml]; rfl) (D at_400) rfl (Wn := 1) (Nat.le_refl _) (by decide) (by decide) (by decide) (by decide) (fun v T u W hg hQ => ?_)
      obtain ⟨rfl, rfl⟩ := hQ
      refine g_iand W (pc' := 404) (D at_403) rfl ?_
      rw [show ((1 : Int32) &&& 1) = 1 from by decide]
      refine g_istore W (pc' := 406) (D at_404) rfl (ls' := #[_, _, _, _, _, _, _, _, _, _, _, _, _]) rfl ?_
      refine g_iload W (pc' := 408) (D at_406) rfl rfl ?_
      refine g_aload W (pc' := 410) (D at_408) rfl rfl (by first | rfl | assumption) ?_
      refine g_aload W (pc' := 412) (D at_410) rfl rfl (by first | rfl | assumption) ?_
      refine g_iload W (pc' := 414) (D at_412) rfl rfl ?_
      refine g_bipush W (pc' := 416) (D at_414) rfl (v := (13 : Int32)) (by decide) ?_
      have z13 := t_same l hw hEL cst fst ust W.old SR A9 l0 he h18 (k := 13) (by decide)
      rw [hm] at z13
      refine g_callS W (z13) (fun x q => nomatch q) (hI hw 106 rfl) (hI hw 107 rfl) (hI hw 2 rfl) (hI hw 108 rfl) (by decide) pd_40 (argsL := [_, _, _, _]) rfl rfl (pc' := 419) rfl (by rw [hml]; rfl) (D at_416) rfl (Wn := 1) (Nat.le_refl _) (by decide) (by decide) (by decide) (by decide) (fun v T u W hg hQ => ?_)
      obtain ⟨rfl, rfl⟩ := hQ
      refine g_iand W (pc' := 420) (D at_419) rfl ?_
      rw [show ((1 : Int32) &&& 1) = 1 from by decide]
      refine g_istore W (pc' := 422) (D at_420) rfl (ls' := #[_, _, _, _, _, _, _, _, _, _, _, _, _]) rfl ?_
      refine g_iload W (pc' := 424) (D at_422) rfl rfl ?_
      refine g_aload W (pc' := 426) (D at_424) rfl rfl (by first | rfl | assumption) ?_
      refine g_aload W (pc' := 428) (D at_426) rfl rfl (by first | rfl | assumption) ?_
      refine g_iload W (pc' := 430) (D at_428) rfl rfl ?_
      refine g_bipush W (pc' := 432) (D at_430) rfl (v := (14 : Int32)) (by decide) ?_
      have z14 := t_same l hw hEL cst fst ust W.old SR A9 l0 he h18 (k := 14) (by decide)
      rw [hm] at z14
      refine g_callS W (z14) (fun x q => nomatch q) (hI hw 106 rfl) (hI hw 107 rfl) (hI hw 2 rfl) (hI hw 108 rfl) (by decide) pd_40 (argsL := [_, _, _, _]) rfl rfl (pc' := 435) rfl (by rw [hml]; rfl) (D at_432) rfl (Wn := 1) (Nat.le_refl _) (by decide) (by decide) (by decide) (by decide) (fun v T u W hg hQ => ?_)
      obtain ⟨rfl, rfl⟩ := hQ
      refine g_iand W (pc' := 436) (D at_435) rfl ?_
      rw [show ((1 : Int32) &&& 1) = 1 from by decide]
      refine g_istore W (pc' := 438) (D at_436) rfl (ls' := #[_, _, _, _, _, _, _, _, _, _, _, _, _]) rfl ?_
      refine g_iload W (pc' := 440) (D at_438) rfl rfl ?_
      refine g_aload W (pc' := 442) (D at_440) rfl rfl (by first | rfl | assumption) ?_
      refine g_aload W (pc' := 444) (D at_442) rfl rfl (by first | rfl | assumption) ?_
      refine g_iload W (pc' := 446) (D at_444) rfl rfl ?_
      refine g_bipush W (pc' := 448) (D at_446) rfl (v := (15 : Int32)) (by decide) ?_
      have z15 := t_same l hw hEL cst fst ust W.old SR A9 l0 he h18 (k := 15) (by decide)
      rw [hm] at z15
      refine g_callS W (z15) (fun x q => nomatch q) (hI hw 106 rfl) (hI hw 107 rfl) (hI hw 2 rfl) (hI hw 108 rfl) (by decide) pd_40 (argsL := [_, _, _, _]) rfl rfl (pc' := 451) rfl (by rw [hml]; rfl) (D at_448) rfl (Wn := 1) (Nat.le_refl _) (by decide) (by decide) (by decide) (by decide) (fun v T u W hg hQ => ?_)
      obtain ⟨rfl, rfl⟩ := hQ
      refine g_iand W (pc' := 452) (D at_451) rfl ?_
      rw [show ((1 : Int32) &&& 1) = 1 from by decide]
      refine g_istore W (pc' := 454) (D at_452) rfl (ls' := #[_, _, _, _, _, _, _, _, _, _, _, _, _]) rfl ?_
      refine g_iload W (pc' := 456) (D at_454) rfl rfl ?_
      refine g_aload W (pc' := 458) (D at_456) rfl rfl (by first | rfl | assumption) ?_
      refine g_aload W (pc' := 460) (D at_458) rfl rfl (by first | rfl | assumption) ?_
      refine g_iload W (pc' := 462) (D at_460) rfl rfl ?_
      refine g_bipush W (pc' := 464) (D at_462) rfl (v := (16 : Int32)) (by decide) ?_
      have z16 := t_same l hw hEL cst fst ust W.old SR A9 l0 he h18 (k := 16) (by decide)
      rw [hm] at z16
      refine g_callS W (z16) (fun x q => nomatch q) (hI hw 106 rfl) (hI hw 107 rfl) (hI hw 2 rfl) (hI hw 108 rfl) (by decide) pd_40 (argsL := [_, _, _, _]) rfl rfl (pc' := 467) rfl (by rw [hml]; rfl) (D at_464) rfl (Wn := 1) (Nat.le_refl _) (by decide) (by decide) (by decide) (by decide) (fun v T u W hg hQ => ?_)
      obtain ⟨rfl, rfl⟩ := hQ
      refine g_iand W (pc' := 468) (D at_467) rfl ?_
      rw [show ((1 : Int32) &&& 1) = 1 from by decide]
      refine g_istore W (pc' := 470) (D at_468) rfl (ls' := #[_, _, _, _, _, _, _, _, _, _, _, _, _]) rfl ?_
      refine g_iload W (pc' := 472) (D at_470) rfl rfl ?_
      refine g_aload W (pc' := 474) (D at_472) rfl rfl (by first | rfl | assumption) ?_
      refine g_aload W (pc' := 476) (D at_474) rfl rfl (by first | rfl | assumption) ?_
      refine g_iload W (pc' := 478) (D at_476) rfl rfl ?_
      refine g_bipush W (pc' := 480) (D at_478) rfl (v := (17 : Int32)) (by decide) ?_
      have z17 := t_same l hw hEL cst fst ust W.old SR A9 l0 he h18 (k := 17) (by decide)
      rw [hm] at z17
      refine g_callS W (z17) (fun x q => nomatch q) (hI hw 106 rfl) (hI hw 107 rfl) (hI hw 2 rfl) (hI hw 108 rfl) (by decide) pd_40 (argsL := [_, _, _, _]) rfl rfl (pc' := 483) rfl (by rw [hml]; rfl) (D at_480) rfl (Wn := 1) (Nat.le_refl _) (by decide) (by decide) (by decide) (by decide) (fun v T u W hg hQ => ?_)
      obtain ⟨rfl, rfl⟩ := hQ
      refine g_iand W (pc' := 484) (D at_483) rfl ?_
      rw [show ((1 : Int32) &&& 1) = 1 from by decide]
      refine g_istore W (pc' := 486) (D at_484) rfl (ls' := #[_, _, _, _, _, _, _, _, _, _, _, _, _]) rfl ?_
      refine g_iload W (pc' := 488) (D at_486) rfl rfl ?_
      exact g_retz W (D at_488) hret (Or.inr rfl) (by decide) (by decide) ⟨_, rfl, rfl⟩
    refine g_ifneN W (pc1 := 43) (pc2 := 28) (D at_25) (by decide) (by decide) rfl (rfl) ?_
    refine g_newS W (pc' := 31) (hI hw 4 rfl) wi (hI hw 6 rfl) (hI hw 20 rfl) (hI hw 21 rfl) (D at_28) rfl (by decide) (by decide) (fun x T g1 hx W E N => ?_)
    refine g_dup W (pc' := 32) (D at_31) rfl rfl ?_
    refine g_iconst W (pc' := 33) (D at_32) rfl (v := (0 : Int32)) (by decide) ?_
    refine g_newarray W (pc' := 35) (ty := .char) rfl (i := 0) (by decide) (by decide) (hI hw 7 rfl) (D at_33) rfl (cap := 0) (by decide) (by decide) (by decide) (by decide) (fun bb T g2 hb0 W E2 A => ?_)
    refine g_spec W (t_init1E l hw hEL W.old ((N.one).ext E2) A) (fun y q => List.mem_cons_of_mem bb (by cases List.mem_singleton.mp q; exact List.mem_cons_self ..)) rfl (hI hw 8 rfl) (hI hw 9 rfl) (hI hw 6 rfl) (hI hw 10 rfl) (by decide) pd_41 (argsL := [_]) rfl rfl (pc' := 38) rfl (by rw [hml]; rfl) (D at_35) rfl (Wn := 1) (Nat.le_refl _) (by decide) (by decide) (by decide) (by decide) (fun T g3 W hg hQ => ?_)
    obtain ⟨K3, S⟩ := hQ
    refine g_astore W (pc' := 40) (D at_38) rfl (by first | rfl | assumption) (ls' := #[_, _, _, _, _, _, _, _, _, _, _, _, _]) rfl ?_
    refine g_goto W (pc' := 117) (D at_40) (by decide) (by decide) ?_
    exact J _ _ _ _ (Or.inl S) (W.more (by decide) (by decide))
  · rw [hs]
    have J : ∀ (y : Addr) (T : State) (g : Heap) (F : List Addr), StrG Z g y [c0] → Wd p l e room_1 s m #[.int sel, .int a, .int b, .int cc] below meth c Z a0 consts_1 LW F T g 6 160 → Go p e below (Endp Z consts_1 s (Ret fun v _ => v = .int 1) room_1.cells room_1.slots) T (mkF m 117 #[.val (.int sel), .val (.int a), .val (.int b), .val (.int cc), .val (.int 1), .val (.int c0), .val (.int c1), .val (.int c2), .val (.ref y), .unset, .unset, .unset, .unset] []) := by
      intro y T g F S W
      refine g_bipush W (pc' := 119) (D at_117) rfl (v := (18 : Int32)) (by decide) ?_
      have hzo := W.old.1
      refine g_newarray W (pc' := 121) (ty := .char) rfl (i := 18) (by decide) (by decide) (hI hw 7 rfl) (D at_119) rfl (cap := 18) (by decide) (by decide) (by decide) (by decide) (fun xe T u0 hxe W Ex A0 => ?_)
      replace A0 : Ali Z u0 xe .char ((List.replicate 18 (0 : Int32)).map Value.int) := A0
      have hze : Z.heap.size ≤ xe := Nat.le_trans hzo hxe
      have KK : Keep g u0 [] := ext_keep Ex []
      have l0 : (List.replicate 18 (0 : Int32)).length = 18 := rfl
      refine g_astore W (pc' := 123) (D at_121) rfl (by first | rfl | assumption) (ls' := #[_, _, _, _, _, _, _, _, _, _, _, _, _]) rfl ?_
      refine g_iconst W (pc' := 124) (D at_123) rfl (v := (0 : Int32)) (by decide) ?_
      refine g_istore W (pc' := 126) (D at_124) rfl (ls' := #[_, _, _, _, _, _, _, _, _, _, _, _, _]) rfl ?_
      refine g_iload W (pc' := 128) (D at_126) rfl rfl ?_
      refine g_iconst W (pc' := 129) (D at_128) rfl (v := (1 : Int32)) (by decide) ?_
      have s0 := escS_len c0
      refine g_icmpltN W (pc1 := 143) (pc2 := 132) (D at_129) (by decide) (by decide) rfl (by decide) ?_
      refine g_aload W (pc' := 134) (D at_132) rfl rfl (by first | rfl | assumption) ?_
      refine g_iload W (pc' := 136) (D at_134) rfl rfl ?_
      refine g_iload W (pc' := 138) (D at_136) rfl rfl ?_
      refine g_callS W (t_put l hEL W.old A0 hze (off := 0) (by omega) l0 wc0) (fun x q => nomatch q) (hI hw 119 rfl) (hI hw 120 rfl) (hI hw 2 rfl) (hI hw 121 rfl) (by decide) pd_42 (argsL := [_, _, _]) rfl rfl (pc' := 141) rfl (by rw [hml]; rfl) (D at_138) rfl (Wn := 0) (Nat.le_refl _) (by decide) (by decide) (by decide) (by decide) (fun v T u1 W hg hQ => ?_)
      obtain ⟨es1, rfl, K1, A1, l1, t1⟩ := hQ
      replace KK := KK.trans K1 (own_new hxe)
      refine g_istore W (pc' := 143) (D at_141) rfl (ls' := #[_, _, _, _, _, _, _, _, _, _, _, _, _]) rfl ?_
      refine g_iload W (pc' := 145) (D at_143) rfl rfl ?_
      refine g_iconst W (pc' := 146) (D at_145) rfl (v := (2 : Int32)) (by decide) ?_
      refine g_icmpltY W (pc1 := 160) (pc2 := 149) (D at_146) (by decide) (by decide) rfl (by decide) ?_
      refine g_iload W (pc' := 162) (D at_160) rfl rfl ?_
      refine g_iconst W (pc' := 163) (D at_162) rfl (v := (3 : Int32)) (by decide) ?_
      refine g_icmpltY W (pc1 := 177) (pc2 := 166) (D at_163) (by decide) (by decide) rfl (by decide) ?_
      refine g_aload W (pc' := 179) (D at_177) rfl rfl (by first | rfl | assumption) ?_
      refine g_callS W (t_text l hw hEL cst fst ust W.old (S.ext (keep_ext KK)) (by show 1 ≤ 3; decide)) (fun x q => nomatch q) (hI hw 26 rfl) (hI hw 27 rfl) (hI hw 28 rfl) (hI hw 29 rfl) (by decide) pd_39 (argsL := [_]) rfl rfl (pc' := 182) rfl (by rw [hml]; rfl) (D at_179) rfl (Wn := 0) (Nat.le_refl _) (by decide) (by decide) (by decide) (by decide) (fun v T ut W hg hQ => ?_)
      obtain ⟨r, rfl, Et, SR⟩ := hQ
      have hm : (escT [c0]).length = 0 + (escS c0).length := by simp only [escT_cons, escT_nil, List.length_append, List.length_nil] <;> omega
      refine g_astore W (pc' := 184) (D at_182) rfl (by first | rfl | assumption) (ls' := #[_, _, _, _, _, _, _, _, _, _, _, _, _]) rfl ?_
      refine g_aload W (pc' := 186) (D at_184) rfl rfl (by first | rfl | assumption) ?_
      refine g_ifnullN W (pc1 := 199) (pc2 := 189) (D at_186) (by decide) (by decide) rfl ?_
      refine g_aload W (pc' := 191) (D at_189) rfl rfl (by first | rfl | assumption) ?_
      refine g_virt W (t_lenG l hw hEL cst fst ust W.old SR) (fun x q => nomatch q) ⟨_, _, rfl, (hI hw 36 rfl)⟩ (hI hw 105 rfl) (hI hw 34 rfl) (hI hw 36 rfl) (hI hw 35 rfl) (hI hw 6 rfl) (hI hw 37 rfl) (by decide) pd_4 (SR.exa) (argsL := []) rfl rfl (pc' := 194) rfl (by rw [hml]; rfl) (D at_191) rfl (Wn := 0) (Nat.le_refl _) (by decide) (by decide) (by decide) (by decide) (fun v T u W hg hQ => ?_)
      obtain ⟨rfl, rfl⟩ := hQ
      refine g_iload W (pc' := 196) (D at_194) rfl rfl ?_
      refine g_icmpeqY W (pc1 := 201) (pc2 := 199) (D at_196) (by decide) (by decide) rfl ((congrArg Int32.ofNat hm)) ?_
      have he : es1.take (escT [c0]).length = escT [c0] := by
        rw [hm, t1]; simp [escT_cons, escT_nil]
      have A9 := A1.ext Et
      have h18 : (escT [c0]).length ≤ 18 := by rw [hm]; omega
      refine g_iconst W (pc' := 202) (D at_201) rfl (v := (1 : Int32)) (by decide) ?_
      refine g_istore W (pc' := 204) (D at_202) rfl (ls' := #[_, _, _, _, _, _, _, _, _, _, _, _, _]) rfl ?_
      refine g_iload W (pc' := 206) (D at_204) rfl rfl ?_
      refine g_aload W (pc' := 208) (D at_206) rfl rfl (by first | rfl | assumption) ?_
      refine g_aload W (pc' := 210) (D at_208) rfl rfl (by first | rfl | assumption) ?_
      refine g_iload W (pc' := 212) (D at_210) rfl rfl ?_
      refine g_iconst W (pc' := 213) (D at_212) rfl (v := (0 : Int32)) (by decide) ?_
      have z0 := t_same l hw hEL cst fst ust W.old SR A9 l1 he h18 (k := 0) (by decide)
      rw [hm] at z0
      refine g_callS W (z0) (fun x q => nomatch q) (hI hw 106 rfl) (hI hw 107 rfl) (hI hw 2 rfl) (hI hw 108 rfl) (by decide) pd_40 (argsL := [_, _, _, _]) rfl rfl (pc' := 216) rfl (by rw [hml]; rfl) (D at_213) rfl (Wn := 1) (Nat.le_refl _) (by decide) (by decide) (by decide) (by decide) (fun v T u W hg hQ => ?_)
      obtain ⟨rfl, rfl⟩ := hQ
      refine g_iand W (pc' := 217) (D at_216) rfl ?_
      rw [show ((1 : Int32) &&& 1) = 1 from by decide]
      refine g_istore W (pc' := 219) (D at_217) rfl (ls' := #[_, _, _, _, _, _, _, _, _, _, _, _, _]) rfl ?_
      refine g_iload W (pc' := 221) (D at_219) rfl rfl ?_
      refine g_aload W (pc' := 223) (D at_221) rfl rfl (by first | rfl | assumption) ?_
      refine g_aload W (pc' := 225) (D at_223) rfl rfl (by first | rfl | assumption) ?_
      refine g_iload W (pc' := 227) (D at_225) rfl rfl ?_
      refine g_iconst W (pc' := 228) (D at_227) rfl (v := (1 : Int32)) (by decide) ?_
      have z1 := t_same l hw hEL cst fst ust W.old SR A9 l1 he h18 (k := 1) (by decide)
      rw [hm] at z1
      refine g_callS W (z1) (fun x q => nomatch q) (hI hw 106 rfl) (hI hw 107 rfl) (hI hw 2 rfl) (hI hw 108 rfl) (by decide) pd_40 (argsL := [_, _, _, _]) rfl rfl (pc' := 231) rfl (by rw [hml]; rfl) (D at_228) rfl (Wn := 1) (Nat.le_refl _) (by decide) (by decide) (by decide) (by decide) (fun v T u W hg hQ => ?_)
      obtain ⟨rfl, rfl⟩ := hQ
      refine g_iand W (pc' := 232) (D at_231) rfl ?_
      rw [show ((1 : Int32) &&& 1) = 1 from by decide]
      refine g_istore W (pc' := 234) (D at_232) rfl (ls' := #[_, _, _, _, _, _, _, _, _, _, _, _, _]) rfl ?_
      refine g_iload W (pc' := 236) (D at_234) rfl rfl ?_
      refine g_aload W (pc' := 238) (D at_236) rfl rfl (by first | rfl | assumption) ?_
      refine g_aload W (pc' := 240) (D at_238) rfl rfl (by first | rfl | assumption) ?_
      refine g_iload W (pc' := 242) (D at_240) rfl rfl ?_
      refine g_iconst W (pc' := 243) (D at_242) rfl (v := (2 : Int32)) (by decide) ?_
      have z2 := t_same l hw hEL cst fst ust W.old SR A9 l1 he h18 (k := 2) (by decide)
      rw [hm] at z2
      refine g_callS W (z2) (fun x q => nomatch q) (hI hw 106 rfl) (hI hw 107 rfl) (hI hw 2 rfl) (hI hw 108 rfl) (by decide) pd_40 (argsL := [_, _, _, _]) rfl rfl (pc' := 246) rfl (by rw [hml]; rfl) (D at_243) rfl (Wn := 1) (Nat.le_refl _) (by decide) (by decide) (by decide) (by decide) (fun v T u W hg hQ => ?_)
      obtain ⟨rfl, rfl⟩ := hQ
      refine g_iand W (pc' := 247) (D at_246) rfl ?_
      rw [show ((1 : Int32) &&& 1) = 1 from by decide]
      refine g_istore W (pc' := 249) (D at_247) rfl (ls' := #[_, _, _, _, _, _, _, _, _, _, _, _, _]) rfl ?_
      refine g_iload W (pc' := 251) (D at_249) rfl rfl ?_
      refine g_aload W (pc' := 253) (D at_251) rfl rfl (by first | rfl | assumption) ?_
      refine g_aload W (pc' := 255) (D at_253) rfl rfl (by first | rfl | assumption) ?_
      refine g_iload W (pc' := 257) (D at_255) rfl rfl ?_
      refine g_iconst W (pc' := 258) (D at_257) rfl (v := (3 : Int32)) (by decide) ?_
      have z3 := t_same l hw hEL cst fst ust W.old SR A9 l1 he h18 (k := 3) (by decide)
      rw [hm] at z3
      refine g_callS W (z3) (fun x q => nomatch q) (hI hw 106 rfl) (hI hw 107 rfl) (hI hw 2 rfl) (hI hw 108 rfl) (by decide) pd_40 (argsL := [_, _, _, _]) rfl rfl (pc' := 261) rfl (by rw [hml]; rfl) (D at_258) rfl (Wn := 1) (Nat.le_refl _) (by decide) (by decide) (by decide) (by decide) (fun v T u W hg hQ => ?_)
      obtain ⟨rfl, rfl⟩ := hQ
      refine g_iand W (pc' := 262) (D at_261) rfl ?_
      rw [show ((1 : Int32) &&& 1) = 1 from by decide]
      refine g_istore W (pc' := 264) (D at_262) rfl (ls' := #[_, _, _, _, _, _, _, _, _, _, _, _, _]) rfl ?_
      refine g_iload W (pc' := 266) (D at_264) rfl rfl ?_
      refine g_aload W (pc' := 268) (D at_266) rfl rfl (by first | rfl | assumption) ?_
      refine g_aload W (pc' := 270) (D at_268) rfl rfl (by first | rfl | assumption) ?_
      refine g_iload W (pc' := 272) (D at_270) rfl rfl ?_
      refine g_iconst W (pc' := 273) (D at_272) rfl (v := (4 : Int32)) (by decide) ?_
      have z4 := t_same l hw hEL cst fst ust W.old SR A9 l1 he h18 (k := 4) (by decide)
      rw [hm] at z4
      refine g_callS W (z4) (fun x q => nomatch q) (hI hw 106 rfl) (hI hw 107 rfl) (hI hw 2 rfl) (hI hw 108 rfl) (by decide) pd_40 (argsL := [_, _, _, _]) rfl rfl (pc' := 276) rfl (by rw [hml]; rfl) (D at_273) rfl (Wn := 1) (Nat.le_refl _) (by decide) (by decide) (by decide) (by decide) (fun v T u W hg hQ => ?_)
      obtain ⟨rfl, rfl⟩ := hQ
      refine g_iand W (pc' := 277) (D at_276) rfl ?_
      rw [show ((1 : Int32) &&& 1) = 1 from by decide]
      refine g_istore W (pc' := 279) (D at_277) rfl (ls' := #[_, _, _, _, _, _, _, _, _, _, _, _, _]) rfl ?_
      refine g_iload W (pc' := 281) (D at_279) rfl rfl ?_
      refine g_aload W (pc' := 283) (D at_281) rfl rfl (by first | rfl | assumption) ?_
      refine g_aload W (pc' := 285) (D at_283) rfl rfl (by first | rfl | assumption) ?_
      refine g_iload W (pc' := 287) (D at_285) rfl rfl ?_
      refine g_iconst W (pc' := 288) (D at_287) rfl (v := (5 : Int32)) (by decide) ?_
      have z5 := t_same l hw hEL cst fst ust W.old SR A9 l1 he h18 (k := 5) (by decide)
      rw [hm] at z5
      refine g_callS W (z5) (fun x q => nomatch q) (hI hw 106 rfl) (hI hw 107 rfl) (hI hw 2 rfl) (hI hw 108 rfl) (by decide) pd_40 (argsL := [_, _, _, _]) rfl rfl (pc' := 291) rfl (by rw [hml]; rfl) (D at_288) rfl (Wn := 1) (Nat.le_refl _) (by decide) (by decide) (by decide) (by decide) (fun v T u W hg hQ => ?_)
      obtain ⟨rfl, rfl⟩ := hQ
      refine g_iand W (pc' := 292) (D at_291) rfl ?_
      rw [show ((1 : Int32) &&& 1) = 1 from by decide]
      refine g_istore W (pc' := 294) (D at_292) rfl (ls' := #[_, _, _, _, _, _, _, _, _, _, _, _, _]) rfl ?_
      refine g_iload W (pc' := 296) (D at_294) rfl rfl ?_
      refine g_aload W (pc' := 298) (D at_296) rfl rfl (by first | rfl | assumption) ?_
      refine g_aload W (pc' := 300) (D at_298) rfl rfl (by first | rfl | assumption) ?_
      refine g_iload W (pc' := 302) (D at_300) rfl rfl ?_
      refine g_bipush W (pc' := 304) (D at_302) rfl (v := (6 : Int32)) (by decide) ?_
      have z6 := t_same l hw hEL cst fst ust W.old SR A9 l1 he h18 (k := 6) (by decide)
      rw [hm] at z6
      refine g_callS W (z6) (fun x q => nomatch q) (hI hw 106 rfl) (hI hw 107 rfl) (hI hw 2 rfl) (hI hw 108 rfl) (by decide) pd_40 (argsL := [_, _, _, _]) rfl rfl (pc' := 307) rfl (by rw [hml]; rfl) (D at_304) rfl (Wn := 1) (Nat.le_refl _) (by decide) (by decide) (by decide) (by decide) (fun v T u W hg hQ => ?_)
      obtain ⟨rfl, rfl⟩ := hQ
      refine g_iand W (pc' := 308) (D at_307) rfl ?_
      rw [show ((1 : Int32) &&& 1) = 1 from by decide]
      refine g_istore W (pc' := 310) (D at_308) rfl (ls' := #[_, _, _, _, _, _, _, _, _, _, _, _, _]) rfl ?_
      refine g_iload W (pc' := 312) (D at_310) rfl rfl ?_
      refine g_aload W (pc' := 314) (D at_312) rfl rfl (by first | rfl | assumption) ?_
      refine g_aload W (pc' := 316) (D at_314) rfl rfl (by first | rfl | assumption) ?_
      refine g_iload W (pc' := 318) (D at_316) rfl rfl ?_
      refine g_bipush W (pc' := 320) (D at_318) rfl (v := (7 : Int32)) (by decide) ?_
      have z7 := t_same l hw hEL cst fst ust W.old SR A9 l1 he h18 (k := 7) (by decide)
      rw [hm] at z7
      refine g_callS W (z7) (fun x q => nomatch q) (hI hw 106 rfl) (hI hw 107 rfl) (hI hw 2 rfl) (hI hw 108 rfl) (by decide) pd_40 (argsL := [_, _, _, _]) rfl rfl (pc' := 323) rfl (by rw [hml]; rfl) (D at_320) rfl (Wn := 1) (Nat.le_refl _) (by decide) (by decide) (by decide) (by decide) (fun v T u W hg hQ => ?_)
      obtain ⟨rfl, rfl⟩ := hQ
      refine g_iand W (pc' := 324) (D at_323) rfl ?_
      rw [show ((1 : Int32) &&& 1) = 1 from by decide]
      refine g_istore W (pc' := 326) (D at_324) rfl (ls' := #[_, _, _, _, _, _, _, _, _, _, _, _, _]) rfl ?_
      refine g_iload W (pc' := 328) (D at_326) rfl rfl ?_
      refine g_aload W (pc' := 330) (D at_328) rfl rfl (by first | rfl | assumption) ?_
      refine g_aload W (pc' := 332) (D at_330) rfl rfl (by first | rfl | assumption) ?_
      refine g_iload W (pc' := 334) (D at_332) rfl rfl ?_
      refine g_bipush W (pc' := 336) (D at_334) rfl (v := (8 : Int32)) (by decide) ?_
      have z8 := t_same l hw hEL cst fst ust W.old SR A9 l1 he h18 (k := 8) (by decide)
      rw [hm] at z8
      refine g_callS W (z8) (fun x q => nomatch q) (hI hw 106 rfl) (hI hw 107 rfl) (hI hw 2 rfl) (hI hw 108 rfl) (by decide) pd_40 (argsL := [_, _, _, _]) rfl rfl (pc' := 339) rfl (by rw [hml]; rfl) (D at_336) rfl (Wn := 1) (Nat.le_refl _) (by decide) (by decide) (by decide) (by decide) (fun v T u W hg hQ => ?_)
      obtain ⟨rfl, rfl⟩ := hQ
      refine g_iand W (pc' := 340) (D at_339) rfl ?_
      rw [show ((1 : Int32) &&& 1) = 1 from by decide]
      refine g_istore W (pc' := 342) (D at_340) rfl (ls' := #[_, _, _, _, _, _, _, _, _, _, _, _, _]) rfl ?_
      refine g_iload W (pc' := 344) (D at_342) rfl rfl ?_
      refine g_aload W (pc' := 346) (D at_344) rfl rfl (by first | rfl | assumption) ?_
      refine g_aload W (pc' := 348) (D at_346) rfl rfl (by first | rfl | assumption) ?_
      refine g_iload W (pc' := 350) (D at_348) rfl rfl ?_
      refine g_bipush W (pc' := 352) (D at_350) rfl (v := (9 : Int32)) (by decide) ?_
      have z9 := t_same l hw hEL cst fst ust W.old SR A9 l1 he h18 (k := 9) (by decide)
      rw [hm] at z9
      refine g_callS W (z9) (fun x q => nomatch q) (hI hw 106 rfl) (hI hw 107 rfl) (hI hw 2 rfl) (hI hw 108 rfl) (by decide) pd_40 (argsL := [_, _, _, _]) rfl rfl (pc' := 355) rfl (by rw [hml]; rfl) (D at_352) rfl (Wn := 1) (Nat.le_refl _) (by decide) (by decide) (by decide) (by decide) (fun v T u W hg hQ => ?_)
      obtain ⟨rfl, rfl⟩ := hQ
      refine g_iand W (pc' := 356) (D at_355) rfl ?_
      rw [show ((1 : Int32) &&& 1) = 1 from by decide]
      refine g_istore W (pc' := 358) (D at_356) rfl (ls' := #[_, _, _, _, _, _, _, _, _, _, _, _, _]) rfl ?_
      refine g_iload W (pc' := 360) (D at_358) rfl rfl ?_
      refine g_aload W (pc' := 362) (D at_360) rfl rfl (by first | rfl | assumption) ?_
      refine g_aload W (pc' := 364) (D at_362) rfl rfl (by first | rfl | assumption) ?_
      refine g_iload W (pc' := 366) (D at_364) rfl rfl ?_
      refine g_bipush W (pc' := 368) (D at_366) rfl (v := (10 : Int32)) (by decide) ?_
      have z10 := t_same l hw hEL cst fst ust W.old SR A9 l1 he h18 (k := 10) (by decide)
      rw [hm] at z10
      refine g_callS W (z10) (fun x q => nomatch q) (hI hw 106 rfl) (hI hw 107 rfl) (hI hw 2 rfl) (hI hw 108 rfl) (by decide) pd_40 (argsL := [_, _, _, _]) rfl rfl (pc' := 371) rfl (by rw [hml]; rfl) (D at_368) rfl (Wn := 1) (Nat.le_refl _) (by decide) (by decide) (by decide) (by decide) (fun v T u W hg hQ => ?_)
      obtain ⟨rfl, rfl⟩ := hQ
      refine g_iand W (pc' := 372) (D at_371) rfl ?_
      rw [show ((1 : Int32) &&& 1) = 1 from by decide]
      refine g_istore W (pc' := 374) (D at_372) rfl (ls' := #[_, _, _, _, _, _, _, _, _, _, _, _, _]) rfl ?_
      refine g_iload W (pc' := 376) (D at_374) rfl rfl ?_
      refine g_aload W (pc' := 378) (D at_376) rfl rfl (by first | rfl | assumption) ?_
      refine g_aload W (pc' := 380) (D at_378) rfl rfl (by first | rfl | assumption) ?_
      refine g_iload W (pc' := 382) (D at_380) rfl rfl ?_
      refine g_bipush W (pc' := 384) (D at_382) rfl (v := (11 : Int32)) (by decide) ?_
      have z11 := t_same l hw hEL cst fst ust W.old SR A9 l1 he h18 (k := 11) (by decide)
      rw [hm] at z11
      refine g_callS W (z11) (fun x q => nomatch q) (hI hw 106 rfl) (hI hw 107 rfl) (hI hw 2 rfl) (hI hw 108 rfl) (by decide) pd_40 (argsL := [_, _, _, _]) rfl rfl (pc' := 387) rfl (by rw [hml]; rfl) (D at_384) rfl (Wn := 1) (Nat.le_refl _) (by decide) (by decide) (by decide) (by decide) (fun v T u W hg hQ => ?_)
      obtain ⟨rfl, rfl⟩ := hQ
      refine g_iand W (pc' := 388) (D at_387) rfl ?_
      rw [show ((1 : Int32) &&& 1) = 1 from by decide]
      refine g_istore W (pc' := 390) (D at_388) rfl (ls' := #[_, _, _, _, _, _, _, _, _, _, _, _, _]) rfl ?_
      refine g_iload W (pc' := 392) (D at_390) rfl rfl ?_
      refine g_aload W (pc' := 394) (D at_392) rfl rfl (by first | rfl | assumption) ?_
      refine g_aload W (pc' := 396) (D at_394) rfl rfl (by first | rfl | assumption) ?_
      refine g_iload W (pc' := 398) (D at_396) rfl rfl ?_
      refine g_bipush W (pc' := 400) (D at_398) rfl (v := (12 : Int32)) (by decide) ?_
      have z12 := t_same l hw hEL cst fst ust W.old SR A9 l1 he h18 (k := 12) (by decide)
      rw [hm] at z12
      refine g_callS W (z12) (fun x q => nomatch q) (hI hw 106 rfl) (hI hw 107 rfl) (hI hw 2 rfl) (hI hw 108 rfl) (by decide) pd_40 (argsL := [_, _, _, _]) rfl rfl (pc' := 403) rfl (by rw [hml]; rfl) (D at_400) rfl (Wn := 1) (Nat.le_refl _) (by decide) (by decide) (by decide) (by decide) (fun v T u W hg hQ => ?_)
      obtain ⟨rfl, rfl⟩ := hQ
      refine g_iand W (pc' := 404) (D at_403) rfl ?_
      rw [show ((1 : Int32) &&& 1) = 1 from by decide]
      refine g_istore W (pc' := 406) (D at_404) rfl (ls' := #[_, _, _, _, _, _, _, _, _, _, _, _, _]) rfl ?_
      refine g_iload W (pc' := 408) (D at_406) rfl rfl ?_
      refine g_aload W (pc' := 410) (D at_408) rfl rfl (by first | rfl | assumption) ?_
      refine g_aload W (pc' := 412) (D at_410) rfl rfl (by first | rfl | assumption) ?_
      refine g_iload W (pc' := 414) (D at_412) rfl rfl ?_
      refine g_bipush W (pc' := 416) (D at_414) rfl (v := (13 : Int32)) (by decide) ?_
      have z13 := t_same l hw hEL cst fst ust W.old SR A9 l1 he h18 (k := 13) (by decide)
      rw [hm] at z13
      refine g_callS W (z13) (fun x q => nomatch q) (hI hw 106 rfl) (hI hw 107 rfl) (hI hw 2 rfl) (hI hw 108 rfl) (by decide) pd_40 (argsL := [_, _, _, _]) rfl rfl (pc' := 419) rfl (by rw [hml]; rfl) (D at_416) rfl (Wn := 1) (Nat.le_refl _) (by decide) (by decide) (by decide) (by decide) (fun v T u W hg hQ => ?_)
      obtain ⟨rfl, rfl⟩ := hQ
      refine g_iand W (pc' := 420) (D at_419) rfl ?_
      rw [show ((1 : Int32) &&& 1) = 1 from by decide]
      refine g_istore W (pc' := 422) (D at_420) rfl (ls' := #[_, _, _, _, _, _, _, _, _, _, _, _, _]) rfl ?_
      refine g_iload W (pc' := 424) (D at_422) rfl rfl ?_
      refine g_aload W (pc' := 426) (D at_424) rfl rfl (by first | rfl | assumption) ?_
      refine g_aload W (pc' := 428) (D at_426) rfl rfl (by first | rfl | assumption) ?_
      refine g_iload W (pc' := 430) (D at_428) rfl rfl ?_
      refine g_bipush W (pc' := 432) (D at_430) rfl (v := (14 : Int32)) (by decide) ?_
      have z14 := t_same l hw hEL cst fst ust W.old SR A9 l1 he h18 (k := 14) (by decide)
      rw [hm] at z14
      refine g_callS W (z14) (fun x q => nomatch q) (hI hw 106 rfl) (hI hw 107 rfl) (hI hw 2 rfl) (hI hw 108 rfl) (by decide) pd_40 (argsL := [_, _, _, _]) rfl rfl (pc' := 435) rfl (by rw [hml]; rfl) (D at_432) rfl (Wn := 1) (Nat.le_refl _) (by decide) (by decide) (by decide) (by decide) (fun v T u W hg hQ => ?_)
      obtain ⟨rfl, rfl⟩ := hQ
      refine g_iand W (pc' := 436) (D at_435) rfl ?_
      rw [show ((1 : Int32) &&& 1) = 1 from by decide]
      refine g_istore W (pc' := 438) (D at_436) rfl (ls' := #[_, _, _, _, _, _, _, _, _, _, _, _, _]) rfl ?_
      refine g_iload W (pc' := 440) (D at_438) rfl rfl ?_
      refine g_aload W (pc' := 442) (D at_440) rfl rfl (by first | rfl | assumption) ?_
      refine g_aload W (pc' := 444) (D at_442) rfl rfl (by first | rfl | assumption) ?_
      refine g_iload W (pc' := 446) (D at_444) rfl rfl ?_
      refine g_bipush W (pc' := 448) (D at_446) rfl (v := (15 : Int32)) (by decide) ?_
      have z15 := t_same l hw hEL cst fst ust W.old SR A9 l1 he h18 (k := 15) (by decide)
      rw [hm] at z15
      refine g_callS W (z15) (fun x q => nomatch q) (hI hw 106 rfl) (hI hw 107 rfl) (hI hw 2 rfl) (hI hw 108 rfl) (by decide) pd_40 (argsL := [_, _, _, _]) rfl rfl (pc' := 451) rfl (by rw [hml]; rfl) (D at_448) rfl (Wn := 1) (Nat.le_refl _) (by decide) (by decide) (by decide) (by decide) (fun v T u W hg hQ => ?_)
      obtain ⟨rfl, rfl⟩ := hQ
      refine g_iand W (pc' := 452) (D at_451) rfl ?_
      rw [show ((1 : Int32) &&& 1) = 1 from by decide]
      refine g_istore W (pc' := 454) (D at_452) rfl (ls' := #[_, _, _, _, _, _, _, _, _, _, _, _, _]) rfl ?_
      refine g_iload W (pc' := 456) (D at_454) rfl rfl ?_
      refine g_aload W (pc' := 458) (D at_456) rfl rfl (by first | rfl | assumption) ?_
      refine g_aload W (pc' := 460) (D at_458) rfl rfl (by first | rfl | assumption) ?_
      refine g_iload W (pc' := 462) (D at_460) rfl rfl ?_
      refine g_bipush W (pc' := 464) (D at_462) rfl (v := (16 : Int32)) (by decide) ?_
      have z16 := t_same l hw hEL cst fst ust W.old SR A9 l1 he h18 (k := 16) (by decide)
      rw [hm] at z16
      refine g_callS W (z16) (fun x q => nomatch q) (hI hw 106 rfl) (hI hw 107 rfl) (hI hw 2 rfl) (hI hw 108 rfl) (by decide) pd_40 (argsL := [_, _, _, _]) rfl rfl (pc' := 467) rfl (by rw [hml]; rfl) (D at_464) rfl (Wn := 1) (Nat.le_refl _) (by decide) (by decide) (by decide) (by decide) (fun v T u W hg hQ => ?_)
      obtain ⟨rfl, rfl⟩ := hQ
      refine g_iand W (pc' := 468) (D at_467) rfl ?_
      rw [show ((1 : Int32) &&& 1) = 1 from by decide]
      refine g_istore W (pc' := 470) (D at_468) rfl (ls' := #[_, _, _, _, _, _, _, _, _, _, _, _, _]) rfl ?_
      refine g_iload W (pc' := 472) (D at_470) rfl rfl ?_
      refine g_aload W (pc' := 474) (D at_472) rfl rfl (by first | rfl | assumption) ?_
      refine g_aload W (pc' := 476) (D at_474) rfl rfl (by first | rfl | assumption) ?_
      refine g_iload W (pc' := 478) (D at_476) rfl rfl ?_
      refine g_bipush W (pc' := 480) (D at_478) rfl (v := (17 : Int32)) (by decide) ?_
      have z17 := t_same l hw hEL cst fst ust W.old SR A9 l1 he h18 (k := 17) (by decide)
      rw [hm] at z17
      refine g_callS W (z17) (fun x q => nomatch q) (hI hw 106 rfl) (hI hw 107 rfl) (hI hw 2 rfl) (hI hw 108 rfl) (by decide) pd_40 (argsL := [_, _, _, _]) rfl rfl (pc' := 483) rfl (by rw [hml]; rfl) (D at_480) rfl (Wn := 1) (Nat.le_refl _) (by decide) (by decide) (by decide) (by decide) (fun v T u W hg hQ => ?_)
      obtain ⟨rfl, rfl⟩ := hQ
      refine g_iand W (pc' := 484) (D at_483) rfl ?_
      rw [show ((1 : Int32) &&& 1) = 1 from by decide]
      refine g_istore W (pc' := 486) (D at_484) rfl (ls' := #[_, _, _, _, _, _, _, _, _, _, _, _, _]) rfl ?_
      refine g_iload W (pc' := 488) (D at_486) rfl rfl ?_
      exact g_retz W (D at_488) hret (Or.inr rfl) (by decide) (by decide) ⟨_, rfl, rfl⟩
    refine g_ifneY W (pc1 := 43) (pc2 := 28) (D at_25) (by decide) (by decide) rfl (by decide) ?_
    refine g_iload W (pc' := 45) (D at_43) rfl rfl ?_
    refine g_iconst W (pc' := 46) (D at_45) rfl (v := (1 : Int32)) (by decide) ?_
    refine g_icmpneN W (pc1 := 59) (pc2 := 49) (D at_46) (by decide) (by decide) rfl (rfl) ?_
    refine g_iload W (pc' := 51) (D at_49) rfl rfl ?_
    by_cases hL : Lc c0
    · refine g_callS W (t_valueOf l hw hEL cst W.old hL) (fun x q => nomatch q) (hI hw 279 rfl) (hI hw 280 rfl) (hI hw 6 rfl) (hI hw 281 rfl) (by decide) pd_43 (argsL := [_]) rfl rfl (pc' := 54) rfl (by rw [hml]; rfl) (D at_51) rfl (Wn := 0) (Nat.le_refl _) (by decide) (by decide) (by decide) (by decide) (fun v T g2 W hg hQ => ?_)
      obtain ⟨xl, rfl, E2, S2⟩ := hQ
      refine g_astore W (pc' := 56) (D at_54) rfl (by first | rfl | assumption) (ls' := #[_, _, _, _, _, _, _, _, _, _, _, _, _]) rfl ?_
      refine g_goto W (pc' := 117) (D at_56) (by decide) (by decide) ?_
      exact J _ _ _ _ (Or.inl S2) (W.more (by decide) (by decide))
    · refine g_callS W (t_valueOfW l hw hEL cst fst ust W.old wc0 (wc_big wc0 hL)) (fun x q => nomatch q) (hI hw 279 rfl) (hI hw 280 rfl) (hI hw 6 rfl) (hI hw 281 rfl) (by decide) pd_43 (argsL := [_]) rfl rfl (pc' := 54) rfl (by rw [hml]; rfl) (D at_51) rfl (Wn := 0) (Nat.le_refl _) (by decide) (by decide) (by decide) (by decide) (fun v T g2 W hg hQ => ?_)
      obtain ⟨xl, rfl, E2, S2⟩ := hQ
      refine g_astore W (pc' := 56) (D at_54) rfl (by first | rfl | assumption) (ls' := #[_, _, _, _, _, _, _, _, _, _, _, _, _]) rfl ?_
      refine g_goto W (pc' := 117) (D at_56) (by decide) (by decide) ?_
      exact J _ _ _ _ (Or.inr S2) (W.more (by decide) (by decide))
  · rw [hs]
    have J : ∀ (y : Addr) (T : State) (g : Heap) (F : List Addr), StrG Z g y [c0, c1] → Wd p l e room_1 s m #[.int sel, .int a, .int b, .int cc] below meth c Z a0 consts_1 LW F T g 6 160 → Go p e below (Endp Z consts_1 s (Ret fun v _ => v = .int 1) room_1.cells room_1.slots) T (mkF m 117 #[.val (.int sel), .val (.int a), .val (.int b), .val (.int cc), .val (.int 2), .val (.int c0), .val (.int c1), .val (.int c2), .val (.ref y), .unset, .unset, .unset, .unset] []) := by
      intro y T g F S W
      refine g_bipush W (pc' := 119) (D at_117) rfl (v := (18 : Int32)) (by decide) ?_
      have hzo := W.old.1
      refine g_newarray W (pc' := 121) (ty := .char) rfl (i := 18) (by decide) (by decide) (hI hw 7 rfl) (D at_119) rfl (cap := 18) (by decide) (by decide) (by decide) (by decide) (fun xe T u0 hxe W Ex A0 => ?_)
      replace A0 : Ali Z u0 xe .char ((List.replicate 18 (0 : Int32)).map Value.int) := A0
      have hze : Z.heap.size ≤ xe := Nat.le_trans hzo hxe
      have KK : Keep g u0 [] := ext_keep Ex []
      have l0 : (List.replicate 18 (0 : Int32)).length = 18 := rfl
      refine g_astore W (pc' := 123) (D at_121) rfl (by first | rfl | assumption) (ls' := #[_, _, _, _, _, _, _, _, _, _, _, _, _]) rfl ?_
      refine g_iconst W (pc' := 124) (D at_123) rfl (v := (0 : Int32)) (by decide) ?_
      refine g_istore W (pc' := 126) (D at_124) rfl (ls' := #[_, _, _, _, _, _, _, _, _, _, _, _, _]) rfl ?_
      refine g_iload W (pc' := 128) (D at_126) rfl rfl ?_
      refine g_iconst W (pc' := 129) (D at_128) rfl (v := (1 : Int32)) (by decide) ?_
      have s0 := escS_len c0
      refine g_icmpltN W (pc1 := 143) (pc2 := 132) (D at_129) (by decide) (by decide) rfl (by decide) ?_
      refine g_aload W (pc' := 134) (D at_132) rfl rfl (by first | rfl | assumption) ?_
      refine g_iload W (pc' := 136) (D at_134) rfl rfl ?_
      refine g_iload W (pc' := 138) (D at_136) rfl rfl ?_
      refine g_callS W (t_put l hEL W.old A0 hze (off := 0) (by omega) l0 wc0) (fun x q => nomatch q) (hI hw 119 rfl) (hI hw 120 rfl) (hI hw 2 rfl) (hI hw 121 rfl) (by decide) pd_42 (argsL := [_, _, _]) rfl rfl (pc' := 141) rfl (by rw [hml]; rfl) (D at_138) rfl (Wn := 0) (Nat.le_refl _) (by decide) (by decide) (by decide) (by decide) (fun v T u1 W hg hQ => ?_)
      obtain ⟨es1, rfl, K1, A1, l1, t1⟩ := hQ
      replace KK := KK.trans K1 (own_new hxe)
      refine g_istore W (pc' := 143) (D at_141) rfl (ls' := #[_, _, _, _, _, _, _, _, _, _, _, _, _]) rfl ?_
      refine g_iload W (pc' := 145) (D at_143) rfl rfl ?_
      refine g_iconst W (pc' := 146) (D at_145) rfl (v := (2 : Int32)) (by decide) ?_
      have s1 := escS_len c1
      refine g_icmpltN W (pc1 := 160) (pc2 := 149) (D at_146) (by decide) (by decide) rfl (by decide) ?_
      refine g_aload W (pc' := 151) (D at_149) rfl rfl (by first | rfl | assumption) ?_
      refine g_iload W (pc' := 153) (D at_151) rfl rfl ?_
      refine g_iload W (pc' := 155) (D at_153) rfl rfl ?_
      refine g_callS W (t_put l hEL W.old A1 hze (off := 0 + (escS c0).length) (by omega) l1 wc1) (fun x q => nomatch q) (hI hw 119 rfl) (hI hw 120 rfl) (hI hw 2 rfl) (hI hw 121 rfl) (by decide) pd_42 (argsL := [_, _, _]) rfl rfl (pc' := 158) rfl (by rw [hml]; rfl) (D at_155) rfl (Wn := 0) (Nat.le_refl _) (by decide) (by decide) (by decide) (by decide) (fun v T u2 W hg hQ => ?_)
      obtain ⟨es2, rfl, K2, A2, l2, t2⟩ := hQ
      replace KK := KK.trans K2 (own_new hxe)
      refine g_istore W (pc' := 160) (D at_158) rfl (ls' := #[_, _, _, _, _, _, _, _, _, _, _, _, _]) rfl ?_
      refine g_iload W (pc' := 162) (D at_160) rfl rfl ?_
      refine g_iconst W (pc' := 163) (D at_162) rfl (v := (3 : Int32)) (by decide) ?_
      refine g_icmpltY W (pc1 := 177) (pc2 := 166) (D at_163) (by decide) (by decide) rfl (by decide) ?_
      refine g_aload W (pc' := 179) (D at_177) rfl rfl (by first | rfl | assumption) ?_
      refine g_callS W (t_text l hw hEL cst fst ust W.old (S.ext (keep_ext KK)) (by show 2 ≤ 3; decide)) (fun x q => nomatch q) (hI hw 26 rfl) (hI hw 27 rfl) (hI hw 28 rfl) (hI hw 29 rfl) (by decide) pd_39 (argsL := [_]) rfl rfl (pc' := 182) rfl (by rw [hml]; rfl) (D at_179) rfl (Wn := 0) (Nat.le_refl _) (by decide) (by decide) (by decide) (by decide) (fun v T ut W hg hQ => ?_)
      obtain ⟨r, rfl, Et, SR⟩ := hQ
      have hm : (escT [c0, c1]).length = 0 + (escS c0).length + (escS c1).length := by simp only [escT_cons, escT_nil, List.length_append, List.length_nil] <;> omega
      refine g_astore W (pc' := 184) (D at_182) rfl (by first | rfl | assumption) (ls' := #[_, _, _, _, _, _, _, _, _, _, _, _, _]) rfl ?_
      refine g_aload W (pc' := 186) (D at_184) rfl rfl (by first | rfl | assumption) ?_
      refine g_ifnullN W (pc1 := 199) (pc2 := 189) (D at_186) (by decide) (by decide) rfl ?_
      refine g_aload W (pc' := 191) (D at_189) rfl rfl (by first | rfl | assumption) ?_
      refine g_virt W (t_lenG l hw hEL cst fst ust W.old SR) (fun x q => nomatch q) ⟨_, _, rfl, (hI hw 36 rfl)⟩ (hI hw 105 rfl) (hI hw 34 rfl) (hI hw 36 rfl) (hI hw 35 rfl) (hI hw 6 rfl) (hI hw 37 rfl) (by decide) pd_4 (SR.exa) (argsL := []) rfl rfl (pc' := 194) rfl (by rw [hml]; rfl) (D at_191) rfl (Wn := 0) (Nat.le_refl _) (by decide) (by decide) (by decide) (by decide) (fun v T u W hg hQ => ?_)
      obtain ⟨rfl, rfl⟩ := hQ
      refine g_iload W (pc' := 196) (D at_194) rfl rfl ?_
      refine g_icmpeqY W (pc1 := 201) (pc2 := 199) (D at_196) (by decide) (by decide) rfl ((congrArg Int32.ofNat hm)) ?_
      have he : es2.take (escT [c0, c1]).length = escT [c0, c1] := by
        rw [hm, t2, t1]; simp [escT_cons, escT_nil]
      have A9 := A2.ext Et
      have h18 : (escT [c0, c1]).length ≤ 18 := by rw [hm]; omega
      refine g_iconst W (pc' := 202) (D at_201) rfl (v := (1 : Int32)) (by decide) ?_
      refine g_istore W (pc' := 204) (D at_202) rfl (ls' := #[_, _, _, _, _, _, _, _, _, _, _, _, _]) rfl ?_
      refine g_iload W (pc' := 206) (D at_204) rfl rfl ?_
      refine g_aload W (pc' := 208) (D at_206) rfl rfl (by first | rfl | assumption) ?_
      refine g_aload W (pc' := 210) (D at_208) rfl rfl (by first | rfl | assumption) ?_
      refine g_iload W (pc' := 212) (D at_210) rfl rfl ?_
      refine g_iconst W (pc' := 213) (D at_212) rfl (v := (0 : Int32)) (by decide) ?_
      have z0 := t_same l hw hEL cst fst ust W.old SR A9 l2 he h18 (k := 0) (by decide)
      rw [hm] at z0
      refine g_callS W (z0) (fun x q => nomatch q) (hI hw 106 rfl) (hI hw 107 rfl) (hI hw 2 rfl) (hI hw 108 rfl) (by decide) pd_40 (argsL := [_, _, _, _]) rfl rfl (pc' := 216) rfl (by rw [hml]; rfl) (D at_213) rfl (Wn := 1) (Nat.le_refl _) (by decide) (by decide) (by decide) (by decide) (fun v T u W hg hQ => ?_)
      obtain ⟨rfl, rfl⟩ := hQ
      refine g_iand W (pc' := 217) (D at_216) rfl ?_
      rw [show ((1 : Int32) &&& 1) = 1 from by decide]
      refine g_istore W (pc' := 219) (D at_217) rfl (ls' := #[_, _, _, _, _, _, _, _, _, _, _, _, _]) rfl ?_
      refine g_iload W (pc' := 221) (D at_219) rfl rfl ?_
      refine g_aload W (pc' := 223) (D at_221) rfl rfl (by first | rfl | assumption) ?_
      refine g_aload W (pc' := 225) (D at_223) rfl rfl (by first | rfl | assumption) ?_
      refine g_iload W (pc' := 227) (D at_225) rfl rfl ?_
      refine g_iconst W (pc' := 228) (D at_227) rfl (v := (1 : Int32)) (by decide) ?_
      have z1 := t_same l hw hEL cst fst ust W.old SR A9 l2 he h18 (k := 1) (by decide)
      rw [hm] at z1
      refine g_callS W (z1) (fun x q => nomatch q) (hI hw 106 rfl) (hI hw 107 rfl) (hI hw 2 rfl) (hI hw 108 rfl) (by decide) pd_40 (argsL := [_, _, _, _]) rfl rfl (pc' := 231) rfl (by rw [hml]; rfl) (D at_228) rfl (Wn := 1) (Nat.le_refl _) (by decide) (by decide) (by decide) (by decide) (fun v T u W hg hQ => ?_)
      obtain ⟨rfl, rfl⟩ := hQ
      refine g_iand W (pc' := 232) (D at_231) rfl ?_
      rw [show ((1 : Int32) &&& 1) = 1 from by decide]
      refine g_istore W (pc' := 234) (D at_232) rfl (ls' := #[_, _, _, _, _, _, _, _, _, _, _, _, _]) rfl ?_
      refine g_iload W (pc' := 236) (D at_234) rfl rfl ?_
      refine g_aload W (pc' := 238) (D at_236) rfl rfl (by first | rfl | assumption) ?_
      refine g_aload W (pc' := 240) (D at_238) rfl rfl (by first | rfl | assumption) ?_
      refine g_iload W (pc' := 242) (D at_240) rfl rfl ?_
      refine g_iconst W (pc' := 243) (D at_242) rfl (v := (2 : Int32)) (by decide) ?_
      have z2 := t_same l hw hEL cst fst ust W.old SR A9 l2 he h18 (k := 2) (by decide)
      rw [hm] at z2
      refine g_callS W (z2) (fun x q => nomatch q) (hI hw 106 rfl) (hI hw 107 rfl) (hI hw 2 rfl) (hI hw 108 rfl) (by decide) pd_40 (argsL := [_, _, _, _]) rfl rfl (pc' := 246) rfl (by rw [hml]; rfl) (D at_243) rfl (Wn := 1) (Nat.le_refl _) (by decide) (by decide) (by decide) (by decide) (fun v T u W hg hQ => ?_)
      obtain ⟨rfl, rfl⟩ := hQ
      refine g_iand W (pc' := 247) (D at_246) rfl ?_
      rw [show ((1 : Int32) &&& 1) = 1 from by decide]
      refine g_istore W (pc' := 249) (D at_247) rfl (ls' := #[_, _, _, _, _, _, _, _, _, _, _, _, _]) rfl ?_
      refine g_iload W (pc' := 251) (D at_249) rfl rfl ?_
      refine g_aload W (pc' := 253) (D at_251) rfl rfl (by first | rfl | assumption) ?_
      refine g_aload W (pc' := 255) (D at_253) rfl rfl (by first | rfl | assumption) ?_
      refine g_iload W (pc' := 257) (D at_255) rfl rfl ?_
      refine g_iconst W (pc' := 258) (D at_257) rfl (v := (3 : Int32)) (by decide) ?_
      have z3 := t_same l hw hEL cst fst ust W.old SR A9 l2 he h18 (k := 3) (by decide)
      rw [hm] at z3
      refine g_callS W (z3) (fun x q => nomatch q) (hI hw 106 rfl) (hI hw 107 rfl) (hI hw 2 rfl) (hI hw 108 rfl) (by decide) pd_40 (argsL := [_, _, _, _]) rfl rfl (pc' := 261) rfl (by rw [hml]; rfl) (D at_258) rfl (Wn := 1) (Nat.le_refl _) (by decide) (by decide) (by decide) (by decide) (fun v T u W hg hQ => ?_)
      obtain ⟨rfl, rfl⟩ := hQ
      refine g_iand W (pc' := 262) (D at_261) rfl ?_
      rw [show ((1 : Int32) &&& 1) = 1 from by decide]
      refine g_istore W (pc' := 264) (D at_262) rfl (ls' := #[_, _, _, _, _, _, _, _, _, _, _, _, _]) rfl ?_
      refine g_iload W (pc' := 266) (D at_264) rfl rfl ?_
      refine g_aload W (pc' := 268) (D at_266) rfl rfl (by first | rfl | assumption) ?_
      refine g_aload W (pc' := 270) (D at_268) rfl rfl (by first | rfl | assumption) ?_
      refine g_iload W (pc' := 272) (D at_270) rfl rfl ?_
      refine g_iconst W (pc' := 273) (D at_272) rfl (v := (4 : Int32)) (by decide) ?_
      have z4 := t_same l hw hEL cst fst ust W.old SR A9 l2 he h18 (k := 4) (by decide)
      rw [hm] at z4
      refine g_callS W (z4) (fun x q => nomatch q) (hI hw 106 rfl) (hI hw 107 rfl) (hI hw 2 rfl) (hI hw 108 rfl) (by decide) pd_40 (argsL := [_, _, _, _]) rfl rfl (pc' := 276) rfl (by rw [hml]; rfl) (D at_273) rfl (Wn := 1) (Nat.le_refl _) (by decide) (by decide) (by decide) (by decide) (fun v T u W hg hQ => ?_)
      obtain ⟨rfl, rfl⟩ := hQ
      refine g_iand W (pc' := 277) (D at_276) rfl ?_
      rw [show ((1 : Int32) &&& 1) = 1 from by decide]
      refine g_istore W (pc' := 279) (D at_277) rfl (ls' := #[_, _, _, _, _, _, _, _, _, _, _, _, _]) rfl ?_
      refine g_iload W (pc' := 281) (D at_279) rfl rfl ?_
      refine g_aload W (pc' := 283) (D at_281) rfl rfl (by first | rfl | assumption) ?_
      refine g_aload W (pc' := 285) (D at_283) rfl rfl (by first | rfl | assumption) ?_
      refine g_iload W (pc' := 287) (D at_285) rfl rfl ?_
      refine g_iconst W (pc' := 288) (D at_287) rfl (v := (5 : Int32)) (by decide) ?_
      have z5 := t_same l hw hEL cst fst ust W.old SR A9 l2 he h18 (k := 5) (by decide)
      rw [hm] at z5
      refine g_callS W (z5) (fun x q => nomatch q) (hI hw 106 rfl) (hI hw 107 rfl) (hI hw 2 rfl) (hI hw 108 rfl) (by decide) pd_40 (argsL := [_, _, _, _]) rfl rfl (pc' := 291) rfl (by rw [hml]; rfl) (D at_288) rfl (Wn := 1) (Nat.le_refl _) (by decide) (by decide) (by decide) (by decide) (fun v T u W hg hQ => ?_)
      obtain ⟨rfl, rfl⟩ := hQ
      refine g_iand W (pc' := 292) (D at_291) rfl ?_
      rw [show ((1 : Int32) &&& 1) = 1 from by decide]
      refine g_istore W (pc' := 294) (D at_292) rfl (ls' := #[_, _, _, _, _, _, _, _, _, _, _, _, _]) rfl ?_
      refine g_iload W (pc' := 296) (D at_294) rfl rfl ?_
      refine g_aload W (pc' := 298) (D at_296) rfl rfl (by first | rfl | assumption) ?_
      refine g_aload W (pc' := 300) (D at_298) rfl rfl (by first | rfl | assumption) ?_
      refine g_iload W (pc' := 302) (D at_300) rfl rfl ?_
      refine g_bipush W (pc' := 304) (D at_302) rfl (v := (6 : Int32)) (by decide) ?_
      have z6 := t_same l hw hEL cst fst ust W.old SR A9 l2 he h18 (k := 6) (by decide)
      rw [hm] at z6
      refine g_callS W (z6) (fun x q => nomatch q) (hI hw 106 rfl) (hI hw 107 rfl) (hI hw 2 rfl) (hI hw 108 rfl) (by decide) pd_40 (argsL := [_, _, _, _]) rfl rfl (pc' := 307) rfl (by rw [hml]; rfl) (D at_304) rfl (Wn := 1) (Nat.le_refl _) (by decide) (by decide) (by decide) (by decide) (fun v T u W hg hQ => ?_)
      obtain ⟨rfl, rfl⟩ := hQ
      refine g_iand W (pc' := 308) (D at_307) rfl ?_
      rw [show ((1 : Int32) &&& 1) = 1 from by decide]
      refine g_istore W (pc' := 310) (D at_308) rfl (ls' := #[_, _, _, _, _, _, _, _, _, _, _, _, _]) rfl ?_
      refine g_iload W (pc' := 312) (D at_310) rfl rfl ?_
      refine g_aload W (pc' := 314) (D at_312) rfl rfl (by first | rfl | assumption) ?_
      refine g_aload W (pc' := 316) (D at_314) rfl rfl (by first | rfl | assumption) ?_
      refine g_iload W (pc' := 318) (D at_316) rfl rfl ?_
      refine g_bipush W (pc' := 320) (D at_318) rfl (v := (7 : Int32)) (by decide) ?_
      have z7 := t_same l hw hEL cst fst ust W.old SR A9 l2 he h18 (k := 7) (by decide)
      rw [hm] at z7
      refine g_callS W (z7) (fun x q => nomatch q) (hI hw 106 rfl) (hI hw 107 rfl) (hI hw 2 rfl) (hI hw 108 rfl) (by decide) pd_40 (argsL := [_, _, _, _]) rfl rfl (pc' := 323) rfl (by rw [hml]; rfl) (D at_320) rfl (Wn := 1) (Nat.le_refl _) (by decide) (by decide) (by decide) (by decide) (fun v T u W hg hQ => ?_)
      obtain ⟨rfl, rfl⟩ := hQ
      refine g_iand W (pc' := 324) (D at_323) rfl ?_
      rw [show ((1 : Int32) &&& 1) = 1 from by decide]
      refine g_istore W (pc' := 326) (D at_324) rfl (ls' := #[_, _, _, _, _, _, _, _, _, _, _, _, _]) rfl ?_
      refine g_iload W (pc' := 328) (D at_326) rfl rfl ?_
      refine g_aload W (pc' := 330) (D at_328) rfl rfl (by first | rfl | assumption) ?_
      refine g_aload W (pc' := 332) (D at_330) rfl rfl (by first | rfl | assumption) ?_
      refine g_iload W (pc' := 334) (D at_332) rfl rfl ?_
      refine g_bipush W (pc' := 336) (D at_334) rfl (v := (8 : Int32)) (by decide) ?_
      have z8 := t_same l hw hEL cst fst ust W.old SR A9 l2 he h18 (k := 8) (by decide)
      rw [hm] at z8
      refine g_callS W (z8) (fun x q => nomatch q) (hI hw 106 rfl) (hI hw 107 rfl) (hI hw 2 rfl) (hI hw 108 rfl) (by decide) pd_40 (argsL := [_, _, _, _]) rfl rfl (pc' := 339) rfl (by rw [hml]; rfl) (D at_336) rfl (Wn := 1) (Nat.le_refl _) (by decide) (by decide) (by decide) (by decide) (fun v T u W hg hQ => ?_)
      obtain ⟨rfl, rfl⟩ := hQ
      refine g_iand W (pc' := 340) (D at_339) rfl ?_
      rw [show ((1 : Int32) &&& 1) = 1 from by decide]
      refine g_istore W (pc' := 342) (D at_340) rfl (ls' := #[_, _, _, _, _, _, _, _, _, _, _, _, _]) rfl ?_
      refine g_iload W (pc' := 344) (D at_342) rfl rfl ?_
      refine g_aload W (pc' := 346) (D at_344) rfl rfl (by first | rfl | assumption) ?_
      refine g_aload W (pc' := 348) (D at_346) rfl rfl (by first | rfl | assumption) ?_
      refine g_iload W (pc' := 350) (D at_348) rfl rfl ?_
      refine g_bipush W (pc' := 352) (D at_350) rfl (v := (9 : Int32)) (by decide) ?_
      have z9 := t_same l hw hEL cst fst ust W.old SR A9 l2 he h18 (k := 9) (by decide)
      rw [hm] at z9
      refine g_callS W (z9) (fun x q => nomatch q) (hI hw 106 rfl) (hI hw 107 rfl) (hI hw 2 rfl) (hI hw 108 rfl) (by decide) pd_40 (argsL := [_, _, _, _]) rfl rfl (pc' := 355) rfl (by rw [hml]; rfl) (D at_352) rfl (Wn := 1) (Nat.le_refl _) (by decide) (by decide) (by decide) (by decide) (fun v T u W hg hQ => ?_)
      obtain ⟨rfl, rfl⟩ := hQ
      refine g_iand W (pc' := 356) (D at_355) rfl ?_
      rw [show ((1 : Int32) &&& 1) = 1 from by decide]
      refine g_istore W (pc' := 358) (D at_356) rfl (ls' := #[_, _, _, _, _, _, _, _, _, _, _, _, _]) rfl ?_
      refine g_iload W (pc' := 360) (D at_358) rfl rfl ?_
      refine g_aload W (pc' := 362) (D at_360) rfl rfl (by first | rfl | assumption) ?_
      refine g_aload W (pc' := 364) (D at_362) rfl rfl (by first | rfl | assumption) ?_
      refine g_iload W (pc' := 366) (D at_364) rfl rfl ?_
      refine g_bipush W (pc' := 368) (D at_366) rfl (v := (10 : Int32)) (by decide) ?_
      have z10 := t_same l hw hEL cst fst ust W.old SR A9 l2 he h18 (k := 10) (by decide)
      rw [hm] at z10
      refine g_callS W (z10) (fun x q => nomatch q) (hI hw 106 rfl) (hI hw 107 rfl) (hI hw 2 rfl) (hI hw 108 rfl) (by decide) pd_40 (argsL := [_, _, _, _]) rfl rfl (pc' := 371) rfl (by rw [hml]; rfl) (D at_368) rfl (Wn := 1) (Nat.le_refl _) (by decide) (by decide) (by decide) (by decide) (fun v T u W hg hQ => ?_)
      obtain ⟨rfl, rfl⟩ := hQ
      refine g_iand W (pc' := 372) (D at_371) rfl ?_
      rw [show ((1 : Int32) &&& 1) = 1 from by decide]
      refine g_istore W (pc' := 374) (D at_372) rfl (ls' := #[_, _, _, _, _, _, _, _, _, _, _, _, _]) rfl ?_
      refine g_iload W (pc' := 376) (D at_374) rfl rfl ?_
      refine g_aload W (pc' := 378) (D at_376) rfl rfl (by first | rfl | assumption) ?_
      refine g_aload W (pc' := 380) (D at_378) rfl rfl (by first | rfl | assumption) ?_
      refine g_iload W (pc' := 382) (D at_380) rfl rfl ?_
      refine g_bipush W (pc' := 384) (D at_382) rfl (v := (11 : Int32)) (by decide) ?_
      have z11 := t_same l hw hEL cst fst ust W.old SR A9 l2 he h18 (k := 11) (by decide)
      rw [hm] at z11
      refine g_callS W (z11) (fun x q => nomatch q) (hI hw 106 rfl) (hI hw 107 rfl) (hI hw 2 rfl) (hI hw 108 rfl) (by decide) pd_40 (argsL := [_, _, _, _]) rfl rfl (pc' := 387) rfl (by rw [hml]; rfl) (D at_384) rfl (Wn := 1) (Nat.le_refl _) (by decide) (by decide) (by decide) (by decide) (fun v T u W hg hQ => ?_)
      obtain ⟨rfl, rfl⟩ := hQ
      refine g_iand W (pc' := 388) (D at_387) rfl ?_
      rw [show ((1 : Int32) &&& 1) = 1 from by decide]
      refine g_istore W (pc' := 390) (D at_388) rfl (ls' := #[_, _, _, _, _, _, _, _, _, _, _, _, _]) rfl ?_
      refine g_iload W (pc' := 392) (D at_390) rfl rfl ?_
      refine g_aload W (pc' := 394) (D at_392) rfl rfl (by first | rfl | assumption) ?_
      refine g_aload W (pc' := 396) (D at_394) rfl rfl (by first | rfl | assumption) ?_
      refine g_iload W (pc' := 398) (D at_396) rfl rfl ?_
      refine g_bipush W (pc' := 400) (D at_398) rfl (v := (12 : Int32)) (by decide) ?_
      have z12 := t_same l hw hEL cst fst ust W.old SR A9 l2 he h18 (k := 12) (by decide)
      rw [hm] at z12
      refine g_callS W (z12) (fun x q => nomatch q) (hI hw 106 rfl) (hI hw 107 rfl) (hI hw 2 rfl) (hI hw 108 rfl) (by decide) pd_40 (argsL := [_, _, _, _]) rfl rfl (pc' := 403) rfl (by rw [hml]; rfl) (D at_400) rfl (Wn := 1) (Nat.le_refl _) (by decide) (by decide) (by decide) (by decide) (fun v T u W hg hQ => ?_)
      obtain ⟨rfl, rfl⟩ := hQ
      refine g_iand W (pc' := 404) (D at_403) rfl ?_
      rw [show ((1 : Int32) &&& 1) = 1 from by decide]
      refine g_istore W (pc' := 406) (D at_404) rfl (ls' := #[_, _, _, _, _, _, _, _, _, _, _, _, _]) rfl ?_
      refine g_iload W (pc' := 408) (D at_406) rfl rfl ?_
      refine g_aload W (pc' := 410) (D at_408) rfl rfl (by first | rfl | assumption) ?_
      refine g_aload W (pc' := 412) (D at_410) rfl rfl (by first | rfl | assumption) ?_
      refine g_iload W (pc' := 414) (D at_412) rfl rfl ?_
      refine g_bipush W (pc' := 416) (D at_414) rfl (v := (13 : Int32)) (by decide) ?_
      have z13 := t_same l hw hEL cst fst ust W.old SR A9 l2 he h18 (k := 13) (by decide)
      rw [hm] at z13
      refine g_callS W (z13) (fun x q => nomatch q) (hI hw 106 rfl) (hI hw 107 rfl) (hI hw 2 rfl) (hI hw 108 rfl) (by decide) pd_40 (argsL := [_, _, _, _]) rfl rfl (pc' := 419) rfl (by rw [hml]; rfl) (D at_416) rfl (Wn := 1) (Nat.le_refl _) (by decide) (by decide) (by decide) (by decide) (fun v T u W hg hQ => ?_)
      obtain ⟨rfl, rfl⟩ := hQ
      refine g_iand W (pc' := 420) (D at_419) rfl ?_
      rw [show ((1 : Int32) &&& 1) = 1 from by decide]
      refine g_istore W (pc' := 422) (D at_420) rfl (ls' := #[_, _, _, _, _, _, _, _, _, _, _, _, _]) rfl ?_
      refine g_iload W (pc' := 424) (D at_422) rfl rfl ?_
      refine g_aload W (pc' := 426) (D at_424) rfl rfl (by first | rfl | assumption) ?_
      refine g_aload W (pc' := 428) (D at_426) rfl rfl (by first | rfl | assumption) ?_
      refine g_iload W (pc' := 430) (D at_428) rfl rfl ?_
      refine g_bipush W (pc' := 432) (D at_430) rfl (v := (14 : Int32)) (by decide) ?_
      have z14 := t_same l hw hEL cst fst ust W.old SR A9 l2 he h18 (k := 14) (by decide)
      rw [hm] at z14
      refine g_callS W (z14) (fun x q => nomatch q) (hI hw 106 rfl) (hI hw 107 rfl) (hI hw 2 rfl) (hI hw 108 rfl) (by decide) pd_40 (argsL := [_, _, _, _]) rfl rfl (pc' := 435) rfl (by rw [hml]; rfl) (D at_432) rfl (Wn := 1) (Nat.le_refl _) (by decide) (by decide) (by decide) (by decide) (fun v T u W hg hQ => ?_)
      obtain ⟨rfl, rfl⟩ := hQ
      refine g_iand W (pc' := 436) (D at_435) rfl ?_
      rw [show ((1 : Int32) &&& 1) = 1 from by decide]
      refine g_istore W (pc' := 438) (D at_436) rfl (ls' := #[_, _, _, _, _, _, _, _, _, _, _, _, _]) rfl ?_
      refine g_iload W (pc' := 440) (D at_438) rfl rfl ?_
      refine g_aload W (pc' := 442) (D at_440) rfl rfl (by first | rfl | assumption) ?_
      refine g_aload W (pc' := 444) (D at_442) rfl rfl (by first | rfl | assumption) ?_
      refine g_iload W (pc' := 446) (D at_444) rfl rfl ?_
      refine g_bipush W (pc' := 448) (D at_446) rfl (v := (15 : Int32)) (by decide) ?_
      have z15 := t_same l hw hEL cst fst ust W.old SR A9 l2 he h18 (k := 15) (by decide)
      rw [hm] at z15
      refine g_callS W (z15) (fun x q => nomatch q) (hI hw 106 rfl) (hI hw 107 rfl) (hI hw 2 rfl) (hI hw 108 rfl) (by decide) pd_40 (argsL := [_, _, _, _]) rfl rfl (pc' := 451) rfl (by rw [hml]; rfl) (D at_448) rfl (Wn := 1) (Nat.le_refl _) (by decide) (by decide) (by decide) (by decide) (fun v T u W hg hQ => ?_)
      obtain ⟨rfl, rfl⟩ := hQ
      refine g_iand W (pc' := 452) (D at_451) rfl ?_
      rw [show ((1 : Int32) &&& 1) = 1 from by decide]
      refine g_istore W (pc' := 454) (D at_452) rfl (ls' := #[_, _, _, _, _, _, _, _, _, _, _, _, _]) rfl ?_
      refine g_iload W (pc' := 456) (D at_454) rfl rfl ?_
      refine g_aload W (pc' := 458) (D at_456) rfl rfl (by first | rfl | assumption) ?_
      refine g_aload W (pc' := 460) (D at_458) rfl rfl (by first | rfl | assumption) ?_
      refine g_iload W (pc' := 462) (D at_460) rfl rfl ?_
      refine g_bipush W (pc' := 464) (D at_462) rfl (v := (16 : Int32)) (by decide) ?_
      have z16 := t_same l hw hEL cst fst ust W.old SR A9 l2 he h18 (k := 16) (by decide)
      rw [hm] at z16
      refine g_callS W (z16) (fun x q => nomatch q) (hI hw 106 rfl) (hI hw 107 rfl) (hI hw 2 rfl) (hI hw 108 rfl) (by decide) pd_40 (argsL := [_, _, _, _]) rfl rfl (pc' := 467) rfl (by rw [hml]; rfl) (D at_464) rfl (Wn := 1) (Nat.le_refl _) (by decide) (by decide) (by decide) (by decide) (fun v T u W hg hQ => ?_)
      obtain ⟨rfl, rfl⟩ := hQ
      refine g_iand W (pc' := 468) (D at_467) rfl ?_
      rw [show ((1 : Int32) &&& 1) = 1 from by decide]
      refine g_istore W (pc' := 470) (D at_468) rfl (ls' := #[_, _, _, _, _, _, _, _, _, _, _, _, _]) rfl ?_
      refine g_iload W (pc' := 472) (D at_470) rfl rfl ?_
      refine g_aload W (pc' := 474) (D at_472) rfl rfl (by first | rfl | assumption) ?_
      refine g_aload W (pc' := 476) (D at_474) rfl rfl (by first | rfl | assumption) ?_
      refine g_iload W (pc' := 478) (D at_476) rfl rfl ?_
      refine g_bipush W (pc' := 480) (D at_478) rfl (v := (17 : Int32)) (by decide) ?_
      have z17 := t_same l hw hEL cst fst ust W.old SR A9 l2 he h18 (k := 17) (by decide)
      rw [hm] at z17
      refine g_callS W (z17) (fun x q => nomatch q) (hI hw 106 rfl) (hI hw 107 rfl) (hI hw 2 rfl) (hI hw 108 rfl) (by decide) pd_40 (argsL := [_, _, _, _]) rfl rfl (pc' := 483) rfl (by rw [hml]; rfl) (D at_480) rfl (Wn := 1) (Nat.le_refl _) (by decide) (by decide) (by decide) (by decide) (fun v T u W hg hQ => ?_)
      obtain ⟨rfl, rfl⟩ := hQ
      refine g_iand W (pc' := 484) (D at_483) rfl ?_
      rw [show ((1 : Int32) &&& 1) = 1 from by decide]
      refine g_istore W (pc' := 486) (D at_484) rfl (ls' := #[_, _, _, _, _, _, _, _, _, _, _, _, _]) rfl ?_
      refine g_iload W (pc' := 488) (D at_486) rfl rfl ?_
      exact g_retz W (D at_488) hret (Or.inr rfl) (by decide) (by decide) ⟨_, rfl, rfl⟩
    refine g_ifneY W (pc1 := 43) (pc2 := 28) (D at_25) (by decide) (by decide) rfl (by decide) ?_
    refine g_iload W (pc' := 45) (D at_43) rfl rfl ?_
    refine g_iconst W (pc' := 46) (D at_45) rfl (v := (1 : Int32)) (by decide) ?_
    refine g_icmpneY W (pc1 := 59) (pc2 := 49) (D at_46) (by decide) (by decide) rfl (by decide) ?_
    refine g_iload W (pc' := 61) (D at_59) rfl rfl ?_
    refine g_iconst W (pc' := 62) (D at_61) rfl (v := (2 : Int32)) (by decide) ?_
    refine g_icmpneN W (pc1 := 90) (pc2 := 65) (D at_62) (by decide) (by decide) rfl (rfl) ?_
    have hzh := W.old.1
    refine g_newS W (pc' := 68) (hI hw 4 rfl) wi (hI hw 6 rfl) (hI hw 20 rfl) (hI hw 21 rfl) (D at_65) rfl (by decide) (by decide) (fun x T ga hx W E1 N => ?_)
    refine g_dup W (pc' := 69) (D at_68) rfl rfl ?_
    refine g_iconst W (pc' := 70) (D at_69) rfl (v := (2 : Int32)) (by decide) ?_
    refine g_newarray W (pc' := 72) (ty := .char) rfl (i := 2) (by decide) (by decide) (hI hw 7 rfl) (D at_70) rfl (cap := 2) (by decide) (by decide) (by decide) (by decide) (fun bb T gb hb0 W E2 A => ?_)
    replace N := (N.mem (fun y q => List.mem_cons_of_mem bb q)).ext E2
    replace A : Ali Z gb bb .char ((List.replicate 2 (0 : Int32)).map Value.int) := A
    have hbz : Z.heap.size ≤ bb := Nat.le_trans hzh (Nat.le_trans E1.1 hb0)
    refine g_dup W (pc' := 73) (D at_72) rfl rfl ?_
    refine g_iconst W (pc' := 74) (D at_73) rfl (v := (0 : Int32)) (by decide) ?_
    refine g_iload W (pc' := 76) (D at_74) rfl rfl ?_
    refine g_castore W (pc' := 77) (A) (hbz) (i := 0) (by decide) (by decide) (by simp) (wc0.1) (wc0.2) (D at_76) rfl (fun T gc0 W Kp A' => ?_)
    replace N := N.keepA wi Kp A
    replace A := A'
    refine g_dup W (pc' := 78) (D at_77) rfl rfl ?_
    refine g_iconst W (pc' := 79) (D at_78) rfl (v := (1 : Int32)) (by decide) ?_
    refine g_iload W (pc' := 81) (D at_79) rfl rfl ?_
    refine g_castore W (pc' := 82) (A) (hbz) (i := 1) (by decide) (by decide) (by simp) (wc1.1) (wc1.2) (D at_81) rfl (fun T gc1 W Kp A' => ?_)
    replace N := N.keepA wi Kp A
    replace A := A'
    replace A : Ali Z _ bb .char (([c0, c1] : List Int32).map Value.int) := A
    have hWW : ∀ z ∈ [c0, c1], Wc z := by intro z hz; simp only [List.mem_cons, List.not_mem_nil, or_false] at hz; rcases hz with rfl | rfl <;> assumption
    by_cases hL : Latin [c0, c1]
    · refine g_initS W hw cst (N) (A) (hL) (by show 0 < 2; decide) (by show 2 ≤ 4000; decide) (hI hw 8 rfl) (pc' := 85) (by rw [hml]; rfl) (D at_82) rfl (Wn := 1) (Nat.le_refl _) (by decide) (by decide) (by decide) (nn := 2) (Nat.le_refl _) (by decide) (fun T gz W Kp S => ?_)
      refine g_astore W (pc' := 87) (D at_85) rfl (by first | rfl | assumption) (ls' := #[_, _, _, _, _, _, _, _, _, _, _, _, _]) rfl ?_
      refine g_goto W (pc' := 117) (D at_87) (by decide) (by decide) ?_
      exact J _ _ _ _ (Or.inl S) (W.more (by decide) (by decide))
    · have NN : NewS Z [x] _ x := ⟨N.1, List.mem_singleton.mpr rfl, N.2.2⟩
      refine g_spec W (t_new2 l hw hEL cst fst ust W.old NN A hWW hL) (fun y q => by cases List.mem_singleton.mp q; exact N.2.1) rfl (hI hw 8 rfl) (hI hw 9 rfl) (hI hw 6 rfl) (hI hw 10 rfl) (by decide) pd_41 (argsL := [_]) rfl rfl (pc' := 85) rfl (by rw [hml]; rfl) (D at_82) rfl (Wn := 1) (Nat.le_refl _) (by decide) (by decide) (by decide) (by decide) (fun T gz W hg hQ => ?_)
      obtain ⟨Kz, S⟩ := hQ
      refine g_astore W (pc' := 87) (D at_85) rfl (by first | rfl | assumption) (ls' := #[_, _, _, _, _, _, _, _, _, _, _, _, _]) rfl ?_
      refine g_goto W (pc' := 117) (D at_87) (by decide) (by decide) ?_
      exact J _ _ _ _ (Or.inr S) (W.more (by decide) (by decide))
  · rw [hs]
    have J : ∀ (y : Addr) (T : State) (g : Heap) (F : List Addr), StrG Z g y [c0, c1, c2] → Wd p l e room_1 s m #[.int sel, .int a, .int b, .int cc] below meth c Z a0 consts_1 LW F T g 6 160 → Go p e below (Endp Z consts_1 s (Ret fun v _ => v = .int 1) room_1.cells room_1.slots) T (mkF m 117 #[.val (.int sel), .val (.int a), .val (.int b), .val (.int cc), .val (.int 3), .val (.int c0), .val (.int c1), .val (.int c2), .val (.ref y), .unset, .unset, .unset, .unset] []) := by
      intro y T g F S W
      refine g_bipush W (pc' := 119) (D at_117) rfl (v := (18 : Int32)) (by decide) ?_
      have hzo := W.old.1
      refine g_newarray W (pc' := 121) (ty := .char) rfl (i := 18) (by decide) (by decide) (hI hw 7 rfl) (D at_119) rfl (cap := 18) (by decide) (by decide) (by decide) (by decide) (fun xe T u0 hxe W Ex A0 => ?_)
      replace A0 : Ali Z u0 xe .char ((List.replicate 18 (0 : Int32)).map Value.int) := A0
      have hze : Z.heap.size ≤ xe := Nat.le_trans hzo hxe
      have KK : Keep g u0 [] := ext_keep Ex []
      have l0 : (List.replicate 18 (0 : Int32)).length = 18 := rfl
      refine g_astore W (pc' := 123) (D at_121) rfl (by first | rfl | assumption) (ls' := #[_, _, _, _, _, _, _, _, _, _, _, _, _]) rfl ?_
      refine g_iconst W (pc' := 124) (D at_123) rfl (v := (0 : Int32)) (by decide) ?_
      refine g_istore W (pc' := 126) (D at_124) rfl (ls' := #[_, _, _, _, _, _, _, _, _, _, _, _, _]) rfl ?_
      refine g_iload W (pc' := 128) (D at_126) rfl rfl ?_
      refine g_iconst W (pc' := 129) (D at_128) rfl (v := (1 : Int32)) (by decide) ?_
      have s0 := escS_len c0
      refine g_icmpltN W (pc1 := 143) (pc2 := 132) (D at_129) (by decide) (by decide) rfl (by decide) ?_
      refine g_aload W (pc' := 134) (D at_132) rfl rfl (by first | rfl | assumption) ?_
      refine g_iload W (pc' := 136) (D at_134) rfl rfl ?_
      refine g_iload W (pc' := 138) (D at_136) rfl rfl ?_
      refine g_callS W (t_put l hEL W.old A0 hze (off := 0) (by omega) l0 wc0) (fun x q => nomatch q) (hI hw 119 rfl) (hI hw 120 rfl) (hI hw 2 rfl) (hI hw 121 rfl) (by decide) pd_42 (argsL := [_, _, _]) rfl rfl (pc' := 141) rfl (by rw [hml]; rfl) (D at_138) rfl (Wn := 0) (Nat.le_refl _) (by decide) (by decide) (by decide) (by decide) (fun v T u1 W hg hQ => ?_)
      obtain ⟨es1, rfl, K1, A1, l1, t1⟩ := hQ
      replace KK := KK.trans K1 (own_new hxe)
      refine g_istore W (pc' := 143) (D at_141) rfl (ls' := #[_, _, _, _, _, _, _, _, _, _, _, _, _]) rfl ?_
      refine g_iload W (pc' := 145) (D at_143) rfl rfl ?_
      refine g_iconst W (pc' := 146) (D at_145) rfl (v := (2 : Int32)) (by decide) ?_
      have s1 := escS_len c1
      refine g_icmpltN W (pc1 := 160) (pc2 := 149) (D at_146) (by decide) (by decide) rfl (by decide) ?_
      refine g_aload W (pc' := 151) (D at_149) rfl rfl (by first | rfl | assumption) ?_
      refine g_iload W (pc' := 153) (D at_151) rfl rfl ?_
      refine g_iload W (pc' := 155) (D at_153) rfl rfl ?_
      refine g_callS W (t_put l hEL W.old A1 hze (off := 0 + (escS c0).length) (by omega) l1 wc1) (fun x q => nomatch q) (hI hw 119 rfl) (hI hw 120 rfl) (hI hw 2 rfl) (hI hw 121 rfl) (by decide) pd_42 (argsL := [_, _, _]) rfl rfl (pc' := 158) rfl (by rw [hml]; rfl) (D at_155) rfl (Wn := 0) (Nat.le_refl _) (by decide) (by decide) (by decide) (by decide) (fun v T u2 W hg hQ => ?_)
      obtain ⟨es2, rfl, K2, A2, l2, t2⟩ := hQ
      replace KK := KK.trans K2 (own_new hxe)
      refine g_istore W (pc' := 160) (D at_158) rfl (ls' := #[_, _, _, _, _, _, _, _, _, _, _, _, _]) rfl ?_
      refine g_iload W (pc' := 162) (D at_160) rfl rfl ?_
      refine g_iconst W (pc' := 163) (D at_162) rfl (v := (3 : Int32)) (by decide) ?_
      have s2 := escS_len c2
      refine g_icmpltN W (pc1 := 177) (pc2 := 166) (D at_163) (by decide) (by decide) rfl (by decide) ?_
      refine g_aload W (pc' := 168) (D at_166) rfl rfl (by first | rfl | assumption) ?_
      refine g_iload W (pc' := 170) (D at_168) rfl rfl ?_
      refine g_iload W (pc' := 172) (D at_170) rfl rfl ?_
      refine g_callS W (t_put l hEL W.old A2 hze (off := 0 + (escS c0).length + (escS c1).length) (by omega) l2 wc2) (fun x q => nomatch q) (hI hw 119 rfl) (hI hw 120 rfl) (hI hw 2 rfl) (hI hw 121 rfl) (by decide) pd_42 (argsL := [_, _, _]) rfl rfl (pc' := 175) rfl (by rw [hml]; rfl) (D at_172) rfl (Wn := 0) (Nat.le_refl _) (by decide) (by decide) (by decide) (by decide) (fun v T u3 W hg hQ => ?_)
      obtain ⟨es3, rfl, K3, A3, l3, t3⟩ := hQ
      replace KK := KK.trans K3 (own_new hxe)
      refine g_istore W (pc' := 177) (D at_175) rfl (ls' := #[_, _, _, _, _, _, _, _, _, _, _, _, _]) rfl ?_
      refine g_aload W (pc' := 179) (D at_177) rfl rfl (by first | rfl | assumption) ?_
      refine g_callS W (t_text l hw hEL cst fst ust W.old (S.ext (keep_ext KK)) (by show 3 ≤ 3; decide)) (fun x q => nomatch q) (hI hw 26 rfl) (hI hw 27 rfl) (hI hw 28 rfl) (hI hw 29 rfl) (by decide) pd_39 (argsL := [_]) rfl rfl (pc' := 182) rfl (by rw [hml]; rfl) (D at_179) rfl (Wn := 0) (Nat.le_refl _) (by decide) (by decide) (by decide) (by decide) (fun v T ut W hg hQ => ?_)
      obtain ⟨r, rfl, Et, SR⟩ := hQ
      have hm : (escT [c0, c1, c2]).length = 0 + (escS c0).length + (escS c1).length + (escS c2).length := by simp only [escT_cons, escT_nil, List.length_append, List.length_nil] <;> omega
      refine g_astore W (pc' := 184) (D at_182) rfl (by first | rfl | assumption) (ls' := #[_, _, _, _, _, _, _, _, _, _, _, _, _]) rfl ?_
      refine g_aload W (pc' := 186) (D at_184) rfl rfl (by first | rfl | assumption) ?_
      refine g_ifnullN W (pc1 := 199) (pc2 := 189) (D at_186) (by decide) (by decide) rfl ?_
      refine g_aload W (pc' := 191) (D at_189) rfl rfl (by first | rfl | assumption) ?_
      refine g_virt W (t_lenG l hw hEL cst fst ust W.old SR) (fun x q => nomatch q) ⟨_, _, rfl, (hI hw 36 rfl)⟩ (hI hw 105 rfl) (hI hw 34 rfl) (hI hw 36 rfl) (hI hw 35 rfl) (hI hw 6 rfl) (hI hw 37 rfl) (by decide) pd_4 (SR.exa) (argsL := []) rfl rfl (pc' := 194) rfl (by rw [hml]; rfl) (D at_191) rfl (Wn := 0) (Nat.le_refl _) (by decide) (by decide) (by decide) (by decide) (fun v T u W hg hQ => ?_)
      obtain ⟨rfl, rfl⟩ := hQ
      refine g_iload W (pc' := 196) (D at_194) rfl rfl ?_
      refine g_icmpeqY W (pc1 := 201) (pc2 := 199) (D at_196) (by decide) (by decide) rfl ((congrArg Int32.ofNat hm)) ?_
      have he : es3.take (escT [c0, c1, c2]).length = escT [c0, c1, c2] := by
        rw [hm, t3, t2, t1]; simp [escT_cons, escT_nil]
      have A9 := A3.ext Et
      have h18 : (escT [c0, c1, c2]).length ≤ 18 := by rw [hm]; omega
      refine g_iconst W (pc' := 202) (D at_201) rfl (v := (1 : Int32)) (by decide) ?_
      refine g_istore W (pc' := 204) (D at_202) rfl (ls' := #[_, _, _, _, _, _, _, _, _, _, _, _, _]) rfl ?_
      refine g_iload W (pc' := 206) (D at_204) rfl rfl ?_
      refine g_aload W (pc' := 208) (D at_206) rfl rfl (by first | rfl | assumption) ?_
      refine g_aload W (pc' := 210) (D at_208) rfl rfl (by first | rfl | assumption) ?_
      refine g_iload W (pc' := 212) (D at_210) rfl rfl ?_
      refine g_iconst W (pc' := 213) (D at_212) rfl (v := (0 : Int32)) (by decide) ?_
      have z0 := t_same l hw hEL cst fst ust W.old SR A9 l3 he h18 (k := 0) (by decide)
      rw [hm] at z0
      refine g_callS W (z0) (fun x q => nomatch q) (hI hw 106 rfl) (hI hw 107 rfl) (hI hw 2 rfl) (hI hw 108 rfl) (by decide) pd_40 (argsL := [_, _, _, _]) rfl rfl (pc' := 216) rfl (by rw [hml]; rfl) (D at_213) rfl (Wn := 1) (Nat.le_refl _) (by decide) (by decide) (by decide) (by decide) (fun v T u W hg hQ => ?_)
      obtain ⟨rfl, rfl⟩ := hQ
      refine g_iand W (pc' := 217) (D at_216) rfl ?_
      rw [show ((1 : Int32) &&& 1) = 1 from by decide]
      refine g_istore W (pc' := 219) (D at_217) rfl (ls' := #[_, _, _, _, _, _, _, _, _, _, _, _, _]) rfl ?_
      refine g_iload W (pc' := 221) (D at_219) rfl rfl ?_
      refine g_aload W (pc' := 223) (D at_221) rfl rfl (by first | rfl | assumption) ?_
      refine g_aload W (pc' := 225) (D at_223) rfl rfl (by first | rfl | assumption) ?_
      refine g_iload W (pc' := 227) (D at_225) rfl rfl ?_
      refine g_iconst W (pc' := 228) (D at_227) rfl (v := (1 : Int32)) (by decide) ?_
      have z1 := t_same l hw hEL cst fst ust W.old SR A9 l3 he h18 (k := 1) (by decide)
      rw [hm] at z1
      refine g_callS W (z1) (fun x q => nomatch q) (hI hw 106 rfl) (hI hw 107 rfl) (hI hw 2 rfl) (hI hw 108 rfl) (by decide) pd_40 (argsL := [_, _, _, _]) rfl rfl (pc' := 231) rfl (by rw [hml]; rfl) (D at_228) rfl (Wn := 1) (Nat.le_refl _) (by decide) (by decide) (by decide) (by decide) (fun v T u W hg hQ => ?_)
      obtain ⟨rfl, rfl⟩ := hQ
      refine g_iand W (pc' := 232) (D at_231) rfl ?_
      rw [show ((1 : Int32) &&& 1) = 1 from by decide]
      refine g_istore W (pc' := 234) (D at_232) rfl (ls' := #[_, _, _, _, _, _, _, _, _, _, _, _, _]) rfl ?_
      refine g_iload W (pc' := 236) (D at_234) rfl rfl ?_
      refine g_aload W (pc' := 238) (D at_236) rfl rfl (by first | rfl | assumption) ?_
      refine g_aload W (pc' := 240) (D at_238) rfl rfl (by first | rfl | assumption) ?_
      refine g_iload W (pc' := 242) (D at_240) rfl rfl ?_
      refine g_iconst W (pc' := 243) (D at_242) rfl (v := (2 : Int32)) (by decide) ?_
      have z2 := t_same l hw hEL cst fst ust W.old SR A9 l3 he h18 (k := 2) (by decide)
      rw [hm] at z2
      refine g_callS W (z2) (fun x q => nomatch q) (hI hw 106 rfl) (hI hw 107 rfl) (hI hw 2 rfl) (hI hw 108 rfl) (by decide) pd_40 (argsL := [_, _, _, _]) rfl rfl (pc' := 246) rfl (by rw [hml]; rfl) (D at_243) rfl (Wn := 1) (Nat.le_refl _) (by decide) (by decide) (by decide) (by decide) (fun v T u W hg hQ => ?_)
      obtain ⟨rfl, rfl⟩ := hQ
      refine g_iand W (pc' := 247) (D at_246) rfl ?_
      rw [show ((1 : Int32) &&& 1) = 1 from by decide]
      refine g_istore W (pc' := 249) (D at_247) rfl (ls' := #[_, _, _, _, _, _, _, _, _, _, _, _, _]) rfl ?_
      refine g_iload W (pc' := 251) (D at_249) rfl rfl ?_
      refine g_aload W (pc' := 253) (D at_251) rfl rfl (by first | rfl | assumption) ?_
      refine g_aload W (pc' := 255) (D at_253) rfl rfl (by first | rfl | assumption) ?_
      refine g_iload W (pc' := 257) (D at_255) rfl rfl ?_
      refine g_iconst W (pc' := 258) (D at_257) rfl (v := (3 : Int32)) (by decide) ?_
      have z3 := t_same l hw hEL cst fst ust W.old SR A9 l3 he h18 (k := 3) (by decide)
      rw [hm] at z3
      refine g_callS W (z3) (fun x q => nomatch q) (hI hw 106 rfl) (hI hw 107 rfl) (hI hw 2 rfl) (hI hw 108 rfl) (by decide) pd_40 (argsL := [_, _, _, _]) rfl rfl (pc' := 261) rfl (by rw [hml]; rfl) (D at_258) rfl (Wn := 1) (Nat.le_refl _) (by decide) (by decide) (by decide) (by decide) (fun v T u W hg hQ => ?_)
      obtain ⟨rfl, rfl⟩ := hQ
      refine g_iand W (pc' := 262) (D at_261) rfl ?_
      rw [show ((1 : Int32) &&& 1) = 1 from by decide]
      refine g_istore W (pc' := 264) (D at_262) rfl (ls' := #[_, _, _, _, _, _, _, _, _, _, _, _, _]) rfl ?_
      refine g_iload W (pc' := 266) (D at_264) rfl rfl ?_
      refine g_aload W (pc' := 268) (D at_266) rfl rfl (by first | rfl | assumption) ?_
      refine g_aload W (pc' := 270) (D at_268) rfl rfl (by first | rfl | assumption) ?_
      refine g_iload W (pc' := 272) (D at_270) rfl rfl ?_
      refine g_iconst W (pc' := 273) (D at_272) rfl (v := (4 : Int32)) (by decide) ?_
      have z4 := t_same l hw hEL cst fst ust W.old SR A9 l3 he h18 (k := 4) (by decide)
      rw [hm] at z4
      refine g_callS W (z4) (fun x q => nomatch q) (hI hw 106 rfl) (hI hw 107 rfl) (hI hw 2 rfl) (hI hw 108 rfl) (by decide) pd_40 (argsL := [_, _, _, _]) rfl rfl (pc' := 276) rfl (by rw [hml]; rfl) (D at_273) rfl (Wn := 1) (Nat.le_refl _) (by decide) (by decide) (by decide) (by decide) (fun v T u W hg hQ => ?_)
      obtain ⟨rfl, rfl⟩ := hQ
      refine g_iand W (pc' := 277) (D at_276) rfl ?_
      rw [show ((1 : Int32) &&& 1) = 1 from by decide]
      refine g_istore W (pc' := 279) (D at_277) rfl (ls' := #[_, _, _, _, _, _, _, _, _, _, _, _, _]) rfl ?_
      refine g_iload W (pc' := 281) (D at_279) rfl rfl ?_
      refine g_aload W (pc' := 283) (D at_281) rfl rfl (by first | rfl | assumption) ?_
      refine g_aload W (pc' := 285) (D at_283) rfl rfl (by first | rfl | assumption) ?_
      refine g_iload W (pc' := 287) (D at_285) rfl rfl ?_
      refine g_iconst W (pc' := 288) (D at_287) rfl (v := (5 : Int32)) (by decide) ?_
      have z5 := t_same l hw hEL cst fst ust W.old SR A9 l3 he h18 (k := 5) (by decide)
      rw [hm] at z5
      refine g_callS W (z5) (fun x q => nomatch q) (hI hw 106 rfl) (hI hw 107 rfl) (hI hw 2 rfl) (hI hw 108 rfl) (by decide) pd_40 (argsL := [_, _, _, _]) rfl rfl (pc' := 291) rfl (by rw [hml]; rfl) (D at_288) rfl (Wn := 1) (Nat.le_refl _) (by decide) (by decide) (by decide) (by decide) (fun v T u W hg hQ => ?_)
      obtain ⟨rfl, rfl⟩ := hQ
      refine g_iand W (pc' := 292) (D at_291) rfl ?_
      rw [show ((1 : Int32) &&& 1) = 1 from by decide]
      refine g_istore W (pc' := 294) (D at_292) rfl (ls' := #[_, _, _, _, _, _, _, _, _, _, _, _, _]) rfl ?_
      refine g_iload W (pc' := 296) (D at_294) rfl rfl ?_
      refine g_aload W (pc' := 298) (D at_296) rfl rfl (by first | rfl | assumption) ?_
      refine g_aload W (pc' := 300) (D at_298) rfl rfl (by first | rfl | assumption) ?_
      refine g_iload W (pc' := 302) (D at_300) rfl rfl ?_
      refine g_bipush W (pc' := 304) (D at_302) rfl (v := (6 : Int32)) (by decide) ?_
      have z6 := t_same l hw hEL cst fst ust W.old SR A9 l3 he h18 (k := 6) (by decide)
      rw [hm] at z6
      refine g_callS W (z6) (fun x q => nomatch q) (hI hw 106 rfl) (hI hw 107 rfl) (hI hw 2 rfl) (hI hw 108 rfl) (by decide) pd_40 (argsL := [_, _, _, _]) rfl rfl (pc' := 307) rfl (by rw [hml]; rfl) (D at_304) rfl (Wn := 1) (Nat.le_refl _) (by decide) (by decide) (by decide) (by decide) (fun v T u W hg hQ => ?_)
      obtain ⟨rfl, rfl⟩ := hQ
      refine g_iand W (pc' := 308) (D at_307) rfl ?_
      rw [show ((1 : Int32) &&& 1) = 1 from by decide]
      refine g_istore W (pc' := 310) (D at_308) rfl (ls' := #[_, _, _, _, _, _, _, _, _, _, _, _, _]) rfl ?_
      refine g_iload W (pc' := 312) (D at_310) rfl rfl ?_
      refine g_aload W (pc' := 314) (D at_312) rfl rfl (by first | rfl | assumption) ?_
      refine g_aload W (pc' := 316) (D at_314) rfl rfl (by first | rfl | assumption) ?_
      refine g_iload W (pc' := 318) (D at_316) rfl rfl ?_
      refine g_bipush W (pc' := 320) (D at_318) rfl (v := (7 : Int32)) (by decide) ?_
      have z7 := t_same l hw hEL cst fst ust W.old SR A9 l3 he h18 (k := 7) (by decide)
      rw [hm] at z7
      refine g_callS W (z7) (fun x q => nomatch q) (hI hw 106 rfl) (hI hw 107 rfl) (hI hw 2 rfl) (hI hw 108 rfl) (by decide) pd_40 (argsL := [_, _, _, _]) rfl rfl (pc' := 323) rfl (by rw [hml]; rfl) (D at_320) rfl (Wn := 1) (Nat.le_refl _) (by decide) (by decide) (by decide) (by decide) (fun v T u W hg hQ => ?_)
      obtain ⟨rfl, rfl⟩ := hQ
      refine g_iand W (pc' := 324) (D at_323) rfl ?_
      rw [show ((1 : Int32) &&& 1) = 1 from by decide]
      refine g_istore W (pc' := 326) (D at_324) rfl (ls' := #[_, _, _, _, _, _, _, _, _, _, _, _, _]) rfl ?_
      refine g_iload W (pc' := 328) (D at_326) rfl rfl ?_
      refine g_aload W (pc' := 330) (D at_328) rfl rfl (by first | rfl | assumption) ?_
      refine g_aload W (pc' := 332) (D at_330) rfl rfl (by first | rfl | assumption) ?_
      refine g_iload W (pc' := 334) (D at_332) rfl rfl ?_
      refine g_bipush W (pc' := 336) (D at_334) rfl (v := (8 : Int32)) (by decide) ?_
      have z8 := t_same l hw hEL cst fst ust W.old SR A9 l3 he h18 (k := 8) (by decide)
      rw [hm] at z8
      refine g_callS W (z8) (fun x q => nomatch q) (hI hw 106 rfl) (hI hw 107 rfl) (hI hw 2 rfl) (hI hw 108 rfl) (by decide) pd_40 (argsL := [_, _, _, _]) rfl rfl (pc' := 339) rfl (by rw [hml]; rfl) (D at_336) rfl (Wn := 1) (Nat.le_refl _) (by decide) (by decide) (by decide) (by decide) (fun v T u W hg hQ => ?_)
      obtain ⟨rfl, rfl⟩ := hQ
      refine g_iand W (pc' := 340) (D at_339) rfl ?_
      rw [show ((1 : Int32) &&& 1) = 1 from by decide]
      refine g_istore W (pc' := 342) (D at_340) rfl (ls' := #[_, _, _, _, _, _, _, _, _, _, _, _, _]) rfl ?_
      refine g_iload W (pc' := 344) (D at_342) rfl rfl ?_
      refine g_aload W (pc' := 346) (D at_344) rfl rfl (by first | rfl | assumption) ?_
      refine g_aload W (pc' := 348) (D at_346) rfl rfl (by first | rfl | assumption) ?_
      refine g_iload W (pc' := 350) (D at_348) rfl rfl ?_
      refine g_bipush W (pc' := 352) (D at_350) rfl (v := (9 : Int32)) (by decide) ?_
      have z9 := t_same l hw hEL cst fst ust W.old SR A9 l3 he h18 (k := 9) (by decide)
      rw [hm] at z9
      refine g_callS W (z9) (fun x q => nomatch q) (hI hw 106 rfl) (hI hw 107 rfl) (hI hw 2 rfl) (hI hw 108 rfl) (by decide) pd_40 (argsL := [_, _, _, _]) rfl rfl (pc' := 355) rfl (by rw [hml]; rfl) (D at_352) rfl (Wn := 1) (Nat.le_refl _) (by decide) (by decide) (by decide) (by decide) (fun v T u W hg hQ => ?_)
      obtain ⟨rfl, rfl⟩ := hQ
      refine g_iand W (pc' := 356) (D at_355) rfl ?_
      rw [show ((1 : Int32) &&& 1) = 1 from by decide]
      refine g_istore W (pc' := 358) (D at_356) rfl (ls' := #[_, _, _, _, _, _, _, _, _, _, _, _, _]) rfl ?_
      refine g_iload W (pc' := 360) (D at_358) rfl rfl ?_
      refine g_aload W (pc' := 362) (D at_360) rfl rfl (by first | rfl | assumption) ?_
      refine g_aload W (pc' := 364) (D at_362) rfl rfl (by first | rfl | assumption) ?_
      refine g_iload W (pc' := 366) (D at_364) rfl rfl ?_
      refine g_bipush W (pc' := 368) (D at_366) rfl (v := (10 : Int32)) (by decide) ?_
      have z10 := t_same l hw hEL cst fst ust W.old SR A9 l3 he h18 (k := 10) (by decide)
      rw [hm] at z10
      refine g_callS W (z10) (fun x q => nomatch q) (hI hw 106 rfl) (hI hw 107 rfl) (hI hw 2 rfl) (hI hw 108 rfl) (by decide) pd_40 (argsL := [_, _, _, _]) rfl rfl (pc' := 371) rfl (by rw [hml]; rfl) (D at_368) rfl (Wn := 1) (Nat.le_refl _) (by decide) (by decide) (by decide) (by decide) (fun v T u W hg hQ => ?_)
      obtain ⟨rfl, rfl⟩ := hQ
      refine g_iand W (pc' := 372) (D at_371) rfl ?_
      rw [show ((1 : Int32) &&& 1) = 1 from by decide]
      refine g_istore W (pc' := 374) (D at_372) rfl (ls' := #[_, _, _, _, _, _, _, _, _, _, _, _, _]) rfl ?_
      refine g_iload W (pc' := 376) (D at_374) rfl rfl ?_
      refine g_aload W (pc' := 378) (D at_376) rfl rfl (by first | rfl | assumption) ?_
      refine g_aload W (pc' := 380) (D at_378) rfl rfl (by first | rfl | assumption) ?_
      refine g_iload W (pc' := 382) (D at_380) rfl rfl ?_
      refine g_bipush W (pc' := 384) (D at_382) rfl (v := (11 : Int32)) (by decide) ?_
      have z11 := t_same l hw hEL cst fst ust W.old SR A9 l3 he h18 (k := 11) (by decide)
      rw [hm] at z11
      refine g_callS W (z11) (fun x q => nomatch q) (hI hw 106 rfl) (hI hw 107 rfl) (hI hw 2 rfl) (hI hw 108 rfl) (by decide) pd_40 (argsL := [_, _, _, _]) rfl rfl (pc' := 387) rfl (by rw [hml]; rfl) (D at_384) rfl (Wn := 1) (Nat.le_refl _) (by decide) (by decide) (by decide) (by decide) (fun v T u W hg hQ => ?_)
      obtain ⟨rfl, rfl⟩ := hQ
      refine g_iand W (pc' := 388) (D at_387) rfl ?_
      rw [show ((1 : Int32) &&& 1) = 1 from by decide]
      refine g_istore W (pc' := 390) (D at_388) rfl (ls' := #[_, _, _, _, _, _, _, _, _, _, _, _, _]) rfl ?_
      refine g_iload W (pc' := 392) (D at_390) rfl rfl ?_
      refine g_aload W (pc' := 394) (D at_392) rfl rfl (by first | rfl | assumption) ?_
      refine g_aload W (pc' := 396) (D at_394) rfl rfl (by first | rfl | assumption) ?_
      refine g_iload W (pc' := 398) (D at_396) rfl rfl ?_
      refine g_bipush W (pc' := 400) (D at_398) rfl (v := (12 : Int32)) (by decide) ?_
      have z12 := t_same l hw hEL cst fst ust W.old SR A9 l3 he h18 (k := 12) (by decide)
      rw [hm] at z12
      refine g_callS W (z12) (fun x q => nomatch q) (hI hw 106 rfl) (hI hw 107 rfl) (hI hw 2 rfl) (hI hw 108 rfl) (by decide) pd_40 (argsL := [_, _, _, _]) rfl rfl (pc' := 403) rfl (by rw [hml]; rfl) (D at_400) rfl (Wn := 1) (Nat.le_refl _) (by decide) (by decide) (by decide) (by decide) (fun v T u W hg hQ => ?_)
      obtain ⟨rfl, rfl⟩ := hQ
      refine g_iand W (pc' := 404) (D at_403) rfl ?_
      rw [show ((1 : Int32) &&& 1) = 1 from by decide]
      refine g_istore W (pc' := 406) (D at_404) rfl (ls' := #[_, _, _, _, _, _, _, _, _, _, _, _, _]) rfl ?_
      refine g_iload W (pc' := 408) (D at_406) rfl rfl ?_
      refine g_aload W (pc' := 410) (D at_408) rfl rfl (by first | rfl | assumption) ?_
      refine g_aload W (pc' := 412) (D at_410) rfl rfl (by first | rfl | assumption) ?_
      refine g_iload W (pc' := 414) (D at_412) rfl rfl ?_
      refine g_bipush W (pc' := 416) (D at_414) rfl (v := (13 : Int32)) (by decide) ?_
      have z13 := t_same l hw hEL cst fst ust W.old SR A9 l3 he h18 (k := 13) (by decide)
      rw [hm] at z13
      refine g_callS W (z13) (fun x q => nomatch q) (hI hw 106 rfl) (hI hw 107 rfl) (hI hw 2 rfl) (hI hw 108 rfl) (by decide) pd_40 (argsL := [_, _, _, _]) rfl rfl (pc' := 419) rfl (by rw [hml]; rfl) (D at_416) rfl (Wn := 1) (Nat.le_refl _) (by decide) (by decide) (by decide) (by decide) (fun v T u W hg hQ => ?_)
      obtain ⟨rfl, rfl⟩ := hQ
      refine g_iand W (pc' := 420) (D at_419) rfl ?_
      rw [show ((1 : Int32) &&& 1) = 1 from by decide]
      refine g_istore W (pc' := 422) (D at_420) rfl (ls' := #[_, _, _, _, _, _, _, _, _, _, _, _, _]) rfl ?_
      refine g_iload W (pc' := 424) (D at_422) rfl rfl ?_
      refine g_aload W (pc' := 426) (D at_424) rfl rfl (by first | rfl | assumption) ?_
      refine g_aload W (pc' := 428) (D at_426) rfl rfl (by first | rfl | assumption) ?_
      refine g_iload W (pc' := 430) (D at_428) rfl rfl ?_
      refine g_bipush W (pc' := 432) (D at_430) rfl (v := (14 : Int32)) (by decide) ?_
      have z14 := t_same l hw hEL cst fst ust W.old SR A9 l3 he h18 (k := 14) (by decide)
      rw [hm] at z14
      refine g_callS W (z14) (fun x q => nomatch q) (hI hw 106 rfl) (hI hw 107 rfl) (hI hw 2 rfl) (hI hw 108 rfl) (by decide) pd_40 (argsL := [_, _, _, _]) rfl rfl (pc' := 435) rfl (by rw [hml]; rfl) (D at_432) rfl (Wn := 1) (Nat.le_refl _) (by decide) (by decide) (by decide) (by decide) (fun v T u W hg hQ => ?_)
      obtain ⟨rfl, rfl⟩ := hQ
      refine g_iand W (pc' := 436) (D at_435) rfl ?_
      rw [show ((1 : Int32) &&& 1) = 1 from by decide]
      refine g_istore W (pc' := 438) (D at_436) rfl (ls' := #[_, _, _, _, _, _, _, _, _, _, _, _, _]) rfl ?_
      refine g_iload W (pc' := 440) (D at_438) rfl rfl ?_
      refine g_aload W (pc' := 442) (D at_440) rfl rfl (by first | rfl | assumption) ?_
      refine g_aload W (pc' := 444) (D at_442) rfl rfl (by first | rfl | assumption) ?_
      refine g_iload W (pc' := 446) (D at_444) rfl rfl ?_
      refine g_bipush W (pc' := 448) (D at_446) rfl (v := (15 : Int32)) (by decide) ?_
      have z15 := t_same l hw hEL cst fst ust W.old SR A9 l3 he h18 (k := 15) (by decide)
      rw [hm] at z15
      refine g_callS W (z15) (fun x q => nomatch q) (hI hw 106 rfl) (hI hw 107 rfl) (hI hw 2 rfl) (hI hw 108 rfl) (by decide) pd_40 (argsL := [_, _, _, _]) rfl rfl (pc' := 451) rfl (by rw [hml]; rfl) (D at_448) rfl (Wn := 1) (Nat.le_refl _) (by decide) (by decide) (by decide) (by decide) (fun v T u W hg hQ => ?_)
      obtain ⟨rfl, rfl⟩ := hQ
      refine g_iand W (pc' := 452) (D at_451) rfl ?_
      rw [show ((1 : Int32) &&& 1) = 1 from by decide]
      refine g_istore W (pc' := 454) (D at_452) rfl (ls' := #[_, _, _, _, _, _, _, _, _, _, _, _, _]) rfl ?_
      refine g_iload W (pc' := 456) (D at_454) rfl rfl ?_
      refine g_aload W (pc' := 458) (D at_456) rfl rfl (by first | rfl | assumption) ?_
      refine g_aload W (pc' := 460) (D at_458) rfl rfl (by first | rfl | assumption) ?_
      refine g_iload W (pc' := 462) (D at_460) rfl rfl ?_
      refine g_bipush W (pc' := 464) (D at_462) rfl (v := (16 : Int32)) (by decide) ?_
      have z16 := t_same l hw hEL cst fst ust W.old SR A9 l3 he h18 (k := 16) (by decide)
      rw [hm] at z16
      refine g_callS W (z16) (fun x q => nomatch q) (hI hw 106 rfl) (hI hw 107 rfl) (hI hw 2 rfl) (hI hw 108 rfl) (by decide) pd_40 (argsL := [_, _, _, _]) rfl rfl (pc' := 467) rfl (by rw [hml]; rfl) (D at_464) rfl (Wn := 1) (Nat.le_refl _) (by decide) (by decide) (by decide) (by decide) (fun v T u W hg hQ => ?_)
      obtain ⟨rfl, rfl⟩ := hQ
      refine g_iand W (pc' := 468) (D at_467) rfl ?_
      rw [show ((1 : Int32) &&& 1) = 1 from by decide]
      refine g_istore W (pc' := 470) (D at_468) rfl (ls' := #[_, _, _, _, _, _, _, _, _, _, _, _, _]) rfl ?_
      refine g_iload W (pc' := 472) (D at_470) rfl rfl ?_
      refine g_aload W (pc' := 474) (D at_472) rfl rfl (by first | rfl | assumption) ?_
      refine g_aload W (pc' := 476) (D at_474) rfl rfl (by first | rfl | assumption) ?_
      refine g_iload W (pc' := 478) (D at_476) rfl rfl ?_
      refine g_bipush W (pc' := 480) (D at_478) rfl (v := (17 : Int32)) (by decide) ?_
      have z17 := t_same l hw hEL cst fst ust W.old SR A9 l3 he h18 (k := 17) (by decide)
      rw [hm] at z17
      refine g_callS W (z17) (fun x q => nomatch q) (hI hw 106 rfl) (hI hw 107 rfl) (hI hw 2 rfl) (hI hw 108 rfl) (by decide) pd_40 (argsL := [_, _, _, _]) rfl rfl (pc' := 483) rfl (by rw [hml]; rfl) (D at_480) rfl (Wn := 1) (Nat.le_refl _) (by decide) (by decide) (by decide) (by decide) (fun v T u W hg hQ => ?_)
      obtain ⟨rfl, rfl⟩ := hQ
      refine g_iand W (pc' := 484) (D at_483) rfl ?_
      rw [show ((1 : Int32) &&& 1) = 1 from by decide]
      refine g_istore W (pc' := 486) (D at_484) rfl (ls' := #[_, _, _, _, _, _, _, _, _, _, _, _, _]) rfl ?_
      refine g_iload W (pc' := 488) (D at_486) rfl rfl ?_
      exact g_retz W (D at_488) hret (Or.inr rfl) (by decide) (by decide) ⟨_, rfl, rfl⟩
    refine g_ifneY W (pc1 := 43) (pc2 := 28) (D at_25) (by decide) (by decide) rfl (by decide) ?_
    refine g_iload W (pc' := 45) (D at_43) rfl rfl ?_
    refine g_iconst W (pc' := 46) (D at_45) rfl (v := (1 : Int32)) (by decide) ?_
    refine g_icmpneY W (pc1 := 59) (pc2 := 49) (D at_46) (by decide) (by decide) rfl (by decide) ?_
    refine g_iload W (pc' := 61) (D at_59) rfl rfl ?_
    refine g_iconst W (pc' := 62) (D at_61) rfl (v := (2 : Int32)) (by decide) ?_
    refine g_icmpneY W (pc1 := 90) (pc2 := 65) (D at_62) (by decide) (by decide) rfl (by decide) ?_
    have hzh := W.old.1
    refine g_newS W (pc' := 93) (hI hw 4 rfl) wi (hI hw 6 rfl) (hI hw 20 rfl) (hI hw 21 rfl) (D at_90) rfl (by decide) (by decide) (fun x T ga hx W E1 N => ?_)
    refine g_dup W (pc' := 94) (D at_93) rfl rfl ?_
    refine g_iconst W (pc' := 95) (D at_94) rfl (v := (3 : Int32)) (by decide) ?_
    refine g_newarray W (pc' := 97) (ty := .char) rfl (i := 3) (by decide) (by decide) (hI hw 7 rfl) (D at_95) rfl (cap := 3) (by decide) (by decide) (by decide) (by decide) (fun bb T gb hb0 W E2 A => ?_)
    replace N := (N.mem (fun y q => List.mem_cons_of_mem bb q)).ext E2
    replace A : Ali Z gb bb .char ((List.replicate 3 (0 : Int32)).map Value.int) := A
    have hbz : Z.heap.size ≤ bb := Nat.le_trans hzh (Nat.le_trans E1.1 hb0)
    refine g_dup W (pc' := 98) (D at_97) rfl rfl ?_
    refine g_iconst W (pc' := 99) (D at_98) rfl (v := (0 : Int32)) (by decide) ?_
    refine g_iload W (pc' := 101) (D at_99) rfl rfl ?_
    refine g_castore W (pc' := 102) (A) (hbz) (i := 0) (by decide) (by decide) (by simp) (wc0.1) (wc0.2) (D at_101) rfl (fun T gc0 W Kp A' => ?_)
    replace N := N.keepA wi Kp A
    replace A := A'
    refine g_dup W (pc' := 103) (D at_102) rfl rfl ?_
    refine g_iconst W (pc' := 104) (D at_103) rfl (v := (1 : Int32)) (by decide) ?_
    refine g_iload W (pc' := 106) (D at_104) rfl rfl ?_
    refine g_castore W (pc' := 107) (A) (hbz) (i := 1) (by decide) (by decide) (by simp) (wc1.1) (wc1.2) (D at_106) rfl (fun T gc1 W Kp A' => ?_)
    replace N := N.keepA wi Kp A
    replace A := A'
    refine g_dup W (pc' := 108) (D at_107) rfl rfl ?_
    refine g_iconst W (pc' := 109) (D at_108) rfl (v := (2 : Int32)) (by decide) ?_
    refine g_iload W (pc' := 111) (D at_109) rfl rfl ?_
    refine g_castore W (pc' := 112) (A) (hbz) (i := 2) (by decide) (by decide) (by simp) (wc2.1) (wc2.2) (D at_111) rfl (fun T gc2 W Kp A' => ?_)
    replace N := N.keepA wi Kp A
    replace A := A'
    replace A : Ali Z _ bb .char (([c0, c1, c2] : List Int32).map Value.int) := A
    have hWW : ∀ z ∈ [c0, c1, c2], Wc z := by intro z hz; simp only [List.mem_cons, List.not_mem_nil, or_false] at hz; rcases hz with rfl | rfl | rfl <;> assumption
    by_cases hL : Latin [c0, c1, c2]
    · refine g_initS W hw cst (N) (A) (hL) (by show 0 < 3; decide) (by show 3 ≤ 4000; decide) (hI hw 8 rfl) (pc' := 115) (by rw [hml]; rfl) (D at_112) rfl (Wn := 1) (Nat.le_refl _) (by decide) (by decide) (by decide) (nn := 3) (Nat.le_refl _) (by decide) (fun T gz W Kp S => ?_)
      refine g_astore W (pc' := 117) (D at_115) rfl (by first | rfl | assumption) (ls' := #[_, _, _, _, _, _, _, _, _, _, _, _, _]) rfl ?_
      exact J _ _ _ _ (Or.inl S) (W.more (by decide) (by decide))
    · have NN : NewS Z [x] _ x := ⟨N.1, List.mem_singleton.mpr rfl, N.2.2⟩
      refine g_spec W (t_new3 l hw hEL cst fst ust W.old NN A hWW hL) (fun y q => by cases List.mem_singleton.mp q; exact N.2.1) rfl (hI hw 8 rfl) (hI hw 9 rfl) (hI hw 6 rfl) (hI hw 10 rfl) (by decide) pd_41 (argsL := [_]) rfl rfl (pc' := 115) rfl (by rw [hml]; rfl) (D at_112) rfl (Wn := 1) (Nat.le_refl _) (by decide) (by decide) (by decide) (by decide) (fun T gz W hg hQ => ?_)
      obtain ⟨Kz, S⟩ := hQ
      refine g_astore W (pc' := 117) (D at_115) rfl (by first | rfl | assumption) (ls' := #[_, _, _, _, _, _, _, _, _, _, _, _, _]) rfl ?_
      exact J _ _ _ _ (Or.inr S) (W.more (by decide) (by decide))
set_option maxRecDepth 65536 in
set_option maxHeartbeats 4000000 in
theorem comes_1 {Post : Tables → Env → Array Value → State → Outcome → State → Prop} (hpost : ∀ tb e args s v u, (limb_1_1.after args s (.returned v) u = true ∧ limb_1_2.after args s (.returned v) u = true ∧ True) → ReturnedEndW s (.returned v) u (Jvm.fieldLocs frame_1_writes args s ++ Jvm.arrayLocs frame_1_arrays args s ++ Jvm.staticLocs frame_1_statics s) room_1.cells room_1.slots → Post tb e args s (.returned v) u) :
    ArmFor flags0 classFile x code maxLocals ret World_1 tables_1 room_1 Calls_1 rest_1 Pre_1 Post := by
  intro l hfl _ _ p e ha hc hk s m args below hf hA hF happ hP
  obtain ⟨hcalls, hrest, hpre⟩ := hP
  obtain ⟨-, -, -, hnamed, -, -, -, hat⟩ := (Spec.applies_iff hf).mp happ
  obtain ⟨hg, hn⟩ := and_e (Cond.before_iff.mp (show (Jvm.Cond.and given_1 narrow_1).before args s = true from hpre))
  obtain ⟨hz, u0⟩ := and_e hg
  obtain ⟨g0, u1⟩ := and_e u0
  obtain ⟨g1, u2⟩ := and_e u1
  obtain ⟨g2, u3⟩ := and_e u2
  obtain ⟨w0, w1, w2, w3, rfl⟩ : ∃ w0 w1 w2 w3 : Value, args = #[w0, w1, w2, w3] := by
    have hs : args.size = 4 := by simpa [Cond.value, given_1] using hz
    obtain ⟨L⟩ := args
    match L, hs with
    | [w0, w1, w2, w3], _ => exact ⟨w0, w1, w2, w3, rfl⟩
  have hw := fun d (hd : d ∈ tables_1) => atoms_spec (ws := Jvm.Cond.code x code maxLocals ret :: tables_1) hat d (List.mem_cons_of_mem _ hd)
  obtain ⟨hsets, hown0⟩ := atoms_of _ (rest_1_c_eq ▸ (show rest_1_c.before _ s = true from hrest))
  obtain ⟨i0, e0⟩ := is_v g0
  obtain rfl : w0 = (.int i0) := Option.some.inj e0
  obtain ⟨i1, e1⟩ := is_v g1
  obtain rfl : w1 = (.int i1) := Option.some.inj e1
  obtain ⟨i2, e2⟩ := is_v g2
  obtain rfl : w2 = (.int i2) := Option.some.inj e2
  obtain ⟨i3, e3⟩ := is_v u3
  obtain rfl : w3 = (.int i3) := Option.some.inj e3
  have hcw := hsets _ (List.mem_of_getElem? (i := 2) rfl)
  have n5 := not_v (Cond.before_iff.mp hcw)
  obtain ⟨zc, ez⟩ := is_v (Cond.before_iff.mp (hsets _ (List.mem_of_getElem? (i := 1) rfl)))
  have cst : Cst s := ⟨zc, Sta.start ez (Or.inl (hsets _ (List.mem_of_getElem? (i := 0) rfl))), gotF (Cond.eq_ints ez (Term.int_eval (0))) n5⟩
  obtain ⟨vf, ef, rf⟩ := isR_v (Cond.before_iff.mp (hsets _ (List.mem_of_getElem? (i := 8) rfl)))
  have fst : Fst s := ⟨vf, Sta.start ef (Or.inl (hsets _ (List.mem_of_getElem? (i := 7) rfl))), rf⟩
  have hEL : EW s #[.int i0, .int i1, .int i2, .int i3] consts_1 := (EW.cons (hI hw 290 rfl) (by decide +kernel) (EW.cons (hI hw 162 rfl) (by decide +kernel) (EW.cons (hI hw 291 rfl) (by decide +kernel) (EW.cons (hI hw 215 rfl) (by decide +kernel) (EW.cons (hI hw 252 rfl) (by decide +kernel) (EW.cons (hI hw 18 rfl) (by decide +kernel) EW.nil))))))
  have hCH : CHv s consts_1 s.vm s.heap := CHv.start hEL (fun q hq => hcalls.1 q hq) hcw (hI hw 19 rfl) (hI hw 5 rfl)
  have ev_12 := Cond.eq_int (hsets _ (List.mem_of_getElem? (i := 12) rfl)) rfl
  have st_12 := Sta.start ev_12 (Or.inl (hsets _ (List.mem_of_getElem? (i := 11) rfl)))
  have ev_15 := Cond.eq_int (hsets _ (List.mem_of_getElem? (i := 15) rfl)) rfl
  have st_15 := Sta.start ev_15 (Or.inl (hsets _ (List.mem_of_getElem? (i := 14) rfl)))
  have ev_18 := Cond.eq_int (hsets _ (List.mem_of_getElem? (i := 18) rfl)) rfl
  have st_18 := Sta.start ev_18 (Or.inl (hsets _ (List.mem_of_getElem? (i := 17) rfl)))
  have ust : Ust s := ⟨st_12, st_15, st_18⟩
  obtain ⟨n, o, h1, h2, h3, v, L, FF, rfl, ⟨⟨w, rfl, rfl⟩, N, hE, hFF⟩, hC, hq, hH⟩ := t_law l hw cst fst ust hEL i0 i1 i2 i3 p e ha hc hk s m _ below hf ((Spec.applies_iff_loose hf).mp happ).1 ⟨rfl, State.Warmed39.refl s, rfl, hCH, fun x q => nomatch q⟩ trivial
  refine ⟨n, _, h1, h2, h3, hpost _ _ _ _ _ _ ⟨Cond.after_iff.mpr rfl, Cond.after_iff.mpr (eq_i res_at (Term.int_eval (1)) rfl), trivial⟩ ⟨hq.1, hq.2.1, hq.2.2.1, hq.2.2.2.sift fun y hy => Or.inr (N y hy)⟩⟩
theorem main_1_1 : Claimed_1_1 := comes_1 fun _ _ _ _ _ _ h hF => ⟨h.1, hF⟩
theorem main_1_2 : Claimed_1_2 := comes_1 fun _ _ _ _ _ _ h hF => ⟨h.2.1, hF⟩
end Jvm.Pilot.@@N@@
namespace Jvm.Pilot.@@N@@
open Jvm Jvm.ClassFile Sem Op Lib Jvm.Free Jvm.Stand Jvm.Pilot.@@N@@.Jvm.D
/-! MADE BY PROGRAM (witnessworld.py) out of the Statement's table words and the real class files: 26 classes; the members and pool entries that the words name. The judged class is class 1, her method 1. -/
namespace start1
open Jvm.ClassFile
def u (s : String) : CpInfo := .utf8 (stringToUtf16 s)
/-- a pool by its gaps: so many unusable entries, then the entry; so many at the end -/
def gap : Nat → List CpInfo → List CpInfo
  | 0, r => r
  | n + 1, r => .unusable :: gap n r
def poolList (es : List (Nat × CpInfo)) (last : Nat) : List CpInfo := es.foldr (fun e r => gap e.1 (e.2 :: r)) (gap last [])
def pool (es : List (Nat × CpInfo)) (last : Nat) : Array CpInfo := ⟨poolList es last⟩
def fileOf (pool : Array CpInfo) (this : Nat) (attrs : Array Attribute := #[]) (ms : Array MethodInfo := #[]) (fl : Nat := 33) (sup : Nat := 0) (ifs : Array Nat := #[]) (fds : Array FieldInfo := #[]) : ClassFile where
  minorVersion := 0
  majorVersion := 65
  constantPool := pool
  accessFlags := fl
  thisClass := this
  superClass := sup
  interfaces := ifs
  fields := fds
  methods := ms
  attributes := attrs
def plain (name : String) (sup : Option ClassId) : Class where
  name := name
  kind := .ordinary
  loader := none
  accessFlags := 33
  super := sup
  interfaces := #[]
  cf := none
  fields := #[]
  methods := #[]
  instanceTypes := #[]
  staticTypes := #[]
  resolved := #[]
  callSites := []
  init := .initialized
  statics := none
  mirror := none

def pool0 : Array CpInfo := pool [(5, u "<init>"), (0, u "()V"), (1, .class_ 10), (1, u "java/lang/Object"), (85, u "clone"), (0, u "()Ljava/lang/Object;")] 26

def k0c0 : Code := { maxStack := 0, maxLocals := 1, code := object_method_1_code, exceptionTable := #[], attributes := #[] }
def k0m0 : Method := { name := "<init>", desc := "()V", sig := { parameters := [], returnType := none }, accessFlags := 1, code := some k0c0 }
def k0m1 : Method := { name := "clone", desc := "()Ljava/lang/Object;", sig := { parameters := [], returnType := some (.object "java/lang/Object") }, accessFlags := 260, code := none }
/-- java/lang/Object -/
def k0 : Class := { plain "java/lang/Object" none with
  accessFlags := 33
  interfaces := #[]
  cf := some (fileOf pool0 8 #[] #[{ accessFlags := 1, nameIndex := 5, descriptorIndex := 6, attributes := #[] }, { accessFlags := 260, nameIndex := 96, descriptorIndex := 97, attributes := #[] }] 33 0 #[] #[])
  fields := #[]
  methods := #[k0m0, k0m1]
  instanceTypes := #[]
  staticTypes := #[]
  resolved := Array.replicate 124 none
  statics := none }

def pool1 : Array CpInfo := pool [(2, .class_ 4), (1, u "java/lang/Object"), (0, u "<init>"), (0, u "()V"), (0, .methodref 8 9), (0, .class_ 10), (0, .nameAndType 11 12), (0, u "com/example/tallyman/tallyman/HtmlTextPinLaw"), (0, u "draw"), (0, u "(I)C"), (0, .class_ 14), (0, u "java/lang/String"), (0, .methodref 13 16), (0, .nameAndType 5 17), (0, u "([C)V"), (0, .methodref 13 19), (0, .nameAndType 20 21), (0, u "valueOf"), (0, u "(C)Ljava/lang/String;"), (0, .methodref 8 23), (0, .nameAndType 24 25), (0, u "put"), (0, u "([CIC)I"), (0, .methodref 27 28), (0, .class_ 29), (0, .nameAndType 30 31), (0, u "com/example/tallyman/tallyman/Html"), (0, u "text"), (0, u "(Ljava/lang/String;)Ljava/lang/String;"), (0, .methodref 13 33), (0, .nameAndType 34 35), (0, u "length"), (0, u "()I"), (0, .methodref 8 37), (0, .nameAndType 38 39), (0, u "same"), (0, u "(Ljava/lang/String;[CII)Z"), (0, .methodref 13 41), (0, .nameAndType 42 12), (0, u "charAt"), (2, u "law"), (0, u "(IIII)Z")] 5

def k1m0 : Method := { name := "<init>", desc := "()V", sig := { parameters := [], returnType := none }, accessFlags := 1, code := none }
def k1c1 : Code := { maxStack := 6, maxLocals := 13, code := code, exceptionTable := #[], attributes := #[] }
def k1m1 : Method := { name := "law", desc := "(IIII)Z", sig := { parameters := [.int, .int, .int, .int], returnType := some .boolean }, accessFlags := 9, code := some k1c1 }
def k1c2 : Code := { maxStack := 3, maxLocals := 4, code := method_3_code, exceptionTable := #[], attributes := #[] }
def k1m2 : Method := { name := "same", desc := "(Ljava/lang/String;[CII)Z", sig := { parameters := [(.object "java/lang/String"), (.array .char), .int, .int], returnType := some .boolean }, accessFlags := 10, code := some k1c2 }
def k1c3 : Code := { maxStack := 2, maxLocals := 3, code := method_4_code, exceptionTable := #[], attributes := #[] }
def k1m3 : Method := { name := "draw", desc := "(I)C", sig := { parameters := [.int], returnType := some .char }, accessFlags := 10, code := some k1c3 }
def k1c4 : Code := { maxStack := 3, maxLocals := 3, code := method_5_code, exceptionTable := #[], attributes := #[] }
def k1m4 : Method := { name := "put", desc := "([CIC)I", sig := { parameters := [(.array .char), .int, .char], returnType := some .int }, accessFlags := 10, code := some k1c4 }
/-- com/example/tallyman/tallyman/HtmlTextPinLaw -/
def k1 : Class := { plain "com/example/tallyman/tallyman/HtmlTextPinLaw" (some 0) with
  accessFlags := 49
  interfaces := #[]
  cf := some (fileOf pool1 8 #[] #[{ accessFlags := 1, nameIndex := 5, descriptorIndex := 6, attributes := #[] }, { accessFlags := 9, nameIndex := 45, descriptorIndex := 46, attributes := #[] }, { accessFlags := 10, nameIndex := 38, descriptorIndex := 39, attributes := #[] }, { accessFlags := 10, nameIndex := 11, descriptorIndex := 12, attributes := #[] }, { accessFlags := 10, nameIndex := 24, descriptorIndex := 25, attributes := #[] }] 49 2 #[] #[])
  fields := #[]
  methods := #[k1m0, k1m1, k1m2, k1m3, k1m4]
  instanceTypes := #[]
  staticTypes := #[]
  resolved := Array.replicate 52 none
  statics := none }

def pool2 : Array CpInfo := pool [(1, .class_ 2), (0, u "java/io/Serializable"), (0, .class_ 4), (0, u "java/lang/Object")] 2

/-- java/io/Serializable -/
def k2 : Class := { plain "java/io/Serializable" (some 0) with
  accessFlags := 1537
  interfaces := #[]
  cf := some (fileOf pool2 1 #[] #[] 1537 3 #[] #[])
  fields := #[]
  methods := #[]
  instanceTypes := #[]
  staticTypes := #[]
  resolved := Array.replicate 7 none
  statics := none }

def pool3 : Array CpInfo := pool [(1, .class_ 2), (0, u "java/lang/Comparable"), (0, .class_ 4), (0, u "java/lang/Object")] 7

/-- java/lang/Comparable -/
def k3 : Class := { plain "java/lang/Comparable" (some 0) with
  accessFlags := 1537
  interfaces := #[]
  cf := some (fileOf pool3 1 #[] #[] 1537 3 #[] #[])
  fields := #[]
  methods := #[]
  instanceTypes := #[]
  staticTypes := #[]
  resolved := Array.replicate 12 none
  statics := none }

def pool4 : Array CpInfo := pool [(2, .class_ 4), (1, u "java/lang/CharSequence"), (42, .class_ 48), (0, u "java/lang/CharSequence$1CodePointIterator"), (10, .class_ 60), (0, u "java/lang/CharSequence$1CharIterator"), (5, .class_ 67), (0, u "java/lang/Object")] 63

/-- java/lang/CharSequence -/
def k4 : Class := { plain "java/lang/CharSequence" (some 0) with
  accessFlags := 1537
  interfaces := #[]
  cf := some (fileOf pool4 2 #[.nestMembers #[47, 59]] #[] 1537 66 #[] #[])
  fields := #[]
  methods := #[]
  instanceTypes := #[]
  staticTypes := #[]
  resolved := Array.replicate 131 none
  statics := none }

def pool5 : Array CpInfo := pool [(1, .class_ 2), (0, u "java/lang/constant/Constable"), (0, .class_ 4), (0, u "java/lang/Object")] 6

/-- java/lang/constant/Constable -/
def k5 : Class := { plain "java/lang/constant/Constable" (some 0) with
  accessFlags := 1537
  interfaces := #[]
  cf := some (fileOf pool5 1 #[] #[] 1537 3 #[] #[])
  fields := #[]
  methods := #[]
  instanceTypes := #[]
  staticTypes := #[]
  resolved := Array.replicate 11 none
  statics := none }

def pool6 : Array CpInfo := pool [(1, .class_ 2), (0, u "java/lang/constant/ConstantDesc"), (0, .class_ 4), (0, u "java/lang/Object")] 32

/-- java/lang/constant/ConstantDesc -/
def k6 : Class := { plain "java/lang/constant/ConstantDesc" (some 0) with
  accessFlags := 1537
  interfaces := #[]
  cf := some (fileOf pool6 1 #[] #[] 1537 3 #[] #[])
  fields := #[]
  methods := #[]
  instanceTypes := #[]
  staticTypes := #[]
  resolved := Array.replicate 37 none
  statics := none }

def pool7 : Array CpInfo := pool [(1, .methodref 2 3), (0, .class_ 4), (0, .nameAndType 5 6), (0, u "java/lang/Object"), (0, u "<init>"), (0, u "()V"), (0, .string 8), (0, u ""), (0, .fieldref 10 11), (0, .class_ 12), (0, .nameAndType 13 14), (0, u "java/lang/String"), (0, u "value"), (0, u "[B"), (0, .fieldref 10 16), (0, .nameAndType 17 18), (0, u "coder"), (0, u "B"), (2, u "hash"), (0, u "I"), (2, u "hashIsZero"), (0, u "Z"), (0, .methodref 10 28), (0, .nameAndType 5 29), (0, u "([CIILjava/lang/Void;)V"), (6, u "checkBoundsOffCount"), (0, u "(III)I"), (0, .fieldref 10 39), (0, .nameAndType 40 26), (0, u "COMPACT_STRINGS"), (1, .class_ 44), (1, u "java/lang/StringUTF16"), (0, u "compress"), (1, .methodref 42 48), (0, .nameAndType 49 50), (0, u "coderFromArrayLen"), (0, u "([BI)B"), (2, u "toBytes"), (0, .methodref 55 56), (0, .class_ 57), (0, .nameAndType 58 59), (0, u "java/util/Arrays"), (0, u "copyOfRange"), (0, u "([BII)[B"), (46, .methodref 107 108), (0, .class_ 109), (0, .nameAndType 110 111), (0, u "java/lang/StringLatin1"), (0, u "inflate"), (0, u "([BI[BII)V"), (30, u "()Z"), (34, .methodref 42 178), (0, .nameAndType 45 179), (0, u "([CII)[B"), (13, .class_ 195), (1, u "java/lang/System"), (13, .methodref 10 210), (0, .nameAndType 5 211), (0, u "([BB)V"), (0, .methodref 193 213), (0, .nameAndType 214 215), (0, u "arraycopy"), (0, u "(Ljava/lang/Object;ILjava/lang/Object;II)V"), (118, u "()I"), (0, .methodref 10 336), (0, .nameAndType 17 337), (0, u "()B"), (2, u "()[B"), (22, u "([BI)C"), (5, u "(C)Z"), (21, u "(II)V"), (35, u "(I)C"), (61, .methodref 10 490), (0, .nameAndType 5 491), (0, u "(Ljava/lang/AbstractStringBuilder;Ljava/lang/Void;)V"), (0, .methodref 10 493), (0, .nameAndType 494 142), (0, u "isLatin1"), (0, .methodref 107 496), (0, .nameAndType 497 363), (0, u "charAt"), (0, .methodref 42 496), (2, u "checkIndex"), (4, .nameAndType 507 334), (0, u "length"), (24, u "getBytes"), (16, .methodref 550 506), (0, .class_ 551), (0, u "java/lang/AbstractStringBuilder"), (0, .methodref 550 553), (0, .nameAndType 554 340), (0, u "getValue"), (20, .class_ 576), (0, u "java/lang/CharSequence"), (22, u "CASE_INSENSITIVE_ORDER"), (0, u "Ljava/util/Comparator;"), (181, u "valueOf"), (0, u "(C)Ljava/lang/String;"), (37, u "([BIB)V"), (188, u "([C)V"), (4, .methodref 107 1016), (0, .nameAndType 1017 369), (0, u "canEncode"), (0, .methodref 107 1019), (0, .nameAndType 53 1020), (0, u "(C)[B"), (0, .methodref 42 1019), (25, .methodref 550 493), (0, .fieldref 550 1049), (0, .nameAndType 1050 26), (0, u "maybeLatin1"), (2, .fieldref 1054 1055), (0, .class_ 1056), (0, .nameAndType 1057 1058), (0, u "jdk/internal/util/Preconditions"), (0, u "SIOOBE_FORMATTER"), (0, u "Ljava/util/function/BiFunction;"), (0, .methodref 1054 1060), (0, .nameAndType 501 1061), (0, u "(IILjava/util/function/BiFunction;)I"), (2, u "(IIILjava/util/function/BiFunction;)I"), (0, .methodref 1054 1066), (0, .nameAndType 1067 1064), (0, u "checkFromIndexSize"), (33, u "serialPersistentFields"), (0, u "[Ljava/io/ObjectStreamField;"), (0, .class_ 1104), (0, u "java/lang/String$CaseInsensitiveComparator"), (1, .class_ 1107), (0, u "java/io/Serializable"), (0, .class_ 1109), (0, u "java/lang/Comparable"), (0, .class_ 1111), (0, u "java/lang/constant/Constable"), (0, .class_ 1113), (0, u "java/lang/constant/ConstantDesc"), (2, u "serialVersionUID"), (0, u "J"), (3, u "REPL"), (0, u "C"), (2, u "LATIN1"), (1, u "UTF16"), (105, u "(Ljava/lang/StringBuilder;)V")] 217

def k7m0 : Method := { name := "<init>", desc := "()V", sig := { parameters := [], returnType := none }, accessFlags := 1, code := none }
def k7c1 : Code := { maxStack := 5, maxLocals := 2, code := jdk_42_method_3_code, exceptionTable := #[], attributes := #[] }
def k7m1 : Method := { name := "<init>", desc := "([C)V", sig := { parameters := [(.array .char)], returnType := none }, accessFlags := 1, code := some k7c1 }
def k7c2 : Code := { maxStack := 3, maxLocals := 2, code := jdk_42_method_53_code, exceptionTable := #[], attributes := #[] }
def k7m2 : Method := { name := "<init>", desc := "(Ljava/lang/StringBuilder;)V", sig := { parameters := [(.object "java/lang/StringBuilder")], returnType := none }, accessFlags := 1, code := some k7c2 }
def k7c3 : Code := { maxStack := 2, maxLocals := 1, code := jdk_42_method_54_code, exceptionTable := #[], attributes := #[] }
def k7m3 : Method := { name := "length", desc := "()I", sig := { parameters := [], returnType := some .int }, accessFlags := 1, code := some k7c3 }
def k7c4 : Code := { maxStack := 2, maxLocals := 2, code := jdk_42_method_56_code, exceptionTable := #[], attributes := #[] }
def k7m4 : Method := { name := "charAt", desc := "(I)C", sig := { parameters := [.int], returnType := some .char }, accessFlags := 1, code := some k7c4 }
def k7c5 : Code := { maxStack := 4, maxLocals := 1, code := jdk_42_method_139_code, exceptionTable := #[], attributes := #[] }
def k7m5 : Method := { name := "valueOf", desc := "(C)Ljava/lang/String;", sig := { parameters := [.char], returnType := some (.object "java/lang/String") }, accessFlags := 9, code := some k7c5 }
def k7c6 : Code := { maxStack := 5, maxLocals := 4, code := jdk_42_method_147_code, exceptionTable := #[], attributes := #[] }
def k7m6 : Method := { name := "getBytes", desc := "([BIB)V", sig := { parameters := [(.array .byte), .int, .byte], returnType := none }, accessFlags := 0, code := some k7c6 }
def k7c7 : Code := { maxStack := 4, maxLocals := 6, code := jdk_42_method_149_code, exceptionTable := #[], attributes := #[] }
def k7m7 : Method := { name := "<init>", desc := "([CIILjava/lang/Void;)V", sig := { parameters := [(.array .char), .int, .int, (.object "java/lang/Void")], returnType := none }, accessFlags := 2, code := some k7c7 }
def k7c8 : Code := { maxStack := 5, maxLocals := 5, code := jdk_42_method_150_code, exceptionTable := #[], attributes := #[] }
def k7m8 : Method := { name := "<init>", desc := "(Ljava/lang/AbstractStringBuilder;Ljava/lang/Void;)V", sig := { parameters := [(.object "java/lang/AbstractStringBuilder"), (.object "java/lang/Void")], returnType := none }, accessFlags := 0, code := some k7c8 }
def k7c9 : Code := { maxStack := 2, maxLocals := 3, code := jdk_42_method_151_code, exceptionTable := #[], attributes := #[] }
def k7m9 : Method := { name := "<init>", desc := "([BB)V", sig := { parameters := [(.array .byte), .byte], returnType := none }, accessFlags := 0, code := some k7c9 }
def k7c10 : Code := { maxStack := 1, maxLocals := 1, code := jdk_42_method_152_code, exceptionTable := #[], attributes := #[] }
def k7m10 : Method := { name := "coder", desc := "()B", sig := { parameters := [], returnType := some .byte }, accessFlags := 0, code := some k7c10 }
def k7c11 : Code := { maxStack := 1, maxLocals := 1, code := jdk_42_method_154_code, exceptionTable := #[], attributes := #[] }
def k7m11 : Method := { name := "isLatin1", desc := "()Z", sig := { parameters := [], returnType := some .boolean }, accessFlags := 0, code := some k7c11 }
def k7c12 : Code := { maxStack := 3, maxLocals := 2, code := jdk_42_method_155_code, exceptionTable := #[], attributes := #[] }
def k7m12 : Method := { name := "checkIndex", desc := "(II)V", sig := { parameters := [.int, .int], returnType := none }, accessFlags := 8, code := some k7c12 }
def k7c13 : Code := { maxStack := 4, maxLocals := 3, code := jdk_42_method_157_code, exceptionTable := #[], attributes := #[] }
def k7m13 : Method := { name := "checkBoundsOffCount", desc := "(III)I", sig := { parameters := [.int, .int, .int], returnType := some .int }, accessFlags := 8, code := some k7c13 }
/-- java/lang/String -/
def k7 : Class := { plain "java/lang/String" (some 0) with
  accessFlags := 49
  interfaces := #[2, 3, 4, 5, 6]
  cf := some (fileOf pool7 10 #[.nestMembers #[1103]] #[{ accessFlags := 1, nameIndex := 5, descriptorIndex := 6, attributes := #[] }, { accessFlags := 1, nameIndex := 5, descriptorIndex := 1010, attributes := #[] }, { accessFlags := 1, nameIndex := 5, descriptorIndex := 1233, attributes := #[] }, { accessFlags := 1, nameIndex := 507, descriptorIndex := 334, attributes := #[] }, { accessFlags := 1, nameIndex := 497, descriptorIndex := 427, attributes := #[] }, { accessFlags := 9, nameIndex := 782, descriptorIndex := 783, attributes := #[] }, { accessFlags := 0, nameIndex := 532, descriptorIndex := 821, attributes := #[] }, { accessFlags := 2, nameIndex := 5, descriptorIndex := 29, attributes := #[] }, { accessFlags := 0, nameIndex := 5, descriptorIndex := 491, attributes := #[] }, { accessFlags := 0, nameIndex := 5, descriptorIndex := 211, attributes := #[] }, { accessFlags := 0, nameIndex := 17, descriptorIndex := 337, attributes := #[] }, { accessFlags := 0, nameIndex := 494, descriptorIndex := 142, attributes := #[] }, { accessFlags := 8, nameIndex := 501, descriptorIndex := 391, attributes := #[] }, { accessFlags := 8, nameIndex := 36, descriptorIndex := 37, attributes := #[] }] 49 2 #[1106, 1108, 575, 1110, 1112] #[{ accessFlags := 18, nameIndex := 13, descriptorIndex := 14, attributes := #[] }, { accessFlags := 18, nameIndex := 17, descriptorIndex := 18, attributes := #[] }, { accessFlags := 2, nameIndex := 21, descriptorIndex := 22, attributes := #[] }, { accessFlags := 2, nameIndex := 25, descriptorIndex := 26, attributes := #[] }, { accessFlags := 26, nameIndex := 1116, descriptorIndex := 1117, attributes := #[] }, { accessFlags := 24, nameIndex := 40, descriptorIndex := 26, attributes := #[] }, { accessFlags := 26, nameIndex := 1101, descriptorIndex := 1102, attributes := #[] }, { accessFlags := 26, nameIndex := 1121, descriptorIndex := 1122, attributes := #[] }, { accessFlags := 25, nameIndex := 599, descriptorIndex := 600, attributes := #[] }, { accessFlags := 24, nameIndex := 1125, descriptorIndex := 18, attributes := #[] }, { accessFlags := 24, nameIndex := 1127, descriptorIndex := 18, attributes := #[] }])
  fields := #[{ name := "value", type := (.array .byte), accessFlags := 18, slot := 0, constantValue := 0 }, { name := "coder", type := .byte, accessFlags := 18, slot := 1, constantValue := 0 }, { name := "hash", type := .int, accessFlags := 2, slot := 2, constantValue := 0 }, { name := "hashIsZero", type := .boolean, accessFlags := 2, slot := 3, constantValue := 0 }, { name := "serialVersionUID", type := .long, accessFlags := 26, slot := 0, constantValue := 0 }, { name := "COMPACT_STRINGS", type := .boolean, accessFlags := 24, slot := 1, constantValue := 0 }, { name := "serialPersistentFields", type := (.array (.object "java/io/ObjectStreamField")), accessFlags := 26, slot := 2, constantValue := 0 }, { name := "REPL", type := .char, accessFlags := 26, slot := 3, constantValue := 0 }, { name := "CASE_INSENSITIVE_ORDER", type := (.object "java/util/Comparator"), accessFlags := 25, slot := 4, constantValue := 0 }, { name := "LATIN1", type := .byte, accessFlags := 24, slot := 5, constantValue := 0 }, { name := "UTF16", type := .byte, accessFlags := 24, slot := 6, constantValue := 0 }]
  methods := #[k7m0, k7m1, k7m2, k7m3, k7m4, k7m5, k7m6, k7m7, k7m8, k7m9, k7m10, k7m11, k7m12, k7m13]
  instanceTypes := #[(.array .byte), .byte, .int, .boolean]
  staticTypes := #[.long, .boolean, (.array (.object "java/io/ObjectStreamField")), .char, (.object "java/util/Comparator"), .byte, .byte]
  resolved := Array.replicate 1451 none
  statics := some 0 }

def pool8 : Array CpInfo := pool [(2, .class_ 4), (1, u "java/lang/Object"), (0, u "<init>"), (0, u "()V"), (3, .class_ 12), (1, u "com/example/tallyman/tallyman/Html"), (10, u "text"), (0, u "(Ljava/lang/String;)Ljava/lang/String;"), (1, .class_ 27), (0, u "java/lang/StringBuilder"), (0, .methodref 29 30), (0, .class_ 31), (0, .nameAndType 32 33), (0, u "java/lang/String"), (0, u "length"), (0, u "()I"), (0, .methodref 26 35), (0, .nameAndType 5 36), (0, u "(I)V"), (0, .methodref 29 38), (0, .nameAndType 39 40), (0, u "charAt"), (0, u "(I)C"), (0, .string 42), (0, u "&amp;"), (0, .methodref 26 44), (0, .nameAndType 45 46), (0, u "append"), (0, u "(Ljava/lang/String;)Ljava/lang/StringBuilder;"), (0, .string 48), (0, u "&lt;"), (0, .string 50), (0, u "&gt;"), (0, .string 52), (0, u "&quot;"), (0, .string 54), (0, u "&#39;"), (0, .methodref 26 56), (0, .nameAndType 45 57), (0, u "(C)Ljava/lang/StringBuilder;"), (0, .methodref 26 59), (0, .nameAndType 60 61), (0, u "toString"), (0, u "()Ljava/lang/String;"), (0, u "MEDIA_TYPE"), (0, u "Ljava/lang/String;")] 26

def k8m0 : Method := { name := "<init>", desc := "()V", sig := { parameters := [], returnType := none }, accessFlags := 2, code := none }
def k8c1 : Code := { maxStack := 3, maxLocals := 4, code := prog_10_method_4_code, exceptionTable := #[], attributes := #[] }
def k8m1 : Method := { name := "text", desc := "(Ljava/lang/String;)Ljava/lang/String;", sig := { parameters := [(.object "java/lang/String")], returnType := some (.object "java/lang/String") }, accessFlags := 8, code := some k8c1 }
/-- com/example/tallyman/tallyman/Html -/
def k8 : Class := { plain "com/example/tallyman/tallyman/Html" (some 0) with
  accessFlags := 48
  interfaces := #[]
  cf := some (fileOf pool8 10 #[] #[{ accessFlags := 2, nameIndex := 5, descriptorIndex := 6, attributes := #[] }, { accessFlags := 8, nameIndex := 23, descriptorIndex := 24, attributes := #[] }] 48 2 #[] #[{ accessFlags := 24, nameIndex := 62, descriptorIndex := 63, attributes := #[] }])
  fields := #[{ name := "MEDIA_TYPE", type := (.object "java/lang/String"), accessFlags := 24, slot := 0, constantValue := 0 }]
  methods := #[k8m0, k8m1]
  instanceTypes := #[]
  staticTypes := #[(.object "java/lang/String")]
  resolved := Array.replicate 90 none
  statics := none }

def pool9 : Array CpInfo := pool [(1, .class_ 2), (0, u "java/lang/Appendable"), (0, .class_ 4), (0, u "java/lang/Object")] 9

/-- java/lang/Appendable -/
def k9 : Class := { plain "java/lang/Appendable" (some 0) with
  accessFlags := 1537
  interfaces := #[]
  cf := some (fileOf pool9 1 #[] #[] 1537 3 #[] #[])
  fields := #[]
  methods := #[]
  instanceTypes := #[]
  staticTypes := #[]
  resolved := Array.replicate 14 none
  statics := none }

def pool10 : Array CpInfo := pool [(1, .class_ 2), (0, u "java/lang/String"), (0, .methodref 4 5), (0, .class_ 6), (0, .nameAndType 7 8), (0, u "java/lang/Object"), (0, u "<init>"), (0, u "()V"), (1, .class_ 12), (1, u "java/lang/AbstractStringBuilder"), (0, u "EMPTYVALUE"), (0, u "[B"), (0, .fieldref 10 16), (0, .nameAndType 17 14), (0, u "value"), (0, .fieldref 1 19), (0, .nameAndType 20 21), (0, u "COMPACT_STRINGS"), (0, u "Z"), (0, .fieldref 10 23), (0, .nameAndType 24 25), (0, u "coder"), (0, u "B"), (0, .methodref 27 28), (0, .class_ 29), (0, .nameAndType 30 31), (0, u "java/lang/StringUTF16"), (0, u "newBytesFor"), (0, u "(I)[B"), (0, .methodref 1 33), (0, .nameAndType 34 35), (0, u "length"), (0, u "()I"), (3, .integer 2147483647), (0, .methodref 1 41), (0, .nameAndType 24 42), (0, u "()B"), (2, u "append"), (0, u "(Ljava/lang/String;)Ljava/lang/AbstractStringBuilder;"), (1, .class_ 49), (0, u "java/lang/CharSequence"), (19, u "(Ljava/lang/String;)V"), (5, u "maybeLatin1"), (3, .fieldref 10 80), (0, .nameAndType 81 82), (0, u "count"), (0, u "I"), (0, .methodref 10 84), (0, .nameAndType 85 86), (0, u "isLatin1"), (0, u "()Z"), (1, .class_ 90), (1, u "java/lang/StringLatin1"), (9, .methodref 10 101), (0, .nameAndType 102 103), (0, u "ensureCapacityInternal"), (0, u "(I)V"), (0, .methodref 10 105), (0, .nameAndType 106 107), (0, u "newCapacity"), (0, u "(I)I"), (0, .methodref 109 110), (0, .class_ 111), (0, .nameAndType 112 113), (0, u "java/util/Arrays"), (0, u "copyOf"), (0, u "([BI)[B"), (0, .methodref 115 116), (0, .class_ 117), (0, .nameAndType 118 119), (0, u "jdk/internal/util/ArraysSupport"), (0, u "newLength"), (0, u "(III)I"), (5, .methodref 88 126), (0, .nameAndType 127 128), (0, u "inflate"), (0, u "([BI[BII)V"), (7, u "([BII)V"), (54, .methodref 88 192), (0, .nameAndType 193 194), (0, u "canEncode"), (0, u "(C)Z"), (0, .methodref 10 196), (0, .nameAndType 127 8), (0, .methodref 27 198), (0, .nameAndType 199 136), (0, u "putCharSB"), (8, .methodref 10 209), (0, .nameAndType 210 211), (0, u "putStringAt"), (0, u "(ILjava/lang/String;)V"), (5, u "inflateIfNeededFor"), (2, .nameAndType 221 222), (0, u "getBytes"), (0, u "([BIB)V"), (69, u "(C)Ljava/lang/AbstractStringBuilder;"), (104, .methodref 10 398), (0, .nameAndType 217 69), (0, .methodref 1 220), (3, u "()[B"), (40, .class_ 445), (0, u "java/lang/Appendable"), (106, u "getValue")] 56

def k10m0 : Method := { name := "<init>", desc := "()V", sig := { parameters := [], returnType := none }, accessFlags := 0, code := none }
def k10c1 : Code := { maxStack := 2, maxLocals := 2, code := jdk_68_method_2_code, exceptionTable := #[], attributes := #[] }
def k10m1 : Method := { name := "<init>", desc := "(I)V", sig := { parameters := [.int], returnType := none }, accessFlags := 0, code := some k10c1 }
def k10c2 : Code := { maxStack := 1, maxLocals := 1, code := jdk_68_method_6_code, exceptionTable := #[], attributes := #[] }
def k10m2 : Method := { name := "length", desc := "()I", sig := { parameters := [], returnType := some .int }, accessFlags := 1, code := some k10c2 }
def k10c3 : Code := { maxStack := 4, maxLocals := 3, code := jdk_68_method_9_code, exceptionTable := #[], attributes := #[] }
def k10m3 : Method := { name := "ensureCapacityInternal", desc := "(I)V", sig := { parameters := [.int], returnType := none }, accessFlags := 2, code := some k10c3 }
def k10c4 : Code := { maxStack := 5, maxLocals := 6, code := jdk_68_method_10_code, exceptionTable := #[], attributes := #[] }
def k10m4 : Method := { name := "newCapacity", desc := "(I)I", sig := { parameters := [.int], returnType := some .int }, accessFlags := 2, code := some k10c4 }
def k10c5 : Code := { maxStack := 5, maxLocals := 2, code := jdk_68_method_11_code, exceptionTable := #[], attributes := #[] }
def k10m5 : Method := { name := "inflate", desc := "()V", sig := { parameters := [], returnType := none }, accessFlags := 2, code := some k10c5 }
def k10c6 : Code := { maxStack := 3, maxLocals := 3, code := jdk_68_method_22_code, exceptionTable := #[], attributes := #[] }
def k10m6 : Method := { name := "append", desc := "(Ljava/lang/String;)Ljava/lang/AbstractStringBuilder;", sig := { parameters := [(.object "java/lang/String")], returnType := some (.object "java/lang/AbstractStringBuilder") }, accessFlags := 1, code := some k10c6 }
def k10c7 : Code := { maxStack := 5, maxLocals := 2, code := jdk_68_method_31_code, exceptionTable := #[], attributes := #[] }
def k10m7 : Method := { name := "append", desc := "(C)Ljava/lang/AbstractStringBuilder;", sig := { parameters := [.char], returnType := some (.object "java/lang/AbstractStringBuilder") }, accessFlags := 1, code := some k10c7 }
def k10c8 : Code := { maxStack := 1, maxLocals := 1, code := jdk_68_method_64_code, exceptionTable := #[], attributes := #[] }
def k10m8 : Method := { name := "getValue", desc := "()[B", sig := { parameters := [], returnType := some (.array .byte) }, accessFlags := 16, code := some k10c8 }
def k10c9 : Code := { maxStack := 1, maxLocals := 1, code := jdk_68_method_68_code, exceptionTable := #[], attributes := #[] }
def k10m9 : Method := { name := "isLatin1", desc := "()Z", sig := { parameters := [], returnType := some .boolean }, accessFlags := 16, code := some k10c9 }
def k10c10 : Code := { maxStack := 2, maxLocals := 2, code := jdk_68_method_71_code, exceptionTable := #[], attributes := #[] }
def k10m10 : Method := { name := "inflateIfNeededFor", desc := "(Ljava/lang/String;)V", sig := { parameters := [(.object "java/lang/String")], returnType := none }, accessFlags := 2, code := some k10c10 }
def k10c11 : Code := { maxStack := 4, maxLocals := 3, code := jdk_68_method_73_code, exceptionTable := #[], attributes := #[] }
def k10m11 : Method := { name := "putStringAt", desc := "(ILjava/lang/String;)V", sig := { parameters := [.int, (.object "java/lang/String")], returnType := none }, accessFlags := 2, code := some k10c11 }
/-- java/lang/AbstractStringBuilder -/
def k10 : Class := { plain "java/lang/AbstractStringBuilder" (some 0) with
  accessFlags := 1056
  interfaces := #[9, 4]
  cf := some (fileOf pool10 10 #[] #[{ accessFlags := 0, nameIndex := 7, descriptorIndex := 8, attributes := #[] }, { accessFlags := 0, nameIndex := 7, descriptorIndex := 103, attributes := #[] }, { accessFlags := 1, nameIndex := 34, descriptorIndex := 35, attributes := #[] }, { accessFlags := 2, nameIndex := 102, descriptorIndex := 103, attributes := #[] }, { accessFlags := 2, nameIndex := 106, descriptorIndex := 107, attributes := #[] }, { accessFlags := 2, nameIndex := 127, descriptorIndex := 8, attributes := #[] }, { accessFlags := 1, nameIndex := 45, descriptorIndex := 46, attributes := #[] }, { accessFlags := 1, nameIndex := 45, descriptorIndex := 292, attributes := #[] }, { accessFlags := 16, nameIndex := 552, descriptorIndex := 403, attributes := #[] }, { accessFlags := 16, nameIndex := 85, descriptorIndex := 86, attributes := #[] }, { accessFlags := 2, nameIndex := 217, descriptorIndex := 69, attributes := #[] }, { accessFlags := 2, nameIndex := 210, descriptorIndex := 211, attributes := #[] }] 1056 4 #[444, 48] #[{ accessFlags := 0, nameIndex := 17, descriptorIndex := 14, attributes := #[] }, { accessFlags := 0, nameIndex := 24, descriptorIndex := 25, attributes := #[] }, { accessFlags := 0, nameIndex := 75, descriptorIndex := 21, attributes := #[] }, { accessFlags := 0, nameIndex := 81, descriptorIndex := 82, attributes := #[] }, { accessFlags := 26, nameIndex := 13, descriptorIndex := 14, attributes := #[] }])
  fields := #[{ name := "value", type := (.array .byte), accessFlags := 0, slot := 0, constantValue := 0 }, { name := "coder", type := .byte, accessFlags := 0, slot := 1, constantValue := 0 }, { name := "maybeLatin1", type := .boolean, accessFlags := 0, slot := 2, constantValue := 0 }, { name := "count", type := .int, accessFlags := 0, slot := 3, constantValue := 0 }, { name := "EMPTYVALUE", type := (.array .byte), accessFlags := 26, slot := 0, constantValue := 0 }]
  methods := #[k10m0, k10m1, k10m2, k10m3, k10m4, k10m5, k10m6, k10m7, k10m8, k10m9, k10m10, k10m11]
  instanceTypes := #[(.array .byte), .byte, .boolean, .int]
  staticTypes := #[(.array .byte)]
  resolved := Array.replicate 609 none
  statics := none }

def pool11 : Array CpInfo := pool [(1, .methodref 2 3), (0, .class_ 4), (0, .nameAndType 5 6), (0, u "java/lang/AbstractStringBuilder"), (0, u "<init>"), (0, u "(I)V"), (11, .class_ 20), (1, u "java/lang/String"), (3, .class_ 26), (1, u "java/lang/StringBuilder"), (0, u "append"), (0, u "(Ljava/lang/String;)Ljava/lang/StringBuilder;"), (0, .methodref 2 30), (0, .nameAndType 27 31), (0, u "(Ljava/lang/String;)Ljava/lang/AbstractStringBuilder;"), (18, .methodref 2 51), (0, .nameAndType 27 52), (0, u "(C)Ljava/lang/AbstractStringBuilder;"), (84, .methodref 18 138), (0, .nameAndType 5 139), (0, u "(Ljava/lang/StringBuilder;)V"), (5, u "()V"), (10, u "()I"), (129, u "(C)Ljava/lang/StringBuilder;"), (56, .methodref 2 344), (0, .nameAndType 345 156), (0, u "length"), (3, .class_ 350), (0, u "java/lang/Appendable"), (0, .class_ 352), (0, u "java/io/Serializable"), (0, .class_ 354), (0, u "java/lang/Comparable"), (0, .class_ 356), (0, u "java/lang/CharSequence"), (0, u "serialVersionUID"), (0, u "J"), (40, u "toString"), (0, u "()Ljava/lang/String;")] 21

def k11m0 : Method := { name := "<init>", desc := "()V", sig := { parameters := [], returnType := none }, accessFlags := 1, code := none }
def k11c1 : Code := { maxStack := 2, maxLocals := 2, code := jdk_67_method_2_code, exceptionTable := #[], attributes := #[] }
def k11m1 : Method := { name := "<init>", desc := "(I)V", sig := { parameters := [.int], returnType := none }, accessFlags := 1, code := some k11c1 }
def k11c2 : Code := { maxStack := 2, maxLocals := 2, code := jdk_67_method_7_code, exceptionTable := #[], attributes := #[] }
def k11m2 : Method := { name := "append", desc := "(Ljava/lang/String;)Ljava/lang/StringBuilder;", sig := { parameters := [(.object "java/lang/String")], returnType := some (.object "java/lang/StringBuilder") }, accessFlags := 1, code := some k11c2 }
def k11c3 : Code := { maxStack := 2, maxLocals := 2, code := jdk_67_method_14_code, exceptionTable := #[], attributes := #[] }
def k11m3 : Method := { name := "append", desc := "(C)Ljava/lang/StringBuilder;", sig := { parameters := [.char], returnType := some (.object "java/lang/StringBuilder") }, accessFlags := 1, code := some k11c3 }
def k11c4 : Code := { maxStack := 3, maxLocals := 1, code := jdk_67_method_42_code, exceptionTable := #[], attributes := #[] }
def k11m4 : Method := { name := "toString", desc := "()Ljava/lang/String;", sig := { parameters := [], returnType := some (.object "java/lang/String") }, accessFlags := 1, code := some k11c4 }
def k11c5 : Code := { maxStack := 1, maxLocals := 1, code := jdk_67_method_93_code, exceptionTable := #[], attributes := #[] }
def k11m5 : Method := { name := "length", desc := "()I", sig := { parameters := [], returnType := some .int }, accessFlags := 4161, code := some k11c5 }
/-- java/lang/StringBuilder -/
def k11 : Class := { plain "java/lang/StringBuilder" (some 10) with
  accessFlags := 49
  interfaces := #[9, 2, 3, 4]
  cf := some (fileOf pool11 24 #[] #[{ accessFlags := 1, nameIndex := 5, descriptorIndex := 145, attributes := #[] }, { accessFlags := 1, nameIndex := 5, descriptorIndex := 6, attributes := #[] }, { accessFlags := 1, nameIndex := 27, descriptorIndex := 28, attributes := #[] }, { accessFlags := 1, nameIndex := 27, descriptorIndex := 286, attributes := #[] }, { accessFlags := 1, nameIndex := 399, descriptorIndex := 400, attributes := #[] }, { accessFlags := 4161, nameIndex := 345, descriptorIndex := 156, attributes := #[] }] 49 2 #[349, 351, 353, 355] #[{ accessFlags := 24, nameIndex := 357, descriptorIndex := 358, attributes := #[] }])
  fields := #[{ name := "serialVersionUID", type := .long, accessFlags := 24, slot := 0, constantValue := 0 }]
  methods := #[k11m0, k11m1, k11m2, k11m3, k11m4, k11m5]
  instanceTypes := #[(.array .byte), .byte, .boolean, .int]
  staticTypes := #[.long]
  resolved := Array.replicate 422 none
  statics := none }

def pool12 : Array CpInfo := pool [(2, .class_ 4), (1, u "java/lang/Object"), (0, u "<init>"), (0, u "()V"), (7, .class_ 16), (1, u "java/util/Arrays"), (57, .class_ 76), (1, u "java/util/Arrays$NaturalOrder"), (32, u "()Ljava/lang/Object;"), (3, .class_ 115), (1, u "java/util/Arrays$LegacyMergeSort"), (1, u "Z"), (10, .nameAndType 129 109), (0, u "clone"), (9, u "copyOfRange"), (10, .methodref 151 152), (0, .class_ 153), (0, .nameAndType 154 155), (0, u "java/lang/System"), (0, u "arraycopy"), (0, u "(Ljava/lang/Object;ILjava/lang/Object;II)V"), (146, u "copyOf"), (1, .methodref 305 306), (0, .class_ 307), (0, .nameAndType 308 309), (0, u "java/lang/Math"), (0, u "min"), (0, u "(II)I"), (0, .methodref 311 128), (0, .class_ 312), (0, u "[B"), (26, .methodref 14 340), (0, .nameAndType 341 342), (0, u "copyOfRangeByte"), (0, u "([BII)[B"), (0, .methodref 14 344), (0, .nameAndType 345 346), (0, u "checkLength"), (0, u "(II)V"), (28, .class_ 376), (0, u "java/util/Arrays$ArrayList"), (68, u "$assertionsDisabled"), (269, u "MIN_ARRAY_SORT_GRAN"), (0, u "I"), (2, u "INSERTIONSORT_THRESHOLD"), (149, u "([BI)[B"), (105, .class_ 976), (0, u "java/util/Arrays$ArrayItr")] 52

def k12m0 : Method := { name := "<init>", desc := "()V", sig := { parameters := [], returnType := none }, accessFlags := 2, code := none }
def k12c1 : Code := { maxStack := 6, maxLocals := 3, code := jdk_65_method_121_code, exceptionTable := #[], attributes := #[] }
def k12m1 : Method := { name := "copyOf", desc := "([BI)[B", sig := { parameters := [(.array .byte), .int], returnType := some (.array .byte) }, accessFlags := 9, code := some k12c1 }
def k12c2 : Code := { maxStack := 4, maxLocals := 2, code := jdk_65_method_131_code, exceptionTable := #[], attributes := #[] }
def k12m2 : Method := { name := "checkLength", desc := "(II)V", sig := { parameters := [.int, .int], returnType := none }, accessFlags := 10, code := some k12c2 }
def k12c3 : Code := { maxStack := 3, maxLocals := 3, code := jdk_65_method_132_code, exceptionTable := #[], attributes := #[] }
def k12m3 : Method := { name := "copyOfRange", desc := "([BII)[B", sig := { parameters := [(.array .byte), .int, .int], returnType := some (.array .byte) }, accessFlags := 9, code := some k12c3 }
def k12c4 : Code := { maxStack := 6, maxLocals := 5, code := jdk_65_method_133_code, exceptionTable := #[], attributes := #[] }
def k12m4 : Method := { name := "copyOfRangeByte", desc := "([BII)[B", sig := { parameters := [(.array .byte), .int, .int], returnType := some (.array .byte) }, accessFlags := 10, code := some k12c4 }
/-- java/util/Arrays -/
def k12 : Class := { plain "java/util/Arrays" (some 0) with
  accessFlags := 49
  interfaces := #[]
  cf := some (fileOf pool12 14 #[.nestMembers #[975, 375, 113, 74]] #[{ accessFlags := 2, nameIndex := 5, descriptorIndex := 6, attributes := #[] }, { accessFlags := 9, nameIndex := 302, descriptorIndex := 869, attributes := #[] }, { accessFlags := 10, nameIndex := 345, descriptorIndex := 346, attributes := #[] }, { accessFlags := 9, nameIndex := 139, descriptorIndex := 342, attributes := #[] }, { accessFlags := 10, nameIndex := 341, descriptorIndex := 342, attributes := #[] }] 49 2 #[] #[{ accessFlags := 26, nameIndex := 715, descriptorIndex := 716, attributes := #[] }, { accessFlags := 26, nameIndex := 719, descriptorIndex := 716, attributes := #[] }, { accessFlags := 4120, nameIndex := 445, descriptorIndex := 117, attributes := #[] }])
  fields := #[{ name := "MIN_ARRAY_SORT_GRAN", type := .int, accessFlags := 26, slot := 0, constantValue := 0 }, { name := "INSERTIONSORT_THRESHOLD", type := .int, accessFlags := 26, slot := 1, constantValue := 0 }, { name := "$assertionsDisabled", type := .boolean, accessFlags := 4120, slot := 2, constantValue := 0 }]
  methods := #[k12m0, k12m1, k12m2, k12m3, k12m4]
  instanceTypes := #[]
  staticTypes := #[.int, .int, .boolean]
  resolved := Array.replicate 1029 none
  statics := none }

def pool13 : Array CpInfo := pool [(1, .class_ 2), (0, u "java/lang/Cloneable"), (0, .class_ 4), (0, u "java/lang/Object")] 2

/-- java/lang/Cloneable -/
def k13 : Class := { plain "java/lang/Cloneable" (some 0) with
  accessFlags := 1537
  interfaces := #[]
  cf := some (fileOf pool13 1 #[] #[] 1537 3 #[] #[])
  fields := #[]
  methods := #[]
  instanceTypes := #[]
  staticTypes := #[]
  resolved := Array.replicate 7 none
  statics := none }

def pool14 : Array CpInfo := pool [(3, .class_ 4), (0, u "java/lang/String"), (1, .class_ 8), (1, u "java/lang/Object"), (0, u "<init>"), (0, u "()V"), (0, .methodref 12 13), (0, .class_ 14), (0, .nameAndType 15 16), (0, u "java/lang/StringUTF16"), (0, u "newBytesLength"), (0, u "(I)I"), (3, .integer 1073741823), (23, .fieldref 12 45), (0, .nameAndType 46 47), (0, u "$assertionsDisabled"), (0, u "Z"), (0, .methodref 12 49), (0, .nameAndType 50 51), (0, u "length"), (0, u "([B)I"), (7, .fieldref 12 60), (0, .nameAndType 61 62), (0, u "HI_BYTE_SHIFT"), (0, u "I"), (0, .fieldref 12 64), (0, .nameAndType 65 62), (0, u "LO_BYTE_SHIFT"), (1, .methodref 12 68), (0, .nameAndType 69 70), (0, u "checkIndex"), (0, u "(I[B)V"), (0, .methodref 12 72), (0, .nameAndType 73 74), (0, u "getChar"), (0, u "([BI)C"), (24, u "(II[B)V"), (7, .methodref 12 108), (0, .nameAndType 109 110), (0, u "newBytesFor"), (0, u "(I)[B"), (0, .methodref 12 112), (0, .nameAndType 113 114), (0, u "putChar"), (0, u "([BII)V"), (0, .methodref 12 116), (0, .nameAndType 117 118), (0, u "compress"), (0, u "([CI[BII)I"), (0, .methodref 12 120), (0, .nameAndType 121 122), (0, u "toBytes"), (0, u "([CII)[B"), (17, u "inflate"), (0, u "([BI[BII)V"), (31, .methodref 12 174), (0, .nameAndType 175 99), (0, u "checkBoundsOffCount"), (85, u "coderFromArrayLen"), (0, u "([BI)B"), (18, u "(III)I"), (87, .class_ 371), (1, u "java/lang/StringUTF16$LinesSpliterator"), (20, u "charAt"), (21, .methodref 3 415), (0, .nameAndType 69 416), (0, u "(II)V"), (2, .methodref 3 420), (0, .nameAndType 175 281), (9, u "MAX_LENGTH"), (44, u "(C)[B"), (110, u "putCharSB"), (40, .class_ 628), (0, u "java/lang/StringUTF16$CodePointsSpliterator"), (0, .class_ 630), (0, u "java/lang/StringUTF16$CharsSpliterator")] 4

def k14m0 : Method := { name := "<init>", desc := "()V", sig := { parameters := [], returnType := none }, accessFlags := 0, code := none }
def k14c1 : Code := { maxStack := 1, maxLocals := 1, code := jdk_52_method_2_code, exceptionTable := #[], attributes := #[] }
def k14m1 : Method := { name := "newBytesFor", desc := "(I)[B", sig := { parameters := [.int], returnType := some (.array .byte) }, accessFlags := 9, code := some k14c1 }
def k14c2 : Code := { maxStack := 4, maxLocals := 1, code := jdk_52_method_3_code, exceptionTable := #[], attributes := #[] }
def k14m2 : Method := { name := "newBytesLength", desc := "(I)I", sig := { parameters := [.int], returnType := some .int }, accessFlags := 9, code := some k14c2 }
def k14c3 : Code := { maxStack := 4, maxLocals := 3, code := jdk_52_method_4_code, exceptionTable := #[], attributes := #[] }
def k14m3 : Method := { name := "putChar", desc := "([BII)V", sig := { parameters := [(.array .byte), .int, .int], returnType := none }, accessFlags := 8, code := some k14c3 }
def k14c4 : Code := { maxStack := 3, maxLocals := 2, code := jdk_52_method_5_code, exceptionTable := #[], attributes := #[] }
def k14m4 : Method := { name := "getChar", desc := "([BI)C", sig := { parameters := [(.array .byte), .int], returnType := some .char }, accessFlags := 8, code := some k14c4 }
def k14c5 : Code := { maxStack := 2, maxLocals := 1, code := jdk_52_method_6_code, exceptionTable := #[], attributes := #[] }
def k14m5 : Method := { name := "length", desc := "([B)I", sig := { parameters := [(.array .byte)], returnType := some .int }, accessFlags := 9, code := some k14c5 }
def k14c6 : Code := { maxStack := 4, maxLocals := 5, code := jdk_52_method_14_code, exceptionTable := #[], attributes := #[] }
def k14m6 : Method := { name := "toBytes", desc := "([CII)[B", sig := { parameters := [(.array .char), .int, .int], returnType := some (.array .byte) }, accessFlags := 9, code := some k14c6 }
def k14c7 : Code := { maxStack := 2, maxLocals := 2, code := jdk_52_method_15_code, exceptionTable := #[], attributes := #[] }
def k14m7 : Method := { name := "coderFromArrayLen", desc := "([BI)B", sig := { parameters := [(.array .byte), .int], returnType := some .byte }, accessFlags := 8, code := some k14c7 }
def k14c8 : Code := { maxStack := 5, maxLocals := 6, code := jdk_52_method_16_code, exceptionTable := #[], attributes := #[] }
def k14m8 : Method := { name := "compress", desc := "([CII)[B", sig := { parameters := [(.array .char), .int, .int], returnType := some (.array .byte) }, accessFlags := 9, code := some k14c8 }
def k14c9 : Code := { maxStack := 3, maxLocals := 7, code := jdk_52_method_21_code, exceptionTable := #[], attributes := #[] }
def k14m9 : Method := { name := "compress", desc := "([CI[BII)I", sig := { parameters := [(.array .char), .int, (.array .byte), .int, .int], returnType := some .int }, accessFlags := 9, code := some k14c9 }
def k14c10 : Code := { maxStack := 3, maxLocals := 2, code := jdk_52_method_24_code, exceptionTable := #[], attributes := #[] }
def k14m10 : Method := { name := "toBytes", desc := "(C)[B", sig := { parameters := [.char], returnType := some (.array .byte) }, accessFlags := 9, code := some k14c10 }
def k14c11 : Code := { maxStack := 3, maxLocals := 3, code := jdk_52_method_71_code, exceptionTable := #[], attributes := #[] }
def k14m11 : Method := { name := "putCharSB", desc := "([BII)V", sig := { parameters := [(.array .byte), .int, .int], returnType := none }, accessFlags := 9, code := some k14c11 }
def k14c12 : Code := { maxStack := 2, maxLocals := 2, code := jdk_52_method_83_code, exceptionTable := #[], attributes := #[] }
def k14m12 : Method := { name := "charAt", desc := "([BI)C", sig := { parameters := [(.array .byte), .int], returnType := some .char }, accessFlags := 9, code := some k14c12 }
def k14c13 : Code := { maxStack := 4, maxLocals := 6, code := jdk_52_method_86_code, exceptionTable := #[], attributes := #[] }
def k14m13 : Method := { name := "inflate", desc := "([BI[BII)V", sig := { parameters := [(.array .byte), .int, (.array .byte), .int, .int], returnType := none }, accessFlags := 9, code := some k14c13 }
def k14c14 : Code := { maxStack := 2, maxLocals := 2, code := jdk_52_method_91_code, exceptionTable := #[], attributes := #[] }
def k14m14 : Method := { name := "checkIndex", desc := "(I[B)V", sig := { parameters := [.int, (.array .byte)], returnType := none }, accessFlags := 9, code := some k14c14 }
def k14c15 : Code := { maxStack := 3, maxLocals := 3, code := jdk_52_method_94_code, exceptionTable := #[], attributes := #[] }
def k14m15 : Method := { name := "checkBoundsOffCount", desc := "(II[B)V", sig := { parameters := [.int, .int, (.array .byte)], returnType := none }, accessFlags := 9, code := some k14c15 }
/-- java/lang/StringUTF16 -/
def k14 : Class := { plain "java/lang/StringUTF16" (some 0) with
  accessFlags := 48
  interfaces := #[]
  cf := some (fileOf pool14 12 #[.nestMembers #[627, 629, 369]] #[{ accessFlags := 0, nameIndex := 9, descriptorIndex := 10, attributes := #[] }, { accessFlags := 9, nameIndex := 109, descriptorIndex := 110, attributes := #[] }, { accessFlags := 9, nameIndex := 15, descriptorIndex := 16, attributes := #[] }, { accessFlags := 8, nameIndex := 113, descriptorIndex := 114, attributes := #[] }, { accessFlags := 8, nameIndex := 73, descriptorIndex := 74, attributes := #[] }, { accessFlags := 9, nameIndex := 50, descriptorIndex := 51, attributes := #[] }, { accessFlags := 9, nameIndex := 121, descriptorIndex := 122, attributes := #[] }, { accessFlags := 8, nameIndex := 261, descriptorIndex := 262, attributes := #[] }, { accessFlags := 9, nameIndex := 117, descriptorIndex := 122, attributes := #[] }, { accessFlags := 9, nameIndex := 117, descriptorIndex := 118, attributes := #[] }, { accessFlags := 9, nameIndex := 121, descriptorIndex := 475, attributes := #[] }, { accessFlags := 9, nameIndex := 586, descriptorIndex := 114, attributes := #[] }, { accessFlags := 9, nameIndex := 392, descriptorIndex := 74, attributes := #[] }, { accessFlags := 9, nameIndex := 140, descriptorIndex := 141, attributes := #[] }, { accessFlags := 9, nameIndex := 69, descriptorIndex := 70, attributes := #[] }, { accessFlags := 9, nameIndex := 175, descriptorIndex := 99, attributes := #[] }] 48 6 #[] #[{ accessFlags := 26, nameIndex := 61, descriptorIndex := 62, attributes := #[] }, { accessFlags := 26, nameIndex := 65, descriptorIndex := 62, attributes := #[] }, { accessFlags := 24, nameIndex := 430, descriptorIndex := 62, attributes := #[] }, { accessFlags := 4120, nameIndex := 46, descriptorIndex := 47, attributes := #[] }])
  fields := #[{ name := "HI_BYTE_SHIFT", type := .int, accessFlags := 26, slot := 0, constantValue := 0 }, { name := "LO_BYTE_SHIFT", type := .int, accessFlags := 26, slot := 1, constantValue := 0 }, { name := "MAX_LENGTH", type := .int, accessFlags := 24, slot := 2, constantValue := 0 }, { name := "$assertionsDisabled", type := .boolean, accessFlags := 4120, slot := 3, constantValue := 0 }]
  methods := #[k14m0, k14m1, k14m2, k14m3, k14m4, k14m5, k14m6, k14m7, k14m8, k14m9, k14m10, k14m11, k14m12, k14m13, k14m14, k14m15]
  instanceTypes := #[]
  staticTypes := #[.int, .int, .int, .boolean]
  resolved := Array.replicate 635 none
  statics := some 1 }

def pool15 : Array CpInfo := pool [(1, .class_ 2), (0, u "java/lang/String"), (1, .class_ 6), (1, u "java/lang/Object"), (0, u "<init>"), (0, u "()V"), (0, .methodref 1 10), (0, .nameAndType 11 12), (0, u "checkIndex"), (0, u "(II)V"), (1, .class_ 16), (1, u "java/lang/StringLatin1"), (0, u "inflate"), (2, .class_ 22), (1, u "java/lang/StringUTF16"), (3, .nameAndType 17 27), (0, u "([BI[BII)V"), (25, u "([BI)C"), (36, u "canEncode"), (14, u "(C)Z"), (15, u "$assertionsDisabled"), (0, u "Z"), (98, .class_ 223), (1, u "java/lang/StringLatin1$LinesSpliterator"), (16, .methodref 20 26), (11, u "charAt"), (127, u "toBytes"), (1, u "(C)[B"), (7, .class_ 391), (0, u "java/lang/StringLatin1$CharsSpliterator")] 3

def k15m0 : Method := { name := "<init>", desc := "()V", sig := { parameters := [], returnType := none }, accessFlags := 0, code := none }
def k15c1 : Code := { maxStack := 2, maxLocals := 2, code := jdk_43_method_2_code, exceptionTable := #[], attributes := #[] }
def k15m1 : Method := { name := "charAt", desc := "([BI)C", sig := { parameters := [(.array .byte), .int], returnType := some .char }, accessFlags := 9, code := some k15c1 }
def k15c2 : Code := { maxStack := 2, maxLocals := 1, code := jdk_43_method_3_code, exceptionTable := #[], attributes := #[] }
def k15m2 : Method := { name := "canEncode", desc := "(C)Z", sig := { parameters := [.char], returnType := some .boolean }, accessFlags := 9, code := some k15c2 }
def k15c3 : Code := { maxStack := 4, maxLocals := 1, code := jdk_43_method_46_code, exceptionTable := #[], attributes := #[] }
def k15m3 : Method := { name := "toBytes", desc := "(C)[B", sig := { parameters := [.char], returnType := some (.array .byte) }, accessFlags := 9, code := some k15c3 }
def k15c4 : Code := { maxStack := 5, maxLocals := 5, code := jdk_43_method_50_code, exceptionTable := #[], attributes := #[] }
def k15m4 : Method := { name := "inflate", desc := "([BI[BII)V", sig := { parameters := [(.array .byte), .int, (.array .byte), .int, .int], returnType := none }, accessFlags := 9, code := some k15c4 }
/-- java/lang/StringLatin1 -/
def k15 : Class := { plain "java/lang/StringLatin1" (some 0) with
  accessFlags := 48
  interfaces := #[]
  cf := some (fileOf pool15 14 #[.nestMembers #[390, 221]] #[{ accessFlags := 0, nameIndex := 7, descriptorIndex := 8, attributes := #[] }, { accessFlags := 9, nameIndex := 252, descriptorIndex := 53, attributes := #[] }, { accessFlags := 9, nameIndex := 90, descriptorIndex := 105, attributes := #[] }, { accessFlags := 9, nameIndex := 380, descriptorIndex := 382, attributes := #[] }, { accessFlags := 9, nameIndex := 17, descriptorIndex := 27, attributes := #[] }] 48 4 #[] #[{ accessFlags := 4120, nameIndex := 121, descriptorIndex := 122, attributes := #[] }])
  fields := #[{ name := "$assertionsDisabled", type := .boolean, accessFlags := 4120, slot := 0, constantValue := 0 }]
  methods := #[k15m0, k15m1, k15m2, k15m3, k15m4]
  instanceTypes := #[]
  staticTypes := #[.boolean]
  resolved := Array.replicate 395 none
  statics := none }

def pool16 : Array CpInfo := pool [(2, .class_ 4), (1, u "java/lang/Object"), (0, u "<init>"), (0, u "()V"), (17, .class_ 26), (1, u "jdk/internal/util/Preconditions"), (6, u "checkIndex"), (15, u "checkFromIndexSize"), (5, .class_ 56), (0, u "jdk/internal/util/Preconditions$4"), (57, .class_ 115), (0, u "jdk/internal/util/Preconditions$1"), (7, u "SIOOBE_FORMATTER"), (0, u "Ljava/util/function/BiFunction;"), (0, .class_ 126), (0, u "jdk/internal/util/Preconditions$2"), (3, u "AIOOBE_FORMATTER"), (0, .class_ 132), (0, u "jdk/internal/util/Preconditions$3"), (3, u "IOOBE_FORMATTER"), (41, u "(IILjava/util/function/BiFunction;)I"), (4, u "(IIILjava/util/function/BiFunction;)I")] 10

def k16m0 : Method := { name := "<init>", desc := "()V", sig := { parameters := [], returnType := none }, accessFlags := 1, code := none }
def k16c1 : Code := { maxStack := 3, maxLocals := 3, code := jdk_41_method_11_code, exceptionTable := #[], attributes := #[] }
def k16m1 : Method := { name := "checkIndex", desc := "(IILjava/util/function/BiFunction;)I", sig := { parameters := [.int, .int, (.object "java/util/function/BiFunction")], returnType := some .int }, accessFlags := 9, code := some k16c1 }
def k16c2 : Code := { maxStack := 4, maxLocals := 4, code := jdk_41_method_13_code, exceptionTable := #[], attributes := #[] }
def k16m2 : Method := { name := "checkFromIndexSize", desc := "(IIILjava/util/function/BiFunction;)I", sig := { parameters := [.int, .int, .int, (.object "java/util/function/BiFunction")], returnType := some .int }, accessFlags := 9, code := some k16c2 }
/-- jdk/internal/util/Preconditions -/
def k16 : Class := { plain "jdk/internal/util/Preconditions" (some 0) with
  accessFlags := 33
  interfaces := #[]
  cf := some (fileOf pool16 24 #[.nestMembers #[55, 131, 125, 114]] #[{ accessFlags := 1, nameIndex := 5, descriptorIndex := 6, attributes := #[] }, { accessFlags := 9, nameIndex := 33, descriptorIndex := 178, attributes := #[] }, { accessFlags := 9, nameIndex := 49, descriptorIndex := 183, attributes := #[] }] 33 2 #[] #[{ accessFlags := 25, nameIndex := 123, descriptorIndex := 124, attributes := #[] }, { accessFlags := 25, nameIndex := 130, descriptorIndex := 124, attributes := #[] }, { accessFlags := 25, nameIndex := 136, descriptorIndex := 124, attributes := #[] }])
  fields := #[{ name := "SIOOBE_FORMATTER", type := (.object "java/util/function/BiFunction"), accessFlags := 25, slot := 0, constantValue := 0 }, { name := "AIOOBE_FORMATTER", type := (.object "java/util/function/BiFunction"), accessFlags := 25, slot := 1, constantValue := 0 }, { name := "IOOBE_FORMATTER", type := (.object "java/util/function/BiFunction"), accessFlags := 25, slot := 2, constantValue := 0 }]
  methods := #[k16m0, k16m1, k16m2]
  instanceTypes := #[]
  staticTypes := #[(.object "java/util/function/BiFunction"), (.object "java/util/function/BiFunction"), (.object "java/util/function/BiFunction")]
  resolved := Array.replicate 194 none
  statics := some 2 }

def pool17 : Array CpInfo := pool [(9, u "<init>"), (6, .class_ 18), (1, u "java/lang/Object"), (0, u "()V"), (1, .class_ 23), (1, u "jdk/internal/util/ArraysSupport"), (0, u "LOG2_ARRAY_LONG_INDEX_SCALE"), (0, u "I"), (2, u "U"), (0, u "Ljdk/internal/misc/Unsafe;"), (8, u "BIG_ENDIAN"), (0, u "Z"), (8, u "LOG2_BYTE_BIT_SIZE"), (4, u "LOG2_ARRAY_INT_INDEX_SCALE"), (54, u "JLA"), (0, u "Ljdk/internal/access/JavaLangAccess;"), (11, u "LOG2_ARRAY_BOOLEAN_INDEX_SCALE"), (9, u "LOG2_ARRAY_BYTE_INDEX_SCALE"), (5, u "LOG2_ARRAY_CHAR_INDEX_SCALE"), (5, u "LOG2_ARRAY_SHORT_INDEX_SCALE"), (18, u "LOG2_ARRAY_FLOAT_INDEX_SCALE"), (24, u "LOG2_ARRAY_DOUBLE_INDEX_SCALE"), (6, .methodref 195 196), (0, .class_ 197), (0, .nameAndType 198 199), (0, u "java/lang/Math"), (0, u "max"), (0, u "(II)I"), (0, .integer 2147483639), (76, u "T_BOOLEAN"), (2, u "T_CHAR"), (1, u "T_FLOAT"), (1, u "T_DOUBLE"), (1, u "T_BYTE"), (1, u "T_SHORT"), (1, u "T_INT"), (1, u "T_LONG"), (1, u "SOFT_MAX_ARRAY_LENGTH"), (56, u "newLength"), (0, u "(III)I")] 25

def k17m0 : Method := { name := "<init>", desc := "()V", sig := { parameters := [], returnType := none }, accessFlags := 2, code := none }
def k17c1 : Code := { maxStack := 3, maxLocals := 4, code := jdk_48_method_27_code, exceptionTable := #[], attributes := #[] }
def k17m1 : Method := { name := "newLength", desc := "(III)I", sig := { parameters := [.int, .int, .int], returnType := some .int }, accessFlags := 9, code := some k17c1 }
/-- jdk/internal/util/ArraysSupport -/
def k17 : Class := { plain "jdk/internal/util/ArraysSupport" (some 0) with
  accessFlags := 33
  interfaces := #[]
  cf := some (fileOf pool17 21 #[] #[{ accessFlags := 2, nameIndex := 9, descriptorIndex := 19, attributes := #[] }, { accessFlags := 9, nameIndex := 351, descriptorIndex := 352, attributes := #[] }] 33 16 #[] #[{ accessFlags := 24, nameIndex := 28, descriptorIndex := 29, attributes := #[] }, { accessFlags := 26, nameIndex := 38, descriptorIndex := 39, attributes := #[] }, { accessFlags := 25, nameIndex := 121, descriptorIndex := 25, attributes := #[] }, { accessFlags := 25, nameIndex := 131, descriptorIndex := 25, attributes := #[] }, { accessFlags := 25, nameIndex := 137, descriptorIndex := 25, attributes := #[] }, { accessFlags := 25, nameIndex := 143, descriptorIndex := 25, attributes := #[] }, { accessFlags := 25, nameIndex := 53, descriptorIndex := 25, attributes := #[] }, { accessFlags := 25, nameIndex := 24, descriptorIndex := 25, attributes := #[] }, { accessFlags := 25, nameIndex := 162, descriptorIndex := 25, attributes := #[] }, { accessFlags := 25, nameIndex := 187, descriptorIndex := 25, attributes := #[] }, { accessFlags := 26, nameIndex := 48, descriptorIndex := 25, attributes := #[] }, { accessFlags := 25, nameIndex := 277, descriptorIndex := 25, attributes := #[] }, { accessFlags := 25, nameIndex := 280, descriptorIndex := 25, attributes := #[] }, { accessFlags := 25, nameIndex := 282, descriptorIndex := 25, attributes := #[] }, { accessFlags := 25, nameIndex := 284, descriptorIndex := 25, attributes := #[] }, { accessFlags := 25, nameIndex := 286, descriptorIndex := 25, attributes := #[] }, { accessFlags := 25, nameIndex := 288, descriptorIndex := 25, attributes := #[] }, { accessFlags := 25, nameIndex := 290, descriptorIndex := 25, attributes := #[] }, { accessFlags := 25, nameIndex := 292, descriptorIndex := 25, attributes := #[] }, { accessFlags := 26, nameIndex := 108, descriptorIndex := 109, attributes := #[] }, { accessFlags := 25, nameIndex := 294, descriptorIndex := 25, attributes := #[] }])
  fields := #[{ name := "U", type := (.object "jdk/internal/misc/Unsafe"), accessFlags := 24, slot := 0, constantValue := 0 }, { name := "BIG_ENDIAN", type := .boolean, accessFlags := 26, slot := 1, constantValue := 0 }, { name := "LOG2_ARRAY_BOOLEAN_INDEX_SCALE", type := .int, accessFlags := 25, slot := 2, constantValue := 0 }, { name := "LOG2_ARRAY_BYTE_INDEX_SCALE", type := .int, accessFlags := 25, slot := 3, constantValue := 0 }, { name := "LOG2_ARRAY_CHAR_INDEX_SCALE", type := .int, accessFlags := 25, slot := 4, constantValue := 0 }, { name := "LOG2_ARRAY_SHORT_INDEX_SCALE", type := .int, accessFlags := 25, slot := 5, constantValue := 0 }, { name := "LOG2_ARRAY_INT_INDEX_SCALE", type := .int, accessFlags := 25, slot := 6, constantValue := 0 }, { name := "LOG2_ARRAY_LONG_INDEX_SCALE", type := .int, accessFlags := 25, slot := 7, constantValue := 0 }, { name := "LOG2_ARRAY_FLOAT_INDEX_SCALE", type := .int, accessFlags := 25, slot := 8, constantValue := 0 }, { name := "LOG2_ARRAY_DOUBLE_INDEX_SCALE", type := .int, accessFlags := 25, slot := 9, constantValue := 0 }, { name := "LOG2_BYTE_BIT_SIZE", type := .int, accessFlags := 26, slot := 10, constantValue := 0 }, { name := "T_BOOLEAN", type := .int, accessFlags := 25, slot := 11, constantValue := 0 }, { name := "T_CHAR", type := .int, accessFlags := 25, slot := 12, constantValue := 0 }, { name := "T_FLOAT", type := .int, accessFlags := 25, slot := 13, constantValue := 0 }, { name := "T_DOUBLE", type := .int, accessFlags := 25, slot := 14, constantValue := 0 }, { name := "T_BYTE", type := .int, accessFlags := 25, slot := 15, constantValue := 0 }, { name := "T_SHORT", type := .int, accessFlags := 25, slot := 16, constantValue := 0 }, { name := "T_INT", type := .int, accessFlags := 25, slot := 17, constantValue := 0 }, { name := "T_LONG", type := .int, accessFlags := 25, slot := 18, constantValue := 0 }, { name := "JLA", type := (.object "jdk/internal/access/JavaLangAccess"), accessFlags := 26, slot := 19, constantValue := 0 }, { name := "SOFT_MAX_ARRAY_LENGTH", type := .int, accessFlags := 25, slot := 20, constantValue := 0 }]
  methods := #[k17m0, k17m1]
  instanceTypes := #[]
  staticTypes := #[(.object "jdk/internal/misc/Unsafe"), .boolean, .int, .int, .int, .int, .int, .int, .int, .int, .int, .int, .int, .int, .int, .int, .int, .int, .int, (.object "jdk/internal/access/JavaLangAccess"), .int]
  resolved := Array.replicate 378 none
  statics := none }

def pool18 : Array CpInfo := pool [(1, .class_ 2), (0, u "java/lang/Math"), (1, .class_ 6), (1, u "java/lang/Object"), (0, u "<init>"), (0, u "()V"), (89, .class_ 100), (1, u "java/lang/Math$RandomNumberGeneratorHolder"), (71, u "negativeZeroFloatBits"), (0, u "J"), (2, u "negativeZeroDoubleBits"), (21, u "max"), (2, u "min"), (43, u "$assertionsDisabled"), (0, u "Z"), (88, u "(II)I"), (2, u "twoToTheDoubleScaleDown"), (0, u "D"), (4, u "twoToTheDoubleScaleUp"), (9, u "E"), (3, u "PI"), (2, u "TAU"), (2, u "DEGREES_TO_RADIANS"), (0, u "RADIANS_TO_DEGREES")] 94

def k18m0 : Method := { name := "<init>", desc := "()V", sig := { parameters := [], returnType := none }, accessFlags := 2, code := none }
def k18c1 : Code := { maxStack := 2, maxLocals := 2, code := jdk_29_method_65_code, exceptionTable := #[], attributes := #[] }
def k18m1 : Method := { name := "max", desc := "(II)I", sig := { parameters := [.int, .int], returnType := some .int }, accessFlags := 9, code := some k18c1 }
def k18c2 : Code := { maxStack := 2, maxLocals := 2, code := jdk_29_method_69_code, exceptionTable := #[], attributes := #[] }
def k18m2 : Method := { name := "min", desc := "(II)I", sig := { parameters := [.int, .int], returnType := some .int }, accessFlags := 9, code := some k18c2 }
/-- java/lang/Math -/
def k18 : Class := { plain "java/lang/Math" (some 0) with
  accessFlags := 49
  interfaces := #[]
  cf := some (fileOf pool18 1 #[.nestMembers #[98]] #[{ accessFlags := 2, nameIndex := 7, descriptorIndex := 8, attributes := #[] }, { accessFlags := 9, nameIndex := 198, descriptorIndex := 335, attributes := #[] }, { accessFlags := 9, nameIndex := 201, descriptorIndex := 335, attributes := #[] }] 49 4 #[] #[{ accessFlags := 25, nameIndex := 354, descriptorIndex := 339, attributes := #[] }, { accessFlags := 25, nameIndex := 358, descriptorIndex := 339, attributes := #[] }, { accessFlags := 25, nameIndex := 361, descriptorIndex := 339, attributes := #[] }, { accessFlags := 26, nameIndex := 364, descriptorIndex := 339, attributes := #[] }, { accessFlags := 26, nameIndex := 365, descriptorIndex := 339, attributes := #[] }, { accessFlags := 26, nameIndex := 172, descriptorIndex := 173, attributes := #[] }, { accessFlags := 26, nameIndex := 176, descriptorIndex := 173, attributes := #[] }, { accessFlags := 8, nameIndex := 344, descriptorIndex := 339, attributes := #[] }, { accessFlags := 8, nameIndex := 338, descriptorIndex := 339, attributes := #[] }, { accessFlags := 4120, nameIndex := 245, descriptorIndex := 246, attributes := #[] }])
  fields := #[{ name := "E", type := .double, accessFlags := 25, slot := 0, constantValue := 0 }, { name := "PI", type := .double, accessFlags := 25, slot := 1, constantValue := 0 }, { name := "TAU", type := .double, accessFlags := 25, slot := 2, constantValue := 0 }, { name := "DEGREES_TO_RADIANS", type := .double, accessFlags := 26, slot := 3, constantValue := 0 }, { name := "RADIANS_TO_DEGREES", type := .double, accessFlags := 26, slot := 4, constantValue := 0 }, { name := "negativeZeroFloatBits", type := .long, accessFlags := 26, slot := 5, constantValue := 0 }, { name := "negativeZeroDoubleBits", type := .long, accessFlags := 26, slot := 6, constantValue := 0 }, { name := "twoToTheDoubleScaleUp", type := .double, accessFlags := 8, slot := 7, constantValue := 0 }, { name := "twoToTheDoubleScaleDown", type := .double, accessFlags := 8, slot := 8, constantValue := 0 }, { name := "$assertionsDisabled", type := .boolean, accessFlags := 4120, slot := 9, constantValue := 0 }]
  methods := #[k18m0, k18m1, k18m2]
  instanceTypes := #[]
  staticTypes := #[.double, .double, .double, .double, .double, .long, .long, .double, .double, .boolean]
  resolved := Array.replicate 460 none
  statics := none }

def pool19 : Array CpInfo := pool [(2, .class_ 4), (1, u "java/lang/Object"), (0, u "<init>"), (0, u "()V"), (1, .class_ 10), (1, u "java/lang/System"), (0, u "allowSecurityManager"), (0, u "I"), (16, u "cons"), (0, u "Ljava/io/Console;"), (77, .class_ 110), (1, u "java/lang/System$CallersHolder"), (43, u "initialErrStream"), (0, u "Ljava/io/PrintStream;"), (19, u "security"), (0, u "Ljava/lang/SecurityManager;"), (31, .class_ 209), (0, u "java/lang/System$1"), (7, u "props"), (0, u "Ljava/util/Properties;"), (2, u "lineSeparator"), (0, u "Ljava/lang/String;"), (96, .class_ 321), (1, u "java/lang/System$LoggerFinder"), (5, .class_ 328), (0, u "java/lang/System$Logger"), (67, u "err"), (2, u "out"), (91, u "notSupportedJnuEncoding"), (15, u "in"), (17, u "initialIn"), (0, u "Ljava/io/InputStream;"), (35, u "bootLayer"), (0, u "Ljava/lang/ModuleLayer;"), (99, .class_ 664), (0, u "java/lang/System$2"), (9, u "NEVER"), (2, u "MAYBE"), (49, u "arraycopy"), (0, u "(Ljava/lang/Object;ILjava/lang/Object;II)V"), (72, .class_ 802), (0, u "java/lang/System$Logger$Level")] 31

def k19m0 : Method := { name := "<init>", desc := "()V", sig := { parameters := [], returnType := none }, accessFlags := 2, code := none }
def k19m1 : Method := { name := "arraycopy", desc := "(Ljava/lang/Object;ILjava/lang/Object;II)V", sig := { parameters := [(.object "java/lang/Object"), .int, (.object "java/lang/Object"), .int, .int], returnType := none }, accessFlags := 265, code := none }
/-- java/lang/System -/
def k19 : Class := { plain "java/lang/System" (some 0) with
  accessFlags := 49
  interfaces := #[]
  cf := some (fileOf pool19 8 #[.nestMembers #[319, 327, 801, 108, 663, 208]] #[{ accessFlags := 2, nameIndex := 5, descriptorIndex := 6, attributes := #[] }, { accessFlags := 265, nameIndex := 727, descriptorIndex := 728, attributes := #[] }] 49 2 #[] #[{ accessFlags := 25, nameIndex := 507, descriptorIndex := 526, attributes := #[] }, { accessFlags := 25, nameIndex := 399, descriptorIndex := 155, attributes := #[] }, { accessFlags := 25, nameIndex := 396, descriptorIndex := 155, attributes := #[] }, { accessFlags := 10, nameIndex := 525, descriptorIndex := 526, attributes := #[] }, { accessFlags := 26, nameIndex := 674, descriptorIndex := 12, attributes := #[] }, { accessFlags := 26, nameIndex := 677, descriptorIndex := 12, attributes := #[] }, { accessFlags := 10, nameIndex := 11, descriptorIndex := 12, attributes := #[] }, { accessFlags := 74, nameIndex := 175, descriptorIndex := 176, attributes := #[] }, { accessFlags := 10, nameIndex := 491, descriptorIndex := 222, attributes := #[] }, { accessFlags := 74, nameIndex := 29, descriptorIndex := 30, attributes := #[] }, { accessFlags := 74, nameIndex := 154, descriptorIndex := 155, attributes := #[] }, { accessFlags := 10, nameIndex := 217, descriptorIndex := 218, attributes := #[] }, { accessFlags := 10, nameIndex := 221, descriptorIndex := 222, attributes := #[] }, { accessFlags := 8, nameIndex := 562, descriptorIndex := 563, attributes := #[] }])
  fields := #[{ name := "in", type := (.object "java/io/InputStream"), accessFlags := 25, slot := 0, constantValue := 0 }, { name := "out", type := (.object "java/io/PrintStream"), accessFlags := 25, slot := 1, constantValue := 0 }, { name := "err", type := (.object "java/io/PrintStream"), accessFlags := 25, slot := 2, constantValue := 0 }, { name := "initialIn", type := (.object "java/io/InputStream"), accessFlags := 10, slot := 3, constantValue := 0 }, { name := "NEVER", type := .int, accessFlags := 26, slot := 4, constantValue := 0 }, { name := "MAYBE", type := .int, accessFlags := 26, slot := 5, constantValue := 0 }, { name := "allowSecurityManager", type := .int, accessFlags := 10, slot := 6, constantValue := 0 }, { name := "security", type := (.object "java/lang/SecurityManager"), accessFlags := 74, slot := 7, constantValue := 0 }, { name := "notSupportedJnuEncoding", type := (.object "java/lang/String"), accessFlags := 10, slot := 8, constantValue := 0 }, { name := "cons", type := (.object "java/io/Console"), accessFlags := 74, slot := 9, constantValue := 0 }, { name := "initialErrStream", type := (.object "java/io/PrintStream"), accessFlags := 74, slot := 10, constantValue := 0 }, { name := "props", type := (.object "java/util/Properties"), accessFlags := 10, slot := 11, constantValue := 0 }, { name := "lineSeparator", type := (.object "java/lang/String"), accessFlags := 10, slot := 12, constantValue := 0 }, { name := "bootLayer", type := (.object "java/lang/ModuleLayer"), accessFlags := 8, slot := 13, constantValue := 0 }]
  methods := #[k19m0, k19m1]
  instanceTypes := #[]
  staticTypes := #[(.object "java/io/InputStream"), (.object "java/io/PrintStream"), (.object "java/io/PrintStream"), (.object "java/io/InputStream"), .int, .int, .int, (.object "java/lang/SecurityManager"), (.object "java/lang/String"), (.object "java/io/Console"), (.object "java/io/PrintStream"), (.object "java/util/Properties"), (.object "java/lang/String"), (.object "java/lang/ModuleLayer")]
  resolved := Array.replicate 834 none
  statics := none }

/-- the primitive byte -/
def k20 : Class := { plain "byte" none with kind := .primitive 'B', accessFlags := 0x411 }
/-- [B -/
def k21 : Class := { plain "[B" (some 0) with kind := .array 20 .byte, interfaces := #[13, 2], accessFlags := 1041 }

/-- the primitive char -/
def k22 : Class := { plain "char" none with kind := .primitive 'C', accessFlags := 0x411 }
/-- [C -/
def k23 : Class := { plain "[C" (some 0) with kind := .array 22 .char, interfaces := #[13, 2], accessFlags := 1041 }

/-- the primitive int -/
def k24 : Class := { plain "int" none with kind := .primitive 'I', accessFlags := 0x411 }
/-- [I -/
def k25 : Class := { plain "[I" (some 0) with kind := .array 24 .int, interfaces := #[13, 2], accessFlags := 1041 }

def heap : Heap := #[{ cls := 7, slots := #[.long 0, .int 1, .null, .int 0, .null, .int 0, .int 0], vm := .statics 7 },
  { cls := 14, slots := #[.int 0, .int 8, .int 0, .int 1], vm := .statics 14 },
  { cls := 16, slots := #[.null, .null, .null], vm := .statics 16 }]
def classes : Array Class := #[k0, k1, k2, k3, k4, k5, k6, k7, k8, k9, k10, k11, k12, k13, k14, k15, k16, k17, k18, k19, k20, k21, k22, k23, k24, k25]
def interned : List (Array UInt16 × Addr) := []
def slotsUsed : Nat := 14
def theMethod : MethodId := ⟨1, 1⟩
def args0 : Array Value := #[.int 5, .int 5, .int 5, .int 5]
def aboutOver (below : List Frame) : State where
  vm := { classes := classes, interned := interned.toArray }
  heap := heap
  slotsUsed := slotsUsed
  threads := #[{ frames := .invoking theMethod args0 :: below }]
def below0 : List Frame := [.native { method := ⟨0, 0⟩, args := #[] }]
def about1 : State := aboutOver below0
def p0 : Program := .bare "" "" ""
def e0 : Env := launch0.env 0 0 0
theorem w_frames : about1.frames = Frame.invoking theMethod args0 :: below0 := rfl
set_option maxRecDepth 65536 in
theorem w_args : argsFit about1.vm theMethod args0 = true := by decide +kernel
set_option maxRecDepth 65536 in
theorem w_heap : heapFits about1 = true := by decide +kernel
set_option maxRecDepth 65536 in
theorem w_runnable : about1.curStatus? = some .runnable := by decide +kernel
set_option maxRecDepth 65536 in
theorem w_alone : about1.alone = true := by decide +kernel
set_option maxRecDepth 65536 in
theorem w_named : about1.methodNamed? x = some theMethod := by decide +kernel
set_option maxRecDepth 65536 in
theorem w_hears : about1.hears theMethod below0 = true := by decide +kernel
set_option maxRecDepth 65536 in
theorem w_ripe : about1.ripe theMethod args0 below0 = true := by decide +kernel
theorem w_running : about1.status = .running := rfl
set_option maxRecDepth 65536 in
theorem w_room : about1.hasRoom e0.platform room_1 = true :=
  launch0.hasRoom_least _ room_1 (by decide +kernel) (by decide +kernel) (by decide +kernel) (by decide +kernel) (by decide +kernel) (by decide +kernel)
theorem allAtoms_all (ts : List Jvm.Cond) (a : Array Jvm.Value) (st : Jvm.State) : (allAtoms ts).before a st = ts.all (fun c => c.before a st) := by
  induction ts with
  | nil => rfl
  | cons c t ih =>
    show (Jvm.Cond.and c (allAtoms t)).before a st = _
    rw [Jvm.Cond.before_and, ih, List.all_cons]
def words1 : List Jvm.Cond := Jvm.Cond.code x code maxLocals ret :: tables_1
/-- a 'code' word, met by the world's own term for the bytes: nothing is compared byte by byte -/
theorem code_word {y : MethodName} {bytes : ByteArray} {mx : Nat} {rt : Option FieldType} {a : Array Value} {s : State} {m : MethodId} {meth : Method} {c : Code} (h1 : s.methodNamed? y = some m) (h2 : s.vm.method? m = some meth) (h3 : meth.code = some c) (h4 : c.code = bytes)
    (h5 : (c.maxLocals == mx && c.exceptionTable.isEmpty && decide (c.maxStack ≤ mostOperands) && decide (meth.sig.returnType = rt) && !meth.locks && decide (parseMethodDescriptor y.desc = some meth.sig)) = true) : (Jvm.Cond.code y bytes mx rt).before a s = true := by
  simp only [Bool.and_eq_true, beq_iff_eq, Bool.not_eq_true', decide_eq_true_eq] at h5
  obtain ⟨⟨⟨⟨⟨g1, g2⟩, g3⟩, g4⟩, g5⟩, g6⟩ := h5
  simp [Cond.before, Cond.holds, Cond.value, h1, h2, h3, h4, g1, g2, g3, g4, g5, g6]
def isCode : Jvm.Cond → Bool
  | .code _ _ _ _ => true
  | _ => false
theorem all_split {L : List Jvm.Cond} {P : Jvm.Cond → Bool} (h1 : L.all (fun c => isCode c || P c) = true) (h2 : ∀ c ∈ L.filter isCode, P c = true) : L.all P = true := by
  refine List.all_eq_true.mpr fun c hc => ?_
  have h := List.all_eq_true.mp h1 c hc
  rcases Bool.eq_false_or_eq_true (isCode c) with hi | hi
  · exact h2 c (List.mem_filter.mpr ⟨hc, hi⟩)
  · simpa [hi] using h
set_option maxRecDepth 65536 in
theorem w_c0 : (Jvm.Cond.code x code maxLocals ret).before args0 about1 = true := code_word (m := ⟨1, 1⟩) (meth := k1m1) (c := k1c1) (by decide +kernel) rfl rfl rfl (by decide +kernel)
set_option maxRecDepth 65536 in
theorem w_c1 : (Jvm.Cond.code ({ cls := "com/example/tallyman/tallyman/HtmlTextPinLaw", name := "draw", desc := "(I)C" } : Jvm.MethodName) method_4_code (3 : Nat) (Option.some Jvm.ClassFile.FieldType.char)).before args0 about1 = true := code_word (m := ⟨1, 3⟩) (meth := k1m3) (c := k1c3) (by decide +kernel) rfl rfl rfl (by decide +kernel)
set_option maxRecDepth 65536 in
theorem w_c2 : (Jvm.Cond.code ({ cls := "java/lang/String", name := "<init>", desc := "([C)V" } : Jvm.MethodName) jdk_42_method_3_code (2 : Nat) (Option.none : Option Jvm.ClassFile.FieldType)).before args0 about1 = true := code_word (m := ⟨7, 1⟩) (meth := k7m1) (c := k7c1) (by decide +kernel) rfl rfl rfl (by decide +kernel)
set_option maxRecDepth 65536 in
theorem w_c3 : (Jvm.Cond.code ({ cls := "java/lang/String", name := "<init>", desc := "([CIILjava/lang/Void;)V" } : Jvm.MethodName) jdk_42_method_149_code (6 : Nat) (Option.none : Option Jvm.ClassFile.FieldType)).before args0 about1 = true := code_word (m := ⟨7, 7⟩) (meth := k7m7) (c := k7c7) (by decide +kernel) rfl rfl rfl (by decide +kernel)
set_option maxRecDepth 65536 in
theorem w_c4 : (Jvm.Cond.code ({ cls := "java/lang/Object", name := "<init>", desc := "()V" } : Jvm.MethodName) object_method_1_code (1 : Nat) (Option.none : Option Jvm.ClassFile.FieldType)).before args0 about1 = true := code_word (m := ⟨0, 0⟩) (meth := k0m0) (c := k0c0) (by decide +kernel) rfl rfl rfl (by decide +kernel)
set_option maxRecDepth 65536 in
theorem w_c5 : (Jvm.Cond.code ({ cls := "com/example/tallyman/tallyman/Html", name := "text", desc := "(Ljava/lang/String;)Ljava/lang/String;" } : Jvm.MethodName) prog_10_method_4_code (4 : Nat) (Option.some (Jvm.ClassFile.FieldType.object "java/lang/String"))).before args0 about1 = true := code_word (m := ⟨8, 1⟩) (meth := k8m1) (c := k8c1) (by decide +kernel) rfl rfl rfl (by decide +kernel)
set_option maxRecDepth 65536 in
theorem w_c6 : (Jvm.Cond.code ({ cls := "java/lang/String", name := "length", desc := "()I" } : Jvm.MethodName) jdk_42_method_54_code (1 : Nat) (Option.some Jvm.ClassFile.FieldType.int)).before args0 about1 = true := code_word (m := ⟨7, 3⟩) (meth := k7m3) (c := k7c3) (by decide +kernel) rfl rfl rfl (by decide +kernel)
set_option maxRecDepth 65536 in
theorem w_c7 : (Jvm.Cond.code ({ cls := "java/lang/String", name := "coder", desc := "()B" } : Jvm.MethodName) jdk_42_method_152_code (1 : Nat) (Option.some Jvm.ClassFile.FieldType.byte)).before args0 about1 = true := code_word (m := ⟨7, 10⟩) (meth := k7m10) (c := k7c10) (by decide +kernel) rfl rfl rfl (by decide +kernel)
set_option maxRecDepth 65536 in
theorem w_c8 : (Jvm.Cond.code ({ cls := "java/lang/StringBuilder", name := "<init>", desc := "(I)V" } : Jvm.MethodName) jdk_67_method_2_code (2 : Nat) (Option.none : Option Jvm.ClassFile.FieldType)).before args0 about1 = true := code_word (m := ⟨11, 1⟩) (meth := k11m1) (c := k11c1) (by decide +kernel) rfl rfl rfl (by decide +kernel)
set_option maxRecDepth 65536 in
theorem w_c9 : (Jvm.Cond.code ({ cls := "java/lang/AbstractStringBuilder", name := "<init>", desc := "(I)V" } : Jvm.MethodName) jdk_68_method_2_code (2 : Nat) (Option.none : Option Jvm.ClassFile.FieldType)).before args0 about1 = true := code_word (m := ⟨10, 1⟩) (meth := k10m1) (c := k10c1) (by decide +kernel) rfl rfl rfl (by decide +kernel)
set_option maxRecDepth 65536 in
theorem w_c10 : (Jvm.Cond.code ({ cls := "java/lang/StringBuilder", name := "toString", desc := "()Ljava/lang/String;" } : Jvm.MethodName) jdk_67_method_42_code (1 : Nat) (Option.some (Jvm.ClassFile.FieldType.object "java/lang/String"))).before args0 about1 = true := code_word (m := ⟨11, 4⟩) (meth := k11m4) (c := k11c4) (by decide +kernel) rfl rfl rfl (by decide +kernel)
set_option maxRecDepth 65536 in
theorem w_c11 : (Jvm.Cond.code ({ cls := "java/lang/String", name := "<init>", desc := "(Ljava/lang/StringBuilder;)V" } : Jvm.MethodName) jdk_42_method_53_code (2 : Nat) (Option.none : Option Jvm.ClassFile.FieldType)).before args0 about1 = true := code_word (m := ⟨7, 2⟩) (meth := k7m2) (c := k7c2) (by decide +kernel) rfl rfl rfl (by decide +kernel)
set_option maxRecDepth 65536 in
theorem w_c12 : (Jvm.Cond.code ({ cls := "java/lang/String", name := "<init>", desc := "(Ljava/lang/AbstractStringBuilder;Ljava/lang/Void;)V" } : Jvm.MethodName) jdk_42_method_150_code (5 : Nat) (Option.none : Option Jvm.ClassFile.FieldType)).before args0 about1 = true := code_word (m := ⟨7, 8⟩) (meth := k7m8) (c := k7c8) (by decide +kernel) rfl rfl rfl (by decide +kernel)
set_option maxRecDepth 65536 in
theorem w_c13 : (Jvm.Cond.code ({ cls := "java/lang/AbstractStringBuilder", name := "getValue", desc := "()[B" } : Jvm.MethodName) jdk_68_method_64_code (1 : Nat) (Option.some (Jvm.ClassFile.FieldType.array Jvm.ClassFile.FieldType.byte))).before args0 about1 = true := code_word (m := ⟨10, 8⟩) (meth := k10m8) (c := k10c8) (by decide +kernel) rfl rfl rfl (by decide +kernel)
set_option maxRecDepth 65536 in
theorem w_c14 : (Jvm.Cond.code ({ cls := "java/lang/StringBuilder", name := "length", desc := "()I" } : Jvm.MethodName) jdk_67_method_93_code (1 : Nat) (Option.some Jvm.ClassFile.FieldType.int)).before args0 about1 = true := code_word (m := ⟨11, 5⟩) (meth := k11m5) (c := k11c5) (by decide +kernel) rfl rfl rfl (by decide +kernel)
set_option maxRecDepth 65536 in
theorem w_c15 : (Jvm.Cond.code ({ cls := "java/lang/AbstractStringBuilder", name := "length", desc := "()I" } : Jvm.MethodName) jdk_68_method_6_code (1 : Nat) (Option.some Jvm.ClassFile.FieldType.int)).before args0 about1 = true := code_word (m := ⟨10, 2⟩) (meth := k10m2) (c := k10c2) (by decide +kernel) rfl rfl rfl (by decide +kernel)
set_option maxRecDepth 65536 in
theorem w_c16 : (Jvm.Cond.code ({ cls := "java/lang/AbstractStringBuilder", name := "isLatin1", desc := "()Z" } : Jvm.MethodName) jdk_68_method_68_code (1 : Nat) (Option.some Jvm.ClassFile.FieldType.boolean)).before args0 about1 = true := code_word (m := ⟨10, 9⟩) (meth := k10m9) (c := k10c9) (by decide +kernel) rfl rfl rfl (by decide +kernel)
set_option maxRecDepth 65536 in
theorem w_c17 : (Jvm.Cond.code ({ cls := "java/util/Arrays", name := "copyOfRange", desc := "([BII)[B" } : Jvm.MethodName) jdk_65_method_132_code (3 : Nat) (Option.some (Jvm.ClassFile.FieldType.array Jvm.ClassFile.FieldType.byte))).before args0 about1 = true := code_word (m := ⟨12, 3⟩) (meth := k12m3) (c := k12c3) (by decide +kernel) rfl rfl rfl (by decide +kernel)
set_option maxRecDepth 65536 in
theorem w_c18 : (Jvm.Cond.code ({ cls := "com/example/tallyman/tallyman/HtmlTextPinLaw", name := "same", desc := "(Ljava/lang/String;[CII)Z" } : Jvm.MethodName) method_3_code (4 : Nat) (Option.some Jvm.ClassFile.FieldType.boolean)).before args0 about1 = true := code_word (m := ⟨1, 2⟩) (meth := k1m2) (c := k1c2) (by decide +kernel) rfl rfl rfl (by decide +kernel)
set_option maxRecDepth 65536 in
theorem w_c19 : (Jvm.Cond.code ({ cls := "java/lang/StringUTF16", name := "compress", desc := "([CII)[B" } : Jvm.MethodName) jdk_52_method_16_code (6 : Nat) (Option.some (Jvm.ClassFile.FieldType.array Jvm.ClassFile.FieldType.byte))).before args0 about1 = true := code_word (m := ⟨14, 8⟩) (meth := k14m8) (c := k14c8) (by decide +kernel) rfl rfl rfl (by decide +kernel)
set_option maxRecDepth 65536 in
theorem w_c20 : (Jvm.Cond.code ({ cls := "java/lang/StringUTF16", name := "compress", desc := "([CI[BII)I" } : Jvm.MethodName) jdk_52_method_21_code (7 : Nat) (Option.some Jvm.ClassFile.FieldType.int)).before args0 about1 = true := code_word (m := ⟨14, 9⟩) (meth := k14m9) (c := k14c9) (by decide +kernel) rfl rfl rfl (by decide +kernel)
set_option maxRecDepth 65536 in
theorem w_c21 : (Jvm.Cond.code ({ cls := "java/lang/StringUTF16", name := "coderFromArrayLen", desc := "([BI)B" } : Jvm.MethodName) jdk_52_method_15_code (2 : Nat) (Option.some Jvm.ClassFile.FieldType.byte)).before args0 about1 = true := code_word (m := ⟨14, 7⟩) (meth := k14m7) (c := k14c7) (by decide +kernel) rfl rfl rfl (by decide +kernel)
set_option maxRecDepth 65536 in
theorem w_c22 : (Jvm.Cond.code ({ cls := "com/example/tallyman/tallyman/HtmlTextPinLaw", name := "put", desc := "([CIC)I" } : Jvm.MethodName) method_5_code (3 : Nat) (Option.some Jvm.ClassFile.FieldType.int)).before args0 about1 = true := code_word (m := ⟨1, 4⟩) (meth := k1m4) (c := k1c4) (by decide +kernel) rfl rfl rfl (by decide +kernel)
set_option maxRecDepth 65536 in
theorem w_c23 : (Jvm.Cond.code ({ cls := "java/lang/String", name := "charAt", desc := "(I)C" } : Jvm.MethodName) jdk_42_method_56_code (2 : Nat) (Option.some Jvm.ClassFile.FieldType.char)).before args0 about1 = true := code_word (m := ⟨7, 4⟩) (meth := k7m4) (c := k7c4) (by decide +kernel) rfl rfl rfl (by decide +kernel)
set_option maxRecDepth 65536 in
theorem w_c24 : (Jvm.Cond.code ({ cls := "java/lang/String", name := "isLatin1", desc := "()Z" } : Jvm.MethodName) jdk_42_method_154_code (1 : Nat) (Option.some Jvm.ClassFile.FieldType.boolean)).before args0 about1 = true := code_word (m := ⟨7, 11⟩) (meth := k7m11) (c := k7c11) (by decide +kernel) rfl rfl rfl (by decide +kernel)
set_option maxRecDepth 65536 in
theorem w_c25 : (Jvm.Cond.code ({ cls := "java/lang/StringLatin1", name := "charAt", desc := "([BI)C" } : Jvm.MethodName) jdk_43_method_2_code (2 : Nat) (Option.some Jvm.ClassFile.FieldType.char)).before args0 about1 = true := code_word (m := ⟨15, 1⟩) (meth := k15m1) (c := k15c1) (by decide +kernel) rfl rfl rfl (by decide +kernel)
set_option maxRecDepth 65536 in
theorem w_c26 : (Jvm.Cond.code ({ cls := "java/lang/String", name := "checkIndex", desc := "(II)V" } : Jvm.MethodName) jdk_42_method_155_code (2 : Nat) (Option.none : Option Jvm.ClassFile.FieldType)).before args0 about1 = true := code_word (m := ⟨7, 12⟩) (meth := k7m12) (c := k7c12) (by decide +kernel) rfl rfl rfl (by decide +kernel)
set_option maxRecDepth 65536 in
theorem w_c27 : (Jvm.Cond.code ({ cls := "jdk/internal/util/Preconditions", name := "checkIndex", desc := "(IILjava/util/function/BiFunction;)I" } : Jvm.MethodName) jdk_41_method_11_code (3 : Nat) (Option.some Jvm.ClassFile.FieldType.int)).before args0 about1 = true := code_word (m := ⟨16, 1⟩) (meth := k16m1) (c := k16c1) (by decide +kernel) rfl rfl rfl (by decide +kernel)
set_option maxRecDepth 65536 in
theorem w_c28 : (Jvm.Cond.code ({ cls := "java/lang/StringBuilder", name := "append", desc := "(C)Ljava/lang/StringBuilder;" } : Jvm.MethodName) jdk_67_method_14_code (2 : Nat) (Option.some (Jvm.ClassFile.FieldType.object "java/lang/StringBuilder"))).before args0 about1 = true := code_word (m := ⟨11, 3⟩) (meth := k11m3) (c := k11c3) (by decide +kernel) rfl rfl rfl (by decide +kernel)
set_option maxRecDepth 65536 in
theorem w_c29 : (Jvm.Cond.code ({ cls := "java/lang/AbstractStringBuilder", name := "append", desc := "(C)Ljava/lang/AbstractStringBuilder;" } : Jvm.MethodName) jdk_68_method_31_code (2 : Nat) (Option.some (Jvm.ClassFile.FieldType.object "java/lang/AbstractStringBuilder"))).before args0 about1 = true := code_word (m := ⟨10, 7⟩) (meth := k10m7) (c := k10c7) (by decide +kernel) rfl rfl rfl (by decide +kernel)
set_option maxRecDepth 65536 in
theorem w_c30 : (Jvm.Cond.code ({ cls := "java/lang/AbstractStringBuilder", name := "ensureCapacityInternal", desc := "(I)V" } : Jvm.MethodName) jdk_68_method_9_code (3 : Nat) (Option.none : Option Jvm.ClassFile.FieldType)).before args0 about1 = true := code_word (m := ⟨10, 3⟩) (meth := k10m3) (c := k10c3) (by decide +kernel) rfl rfl rfl (by decide +kernel)
set_option maxRecDepth 65536 in
theorem w_c31 : (Jvm.Cond.code ({ cls := "java/lang/StringLatin1", name := "canEncode", desc := "(C)Z" } : Jvm.MethodName) jdk_43_method_3_code (1 : Nat) (Option.some Jvm.ClassFile.FieldType.boolean)).before args0 about1 = true := code_word (m := ⟨15, 2⟩) (meth := k15m2) (c := k15c2) (by decide +kernel) rfl rfl rfl (by decide +kernel)
set_option maxRecDepth 65536 in
theorem w_c32 : (Jvm.Cond.code ({ cls := "java/lang/StringBuilder", name := "append", desc := "(Ljava/lang/String;)Ljava/lang/StringBuilder;" } : Jvm.MethodName) jdk_67_method_7_code (2 : Nat) (Option.some (Jvm.ClassFile.FieldType.object "java/lang/StringBuilder"))).before args0 about1 = true := code_word (m := ⟨11, 2⟩) (meth := k11m2) (c := k11c2) (by decide +kernel) rfl rfl rfl (by decide +kernel)
set_option maxRecDepth 65536 in
theorem w_c33 : (Jvm.Cond.code ({ cls := "java/lang/AbstractStringBuilder", name := "append", desc := "(Ljava/lang/String;)Ljava/lang/AbstractStringBuilder;" } : Jvm.MethodName) jdk_68_method_22_code (3 : Nat) (Option.some (Jvm.ClassFile.FieldType.object "java/lang/AbstractStringBuilder"))).before args0 about1 = true := code_word (m := ⟨10, 6⟩) (meth := k10m6) (c := k10c6) (by decide +kernel) rfl rfl rfl (by decide +kernel)
set_option maxRecDepth 65536 in
theorem w_c34 : (Jvm.Cond.code ({ cls := "java/lang/AbstractStringBuilder", name := "newCapacity", desc := "(I)I" } : Jvm.MethodName) jdk_68_method_10_code (6 : Nat) (Option.some Jvm.ClassFile.FieldType.int)).before args0 about1 = true := code_word (m := ⟨10, 4⟩) (meth := k10m4) (c := k10c4) (by decide +kernel) rfl rfl rfl (by decide +kernel)
set_option maxRecDepth 65536 in
theorem w_c35 : (Jvm.Cond.code ({ cls := "jdk/internal/util/ArraysSupport", name := "newLength", desc := "(III)I" } : Jvm.MethodName) jdk_48_method_27_code (4 : Nat) (Option.some Jvm.ClassFile.FieldType.int)).before args0 about1 = true := code_word (m := ⟨17, 1⟩) (meth := k17m1) (c := k17c1) (by decide +kernel) rfl rfl rfl (by decide +kernel)
set_option maxRecDepth 65536 in
theorem w_c36 : (Jvm.Cond.code ({ cls := "java/lang/Math", name := "max", desc := "(II)I" } : Jvm.MethodName) jdk_29_method_65_code (2 : Nat) (Option.some Jvm.ClassFile.FieldType.int)).before args0 about1 = true := code_word (m := ⟨18, 1⟩) (meth := k18m1) (c := k18c1) (by decide +kernel) rfl rfl rfl (by decide +kernel)
set_option maxRecDepth 65536 in
theorem w_c37 : (Jvm.Cond.code ({ cls := "java/util/Arrays", name := "copyOf", desc := "([BI)[B" } : Jvm.MethodName) jdk_65_method_121_code (3 : Nat) (Option.some (Jvm.ClassFile.FieldType.array Jvm.ClassFile.FieldType.byte))).before args0 about1 = true := code_word (m := ⟨12, 1⟩) (meth := k12m1) (c := k12c1) (by decide +kernel) rfl rfl rfl (by decide +kernel)
set_option maxRecDepth 65536 in
theorem w_c38 : (Jvm.Cond.code ({ cls := "java/lang/Math", name := "min", desc := "(II)I" } : Jvm.MethodName) jdk_29_method_69_code (2 : Nat) (Option.some Jvm.ClassFile.FieldType.int)).before args0 about1 = true := code_word (m := ⟨18, 2⟩) (meth := k18m2) (c := k18c2) (by decide +kernel) rfl rfl rfl (by decide +kernel)
set_option maxRecDepth 65536 in
theorem w_c39 : (Jvm.Cond.code ({ cls := "java/lang/AbstractStringBuilder", name := "putStringAt", desc := "(ILjava/lang/String;)V" } : Jvm.MethodName) jdk_68_method_73_code (3 : Nat) (Option.none : Option Jvm.ClassFile.FieldType)).before args0 about1 = true := code_word (m := ⟨10, 11⟩) (meth := k10m11) (c := k10c11) (by decide +kernel) rfl rfl rfl (by decide +kernel)
set_option maxRecDepth 65536 in
theorem w_c40 : (Jvm.Cond.code ({ cls := "java/lang/AbstractStringBuilder", name := "inflateIfNeededFor", desc := "(Ljava/lang/String;)V" } : Jvm.MethodName) jdk_68_method_71_code (2 : Nat) (Option.none : Option Jvm.ClassFile.FieldType)).before args0 about1 = true := code_word (m := ⟨10, 10⟩) (meth := k10m10) (c := k10c10) (by decide +kernel) rfl rfl rfl (by decide +kernel)
set_option maxRecDepth 65536 in
theorem w_c41 : (Jvm.Cond.code ({ cls := "java/lang/String", name := "getBytes", desc := "([BIB)V" } : Jvm.MethodName) jdk_42_method_147_code (4 : Nat) (Option.none : Option Jvm.ClassFile.FieldType)).before args0 about1 = true := code_word (m := ⟨7, 6⟩) (meth := k7m6) (c := k7c6) (by decide +kernel) rfl rfl rfl (by decide +kernel)
set_option maxRecDepth 65536 in
theorem w_c42 : (Jvm.Cond.code ({ cls := "java/util/Arrays", name := "copyOfRangeByte", desc := "([BII)[B" } : Jvm.MethodName) jdk_65_method_133_code (5 : Nat) (Option.some (Jvm.ClassFile.FieldType.array Jvm.ClassFile.FieldType.byte))).before args0 about1 = true := code_word (m := ⟨12, 4⟩) (meth := k12m4) (c := k12c4) (by decide +kernel) rfl rfl rfl (by decide +kernel)
set_option maxRecDepth 65536 in
theorem w_c43 : (Jvm.Cond.code ({ cls := "java/util/Arrays", name := "checkLength", desc := "(II)V" } : Jvm.MethodName) jdk_65_method_131_code (2 : Nat) (Option.none : Option Jvm.ClassFile.FieldType)).before args0 about1 = true := code_word (m := ⟨12, 2⟩) (meth := k12m2) (c := k12c2) (by decide +kernel) rfl rfl rfl (by decide +kernel)
set_option maxRecDepth 65536 in
theorem w_c44 : (Jvm.Cond.code ({ cls := "java/lang/StringUTF16", name := "toBytes", desc := "([CII)[B" } : Jvm.MethodName) jdk_52_method_14_code (5 : Nat) (Option.some (Jvm.ClassFile.FieldType.array Jvm.ClassFile.FieldType.byte))).before args0 about1 = true := code_word (m := ⟨14, 6⟩) (meth := k14m6) (c := k14c6) (by decide +kernel) rfl rfl rfl (by decide +kernel)
set_option maxRecDepth 65536 in
theorem w_c45 : (Jvm.Cond.code ({ cls := "java/lang/StringUTF16", name := "newBytesFor", desc := "(I)[B" } : Jvm.MethodName) jdk_52_method_2_code (1 : Nat) (Option.some (Jvm.ClassFile.FieldType.array Jvm.ClassFile.FieldType.byte))).before args0 about1 = true := code_word (m := ⟨14, 1⟩) (meth := k14m1) (c := k14c1) (by decide +kernel) rfl rfl rfl (by decide +kernel)
set_option maxRecDepth 65536 in
theorem w_c46 : (Jvm.Cond.code ({ cls := "java/lang/StringUTF16", name := "newBytesLength", desc := "(I)I" } : Jvm.MethodName) jdk_52_method_3_code (1 : Nat) (Option.some Jvm.ClassFile.FieldType.int)).before args0 about1 = true := code_word (m := ⟨14, 2⟩) (meth := k14m2) (c := k14c2) (by decide +kernel) rfl rfl rfl (by decide +kernel)
set_option maxRecDepth 65536 in
theorem w_c47 : (Jvm.Cond.code ({ cls := "java/lang/StringUTF16", name := "putChar", desc := "([BII)V" } : Jvm.MethodName) jdk_52_method_4_code (3 : Nat) (Option.none : Option Jvm.ClassFile.FieldType)).before args0 about1 = true := code_word (m := ⟨14, 3⟩) (meth := k14m3) (c := k14c3) (by decide +kernel) rfl rfl rfl (by decide +kernel)
set_option maxRecDepth 65536 in
theorem w_c48 : (Jvm.Cond.code ({ cls := "java/lang/StringUTF16", name := "getChar", desc := "([BI)C" } : Jvm.MethodName) jdk_52_method_5_code (2 : Nat) (Option.some Jvm.ClassFile.FieldType.char)).before args0 about1 = true := code_word (m := ⟨14, 4⟩) (meth := k14m4) (c := k14c4) (by decide +kernel) rfl rfl rfl (by decide +kernel)
set_option maxRecDepth 65536 in
theorem w_c49 : (Jvm.Cond.code ({ cls := "java/lang/StringUTF16", name := "charAt", desc := "([BI)C" } : Jvm.MethodName) jdk_52_method_83_code (2 : Nat) (Option.some Jvm.ClassFile.FieldType.char)).before args0 about1 = true := code_word (m := ⟨14, 12⟩) (meth := k14m12) (c := k14c12) (by decide +kernel) rfl rfl rfl (by decide +kernel)
set_option maxRecDepth 65536 in
theorem w_c50 : (Jvm.Cond.code ({ cls := "java/lang/StringUTF16", name := "checkIndex", desc := "(I[B)V" } : Jvm.MethodName) jdk_52_method_91_code (2 : Nat) (Option.none : Option Jvm.ClassFile.FieldType)).before args0 about1 = true := code_word (m := ⟨14, 14⟩) (meth := k14m14) (c := k14c14) (by decide +kernel) rfl rfl rfl (by decide +kernel)
set_option maxRecDepth 65536 in
theorem w_c51 : (Jvm.Cond.code ({ cls := "java/lang/StringUTF16", name := "length", desc := "([B)I" } : Jvm.MethodName) jdk_52_method_6_code (1 : Nat) (Option.some Jvm.ClassFile.FieldType.int)).before args0 about1 = true := code_word (m := ⟨14, 5⟩) (meth := k14m5) (c := k14c5) (by decide +kernel) rfl rfl rfl (by decide +kernel)
set_option maxRecDepth 65536 in
theorem w_c52 : (Jvm.Cond.code ({ cls := "java/lang/AbstractStringBuilder", name := "inflate", desc := "()V" } : Jvm.MethodName) jdk_68_method_11_code (2 : Nat) (Option.none : Option Jvm.ClassFile.FieldType)).before args0 about1 = true := code_word (m := ⟨10, 5⟩) (meth := k10m5) (c := k10c5) (by decide +kernel) rfl rfl rfl (by decide +kernel)
set_option maxRecDepth 65536 in
theorem w_c53 : (Jvm.Cond.code ({ cls := "java/lang/StringLatin1", name := "inflate", desc := "([BI[BII)V" } : Jvm.MethodName) jdk_43_method_50_code (5 : Nat) (Option.none : Option Jvm.ClassFile.FieldType)).before args0 about1 = true := code_word (m := ⟨15, 4⟩) (meth := k15m4) (c := k15c4) (by decide +kernel) rfl rfl rfl (by decide +kernel)
set_option maxRecDepth 65536 in
theorem w_c54 : (Jvm.Cond.code ({ cls := "java/lang/StringUTF16", name := "inflate", desc := "([BI[BII)V" } : Jvm.MethodName) jdk_52_method_86_code (6 : Nat) (Option.none : Option Jvm.ClassFile.FieldType)).before args0 about1 = true := code_word (m := ⟨14, 13⟩) (meth := k14m13) (c := k14c13) (by decide +kernel) rfl rfl rfl (by decide +kernel)
set_option maxRecDepth 65536 in
theorem w_c55 : (Jvm.Cond.code ({ cls := "java/lang/StringUTF16", name := "checkBoundsOffCount", desc := "(II[B)V" } : Jvm.MethodName) jdk_52_method_94_code (3 : Nat) (Option.none : Option Jvm.ClassFile.FieldType)).before args0 about1 = true := code_word (m := ⟨14, 15⟩) (meth := k14m15) (c := k14c15) (by decide +kernel) rfl rfl rfl (by decide +kernel)
set_option maxRecDepth 65536 in
theorem w_c56 : (Jvm.Cond.code ({ cls := "java/lang/String", name := "checkBoundsOffCount", desc := "(III)I" } : Jvm.MethodName) jdk_42_method_157_code (3 : Nat) (Option.some Jvm.ClassFile.FieldType.int)).before args0 about1 = true := code_word (m := ⟨7, 13⟩) (meth := k7m13) (c := k7c13) (by decide +kernel) rfl rfl rfl (by decide +kernel)
set_option maxRecDepth 65536 in
theorem w_c57 : (Jvm.Cond.code ({ cls := "jdk/internal/util/Preconditions", name := "checkFromIndexSize", desc := "(IIILjava/util/function/BiFunction;)I" } : Jvm.MethodName) jdk_41_method_13_code (4 : Nat) (Option.some Jvm.ClassFile.FieldType.int)).before args0 about1 = true := code_word (m := ⟨16, 2⟩) (meth := k16m2) (c := k16c2) (by decide +kernel) rfl rfl rfl (by decide +kernel)
set_option maxRecDepth 65536 in
theorem w_c58 : (Jvm.Cond.code ({ cls := "java/lang/StringUTF16", name := "putCharSB", desc := "([BII)V" } : Jvm.MethodName) jdk_52_method_71_code (3 : Nat) (Option.none : Option Jvm.ClassFile.FieldType)).before args0 about1 = true := code_word (m := ⟨14, 11⟩) (meth := k14m11) (c := k14c11) (by decide +kernel) rfl rfl rfl (by decide +kernel)
set_option maxRecDepth 65536 in
theorem w_c59 : (Jvm.Cond.code ({ cls := "java/lang/String", name := "valueOf", desc := "(C)Ljava/lang/String;" } : Jvm.MethodName) jdk_42_method_139_code (1 : Nat) (Option.some (Jvm.ClassFile.FieldType.object "java/lang/String"))).before args0 about1 = true := code_word (m := ⟨7, 5⟩) (meth := k7m5) (c := k7c5) (by decide +kernel) rfl rfl rfl (by decide +kernel)
set_option maxRecDepth 65536 in
theorem w_c60 : (Jvm.Cond.code ({ cls := "java/lang/StringLatin1", name := "toBytes", desc := "(C)[B" } : Jvm.MethodName) jdk_43_method_46_code (1 : Nat) (Option.some (Jvm.ClassFile.FieldType.array Jvm.ClassFile.FieldType.byte))).before args0 about1 = true := code_word (m := ⟨15, 3⟩) (meth := k15m3) (c := k15c3) (by decide +kernel) rfl rfl rfl (by decide +kernel)
set_option maxRecDepth 65536 in
theorem w_c61 : (Jvm.Cond.code ({ cls := "java/lang/String", name := "<init>", desc := "([BB)V" } : Jvm.MethodName) jdk_42_method_151_code (3 : Nat) (Option.none : Option Jvm.ClassFile.FieldType)).before args0 about1 = true := code_word (m := ⟨7, 9⟩) (meth := k7m9) (c := k7c9) (by decide +kernel) rfl rfl rfl (by decide +kernel)
set_option maxRecDepth 65536 in
theorem w_c62 : (Jvm.Cond.code ({ cls := "java/lang/StringUTF16", name := "toBytes", desc := "(C)[B" } : Jvm.MethodName) jdk_52_method_24_code (2 : Nat) (Option.some (Jvm.ClassFile.FieldType.array Jvm.ClassFile.FieldType.byte))).before args0 about1 = true := code_word (m := ⟨14, 10⟩) (meth := k14m10) (c := k14c10) (by decide +kernel) rfl rfl rfl (by decide +kernel)
def codes1 : List Jvm.Cond := [Jvm.Cond.code x code maxLocals ret, Jvm.Cond.code ({ cls := "com/example/tallyman/tallyman/HtmlTextPinLaw", name := "draw", desc := "(I)C" } : Jvm.MethodName) method_4_code (3 : Nat) (Option.some Jvm.ClassFile.FieldType.char), Jvm.Cond.code ({ cls := "java/lang/String", name := "<init>", desc := "([C)V" } : Jvm.MethodName) jdk_42_method_3_code (2 : Nat) (Option.none : Option Jvm.ClassFile.FieldType), Jvm.Cond.code ({ cls := "java/lang/String", name := "<init>", desc := "([CIILjava/lang/Void;)V" } : Jvm.MethodName) jdk_42_method_149_code (6 : Nat) (Option.none : Option Jvm.ClassFile.FieldType), Jvm.Cond.code ({ cls := "java/lang/Object", name := "<init>", desc := "()V" } : Jvm.MethodName) object_method_1_code (1 : Nat) (Option.none : Option Jvm.ClassFile.FieldType), Jvm.Cond.code ({ cls := "com/example/tallyman/tallyman/Html", name := "text", desc := "(Ljava/lang/String;)Ljava/lang/String;" } : Jvm.MethodName) prog_10_method_4_code (4 : Nat) (Option.some (Jvm.ClassFile.FieldType.object "java/lang/String")), Jvm.Cond.code ({ cls := "java/lang/String", name := "length", desc := "()I" } : Jvm.MethodName) jdk_42_method_54_code (1 : Nat) (Option.some Jvm.ClassFile.FieldType.int), Jvm.Cond.code ({ cls := "java/lang/String", name := "coder", desc := "()B" } : Jvm.MethodName) jdk_42_method_152_code (1 : Nat) (Option.some Jvm.ClassFile.FieldType.byte), Jvm.Cond.code ({ cls := "java/lang/StringBuilder", name := "<init>", desc := "(I)V" } : Jvm.MethodName) jdk_67_method_2_code (2 : Nat) (Option.none : Option Jvm.ClassFile.FieldType), Jvm.Cond.code ({ cls := "java/lang/AbstractStringBuilder", name := "<init>", desc := "(I)V" } : Jvm.MethodName) jdk_68_method_2_code (2 : Nat) (Option.none : Option Jvm.ClassFile.FieldType), Jvm.Cond.code ({ cls := "java/lang/StringBuilder", name := "toString", desc := "()Ljava/lang/String;" } : Jvm.MethodName) jdk_67_method_42_code (1 : Nat) (Option.some (Jvm.ClassFile.FieldType.object "java/lang/String")), Jvm.Cond.code ({ cls := "java/lang/String", name := "<init>", desc := "(Ljava/lang/StringBuilder;)V" } : Jvm.MethodName) jdk_42_method_53_code (2 : Nat) (Option.none : Option Jvm.ClassFile.FieldType), Jvm.Cond.code ({ cls := "java/lang/String", name := "<init>", desc := "(Ljava/lang/AbstractStringBuilder;Ljava/lang/Void;)V" } : Jvm.MethodName) jdk_42_method_150_code (5 : Nat) (Option.none : Option Jvm.ClassFile.FieldType), Jvm.Cond.code ({ cls := "java/lang/AbstractStringBuilder", name := "getValue", desc := "()[B" } : Jvm.MethodName) jdk_68_method_64_code (1 : Nat) (Option.some (Jvm.ClassFile.FieldType.array Jvm.ClassFile.FieldType.byte)), Jvm.Cond.code ({ cls := "java/lang/StringBuilder", name := "length", desc := "()I" } : Jvm.MethodName) jdk_67_method_93_code (1 : Nat) (Option.some Jvm.ClassFile.FieldType.int), Jvm.Cond.code ({ cls := "java/lang/AbstractStringBuilder", name := "length", desc := "()I" } : Jvm.MethodName) jdk_68_method_6_code (1 : Nat) (Option.some Jvm.ClassFile.FieldType.int), Jvm.Cond.code ({ cls := "java/lang/AbstractStringBuilder", name := "isLatin1", desc := "()Z" } : Jvm.MethodName) jdk_68_method_68_code (1 : Nat) (Option.some Jvm.ClassFile.FieldType.boolean), Jvm.Cond.code ({ cls := "java/util/Arrays", name := "copyOfRange", desc := "([BII)[B" } : Jvm.MethodName) jdk_65_method_132_code (3 : Nat) (Option.some (Jvm.ClassFile.FieldType.array Jvm.ClassFile.FieldType.byte)), Jvm.Cond.code ({ cls := "com/example/tallyman/tallyman/HtmlTextPinLaw", name := "same", desc := "(Ljava/lang/String;[CII)Z" } : Jvm.MethodName) method_3_code (4 : Nat) (Option.some Jvm.ClassFile.FieldType.boolean), Jvm.Cond.code ({ cls := "java/lang/StringUTF16", name := "compress", desc := "([CII)[B" } : Jvm.MethodName) jdk_52_method_16_code (6 : Nat) (Option.some (Jvm.ClassFile.FieldType.array Jvm.ClassFile.FieldType.byte)), Jvm.Cond.code ({ cls := "java/lang/StringUTF16", name := "compress", desc := "([CI[BII)I" } : Jvm.MethodName) jdk_52_method_21_code (7 : Nat) (Option.some Jvm.ClassFile.FieldType.int), Jvm.Cond.code ({ cls := "java/lang/StringUTF16", name := "coderFromArrayLen", desc := "([BI)B" } : Jvm.MethodName) jdk_52_method_15_code (2 : Nat) (Option.some Jvm.ClassFile.FieldType.byte), Jvm.Cond.code ({ cls := "com/example/tallyman/tallyman/HtmlTextPinLaw", name := "put", desc := "([CIC)I" } : Jvm.MethodName) method_5_code (3 : Nat) (Option.some Jvm.ClassFile.FieldType.int), Jvm.Cond.code ({ cls := "java/lang/String", name := "charAt", desc := "(I)C" } : Jvm.MethodName) jdk_42_method_56_code (2 : Nat) (Option.some Jvm.ClassFile.FieldType.char), Jvm.Cond.code ({ cls := "java/lang/String", name := "isLatin1", desc := "()Z" } : Jvm.MethodName) jdk_42_method_154_code (1 : Nat) (Option.some Jvm.ClassFile.FieldType.boolean), Jvm.Cond.code ({ cls := "java/lang/StringLatin1", name := "charAt", desc := "([BI)C" } : Jvm.MethodName) jdk_43_method_2_code (2 : Nat) (Option.some Jvm.ClassFile.FieldType.char), Jvm.Cond.code ({ cls := "java/lang/String", name := "checkIndex", desc := "(II)V" } : Jvm.MethodName) jdk_42_method_155_code (2 : Nat) (Option.none : Option Jvm.ClassFile.FieldType), Jvm.Cond.code ({ cls := "jdk/internal/util/Preconditions", name := "checkIndex", desc := "(IILjava/util/function/BiFunction;)I" } : Jvm.MethodName) jdk_41_method_11_code (3 : Nat) (Option.some Jvm.ClassFile.FieldType.int), Jvm.Cond.code ({ cls := "java/lang/StringBuilder", name := "append", desc := "(C)Ljava/lang/StringBuilder;" } : Jvm.MethodName) jdk_67_method_14_code (2 : Nat) (Option.some (Jvm.ClassFile.FieldType.object "java/lang/StringBuilder")), Jvm.Cond.code ({ cls := "java/lang/AbstractStringBuilder", name := "append", desc := "(C)Ljava/lang/AbstractStringBuilder;" } : Jvm.MethodName) jdk_68_method_31_code (2 : Nat) (Option.some (Jvm.ClassFile.FieldType.object "java/lang/AbstractStringBuilder")), Jvm.Cond.code ({ cls := "java/lang/AbstractStringBuilder", name := "ensureCapacityInternal", desc := "(I)V" } : Jvm.MethodName) jdk_68_method_9_code (3 : Nat) (Option.none : Option Jvm.ClassFile.FieldType), Jvm.Cond.code ({ cls := "java/lang/StringLatin1", name := "canEncode", desc := "(C)Z" } : Jvm.MethodName) jdk_43_method_3_code (1 : Nat) (Option.some Jvm.ClassFile.FieldType.boolean), Jvm.Cond.code ({ cls := "java/lang/StringBuilder", name := "append", desc := "(Ljava/lang/String;)Ljava/lang/StringBuilder;" } : Jvm.MethodName) jdk_67_method_7_code (2 : Nat) (Option.some (Jvm.ClassFile.FieldType.object "java/lang/StringBuilder")), Jvm.Cond.code ({ cls := "java/lang/AbstractStringBuilder", name := "append", desc := "(Ljava/lang/String;)Ljava/lang/AbstractStringBuilder;" } : Jvm.MethodName) jdk_68_method_22_code (3 : Nat) (Option.some (Jvm.ClassFile.FieldType.object "java/lang/AbstractStringBuilder")), Jvm.Cond.code ({ cls := "java/lang/AbstractStringBuilder", name := "newCapacity", desc := "(I)I" } : Jvm.MethodName) jdk_68_method_10_code (6 : Nat) (Option.some Jvm.ClassFile.FieldType.int), Jvm.Cond.code ({ cls := "jdk/internal/util/ArraysSupport", name := "newLength", desc := "(III)I" } : Jvm.MethodName) jdk_48_method_27_code (4 : Nat) (Option.some Jvm.ClassFile.FieldType.int), Jvm.Cond.code ({ cls := "java/lang/Math", name := "max", desc := "(II)I" } : Jvm.MethodName) jdk_29_method_65_code (2 : Nat) (Option.some Jvm.ClassFile.FieldType.int), Jvm.Cond.code ({ cls := "java/util/Arrays", name := "copyOf", desc := "([BI)[B" } : Jvm.MethodName) jdk_65_method_121_code (3 : Nat) (Option.some (Jvm.ClassFile.FieldType.array Jvm.ClassFile.FieldType.byte)), Jvm.Cond.code ({ cls := "java/lang/Math", name := "min", desc := "(II)I" } : Jvm.MethodName) jdk_29_method_69_code (2 : Nat) (Option.some Jvm.ClassFile.FieldType.int), Jvm.Cond.code ({ cls := "java/lang/AbstractStringBuilder", name := "putStringAt", desc := "(ILjava/lang/String;)V" } : Jvm.MethodName) jdk_68_method_73_code (3 : Nat) (Option.none : Option Jvm.ClassFile.FieldType), Jvm.Cond.code ({ cls := "java/lang/AbstractStringBuilder", name := "inflateIfNeededFor", desc := "(Ljava/lang/String;)V" } : Jvm.MethodName) jdk_68_method_71_code (2 : Nat) (Option.none : Option Jvm.ClassFile.FieldType), Jvm.Cond.code ({ cls := "java/lang/String", name := "getBytes", desc := "([BIB)V" } : Jvm.MethodName) jdk_42_method_147_code (4 : Nat) (Option.none : Option Jvm.ClassFile.FieldType), Jvm.Cond.code ({ cls := "java/util/Arrays", name := "copyOfRangeByte", desc := "([BII)[B" } : Jvm.MethodName) jdk_65_method_133_code (5 : Nat) (Option.some (Jvm.ClassFile.FieldType.array Jvm.ClassFile.FieldType.byte)), Jvm.Cond.code ({ cls := "java/util/Arrays", name := "checkLength", desc := "(II)V" } : Jvm.MethodName) jdk_65_method_131_code (2 : Nat) (Option.none : Option Jvm.ClassFile.FieldType), Jvm.Cond.code ({ cls := "java/lang/StringUTF16", name := "toBytes", desc := "([CII)[B" } : Jvm.MethodName) jdk_52_method_14_code (5 : Nat) (Option.some (Jvm.ClassFile.FieldType.array Jvm.ClassFile.FieldType.byte)), Jvm.Cond.code ({ cls := "java/lang/StringUTF16", name := "newBytesFor", desc := "(I)[B" } : Jvm.MethodName) jdk_52_method_2_code (1 : Nat) (Option.some (Jvm.ClassFile.FieldType.array Jvm.ClassFile.FieldType.byte)), Jvm.Cond.code ({ cls := "java/lang/StringUTF16", name := "newBytesLength", desc := "(I)I" } : Jvm.MethodName) jdk_52_method_3_code (1 : Nat) (Option.some Jvm.ClassFile.FieldType.int), Jvm.Cond.code ({ cls := "java/lang/StringUTF16", name := "putChar", desc := "([BII)V" } : Jvm.MethodName) jdk_52_method_4_code (3 : Nat) (Option.none : Option Jvm.ClassFile.FieldType), Jvm.Cond.code ({ cls := "java/lang/StringUTF16", name := "getChar", desc := "([BI)C" } : Jvm.MethodName) jdk_52_method_5_code (2 : Nat) (Option.some Jvm.ClassFile.FieldType.char), Jvm.Cond.code ({ cls := "java/lang/StringUTF16", name := "charAt", desc := "([BI)C" } : Jvm.MethodName) jdk_52_method_83_code (2 : Nat) (Option.some Jvm.ClassFile.FieldType.char), Jvm.Cond.code ({ cls := "java/lang/StringUTF16", name := "checkIndex", desc := "(I[B)V" } : Jvm.MethodName) jdk_52_method_91_code (2 : Nat) (Option.none : Option Jvm.ClassFile.FieldType), Jvm.Cond.code ({ cls := "java/lang/StringUTF16", name := "length", desc := "([B)I" } : Jvm.MethodName) jdk_52_method_6_code (1 : Nat) (Option.some Jvm.ClassFile.FieldType.int), Jvm.Cond.code ({ cls := "java/lang/AbstractStringBuilder", name := "inflate", desc := "()V" } : Jvm.MethodName) jdk_68_method_11_code (2 : Nat) (Option.none : Option Jvm.ClassFile.FieldType), Jvm.Cond.code ({ cls := "java/lang/StringLatin1", name := "inflate", desc := "([BI[BII)V" } : Jvm.MethodName) jdk_43_method_50_code (5 : Nat) (Option.none : Option Jvm.ClassFile.FieldType), Jvm.Cond.code ({ cls := "java/lang/StringUTF16", name := "inflate", desc := "([BI[BII)V" } : Jvm.MethodName) jdk_52_method_86_code (6 : Nat) (Option.none : Option Jvm.ClassFile.FieldType), Jvm.Cond.code ({ cls := "java/lang/StringUTF16", name := "checkBoundsOffCount", desc := "(II[B)V" } : Jvm.MethodName) jdk_52_method_94_code (3 : Nat) (Option.none : Option Jvm.ClassFile.FieldType), Jvm.Cond.code ({ cls := "java/lang/String", name := "checkBoundsOffCount", desc := "(III)I" } : Jvm.MethodName) jdk_42_method_157_code (3 : Nat) (Option.some Jvm.ClassFile.FieldType.int), Jvm.Cond.code ({ cls := "jdk/internal/util/Preconditions", name := "checkFromIndexSize", desc := "(IIILjava/util/function/BiFunction;)I" } : Jvm.MethodName) jdk_41_method_13_code (4 : Nat) (Option.some Jvm.ClassFile.FieldType.int), Jvm.Cond.code ({ cls := "java/lang/StringUTF16", name := "putCharSB", desc := "([BII)V" } : Jvm.MethodName) jdk_52_method_71_code (3 : Nat) (Option.none : Option Jvm.ClassFile.FieldType), Jvm.Cond.code ({ cls := "java/lang/String", name := "valueOf", desc := "(C)Ljava/lang/String;" } : Jvm.MethodName) jdk_42_method_139_code (1 : Nat) (Option.some (Jvm.ClassFile.FieldType.object "java/lang/String")), Jvm.Cond.code ({ cls := "java/lang/StringLatin1", name := "toBytes", desc := "(C)[B" } : Jvm.MethodName) jdk_43_method_46_code (1 : Nat) (Option.some (Jvm.ClassFile.FieldType.array Jvm.ClassFile.FieldType.byte)), Jvm.Cond.code ({ cls := "java/lang/String", name := "<init>", desc := "([BB)V" } : Jvm.MethodName) jdk_42_method_151_code (3 : Nat) (Option.none : Option Jvm.ClassFile.FieldType), Jvm.Cond.code ({ cls := "java/lang/StringUTF16", name := "toBytes", desc := "(C)[B" } : Jvm.MethodName) jdk_52_method_24_code (2 : Nat) (Option.some (Jvm.ClassFile.FieldType.array Jvm.ClassFile.FieldType.byte))]
set_option maxRecDepth 65536 in
theorem codes_eq : words1.filter isCode = codes1 := rfl
theorem w_codes : ∀ c ∈ words1.filter isCode, c.before args0 about1 = true := by
  rw [codes_eq]
  intro c hc
  simp only [codes1, List.mem_cons, List.not_mem_nil, or_false] at hc
  rcases hc with rfl | rfl | rfl | rfl | rfl | rfl | rfl | rfl | rfl | rfl | rfl | rfl | rfl | rfl | rfl | rfl | rfl | rfl | rfl | rfl | rfl | rfl | rfl | rfl | rfl | rfl | rfl | rfl | rfl | rfl | rfl | rfl | rfl | rfl | rfl | rfl | rfl | rfl | rfl | rfl | rfl | rfl | rfl | rfl | rfl | rfl | rfl | rfl | rfl | rfl | rfl | rfl | rfl | rfl | rfl | rfl | rfl | rfl | rfl | rfl | rfl | rfl | rfl
  · exact w_c0
  · exact w_c1
  · exact w_c2
  · exact w_c3
  · exact w_c4
  · exact w_c5
  · exact w_c6
  · exact w_c7
  · exact w_c8
  · exact w_c9
  · exact w_c10
  · exact w_c11
  · exact w_c12
  · exact w_c13
  · exact w_c14
  · exact w_c15
  · exact w_c16
  · exact w_c17
  · exact w_c18
  · exact w_c19
  · exact w_c20
  · exact w_c21
  · exact w_c22
  · exact w_c23
  · exact w_c24
  · exact w_c25
  · exact w_c26
  · exact w_c27
  · exact w_c28
  · exact w_c29
  · exact w_c30
  · exact w_c31
  · exact w_c32
  · exact w_c33
  · exact w_c34
  · exact w_c35
  · exact w_c36
  · exact w_c37
  · exact w_c38
  · exact w_c39
  · exact w_c40
  · exact w_c41
  · exact w_c42
  · exact w_c43
  · exact w_c44
  · exact w_c45
  · exact w_c46
  · exact w_c47
  · exact w_c48
  · exact w_c49
  · exact w_c50
  · exact w_c51
  · exact w_c52
  · exact w_c53
  · exact w_c54
  · exact w_c55
  · exact w_c56
  · exact w_c57
  · exact w_c58
  · exact w_c59
  · exact w_c60
  · exact w_c61
  · exact w_c62
set_option maxRecDepth 65536 in
theorem w_t1 : (words1.take 24).all (fun c => isCode c || c.before args0 about1) = true := by decide +kernel
set_option maxRecDepth 65536 in
theorem w_t2 : ((words1.drop 24).take 24).all (fun c => isCode c || c.before args0 about1) = true := by decide +kernel
set_option maxRecDepth 65536 in
theorem w_t3 : (((words1.drop 24).drop 24).take 24).all (fun c => isCode c || c.before args0 about1) = true := by decide +kernel
set_option maxRecDepth 65536 in
theorem w_t4 : ((((words1.drop 24).drop 24).drop 24).take 24).all (fun c => isCode c || c.before args0 about1) = true := by decide +kernel
set_option maxRecDepth 65536 in
theorem w_t5 : (((((words1.drop 24).drop 24).drop 24).drop 24).take 24).all (fun c => isCode c || c.before args0 about1) = true := by decide +kernel
set_option maxRecDepth 65536 in
theorem w_t6 : ((((((words1.drop 24).drop 24).drop 24).drop 24).drop 24).take 24).all (fun c => isCode c || c.before args0 about1) = true := by decide +kernel
set_option maxRecDepth 65536 in
theorem w_t7 : (((((((words1.drop 24).drop 24).drop 24).drop 24).drop 24).drop 24).take 24).all (fun c => isCode c || c.before args0 about1) = true := by decide +kernel
set_option maxRecDepth 65536 in
theorem w_t8 : ((((((((words1.drop 24).drop 24).drop 24).drop 24).drop 24).drop 24).drop 24).take 24).all (fun c => isCode c || c.before args0 about1) = true := by decide +kernel
set_option maxRecDepth 65536 in
theorem w_t9 : (((((((((words1.drop 24).drop 24).drop 24).drop 24).drop 24).drop 24).drop 24).drop 24).take 24).all (fun c => isCode c || c.before args0 about1) = true := by decide +kernel
set_option maxRecDepth 65536 in
theorem w_t10 : ((((((((((words1.drop 24).drop 24).drop 24).drop 24).drop 24).drop 24).drop 24).drop 24).drop 24).take 24).all (fun c => isCode c || c.before args0 about1) = true := by decide +kernel
set_option maxRecDepth 65536 in
theorem w_t11 : (((((((((((words1.drop 24).drop 24).drop 24).drop 24).drop 24).drop 24).drop 24).drop 24).drop 24).drop 24).take 24).all (fun c => isCode c || c.before args0 about1) = true := by decide +kernel
set_option maxRecDepth 65536 in
theorem w_t12 : ((((((((((((words1.drop 24).drop 24).drop 24).drop 24).drop 24).drop 24).drop 24).drop 24).drop 24).drop 24).drop 24).take 24).all (fun c => isCode c || c.before args0 about1) = true := by decide +kernel
set_option maxRecDepth 65536 in
theorem w_t13 : ((((((((((((words1.drop 24).drop 24).drop 24).drop 24).drop 24).drop 24).drop 24).drop 24).drop 24).drop 24).drop 24).drop 24).all (fun c => isCode c || c.before args0 about1) = true := by decide +kernel
theorem w_tables : (allAtoms (Jvm.Cond.code x code maxLocals ret :: tables_1)).before args0 about1 = true := by
  rw [allAtoms_all]
  show words1.all (fun c => c.before args0 about1) = true
  refine all_split ?_ w_codes
  rw [← List.take_append_drop 24 words1, List.all_append, w_t1, ← List.take_append_drop 24 (words1.drop 24), List.all_append, w_t2, ← List.take_append_drop 24 ((words1.drop 24).drop 24), List.all_append, w_t3, ← List.take_append_drop 24 (((words1.drop 24).drop 24).drop 24), List.all_append, w_t4, ← List.take_append_drop 24 ((((words1.drop 24).drop 24).drop 24).drop 24), List.all_append, w_t5, ← List.take_append_drop 24 (((((words1.drop 24).drop 24).drop 24).drop 24).drop 24), List.all_append, w_t6, ← List.take_append_drop 24 ((((((words1.drop 24).drop 24).drop 24).drop 24).drop 24).drop 24), List.all_append, w_t7, ← List.take_append_drop 24 (((((((words1.drop 24).drop 24).drop 24).drop 24).drop 24).drop 24).drop 24), List.all_append, w_t8, ← List.take_append_drop 24 ((((((((words1.drop 24).drop 24).drop 24).drop 24).drop 24).drop 24).drop 24).drop 24), List.all_append, w_t9, ← List.take_append_drop 24 (((((((((words1.drop 24).drop 24).drop 24).drop 24).drop 24).drop 24).drop 24).drop 24).drop 24), List.all_append, w_t10, ← List.take_append_drop 24 ((((((((((words1.drop 24).drop 24).drop 24).drop 24).drop 24).drop 24).drop 24).drop 24).drop 24).drop 24), List.all_append, w_t11, ← List.take_append_drop 24 (((((((((((words1.drop 24).drop 24).drop 24).drop 24).drop 24).drop 24).drop 24).drop 24).drop 24).drop 24).drop 24), List.all_append, w_t12, w_t13]
  rfl
set_option maxRecDepth 65536 in
theorem w_rest : rest_1_c.before args0 about1 = true := by decide +kernel
set_option maxRecDepth 65536 in
theorem w_case : (Jvm.Cond.and given_1 narrow_1).before args0 about1 = true := by decide +kernel
set_option maxRecDepth 65536 in
theorem w_consts : constsHeld consts_1 about1 := Jvm.Lit.constsHeldB_iff.mp (by decide +kernel)
theorem w_applies : (headSpec (Jvm.Cond.code x code maxLocals ret :: tables_1) room_1).applies x e0.platform about1 = true :=
  (Spec.applies_iff w_frames).mpr ⟨w_running, w_runnable, w_alone, w_named, w_hears, w_ripe, w_room, w_tables⟩
theorem atStart : AtStart classFile x code maxLocals ret World_1 tables_1 room_1 Calls_1 rest_1 Pre_1 launch0 p0 e0 about1 theMethod args0 below0 :=
  ⟨lists_1, trivial, launch0.admits_env _ _ _, launch0.least_env, fairChoices_fair.cas, fairChoices_fair.clock, w_frames, w_args, w_heap, w_applies, ⟨w_consts, trivial⟩, w_rest, w_case⟩
end start1
theorem witness_1 : WitnessClaimed_1 := ⟨start1.p0, start1.e0, start1.about1, start1.theMethod, start1.args0, start1.below0, start1.atStart⟩
end Jvm.Pilot.@@N@@
