import JvmDerived
import JvmDerived.Pilot.@@N@@Statement
import JvmDerived.Pilot.@@N@@Code
set_option linter.unusedVariables false
set_option linter.unusedSimpArgs false
/- laws to paste: Road.backV, Road.lenW, Road.chN, Road.eqW, Road.codOf (cut by pick.py; bodies as the Statement names them) -/
namespace Jvm.Pilot.@@N@@
namespace StrChars
open Jvm Sem ClassFile Op Lib Jvm.Stand Jvm.Free.XT Jvm.Free.ALB Jvm.Free.JM Jvm.Free
open Jvm.Lib.Cold (StaticIs)
/-- a char array whose places are chars -/
def Ch (a : Addr) (A : Cell) (U : State) : Prop := Arr .char a A U ∧ Typed .char A
theorem Ch.mv {a : Addr} {A : Cell} {U U' : State} (h : Ch a A U) (hal : U.vm.Alike U'.vm) (hh : U'.heap = U.heap) : Ch a A U' := ⟨h.1.mv hal hh, h.2⟩
theorem Ch.keep {a : Addr} {A : Cell} {U U' : State} (h : Ch a A U) (hal : U.vm.Alike U'.vm) (hk : U'.heap[a]? = some A) : Ch a A U' := ⟨h.1.keep hal hk, h.2⟩
/-- what place i of a char[]'s cell holds -/
def cv (A : Cell) (i : Nat) : Int32 := match A.slots[i]? with | some (.int x) => x | _ => 0
theorem Ch.get {a : Addr} {A : Cell} {U : State} (h : Ch a A U) {i : Nat} (hi : i < A.slots.size) : A.slots[i]? = some (.int (cv A i)) := by
  have e := Array.getElem?_eq_getElem hi
  have f := h.2 i _ e
  unfold cv; rw [e]
  generalize A.slots[i] = v at f
  cases v <;> simp [fits] at f ⊢
/-- the byte that i2b leaves of a char -/
def lo8 (x : Int32) : Int32 := x.toInt8.toInt32
theorem fits_lo8 (y : Int32) : fits .byte (.int (lo8 y)) = true := by
  have h1 := y.toInt8.le_toInt
  have h2 := y.toInt8.toInt_lt
  simp only [lo8, fits, Bool.and_eq_true, decide_eq_true_eq, Int32.le_iff_toInt_le, Int8.toInt_toInt32, show (-128 : Int32).toInt = -128 from by decide, show (127 : Int32).toInt = 127 from by decide]
  omega
/-- A' is A but that each place j of lo .. hi - 1 holds f j -/
def Laid (A A' : Cell) (lo hi : Nat) (f : Nat → Value) : Prop := A'.cls = A.cls ∧ A'.vm = A.vm ∧ A'.slots.size = A.slots.size ∧ ∀ i, A'.slots[i]? = if lo ≤ i ∧ i < hi then some (f i) else A.slots[i]?
theorem Laid.zero (A : Cell) (lo : Nat) (f : Nat → Value) : Laid A A lo (lo + 0) f := ⟨rfl, rfl, rfl, fun i => by rw [if_neg (by omega)]⟩
theorem Laid.step {A Ak : Cell} {lo k : Nat} {f : Nat → Value} {v : Value} (h : Laid A Ak lo k f) (hlo : lo ≤ k) (hk : k < Ak.slots.size) (hv : v = f k) : Laid A (Ak.setSlot k v) lo (k + 1) f := by
  refine ⟨h.1, h.2.1, by simpa [Cell.setSlot] using h.2.2.1, fun i => ?_⟩
  by_cases e : k = i
  · subst e; rw [Cell.slots_setSlot_self v hk, if_pos (by omega), hv]
  · rw [Cell.slots_setSlot_ne v e, h.2.2.2 i]
    by_cases q : lo ≤ i ∧ i < k
    · rw [if_pos q, if_pos (by omega)]
    · rw [if_neg q, if_neg (by omega)]
def U16 : String := "java/lang/StringUTF16"
namespace Cmp5
def yN : MethodName := ⟨"java/lang/StringUTF16", "compress", "([CI[BII)I"⟩
abbrev yB : ByteArray := jdk_52_method_21_code
theorem d0 : decode yB 0 = .ok (.iconst 0, 1) := by decide +kernel
theorem d1 : decode yB 1 = .ok (.istore 5, 2) := by decide +kernel
theorem d3 : decode yB 3 = .ok (.iload 5, 2) := by decide +kernel
theorem d5 : decode yB 5 = .ok (.iload 4, 2) := by decide +kernel
theorem d7 : decode yB 7 = .ok (.if_icmp (.ge) 37, 3) := by decide +kernel
theorem d10 : decode yB 10 = .ok (.aload_n 0, 1) := by decide +kernel
theorem d11 : decode yB 11 = .ok (.iload_n 1, 1) := by decide +kernel
theorem d12 : decode yB 12 = .ok (.caload, 1) := by decide +kernel
theorem d13 : decode yB 13 = .ok (.istore 6, 2) := by decide +kernel
theorem d15 : decode yB 15 = .ok (.iload 6, 2) := by decide +kernel
theorem d17 : decode yB 17 = .ok (.sipush 255, 3) := by decide +kernel
theorem d20 : decode yB 20 = .ok (.if_icmp (.le) 6, 3) := by decide +kernel
theorem d26 : decode yB 26 = .ok (.aload_n 2, 1) := by decide +kernel
theorem d27 : decode yB 27 = .ok (.iload_n 3, 1) := by decide +kernel
theorem d28 : decode yB 28 = .ok (.iload 6, 2) := by decide +kernel
theorem d30 : decode yB 30 = .ok (.i2b, 1) := by decide +kernel
theorem d31 : decode yB 31 = .ok (.bastore, 1) := by decide +kernel
theorem d32 : decode yB 32 = .ok (.iinc 1 1, 3) := by decide +kernel
theorem d35 : decode yB 35 = .ok (.iinc 3 1, 3) := by decide +kernel
theorem d38 : decode yB 38 = .ok (.iinc 5 1, 3) := by decide +kernel
theorem d41 : decode yB 41 = .ok (.goto (-38), 3) := by decide +kernel
theorem d44 : decode yB 44 = .ok (.iload 4, 2) := by decide +kernel
theorem d46 : decode yB 46 = .ok (.ireturn, 1) := by decide +kernel
def site : List Cond := []
def tab : Cond := tabOf yN yB 7 (some .int) site
def P (b : Addr) (A : Cell) (d : Addr) (B : Cell) (o q len : Nat) (args : Array Value) (s : State) : Prop := args = #[.ref b, .int (Int32.ofNat o), .ref d, .int (Int32.ofNat q), .int (Int32.ofNat len)] ∧ Ch b A s ∧ Arr .byte d B s ∧ b ≠ d ∧ o + len ≤ A.slots.size ∧ q + len ≤ B.slots.size ∧ ∀ i, i < len → ¬ 255 < cv A (o + i)
def E (b : Addr) (A : Cell) (d : Addr) (B : Cell) (o q len : Nat) (r : Option Value) (s u : State) : Prop := r = some (.int (Int32.ofNat len)) ∧ ∃ B', Put d B' s u ∧ Laid B B' q (q + len) (fun j => Value.int (lo8 (cv A (o + (j - q)))))
/-- no char of the range above 255: len; the places written hold each char's low byte -/
theorem law (l : Launch) (b : Addr) (A : Cell) (d : Addr) (B : Cell) (o q len : Nat) : Law l yN 5 5 0 0 yB 7 (some .int) site (P b A d B o q len) (E b A d B o q len) (copyLocs d q len) 0 0 := by
  refine Law.of_walk (plainFor_of_name (by decide +kernel)) (by decide +kernel) (by decide +kernel) (by decide) (fun _ _ h => by rw [h.1]; rfl) (fun _ U U' hal hh h => ⟨h.1, h.2.1.mv hal hh, h.2.2.1.mv hal hh, h.2.2.2⟩) (fun r U U' V V' h1 hal h2 h => ⟨h.1, h.2.elim fun B' q => ⟨B', q.1.mv h1 h2, q.2⟩⟩) ?_
  intro p e s m args below meth c s₁ X0 hexec hbytes hml hret hlk hnm hown hh0 W hP
  obtain ⟨rfl, hA, hB, hne, l1, l2, hp⟩ := hP
  have c1 : Steps p.tables e below (s₁.setTop (entryFrame m #[.ref b, .int (Int32.ofNat o), .ref d, .int (Int32.ofNat q), .int (Int32.ofNat len)] 7)) (s₁.setTop (mkF m 0 #[.val (.ref b), .val (.int (Int32.ofNat o)), .val (.ref d), .val (.int (Int32.ofNat q)), .val (.int (Int32.ofNat len)), .unset, .unset] [])) := entry rfl
  have hA0 := hA.1.mv X0.warmed.alike hh0
  have hB0 := hB.mv X0.warmed.alike hh0
  have a31 := hA.1.2.2.2
  have c2 : Steps p.tables e below (s₁.setTop (entryFrame m #[.ref b, .int (Int32.ofNat o), .ref d, .int (Int32.ofNat q), .int (Int32.ofNat len)] 7)) (s₁.setTop (mkF m 3 #[.val (.ref b), .val (.int (Int32.ofNat o)), .val (.ref d), .val (.int (Int32.ofNat q)), .val (.int (Int32.ofNat len)), .val (.int 0), .unset] [])) := c1.trans (by
    refine iconstV X0.here hexec rfl 0 (hb hbytes d0) (by decide) ?_
    refine XS.istore X0.here hexec rfl (hb hbytes d1) rfl rfl ?_
    exact Steps.refl _)
  have loop : ∀ (r i : Nat), i + r = len → ∀ (z : Slot), (z = .unset ∨ ∃ w, z = .val w ∧ w.category = 1) → ∀ (Tl : State) (Bk : Cell), Stand p l e { frames := 0, locals := 0, cells := 0, slots := 0 } s m #[.ref b, .int (Int32.ofNat o), .ref d, .int (Int32.ofNat q), .int (Int32.ofNat len)] below meth c Tl ([] ++ copyLocs d q i) 0 0 → Put d Bk s₁ Tl → Laid B Bk q (q + i) (fun j => Value.int (lo8 (cv A (o + (j - q))))) →
      Steps p.tables e below (s₁.setTop (entryFrame m #[.ref b, .int (Int32.ofNat o), .ref d, .int (Int32.ofNat q), .int (Int32.ofNat len)] 7)) (Tl.setTop (mkF m 3 #[.val (.ref b), .val (.int (Int32.ofNat (o + i))), .val (.ref d), .val (.int (Int32.ofNat (q + i))), .val (.int (Int32.ofNat len)), .val (.int (Int32.ofNat i)), z] [])) → ∃ (T' : State) (B' : Cell) (z' : Slot), Stand p l e { frames := 0, locals := 0, cells := 0, slots := 0 } s m #[.ref b, .int (Int32.ofNat o), .ref d, .int (Int32.ofNat q), .int (Int32.ofNat len)] below meth c T' ([] ++ copyLocs d q len) 0 0 ∧ Put d B' s₁ T' ∧ Laid B B' q (q + len) (fun j => Value.int (lo8 (cv A (o + (j - q))))) ∧
      Steps p.tables e below (s₁.setTop (entryFrame m #[.ref b, .int (Int32.ofNat o), .ref d, .int (Int32.ofNat q), .int (Int32.ofNat len)] 7)) (T'.setTop (mkF m 3 #[.val (.ref b), .val (.int (Int32.ofNat (o + len))), .val (.ref d), .val (.int (Int32.ofNat (q + len))), .val (.int (Int32.ofNat len)), .val (.int (Int32.ofNat len)), z'] [])) := by
    intro r
    induction r with
    | zero =>
      intro i hi z hz Tl Bk Xl pl fl cl
      have hil : i = len := by omega
      rw [hil] at Xl fl cl
      exact ⟨Tl, Bk, z, Xl, pl, fl, cl⟩
    | succ r ih =>
      intro i hi z hz Tl Bk Xl pl fl cl
      have all := X0.warmed.alike.symm.trans Xl.warmed.alike
      have hAl := hA0.keep all (pl.other hne hA0.1)
      have hBk := hB0.like all pl.1 fl.1 fl.2.1 fl.2.2.1
      have hlt : q + i < Bk.slots.size := by rw [fl.2.2.1]; omega
      have c3 : Steps p.tables e below (s₁.setTop (entryFrame m #[.ref b, .int (Int32.ofNat o), .ref d, .int (Int32.ofNat q), .int (Int32.ofNat len)] 7)) (Tl.setTop (mkF m 12 #[.val (.ref b), .val (.int (Int32.ofNat (o + i))), .val (.ref d), .val (.int (Int32.ofNat (q + i))), .val (.int (Int32.ofNat len)), .val (.int (Int32.ofNat i)), z] [.int (Int32.ofNat (o + i)), .ref b])) := cl.trans (by
        refine XS.iload Xl.here hexec rfl (hb hbytes d3) rfl ?_
        refine XS.iload Xl.here hexec rfl (hb hbytes d5) rfl ?_
        refine XS.icmpNo Xl.here hexec rfl (hb hbytes d7) rfl (ii_ge_f (lt32 (by omega) (by omega))) ?_
        refine XS.aloadN Xl.here hexec rfl (hb hbytes d10) rfl rfl ?_
        refine XS.iloadN Xl.here hexec rfl (hb hbytes d11) rfl ?_
        exact Steps.refl _)
      have c4 : Steps p.tables e below (s₁.setTop (entryFrame m #[.ref b, .int (Int32.ofNat o), .ref d, .int (Int32.ofNat q), .int (Int32.ofNat len)] 7)) (Tl.setTop (mkF m 13 #[.val (.ref b), .val (.int (Int32.ofNat (o + i))), .val (.ref d), .val (.int (Int32.ofNat (q + i))), .val (.int (Int32.ofNat len)), .val (.int (Int32.ofNat i)), z] [.int (cv A (o + i))])) := c3.trans (by
        refine Xl.aget hexec hAl rfl (hA.get (i := o + i) (by omega)) rfl rfl (hb hbytes d12) ?_
        exact Steps.refl _)
      have c5 : Steps p.tables e below (s₁.setTop (entryFrame m #[.ref b, .int (Int32.ofNat o), .ref d, .int (Int32.ofNat q), .int (Int32.ofNat len)] 7)) (Tl.setTop (mkF m 15 #[.val (.ref b), .val (.int (Int32.ofNat (o + i))), .val (.ref d), .val (.int (Int32.ofNat (q + i))), .val (.int (Int32.ofNat len)), .val (.int (Int32.ofNat i)), .val (.int (cv A (o + i)))] [])) := c4.trans (by
        refine XS.istoreS Xl.here hexec rfl (hb hbytes d13) rfl rfl hz ?_
        exact Steps.refl _)
      have c6 : Steps p.tables e below (s₁.setTop (entryFrame m #[.ref b, .int (Int32.ofNat o), .ref d, .int (Int32.ofNat q), .int (Int32.ofNat len)] 7)) (Tl.setTop (mkF m 31 #[.val (.ref b), .val (.int (Int32.ofNat (o + i))), .val (.ref d), .val (.int (Int32.ofNat (q + i))), .val (.int (Int32.ofNat len)), .val (.int (Int32.ofNat i)), .val (.int (cv A (o + i)))] [.int (lo8 (cv A (o + i))), .int (Int32.ofNat (q + i)), .ref d])) := c5.trans (by
        refine XS.iload Xl.here hexec rfl (hb hbytes d15) rfl ?_
        refine sipushV Xl.here hexec rfl 255 (hb hbytes d17) (by decide) ?_
        refine XS.icmpYes Xl.here hexec rfl (pc0 := 20) rfl (hb hbytes d20) rfl (ii_le_t (hp i (by omega))) (by decide) rfl ?_
        refine XS.aloadN Xl.here hexec rfl (hb hbytes d26) rfl rfl ?_
        refine XS.iloadN Xl.here hexec rfl (hb hbytes d27) rfl ?_
        refine XS.iload Xl.here hexec rfl (hb hbytes d28) rfl ?_
        refine i2b Xl.here hexec rfl (hb hbytes d30) rfl ?_
        exact Steps.refl _)
      obtain ⟨T7, X7, p7, st7⟩ := Xl.aput hexec hBk rfl hlt rfl (fits_lo8 (cv A (o + i))) (g := (mkF m 31 #[.val (.ref b), .val (.int (Int32.ofNat (o + i))), .val (.ref d), .val (.int (Int32.ofNat (q + i))), .val (.int (Int32.ofNat len)), .val (.int (Int32.ofNat i)), .val (.int (cv A (o + i)))] [.int (lo8 (cv A (o + i))), .int (Int32.ofNat (q + i)), .ref d])) rfl (rest := []) rfl (hb hbytes d31)
      have c8 : Steps p.tables e below (s₁.setTop (entryFrame m #[.ref b, .int (Int32.ofNat o), .ref d, .int (Int32.ofNat q), .int (Int32.ofNat len)] 7)) (T7.setTop (mkF m 32 #[.val (.ref b), .val (.int (Int32.ofNat (o + i))), .val (.ref d), .val (.int (Int32.ofNat (q + i))), .val (.int (Int32.ofNat len)), .val (.int (Int32.ofNat i)), .val (.int (cv A (o + i)))] [])) := c6.trans (st7 _ (Steps.refl _))
      have c9 : Steps p.tables e below (s₁.setTop (entryFrame m #[.ref b, .int (Int32.ofNat o), .ref d, .int (Int32.ofNat q), .int (Int32.ofNat len)] 7)) (T7.setTop (mkF m 3 #[.val (.ref b), .val (.int (Int32.ofNat (o + i) + 1)), .val (.ref d), .val (.int (Int32.ofNat (q + i) + 1)), .val (.int (Int32.ofNat len)), .val (.int (Int32.ofNat i + 1)), .val (.int (cv A (o + i)))] [])) := c8.trans (by
        refine iincV X7.here hexec rfl 1 (hb hbytes d32) (by decide) rfl rfl ?_
        refine iincV X7.here hexec rfl 1 (hb hbytes d35) (by decide) rfl rfl ?_
        refine iincV X7.here hexec rfl 1 (hb hbytes d38) (by decide) rfl rfl ?_
        refine XS.goto X7.here hexec rfl (pc0 := 41) rfl (hb hbytes d41) (by decide) rfl ?_
        exact Steps.refl _)
      have c10 : Steps p.tables e below (s₁.setTop (entryFrame m #[.ref b, .int (Int32.ofNat o), .ref d, .int (Int32.ofNat q), .int (Int32.ofNat len)] 7)) (T7.setTop (mkF m 3 #[.val (.ref b), .val (.int (Int32.ofNat (o + (i + 1)))), .val (.ref d), .val (.int (Int32.ofNat (q + (i + 1)))), .val (.int (Int32.ofNat len)), .val (.int (Int32.ofNat (i + 1))), .val (.int (cv A (o + i)))] [])) := by
        have := c9
        rw [succ32, succ32, succ32] at this
        exact this
      exact ih (i + 1) (by omega) _ (Or.inr ⟨_, rfl, rfl⟩) T7 _ (by rw [copyLocs_step, ← List.append_assoc]; exact X7) (pl.trans p7) (fl.step (by omega) hlt (by simp)) c10
  obtain ⟨T9, B9, z9, X9, p9, f9, g9⟩ := loop len 0 (by omega) .unset (Or.inl rfl) s₁ B (by simpa [copyLocs] using X0) ⟨hB0.1, fun _ _ => rfl, rfl⟩ (Laid.zero _ _ _) c2
  have c11 : Steps p.tables e below (s₁.setTop (entryFrame m #[.ref b, .int (Int32.ofNat o), .ref d, .int (Int32.ofNat q), .int (Int32.ofNat len)] 7)) (T9.setTop (mkF m 46 #[.val (.ref b), .val (.int (Int32.ofNat (o + len))), .val (.ref d), .val (.int (Int32.ofNat (q + len))), .val (.int (Int32.ofNat len)), .val (.int (Int32.ofNat len)), z9] [.int (Int32.ofNat len)])) := g9.trans (by
    refine XS.iload X9.here hexec rfl (hb hbytes d3) rfl ?_
    refine XS.iload X9.here hexec rfl (hb hbytes d5) rfl ?_
    refine XS.icmpYes X9.here hexec rfl (pc0 := 7) rfl (hb hbytes d7) rfl (ii_ge_t (nlt32 (by omega) (Nat.le_refl _))) (by decide) rfl ?_
    refine XS.iload X9.here hexec rfl (hb hbytes d44) rfl ?_
    exact Steps.refl _)
  exact ⟨T9, some (.int (Int32.ofNat len)), _, _, _, X9, by simp, rfl, rfl, (fun h => by cases h), ⟨rfl, B9, p9.from hh0, f9⟩, fun fs hl => c11.trans (X9.ireturnOut hexec hret rfl (Or.inl rfl) (hb hbytes d46) hl)⟩
end Cmp5
namespace Cmp3
def yN : MethodName := ⟨"java/lang/StringUTF16", "compress", "([CII)[B"⟩
abbrev yB : ByteArray := jdk_52_method_16_code
theorem d0 : decode yB 0 = .ok (.iload_n 2, 1) := by decide +kernel
theorem d1 : decode yB 1 = .ok (.newarray .byte, 2) := by decide +kernel
theorem d3 : decode yB 3 = .ok (.astore_n 3, 1) := by decide +kernel
theorem d4 : decode yB 4 = .ok (.aload_n 0, 1) := by decide +kernel
theorem d5 : decode yB 5 = .ok (.iload_n 1, 1) := by decide +kernel
theorem d6 : decode yB 6 = .ok (.aload_n 3, 1) := by decide +kernel
theorem d7 : decode yB 7 = .ok (.iconst 0, 1) := by decide +kernel
theorem d8 : decode yB 8 = .ok (.iload_n 2, 1) := by decide +kernel
theorem d9 : decode yB 9 = .ok (.invokestatic 115, 3) := by decide +kernel
theorem d12 : decode yB 12 = .ok (.istore 4, 2) := by decide +kernel
theorem d14 : decode yB 14 = .ok (.iload 4, 2) := by decide +kernel
theorem d16 : decode yB 16 = .ok (.iload_n 2, 1) := by decide +kernel
theorem d17 : decode yB 17 = .ok (.if_icmp (.eq) 40, 3) := by decide +kernel
theorem d57 : decode yB 57 = .ok (.aload_n 3, 1) := by decide +kernel
theorem d58 : decode yB 58 = .ok (.areturn, 1) := by decide +kernel
def site : List Cond := [.arrayClass .byte, Cmp5.tab] ++ staticW U16 115 Cmp5.yN
def tab : Cond := tabOf yN yB 6 (some (.array .byte)) site
def P (b : Addr) (A : Cell) (o len : Nat) (args : Array Value) (s : State) : Prop := args = #[.ref b, .int (Int32.ofNat o), .int (Int32.ofNat len)] ∧ Ch b A s ∧ o + len ≤ A.slots.size ∧ len ≤ 536870912 ∧ ∀ i, i < len → ¬ 255 < cv A (o + i)
def E (b : Addr) (A : Cell) (o len : Nat) (r : Option Value) (s u : State) : Prop := NewArr .byte "[B" len (fun j => .int (lo8 (cv A (o + j)))) r s u ∧ u.heap.size = s.heap.size + 1
/-- no char of the range above 255: a new byte[] of their low bytes -/
theorem law (l : Launch) (b : Addr) (A : Cell) (o len : Nat) : Law l yN 3 3 1 18 yB 6 (some (.array .byte)) site (P b A o len) (E b A o len) [] 1 len := by
  refine Law.of_walk (plainFor_of_name (by decide +kernel)) (by decide +kernel) (by decide +kernel) (by decide) (fun _ _ h => by rw [h.1]; rfl) (fun _ U U' hal hh h => ⟨h.1, h.2.1.mv hal hh, h.2.2⟩) (fun r U U' V V' h1 hal h2 h => ⟨NewArr.mv r U U' V V' h1 hal h2 h.1, by rw [h1, h2]; exact h.2⟩) ?_
  intro p e s m args below meth c s₁ X0 hexec hbytes hml hret hlk hnm hown hh0 W hP
  obtain ⟨rfl, hA, l1, l2, hp⟩ := hP
  have a31 := hA.1.2.2.2
  have c1 : Steps p.tables e below (s₁.setTop (entryFrame m #[.ref b, .int (Int32.ofNat o), .int (Int32.ofNat len)] 6)) (s₁.setTop (mkF m 0 #[.val (.ref b), .val (.int (Int32.ofNat o)), .val (.int (Int32.ofNat len)), .unset, .unset, .unset] [])) := entry rfl
  have c2 : Steps p.tables e below (s₁.setTop (entryFrame m #[.ref b, .int (Int32.ofNat o), .int (Int32.ofNat len)] 6)) (s₁.setTop (mkF m 1 #[.val (.ref b), .val (.int (Int32.ofNat o)), .val (.int (Int32.ofNat len)), .unset, .unset, .unset] [.int (Int32.ofNat len)])) := c1.trans (by
    refine XS.iloadN X0.here hexec rfl (hb hbytes d0) rfl ?_
    exact Steps.refl _)
  obtain ⟨T3, B3, X3, ba3, bs3, bv3, bh3, bf3, st3⟩ := X0.anew hexec (atype := .byte) (wk W (.arrayClass .byte)) rfl (by show len * 1 ≤ _; omega) (by omega) (g := (mkF m 1 #[.val (.ref b), .val (.int (Int32.ofNat o)), .val (.int (Int32.ofNat len)), .unset, .unset, .unset] [.int (Int32.ofNat len)])) rfl (hb hbytes d1) (rest := []) rfl (Nat.le_refl _) (by show 0 + len ≤ len; omega)
  rw [hh0] at ba3 st3
  have kp3 : XT.Kept s T3 := (XT.Kept.of_eq hh0).push bh3
  have hA3 := hA.keep X3.warmed.alike (kp3 _ _ hA.1.1)
  have hne : b ≠ s.heap.size := hA.1.ne
  have c4 : Steps p.tables e below (s₁.setTop (entryFrame m #[.ref b, .int (Int32.ofNat o), .int (Int32.ofNat len)] 6)) (T3.setTop (mkF m 3 #[.val (.ref b), .val (.int (Int32.ofNat o)), .val (.int (Int32.ofNat len)), .unset, .unset, .unset] [.ref s.heap.size])) := c2.trans (st3 _ (Steps.refl _))
  have c5 : Steps p.tables e below (s₁.setTop (entryFrame m #[.ref b, .int (Int32.ofNat o), .int (Int32.ofNat len)] 6)) (T3.setTop (mkF m 9 #[.val (.ref b), .val (.int (Int32.ofNat o)), .val (.int (Int32.ofNat len)), .val (.ref s.heap.size), .unset, .unset] [.int (Int32.ofNat len), .int 0, .ref s.heap.size, .int (Int32.ofNat o), .ref b])) := c4.trans (by
    refine XS.astoreN X3.here hexec rfl (hb hbytes d3) rfl rfl rfl ?_
    refine XS.aloadN X3.here hexec rfl (hb hbytes d4) rfl rfl ?_
    refine XS.iloadN X3.here hexec rfl (hb hbytes d5) rfl ?_
    refine XS.aloadN X3.here hexec rfl (hb hbytes d6) rfl rfl ?_
    refine iconstV X3.here hexec rfl 0 (hb hbytes d7) (by decide) ?_
    refine XS.iloadN X3.here hexec rfl (hb hbytes d8) rfl ?_
    exact Steps.refl _)
  obtain ⟨v6, T6, X6, E6, g6⟩ := X3.callS hexec (Cmp5.law l b A s.heap.size B3 o 0 len) hown (wks W (staticW U16 115 Cmp5.yN)) (wk W Cmp5.tab) (W := 0) (Nat.le_of_ble_eq_true rfl) (Nat.le_of_ble_eq_true rfl) (Nat.le_refl _) (by show 0 + len + 0 ≤ len; omega) (g := (mkF m 9 #[.val (.ref b), .val (.int (Int32.ofNat o)), .val (.int (Int32.ofNat len)), .val (.ref s.heap.size), .unset, .unset] [.int (Int32.ofNat len), .int (Int32.ofNat 0), .ref s.heap.size, .int (Int32.ofNat o), .ref b])) rfl (by rw [hml]; rfl) c5 (argsL := [.ref b, .int (Int32.ofNat o), .ref s.heap.size, .int (Int32.ofNat 0), .int (Int32.ofNat len)]) (rest := []) rfl rfl (by show 2 * 0 + 0 ≤ _; decide) (hb hbytes d9) (⟨rfl, hA3, ba3, hne, l1, by rw [bs3]; simp, hp⟩)
  obtain ⟨rfl, B6, p6, f6⟩ := E6
  have c7 : Steps p.tables e below (s₁.setTop (entryFrame m #[.ref b, .int (Int32.ofNat o), .int (Int32.ofNat len)] 6)) (T6.setTop (mkF m 12 #[.val (.ref b), .val (.int (Int32.ofNat o)), .val (.int (Int32.ofNat len)), .val (.ref s.heap.size), .unset, .unset] [.int (Int32.ofNat len)])) := g6
  have c8 : Steps p.tables e below (s₁.setTop (entryFrame m #[.ref b, .int (Int32.ofNat o), .int (Int32.ofNat len)] 6)) (T6.setTop (mkF m 58 #[.val (.ref b), .val (.int (Int32.ofNat o)), .val (.int (Int32.ofNat len)), .val (.ref s.heap.size), .val (.int (Int32.ofNat len)), .unset] [.ref s.heap.size])) := c7.trans (by
    refine XS.istore X6.here hexec rfl (hb hbytes d12) rfl rfl ?_
    refine XS.iload X6.here hexec rfl (hb hbytes d14) rfl ?_
    refine XS.iloadN X6.here hexec rfl (hb hbytes d16) rfl ?_
    refine XS.icmpYes X6.here hexec rfl (pc0 := 17) rfl (hb hbytes d17) rfl (ii_eq_t rfl) (by decide) rfl ?_
    refine XS.aloadN X6.here hexec rfl (hb hbytes d57) rfl rfl ?_
    exact Steps.refl _)
  have X8 := X6.wide (L' := []) (cells' := 1) (slots' := len) (fun x hx hlt => by
    simp only [List.nil_append, copyLocs, List.mem_map, List.mem_range] at hx
    obtain ⟨i, -, rfl⟩ := hx
    exact absurd hlt (Nat.lt_irrefl _)) (Nat.le_refl _) (by omega)
  exact ⟨T6, some (.ref s.heap.size), _, _, _, X8, rfl, rfl, rfl, (fun h => by cases h), ⟨⟨rfl, B6, ba3.like (X3.warmed.alike.symm.trans X6.warmed.alike) p6.1 f6.1 f6.2.1 f6.2.2.1, f6.2.1.trans bv3, by rw [X6.warmed.alike.findClass, f6.1]; exact bf3, by rw [f6.2.2.1, bs3]; simp, fun j hj => by rw [f6.2.2.2 j, if_pos (by omega)]; rfl, kp3.put p6 (Nat.le_refl _)⟩, by rw [p6.2.2, bh3, hh0]; simp⟩, fun fs hl => c8.trans (X8.areturnOut hexec rfl hret rfl (hb hbytes d58) hl)⟩
end Cmp3
namespace CodL
def yN : MethodName := ⟨"java/lang/StringUTF16", "coderFromArrayLen", "([BI)B"⟩
abbrev yB : ByteArray := jdk_52_method_15_code
theorem d0 : decode yB 0 = .ok (.iload_n 1, 1) := by decide +kernel
theorem d1 : decode yB 1 = .ok (.aload_n 0, 1) := by decide +kernel
theorem d2 : decode yB 2 = .ok (.arraylength, 1) := by decide +kernel
theorem d3 : decode yB 3 = .ok (.isub, 1) := by decide +kernel
theorem d4 : decode yB 4 = .ok (.bipush 31, 2) := by decide +kernel
theorem d6 : decode yB 6 = .ok (.iushr, 1) := by decide +kernel
theorem d7 : decode yB 7 = .ok (.i2b, 1) := by decide +kernel
theorem d8 : decode yB 8 = .ok (.ireturn, 1) := by decide +kernel
def site : List Cond := []
def tab : Cond := tabOf yN yB 2 (some .byte) site
def P (d : Addr) (B : Cell) (args : Array Value) (s : State) : Prop := args = #[.ref d, .int (Int32.ofNat B.slots.size)] ∧ Arr .byte d B s
def E (r : Option Value) (s u : State) : Prop := XT.PureE (some (.int 0)) r s u
/-- an array as long as the number of chars: LATIN1 -/
theorem law (l : Launch) (d : Addr) (B : Cell) : Law l yN 2 2 0 0 yB 2 (some .byte) site (P d B) E [] 0 0 := by
  refine Law.of_walk (plainFor_of_name (by decide +kernel)) (by decide +kernel) (by decide +kernel) (by decide) (fun _ _ h => by rw [h.1]; rfl) (fun _ U U' hal hh h => ⟨h.1, h.2.mv hal hh⟩) (fun r U U' V V' h1 hal h2 h => XT.PureE.mv r U U' V V' h1 hal h2 h) ?_
  intro p e s m args below meth c s₁ X0 hexec hbytes hml hret hlk hnm hown hh0 W hP
  obtain ⟨rfl, hB⟩ := hP
  have hB0 := hB.mv X0.warmed.alike hh0
  have c1 : Steps p.tables e below (s₁.setTop (entryFrame m #[.ref d, .int (Int32.ofNat B.slots.size)] 2)) (s₁.setTop (mkF m 0 #[.val (.ref d), .val (.int (Int32.ofNat B.slots.size))] [])) := entry rfl
  have c2 : Steps p.tables e below (s₁.setTop (entryFrame m #[.ref d, .int (Int32.ofNat B.slots.size)] 2)) (s₁.setTop (mkF m 2 #[.val (.ref d), .val (.int (Int32.ofNat B.slots.size))] [.ref d, .int (Int32.ofNat B.slots.size)])) := c1.trans (by
    refine XS.iloadN X0.here hexec rfl (hb hbytes d0) rfl ?_
    refine XS.aloadN X0.here hexec rfl (hb hbytes d1) rfl rfl ?_
    exact Steps.refl _)
  have c3 : Steps p.tables e below (s₁.setTop (entryFrame m #[.ref d, .int (Int32.ofNat B.slots.size)] 2)) (s₁.setTop (mkF m 8 #[.val (.ref d), .val (.int (Int32.ofNat B.slots.size))] [.int (lo8 (ushr (Int32.ofNat B.slots.size - Int32.ofNat B.slots.size) 31))])) := c2.trans (by
    refine X0.alen hexec hB0 rfl rfl (hb hbytes d2) ?_
    refine XS.isub X0.here hexec rfl (hb hbytes d3) rfl ?_
    refine bipushV X0.here hexec rfl 31 (hb hbytes d4) (by decide) ?_
    refine iushr X0.here hexec rfl (hb hbytes d6) rfl ?_
    refine i2b X0.here hexec rfl (hb hbytes d7) rfl ?_
    exact Steps.refl _)
  have e0 : lo8 (ushr (Int32.ofNat B.slots.size - Int32.ofNat B.slots.size) 31) = 0 := by rw [Int32.sub_self]; decide
  rw [e0] at c3
  exact ⟨s₁, some (.int 0), _, _, _, X0, rfl, rfl, rfl, (fun h => by cases h), ⟨rfl, hh0⟩, fun fs hl => c3.trans (X0.ireturnOut hexec hret rfl (Or.inr (Or.inr (Or.inl rfl))) (hb hbytes d8) hl)⟩
end CodL
/-- the String at a is Latin-1 over a new byte[] (the heap's one new cell): the low bytes of the len chars of A from o on; every cell but a is kept -/
def Got (a : Addr) (D : Cell) (fV fC : Field) (A : Cell) (o len : Nat) (r : Option Value) (s u : State) : Prop := r = none ∧ ∃ D' V : Cell, Blank "java/lang/String" a D' u ∧ Same D D' [fV.slot, fC.slot] ∧ D'.slots[fV.slot]? = some (.ref s.heap.size) ∧ D'.slots[fC.slot]? = some (.int 0) ∧ Arr .byte s.heap.size V u ∧ V.vm = .none ∧ u.vm.findClass "[B" = some V.cls ∧ V.slots.size = len ∧ (∀ j, j < len → V.slots[j]? = some (.int (lo8 (cv A (o + j))))) ∧ (∀ (y : Addr) (c : Cell), y ≠ a → s.heap[y]? = some c → u.heap[y]? = some c) ∧ u.heap.size = s.heap.size + 1
theorem Got.mv {a : Addr} {D A : Cell} {fV fC : Field} {o len : Nat} : ∀ r (U U' V V' : State), U'.heap = U.heap → V.vm.Alike V'.vm → V'.heap = V.heap → Got a D fV fC A o len r U V → Got a D fV fC A o len r U' V' :=
  fun r U U' V V' h1 hal h2 ⟨e0, D', X, a1, a2, a3, a4, a5, a6, a7, a8, a9, a10, a11⟩ => ⟨e0, D', X, a1.mv hal h2, a2, by rw [h1]; exact a3, a4, by rw [h1]; exact a5.mv hal h2, a6, by rw [hal.findClass]; exact a7, a8, a9, by rw [h1, h2]; exact a10, by rw [h1, h2]; exact a11⟩
namespace New4
def yN : MethodName := ⟨"java/lang/String", "<init>", "([CIILjava/lang/Void;)V"⟩
abbrev yB : ByteArray := jdk_42_method_149_code
theorem d0 : decode yB 0 = .ok (.aload_n 0, 1) := by decide +kernel
theorem d1 : decode yB 1 = .ok (.invokespecial 1, 3) := by decide +kernel
theorem d4 : decode yB 4 = .ok (.iload_n 3, 1) := by decide +kernel
theorem d5 : decode yB 5 = .ok (.ifCond (.ne) 22, 3) := by decide +kernel
theorem d27 : decode yB 27 = .ok (.getstatic 38, 3) := by decide +kernel
theorem d30 : decode yB 30 = .ok (.ifCond (.eq) 28, 3) := by decide +kernel
theorem d33 : decode yB 33 = .ok (.aload_n 1, 1) := by decide +kernel
theorem d34 : decode yB 34 = .ok (.iload_n 2, 1) := by decide +kernel
theorem d35 : decode yB 35 = .ok (.iload_n 3, 1) := by decide +kernel
theorem d36 : decode yB 36 = .ok (.invokestatic 177, 3) := by decide +kernel
theorem d39 : decode yB 39 = .ok (.astore 5, 2) := by decide +kernel
theorem d41 : decode yB 41 = .ok (.aload_n 0, 1) := by decide +kernel
theorem d42 : decode yB 42 = .ok (.aload 5, 2) := by decide +kernel
theorem d44 : decode yB 44 = .ok (.iload_n 3, 1) := by decide +kernel
theorem d45 : decode yB 45 = .ok (.invokestatic 47, 3) := by decide +kernel
theorem d48 : decode yB 48 = .ok (.putfield 15, 3) := by decide +kernel
theorem d51 : decode yB 51 = .ok (.aload_n 0, 1) := by decide +kernel
theorem d52 : decode yB 52 = .ok (.aload 5, 2) := by decide +kernel
theorem d54 : decode yB 54 = .ok (.putfield 9, 3) := by decide +kernel
theorem d57 : decode yB 57 = .ok (.return_, 1) := by decide +kernel
def site : List Cond := [.fieldLink "java/lang/String" 38 "java/lang/String" "COMPACT_STRINGS" "Z", Cmp3.tab, CodL.tab, .laysFinal "java/lang/String" "java/lang/String" "value" "[B", .fieldLink "java/lang/String" 9 "java/lang/String" "value" "[B", .laysFinal "java/lang/String" "java/lang/String" "coder" "B", .fieldLink "java/lang/String" 15 "java/lang/String" "coder" "B"] ++ objW "java/lang/String" 1 ++ staticW "java/lang/String" 177 Cmp3.yN ++ staticW "java/lang/String" 47 CodL.yN
def tab : Cond := tabOf yN yB 6 none site
def P (a : Addr) (D : Cell) (fV fC : Field) (b : Addr) (A : Cell) (z : Int32) (o len : Nat) (args : Array Value) (s : State) : Prop := args = #[.ref a, .ref b, .int (Int32.ofNat o), .int (Int32.ofNat len), .null] ∧ Blank "java/lang/String" a D s ∧ Found "java/lang/String" "value" "[B" fV s ∧ Found "java/lang/String" "coder" "B" fC s ∧ Ch b A s ∧ StaticIs s "java/lang/String" "COMPACT_STRINGS" "Z" (.int z) ∧ ¬ z = 0 ∧ 0 < len ∧ o + len ≤ A.slots.size ∧ len ≤ 536870912 ∧ ∀ i, i < len → ¬ 255 < cv A (o + i)
def E (a : Addr) (D : Cell) (fV fC : Field) (A : Cell) (o len : Nat) (r : Option Value) (s u : State) : Prop := Got a D fV fC A o len r s u
/-- len > 0, no char of the range above 255: a Latin-1 String of their low bytes -/
theorem law (l : Launch) (a : Addr) (D : Cell) (fV fC : Field) (b : Addr) (A : Cell) (z : Int32) (o len : Nat) : Law l yN 5 4 2 35 yB 6 none site (P a D fV fC b A z o len) (E a D fV fC A o len) [⟨a, fC.slot⟩, ⟨a, fV.slot⟩] 1 len := by
  refine Law.of_walk (plainFor_of_name (by decide +kernel)) (by decide +kernel) (by decide +kernel) (by decide) (fun _ _ h => by rw [h.1]; rfl) (fun _ U U' hal hh h => ⟨h.1, h.2.1.mv hal hh, h.2.2.1.al hal, h.2.2.2.1.al hal, h.2.2.2.2.1.mv hal hh, h.2.2.2.2.2.1.there hal hh, h.2.2.2.2.2.2⟩) (fun r U U' V V' h1 hal h2 h => Got.mv r U U' V V' h1 hal h2 h) ?_
  intro p e s m args below meth c s₁ X0 hexec hbytes hml hret hlk hnm hown hh0 W hP
  obtain ⟨rfl, hB, f1, f2, hA, s1, hz, l0, l1, l2, hp⟩ := hP
  have a31 := hA.1.2.2.2
  have c1 : Steps p.tables e below (s₁.setTop (entryFrame m #[.ref a, .ref b, .int (Int32.ofNat o), .int (Int32.ofNat len), .null] 6)) (s₁.setTop (mkF m 0 #[.val (.ref a), .val (.ref b), .val (.int (Int32.ofNat o)), .val (.int (Int32.ofNat len)), .val .null, .unset] [])) := entry rfl
  have c2 : Steps p.tables e below (s₁.setTop (entryFrame m #[.ref a, .ref b, .int (Int32.ofNat o), .int (Int32.ofNat len), .null] 6)) (s₁.setTop (mkF m 1 #[.val (.ref a), .val (.ref b), .val (.int (Int32.ofNat o)), .val (.int (Int32.ofNat len)), .val .null, .unset] [.ref a])) := c1.trans (by
    refine XS.aloadN X0.here hexec rfl (hb hbytes d0) rfl rfl ?_
    exact Steps.refl _)
  obtain ⟨T3, X3, q3, st3⟩ := X0.oinit hexec hown (wks W (objW "java/lang/String" 1)) (g := (mkF m 1 #[.val (.ref a), .val (.ref b), .val (.int (Int32.ofNat o)), .val (.int (Int32.ofNat len)), .val .null, .unset] [.ref a])) rfl (by rw [hml]; rfl) (rest := []) rfl (hb hbytes d1) (W := 0) (by show 2 * 0 + 0 ≤ _; decide) (Nat.le_of_ble_eq_true rfl) (Nat.le_of_ble_eq_true rfl)
  have hh3 := q3.trans hh0
  have c4 : Steps p.tables e below (s₁.setTop (entryFrame m #[.ref a, .ref b, .int (Int32.ofNat o), .int (Int32.ofNat len), .null] 6)) (T3.setTop (mkF m 27 #[.val (.ref a), .val (.ref b), .val (.int (Int32.ofNat o)), .val (.int (Int32.ofNat len)), .val .null, .unset] [])) := (c2.trans (st3 _ (Steps.refl _))).trans (by
    refine XS.iloadN X3.here hexec rfl (hb hbytes d4) rfl ?_
    refine XS.ifYes X3.here hexec rfl (pc0 := 5) rfl (hb hbytes d5) rfl (i0_ne_t (nz32 (by omega) l0)) (by decide) rfl ?_
    exact Steps.refl _)
  obtain ⟨T5, X5, q5, st5⟩ := X3.sget hexec hown (wk W (.fieldLink "java/lang/String" 38 "java/lang/String" "COMPACT_STRINGS" "Z")) s1 (fun _ _ h => by rw [hh3]; exact h) (g := (mkF m 27 #[.val (.ref a), .val (.ref b), .val (.int (Int32.ofNat o)), .val (.int (Int32.ofNat len)), .val .null, .unset] [])) rfl (hb hbytes d27)
  have hh5 := q5.trans hh3
  have c6 : Steps p.tables e below (s₁.setTop (entryFrame m #[.ref a, .ref b, .int (Int32.ofNat o), .int (Int32.ofNat len), .null] 6)) (T5.setTop (mkF m 30 #[.val (.ref a), .val (.ref b), .val (.int (Int32.ofNat o)), .val (.int (Int32.ofNat len)), .val .null, .unset] [.int z])) := c4.trans (st5 _ (Steps.refl _))
  have c7 : Steps p.tables e below (s₁.setTop (entryFrame m #[.ref a, .ref b, .int (Int32.ofNat o), .int (Int32.ofNat len), .null] 6)) (T5.setTop (mkF m 36 #[.val (.ref a), .val (.ref b), .val (.int (Int32.ofNat o)), .val (.int (Int32.ofNat len)), .val .null, .unset] [.int (Int32.ofNat len), .int (Int32.ofNat o), .ref b])) := c6.trans (by
    refine XS.ifNo X5.here hexec rfl (hb hbytes d30) rfl (i0_eq_f hz) ?_
    refine XS.aloadN X5.here hexec rfl (hb hbytes d33) rfl rfl ?_
    refine XS.iloadN X5.here hexec rfl (hb hbytes d34) rfl ?_
    refine XS.iloadN X5.here hexec rfl (hb hbytes d35) rfl ?_
    exact Steps.refl _)
  obtain ⟨v8, T8, X8, E8, g8⟩ := X5.callS hexec (Cmp3.law l b A o len) hown (wks W (staticW "java/lang/String" 177 Cmp3.yN)) (wk W Cmp3.tab) (W := 0) (Nat.le_of_ble_eq_true rfl) (Nat.le_of_ble_eq_true rfl) (Nat.le_refl _) (by show 0 + len ≤ len; omega) (g := (mkF m 36 #[.val (.ref a), .val (.ref b), .val (.int (Int32.ofNat o)), .val (.int (Int32.ofNat len)), .val .null, .unset] [.int (Int32.ofNat len), .int (Int32.ofNat o), .ref b])) rfl (by rw [hml]; rfl) c7 (argsL := [.ref b, .int (Int32.ofNat o), .int (Int32.ofNat len)]) (rest := []) rfl rfl (by show 2 * 0 + 0 ≤ _; decide) (hb hbytes d36) (⟨rfl, hA.mv X5.warmed.alike hh5, l1, l2, hp⟩)
  obtain ⟨e8, z8⟩ := E8
  obtain ⟨rfl, N, n1, n2, n3, n4, n5, n6⟩ := NewArr.mv _ T5 s _ _ hh5.symm (Vm.Alike.refl _) rfl e8
  rw [hh5] at z8
  have hB1 := hB.keep X8.warmed.alike (n6 _ _ hB.1)
  have hne : s.heap.size ≠ a := (Nat.ne_of_lt (Array.getElem?_eq_some_iff.mp hB.1).1).symm
  have c9 : Steps p.tables e below (s₁.setTop (entryFrame m #[.ref a, .ref b, .int (Int32.ofNat o), .int (Int32.ofNat len), .null] 6)) (T8.setTop (mkF m 39 #[.val (.ref a), .val (.ref b), .val (.int (Int32.ofNat o)), .val (.int (Int32.ofNat len)), .val .null, .unset] [.ref s.heap.size])) := g8
  have c10 : Steps p.tables e below (s₁.setTop (entryFrame m #[.ref a, .ref b, .int (Int32.ofNat o), .int (Int32.ofNat len), .null] 6)) (T8.setTop (mkF m 45 #[.val (.ref a), .val (.ref b), .val (.int (Int32.ofNat o)), .val (.int (Int32.ofNat len)), .val .null, .val (.ref s.heap.size)] [.int (Int32.ofNat N.slots.size), .ref s.heap.size, .ref a])) := by
    have hc : Steps p.tables e below (s₁.setTop (entryFrame m #[.ref a, .ref b, .int (Int32.ofNat o), .int (Int32.ofNat len), .null] 6)) (T8.setTop (mkF m 45 #[.val (.ref a), .val (.ref b), .val (.int (Int32.ofNat o)), .val (.int (Int32.ofNat len)), .val .null, .val (.ref s.heap.size)] [.int (Int32.ofNat len), .ref s.heap.size, .ref a])) := c9.trans (by
      refine XS.astore X8.here hexec rfl (hb hbytes d39) rfl rfl rfl ?_
      refine XS.aloadN X8.here hexec rfl (hb hbytes d41) rfl rfl ?_
      refine XS.aload X8.here hexec rfl (hb hbytes d42) rfl rfl ?_
      refine XS.iloadN X8.here hexec rfl (hb hbytes d44) rfl ?_
      exact Steps.refl _)
    rw [n4]; exact hc
  obtain ⟨v11, T11, X11, E11, g11⟩ := X8.callS hexec (CodL.law l s.heap.size N) hown (wks W (staticW "java/lang/String" 47 CodL.yN)) (wk W CodL.tab) (W := 1) (Nat.le_of_ble_eq_true rfl) (Nat.le_of_ble_eq_true rfl) (Nat.le_refl _) (by show 0 + len + 0 ≤ len; omega) (g := (mkF m 45 #[.val (.ref a), .val (.ref b), .val (.int (Int32.ofNat o)), .val (.int (Int32.ofNat len)), .val .null, .val (.ref s.heap.size)] [.int (Int32.ofNat N.slots.size), .ref s.heap.size, .ref a])) rfl (by rw [hml]; rfl) c10 (argsL := [.ref s.heap.size, .int (Int32.ofNat N.slots.size)]) (rest := [.ref a]) rfl rfl (by show 2 * 0 + (1 + 0) ≤ _; decide) (hb hbytes d45) (⟨rfl, n1⟩)
  obtain ⟨rfl, q11⟩ := E11
  have hB11 := hB1.mv (X8.warmed.alike.symm.trans X11.warmed.alike) q11
  have c12 : Steps p.tables e below (s₁.setTop (entryFrame m #[.ref a, .ref b, .int (Int32.ofNat o), .int (Int32.ofNat len), .null] 6)) (T11.setTop (mkF m 48 #[.val (.ref a), .val (.ref b), .val (.int (Int32.ofNat o)), .val (.int (Int32.ofNat len)), .val .null, .val (.ref s.heap.size)] [.int 0, .ref a])) := g11
  obtain ⟨T13, X13, p13, bl13, sl13, st13⟩ := X11.finit hexec hown (wk W (.fieldLink "java/lang/String" 15 "java/lang/String" "coder" "B")) (Or.inr ⟨_, (wk W (.laysFinal "java/lang/String" "java/lang/String" "coder" "B"))⟩) (Or.inl ⟨rfl, hnm⟩) f2 (Or.inl rfl) hB11 (t := .byte) (by decide +kernel) rfl (g := (mkF m 48 #[.val (.ref a), .val (.ref b), .val (.int (Int32.ofNat o)), .val (.int (Int32.ofNat len)), .val .null, .val (.ref s.heap.size)] [.int 0, .ref a])) rfl (rest := []) rfl (hb hbytes d48)
  have c14 : Steps p.tables e below (s₁.setTop (entryFrame m #[.ref a, .ref b, .int (Int32.ofNat o), .int (Int32.ofNat len), .null] 6)) (T13.setTop (mkF m 54 #[.val (.ref a), .val (.ref b), .val (.int (Int32.ofNat o)), .val (.int (Int32.ofNat len)), .val .null, .val (.ref s.heap.size)] [.ref s.heap.size, .ref a])) := (c12.trans (st13 _ (Steps.refl _))).trans (by
    refine XS.aloadN X13.here hexec rfl (hb hbytes d51) rfl rfl ?_
    refine XS.aload X13.here hexec rfl (hb hbytes d52) rfl rfl ?_
    exact Steps.refl _)
  obtain ⟨T15, X15, p15, bl15, sl15, st15⟩ := X13.finit hexec hown (wk W (.fieldLink "java/lang/String" 9 "java/lang/String" "value" "[B")) (Or.inr ⟨_, (wk W (.laysFinal "java/lang/String" "java/lang/String" "value" "[B"))⟩) (Or.inl ⟨rfl, hnm⟩) f1 (Or.inl rfl) bl13 (t := (.array .byte)) (by decide +kernel) rfl (g := (mkF m 54 #[.val (.ref a), .val (.ref b), .val (.int (Int32.ofNat o)), .val (.int (Int32.ofNat len)), .val .null, .val (.ref s.heap.size)] [.ref s.heap.size, .ref a])) rfl (rest := []) rfl (hb hbytes d54)
  have c16 : Steps p.tables e below (s₁.setTop (entryFrame m #[.ref a, .ref b, .int (Int32.ofNat o), .int (Int32.ofNat len), .null] 6)) (T15.setTop (mkF m 57 #[.val (.ref a), .val (.ref b), .val (.int (Int32.ofNat o)), .val (.int (Int32.ofNat len)), .val .null, .val (.ref s.heap.size)] [])) := c14.trans (st15 _ (Steps.refl _))
  have ap := apart (Or.inr ⟨_, (wk W (.laysFinal "java/lang/String" "java/lang/String" "value" "[B"))⟩) (Or.inr ⟨_, (wk W (.laysFinal "java/lang/String" "java/lang/String" "coder" "B"))⟩) f1 f2 (t₁ := .array .byte) (t₂ := .byte) (by decide +kernel) (by decide +kernel) (by decide)
  have al := X8.warmed.alike.symm.trans X15.warmed.alike
  have n7 : T11.heap[s.heap.size]? = some N := by rw [q11]; exact n1.1
  exact ⟨T15, none, _, _, _, X15, by simp, rfl, by omega, (fun _ => rfl), ⟨rfl, _, N, bl15, ((Same.refl D _).set _ (by simp)).set _ (by simp), sl15, (Cell.slots_setSlot_ne _ ap).trans sl13, n1.keep al (p15.other hne (p13.other hne n7)), n2, by rw [al.findClass]; exact n3, n4, n5, fun y c h1 h2 => p15.other h1 (p13.other h1 (by rw [q11]; exact n6 y c h2)), by rw [p15.2.2, p13.2.2, q11]; exact z8⟩, fun fs hl => c16.trans (X15.returnOut hexec hret (hb hbytes d57) hl)⟩
end New4
namespace New1
def yN : MethodName := ⟨"java/lang/String", "<init>", "([C)V"⟩
abbrev yB : ByteArray := jdk_42_method_3_code
theorem d0 : decode yB 0 = .ok (.aload_n 0, 1) := by decide +kernel
theorem d1 : decode yB 1 = .ok (.aload_n 1, 1) := by decide +kernel
theorem d2 : decode yB 2 = .ok (.iconst 0, 1) := by decide +kernel
theorem d3 : decode yB 3 = .ok (.aload_n 1, 1) := by decide +kernel
theorem d4 : decode yB 4 = .ok (.arraylength, 1) := by decide +kernel
theorem d5 : decode yB 5 = .ok (.aconst_null, 1) := by decide +kernel
theorem d6 : decode yB 6 = .ok (.invokespecial 27, 3) := by decide +kernel
theorem d9 : decode yB 9 = .ok (.return_, 1) := by decide +kernel
def site : List Cond := [New4.tab] ++ initW "java/lang/String" 27 New4.yN
def tab : Cond := tabOf yN yB 2 none site
def P (a : Addr) (D : Cell) (fV fC : Field) (b : Addr) (A : Cell) (z : Int32) (args : Array Value) (s : State) : Prop := args = #[.ref a, .ref b] ∧ Blank "java/lang/String" a D s ∧ Found "java/lang/String" "value" "[B" fV s ∧ Found "java/lang/String" "coder" "B" fC s ∧ Ch b A s ∧ StaticIs s "java/lang/String" "COMPACT_STRINGS" "Z" (.int z) ∧ ¬ z = 0 ∧ 0 < A.slots.size ∧ A.slots.size ≤ 536870912 ∧ ∀ i, i < A.slots.size → ¬ 255 < cv A i
def E (a : Addr) (D : Cell) (fV fC : Field) (A : Cell) (r : Option Value) (s u : State) : Prop := Got a D fV fC A 0 A.slots.size r s u
/-- new String(chars), not empty, no char above 255: a Latin-1 String of their low bytes -/
theorem law (l : Launch) (a : Addr) (D : Cell) (fV fC : Field) (b : Addr) (A : Cell) (z : Int32) : Law l yN 2 1 3 52 yB 2 none site (P a D fV fC b A z) (E a D fV fC A) [⟨a, fC.slot⟩, ⟨a, fV.slot⟩] 1 A.slots.size := by
  refine Law.of_walk (plainFor_of_name (by decide +kernel)) (by decide +kernel) (by decide +kernel) (by decide) (fun _ _ h => by rw [h.1]; rfl) (fun _ U U' hal hh h => ⟨h.1, h.2.1.mv hal hh, h.2.2.1.al hal, h.2.2.2.1.al hal, h.2.2.2.2.1.mv hal hh, h.2.2.2.2.2.1.there hal hh, h.2.2.2.2.2.2⟩) (fun r U U' V V' h1 hal h2 h => Got.mv r U U' V V' h1 hal h2 h) ?_
  intro p e s m args below meth c s₁ X0 hexec hbytes hml hret hlk hnm hown hh0 W hP
  obtain ⟨rfl, hB, f1, f2, hA, s1, hz, l0, l2, hp⟩ := hP
  have c1 : Steps p.tables e below (s₁.setTop (entryFrame m #[.ref a, .ref b] 2)) (s₁.setTop (mkF m 0 #[.val (.ref a), .val (.ref b)] [])) := entry rfl
  have c2 : Steps p.tables e below (s₁.setTop (entryFrame m #[.ref a, .ref b] 2)) (s₁.setTop (mkF m 6 #[.val (.ref a), .val (.ref b)] [.null, .int (Int32.ofNat A.slots.size), .int 0, .ref b, .ref a])) := c1.trans (by
    refine XS.aloadN X0.here hexec rfl (hb hbytes d0) rfl rfl ?_
    refine XS.aloadN X0.here hexec rfl (hb hbytes d1) rfl rfl ?_
    refine iconstV X0.here hexec rfl 0 (hb hbytes d2) (by decide) ?_
    refine XS.aloadN X0.here hexec rfl (hb hbytes d3) rfl rfl ?_
    refine X0.alen hexec (hA.1.mv X0.warmed.alike hh0) rfl rfl (hb hbytes d4) ?_
    refine XS.aconstNull X0.here hexec rfl (hb hbytes d5) ?_
    exact Steps.refl _)
  obtain ⟨v3, T3, X3, E3, g3⟩ := X0.callN hexec (New4.law l a D fV fC b A z 0 A.slots.size) rfl hown (wks W (initW "java/lang/String" 27 New4.yN)) (W New4.tab (by simp only [site, List.mem_cons, List.mem_append, true_or, or_true])) (W := 0) (Nat.le_of_ble_eq_true rfl) (Nat.le_of_ble_eq_true rfl) (Nat.le_refl _) (by show 0 + A.slots.size ≤ A.slots.size; omega) (g := (mkF m 6 #[.val (.ref a), .val (.ref b)] [.null, .int (Int32.ofNat A.slots.size), .int (Int32.ofNat 0), .ref b, .ref a])) rfl (by rw [hml]; rfl) c2 (argsL := [.ref b, .int (Int32.ofNat 0), .int (Int32.ofNat A.slots.size), .null]) (rest := []) rfl rfl (by show 2 * 0 + 0 ≤ _; decide) (hb hbytes d6) (⟨rfl, hB.mv X0.warmed.alike hh0, f1.al X0.warmed.alike, f2.al X0.warmed.alike, hA.mv X0.warmed.alike hh0, s1.there X0.warmed.alike hh0, hz, l0, by omega, l2, fun i hi => by rw [Nat.zero_add]; exact hp i hi⟩)
  have e0 := Got.mv _ s₁ s _ _ hh0.symm (Vm.Alike.refl _) rfl E3
  obtain rfl := e0.1
  have c4 : Steps p.tables e below (s₁.setTop (entryFrame m #[.ref a, .ref b] 2)) (T3.setTop (mkF m 9 #[.val (.ref a), .val (.ref b)] [])) := g3
  exact ⟨T3, none, _, _, _, X3, by simp, rfl, by omega, (fun _ => rfl), e0, fun fs hl => c4.trans (X3.returnOut hexec hret (hb hbytes d9) hl)⟩
theorem pays {l : Launch} {R : Room} {p : Program} {e : Env} {below : List Frame} {s : State} {sargs : Array Value} {len W : Nat} (a : Addr) (D : Cell) (fV fC : Field) (b : Addr) (A : Cell) (z : Int32) (htab : tab.before sargs s = true) (hfr : 4 ≤ R.frames) (hlo : W + 65 ≤ R.locals) :
    Back l R p e below s sargs yN len W (fun A₁ a₁ => A₁.cells + 1 ≤ R.cells ∧ A₁.slots + A.slots.size ≤ R.slots ∧ P a D fV fC b A z a₁ A₁.U) (fun A₁ _ v₁ B₁ => E a D fV fC A v₁ A₁.U B₁.U ∧ B₁.locs = A₁.locs ++ [⟨a, fC.slot⟩, ⟨a, fV.slot⟩] ∧ B₁.cells = A₁.cells + 1 ∧ B₁.slots = A₁.slots + A.slots.size) :=
  (law l a D fV fC b A z).pays htab hfr (by omega)
end New1
/-- the byte, read back as charAt reads it, is the char -/
theorem lo8_mask {x : Int32} (h0 : ¬ x < 0) (h1 : ¬ 255 < x) : lo8 x &&& 255 = x := by
  have t : ∀ k : Fin 256, lo8 (Int32.ofNat k.val) &&& 255 = Int32.ofNat k.val := by decide +kernel
  rw [Int32.lt_iff_toInt_lt] at h0 h1
  have e0 : (0 : Int32).toInt = 0 := rfl
  have e1 : (255 : Int32).toInt = 255 := rfl
  obtain ⟨k, hk⟩ : ∃ k : Nat, x.toInt = k := ⟨x.toInt.toNat, by omega⟩
  have hx : x = Int32.ofNat k := Int32.toInt_inj.mp (by rw [hk, Int32.toInt_ofNat_small (by omega)])
  rw [hx]
  exact t ⟨k, by omega⟩
end StrChars
namespace StrChars.Road
open Jvm Sem ClassFile Op Lib Jvm.Stand Jvm.Free Jvm.Free.XT
open Jvm.Lib.Cold (StaticIs)
abbrev ST : String := "java/lang/String"
/-- every table word that New1's law asks, flat -/
abbrev words : List Jvm.Cond := [.code New1.yN New1.yB 2 none, .initialized ST, .methodLink ST 27 New4.yN, .instanceMethod New4.yN,
  .code New4.yN New4.yB 6 none, .fieldLink ST 38 ST "COMPACT_STRINGS" "Z", .laysFinal ST ST "value" "[B", .fieldLink ST 9 ST "value" "[B", .laysFinal ST ST "coder" "B", .fieldLink ST 15 ST "coder" "B",
  .methodLink ST 1 Lib.objectInit, .instanceMethod Lib.objectInit, .code Lib.objectInit ⟨#[0xb1]⟩ 1 none, .methodLink ST 177 Cmp3.yN, .static Cmp3.yN, .methodLink ST 47 CodL.yN, .static CodL.yN,
  .code Cmp3.yN Cmp3.yB 6 (some (.array .byte)), .initialized U16, .arrayClass .byte, .methodLink U16 115 Cmp5.yN, .static Cmp5.yN, .code Cmp5.yN Cmp5.yB 7 (some .int), .code CodL.yN CodL.yB 2 (some .byte)]
theorem tab_of {a : Array Value} {s : State} (h : ∀ w ∈ words, w.before a s = true) : New1.tab.before a s = true := by
  have h5 : Cmp5.tab.before a s = true := unparts (wk h (.code Cmp5.yN Cmp5.yB 7 (some .int))) (wks h (.initialized Cmp5.yN.cls :: Cmp5.site))
  have hc : CodL.tab.before a s = true := unparts (wk h (.code CodL.yN CodL.yB 2 (some .byte))) (wks h (.initialized CodL.yN.cls :: CodL.site))
  have q5 : ∀ w ∈ Cmp5.tab :: words, w.before a s = true := fun w hw => (List.mem_cons.mp hw).elim (fun e => e ▸ h5) (h w)
  have h3 : Cmp3.tab.before a s = true := unparts (wk q5 (.code Cmp3.yN Cmp3.yB 6 (some (.array .byte)))) (wks q5 (.initialized Cmp3.yN.cls :: Cmp3.site))
  have q3 : ∀ w ∈ Cmp3.tab :: CodL.tab :: words, w.before a s = true := fun w hw => (List.mem_cons.mp hw).elim (fun e => e ▸ h3) fun hw => (List.mem_cons.mp hw).elim (fun e => e ▸ hc) (h w)
  have h4 : New4.tab.before a s = true := unparts (wk q3 (.code New4.yN New4.yB 6 none)) (wks q3 (.initialized New4.yN.cls :: New4.site))
  have q4 : ∀ w ∈ New4.tab :: words, w.before a s = true := fun w hw => (List.mem_cons.mp hw).elim (fun e => e ▸ h4) (h w)
  exact unparts (wk q4 (.code New1.yN New1.yB 2 none)) (wks q4 (.initialized New1.yN.cls :: New1.site))
/-- the words ride from the start Z to the walk's own state -/
theorem moved {Z s : State} {a0 args : Array Value} (hZ : Z.Warmed39 s.vm) (hw : ∀ d ∈ words, d.before a0 Z = true) : ∀ d ∈ words, d.before args s = true := fun d hd => by
  have q := hw d hd
  have t : ∀ d ∈ words, d = .arrayClass .byte ∨ (d.onTables && d.keepsFace) = true := by decide +kernel
  rcases t d hd with rfl | t
  · exact RoadKit.mvA hZ q
  · exact RoadKit.mv hZ q t
/-- WHAT COMES BACK, over the tables of the start Z: h the heap at the call, h' behind it -/
def Q (Z : State) (x : Addr) (A : Cell) (h : Heap) (v : Option Value) (h' : Heap) (L : List Loc) : Prop := v = none ∧ (∀ y ∈ L, y.base = x) ∧ RoadKit.Keep h h' [x] ∧ h'.size = h.size + 1 ∧ RoadKit.Exa Z h' x ST ∧ RoadKit.Fld Z h' x ST "value" "[B" (.ref h.size) ∧ RoadKit.Fld Z h' x ST "coder" "B" (.int 0) ∧
  (∃ V : Cell, RoadKit.Arr Z h' h.size V .byte ∧ V.vm = .none ∧ Z.vm.findClass "[B" = some V.cls ∧ V.slots.size = A.slots.size ∧ ∀ j, j < A.slots.size → V.slots[j]? = some (.int (lo8 (cv A j)))) ∧
  ∀ (O n d : String) (w : Value), RoadKit.Fld Z h x O n d w → RoadKit.slotOf Z O n d ≠ RoadKit.slotOf Z ST "value" "[B" → RoadKit.slotOf Z O n d ≠ RoadKit.slotOf Z ST "coder" "B" → RoadKit.Fld Z h' x O n d w
/-- **new String(chars) AT A CALL, IN THE ROAD'S FORM**: for specialBack behind newO: x the fresh String, b the char[] with the cell A -/
theorem back {p : Program} {l : Launch} {e : Env} {R : Room} {s : State} {args : Array Value} {below : List Frame} {len W : Nat} {Z : State} {a0 : Array Value} {h : Heap} (hZ : Z.Warmed39 s.vm) (hw : ∀ d ∈ words, d.before a0 Z = true) {kI : Nat} (wi : (Jvm.Cond.instantiable ST kI).before a0 Z = true)
    {x b : Addr} {A : Cell} {z : Int32} {v0 c0 : Value} (E : RoadKit.Exa Z h x ST) (V : RoadKit.Fld Z h x ST "value" "[B" v0) (C : RoadKit.Fld Z h x ST "coder" "B" c0) (K : RoadKit.Arr Z h b A .char) (hty : Typed .char A) (S : RoadKit.Sta Z h ST "COMPACT_STRINGS" "Z" (.int z)) (hz : ¬ z = 0)
    (l0 : 0 < A.slots.size) (l2 : A.slots.size ≤ 536870912) (hp : ∀ i, i < A.slots.size → ¬ 255 < cv A i) (hfr : 4 ≤ R.frames) (hlo : W + 65 ≤ R.locals) :
    Back l R p e below s args New1.yN len W (fun P a => a = #[.ref x, .ref b] ∧ P.U.heap = h ∧ P.cells + 1 ≤ R.cells ∧ P.slots + A.slots.size ≤ R.slots)
      (fun P _ v B => ∃ L, Q Z x A h v B.U.heap L ∧ B.locs = P.locs ++ L ∧ B.cells = P.cells + 1 ∧ B.slots = P.slots + A.slots.size) := by
  intro m meth c P g ig mk a X hg hsize hdg hW hn hp'
  obtain ⟨rfl, rfl, r1, r2⟩ := hp'
  have al : Z.vm.Alike P.U.vm := hZ.alike.trans X.warmed.alike
  obtain ⟨D, cfV, kV, iV, fV, hD, gV, stV, knV, obV, asV, slV⟩ := id V
  obtain ⟨D', cfC, kC, iC, fC, hD', gC, stC, -, -, asC, slC⟩ := id C
  cases hD.symm.trans hD'
  obtain ⟨D2, kD, e1, e2, e3, e4, e5⟩ := id E
  cases hD.symm.trans e1
  obtain ⟨c2, k2, i1, i2, i3, -⟩ := Cond.instantiable_spec wi
  cases e2.symm.trans i1
  cases e3.symm.trans i2
  obtain ⟨kU, u1, u2⟩ := al.2.2 _ _ e3
  have hB : Blank ST x D P.U := ⟨hD, ⟨knV, fun q hq => by rw [hq] at obV; cases obV⟩, by rw [al.findClass]; exact e2, kU, u1, by rw [u2]; exact i3, by rw [u2]; exact e5 i3⟩
  have F1 : Found ST "value" "[B" fV P.U := ⟨SBG.found_only al ⟨cfV, kV, iV, gV⟩, stV⟩
  have F2 : Found ST "coder" "B" fC P.U := ⟨SBG.found_only al ⟨cfC, kC, iC, gC⟩, stC⟩
  have hA : Ch b A P.U := ⟨⟨K.1, State.isArrayOf_alike al K.2.1, K.2.2, by omega⟩, hty⟩
  have hS : StaticIs P.U ST "COMPACT_STRINGS" "Z" (.int z) := by
    obtain ⟨cfS, iS, kS, fS, st, cS, t1, t2, t3, t4, t5, t6, t7⟩ := S
    exact StaticIs.there (s := { Z with heap := P.U.heap }) ⟨cfS, iS, kS, fS, st, cS, t1, t2, t3, t4, t5, (fun q => by rw [q] at t6; cases t6), t7⟩ al rfl
  obtain ⟨v, B, X', ⟨⟨hv, E', V', q1, q2, q3, q4, q5, q6, q7, q8, q9, q10, q11⟩, hl, hc, hs⟩, st⟩ := New1.pays x D fV fC b A z (tab_of (moved hZ hw)) hfr hlo m meth c P g ig mk _ X hg hsize hdg hW hn ⟨r1, r2, rfl, hB, F1, F2, hA, hS, hz, l0, l2, hp⟩
  have al' : Z.vm.Alike B.U.vm := hZ.alike.trans X'.warmed.alike
  have hsz : E'.slots.size = D.slots.size := by
    obtain ⟨-, -, -, kB, w1, w2, w3⟩ := q1
    obtain ⟨kB', y1, y2⟩ := al'.2.2 _ _ e3
    rw [q2.2.1] at w1
    cases w1.symm.trans y1
    rw [w3, e5 i3, y2]
  refine ⟨v, B, X', ⟨_, ⟨hv, ?_, ⟨by omega, fun y cy hy hn' => q10 y cy (by simpa using hn') hy, fun y cy hy => ?_⟩, q11, ⟨E', _, q1.1, by rw [q2.2.1]; exact e2, by rw [q2.2.1]; exact e3, by rw [q2.1]; exact obV, fun _ => by rw [hsz]; exact e5 i3⟩,
    ⟨E', cfV, kV, iV, fV, q1.1, gV, stV, by rw [q2.1]; exact knV, by rw [q2.1]; exact obV, by rw [q2.2.1]; exact asV, q3⟩, ⟨E', cfC, kC, iC, fC, q1.1, gC, stC, by rw [q2.1]; exact knV, by rw [q2.1]; exact obV, by rw [q2.2.1]; exact asC, q4⟩,
    ⟨V', ⟨q5.1, State.isArrayOf_alike al'.symm q5.2.1, q5.2.2.1⟩, q6, by rw [← al'.findClass]; exact q7, q8, fun j hj => by have := q9 j hj; rwa [Nat.zero_add] at this⟩, fun O n d w F n1 n2 => ?_⟩, hl, hc, hs⟩, st⟩
  · intro y hy
    simp only [List.mem_cons, List.not_mem_nil, or_false] at hy
    rcases hy with rfl | rfl <;> rfl
  · by_cases q : y = x
    · subst q
      cases hD.symm.trans hy
      exact ⟨E', q1.1, q2.2.1, q2.1, hsz⟩
    · exact ⟨cy, q10 y cy q hy, rfl, rfl, rfl⟩
  · obtain ⟨D3, cf, k, i, f, g1, g2, g3, g4, g5, g6, g7⟩ := F
    cases hD.symm.trans g1
    simp only [RoadKit.slotOf, g2, gV, gC, Option.map_some, Option.getD_some] at n1 n2
    exact ⟨E', cf, k, i, f, q1.1, g2, g3, by rw [q2.1]; exact g4, by rw [q2.1]; exact g5, by rw [q2.2.1]; exact g6, by rw [q2.2.2 f.slot (by simp [n1, n2])]; exact g7⟩
end StrChars.Road
namespace StrChars.Road
open Jvm Sem ClassFile Op Lib Jvm.Stand Jvm.Free Jvm.Free.XT
/-- WHAT COMES BACK, the byte[] as a list of values -/
def QA (Z : State) (x : Addr) (zn : Int32) (cs : List Int32) (h : Heap) (v : Option Value) (h' : Heap) (L : List Loc) : Prop := v = none ∧ (∀ y ∈ L, y.base = x) ∧ RoadKit.Keep h h' [x] ∧ h'.size = h.size + 1 ∧ RoadKit.Exa Z h' x ST ∧ RoadKit.Fld Z h' x ST "value" "[B" (.ref h.size) ∧ RoadKit.Fld Z h' x ST "coder" "B" (.int 0) ∧
  (∃ kb, Z.vm.findClass "[B" = some kb ∧ RoadKit.Arv Z h' h.size kb .byte zn (cs.map fun c => .int (lo8 c)) (.int 0)) ∧
  ∀ (O n d : String) (w : Value), RoadKit.Fld Z h x O n d w → RoadKit.slotOf Z O n d ≠ RoadKit.slotOf Z ST "value" "[B" → RoadKit.slotOf Z O n d ≠ RoadKit.slotOf Z ST "coder" "B" → RoadKit.Fld Z h' x O n d w
/-- **new String(chars) AT A CALL, THE ARRAYS AS LISTS**: the char[] at b holds cs, not empty, no char above 255 -/
theorem backArv {p : Program} {l : Launch} {e : Env} {R : Room} {s : State} {args : Array Value} {below : List Frame} {len W : Nat} {Z : State} {a0 : Array Value} {h : Heap} (hZ : Z.Warmed39 s.vm) (hw : ∀ d ∈ words, d.before a0 Z = true) {kI : Nat} (wi : (Jvm.Cond.instantiable ST kI).before a0 Z = true)
    {x b : Addr} {k : ClassId} {zn z : Int32} {cs : List Int32} {dv v0 c0 : Value} (E : RoadKit.Exa Z h x ST) (V : RoadKit.Fld Z h x ST "value" "[B" v0) (C : RoadKit.Fld Z h x ST "coder" "B" c0) (K : RoadKit.Arv Z h b k .char zn (cs.map Value.int) dv) (S : RoadKit.Sta Z h ST "COMPACT_STRINGS" "Z" (.int z)) (hz : ¬ z = 0)
    (hlen : zn.toNatClampNeg = cs.length) (h0 : 0 < cs.length) (hbig : cs.length ≤ 536870912) (hall : ∀ c ∈ cs, ¬ 255 < c) (hfr : 4 ≤ R.frames) (hlo : W + 65 ≤ R.locals) :
    Back l R p e below s args New1.yN len W (fun P a => a = #[.ref x, .ref b] ∧ P.U.heap = h ∧ P.cells + 1 ≤ R.cells ∧ P.slots + cs.length ≤ R.slots)
      (fun P _ v B => ∃ L, QA Z x zn cs h v B.U.heap L ∧ B.locs = P.locs ++ L ∧ B.cells = P.cells + 1 ∧ B.slots = P.slots + cs.length) := by
  obtain ⟨A, K1, K2, K3, K4, K5, K6⟩ := K
  have e : A.slots.size = cs.length := K3.trans hlen
  have hat : ∀ (i : Nat) (hi : i < cs.length), A.slots[i]? = some (.int cs[i]) := fun i hi => by rw [K5 i (by omega)]; simp [List.getD_eq_getElem?_getD, hi]
  have hcv : ∀ (i : Nat) (hi : i < cs.length), cv A i = cs[i] := fun i hi => by unfold cv; rw [hat i hi]
  have hty : Typed .char A := fun i v hv => by
    have hi : i < A.slots.size := (Array.getElem?_eq_some_iff.mp hv).1
    have q := K5 i hi
    rw [hv] at q
    rw [Option.some.inj q]
    exact K6 i hi
  refine Back.mono (back hZ hw wi E V C K1 hty S hz (by omega) (by omega) (fun i hi => by rw [hcv i (by omega)]; exact hall _ (List.getElem_mem _)) hfr hlo) (fun P a hp => ⟨hp.1, hp.2.1, hp.2.2.1, by rw [e]; exact hp.2.2.2⟩) (fun P a v B hp hq => ?_)
  obtain ⟨L, ⟨q1, q2, q3, q4, q5, q6, q7, ⟨V', v1, v2, v3, v4, v5⟩, q9⟩, hl, hc, hs⟩ := hq
  refine ⟨L, ⟨q1, q2, q3, q4, q5, q6, q7, ⟨V'.cls, v3, V', v1, rfl, by rw [v4, e, hlen], K4, fun i hi => ?_, fun i hi => ?_⟩, q9⟩, hl, hc, by rw [hs, e]⟩
  · have hi' : i < cs.length := by omega
    rw [v5 i (by omega), hcv i hi']; simp [List.getD_eq_getElem?_getD, hi']
  · have hi' : i < cs.length := by omega
    simp only [List.getD_eq_getElem?_getD, List.getElem?_map, List.getElem?_eq_getElem hi', Option.map_some, Option.getD_some]
    exact fits_lo8 _
end StrChars.Road
namespace StrChars.Road
open Jvm Sem ClassFile Op Lib Jvm.Stand Jvm.Free Jvm.Free.XT
/-- WHAT COMES BACK, in the writer's own shape -/
def QV (Z : State) (x : Addr) (N : Int32) (bs : List Int32) (h : Heap) (n0 : Nat) (v : Option Value) (h' : Heap) (L : List Loc) : Prop := v = none ∧ RoadKit.Fr n0 L ∧ RoadKit.Keep h h' [x] ∧ RoadKit.Exa Z h' x ST ∧ RoadKit.Fld Z h' x ST "coder" "B" (.int 0) ∧
  ∃ (t : Addr) (kb : ClassId), n0 ≤ t ∧ h.size ≤ t ∧ ¬ t = x ∧ RoadKit.Fld Z h' x ST "value" "[B" (.ref t) ∧ RoadKit.Arv Z h' t kb .byte N (bs.map Value.int) (.int 0)
/-- **new String(chars) AT A CALL, FOR THE WRITER**: a char[] of n known ints, each 0 to 255 -/
theorem backV {p : Program} {l : Launch} {e : Env} {R : Room} {s : State} {args : Array Value} {below : List Frame} {len W : Nat} {Z : State} {a0 : Array Value} {h : Heap} (hZ : Z.Warmed39 s.vm) (hw : ∀ d ∈ words, d.before a0 Z = true) {kI : Nat} (wi : (Jvm.Cond.instantiable ST kI).before a0 Z = true)
    {x b : Addr} {kC : ClassId} {cs bs : List Int32} {d v0 c0 : Value} {z N : Int32} {n n0 : Nat} (hx0 : n0 ≤ x) (hh0 : n0 ≤ h.size) (E : RoadKit.Exa Z h x ST) (V : RoadKit.Fld Z h x ST "value" "[B" v0) (C : RoadKit.Fld Z h x ST "coder" "B" c0) (K : RoadKit.Arv Z h b kC .char N (cs.map Value.int) d) (S : RoadKit.Sta Z h ST "COMPACT_STRINGS" "Z" (.int z)) (hz : ¬ z = 0)
    (hn : cs.length = n) (hN : N = Int32.ofNat n) (l0 : 0 < n) (l2 : n ≤ 4000) (hp : ∀ c ∈ cs, ¬ c < 0 ∧ ¬ (255 : Int32) < c) (hb : bs = cs.map (fun c => c.toInt8.toInt32)) (hfr : 4 ≤ R.frames) (hlo : W + 65 ≤ R.locals) :
    Back l R p e below s args (⟨"java/lang/String", "<init>", "([C)V"⟩ : MethodName) len W (fun P a => a = #[.ref x, .ref b] ∧ P.U.heap = h ∧ P.cells + 1 ≤ R.cells ∧ P.slots + n ≤ R.slots)
      (fun P _ v B => ∃ L, QV Z x N bs h n0 v B.U.heap L ∧ B.locs = P.locs ++ L ∧ B.cells = P.cells + 1 ∧ B.slots = P.slots + n) := by
  subst hn hN hb
  refine Back.mono (backArv hZ hw wi E V C K S hz (n32 (by omega)) l0 (by omega) (fun c hc => (hp c hc).2) hfr hlo) (fun P a hp => hp) (fun P a v B hp hq => ?_)
  obtain ⟨L, ⟨q1, q2, q3, q4, q5, q6, q7, ⟨kb, v1, v2⟩, q9⟩, hl, hc, hs⟩ := hq
  exact ⟨L, ⟨q1, fun y hy => by rw [q2 y hy]; exact hx0, q3, q5, q7, h.size, kb, hh0, Nat.le_refl _, Nat.ne_of_gt E.lt, q6, by rw [List.map_map]; exact v2⟩, hl, hc, hs⟩
end StrChars.Road
namespace StrChars
open Jvm Sem ClassFile Op Lib Jvm.Stand Jvm.Free.XT Jvm.Free.ALB Jvm.Free.JM Jvm.Free
open Jvm.Lib.Cold (StaticIs)
def hi8 (x : Int32) : Int32 := lo8 (x >>> ((8 : Int32) &&& 31))
/-- what StringUTF16.getChar makes of two bytes -/
def pairCh (u v : Int32) : Int32 := (((u &&& 255) <<< ((0 : Int32) &&& 31)) ||| ((v &&& 255) <<< ((8 : Int32) &&& 31))).toUInt32.toUInt16.toUInt32.toInt32
theorem shr0 (c : Int32) : c >>> ((0 : Int32) &&& 31) = c := by
  have e : ((0 : Int32) &&& 31) = 0 := by decide
  rw [e]
  apply Int32.toBitVec_inj.mp
  rw [Int32.toBitVec_shiftRight]
  have e1 : ((0 : Int32).toBitVec.smod 32) = 0#32 := by decide
  rw [e1, BitVec.sshiftRight_eq']
  exact BitVec.sshiftRight_zero
theorem lo8_and (x : Int32) : (lo8 x &&& 255).toBitVec.toNat = x.toBitVec.toNat % 256 := by
  have h : (lo8 x).toBitVec = (x.toBitVec.signExtend 8).signExtend 32 := by rw [lo8, Int8.toBitVec_toInt32, Int32.toBitVec_toInt8]
  rw [Int32.toBitVec_and, BitVec.toNat_and, h]
  have e : ((x.toBitVec.signExtend 8).signExtend 32).toNat % 256 = x.toBitVec.toNat % 256 := by
    rw [BitVec.toNat_signExtend]
    have hlt := x.toBitVec.isLt
    simp only [BitVec.toNat_setWidth, BitVec.toNat_signExtend]
    split <;> split <;> omega
  rw [← e]
  exact Nat.and_two_pow_sub_one_eq_mod _ 8
theorem pair_says {c : Int32} (h0 : ¬ c < 0) (h1 : ¬ 65535 < c) : pairCh (lo8 c) (hi8 c) = c := by
  rw [Int32.lt_iff_toInt_lt] at h0 h1
  have e0 : (0 : Int32).toInt = 0 := rfl
  have e1 : (65535 : Int32).toInt = 65535 := rfl
  have hc : c.toInt = c.toBitVec.toNat := by
    have := c.toBitVec.isLt
    have e : c.toInt = c.toBitVec.toInt := rfl
    rw [e] at h0 h1
    rw [e]
    rw [BitVec.toInt_eq_toNat_cond] at h0 h1 ⊢
    split at h0 <;> split <;> omega
  have hn : c.toBitVec.toNat < 65536 := by omega
  have a1 := lo8_and c
  have a2 : (hi8 c &&& 255).toBitVec.toNat = c.toBitVec.toNat / 256 := by
    rw [hi8, lo8_and]
    have e : ((8 : Int32) &&& 31) = 8 := by decide
    rw [e, Int32.toBitVec_shiftRight]
    have e2 : ((8 : Int32).toBitVec.smod 32) = 8#32 := by decide
    rw [e2, BitVec.sshiftRight_eq', BitVec.toNat_sshiftRight_of_msb_false (by rw [BitVec.msb_eq_false_iff_two_mul_lt]; omega)]
    show c.toBitVec.toNat >>> 8 % 256 = _
    rw [Nat.shiftRight_eq_div_pow]
    omega
  unfold pairCh
  apply Int32.toBitVec_inj.mp
  apply BitVec.eq_of_toNat_eq
  have f0 : ((0 : Int32) &&& 31) = 0 := by decide
  have f8 : ((8 : Int32) &&& 31) = 8 := by decide
  rw [f0, f8]
  have g : (((lo8 c &&& 255) <<< (0 : Int32)) ||| ((hi8 c &&& 255) <<< (8 : Int32))).toBitVec.toNat = c.toBitVec.toNat := by
    rw [Int32.toBitVec_or, Int32.toBitVec_shiftLeft, Int32.toBitVec_shiftLeft]
    have s0 : ((0 : Int32).toBitVec.smod 32) = 0#32 := by decide
    have s8 : ((8 : Int32).toBitVec.smod 32) = 8#32 := by decide
    rw [s0, s8, BitVec.toNat_or]
    simp only [BitVec.shiftLeft_eq', BitVec.toNat_shiftLeft, a1, a2]
    show (c.toBitVec.toNat % 256) <<< 0 % 2 ^ 32 ||| (c.toBitVec.toNat / 256) <<< 8 % 2 ^ 32 = _
    rw [Nat.shiftLeft_zero, Nat.mod_eq_of_lt (show c.toBitVec.toNat % 256 < 2 ^ 32 by omega), Nat.mod_eq_of_lt (show (c.toBitVec.toNat / 256) <<< 8 < 2 ^ 32 by rw [Nat.shiftLeft_eq]; omega), Nat.or_comm, ← Nat.shiftLeft_add_eq_or_of_lt (by omega), Nat.shiftLeft_eq]
    omega
  show BitVec.toNat (((((lo8 c &&& 255) <<< (0 : Int32)) ||| ((hi8 c &&& 255) <<< (8 : Int32))).toBitVec.setWidth 16).setWidth 32) = _
  rw [BitVec.toNat_setWidth, BitVec.toNat_setWidth, g]
  omega
end StrChars
namespace StrChars
open Jvm Sem ClassFile Op Lib Jvm.Stand Jvm.Free.XT Jvm.Free.ALB Jvm.Free.JM Jvm.Free
open Jvm.Lib.Cold (StaticIs)
theorem shr1 {n : Nat} (h : 2 * n < 2 ^ 31) : Int32.ofNat (2 * n) >>> ((1 : Int32) &&& 31) = Int32.ofNat n := by
  have e : ((1 : Int32) &&& 31) = 1 := by decide
  rw [e]
  apply Int32.toBitVec_inj.mp
  rw [Int32.toBitVec_shiftRight]
  have e1 : ((1 : Int32).toBitVec.smod 32) = 1#32 := by decide
  have hm : (BitVec.ofNat 32 (2 * n)).toNat = 2 * n := by rw [BitVec.toNat_ofNat, Nat.mod_eq_of_lt (by omega)]
  rw [e1, BitVec.sshiftRight_eq']
  apply BitVec.eq_of_toNat_eq
  show ((BitVec.ofNat 32 (2 * n)).sshiftRight 1).toNat = (BitVec.ofNat 32 n).toNat
  rw [BitVec.toNat_sshiftRight_of_msb_false (by rw [BitVec.msb_eq_false_iff_two_mul_lt, hm]; omega), hm, BitVec.toNat_ofNat, Nat.shiftRight_eq_div_pow]
  omega
/-- charAt's cast of a byte read back -/
def chr8 (u : Int32) : Int32 := (u &&& 255).toUInt32.toUInt16.toUInt32.toInt32
theorem chr8_lo8 {c : Int32} (h0 : ¬ c < 0) (h1 : ¬ 255 < c) : chr8 (lo8 c) = c := by
  have t : ∀ k : Fin 256, (Int32.ofNat k.val).toUInt32.toUInt16.toUInt32.toInt32 = Int32.ofNat k.val := by decide +kernel
  unfold chr8
  rw [lo8_mask h0 h1]
  rw [Int32.lt_iff_toInt_lt] at h0 h1
  have e0 : (0 : Int32).toInt = 0 := rfl
  have e1 : (255 : Int32).toInt = 255 := rfl
  obtain ⟨k, hk⟩ : ∃ k : Nat, c.toInt = k := ⟨c.toInt.toNat, by omega⟩
  have hx : c = Int32.ofNat k := Int32.toInt_inj.mp (by rw [hk, Int32.toInt_ofNat_small (by omega)])
  rw [hx]
  exact t ⟨k, by omega⟩
theorem narrow_ch {c : Int32} (h0 : ¬ c < 0) (h1 : ¬ 65535 < c) : narrow .char (.int c) = .int c := by
  have q : narrow .char (.int (pairCh (lo8 c) (hi8 c))) = .int (pairCh (lo8 c) (hi8 c)) := narrow_c _
  rwa [pair_says h0 h1] at q
/-- the array's cell V codes the n chars f 0 .. f (n - 1) by the coder cd, as the JDK does: coder 1 just where some char is above 255 -/
def Cod (cd : Int32) (n : Nat) (f : Nat → Int32) (V : Cell) : Prop := (cd = 0 ∧ V.slots.size = n ∧ ∀ j, j < n → V.slots[j]? = some (.int (lo8 (f j))) ∧ ¬ 255 < f j) ∨ (cd = 1 ∧ V.slots.size = 2 * n ∧ (∀ j, j < n → V.slots[2 * j]? = some (.int (lo8 (f j))) ∧ V.slots[2 * j + 1]? = some (.int (hi8 (f j)))) ∧ ∃ j, j < n ∧ 255 < f j)
theorem Cod.cd {cd : Int32} {n : Nat} {f : Nat → Int32} {V : Cell} (h : Cod cd n f V) : cd = 0 ∨ cd = 1 := h.imp (fun q => q.1) fun q => q.1
theorem Cod.len {cd : Int32} {n : Nat} {f : Nat → Int32} {V : Cell} (h : Cod cd n f V) (hs : V.slots.size < 2 ^ 31) : Int32.ofNat V.slots.size >>> (cd &&& 31) = Int32.ofNat n := by
  rcases h with ⟨rfl, h, -⟩ | ⟨rfl, h, -⟩
  · rw [shr0, h]
  · rw [h, shr1 (by omega)]
/-- **x is a String of the n chars f 0 .. f (n - 1)**, Latin-1 or UTF-16; its array at t has the cell V -/
def Txt (x t : Addr) (V : Cell) (cd : Int32) (n : Nat) (f : Nat → Int32) (U : State) : Prop := Exact "java/lang/String" x U ∧ Has x "java/lang/String" "value" "[B" (.ref t) U ∧ Has x "java/lang/String" "coder" "B" (.int cd) U ∧ XT.Arr .byte t V U ∧ Cod cd n f V ∧ ∀ j, j < n → ¬ f j < 0 ∧ ¬ 65535 < f j
theorem Txt.mv {x t : Addr} {V : Cell} {cd : Int32} {n : Nat} {f : Nat → Int32} {U U' : State} (h : Txt x t V cd n f U) (hal : U.vm.Alike U'.vm) (hh : U'.heap = U.heap) : Txt x t V cd n f U' := ⟨h.1.mv hal hh, h.2.1.mv hal hh, h.2.2.1.mv hal hh, h.2.2.2.1.mv hal hh, h.2.2.2.2⟩
namespace Cdr
def yN : MethodName := ⟨"java/lang/String", "coder", "()B"⟩
abbrev yB : ByteArray := jdk_42_method_152_code
theorem d0 : decode yB 0 = .ok (.getstatic 38, 3) := by decide +kernel
theorem d3 : decode yB 3 = .ok (.ifCond (.eq) 10, 3) := by decide +kernel
theorem d6 : decode yB 6 = .ok (.aload_n 0, 1) := by decide +kernel
theorem d7 : decode yB 7 = .ok (.getfield 15, 3) := by decide +kernel
theorem d10 : decode yB 10 = .ok (.goto 4, 3) := by decide +kernel
theorem d14 : decode yB 14 = .ok (.ireturn, 1) := by decide +kernel
def site : List Cond := [.fieldLink "java/lang/String" 38 "java/lang/String" "COMPACT_STRINGS" "Z", .fieldLink "java/lang/String" 15 "java/lang/String" "coder" "B"]
def tab : Cond := tabOf yN yB 1 (some .byte) site
def P (x : Addr) (cd z : Int32) (args : Array Value) (s : State) : Prop := args = #[.ref x] ∧ Has x "java/lang/String" "coder" "B" (.int cd) s ∧ (cd = 0 ∨ cd = 1) ∧ StaticIs s "java/lang/String" "COMPACT_STRINGS" "Z" (.int z) ∧ ¬ z = 0
def E (cd : Int32) (r : Option Value) (s u : State) : Prop := XT.PureE (some (.int cd)) r s u
theorem law (l : Launch) (x : Addr) (cd z : Int32) : Law l yN 1 0 0 0 yB 1 (some .byte) site (P x cd z) (E cd) [] 0 0 := by
  refine Law.of_walk (plainFor_of_name (by decide +kernel)) (by decide +kernel) (by decide +kernel) (by decide) (fun _ _ h => by rw [h.1]; rfl) (fun _ U U' hal hh h => ⟨h.1, h.2.1.mv hal hh, h.2.2.1, h.2.2.2.1.there hal hh, h.2.2.2.2⟩) (fun r U U' V V' h1 hal h2 h => XT.PureE.mv r U U' V V' h1 hal h2 h) ?_
  intro p e s m args below meth c s₁ X0 hexec hbytes hml hret hlk hnm hown hh0 W hP
  obtain ⟨rfl, hx, hc, s1, hz⟩ := hP
  have c1 : Steps p.tables e below (s₁.setTop (entryFrame m #[.ref x] 1)) (s₁.setTop (mkF m 0 #[.val (.ref x)] [])) := entry rfl
  obtain ⟨T2, X2, q2, st2⟩ := X0.sget hexec hown (wk W (.fieldLink "java/lang/String" 38 "java/lang/String" "COMPACT_STRINGS" "Z")) s1 (fun _ _ h => by rw [hh0]; exact h) (g := (mkF m 0 #[.val (.ref x)] [])) rfl (hb hbytes d0)
  have hh2 := q2.trans hh0
  have c3 : Steps p.tables e below (s₁.setTop (entryFrame m #[.ref x] 1)) (T2.setTop (mkF m 7 #[.val (.ref x)] [.ref x])) := (c1.trans (st2 _ (Steps.refl _))).trans (by
    refine XS.ifNo X2.here hexec rfl (hb hbytes d3) rfl (i0_eq_f hz) ?_
    refine XS.aloadN X2.here hexec rfl (hb hbytes d6) rfl rfl ?_
    exact Steps.refl _)
  obtain ⟨T4, X4, q4, st4⟩ := X2.hget hexec hown (wk W (.fieldLink "java/lang/String" 15 "java/lang/String" "coder" "B")) (hx.mv X2.warmed.alike hh2) (g := (mkF m 7 #[.val (.ref x)] [.ref x])) rfl (rest := []) rfl (hb hbytes d7)
  have c5 : Steps p.tables e below (s₁.setTop (entryFrame m #[.ref x] 1)) (T4.setTop (mkF m 14 #[.val (.ref x)] [.int cd])) := (c3.trans (st4 _ (Steps.refl _))).trans (by
    refine XS.goto X4.here hexec rfl (pc0 := 10) rfl (hb hbytes d10) (by decide) rfl ?_
    exact Steps.refl _)
  exact ⟨T4, some (.int cd), _, _, _, X4, rfl, rfl, rfl, (fun h => by cases h), ⟨rfl, q4.trans hh2⟩, fun fs hl => c5.trans (X4.ireturnOut hexec hret (by rcases hc with rfl | rfl <;> rfl) (Or.inr (Or.inr (Or.inl rfl))) (hb hbytes d14) hl)⟩
end Cdr
namespace Len
def yN : MethodName := ⟨"java/lang/String", "length", "()I"⟩
abbrev yB : ByteArray := jdk_42_method_54_code
theorem d0 : decode yB 0 = .ok (.aload_n 0, 1) := by decide +kernel
theorem d1 : decode yB 1 = .ok (.getfield 9, 3) := by decide +kernel
theorem d4 : decode yB 4 = .ok (.arraylength, 1) := by decide +kernel
theorem d5 : decode yB 5 = .ok (.aload_n 0, 1) := by decide +kernel
theorem d6 : decode yB 6 = .ok (.invokevirtual 335, 3) := by decide +kernel
theorem d9 : decode yB 9 = .ok (.ishr, 1) := by decide +kernel
theorem d10 : decode yB 10 = .ok (.ireturn, 1) := by decide +kernel
def site : List Cond := [.fieldLink "java/lang/String" 9 "java/lang/String" "value" "[B", Cdr.tab] ++ virtW "java/lang/String" 335 "java/lang/String" Cdr.yN Cdr.yN
def tab : Cond := tabOf yN yB 1 (some .int) site
def P (x t : Addr) (V : Cell) (cd : Int32) (n : Nat) (f : Nat → Int32) (z : Int32) (args : Array Value) (s : State) : Prop := args = #[.ref x] ∧ Txt x t V cd n f s ∧ StaticIs s "java/lang/String" "COMPACT_STRINGS" "Z" (.int z) ∧ ¬ z = 0
def E (n : Nat) (r : Option Value) (s u : State) : Prop := XT.PureE (some (.int (Int32.ofNat n))) r s u
/-- length() of a String of n chars, in either coding -/
theorem law (l : Launch) (x t : Addr) (V : Cell) (cd : Int32) (n : Nat) (f : Nat → Int32) (z : Int32) : Law l yN 1 0 1 13 yB 1 (some .int) site (P x t V cd n f z) (E n) [] 0 0 := by
  refine Law.of_walk (plainFor_of_name (by decide +kernel)) (by decide +kernel) (by decide +kernel) (by decide) (fun _ _ h => by rw [h.1]; rfl) (fun _ U U' hal hh h => ⟨h.1, h.2.1.mv hal hh, h.2.2.1.there hal hh, h.2.2.2⟩) (fun r U U' V V' h1 hal h2 h => XT.PureE.mv r U U' V V' h1 hal h2 h) ?_
  intro p e s m args below meth c s₁ X0 hexec hbytes hml hret hlk hnm hown hh0 W hP
  obtain ⟨rfl, hx, s1, hz⟩ := hP
  have v31 := hx.2.2.2.1.2.2.2
  have c1 : Steps p.tables e below (s₁.setTop (entryFrame m #[.ref x] 1)) (s₁.setTop (mkF m 1 #[.val (.ref x)] [.ref x])) := Steps.trans (entry rfl) (by
    show Steps p.tables e below (s₁.setTop (mkF m 0 #[.val (.ref x)] [])) _
    refine XS.aloadN X0.here hexec rfl (hb hbytes d0) rfl rfl ?_
    exact Steps.refl _)
  obtain ⟨T2, X2, q2, st2⟩ := X0.hget hexec hown (wk W (.fieldLink "java/lang/String" 9 "java/lang/String" "value" "[B")) (hx.mv X0.warmed.alike hh0).2.1 (g := (mkF m 1 #[.val (.ref x)] [.ref x])) rfl (rest := []) rfl (hb hbytes d1)
  have hh2 := q2.trans hh0
  have hx2 := hx.mv X2.warmed.alike hh2
  have c3 : Steps p.tables e below (s₁.setTop (entryFrame m #[.ref x] 1)) (T2.setTop (mkF m 6 #[.val (.ref x)] [.ref x, .int (Int32.ofNat V.slots.size)])) := (c1.trans (st2 _ (Steps.refl _))).trans (by
    refine X2.alen hexec hx2.2.2.2.1 rfl rfl (hb hbytes d4) ?_
    refine XS.aloadN X2.here hexec rfl (hb hbytes d5) rfl rfl ?_
    exact Steps.refl _)
  obtain ⟨v4, T4, X4, E4, g4⟩ := X2.callV hexec (Cdr.law l x cd z) hown (wks W (virtW "java/lang/String" 335 "java/lang/String" Cdr.yN Cdr.yN)) rfl (by decide) (wk W Cdr.tab) (W := 1) (Nat.le_of_ble_eq_true rfl) (Nat.le_of_ble_eq_true rfl) (Nat.le_refl _) (Nat.le_refl _) (hx2.1.fc X2.warmed.alike) hx2.1.is (g := (mkF m 6 #[.val (.ref x)] [.ref x, .int (Int32.ofNat V.slots.size)])) rfl (by rw [hml]; rfl) c3 (argsL := []) (rest := [.int (Int32.ofNat V.slots.size)]) rfl rfl (by show 2 * 0 + (1 + 0) ≤ _; decide) (hb hbytes d6) (⟨rfl, hx2.2.2.1, hx.2.2.2.2.1.cd, s1.there X2.warmed.alike hh2, hz⟩)
  obtain ⟨rfl, q4⟩ := E4
  have c5 : Steps p.tables e below (s₁.setTop (entryFrame m #[.ref x] 1)) (T4.setTop (mkF m 10 #[.val (.ref x)] [.int (Int32.ofNat V.slots.size >>> (cd &&& 31))])) := Steps.trans g4 (by
    refine ishr X4.here hexec rfl (hb hbytes d9) rfl ?_
    exact Steps.refl _)
  rw [hx.2.2.2.2.1.len v31] at c5
  exact ⟨T4, some (.int (Int32.ofNat n)), _, _, _, X4, rfl, rfl, rfl, (fun h => by cases h), ⟨rfl, q4.trans hh2⟩, fun fs hl => c5.trans (X4.ireturnOut hexec hret rfl (Or.inl rfl) (hb hbytes d10) hl)⟩
theorem pays {l : Launch} {R : Room} {p : Program} {e : Env} {below : List Frame} {s : State} {sargs : Array Value} {len W : Nat} (x t : Addr) (V : Cell) (cd : Int32) (n : Nat) (f : Nat → Int32) (z : Int32) (htab : tab.before sargs s = true) (hfr : 2 ≤ R.frames) (hlo : W + 25 ≤ R.locals) :
    Back l R p e below s sargs yN len W (fun A₁ a₁ => A₁.cells + 0 ≤ R.cells ∧ A₁.slots + 0 ≤ R.slots ∧ P x t V cd n f z a₁ A₁.U) (fun A₁ _ v₁ B₁ => E n v₁ A₁.U B₁.U ∧ B₁.locs = A₁.locs ++ [] ∧ B₁.cells = A₁.cells + 0 ∧ B₁.slots = A₁.slots + 0) :=
  (law l x t V cd n f z).pays htab hfr (by omega)
end Len
namespace IsL
def yN : MethodName := ⟨"java/lang/String", "isLatin1", "()Z"⟩
abbrev yB : ByteArray := jdk_42_method_154_code
theorem d0 : decode yB 0 = .ok (.getstatic 38, 3) := by decide +kernel
theorem d3 : decode yB 3 = .ok (.ifCond (.eq) 14, 3) := by decide +kernel
theorem d6 : decode yB 6 = .ok (.aload_n 0, 1) := by decide +kernel
theorem d7 : decode yB 7 = .ok (.getfield 15, 3) := by decide +kernel
theorem d10 : decode yB 10 = .ok (.ifCond (.ne) 7, 3) := by decide +kernel
theorem d13 : decode yB 13 = .ok (.iconst 1, 1) := by decide +kernel
theorem d14 : decode yB 14 = .ok (.goto 4, 3) := by decide +kernel
theorem d17 : decode yB 17 = .ok (.iconst 0, 1) := by decide +kernel
theorem d18 : decode yB 18 = .ok (.ireturn, 1) := by decide +kernel
def site : List Cond := [.fieldLink "java/lang/String" 38 "java/lang/String" "COMPACT_STRINGS" "Z", .fieldLink "java/lang/String" 15 "java/lang/String" "coder" "B"]
def tab : Cond := tabOf yN yB 1 (some .boolean) site
def P (x : Addr) (cd z : Int32) (args : Array Value) (s : State) : Prop := args = #[.ref x] ∧ Has x "java/lang/String" "coder" "B" (.int cd) s ∧ (cd = 0 ∨ cd = 1) ∧ StaticIs s "java/lang/String" "COMPACT_STRINGS" "Z" (.int z) ∧ ¬ z = 0
def E (cd : Int32) (r : Option Value) (s u : State) : Prop := XT.PureE (some (.int (1 - cd))) r s u
theorem law (l : Launch) (x : Addr) (cd z : Int32) : Law l yN 1 0 0 0 yB 1 (some .boolean) site (P x cd z) (E cd) [] 0 0 := by
  refine Law.of_walk (plainFor_of_name (by decide +kernel)) (by decide +kernel) (by decide +kernel) (by decide) (fun _ _ h => by rw [h.1]; rfl) (fun _ U U' hal hh h => ⟨h.1, h.2.1.mv hal hh, h.2.2.1, h.2.2.2.1.there hal hh, h.2.2.2.2⟩) (fun r U U' V V' h1 hal h2 h => XT.PureE.mv r U U' V V' h1 hal h2 h) ?_
  intro p e s m args below meth c s₁ X0 hexec hbytes hml hret hlk hnm hown hh0 W hP
  obtain ⟨rfl, hx, hc, s1, hz⟩ := hP
  have c1 : Steps p.tables e below (s₁.setTop (entryFrame m #[.ref x] 1)) (s₁.setTop (mkF m 0 #[.val (.ref x)] [])) := entry rfl
  obtain ⟨T2, X2, q2, st2⟩ := X0.sget hexec hown (wk W (.fieldLink "java/lang/String" 38 "java/lang/String" "COMPACT_STRINGS" "Z")) s1 (fun _ _ h => by rw [hh0]; exact h) (g := (mkF m 0 #[.val (.ref x)] [])) rfl (hb hbytes d0)
  have hh2 := q2.trans hh0
  have c3 : Steps p.tables e below (s₁.setTop (entryFrame m #[.ref x] 1)) (T2.setTop (mkF m 7 #[.val (.ref x)] [.ref x])) := (c1.trans (st2 _ (Steps.refl _))).trans (by
    refine XS.ifNo X2.here hexec rfl (hb hbytes d3) rfl (i0_eq_f hz) ?_
    refine XS.aloadN X2.here hexec rfl (hb hbytes d6) rfl rfl ?_
    exact Steps.refl _)
  obtain ⟨T4, X4, q4, st4⟩ := X2.hget hexec hown (wk W (.fieldLink "java/lang/String" 15 "java/lang/String" "coder" "B")) (hx.mv X2.warmed.alike hh2) (g := (mkF m 7 #[.val (.ref x)] [.ref x])) rfl (rest := []) rfl (hb hbytes d7)
  have c5 : Steps p.tables e below (s₁.setTop (entryFrame m #[.ref x] 1)) (T4.setTop (mkF m 10 #[.val (.ref x)] [.int cd])) := c3.trans (st4 _ (Steps.refl _))
  have c6 : Steps p.tables e below (s₁.setTop (entryFrame m #[.ref x] 1)) (T4.setTop (mkF m 18 #[.val (.ref x)] [.int (1 - cd)])) := by
    rcases hc with rfl | rfl
    · exact c5.trans (by
        refine XS.ifNo X4.here hexec rfl (hb hbytes d10) rfl (i0_ne_f rfl) ?_
        refine iconstV X4.here hexec rfl 1 (hb hbytes d13) (by decide) ?_
        refine XS.goto X4.here hexec rfl (pc0 := 14) rfl (hb hbytes d14) (by decide) rfl ?_
        exact Steps.refl _)
    · exact c5.trans (by
        refine XS.ifYes X4.here hexec rfl (pc0 := 10) rfl (hb hbytes d10) rfl (i0_ne_t (by decide)) (by decide) rfl ?_
        refine iconstV X4.here hexec rfl 0 (hb hbytes d17) (by decide) ?_
        exact Steps.refl _)
  exact ⟨T4, some (.int (1 - cd)), _, _, _, X4, rfl, rfl, rfl, (fun h => by cases h), ⟨rfl, q4.trans hh2⟩, fun fs hl => c6.trans (X4.ireturnOut hexec hret (by rcases hc with rfl | rfl <;> rfl) (Or.inr (Or.inl rfl)) (hb hbytes d18) hl)⟩
end IsL
namespace LChA
def yN : MethodName := ⟨"java/lang/StringLatin1", "charAt", "([BI)C"⟩
abbrev yB : ByteArray := jdk_43_method_2_code
theorem d0 : decode yB 0 = .ok (.iload_n 1, 1) := by decide +kernel
theorem d1 : decode yB 1 = .ok (.aload_n 0, 1) := by decide +kernel
theorem d2 : decode yB 2 = .ok (.arraylength, 1) := by decide +kernel
theorem d3 : decode yB 3 = .ok (.invokestatic 9, 3) := by decide +kernel
theorem d6 : decode yB 6 = .ok (.aload_n 0, 1) := by decide +kernel
theorem d7 : decode yB 7 = .ok (.iload_n 1, 1) := by decide +kernel
theorem d8 : decode yB 8 = .ok (.baload, 1) := by decide +kernel
theorem d9 : decode yB 9 = .ok (.sipush 255, 3) := by decide +kernel
theorem d12 : decode yB 12 = .ok (.iand, 1) := by decide +kernel
theorem d13 : decode yB 13 = .ok (.i2c, 1) := by decide +kernel
theorem d14 : decode yB 14 = .ok (.ireturn, 1) := by decide +kernel
def site : List Cond := [JO.Str_checkIndex.tab] ++ staticW "java/lang/StringLatin1" 9 JO.Str_checkIndex.yN
def tab : Cond := tabOf yN yB 2 (some .char) site
def P (t : Addr) (V : Cell) (i : Nat) (u : Int32) (fm : Value) (args : Array Value) (s : State) : Prop := args = #[.ref t, .int (Int32.ofNat i)] ∧ XT.Arr .byte t V s ∧ V.slots[i]? = some (.int u) ∧ (StaticIs s "jdk/internal/util/Preconditions" "SIOOBE_FORMATTER" "Ljava/util/function/BiFunction;" fm ∧ fm.isRef = true)
def E (u : Int32) (r : Option Value) (s w : State) : Prop := XT.PureE (some (.int (chr8 u))) r s w
theorem law (l : Launch) (t : Addr) (V : Cell) (i : Nat) (u : Int32) (fm : Value) : Law l yN 2 2 2 27 yB 2 (some .char) site (P t V i u fm) (E u) [] 0 0 := by
  refine Law.of_walk (plainFor_of_name (by decide +kernel)) (by decide +kernel) (by decide +kernel) (by decide) (fun _ _ h => by rw [h.1]; rfl) (fun _ U U' hal hh h => ⟨h.1, h.2.1.mv hal hh, h.2.2.1, h.2.2.2.1.there hal hh, h.2.2.2.2⟩) (fun r U U' V V' h1 hal h2 h => XT.PureE.mv r U U' V V' h1 hal h2 h) ?_
  intro p e s m args below meth c s₁ X0 hexec hbytes hml hret hlk hnm hown hh0 W hP
  obtain ⟨rfl, hV, hu, s1, rf⟩ := hP
  have v31 := hV.2.2.2
  have hi : i < V.slots.size := (Array.getElem?_eq_some_iff.mp hu).1
  have c1 : Steps p.tables e below (s₁.setTop (entryFrame m #[.ref t, .int (Int32.ofNat i)] 2)) (s₁.setTop (mkF m 0 #[.val (.ref t), .val (.int (Int32.ofNat i))] [])) := entry rfl
  have c2 : Steps p.tables e below (s₁.setTop (entryFrame m #[.ref t, .int (Int32.ofNat i)] 2)) (s₁.setTop (mkF m 3 #[.val (.ref t), .val (.int (Int32.ofNat i))] [.int (Int32.ofNat V.slots.size), .int (Int32.ofNat i)])) := c1.trans (by
    refine XS.iloadN X0.here hexec rfl (hb hbytes d0) rfl ?_
    refine XS.aloadN X0.here hexec rfl (hb hbytes d1) rfl rfl ?_
    refine X0.alen hexec (hV.mv X0.warmed.alike hh0) rfl rfl (hb hbytes d2) ?_
    exact Steps.refl _)
  obtain ⟨v3, T3, X3, E3, g3⟩ := X0.callS hexec (JO.Str_checkIndex.law l (Int32.ofNat i) (Int32.ofNat V.slots.size) fm) hown (wks W (staticW "java/lang/StringLatin1" 9 JO.Str_checkIndex.yN)) (wk W JO.Str_checkIndex.tab) (W := 0) (Nat.le_of_ble_eq_true rfl) (Nat.le_of_ble_eq_true rfl) (Nat.le_refl _) (Nat.le_refl _) (g := (mkF m 3 #[.val (.ref t), .val (.int (Int32.ofNat i))] [.int (Int32.ofNat V.slots.size), .int (Int32.ofNat i)])) rfl (by rw [hml]; rfl) c2 (argsL := [.int (Int32.ofNat i), .int (Int32.ofNat V.slots.size)]) (rest := []) rfl rfl (by show 2 * 0 + 0 ≤ _; decide) (hb hbytes d3) (⟨rfl, rf, s1.there X0.warmed.alike hh0, Int32.ofNat_not_neg (by omega), lt32 v31 hi⟩)
  obtain ⟨rfl, q3⟩ := E3
  have hh3 := q3.trans hh0
  have c4 : Steps p.tables e below (s₁.setTop (entryFrame m #[.ref t, .int (Int32.ofNat i)] 2)) (T3.setTop (mkF m 14 #[.val (.ref t), .val (.int (Int32.ofNat i))] [.int (chr8 u)])) := Steps.trans g3 (by
    refine XS.aloadN X3.here hexec rfl (hb hbytes d6) rfl rfl ?_
    refine XS.iloadN X3.here hexec rfl (hb hbytes d7) rfl ?_
    refine X3.aget hexec (hV.mv X3.warmed.alike hh3) rfl hu rfl rfl (hb hbytes d8) ?_
    refine sipushV X3.here hexec rfl 255 (hb hbytes d9) (by decide) ?_
    refine XS.iand X3.here hexec rfl (hb hbytes d12) rfl ?_
    refine i2c X3.here hexec rfl (hb hbytes d13) rfl ?_
    exact Steps.refl _)
  exact ⟨T3, some (.int (chr8 u)), _, _, _, X3, rfl, rfl, rfl, (fun h => by cases h), ⟨rfl, hh3⟩, fun fs hl => c4.trans (X3.ireturnOut hexec hret (narrow_c _) (Or.inr (Or.inr (Or.inr (Or.inl rfl)))) (hb hbytes d14) hl)⟩
end LChA
end StrChars
namespace StrChars.Road
open Jvm Sem ClassFile Op Lib Jvm.Stand Jvm.Free Jvm.Free.XT
open Jvm.Lib.Cold (StaticIs)
theorem consq {a : Array Value} {s : State} {c : Jvm.Cond} {L : List Jvm.Cond} (h0 : c.before a s = true) (h : ∀ w ∈ L, w.before a s = true) : ∀ w ∈ c :: L, w.before a s = true := fun w hw => (List.mem_cons.mp hw).elim (fun e => e ▸ h0) (h w)
/-- the words of String.length(), either coding -/
abbrev wordsLen : List Jvm.Cond := [.code Len.yN Len.yB 1 (some .int), .initialized ST, .fieldLink ST 9 ST "value" "[B", .fieldLink ST 38 ST "COMPACT_STRINGS" "Z", .fieldLink ST 15 ST "coder" "B", .code Cdr.yN Cdr.yB 1 (some .byte), .methodLink ST 335 Cdr.yN, .declares Cdr.yN, .selects ST Cdr.yN Cdr.yN, .instanceMethod Cdr.yN]
theorem tabLen_of {a : Array Value} {s : State} (h : ∀ w ∈ wordsLen, w.before a s = true) : Len.tab.before a s = true := by
  have hc : Cdr.tab.before a s = true := unparts (wk h (.code Cdr.yN Cdr.yB 1 (some .byte))) (wks h (.initialized Cdr.yN.cls :: Cdr.site))
  have q := consq hc h
  exact unparts (wk q (.code Len.yN Len.yB 1 (some .int))) (wks q (.initialized Len.yN.cls :: Len.site))
theorem movedLen {Z s : State} {a0 args : Array Value} (hZ : Z.Warmed39 s.vm) (hw : ∀ d ∈ wordsLen, d.before a0 Z = true) : ∀ d ∈ wordsLen, d.before args s = true := fun d hd => by
  have q := hw d hd
  have t : ∀ d ∈ wordsLen, d = .arrayClass .byte ∨ (d.onTables && d.keepsFace) = true := by decide +kernel
  rcases t d hd with rfl | t
  · exact RoadKit.mvA hZ q
  · exact RoadKit.mv hZ q t
/-- the bytes of the chars cs, low before high -/
def wideBytes : List Int32 → List Value
  | [] => []
  | c :: cs => .int (lo8 c) :: .int (hi8 c) :: wideBytes cs
theorem wide_lo (d : Value) : ∀ (cs : List Int32) (j : Nat), j < cs.length → (wideBytes cs).getD (2 * j) d = .int (lo8 (cs.getD j 0))
  | [], j, h => absurd h (Nat.not_lt_zero j)
  | c :: cs, 0, _ => rfl
  | c :: cs, j + 1, h => by
    have q := wide_lo d cs j (by simpa using h)
    rw [show 2 * (j + 1) = 2 * j + 1 + 1 from by omega]
    simpa [wideBytes] using q
theorem wide_hi (d : Value) : ∀ (cs : List Int32) (j : Nat), j < cs.length → (wideBytes cs).getD (2 * j + 1) d = .int (hi8 (cs.getD j 0))
  | [], j, h => absurd h (Nat.not_lt_zero j)
  | c :: cs, 0, _ => rfl
  | c :: cs, j + 1, h => by
    have q := wide_hi d cs j (by simpa using h)
    rw [show 2 * (j + 1) + 1 = 2 * j + 1 + 1 + 1 from by omega]
    simpa [wideBytes] using q
theorem low_at (d : Value) (cs : List Int32) (j : Nat) (h : j < cs.length) : (cs.map fun c => Value.int (lo8 c)).getD j d = .int (lo8 (cs.getD j 0)) := by
  simp [List.getD_eq_getElem?_getD, h]
/-- an array of N2 bytes vs codes the chars cs by the coder cd -/
def CodA (cs : List Int32) (cd N2 : Int32) (vs : List Value) : Prop := (cd = 0 ∧ N2 = Int32.ofNat cs.length ∧ vs = (cs.map fun c => Value.int (lo8 c)) ∧ ∀ c ∈ cs, ¬ 255 < c) ∨ (cd = 1 ∧ N2 = Int32.ofNat (2 * cs.length) ∧ vs = wideBytes cs ∧ ∃ c ∈ cs, 255 < c)
theorem CodA.cod {cs : List Int32} {cd N2 : Int32} {vs : List Value} {V : Cell} (h : CodA cs cd N2 vs) (hn : 2 * cs.length < 2 ^ 31) (hs : V.slots.size = N2.toNatClampNeg) (hv : RoadKit.Has V vs (.int 0)) : Cod cd cs.length (fun j => cs.getD j 0) V := by
  rcases h with ⟨rfl, rfl, rfl, h⟩ | ⟨rfl, rfl, rfl, c, hc, hw⟩
  · rw [n32 (by omega)] at hs
    exact Or.inl ⟨rfl, hs, fun j hj => ⟨by rw [hv j (by omega), low_at _ _ _ hj], by
      have e : cs.getD j 0 = cs[j] := by simp [List.getD_eq_getElem?_getD, hj]
      show ¬ 255 < cs.getD j 0
      rw [e]; exact h _ (List.getElem_mem _)⟩⟩
  · rw [n32 (by omega)] at hs
    obtain ⟨j, hj, rfl⟩ := List.getElem_of_mem hc
    exact Or.inr ⟨rfl, hs, fun j hj => ⟨by rw [hv _ (by omega), wide_lo _ _ _ hj], by rw [hv _ (by omega), wide_hi _ _ _ hj]⟩, j, hj, by
      have e : cs.getD j 0 = cs[j] := by simp [List.getD_eq_getElem?_getD, hj]
      show 255 < cs.getD j 0
      rw [e]; exact hw⟩
/-- an object of exactly java/lang/String, its two fields found: as the laws ask it -/
theorem strObj {Z U : State} {a0 : Array Value} {kI : Nat} (wi : (Jvm.Cond.instantiable ST kI).before a0 Z = true) (al : Z.vm.Alike U.vm) {x : Addr} {v0 c0 : Value} (E : RoadKit.Exa Z U.heap x ST) (V : RoadKit.Fld Z U.heap x ST "value" "[B" v0) (C : RoadKit.Fld Z U.heap x ST "coder" "B" c0) :
    ∃ (D : Cell) (fV fC : Field), Blank ST x D U ∧ Found ST "value" "[B" fV U ∧ Found ST "coder" "B" fC U ∧ D.slots[fV.slot]? = some v0 ∧ D.slots[fC.slot]? = some c0 ∧ RoadKit.slotOf Z ST "value" "[B" = fV.slot ∧ RoadKit.slotOf Z ST "coder" "B" = fC.slot := by
  obtain ⟨D, cfV, kV, iV, fV, hD, gV, stV, knV, obV, asV, slV⟩ := V
  obtain ⟨D', cfC, kC, iC, fC, hD', gC, stC, -, -, asC, slC⟩ := C
  cases hD.symm.trans hD'
  obtain ⟨D2, kD, e1, e2, e3, e4, e5⟩ := E
  cases hD.symm.trans e1
  obtain ⟨c2, k2, i1, i2, i3, -⟩ := Cond.instantiable_spec wi
  cases e2.symm.trans i1
  cases e3.symm.trans i2
  obtain ⟨kU, u1, u2⟩ := al.2.2 _ _ e3
  exact ⟨D, fV, fC, ⟨hD, ⟨knV, fun q hq => by rw [hq] at obV; cases obV⟩, by rw [al.findClass]; exact e2, kU, u1, by rw [u2]; exact i3, by rw [u2]; exact e5 i3⟩, ⟨SBG.found_only al ⟨cfV, kV, iV, gV⟩, stV⟩, ⟨SBG.found_only al ⟨cfC, kC, iC, gC⟩, stC⟩, slV, slC, by simp [RoadKit.slotOf, gV], by simp [RoadKit.slotOf, gC]⟩
theorem sta_is {Z U : State} (al : Z.vm.Alike U.vm) {C n d : String} {v : Value} (S : RoadKit.Sta Z U.heap C n d v) : StaticIs U C n d v := by
  obtain ⟨cfS, iS, kS, fS, st, cS, t1, t2, t3, t4, t5, t6, t7⟩ := S
  exact StaticIs.there (s := { Z with heap := U.heap }) ⟨cfS, iS, kS, fS, st, cS, t1, t2, t3, t4, t5, (fun q => by rw [q] at t6; cases t6), t7⟩ al rfl
/-- **length() OF SUCH A STRING** -/
theorem lenW {p : Program} {l : Launch} {e : Env} {R : Room} {s : State} {args : Array Value} {below : List Frame} {len W : Nat} {Z : State} {a0 : Array Value} {h : Heap} (hZ : Z.Warmed39 s.vm) (hw : ∀ d ∈ wordsLen, d.before a0 Z = true) {kI : Nat} (wi : (Jvm.Cond.instantiable ST kI).before a0 Z = true)
    {x t : Addr} {kb : ClassId} {cs : List Int32} {cd N2 z : Int32} {vs : List Value} (E : RoadKit.Exa Z h x ST) (V : RoadKit.Fld Z h x ST "value" "[B" (.ref t)) (C : RoadKit.Fld Z h x ST "coder" "B" (.int cd)) (K : RoadKit.Arv Z h t kb .byte N2 vs (.int 0)) (hc : CodA cs cd N2 vs) (hb : ∀ c ∈ cs, ¬ c < 0 ∧ ¬ (65535 : Int32) < c)
    (S : RoadKit.Sta Z h ST "COMPACT_STRINGS" "Z" (.int z)) (hz : ¬ z = 0) (l2 : cs.length ≤ 4000) (hfr : 2 ≤ R.frames) (hlo : W + 25 ≤ R.locals) :
    Back l R p e below s args (⟨"java/lang/String", "length", "()I"⟩ : MethodName) len W (fun P a => a = #[.ref x] ∧ P.U.heap = h ∧ P.cells + 0 ≤ R.cells ∧ P.slots + 0 ≤ R.slots)
      (fun P _ v B => ∃ L, (v = some (.int (Int32.ofNat cs.length)) ∧ L = [] ∧ B.U.heap = h) ∧ B.locs = P.locs ++ L ∧ B.cells = P.cells + 0 ∧ B.slots = P.slots + 0) := by
  obtain ⟨A, K1, K2, K3, K4, K5, K6⟩ := K
  have hcod := hc.cod (by omega) K3 K5
  intro m meth c P g ig mk a X hg hsize hdg hW hn hp'
  obtain ⟨rfl, rfl, r1, r2⟩ := hp'
  have al : Z.vm.Alike P.U.vm := hZ.alike.trans X.warmed.alike
  obtain ⟨D, fV, fC, hB, F1, F2, g1, g2, -, -⟩ := strObj wi al E V C
  have hx : Txt x t A cd cs.length (fun j => cs.getD j 0) P.U := ⟨⟨_, hB.2.2.1, D, hB.1, rfl, by cases q : D.vm <;> first | rfl | exact absurd q (hB.2.1.2 _)⟩, Has.of hB F1 g1, Has.of hB F2 g2, ⟨K1.1, State.isArrayOf_alike al K1.2.1, K1.2.2, by rcases hcod with ⟨-, q, -⟩ | ⟨-, q, -⟩ <;> omega⟩, hcod, fun j hj => by
    have e : cs.getD j 0 = cs[j] := by simp [List.getD_eq_getElem?_getD, hj]
    show ¬ cs.getD j 0 < 0 ∧ ¬ 65535 < cs.getD j 0
    rw [e]; exact hb _ (List.getElem_mem _)⟩
  obtain ⟨v, B, X', ⟨⟨hv, hh⟩, hl, hk, hs⟩, st⟩ := Len.pays x t A cd cs.length (fun j => cs.getD j 0) z (tabLen_of (movedLen hZ hw)) hfr hlo m meth c P g ig mk _ X hg hsize hdg hW hn ⟨r1, r2, rfl, hx, sta_is al S, hz⟩
  exact ⟨v, B, X', ⟨[], ⟨hv, rfl, hh⟩, hl, hk, hs⟩, st⟩
end StrChars.Road
namespace StrChars
open Jvm Sem ClassFile Op Lib Jvm.Stand Jvm.Free.XT Jvm.Free.ALB Jvm.Free.JM Jvm.Free
open Jvm.Lib.Cold (StaticIs)
/-- what place i of a byte[]'s cell holds -/
def yv (A : Cell) (i : Nat) : Int32 := match A.slots[i]? with | some (.int x) => x | _ => 0
theorem yv_get {a : Addr} {A : Cell} {U : State} (h : XT.Arr .byte a A U) (ht : Typed .byte A) {i : Nat} (hi : i < A.slots.size) : A.slots[i]? = some (.int (yv A i)) := by
  have e := Array.getElem?_eq_getElem hi
  have f := ht i _ e
  unfold yv; rw [e]
  generalize A.slots[i] = v at f
  cases v <;> simp [fits] at f ⊢
/-- the two arrays are equal, place for place -/
def EqC (A B : Cell) : Prop := A.slots.size = B.slots.size ∧ ∀ i, i < A.slots.size → yv A i = yv B i
/-- a boolean that says whether p -/
def Says01 (q : Prop) (r : Option Value) (s u : State) : Prop := ∃ v : Int32, r = some (.int v) ∧ u.heap = s.heap ∧ ((v = 1 ∧ q) ∨ (v = 0 ∧ ¬ q))
theorem Says01.mv {q : Prop} : ∀ r (U U' V V' : State), U'.heap = U.heap → V.vm.Alike V'.vm → V'.heap = V.heap → Says01 q r U V → Says01 q r U' V' :=
  fun r U U' V V' h1 _ h2 ⟨v, a, b, c⟩ => ⟨v, a, by rw [h1, h2]; exact b, c⟩
namespace LEq
def yN : MethodName := ⟨"java/lang/StringLatin1", "equals", "([B[B)Z"⟩
abbrev yB : ByteArray := jdk_43_method_13_code
theorem d0 : decode yB 0 = .ok (.aload_n 0, 1) := by decide +kernel
theorem d1 : decode yB 1 = .ok (.arraylength, 1) := by decide +kernel
theorem d2 : decode yB 2 = .ok (.aload_n 1, 1) := by decide +kernel
theorem d3 : decode yB 3 = .ok (.arraylength, 1) := by decide +kernel
theorem d4 : decode yB 4 = .ok (.if_icmp (.ne) 30, 3) := by decide +kernel
theorem d7 : decode yB 7 = .ok (.iconst 0, 1) := by decide +kernel
theorem d8 : decode yB 8 = .ok (.istore_n 2, 1) := by decide +kernel
theorem d9 : decode yB 9 = .ok (.iload_n 2, 1) := by decide +kernel
theorem d10 : decode yB 10 = .ok (.aload_n 0, 1) := by decide +kernel
theorem d11 : decode yB 11 = .ok (.arraylength, 1) := by decide +kernel
theorem d12 : decode yB 12 = .ok (.if_icmp (.ge) 20, 3) := by decide +kernel
theorem d15 : decode yB 15 = .ok (.aload_n 0, 1) := by decide +kernel
theorem d16 : decode yB 16 = .ok (.iload_n 2, 1) := by decide +kernel
theorem d17 : decode yB 17 = .ok (.baload, 1) := by decide +kernel
theorem d18 : decode yB 18 = .ok (.aload_n 1, 1) := by decide +kernel
theorem d19 : decode yB 19 = .ok (.iload_n 2, 1) := by decide +kernel
theorem d20 : decode yB 20 = .ok (.baload, 1) := by decide +kernel
theorem d21 : decode yB 21 = .ok (.if_icmp (.eq) 5, 3) := by decide +kernel
theorem d24 : decode yB 24 = .ok (.iconst 0, 1) := by decide +kernel
theorem d25 : decode yB 25 = .ok (.ireturn, 1) := by decide +kernel
theorem d26 : decode yB 26 = .ok (.iinc 2 1, 3) := by decide +kernel
theorem d29 : decode yB 29 = .ok (.goto (-20), 3) := by decide +kernel
theorem d32 : decode yB 32 = .ok (.iconst 1, 1) := by decide +kernel
theorem d33 : decode yB 33 = .ok (.ireturn, 1) := by decide +kernel
theorem d34 : decode yB 34 = .ok (.iconst 0, 1) := by decide +kernel
theorem d35 : decode yB 35 = .ok (.ireturn, 1) := by decide +kernel
def site : List Cond := []
def tab : Cond := tabOf yN yB 3 (some .boolean) site
def P (a : Addr) (A : Cell) (b : Addr) (B : Cell) (args : Array Value) (s : State) : Prop := args = #[.ref a, .ref b] ∧ XT.Arr .byte a A s ∧ Typed .byte A ∧ XT.Arr .byte b B s ∧ Typed .byte B
/-- whether two byte[] are equal, place for place -/
theorem law (l : Launch) (a : Addr) (A : Cell) (b : Addr) (B : Cell) : Law l yN 2 2 0 0 yB 3 (some .boolean) site (P a A b B) (Says01 (EqC A B)) [] 0 0 := by
  refine Law.of_walk (plainFor_of_name (by decide +kernel)) (by decide +kernel) (by decide +kernel) (by decide) (fun _ _ h => by rw [h.1]; rfl) (fun _ U U' hal hh h => ⟨h.1, h.2.1.mv hal hh, h.2.2.1, h.2.2.2.1.mv hal hh, h.2.2.2.2⟩) (fun r U U' V V' h1 hal h2 h => Says01.mv r U U' V V' h1 hal h2 h) ?_
  intro p e s m args below meth c s₁ X0 hexec hbytes hml hret hlk hnm hown hh0 W hP
  obtain ⟨rfl, hA, tA, hB, tB⟩ := hP
  have a31 := hA.2.2.2
  have b31 := hB.2.2.2
  have hA0 := hA.mv X0.warmed.alike hh0
  have hB0 := hB.mv X0.warmed.alike hh0
  have c1 : Steps p.tables e below (s₁.setTop (entryFrame m #[.ref a, .ref b] 3)) (s₁.setTop (mkF m 0 #[.val (.ref a), .val (.ref b), .unset] [])) := entry rfl
  have c2 : Steps p.tables e below (s₁.setTop (entryFrame m #[.ref a, .ref b] 3)) (s₁.setTop (mkF m 4 #[.val (.ref a), .val (.ref b), .unset] [.int (Int32.ofNat B.slots.size), .int (Int32.ofNat A.slots.size)])) := c1.trans (by
    refine XS.aloadN X0.here hexec rfl (hb hbytes d0) rfl rfl ?_
    refine X0.alen hexec hA0 rfl rfl (hb hbytes d1) ?_
    refine XS.aloadN X0.here hexec rfl (hb hbytes d2) rfl rfl ?_
    refine X0.alen hexec hB0 rfl rfl (hb hbytes d3) ?_
    exact Steps.refl _)
  by_cases hs : A.slots.size = B.slots.size
  · have c3 : Steps p.tables e below (s₁.setTop (entryFrame m #[.ref a, .ref b] 3)) (s₁.setTop (mkF m 9 #[.val (.ref a), .val (.ref b), .val (.int 0)] [])) := c2.trans (by
      refine XS.icmpNo X0.here hexec rfl (hb hbytes d4) rfl (ii_ne_f (by rw [hs])) ?_
      refine iconstV X0.here hexec rfl 0 (hb hbytes d7) (by decide) ?_
      refine XS.istoreN X0.here hexec rfl (hb hbytes d8) rfl rfl ?_
      exact Steps.refl _)
    have loop : ∀ (r i : Nat), i + r = A.slots.size → (∀ j, j < i → yv A j = yv B j) → Steps p.tables e below (s₁.setTop (entryFrame m #[.ref a, .ref b] 3)) (s₁.setTop (mkF m 9 #[.val (.ref a), .val (.ref b), .val (.int (Int32.ofNat i))] [])) → ∃ (pc : Nat) (Ls : Array Slot) (v : Int32), (pc = 25 ∨ pc = 33) ∧ ((v = 1 ∧ EqC A B) ∨ (v = 0 ∧ ¬ EqC A B)) ∧ Steps p.tables e below (s₁.setTop (entryFrame m #[.ref a, .ref b] 3)) (s₁.setTop (mkF m pc Ls [.int v])) := by
      intro r
      induction r with
      | zero =>
        intro i hi he cl
        exact ⟨33, _, 1, Or.inr rfl, Or.inl ⟨rfl, hs, fun j hj => he j (by omega)⟩, cl.trans (by
          refine XS.iloadN X0.here hexec rfl (hb hbytes d9) rfl ?_
          refine XS.aloadN X0.here hexec rfl (hb hbytes d10) rfl rfl ?_
          refine X0.alen hexec hA0 rfl rfl (hb hbytes d11) ?_
          refine XS.icmpYes X0.here hexec rfl (pc0 := 12) rfl (hb hbytes d12) rfl (ii_ge_t (nlt32 (by omega) (by omega))) (by decide) rfl ?_
          refine iconstV X0.here hexec rfl 1 (hb hbytes d32) (by decide) ?_
          exact Steps.refl _)⟩
      | succ r ih =>
        intro i hi he cl
        have c4 : Steps p.tables e below (s₁.setTop (entryFrame m #[.ref a, .ref b] 3)) (s₁.setTop (mkF m 21 #[.val (.ref a), .val (.ref b), .val (.int (Int32.ofNat i))] [.int (yv B i), .int (yv A i)])) := cl.trans (by
          refine XS.iloadN X0.here hexec rfl (hb hbytes d9) rfl ?_
          refine XS.aloadN X0.here hexec rfl (hb hbytes d10) rfl rfl ?_
          refine X0.alen hexec hA0 rfl rfl (hb hbytes d11) ?_
          refine XS.icmpNo X0.here hexec rfl (hb hbytes d12) rfl (ii_ge_f (lt32 (by omega) (by omega))) ?_
          refine XS.aloadN X0.here hexec rfl (hb hbytes d15) rfl rfl ?_
          refine XS.iloadN X0.here hexec rfl (hb hbytes d16) rfl ?_
          refine X0.aget hexec hA0 rfl (yv_get hA tA (i := i) (by omega)) rfl rfl (hb hbytes d17) ?_
          refine XS.aloadN X0.here hexec rfl (hb hbytes d18) rfl rfl ?_
          refine XS.iloadN X0.here hexec rfl (hb hbytes d19) rfl ?_
          refine X0.aget hexec hB0 rfl (yv_get hB tB (i := i) (by omega)) rfl rfl (hb hbytes d20) ?_
          exact Steps.refl _)
        by_cases hv : yv A i = yv B i
        · have c5 : Steps p.tables e below (s₁.setTop (entryFrame m #[.ref a, .ref b] 3)) (s₁.setTop (mkF m 9 #[.val (.ref a), .val (.ref b), .val (.int (Int32.ofNat i + 1))] [])) := c4.trans (by
            refine XS.icmpYes X0.here hexec rfl (pc0 := 21) rfl (hb hbytes d21) rfl (ii_eq_t hv) (by decide) rfl ?_
            refine iincV X0.here hexec rfl 1 (hb hbytes d26) (by decide) rfl rfl ?_
            refine XS.goto X0.here hexec rfl (pc0 := 29) rfl (hb hbytes d29) (by decide) rfl ?_
            exact Steps.refl _)
          rw [succ32] at c5
          exact ih (i + 1) (by omega) (fun j hj => by
            by_cases e : j = i
            · rw [e]; exact hv
            · exact he j (by omega)) c5
        · exact ⟨25, _, 0, Or.inl rfl, Or.inr ⟨rfl, fun q => hv (q.2 i (by omega))⟩, c4.trans (by
            refine XS.icmpNo X0.here hexec rfl (hb hbytes d21) rfl (ii_eq_f hv) ?_
            refine iconstV X0.here hexec rfl 0 (hb hbytes d24) (by decide) ?_
            exact Steps.refl _)⟩
    obtain ⟨pc, Ls, v, hpc, hv, cz⟩ := loop A.slots.size 0 (by omega) (fun j hj => absurd hj (Nat.not_lt_zero j)) c3
    have nv : narrow .boolean (.int v) = .int v := by rcases hv with ⟨rfl, -⟩ | ⟨rfl, -⟩ <;> rfl
    rcases hpc with rfl | rfl
    · exact ⟨s₁, some (.int v), _, _, _, X0, rfl, rfl, rfl, (fun h => by cases h), ⟨v, rfl, hh0, hv⟩, fun fs hl => cz.trans (X0.ireturnOut hexec hret nv (Or.inr (Or.inl rfl)) (hb hbytes d25) hl)⟩
    · exact ⟨s₁, some (.int v), _, _, _, X0, rfl, rfl, rfl, (fun h => by cases h), ⟨v, rfl, hh0, hv⟩, fun fs hl => cz.trans (X0.ireturnOut hexec hret nv (Or.inr (Or.inl rfl)) (hb hbytes d33) hl)⟩
  · have c3 : Steps p.tables e below (s₁.setTop (entryFrame m #[.ref a, .ref b] 3)) (s₁.setTop (mkF m 35 #[.val (.ref a), .val (.ref b), .unset] [.int 0])) := c2.trans (by
      refine XS.icmpYes X0.here hexec rfl (pc0 := 4) rfl (hb hbytes d4) rfl (ii_ne_t (ne32 a31 b31 hs)) (by decide) rfl ?_
      refine iconstV X0.here hexec rfl 0 (hb hbytes d34) (by decide) ?_
      exact Steps.refl _)
    exact ⟨s₁, some (.int 0), _, _, _, X0, rfl, rfl, rfl, (fun h => by cases h), ⟨0, rfl, hh0, Or.inr ⟨rfl, fun q => hs q.1⟩⟩, fun fs hl => c3.trans (X0.ireturnOut hexec hret rfl (Or.inr (Or.inl rfl)) (hb hbytes d35) hl)⟩
end LEq
theorem Cod.ty {cd : Int32} {n : Nat} {f : Nat → Int32} {V : Cell} (h : Cod cd n f V) : Typed .byte V := fun i v hv => by
  have hi : i < V.slots.size := (Array.getElem?_eq_some_iff.mp hv).1
  rcases h with ⟨-, k1, k2⟩ | ⟨-, k1, k2, -⟩
  · rw [(k2 i (by omega)).1] at hv; cases hv; exact fits_lo8 _
  · rcases Nat.mod_two_eq_zero_or_one i with e | e
    · obtain ⟨j, rfl⟩ : ∃ j, i = 2 * j := ⟨i / 2, by omega⟩
      rw [(k2 j (by omega)).1] at hv; cases hv; exact fits_lo8 _
    · obtain ⟨j, rfl⟩ : ∃ j, i = 2 * j + 1 := ⟨i / 2, by omega⟩
      rw [(k2 j (by omega)).2] at hv; cases hv; exact fits_lo8 _
/-- the same text -/
def SameT (n : Nat) (f : Nat → Int32) (k : Nat) (g : Nat → Int32) : Prop := n = k ∧ ∀ j, j < n → f j = g j
theorem lo8_inj {x y : Int32} (h0 : ¬ x < 0) (h1 : ¬ 255 < x) (k0 : ¬ y < 0) (k1 : ¬ 255 < y) (h : lo8 x = lo8 y) : x = y := by
  rw [← lo8_mask h0 h1, ← lo8_mask k0 k1, h]
/-- arrays coded by one coder are equal just where the texts are -/
theorem Cod.eqv {cd : Int32} {n k : Nat} {f g : Nat → Int32} {V V' : Cell} (h : Cod cd n f V) (h' : Cod cd k g V') (hf : ∀ j, j < n → ¬ f j < 0 ∧ ¬ 65535 < f j) (hg : ∀ j, j < k → ¬ g j < 0 ∧ ¬ 65535 < g j) : EqC V V' ↔ SameT n f k g := by
  have yvv : ∀ {W : Cell} {i : Nat} {x : Int32}, W.slots[i]? = some (.int x) → yv W i = x := fun q => by unfold yv; rw [q]
  rcases h with ⟨rfl, k1, k2⟩ | ⟨rfl, k1, k2, -⟩
  · rcases h' with ⟨-, m1, m2⟩ | ⟨e, -⟩
    · constructor
      · rintro ⟨e1, e2⟩
        refine ⟨by omega, fun j hj => ?_⟩
        have q := e2 j (by omega)
        rw [yvv (k2 j hj).1, yvv (m2 j (by omega)).1] at q
        exact lo8_inj (hf j hj).1 (k2 j hj).2 (hg j (by omega)).1 (m2 j (by omega)).2 q
      · rintro ⟨rfl, e2⟩
        refine ⟨by omega, fun j hj => ?_⟩
        rw [yvv (k2 j (by omega)).1, yvv (m2 j (by omega)).1, e2 j (by omega)]
    · exact absurd e (by decide)
  · rcases h' with ⟨e, -⟩ | ⟨-, m1, m2, -⟩
    · exact absurd e (by decide)
    · constructor
      · rintro ⟨e1, e2⟩
        refine ⟨by omega, fun j hj => ?_⟩
        have q1 := e2 (2 * j) (by omega)
        have q2 := e2 (2 * j + 1) (by omega)
        rw [yvv (k2 j hj).1, yvv (m2 j (by omega)).1] at q1
        rw [yvv (k2 j hj).2, yvv (m2 j (by omega)).2] at q2
        rw [← pair_says (hf j hj).1 (hf j hj).2, ← pair_says (hg j (by omega)).1 (hg j (by omega)).2, q1, q2]
      · rintro ⟨rfl, e2⟩
        refine ⟨by omega, fun i hi => ?_⟩
        rcases Nat.mod_two_eq_zero_or_one i with e | e
        · obtain ⟨j, rfl⟩ : ∃ j, i = 2 * j := ⟨i / 2, by omega⟩
          rw [yvv (k2 j (by omega)).1, yvv (m2 j (by omega)).1, e2 j (by omega)]
        · obtain ⟨j, rfl⟩ : ∃ j, i = 2 * j + 1 := ⟨i / 2, by omega⟩
          rw [yvv (k2 j (by omega)).2, yvv (m2 j (by omega)).2, e2 j (by omega)]
/-- two codings differ: so do the texts -/
theorem Cod.dif {cd cd' : Int32} {n k : Nat} {f g : Nat → Int32} {V V' : Cell} (h : Cod cd n f V) (h' : Cod cd' k g V') (hne : ¬ cd = cd') : ¬ SameT n f k g := by
  rintro ⟨rfl, e⟩
  rcases h with ⟨rfl, -, k2⟩ | ⟨rfl, -, -, j, hj, hw⟩
  · rcases h' with ⟨rfl, -⟩ | ⟨-, -, -, j, hj, hw⟩
    · exact hne rfl
    · exact (k2 j hj).2 (by rw [e j hj]; exact hw)
  · rcases h' with ⟨-, -, m2⟩ | ⟨rfl, -⟩
    · exact (m2 j hj).2 (by rw [← e j hj]; exact hw)
    · exact hne rfl
/-- an object of exactly C is an instance of C -/
theorem cinst {p : Program} {l : Launch} {e : Env} {R : Room} {s : State} {m : MethodId} {args : Array Value} {below : List Frame} {meth : Method} {c : Code} {T : State} {locs : List Loc} {cells slots : Nat} (X : Stand p l e R s m args below meth c T locs cells slots) (hexec : p.tables.exec = Jvm.exec) {own C : String} {index : Nat} (hown : s.vm.findClass own = some m.cls) (hlink : (Cond.classLink own index C).before args s = true) {a : Addr} (hE : Exact C a T)
    {g : JFrame} (hg : g.method = m) {rest : List Value} (hstack : g.stack = .ref a :: rest) (hdg : decode c.code g.pc = .ok (.instanceof index, 3)) :
    ∃ T', Stand p l e R s m args below meth c T' locs cells slots ∧ T'.heap = T.heap ∧ ∀ target, Steps p.tables e below (T'.setTop { g with pc := g.pc + 3, stack := .int 1 :: rest }) target → Steps p.tables e below (T.setTop g) target := by
  obtain ⟨cB, h1, D, h2, h3, h4⟩ := hE
  have h1' : s.vm.findClass C = some cB := by rw [← X.warmed.alike.findClass]; exact h1
  obtain ⟨vm', X', st⟩ := X.instanceofYes hexec hown hlink h2 h4 h1' (by rw [h3]; exact Jvm.Free.SB.assignable_self _ _) hg hstack hdg
  exact ⟨_, X', rfl, st⟩
theorem cself {p : Program} {l : Launch} {e : Env} {R : Room} {s : State} {m : MethodId} {args : Array Value} {below : List Frame} {meth : Method} {c : Code} {T : State} {locs : List Loc} {cells slots : Nat} (X : Stand p l e R s m args below meth c T locs cells slots) (hexec : p.tables.exec = Jvm.exec) {own C : String} {index : Nat} (hown : s.vm.findClass own = some m.cls) (hlink : (Cond.classLink own index C).before args s = true) {a : Addr} (hE : Exact C a T)
    {g : JFrame} (hg : g.method = m) {rest : List Value} (hstack : g.stack = .ref a :: rest) (hdg : decode c.code g.pc = .ok (.checkcast index, 3)) :
    ∃ T', Stand p l e R s m args below meth c T' locs cells slots ∧ T'.heap = T.heap ∧ ∀ target, Steps p.tables e below (T'.setTop { g with pc := g.pc + 3, stack := .ref a :: rest }) target → Steps p.tables e below (T.setTop g) target := by
  obtain ⟨cB, h1, D, h2, h3, h4⟩ := hE
  have h1' : s.vm.findClass C = some cB := by rw [← X.warmed.alike.findClass]; exact h1
  obtain ⟨vm', X', st⟩ := X.checkcastYes hexec hown hlink h2 h4 h1' (by rw [h3]; exact Jvm.Free.SB.assignable_self _ _) hg hstack hdg
  exact ⟨_, X', rfl, fun t h => st t (by rw [← hstack] at h; exact h)⟩
namespace SEq
def yN : MethodName := ⟨"java/lang/String", "equals", "(Ljava/lang/Object;)Z"⟩
abbrev yB : ByteArray := jdk_42_method_66_code
theorem d0 : decode yB 0 = .ok (.aload_n 0, 1) := by decide +kernel
theorem d1 : decode yB 1 = .ok (.aload_n 1, 1) := by decide +kernel
theorem d2 : decode yB 2 = .ok (.if_acmp (.ne) 5, 3) := by decide +kernel
theorem d5 : decode yB 5 = .ok (.iconst 1, 1) := by decide +kernel
theorem d6 : decode yB 6 = .ok (.ireturn, 1) := by decide +kernel
theorem d7 : decode yB 7 = .ok (.aload_n 1, 1) := by decide +kernel
theorem d8 : decode yB 8 = .ok (.instanceof 10, 3) := by decide +kernel
theorem d11 : decode yB 11 = .ok (.ifCond (.eq) 43, 3) := by decide +kernel
theorem d14 : decode yB 14 = .ok (.aload_n 1, 1) := by decide +kernel
theorem d15 : decode yB 15 = .ok (.checkcast 10, 3) := by decide +kernel
theorem d18 : decode yB 18 = .ok (.astore_n 2, 1) := by decide +kernel
theorem d19 : decode yB 19 = .ok (.getstatic 38, 3) := by decide +kernel
theorem d22 : decode yB 22 = .ok (.ifCond (.eq) 14, 3) := by decide +kernel
theorem d25 : decode yB 25 = .ok (.aload_n 0, 1) := by decide +kernel
theorem d26 : decode yB 26 = .ok (.getfield 15, 3) := by decide +kernel
theorem d29 : decode yB 29 = .ok (.aload_n 2, 1) := by decide +kernel
theorem d30 : decode yB 30 = .ok (.getfield 15, 3) := by decide +kernel
theorem d33 : decode yB 33 = .ok (.if_icmp (.ne) 21, 3) := by decide +kernel
theorem d36 : decode yB 36 = .ok (.aload_n 0, 1) := by decide +kernel
theorem d37 : decode yB 37 = .ok (.getfield 9, 3) := by decide +kernel
theorem d40 : decode yB 40 = .ok (.aload_n 2, 1) := by decide +kernel
theorem d41 : decode yB 41 = .ok (.getfield 9, 3) := by decide +kernel
theorem d44 : decode yB 44 = .ok (.invokestatic 541, 3) := by decide +kernel
theorem d47 : decode yB 47 = .ok (.ifCond (.eq) 7, 3) := by decide +kernel
theorem d50 : decode yB 50 = .ok (.iconst 1, 1) := by decide +kernel
theorem d51 : decode yB 51 = .ok (.goto 4, 3) := by decide +kernel
theorem d54 : decode yB 54 = .ok (.iconst 0, 1) := by decide +kernel
theorem d55 : decode yB 55 = .ok (.ireturn, 1) := by decide +kernel
def site : List Cond := [.classLink "java/lang/String" 10 "java/lang/String", .fieldLink "java/lang/String" 38 "java/lang/String" "COMPACT_STRINGS" "Z", .fieldLink "java/lang/String" 15 "java/lang/String" "coder" "B", .fieldLink "java/lang/String" 9 "java/lang/String" "value" "[B", LEq.tab] ++ staticW "java/lang/String" 541 LEq.yN
def tab : Cond := tabOf yN yB 3 (some .boolean) site
def P (x t : Addr) (V : Cell) (cd : Int32) (n : Nat) (f : Nat → Int32) (y t' : Addr) (V' : Cell) (cd' : Int32) (k : Nat) (g : Nat → Int32) (z : Int32) (args : Array Value) (s : State) : Prop := args = #[.ref x, .ref y] ∧ Txt x t V cd n f s ∧ Txt y t' V' cd' k g s ∧ StaticIs s "java/lang/String" "COMPACT_STRINGS" "Z" (.int z) ∧ ¬ z = 0
/-- equals(Object) of two Strings: whether the texts are the same -/
theorem law (l : Launch) (x t : Addr) (V : Cell) (cd : Int32) (n : Nat) (f : Nat → Int32) (y t' : Addr) (V' : Cell) (cd' : Int32) (k : Nat) (g : Nat → Int32) (z : Int32) : Law l yN 2 1 1 14 yB 3 (some .boolean) site (P x t V cd n f y t' V' cd' k g z) (Says01 (SameT n f k g)) [] 0 0 := by
  refine Law.of_walk (plainFor_of_name (by decide +kernel)) (by decide +kernel) (by decide +kernel) (by decide) (fun _ _ h => by rw [h.1]; rfl) (fun _ U U' hal hh h => ⟨h.1, h.2.1.mv hal hh, h.2.2.1.mv hal hh, h.2.2.2.1.there hal hh, h.2.2.2.2⟩) (fun r U U' V V' h1 hal h2 h => Says01.mv r U U' V V' h1 hal h2 h) ?_
  intro p e s m args below meth c s₁ X0 hexec hbytes hml hret hlk hnm hown hh0 W hP
  obtain ⟨rfl, hx, hy, s1, hz⟩ := hP
  have c1 : Steps p.tables e below (s₁.setTop (entryFrame m #[.ref x, .ref y] 3)) (s₁.setTop (mkF m 2 #[.val (.ref x), .val (.ref y), .unset] [.ref y, .ref x])) := Steps.trans (entry rfl) (by
    show Steps p.tables e below (s₁.setTop (mkF m 0 #[.val (.ref x), .val (.ref y), .unset] [])) _
    refine XS.aloadN X0.here hexec rfl (hb hbytes d0) rfl rfl ?_
    refine XS.aloadN X0.here hexec rfl (hb hbytes d1) rfl rfl ?_
    exact Steps.refl _)
  by_cases hxy : x = y
  · have c2 : Steps p.tables e below (s₁.setTop (entryFrame m #[.ref x, .ref y] 3)) (s₁.setTop (mkF m 6 #[.val (.ref x), .val (.ref y), .unset] [.int 1])) := c1.trans (by
      refine acmpNo X0.here hexec rfl (hb hbytes d2) rfl rfl rfl (by simp [acmp, hxy]) ?_
      refine iconstV X0.here hexec rfl 1 (hb hbytes d5) (by decide) ?_
      exact Steps.refl _)
    subst hxy
    have ec : cd = cd' := by
      obtain ⟨D, fd, a1, a2, a3⟩ := hx.2.2.1
      obtain ⟨D', fd', b1, b2, b3⟩ := hy.2.2.1
      cases a1.symm.trans b1
      obtain ⟨q1, q2, q3, q4⟩ := a2.1
      obtain ⟨r1, r2, r3, r4⟩ := b2.1
      cases q4.symm.trans r4
      cases a3.symm.trans b3; rfl
    have et : t = t' := by
      obtain ⟨D, fd, a1, a2, a3⟩ := hx.2.1
      obtain ⟨D', fd', b1, b2, b3⟩ := hy.2.1
      cases a1.symm.trans b1
      obtain ⟨q1, q2, q3, q4⟩ := a2.1
      obtain ⟨r1, r2, r3, r4⟩ := b2.1
      cases q4.symm.trans r4
      cases a3.symm.trans b3; rfl
    subst ec et
    have ev : V = V' := by cases hx.2.2.2.1.1.symm.trans hy.2.2.2.1.1; rfl
    subst ev
    have hs : SameT n f k g := (Cod.eqv hx.2.2.2.2.1 hy.2.2.2.2.1 hx.2.2.2.2.2 hy.2.2.2.2.2).mp ⟨rfl, fun _ _ => rfl⟩
    exact ⟨s₁, some (.int 1), _, _, _, X0, rfl, rfl, rfl, (fun h => by cases h), ⟨1, rfl, hh0, Or.inl ⟨rfl, hs⟩⟩, fun fs hl => c2.trans (X0.ireturnOut hexec hret rfl (Or.inr (Or.inl rfl)) (hb hbytes d6) hl)⟩
  · have c2 : Steps p.tables e below (s₁.setTop (entryFrame m #[.ref x, .ref y] 3)) (s₁.setTop (mkF m 8 #[.val (.ref x), .val (.ref y), .unset] [.ref y])) := c1.trans (by
      refine acmpYes X0.here hexec rfl (pc0 := 2) rfl (hb hbytes d2) rfl rfl rfl (by simp [acmp, hxy]) (by decide) rfl ?_
      refine XS.aloadN X0.here hexec rfl (hb hbytes d7) rfl rfl ?_
      exact Steps.refl _)
    obtain ⟨T3, X3, q3, st3⟩ := cinst X0 hexec hown (wk W (.classLink "java/lang/String" 10 "java/lang/String")) (hy.mv X0.warmed.alike hh0).1 (g := (mkF m 8 #[.val (.ref x), .val (.ref y), .unset] [.ref y])) rfl (rest := []) rfl (hb hbytes d8)
    have hh3 := q3.trans hh0
    have c4 : Steps p.tables e below (s₁.setTop (entryFrame m #[.ref x, .ref y] 3)) (T3.setTop (mkF m 15 #[.val (.ref x), .val (.ref y), .unset] [.ref y])) := (c2.trans (st3 _ (Steps.refl _))).trans (by
      refine XS.ifNo X3.here hexec rfl (hb hbytes d11) rfl (i0_eq_f (by decide)) ?_
      refine XS.aloadN X3.here hexec rfl (hb hbytes d14) rfl rfl ?_
      exact Steps.refl _)
    obtain ⟨T5, X5, q5, st5⟩ := cself X3 hexec hown (wk W (.classLink "java/lang/String" 10 "java/lang/String")) (hy.mv X3.warmed.alike hh3).1 (g := (mkF m 15 #[.val (.ref x), .val (.ref y), .unset] [.ref y])) rfl (rest := []) rfl (hb hbytes d15)
    have hh5 := q5.trans hh3
    have c6 : Steps p.tables e below (s₁.setTop (entryFrame m #[.ref x, .ref y] 3)) (T5.setTop (mkF m 19 #[.val (.ref x), .val (.ref y), .val (.ref y)] [])) := (c4.trans (st5 _ (Steps.refl _))).trans (by
      refine XS.astoreN X5.here hexec rfl (hb hbytes d18) rfl rfl rfl ?_
      exact Steps.refl _)
    obtain ⟨T7, X7, q7, st7⟩ := X5.sget hexec hown (wk W (.fieldLink "java/lang/String" 38 "java/lang/String" "COMPACT_STRINGS" "Z")) s1 (fun _ _ h => by rw [hh5]; exact h) (g := (mkF m 19 #[.val (.ref x), .val (.ref y), .val (.ref y)] [])) rfl (hb hbytes d19)
    have hh7 := q7.trans hh5
    have c8 : Steps p.tables e below (s₁.setTop (entryFrame m #[.ref x, .ref y] 3)) (T7.setTop (mkF m 26 #[.val (.ref x), .val (.ref y), .val (.ref y)] [.ref x])) := (c6.trans (st7 _ (Steps.refl _))).trans (by
      refine XS.ifNo X7.here hexec rfl (hb hbytes d22) rfl (i0_eq_f hz) ?_
      refine XS.aloadN X7.here hexec rfl (hb hbytes d25) rfl rfl ?_
      exact Steps.refl _)
    obtain ⟨T9, X9, q9, st9⟩ := X7.hget hexec hown (wk W (.fieldLink "java/lang/String" 15 "java/lang/String" "coder" "B")) (hx.mv X7.warmed.alike hh7).2.2.1 (g := (mkF m 26 #[.val (.ref x), .val (.ref y), .val (.ref y)] [.ref x])) rfl (rest := []) rfl (hb hbytes d26)
    have hh9 := q9.trans hh7
    have c10 : Steps p.tables e below (s₁.setTop (entryFrame m #[.ref x, .ref y] 3)) (T9.setTop (mkF m 30 #[.val (.ref x), .val (.ref y), .val (.ref y)] [.ref y, .int cd])) := (c8.trans (st9 _ (Steps.refl _))).trans (by
      refine XS.aloadN X9.here hexec rfl (hb hbytes d29) rfl rfl ?_
      exact Steps.refl _)
    obtain ⟨T11, X11, q11, st11⟩ := X9.hget hexec hown (wk W (.fieldLink "java/lang/String" 15 "java/lang/String" "coder" "B")) (hy.mv X9.warmed.alike hh9).2.2.1 (g := (mkF m 30 #[.val (.ref x), .val (.ref y), .val (.ref y)] [.ref y, .int cd])) rfl (rest := [.int cd]) rfl (hb hbytes d30)
    have hh11 := q11.trans hh9
    have c12 : Steps p.tables e below (s₁.setTop (entryFrame m #[.ref x, .ref y] 3)) (T11.setTop (mkF m 33 #[.val (.ref x), .val (.ref y), .val (.ref y)] [.int cd', .int cd])) := c10.trans (st11 _ (Steps.refl _))
    by_cases hcd : cd = cd'
    · subst hcd
      have c13 : Steps p.tables e below (s₁.setTop (entryFrame m #[.ref x, .ref y] 3)) (T11.setTop (mkF m 37 #[.val (.ref x), .val (.ref y), .val (.ref y)] [.ref x])) := c12.trans (by
        refine XS.icmpNo X11.here hexec rfl (hb hbytes d33) rfl (ii_ne_f rfl) ?_
        refine XS.aloadN X11.here hexec rfl (hb hbytes d36) rfl rfl ?_
        exact Steps.refl _)
      obtain ⟨T14, X14, q14, st14⟩ := X11.hget hexec hown (wk W (.fieldLink "java/lang/String" 9 "java/lang/String" "value" "[B")) (hx.mv X11.warmed.alike hh11).2.1 (g := (mkF m 37 #[.val (.ref x), .val (.ref y), .val (.ref y)] [.ref x])) rfl (rest := []) rfl (hb hbytes d37)
      have hh14 := q14.trans hh11
      have c15 : Steps p.tables e below (s₁.setTop (entryFrame m #[.ref x, .ref y] 3)) (T14.setTop (mkF m 41 #[.val (.ref x), .val (.ref y), .val (.ref y)] [.ref y, .ref t])) := (c13.trans (st14 _ (Steps.refl _))).trans (by
        refine XS.aloadN X14.here hexec rfl (hb hbytes d40) rfl rfl ?_
        exact Steps.refl _)
      obtain ⟨T16, X16, q16, st16⟩ := X14.hget hexec hown (wk W (.fieldLink "java/lang/String" 9 "java/lang/String" "value" "[B")) (hy.mv X14.warmed.alike hh14).2.1 (g := (mkF m 41 #[.val (.ref x), .val (.ref y), .val (.ref y)] [.ref y, .ref t])) rfl (rest := [.ref t]) rfl (hb hbytes d41)
      have hh16 := q16.trans hh14
      have c17 : Steps p.tables e below (s₁.setTop (entryFrame m #[.ref x, .ref y] 3)) (T16.setTop (mkF m 44 #[.val (.ref x), .val (.ref y), .val (.ref y)] [.ref t', .ref t])) := c15.trans (st16 _ (Steps.refl _))
      obtain ⟨v18, T18, X18, E18, g18⟩ := X16.callS hexec (LEq.law l t V t' V') hown (wks W (staticW "java/lang/String" 541 LEq.yN)) (wk W LEq.tab) (W := 0) (Nat.le_of_ble_eq_true rfl) (Nat.le_of_ble_eq_true rfl) (Nat.le_refl _) (Nat.le_refl _) (g := (mkF m 44 #[.val (.ref x), .val (.ref y), .val (.ref y)] [.ref t', .ref t])) rfl (by rw [hml]; rfl) c17 (argsL := [.ref t, .ref t']) (rest := []) rfl rfl (by show 2 * 0 + 0 ≤ _; decide) (hb hbytes d44) (⟨rfl, hx.2.2.2.1.mv X16.warmed.alike hh16, hx.2.2.2.2.1.ty, hy.2.2.2.1.mv X16.warmed.alike hh16, hy.2.2.2.2.1.ty⟩)
      obtain ⟨v, rfl, q18, hv⟩ := E18
      have iff := Cod.eqv hx.2.2.2.2.1 hy.2.2.2.2.1 hx.2.2.2.2.2 hy.2.2.2.2.2
      rcases hv with ⟨rfl, he⟩ | ⟨rfl, he⟩
      · have c19 : Steps p.tables e below (s₁.setTop (entryFrame m #[.ref x, .ref y] 3)) (T18.setTop (mkF m 55 #[.val (.ref x), .val (.ref y), .val (.ref y)] [.int 1])) := Steps.trans g18 (by
          refine XS.ifNo X18.here hexec rfl (hb hbytes d47) rfl (i0_eq_f (by decide)) ?_
          refine iconstV X18.here hexec rfl 1 (hb hbytes d50) (by decide) ?_
          refine XS.goto X18.here hexec rfl (pc0 := 51) rfl (hb hbytes d51) (by decide) rfl ?_
          exact Steps.refl _)
        exact ⟨T18, some (.int 1), _, _, _, X18, rfl, rfl, rfl, (fun h => by cases h), ⟨1, rfl, q18.trans hh16, Or.inl ⟨rfl, iff.mp he⟩⟩, fun fs hl => c19.trans (X18.ireturnOut hexec hret rfl (Or.inr (Or.inl rfl)) (hb hbytes d55) hl)⟩
      · have c19 : Steps p.tables e below (s₁.setTop (entryFrame m #[.ref x, .ref y] 3)) (T18.setTop (mkF m 55 #[.val (.ref x), .val (.ref y), .val (.ref y)] [.int 0])) := Steps.trans g18 (by
          refine XS.ifYes X18.here hexec rfl (pc0 := 47) rfl (hb hbytes d47) rfl (i0_eq_t rfl) (by decide) rfl ?_
          refine iconstV X18.here hexec rfl 0 (hb hbytes d54) (by decide) ?_
          exact Steps.refl _)
        exact ⟨T18, some (.int 0), _, _, _, X18, rfl, rfl, rfl, (fun h => by cases h), ⟨0, rfl, q18.trans hh16, Or.inr ⟨rfl, fun q => he (iff.mpr q)⟩⟩, fun fs hl => c19.trans (X18.ireturnOut hexec hret rfl (Or.inr (Or.inl rfl)) (hb hbytes d55) hl)⟩
    · have c13 : Steps p.tables e below (s₁.setTop (entryFrame m #[.ref x, .ref y] 3)) (T11.setTop (mkF m 55 #[.val (.ref x), .val (.ref y), .val (.ref y)] [.int 0])) := c12.trans (by
        refine XS.icmpYes X11.here hexec rfl (pc0 := 33) rfl (hb hbytes d33) rfl (ii_ne_t hcd) (by decide) rfl ?_
        refine iconstV X11.here hexec rfl 0 (hb hbytes d54) (by decide) ?_
        exact Steps.refl _)
      exact ⟨T11, some (.int 0), _, _, _, X11, rfl, rfl, rfl, (fun h => by cases h), ⟨0, rfl, hh11, Or.inr ⟨rfl, Cod.dif hx.2.2.2.2.1 hy.2.2.2.2.1 hcd⟩⟩, fun fs hl => c13.trans (X11.ireturnOut hexec hret rfl (Or.inr (Or.inl rfl)) (hb hbytes d55) hl)⟩
theorem pays {l : Launch} {R : Room} {p : Program} {e : Env} {below : List Frame} {s : State} {sargs : Array Value} {len W : Nat} (x t : Addr) (V : Cell) (cd : Int32) (n : Nat) (f : Nat → Int32) (y t' : Addr) (V' : Cell) (cd' : Int32) (k : Nat) (g : Nat → Int32) (z : Int32) (htab : tab.before sargs s = true) (hfr : 2 ≤ R.frames) (hlo : W + 28 ≤ R.locals) :
    Back l R p e below s sargs yN len W (fun A₁ a₁ => A₁.cells + 0 ≤ R.cells ∧ A₁.slots + 0 ≤ R.slots ∧ P x t V cd n f y t' V' cd' k g z a₁ A₁.U) (fun A₁ _ v₁ B₁ => Says01 (SameT n f k g) v₁ A₁.U B₁.U ∧ B₁.locs = A₁.locs ++ [] ∧ B₁.cells = A₁.cells + 0 ∧ B₁.slots = A₁.slots + 0) :=
  (law l x t V cd n f y t' V' cd' k g z).pays htab hfr (by omega)
end SEq
end StrChars
namespace StrChars.Road
open Jvm Sem ClassFile Op Lib Jvm.Stand Jvm.Free Jvm.Free.XT
open Jvm.Lib.Cold (StaticIs)
/-- the words of String.equals(Object) -/
abbrev wordsEq : List Jvm.Cond := [.code SEq.yN SEq.yB 3 (some .boolean), .initialized ST, .classLink ST 10 ST, .fieldLink ST 38 ST "COMPACT_STRINGS" "Z", .fieldLink ST 15 ST "coder" "B", .fieldLink ST 9 ST "value" "[B", .methodLink ST 541 LEq.yN, .static LEq.yN, .code LEq.yN LEq.yB 3 (some .boolean), .initialized "java/lang/StringLatin1"]
theorem tabEq_of {a : Array Value} {s : State} (h : ∀ w ∈ wordsEq, w.before a s = true) : SEq.tab.before a s = true := by
  have hl : LEq.tab.before a s = true := unparts (wk h (.code LEq.yN LEq.yB 3 (some .boolean))) (wks h (.initialized LEq.yN.cls :: LEq.site))
  have q := consq hl h
  exact unparts (wk q (.code SEq.yN SEq.yB 3 (some .boolean))) (wks q (.initialized SEq.yN.cls :: SEq.site))
theorem movedEq {Z s : State} {a0 args : Array Value} (hZ : Z.Warmed39 s.vm) (hw : ∀ d ∈ wordsEq, d.before a0 Z = true) : ∀ d ∈ wordsEq, d.before args s = true := fun d hd => by
  have t : ∀ d ∈ wordsEq, (d.onTables && d.keepsFace) = true := by decide +kernel
  exact RoadKit.mv hZ (hw d hd) (t d hd)
/-- the road's facts of a String, as the laws ask it -/
theorem txt_of {Z U : State} {a0 : Array Value} {kI : Nat} (wi : (Jvm.Cond.instantiable ST kI).before a0 Z = true) (al : Z.vm.Alike U.vm) {x t : Addr} {kb : ClassId} {cs : List Int32} {cd N2 : Int32} {vs : List Value} (E : RoadKit.Exa Z U.heap x ST) (V : RoadKit.Fld Z U.heap x ST "value" "[B" (.ref t)) (C : RoadKit.Fld Z U.heap x ST "coder" "B" (.int cd)) (K : RoadKit.Arv Z U.heap t kb .byte N2 vs (.int 0)) (hc : CodA cs cd N2 vs) (hb : ∀ c ∈ cs, ¬ c < 0 ∧ ¬ (65535 : Int32) < c) (l2 : cs.length ≤ 4000) :
    ∃ A, Txt x t A cd cs.length (fun j => cs.getD j 0) U := by
  obtain ⟨A, K1, K2, K3, K4, K5, K6⟩ := K
  have hcod := hc.cod (by omega) K3 K5
  obtain ⟨D, fV, fC, hB, F1, F2, g1, g2, -, -⟩ := strObj wi al E V C
  exact ⟨A, ⟨_, hB.2.2.1, D, hB.1, rfl, by cases q : D.vm <;> first | rfl | exact absurd q (hB.2.1.2 _)⟩, Has.of hB F1 g1, Has.of hB F2 g2, ⟨K1.1, State.isArrayOf_alike al K1.2.1, K1.2.2, by rcases hcod with ⟨-, q, -⟩ | ⟨-, q, -⟩ <;> omega⟩, hcod, fun j hj => by
    have e : cs.getD j 0 = cs[j] := by simp [List.getD_eq_getElem?_getD, hj]
    show ¬ cs.getD j 0 < 0 ∧ ¬ 65535 < cs.getD j 0
    rw [e]; exact hb _ (List.getElem_mem _)⟩
theorem same_list (cs ds : List Int32) : SameT cs.length (fun j => cs.getD j 0) ds.length (fun j => ds.getD j 0) ↔ cs = ds := by
  constructor
  · rintro ⟨e, q⟩
    refine List.ext_getElem e fun j h1 h2 => ?_
    have := q j h1
    simpa [List.getD_eq_getElem?_getD, h1, h2] using this
  · rintro rfl
    exact ⟨rfl, fun _ _ => rfl⟩
/-- **equals(Object) OF TWO SUCH STRINGS**: 1 just where the chars are the same -/
theorem eqW {p : Program} {l : Launch} {e : Env} {R : Room} {s : State} {args : Array Value} {below : List Frame} {len W : Nat} {Z : State} {a0 : Array Value} {h : Heap} (hZ : Z.Warmed39 s.vm) (hw : ∀ d ∈ wordsEq, d.before a0 Z = true) {kI : Nat} (wi : (Jvm.Cond.instantiable ST kI).before a0 Z = true)
    {x t : Addr} {kb : ClassId} {cs : List Int32} {cd N2 : Int32} {vs : List Value} (E : RoadKit.Exa Z h x ST) (V : RoadKit.Fld Z h x ST "value" "[B" (.ref t)) (C : RoadKit.Fld Z h x ST "coder" "B" (.int cd)) (K : RoadKit.Arv Z h t kb .byte N2 vs (.int 0)) (hc : CodA cs cd N2 vs) (hb : ∀ c ∈ cs, ¬ c < 0 ∧ ¬ (65535 : Int32) < c) (l2 : cs.length ≤ 4000)
    {y t' : Addr} {kb' : ClassId} {ds : List Int32} {cd' N2' : Int32} {vs' : List Value} (E' : RoadKit.Exa Z h y ST) (V' : RoadKit.Fld Z h y ST "value" "[B" (.ref t')) (C' : RoadKit.Fld Z h y ST "coder" "B" (.int cd')) (K' : RoadKit.Arv Z h t' kb' .byte N2' vs' (.int 0)) (hc' : CodA ds cd' N2' vs') (hb' : ∀ c ∈ ds, ¬ c < 0 ∧ ¬ (65535 : Int32) < c) (l2' : ds.length ≤ 4000)
    {z : Int32} (S : RoadKit.Sta Z h ST "COMPACT_STRINGS" "Z" (.int z)) (hz : ¬ z = 0) (hfr : 2 ≤ R.frames) (hlo : W + 28 ≤ R.locals) :
    Back l R p e below s args (⟨"java/lang/String", "equals", "(Ljava/lang/Object;)Z"⟩ : MethodName) len W (fun P a => a = #[.ref x, .ref y] ∧ P.U.heap = h ∧ P.cells + 0 ≤ R.cells ∧ P.slots + 0 ≤ R.slots)
      (fun P _ v B => ∃ L, (((v = some (.int 1) ∧ cs = ds) ∨ (v = some (.int 0) ∧ ¬ cs = ds)) ∧ L = [] ∧ B.U.heap = h) ∧ B.locs = P.locs ++ L ∧ B.cells = P.cells + 0 ∧ B.slots = P.slots + 0) := by
  intro m meth c P g ig mk a X hg hsize hdg hW hn hp'
  obtain ⟨rfl, rfl, r1, r2⟩ := hp'
  have al : Z.vm.Alike P.U.vm := hZ.alike.trans X.warmed.alike
  obtain ⟨A, hx⟩ := txt_of wi al E V C K hc hb l2
  obtain ⟨A', hy⟩ := txt_of wi al E' V' C' K' hc' hb' l2'
  obtain ⟨v, B, X', ⟨⟨w, hv, hh, hq⟩, hl, hk, hs⟩, st⟩ := SEq.pays x t A cd cs.length (fun j => cs.getD j 0) y t' A' cd' ds.length (fun j => ds.getD j 0) z (tabEq_of (movedEq hZ hw)) hfr hlo m meth c P g ig mk _ X hg hsize hdg hW hn ⟨r1, r2, rfl, hx, hy, sta_is al S, hz⟩
  refine ⟨v, B, X', ⟨[], ⟨?_, rfl, hh⟩, hl, hk, hs⟩, st⟩
  rcases hq with ⟨rfl, q⟩ | ⟨rfl, q⟩
  · exact Or.inl ⟨hv, (same_list cs ds).mp q⟩
  · exact Or.inr ⟨hv, fun e => q ((same_list cs ds).mpr e)⟩
end StrChars.Road
namespace StrChars
open Jvm Sem ClassFile Op Lib Jvm.Stand Jvm.Free.XT Jvm.Free.ALB Jvm.Free.JM Jvm.Free
open Jvm.Lib.Cold (StaticIs)
namespace ChN
def yN : MethodName := ⟨"java/lang/String", "charAt", "(I)C"⟩
abbrev yB : ByteArray := jdk_42_method_56_code
theorem d0 : decode yB 0 = .ok (.aload_n 0, 1) := by decide +kernel
theorem d1 : decode yB 1 = .ok (.invokevirtual 492, 3) := by decide +kernel
theorem d4 : decode yB 4 = .ok (.ifCond (.eq) 12, 3) := by decide +kernel
theorem d7 : decode yB 7 = .ok (.aload_n 0, 1) := by decide +kernel
theorem d8 : decode yB 8 = .ok (.getfield 9, 3) := by decide +kernel
theorem d11 : decode yB 11 = .ok (.iload_n 1, 1) := by decide +kernel
theorem d12 : decode yB 12 = .ok (.invokestatic 495, 3) := by decide +kernel
theorem d15 : decode yB 15 = .ok (.ireturn, 1) := by decide +kernel
def site : List Cond := [.fieldLink "java/lang/String" 9 "java/lang/String" "value" "[B", IsL.tab, LChA.tab] ++ virtW "java/lang/String" 492 "java/lang/String" IsL.yN IsL.yN ++ staticW "java/lang/String" 495 LChA.yN
def tab : Cond := tabOf yN yB 2 (some .char) site
def P (x t : Addr) (V : Cell) (n : Nat) (f : Nat → Int32) (z : Int32) (fm : Value) (i : Nat) (args : Array Value) (s : State) : Prop := args = #[.ref x, .int (Int32.ofNat i)] ∧ Txt x t V 0 n f s ∧ i < n ∧ StaticIs s "java/lang/String" "COMPACT_STRINGS" "Z" (.int z) ∧ ¬ z = 0 ∧ StaticIs s "jdk/internal/util/Preconditions" "SIOOBE_FORMATTER" "Ljava/util/function/BiFunction;" fm ∧ fm.isRef = true
def E (f : Nat → Int32) (i : Nat) (r : Option Value) (s u : State) : Prop := XT.PureE (some (.int (f i))) r s u
/-- charAt(i) of a Latin-1 String of n chars, i < n: f i -/
theorem law (l : Launch) (x t : Addr) (V : Cell) (n : Nat) (f : Nat → Int32) (z : Int32) (fm : Value) (i : Nat) : Law l yN 2 1 3 40 yB 2 (some .char) site (P x t V n f z fm i) (E f i) [] 0 0 := by
  refine Law.of_walk (plainFor_of_name (by decide +kernel)) (by decide +kernel) (by decide +kernel) (by decide) (fun _ _ h => by rw [h.1]; rfl) (fun _ U U' hal hh h => ⟨h.1, h.2.1.mv hal hh, h.2.2.1, h.2.2.2.1.there hal hh, h.2.2.2.2.1, h.2.2.2.2.2.1.there hal hh, h.2.2.2.2.2.2⟩) (fun r U U' V V' h1 hal h2 h => XT.PureE.mv r U U' V V' h1 hal h2 h) ?_
  intro p e s m args below meth c s₁ X0 hexec hbytes hml hret hlk hnm hown hh0 W hP
  obtain ⟨rfl, hx, hi, s1, hz, s3, rf⟩ := hP
  have v31 := hx.2.2.2.1.2.2.2
  have hr := hx.2.2.2.2.2 i hi
  have hx0 := hx.mv X0.warmed.alike hh0
  have c1 : Steps p.tables e below (s₁.setTop (entryFrame m #[.ref x, .int (Int32.ofNat i)] 2)) (s₁.setTop (mkF m 1 #[.val (.ref x), .val (.int (Int32.ofNat i))] [.ref x])) := Steps.trans (entry rfl) (by
    show Steps p.tables e below (s₁.setTop (mkF m 0 #[.val (.ref x), .val (.int (Int32.ofNat i))] [])) _
    refine XS.aloadN X0.here hexec rfl (hb hbytes d0) rfl rfl ?_
    exact Steps.refl _)
  obtain ⟨v2, T2, X2, E2, g2⟩ := X0.callV hexec (IsL.law l x 0 z) hown (wks W (virtW "java/lang/String" 492 "java/lang/String" IsL.yN IsL.yN)) rfl (by decide) (wk W IsL.tab) (W := 0) (Nat.le_of_ble_eq_true rfl) (Nat.le_of_ble_eq_true rfl) (Nat.le_refl _) (Nat.le_refl _) (hx0.1.fc X0.warmed.alike) hx0.1.is (g := (mkF m 1 #[.val (.ref x), .val (.int (Int32.ofNat i))] [.ref x])) rfl (by rw [hml]; rfl) c1 (argsL := []) (rest := []) rfl rfl (by show 2 * 0 + 0 ≤ _; decide) (hb hbytes d1) (⟨rfl, hx0.2.2.1, hx.2.2.2.2.1.cd, s1.there X0.warmed.alike hh0, hz⟩)
  obtain ⟨rfl, q2⟩ := E2
  have hh2 := q2.trans hh0
  have hx2 := hx.mv X2.warmed.alike hh2
  obtain ⟨-, k1, k2⟩ | ⟨k0, -⟩ := hx.2.2.2.2.1
  · have c3 : Steps p.tables e below (s₁.setTop (entryFrame m #[.ref x, .int (Int32.ofNat i)] 2)) (T2.setTop (mkF m 8 #[.val (.ref x), .val (.int (Int32.ofNat i))] [.ref x])) := Steps.trans g2 (by
      refine XS.ifNo X2.here hexec rfl (hb hbytes d4) rfl (i0_eq_f (by decide)) ?_
      refine XS.aloadN X2.here hexec rfl (hb hbytes d7) rfl rfl ?_
      exact Steps.refl _)
    obtain ⟨T4, X4, q4, st4⟩ := X2.hget hexec hown (wk W (.fieldLink "java/lang/String" 9 "java/lang/String" "value" "[B")) hx2.2.1 (g := (mkF m 8 #[.val (.ref x), .val (.int (Int32.ofNat i))] [.ref x])) rfl (rest := []) rfl (hb hbytes d8)
    have hh4 := q4.trans hh2
    have c5 : Steps p.tables e below (s₁.setTop (entryFrame m #[.ref x, .int (Int32.ofNat i)] 2)) (T4.setTop (mkF m 12 #[.val (.ref x), .val (.int (Int32.ofNat i))] [.int (Int32.ofNat i), .ref t])) := (c3.trans (st4 _ (Steps.refl _))).trans (by
      refine XS.iloadN X4.here hexec rfl (hb hbytes d11) rfl ?_
      exact Steps.refl _)
    obtain ⟨v6, T6, X6, E6, g6⟩ := X4.callS hexec (LChA.law l t V i (lo8 (f i)) fm) hown (wks W (staticW "java/lang/String" 495 LChA.yN)) (wk W LChA.tab) (W := 0) (Nat.le_of_ble_eq_true rfl) (Nat.le_of_ble_eq_true rfl) (Nat.le_refl _) (Nat.le_refl _) (g := (mkF m 12 #[.val (.ref x), .val (.int (Int32.ofNat i))] [.int (Int32.ofNat i), .ref t])) rfl (by rw [hml]; rfl) c5 (argsL := [.ref t, .int (Int32.ofNat i)]) (rest := []) rfl rfl (by show 2 * 0 + 0 ≤ _; decide) (hb hbytes d12) (⟨rfl, hx.2.2.2.1.mv X4.warmed.alike hh4, (k2 i hi).1, s3.there X4.warmed.alike hh4, rf⟩)
    obtain ⟨rfl, q6⟩ := E6
    rw [chr8_lo8 hr.1 (k2 i hi).2] at g6
    exact ⟨T6, some (.int (f i)), _, _, _, X6, rfl, rfl, rfl, (fun h => by cases h), ⟨rfl, q6.trans hh4⟩, fun fs hl => Steps.trans g6 (X6.ireturnOut hexec hret (narrow_ch hr.1 hr.2) (Or.inr (Or.inr (Or.inr (Or.inl rfl)))) (hb hbytes d15) hl)⟩
  · exact absurd k0 (by decide)
theorem pays {l : Launch} {R : Room} {p : Program} {e : Env} {below : List Frame} {s : State} {sargs : Array Value} {len W : Nat} (x t : Addr) (V : Cell) (n : Nat) (f : Nat → Int32) (z : Int32) (fm : Value) (i : Nat) (htab : tab.before sargs s = true) (hfr : 4 ≤ R.frames) (hlo : W + 53 ≤ R.locals) :
    Back l R p e below s sargs yN len W (fun A₁ a₁ => A₁.cells + 0 ≤ R.cells ∧ A₁.slots + 0 ≤ R.slots ∧ P x t V n f z fm i a₁ A₁.U) (fun A₁ _ v₁ B₁ => E f i v₁ A₁.U B₁.U ∧ B₁.locs = A₁.locs ++ [] ∧ B₁.cells = A₁.cells + 0 ∧ B₁.slots = A₁.slots + 0) :=
  (law l x t V n f z fm i).pays htab hfr (by omega)
end ChN
end StrChars
namespace StrChars.Road
open Jvm Sem ClassFile Op Lib Jvm.Stand Jvm.Free Jvm.Free.XT
open Jvm.Lib.Cold (StaticIs)
/-- the words of String.charAt(int), the Latin-1 road alone -/
abbrev wordsChN : List Jvm.Cond := [.code ChN.yN ChN.yB 2 (some .char), .initialized ST, .fieldLink ST 9 ST "value" "[B", .fieldLink ST 38 ST "COMPACT_STRINGS" "Z", .fieldLink ST 15 ST "coder" "B", .code IsL.yN IsL.yB 1 (some .boolean), .methodLink ST 492 IsL.yN, .declares IsL.yN, .selects ST IsL.yN IsL.yN, .instanceMethod IsL.yN,
  .methodLink ST 495 LChA.yN, .static LChA.yN, .code LChA.yN LChA.yB 2 (some .char), .initialized "java/lang/StringLatin1", .methodLink "java/lang/StringLatin1" 9 JO.Str_checkIndex.yN, .static JO.Str_checkIndex.yN, .code JO.Str_checkIndex.yN JO.Str_checkIndex.yB 2 none,
  .fieldLink ST 1053 "jdk/internal/util/Preconditions" "SIOOBE_FORMATTER" "Ljava/util/function/BiFunction;", .methodLink ST 1059 JC.PreCheck.yN, .static JC.PreCheck.yN, .code JC.PreCheck.yN JC.PreCheck.yB 3 (some .int), .initialized "jdk/internal/util/Preconditions"]
theorem tabChN_of {a : Array Value} {s : State} (h : ∀ w ∈ wordsChN, w.before a s = true) : ChN.tab.before a s = true := by
  have hp : JC.PreCheck.tab.before a s = true := unparts (wk h (.code JC.PreCheck.yN JC.PreCheck.yB 3 (some .int))) (wks h (.initialized JC.PreCheck.yN.cls :: JC.PreCheck.site))
  have qk := consq hp h
  have hk : JO.Str_checkIndex.tab.before a s = true := unparts (wk qk (.code JO.Str_checkIndex.yN JO.Str_checkIndex.yB 2 none)) (wks qk (.initialized JO.Str_checkIndex.yN.cls :: JO.Str_checkIndex.site))
  have ql := consq hk h
  have hl : LChA.tab.before a s = true := unparts (wk ql (.code LChA.yN LChA.yB 2 (some .char))) (wks ql (.initialized LChA.yN.cls :: LChA.site))
  have hi : IsL.tab.before a s = true := unparts (wk h (.code IsL.yN IsL.yB 1 (some .boolean))) (wks h (.initialized IsL.yN.cls :: IsL.site))
  have q := consq hi (consq hl h)
  exact unparts (wk q (.code ChN.yN ChN.yB 2 (some .char))) (wks q (.initialized ChN.yN.cls :: ChN.site))
theorem movedChN {Z s : State} {a0 args : Array Value} (hZ : Z.Warmed39 s.vm) (hw : ∀ d ∈ wordsChN, d.before a0 Z = true) : ∀ d ∈ wordsChN, d.before args s = true := fun d hd => by
  have t : ∀ d ∈ wordsChN, (d.onTables && d.keepsFace) = true := by decide +kernel
  exact RoadKit.mv hZ (hw d hd) (t d hd)
/-- **charAt(i) OF A LATIN-1 STRING**, i < n: the char -/
theorem chN {p : Program} {l : Launch} {e : Env} {R : Room} {s : State} {args : Array Value} {below : List Frame} {len W : Nat} {Z : State} {a0 : Array Value} {h : Heap} (hZ : Z.Warmed39 s.vm) (hw : ∀ d ∈ wordsChN, d.before a0 Z = true) {kI : Nat} (wi : (Jvm.Cond.instantiable ST kI).before a0 Z = true)
    {x t : Addr} {kb : ClassId} {cs : List Int32} {N2 z : Int32} {vs : List Value} {fm : Value} {i : Nat} {j : Int32} (E : RoadKit.Exa Z h x ST) (V : RoadKit.Fld Z h x ST "value" "[B" (.ref t)) (C : RoadKit.Fld Z h x ST "coder" "B" (.int 0)) (K : RoadKit.Arv Z h t kb .byte N2 vs (.int 0)) (hc : CodA cs 0 N2 vs) (hb : ∀ c ∈ cs, ¬ c < 0 ∧ ¬ (65535 : Int32) < c)
    (S : RoadKit.Sta Z h ST "COMPACT_STRINGS" "Z" (.int z)) (hz : ¬ z = 0) (F : RoadKit.Sta Z h "jdk/internal/util/Preconditions" "SIOOBE_FORMATTER" "Ljava/util/function/BiFunction;" fm) (rf : fm.isRef = true) (l2 : cs.length ≤ 4000) (hi : i < cs.length) (hj : j = Int32.ofNat i) (hfr : 4 ≤ R.frames) (hlo : W + 53 ≤ R.locals) :
    Back l R p e below s args (⟨"java/lang/String", "charAt", "(I)C"⟩ : MethodName) len W (fun P a => a = #[.ref x, .int j] ∧ P.U.heap = h ∧ P.cells + 0 ≤ R.cells ∧ P.slots + 0 ≤ R.slots)
      (fun P _ v B => ∃ L, (v = some (.int (cs.getD i 0)) ∧ L = [] ∧ B.U.heap = h) ∧ B.locs = P.locs ++ L ∧ B.cells = P.cells + 0 ∧ B.slots = P.slots + 0) := by
  subst hj
  intro m meth c P g ig mk a X hg hsize hdg hW hn hp'
  obtain ⟨rfl, rfl, r1, r2⟩ := hp'
  have al : Z.vm.Alike P.U.vm := hZ.alike.trans X.warmed.alike
  obtain ⟨A, hx⟩ := txt_of wi al E V C K hc hb l2
  obtain ⟨v, B, X', ⟨⟨hv, hh⟩, hl, hk, hs⟩, st⟩ := ChN.pays x t A cs.length (fun j => cs.getD j 0) z fm i (tabChN_of (movedChN hZ hw)) hfr hlo m meth c P g ig mk _ X hg hsize hdg hW hn ⟨r1, r2, rfl, hx, hi, sta_is al S, hz, sta_is al F, rf⟩
  exact ⟨v, B, X', ⟨[], ⟨hv, rfl, hh⟩, hl, hk, hs⟩, st⟩
/-- what backV says of its String, as the contracts of this text ask it: cs's low bytes, coder 0 -/
theorem codOf {cs : List Int32} {n : Nat} (hn : cs.length = n) (hb : ∀ c ∈ cs, ¬ 255 < c) : CodA cs 0 (Int32.ofNat n) ((cs.map lo8).map Value.int) := Or.inl ⟨rfl, by rw [hn], by simp [List.map_map, Function.comp_def], hb⟩
end StrChars.Road
end Jvm.Pilot.@@N@@
namespace Jvm.Pilot.@@N@@
open Jvm Jvm.ClassFile Sem Op Lib Jvm.Free Jvm.Stand Jvm.LawKit Jvm.RoadKit Bundle Jvm.Pilot.@@N@@.Jvm.D
/-! own kit, part A: a walk as a goal (Go), the world of a walk (Wd), contracts (Met) -/
section OwnA
variable {p : Program} {l : Launch} {e : Env} {R : Room} {s : State} {m : MethodId} {args : Array Value} {below : List Frame} {meth : Method} {c : Code} {T T' : State} {h h' : Heap} {Z : State} {a0 : Array Value} {EL : List (String × Nat)} {own : String} {k n : Nat} {P : Outcome → State → Prop} {F : List Addr}
/-- what a walk owes from here -/
def Go (p : Program) (e : Env) (below : List Frame) (P : Outcome → State → Prop) (T : State) (g : JFrame) : Prop :=
  ∃ t o, Steps p.tables e below (T.setTop g) t ∧ t.status = .running ∧ Ended t below o ∧ P o t
theorem Go.st {g g' : JFrame} (K : Go p e below P T' g') (st : ∀ target, Steps p.tables e below (T'.setTop g') target → Steps p.tables e below (T.setTop g) target) : Go p e below P T g := by
  obtain ⟨t, o, h1, h2⟩ := K
  exact ⟨t, o, st t h1, h2⟩
theorem Go.tr {g g' : JFrame} (K : Go p e below P T' g') (st : Steps p.tables e below (T.setTop g) (T'.setTop g')) : Go p e below P T g := by
  obtain ⟨t, o, h1, h2⟩ := K
  exact ⟨t, o, st.trans h1, h2⟩
/-- an address that the walk may write -/
def Wok (Z : State) (F : List Addr) (h : Heap) (a : Addr) : Prop := Z.heap.size ≤ a ∧ (a ∈ F ∨ (∃ C, Exa Z h a C ∧ C ≠ "java/lang/String" ∧ C ≠ "[B") ∨ ∃ cl ty, Arr Z h a cl ty ∧ ty ≠ .byte)
/-- the world of a walk -/
def Wd (p : Program) (l : Launch) (e : Env) (R : Room) (s : State) (m : MethodId) (args : Array Value) (below : List Frame) (meth : Method) (c : Code) (Z : State) (a0 : Array Value) (EL : List (String × Nat)) (own : String) (F : List Addr) (T : State) (h : Heap) (k n : Nat) : Prop :=
  p.tables.exec = Jvm.exec ∧ Ext Z.heap h ∧ EW Z a0 EL ∧ meth.locks = false ∧
    ∃ (vm0 : Vm) (k0 : Nat) (locs : List Loc), Stand p l e R (s.setVm vm0) m args below meth c T locs k n ∧ Z.Warmed39 vm0 ∧ vm0.findClass own = some m.cls ∧ T.heap = h ∧ s.Since vm0 k0 ∧ k0 ≤ h.size ∧ CHr Z EL s.vm s.heap vm0 h ∧ Fr Z.heap.size locs ∧ ∀ x ∈ F, x < h.size ∧ Safe Z EL vm0 h x
theorem Wd.here (W : Wd p l e R s m args below meth c Z a0 EL own F T h k n) : At T m c below := by
  obtain ⟨-, -, -, -, vm0, k0, locs, X, -⟩ := W; exact X.here
theorem Wd.hx (W : Wd p l e R s m args below meth c Z a0 EL own F T h k n) : p.tables.exec = Jvm.exec := W.1
theorem Wd.old (W : Wd p l e R s m args below meth c Z a0 EL own F T h k n) : Ext Z.heap h := W.2.1
theorem Wd.hEL (W : Wd p l e R s m args below meth c Z a0 EL own F T h k n) : EW Z a0 EL := W.2.2.1
theorem Wd.safeOf {vm0 : Vm} (hal : Z.vm.Alike vm0) (hF : ∀ x ∈ F, x < h.size ∧ Safe Z EL vm0 h x) {a : Addr} (q : Wok Z F h a) : Safe Z EL vm0 h a := by
  rcases q.2 with q | ⟨C, q1, q2, q3⟩ | ⟨cl, ty, q1, q2⟩
  · exact (hF a q).2
  · exact Safe.exa hal q1 q2 q3
  · exact Safe.arr hal q1 q2
theorem Wd.more (W : Wd p l e R s m args below meth c Z a0 EL own F T h k n) {k' n' : Nat} (hk : k ≤ k') (hn : n ≤ n') : Wd p l e R s m args below meth c Z a0 EL own F T h k' n' := by
  obtain ⟨w1, w2, w3, w4, vm0, k0, locs, X, r⟩ := W
  exact ⟨w1, w2, w3, w4, vm0, k0, locs, X.more hk hn, r⟩
theorem Wd.drop (W : Wd p l e R s m args below meth c Z a0 EL own F T h k n) {F' : List Addr} (q : ∀ x ∈ F', x ∈ F) : Wd p l e R s m args below meth c Z a0 EL own F' T h k n := by
  obtain ⟨w1, w2, w3, w4, vm0, k0, locs, X, a, b, d, f, g, i, j, u⟩ := W
  exact ⟨w1, w2, w3, w4, vm0, k0, locs, X, a, b, d, f, g, i, j, fun x hx => u x (q x hx)⟩
theorem ext_old_wr {a : Addr} {sl : Nat} {v : Value} (E : Ext Z.heap h) (W : Wr h h' a sl v) (q : Z.heap.size ≤ a) : Ext Z.heap h' := (Old.wr (n0 := Z.heap.size) ⟨rfl, E⟩ W q).2
theorem ext_old_keep {ws : List Addr} (E : Ext Z.heap h) (K : Keep h h' ws) (q : ∀ x ∈ ws, Z.heap.size ≤ x) : Ext Z.heap h' := (Old.keep (n0 := Z.heap.size) ⟨rfl, E⟩ K q).2
theorem ext_trans {h2 : Heap} (E : Ext h h') (E' : Ext h' h2) : Ext h h2 := ⟨Nat.le_trans E.1 E'.1, fun a c q => E'.2 a c (E.2 a c q)⟩
theorem ext_refl (h : Heap) : Ext h h := ⟨Nat.le_refl _, fun _ _ q => q⟩
theorem ext_keep (E : Ext h h') (ws : List Addr) : Keep h h' ws := (Keep.refl h ws).ext E
theorem keep_ext (K : Keep h h' []) : Ext h h' := ⟨K.1, fun a c q => K.2.1 a c q (fun z => nomatch z)⟩
/-- a step over the same tables that only makes cells -/
theorem Wd.grow (W : Wd p l e R s m args below meth c Z a0 EL own F T h k n) {k' n' : Nat} {g g' : JFrame}
    (st : ∀ {vm0 : Vm} {locs : List Loc}, Stand p l e R (s.setVm vm0) m args below meth c T locs k n → Z.Warmed39 vm0 → vm0.findClass own = some m.cls → T.heap = h →
      ∃ T', Stand p l e R (s.setVm vm0) m args below meth c T' locs k' n' ∧ T'.heap = h' ∧ ∀ target, Steps p.tables e below (T'.setTop g') target → Steps p.tables e below (T.setTop g) target)
    (E : Ext h h') (K : ∀ T', Wd p l e R s m args below meth c Z a0 EL own F T' h' k' n' → Go p e below P T' g') : Go p e below P T g := by
  obtain ⟨w1, w2, w3, w4, vm0, k0, locs, X, hZ, hown, eT, hS, hk, hC, hN, hF⟩ := W
  obtain ⟨T', X', eT', st⟩ := st X hZ hown eT
  exact (K T' ⟨w1, ext_trans w2 E, w3, w4, vm0, k0, locs, X', hZ, hown, eT', hS, Nat.le_trans hk E.1, hC.trans (CHr.ext E hC.1), hN, fun x q => ⟨Nat.lt_of_lt_of_le (hF x q).1 E.1, Safe.ext E hC.1 (hF x q).2⟩⟩).st st
/-- a step over the same tables that writes one place -/
theorem Wd.write (W : Wd p l e R s m args below meth c Z a0 EL own F T h k n) {a : Addr} {sl : Nat} {v : Value} {g g' : JFrame} (q : Wok Z F h a)
    (st : ∀ {vm0 : Vm} {locs : List Loc}, Stand p l e R (s.setVm vm0) m args below meth c T locs k n → Z.Warmed39 vm0 → vm0.findClass own = some m.cls → T.heap = h →
      ∃ T' h', Stand p l e R (s.setVm vm0) m args below meth c T' (locs ++ [⟨a, sl⟩]) k n ∧ T'.heap = h' ∧ Wr h h' a sl v ∧ ∀ target, Steps p.tables e below (T'.setTop g') target → Steps p.tables e below (T.setTop g) target)
    (K : ∀ T' h', Wd p l e R s m args below meth c Z a0 EL own F T' h' k n → Wr h h' a sl v → Go p e below P T' g') : Go p e below P T g := by
  obtain ⟨w1, w2, w3, w4, vm0, k0, locs, X, hZ, hown, eT, hS, hk, hC, hN, hF⟩ := W
  obtain ⟨T', h', X', eT', Wr1, st⟩ := st X hZ hown eT
  have hsf := Wd.safeOf hZ.alike hF q
  exact (K T' h' ⟨w1, ext_old_wr w2 Wr1 q.1, w3, w4, vm0, k0, _, X', hZ, hown, eT', hS, by rw [Wr1.size]; exact hk, hC.trans (CHr.wr Wr1 hsf hC.1), Fr.snoc X' hN q.1, fun x r => ⟨by rw [Wr1.size]; exact (hF x r).1, Safe.wr Wr1 hsf hC.1 (hF x r).2⟩⟩ Wr1).st st
/-- the end of a walk: what a contract says -/
def Endp (Z : State) (EL : List (String × Nat)) (s : State) (Q : Option Value → Heap → Prop) (k n : Nat) (o : Outcome) (t : State) : Prop :=
  ∃ v L, o = .returned v ∧ (Q v t.heap ∧ Fr Z.heap.size L ∧ Ext Z.heap t.heap) ∧ CHr Z EL s.vm s.heap t.vm t.heap ∧ ReturnedEndW s o t L k n
/-- a contract -/
def MetW (ws : List Jvm.Cond) (l : Launch) (Z : State) (EL : List (String × Nat)) (F : List Addr) (y : MethodName) (bytes : ByteArray) (maxL : Nat) (ret : Option FieldType) (rm : Room) (as' : Array Value) (h : Heap) (Q : Option Value → Heap → Prop) : Prop :=
  MetFree l y (head1 (Jvm.Cond.code y bytes maxL ret :: ws) rm) (fun a U => a = as' ∧ Z.Warmed39 U.vm ∧ U.heap = h ∧ CHv Z EL U.vm h ∧ ∀ x ∈ F, x < h.size ∧ Safe Z EL U.vm h x) (fun _ _ _ _ _ => True) (fun _ U o U' => Endp Z EL U Q rm.cells rm.slots o U')
abbrev Met (l : Launch) (Z : State) (EL : List (String × Nat)) (F : List Addr) (y : MethodName) (bytes : ByteArray) (maxL : Nat) (ret : Option FieldType) (rm : Room) (as' : Array Value) (h : Heap) (Q : Option Value → Heap → Prop) : Prop := MetW [] l Z EL F y bytes maxL ret rm as' h Q
theorem CHr.id {vm : Vm} (H : CHv Z EL vm h) : CHr Z EL vm h vm h := CHr.refl H
theorem Met.intro {ws : List Jvm.Cond} {y : MethodName} {bytes : ByteArray} {maxL : Nat} {ret : Option FieldType} {rm : Room} {as' : Array Value} {Q : Option Value → Heap → Prop} (pn : plainName y.cls = true) (hEL : EW Z a0 EL) (hO : Ext Z.heap h)
    (body : ∀ (p : Program) (e : Env) (s : State) (m : MethodId) (below : List Frame) (meth : Method) (c : Code) (T : State), Wd p l e rm s m as' below meth c Z a0 EL y.cls F T h 0 0 → c.code = bytes → c.maxLocals = maxL → meth.sig.returnType = ret → meth.name = y.name →
      Go p e below (Endp Z EL s Q rm.cells rm.slots) T (entryFrame m as' maxL)) : MetW ws l Z EL F y bytes maxL ret rm as' h Q := by
  refine MetFree.of_bodySF (plainFor_of_name pn) hisR ?_
  intro p e s m args below meth c s₁ Bd hml0 hP hK
  obtain ⟨rfl, hZ, hh, hC, hF⟩ := hP
  have hown : s.vm.findClass y.cls = some m.cls := findClass_of_methodNamed Bd.named
  have hnm := (name_of_methodNamed Bd.named Bd.method).1
  have X0 : Stand p l e rm s m args below meth c s₁ [] 0 0 := Stand.of_body Bd
  have e0 : s₁.heap = h := by rw [← hh, Bd.state]; rfl
  exact body p e s m below meth c s₁ ⟨Bd.exec, hO, hEL, Bd.notSynchronized, s.vm, h.size, [], X0, hZ, hown, e0, State.WarmedH.since (State.WarmedH.refl s) _, Nat.le_refl _, by rw [hh]; exact CHr.refl hC, Fr.nil _, hF⟩ Bd.bytes hml0 Bd.returns hnm
/-- the walk leaves -/
theorem Wd.leave (W : Wd p l e R s m args below meth c Z a0 EL own F T h k n) {Q : Option Value → Heap → Prop} {k' n' : Nat} (hk : k ≤ k') (hn : n ≤ n') {v : Option Value} (hv : meth.sig.returnType = none → v = none) (q : Q v h) {g : JFrame}
    (st : ∀ {vm0 : Vm} {locs : List Loc} {fs : List Frame}, Stand p l e R (s.setVm vm0) m args below meth c T locs k n → (∀ (f : JFrame) (acts : List Action), f.method = m → f.locked = none → f.entered = [] → (doReturn e (T.setTop f) acts v).1 = T.setFrames fs) → Steps p.tables e below (T.setTop g) (T.setFrames fs)) :
    Go p e below (Endp Z EL s Q k' n') T g := by
  obtain ⟨w1, w2, w3, w4, vm0, k0, locs, X, hZ, hown, rfl, hS, hk0, hC, hN, hF⟩ := W
  obtain ⟨fs, hr, hrun, hended, hend⟩ := X.leaveW hS hk0 hv w4
  refine ⟨_, _, st X hr, hrun, hended, v, locs, rfl, ⟨q, hN, w2⟩, ?_, hend.1, hend.2.1, hend.2.2.1, hend.2.2.2.mono hk hn⟩
  show CHr Z EL s.vm s.heap T.vm T.heap
  exact hC.trans (CHv.at X hZ w3 hC.1)
end OwnA
/-! own kit, part B: one instruction each (by wip/kit/mkB.py) -/
section OwnB
variable {p : Program} {l : Launch} {e : Env} {R : Room} {s : State} {m : MethodId} {args : Array Value} {below : List Frame} {meth : Method} {c : Code} {T T' : State} {h h' : Heap} {Z : State} {a0 : Array Value} {EL : List (String × Nat)} {own : String} {k n : Nat} {P : Outcome → State → Prop} {F : List Addr}
theorem g_iloadN (W : Wd p l e R s m args below meth c Z a0 EL own F T h k n) {pc pc' : Nat} {ls : Array Slot} {st : List Value} {i : Fin 4} {v : Int32} (hd : decode c.code pc = .ok (.iload_n i, 1)) (hp : pc + 1 = pc') (hl : ls[i.val]? = some (.val (.int v)))  (K : Go p e below P T (mkF m pc' ls (.int v :: st))) : Go p e below P T (mkF m pc ls (st)) := by
  subst hp
  exact K.st fun t q => XS.iloadN W.here W.hx rfl hd hl q
theorem g_iload (W : Wd p l e R s m args below meth c Z a0 EL own F T h k n) {pc pc' : Nat} {ls : Array Slot} {st : List Value} {i : Nat} {v : Int32} (hd : decode c.code pc = .ok (.iload i, 2)) (hp : pc + 2 = pc') (hl : ls[i]? = some (.val (.int v)))  (K : Go p e below P T (mkF m pc' ls (.int v :: st))) : Go p e below P T (mkF m pc ls (st)) := by
  subst hp
  exact K.st fun t q => XS.iload W.here W.hx rfl hd hl q
theorem g_aloadN (W : Wd p l e R s m args below meth c Z a0 EL own F T h k n) {pc pc' : Nat} {ls : Array Slot} {st : List Value} {i : Fin 4} {v : Value} (hd : decode c.code pc = .ok (.aload_n i, 1)) (hp : pc + 1 = pc') (hl : ls[i.val]? = some (.val (v))) (hv : v.isRef = true) (K : Go p e below P T (mkF m pc' ls (v :: st))) : Go p e below P T (mkF m pc ls (st)) := by
  subst hp
  exact K.st fun t q => XS.aloadN W.here W.hx rfl hd hl hv q
theorem g_aload (W : Wd p l e R s m args below meth c Z a0 EL own F T h k n) {pc pc' : Nat} {ls : Array Slot} {st : List Value} {i : Nat} {v : Value} (hd : decode c.code pc = .ok (.aload i, 2)) (hp : pc + 2 = pc') (hl : ls[i]? = some (.val (v))) (hv : v.isRef = true) (K : Go p e below P T (mkF m pc' ls (v :: st))) : Go p e below P T (mkF m pc ls (st)) := by
  subst hp
  exact K.st fun t q => XS.aload W.here W.hx rfl hd hl hv q
theorem g_lloadN (W : Wd p l e R s m args below meth c Z a0 EL own F T h k n) {pc pc' : Nat} {ls : Array Slot} {st : List Value} {i : Fin 4} {v : Int64} (hd : decode c.code pc = .ok (.lload_n i, 1)) (hp : pc + 1 = pc') (hl : ls[i.val]? = some (.val (.long v)))  (K : Go p e below P T (mkF m pc' ls (.long v :: st))) : Go p e below P T (mkF m pc ls (st)) := by
  subst hp
  exact K.st fun t q => XT.lloadN W.here W.hx rfl hd hl q
theorem g_lload (W : Wd p l e R s m args below meth c Z a0 EL own F T h k n) {pc pc' : Nat} {ls : Array Slot} {st : List Value} {i : Nat} {v : Int64} (hd : decode c.code pc = .ok (.lload i, 2)) (hp : pc + 2 = pc') (hl : ls[i]? = some (.val (.long v)))  (K : Go p e below P T (mkF m pc' ls (.long v :: st))) : Go p e below P T (mkF m pc ls (st)) := by
  subst hp
  exact K.st fun t q => XT.lload W.here W.hx rfl hd hl q
theorem g_istoreN (W : Wd p l e R s m args below meth c Z a0 EL own F T h k n) {pc pc' : Nat} {ls : Array Slot} {st : List Value} {i : Fin 4} {v : Int32} {ls' : Array Slot} (hd : decode c.code pc = .ok (.istore_n i, 1)) (hp : pc + 1 = pc') (hl : storeLocals ls i.val (.int v) = some ls') (K : Go p e below P T (mkF m pc' ls' (st))) : Go p e below P T (mkF m pc ls (.int v :: st)) := by
  subst hp
  exact K.st fun t q => XS.istoreN W.here W.hx rfl hd rfl hl q
theorem g_istore (W : Wd p l e R s m args below meth c Z a0 EL own F T h k n) {pc pc' : Nat} {ls : Array Slot} {st : List Value} {i : Nat} {v : Int32} {ls' : Array Slot} (hd : decode c.code pc = .ok (.istore i, 2)) (hp : pc + 2 = pc') (hl : storeLocals ls i (.int v) = some ls') (K : Go p e below P T (mkF m pc' ls' (st))) : Go p e below P T (mkF m pc ls (.int v :: st)) := by
  subst hp
  exact K.st fun t q => XS.istore W.here W.hx rfl hd rfl hl q
theorem g_astoreN (W : Wd p l e R s m args below meth c Z a0 EL own F T h k n) {pc pc' : Nat} {ls : Array Slot} {st : List Value} {i : Fin 4} {v : Value} {ls' : Array Slot} (hd : decode c.code pc = .ok (.astore_n i, 1)) (hp : pc + 1 = pc') (hv : v.isRef = true) (hl : storeLocals ls i.val (v) = some ls') (K : Go p e below P T (mkF m pc' ls' (st))) : Go p e below P T (mkF m pc ls (v :: st)) := by
  subst hp
  exact K.st fun t q => XS.astoreN W.here W.hx rfl hd rfl hv hl q
theorem g_astore (W : Wd p l e R s m args below meth c Z a0 EL own F T h k n) {pc pc' : Nat} {ls : Array Slot} {st : List Value} {i : Nat} {v : Value} {ls' : Array Slot} (hd : decode c.code pc = .ok (.astore i, 2)) (hp : pc + 2 = pc') (hv : v.isRef = true) (hl : storeLocals ls i (v) = some ls') (K : Go p e below P T (mkF m pc' ls' (st))) : Go p e below P T (mkF m pc ls (v :: st)) := by
  subst hp
  exact K.st fun t q => XS.astore W.here W.hx rfl hd rfl hv hl q
theorem g_lstoreN (W : Wd p l e R s m args below meth c Z a0 EL own F T h k n) {pc pc' : Nat} {ls : Array Slot} {st : List Value} {i : Fin 4} {v : Int64} {ls' : Array Slot} (hd : decode c.code pc = .ok (.lstore_n i, 1)) (hp : pc + 1 = pc') (hl : storeLocals ls i.val (.long v) = some ls') (K : Go p e below P T (mkF m pc' ls' (st))) : Go p e below P T (mkF m pc ls (.long v :: st)) := by
  subst hp
  exact K.st fun t q => XT.lstoreN W.here W.hx rfl hd rfl hl q
theorem g_lstore (W : Wd p l e R s m args below meth c Z a0 EL own F T h k n) {pc pc' : Nat} {ls : Array Slot} {st : List Value} {i : Nat} {v : Int64} {ls' : Array Slot} (hd : decode c.code pc = .ok (.lstore i, 2)) (hp : pc + 2 = pc') (hl : storeLocals ls i (.long v) = some ls') (K : Go p e below P T (mkF m pc' ls' (st))) : Go p e below P T (mkF m pc ls (.long v :: st)) := by
  subst hp
  exact K.st fun t q => XT.lstore W.here W.hx rfl hd rfl hl q
theorem g_iconst (W : Wd p l e R s m args below meth c Z a0 EL own F T h k n) {pc pc' : Nat} {ls : Array Slot} {st : List Value} {i : Int} {v : Int32} (hd : decode c.code pc = .ok (.iconst i, 1)) (hp : pc + 1 = pc') (hv : Int32.ofInt i = v) (K : Go p e below P T (mkF m pc' ls (.int v :: st))) : Go p e below P T (mkF m pc ls (st)) := by
  subst hp
  subst hv; exact K.st fun t q => XS.iconst W.here W.hx rfl hd  q
theorem g_bipush (W : Wd p l e R s m args below meth c Z a0 EL own F T h k n) {pc pc' : Nat} {ls : Array Slot} {st : List Value} {i : Int} {v : Int32} (hd : decode c.code pc = .ok (.bipush i, 2)) (hp : pc + 2 = pc') (hv : (Int8.ofInt i).toInt32 = v) (K : Go p e below P T (mkF m pc' ls (.int v :: st))) : Go p e below P T (mkF m pc ls (st)) := by
  subst hp
  subst hv; exact K.st fun t q => XS.bipush W.here W.hx rfl hd  q
theorem g_sipush (W : Wd p l e R s m args below meth c Z a0 EL own F T h k n) {pc pc' : Nat} {ls : Array Slot} {st : List Value} {i : Int} {v : Int32} (hd : decode c.code pc = .ok (.sipush i, 3)) (hp : pc + 3 = pc') (hv : (Int16.ofInt i).toInt32 = v) (K : Go p e below P T (mkF m pc' ls (.int v :: st))) : Go p e below P T (mkF m pc ls (st)) := by
  subst hp
  subst hv; exact K.st fun t q => XS.sipush W.here W.hx rfl hd  q
theorem g_aconst_null (W : Wd p l e R s m args below meth c Z a0 EL own F T h k n) {pc pc' : Nat} {ls : Array Slot} {st : List Value}  (hd : decode c.code pc = .ok (.aconst_null, 1)) (hp : pc + 1 = pc')  (K : Go p e below P T (mkF m pc' ls (.null :: st))) : Go p e below P T (mkF m pc ls (st)) := by
  subst hp
  exact K.st fun t q => XS.aconstNull W.here W.hx rfl hd  q
theorem g_lconst (W : Wd p l e R s m args below meth c Z a0 EL own F T h k n) {pc pc' : Nat} {ls : Array Slot} {st : List Value} {i : Fin 2} {v : Int64} (hd : decode c.code pc = .ok (.lconst i, 1)) (hp : pc + 1 = pc') (hv : Int64.ofNat i = v) (K : Go p e below P T (mkF m pc' ls (.long v :: st))) : Go p e below P T (mkF m pc ls (st)) := by
  subst hp
  subst hv; exact K.st fun t q => XT.lconst W.here W.hx rfl hd  q
theorem g_iadd (W : Wd p l e R s m args below meth c Z a0 EL own F T h k n) {pc pc' : Nat} {ls : Array Slot} {st : List Value} {x y : Int32} (hd : decode c.code pc = .ok (.iadd, 1)) (hp : pc + 1 = pc')  (K : Go p e below P T (mkF m pc' ls (.int (x + y) :: st))) : Go p e below P T (mkF m pc ls (.int y :: .int x :: st)) := by
  subst hp
  exact K.st fun t q => XS.iadd W.here W.hx rfl hd rfl q
theorem g_isub (W : Wd p l e R s m args below meth c Z a0 EL own F T h k n) {pc pc' : Nat} {ls : Array Slot} {st : List Value} {x y : Int32} (hd : decode c.code pc = .ok (.isub, 1)) (hp : pc + 1 = pc')  (K : Go p e below P T (mkF m pc' ls (.int (x - y) :: st))) : Go p e below P T (mkF m pc ls (.int y :: .int x :: st)) := by
  subst hp
  exact K.st fun t q => XS.isub W.here W.hx rfl hd rfl q
theorem g_imul (W : Wd p l e R s m args below meth c Z a0 EL own F T h k n) {pc pc' : Nat} {ls : Array Slot} {st : List Value} {x y : Int32} (hd : decode c.code pc = .ok (.imul, 1)) (hp : pc + 1 = pc')  (K : Go p e below P T (mkF m pc' ls (.int (x * y) :: st))) : Go p e below P T (mkF m pc ls (.int y :: .int x :: st)) := by
  subst hp
  exact K.st fun t q => XS.imul W.here W.hx rfl hd rfl q
theorem g_iand (W : Wd p l e R s m args below meth c Z a0 EL own F T h k n) {pc pc' : Nat} {ls : Array Slot} {st : List Value} {x y : Int32} (hd : decode c.code pc = .ok (.iand, 1)) (hp : pc + 1 = pc')  (K : Go p e below P T (mkF m pc' ls (.int (x &&& y) :: st))) : Go p e below P T (mkF m pc ls (.int y :: .int x :: st)) := by
  subst hp
  exact K.st fun t q => XS.iand W.here W.hx rfl hd rfl q
theorem g_ior (W : Wd p l e R s m args below meth c Z a0 EL own F T h k n) {pc pc' : Nat} {ls : Array Slot} {st : List Value} {x y : Int32} (hd : decode c.code pc = .ok (.ior, 1)) (hp : pc + 1 = pc')  (K : Go p e below P T (mkF m pc' ls (.int (x ||| y) :: st))) : Go p e below P T (mkF m pc ls (.int y :: .int x :: st)) := by
  subst hp
  exact K.st fun t q => XT.ior W.here W.hx rfl hd rfl q
theorem g_ixor (W : Wd p l e R s m args below meth c Z a0 EL own F T h k n) {pc pc' : Nat} {ls : Array Slot} {st : List Value} {x y : Int32} (hd : decode c.code pc = .ok (.ixor, 1)) (hp : pc + 1 = pc')  (K : Go p e below P T (mkF m pc' ls (.int (x ^^^ y) :: st))) : Go p e below P T (mkF m pc ls (.int y :: .int x :: st)) := by
  subst hp
  exact K.st fun t q => XT.ixor W.here W.hx rfl hd rfl q
theorem g_ishl (W : Wd p l e R s m args below meth c Z a0 EL own F T h k n) {pc pc' : Nat} {ls : Array Slot} {st : List Value} {x y : Int32} (hd : decode c.code pc = .ok (.ishl, 1)) (hp : pc + 1 = pc')  (K : Go p e below P T (mkF m pc' ls (.int (x <<< (y &&& 31)) :: st))) : Go p e below P T (mkF m pc ls (.int y :: .int x :: st)) := by
  subst hp
  exact K.st fun t q => XT.ishl W.here W.hx rfl hd rfl q
theorem g_ishr (W : Wd p l e R s m args below meth c Z a0 EL own F T h k n) {pc pc' : Nat} {ls : Array Slot} {st : List Value} {x y : Int32} (hd : decode c.code pc = .ok (.ishr, 1)) (hp : pc + 1 = pc')  (K : Go p e below P T (mkF m pc' ls (.int (x >>> (y &&& 31)) :: st))) : Go p e below P T (mkF m pc ls (.int y :: .int x :: st)) := by
  subst hp
  exact K.st fun t q => XT.ishr W.here W.hx rfl hd rfl q
theorem g_iushr (W : Wd p l e R s m args below meth c Z a0 EL own F T h k n) {pc pc' : Nat} {ls : Array Slot} {st : List Value} {x y : Int32} (hd : decode c.code pc = .ok (.iushr, 1)) (hp : pc + 1 = pc')  (K : Go p e below P T (mkF m pc' ls (.int (XT.ushr x y) :: st))) : Go p e below P T (mkF m pc ls (.int y :: .int x :: st)) := by
  subst hp
  exact K.st fun t q => XT.iushr W.here W.hx rfl hd rfl q
theorem g_ladd (W : Wd p l e R s m args below meth c Z a0 EL own F T h k n) {pc pc' : Nat} {ls : Array Slot} {st : List Value} {x y : Int64} (hd : decode c.code pc = .ok (.ladd, 1)) (hp : pc + 1 = pc')  (K : Go p e below P T (mkF m pc' ls (.long (x + y) :: st))) : Go p e below P T (mkF m pc ls (.long y :: .long x :: st)) := by
  subst hp
  exact K.st fun t q => XT.ladd W.here W.hx rfl hd rfl q
theorem g_lsub (W : Wd p l e R s m args below meth c Z a0 EL own F T h k n) {pc pc' : Nat} {ls : Array Slot} {st : List Value} {x y : Int64} (hd : decode c.code pc = .ok (.lsub, 1)) (hp : pc + 1 = pc')  (K : Go p e below P T (mkF m pc' ls (.long (x - y) :: st))) : Go p e below P T (mkF m pc ls (.long y :: .long x :: st)) := by
  subst hp
  exact K.st fun t q => XT.lsub W.here W.hx rfl hd rfl q
theorem g_lmul (W : Wd p l e R s m args below meth c Z a0 EL own F T h k n) {pc pc' : Nat} {ls : Array Slot} {st : List Value} {x y : Int64} (hd : decode c.code pc = .ok (.lmul, 1)) (hp : pc + 1 = pc')  (K : Go p e below P T (mkF m pc' ls (.long (x * y) :: st))) : Go p e below P T (mkF m pc ls (.long y :: .long x :: st)) := by
  subst hp
  exact K.st fun t q => XT.lmul W.here W.hx rfl hd rfl q
theorem g_land (W : Wd p l e R s m args below meth c Z a0 EL own F T h k n) {pc pc' : Nat} {ls : Array Slot} {st : List Value} {x y : Int64} (hd : decode c.code pc = .ok (.land, 1)) (hp : pc + 1 = pc')  (K : Go p e below P T (mkF m pc' ls (.long (x &&& y) :: st))) : Go p e below P T (mkF m pc ls (.long y :: .long x :: st)) := by
  subst hp
  exact K.st fun t q => XT.land W.here W.hx rfl hd rfl q
theorem g_lor (W : Wd p l e R s m args below meth c Z a0 EL own F T h k n) {pc pc' : Nat} {ls : Array Slot} {st : List Value} {x y : Int64} (hd : decode c.code pc = .ok (.lor, 1)) (hp : pc + 1 = pc')  (K : Go p e below P T (mkF m pc' ls (.long (x ||| y) :: st))) : Go p e below P T (mkF m pc ls (.long y :: .long x :: st)) := by
  subst hp
  exact K.st fun t q => XT.lor W.here W.hx rfl hd rfl q
theorem g_lxor (W : Wd p l e R s m args below meth c Z a0 EL own F T h k n) {pc pc' : Nat} {ls : Array Slot} {st : List Value} {x y : Int64} (hd : decode c.code pc = .ok (.lxor, 1)) (hp : pc + 1 = pc')  (K : Go p e below P T (mkF m pc' ls (.long (x ^^^ y) :: st))) : Go p e below P T (mkF m pc ls (.long y :: .long x :: st)) := by
  subst hp
  exact K.st fun t q => XT.lxor W.here W.hx rfl hd rfl q
theorem g_lshl (W : Wd p l e R s m args below meth c Z a0 EL own F T h k n) {pc pc' : Nat} {ls : Array Slot} {st : List Value} {x : Int64} {y : Int32} (hd : decode c.code pc = .ok (.lshl, 1)) (hp : pc + 1 = pc')  (K : Go p e below P T (mkF m pc' ls (.long (x <<< (y.toInt64 &&& 63)) :: st))) : Go p e below P T (mkF m pc ls (.int y :: .long x :: st)) := by
  subst hp
  exact K.st fun t q => XT.lshl W.here W.hx rfl hd rfl q
theorem g_lshr (W : Wd p l e R s m args below meth c Z a0 EL own F T h k n) {pc pc' : Nat} {ls : Array Slot} {st : List Value} {x : Int64} {y : Int32} (hd : decode c.code pc = .ok (.lshr, 1)) (hp : pc + 1 = pc')  (K : Go p e below P T (mkF m pc' ls (.long (x >>> (y.toInt64 &&& 63)) :: st))) : Go p e below P T (mkF m pc ls (.int y :: .long x :: st)) := by
  subst hp
  exact K.st fun t q => XT.lshr W.here W.hx rfl hd rfl q
theorem g_lushr (W : Wd p l e R s m args below meth c Z a0 EL own F T h k n) {pc pc' : Nat} {ls : Array Slot} {st : List Value} {x : Int64} {y : Int32} (hd : decode c.code pc = .ok (.lushr, 1)) (hp : pc + 1 = pc')  (K : Go p e below P T (mkF m pc' ls (.long (XT.ushrL x y) :: st))) : Go p e below P T (mkF m pc ls (.int y :: .long x :: st)) := by
  subst hp
  exact K.st fun t q => XT.lushr W.here W.hx rfl hd rfl q
theorem g_idiv (W : Wd p l e R s m args below meth c Z a0 EL own F T h k n) {pc pc' : Nat} {ls : Array Slot} {st : List Value} {x y : Int32} (hd : decode c.code pc = .ok (.idiv, 1)) (hp : pc + 1 = pc') (hy : y ≠ 0) (K : Go p e below P T (mkF m pc' ls (.int (x / y) :: st))) : Go p e below P T (mkF m pc ls (.int y :: .int x :: st)) := by
  subst hp
  exact K.st fun t q => XS.idiv W.here W.hx rfl hd rfl hy q
theorem g_ldiv (W : Wd p l e R s m args below meth c Z a0 EL own F T h k n) {pc pc' : Nat} {ls : Array Slot} {st : List Value} {x y : Int64} (hd : decode c.code pc = .ok (.ldiv, 1)) (hp : pc + 1 = pc') (hy : y ≠ 0) (K : Go p e below P T (mkF m pc' ls (.long (x / y) :: st))) : Go p e below P T (mkF m pc ls (.long y :: .long x :: st)) := by
  subst hp
  exact K.st fun t q => XT.ldiv W.here W.hx rfl hd rfl hy q
theorem g_irem (W : Wd p l e R s m args below meth c Z a0 EL own F T h k n) {pc pc' : Nat} {ls : Array Slot} {st : List Value} {x y : Int32} (hd : decode c.code pc = .ok (.irem, 1)) (hp : pc + 1 = pc') (hy : y ≠ 0) (K : Go p e below P T (mkF m pc' ls (.int (x % y) :: st))) : Go p e below P T (mkF m pc ls (.int y :: .int x :: st)) := by
  subst hp
  exact K.st fun t q => XS.irem W.here W.hx rfl hd rfl hy (by rw [irem_eq_mod x y]; exact q)
theorem g_lrem (W : Wd p l e R s m args below meth c Z a0 EL own F T h k n) {pc pc' : Nat} {ls : Array Slot} {st : List Value} {x y : Int64} (hd : decode c.code pc = .ok (.lrem, 1)) (hp : pc + 1 = pc') (hy : y ≠ 0) (K : Go p e below P T (mkF m pc' ls (.long (x % y) :: st))) : Go p e below P T (mkF m pc ls (.long y :: .long x :: st)) := by
  subst hp
  exact K.st fun t q => XT.lrem W.here W.hx rfl hd rfl hy (by rw [lrem_mod x y]; exact q)
theorem g_i2l (W : Wd p l e R s m args below meth c Z a0 EL own F T h k n) {pc pc' : Nat} {ls : Array Slot} {st : List Value} {x : Int32} (hd : decode c.code pc = .ok (.i2l, 1)) (hp : pc + 1 = pc')  (K : Go p e below P T (mkF m pc' ls (.long (x.toInt64) :: st))) : Go p e below P T (mkF m pc ls (.int x :: st)) := by
  subst hp
  exact K.st fun t q => XT.i2l W.here W.hx rfl hd rfl q
theorem g_i2b (W : Wd p l e R s m args below meth c Z a0 EL own F T h k n) {pc pc' : Nat} {ls : Array Slot} {st : List Value} {x : Int32} (hd : decode c.code pc = .ok (.i2b, 1)) (hp : pc + 1 = pc')  (K : Go p e below P T (mkF m pc' ls (.int (x.toInt8.toInt32) :: st))) : Go p e below P T (mkF m pc ls (.int x :: st)) := by
  subst hp
  exact K.st fun t q => XT.i2b W.here W.hx rfl hd rfl q
theorem g_i2c (W : Wd p l e R s m args below meth c Z a0 EL own F T h k n) {pc pc' : Nat} {ls : Array Slot} {st : List Value} {x : Int32} (hd : decode c.code pc = .ok (.i2c, 1)) (hp : pc + 1 = pc')  (K : Go p e below P T (mkF m pc' ls (.int (x.toUInt32.toUInt16.toUInt32.toInt32) :: st))) : Go p e below P T (mkF m pc ls (.int x :: st)) := by
  subst hp
  exact K.st fun t q => XT.i2c W.here W.hx rfl hd rfl q
theorem g_i2s (W : Wd p l e R s m args below meth c Z a0 EL own F T h k n) {pc pc' : Nat} {ls : Array Slot} {st : List Value} {x : Int32} (hd : decode c.code pc = .ok (.i2s, 1)) (hp : pc + 1 = pc')  (K : Go p e below P T (mkF m pc' ls (.int (x.toInt16.toInt32) :: st))) : Go p e below P T (mkF m pc ls (.int x :: st)) := by
  subst hp
  exact K.st fun t q => XT.i2s W.here W.hx rfl hd rfl q
theorem g_l2i (W : Wd p l e R s m args below meth c Z a0 EL own F T h k n) {pc pc' : Nat} {ls : Array Slot} {st : List Value} {x : Int64} (hd : decode c.code pc = .ok (.l2i, 1)) (hp : pc + 1 = pc')  (K : Go p e below P T (mkF m pc' ls (.int (x.toInt32) :: st))) : Go p e below P T (mkF m pc ls (.long x :: st)) := by
  subst hp
  exact K.st fun t q => XT.l2i W.here W.hx rfl hd rfl q
theorem g_ineg (W : Wd p l e R s m args below meth c Z a0 EL own F T h k n) {pc pc' : Nat} {ls : Array Slot} {st : List Value} {x : Int32} (hd : decode c.code pc = .ok (.ineg, 1)) (hp : pc + 1 = pc')  (K : Go p e below P T (mkF m pc' ls (.int (-x) :: st))) : Go p e below P T (mkF m pc ls (.int x :: st)) := by
  subst hp
  exact K.st fun t q => XS.ineg W.here W.hx rfl hd rfl q
theorem g_lcmp (W : Wd p l e R s m args below meth c Z a0 EL own F T h k n) {pc pc' : Nat} {ls : Array Slot} {st : List Value} {x y : Int64} (hd : decode c.code pc = .ok (.lcmp, 1)) (hp : pc + 1 = pc')  (K : Go p e below P T (mkF m pc' ls (.int (XT.cmpL x y) :: st))) : Go p e below P T (mkF m pc ls (.long y :: .long x :: st)) := by
  subst hp
  exact K.st fun t q => XT.lcmp W.here W.hx rfl hd rfl q
theorem g_iinc (W : Wd p l e R s m args below meth c Z a0 EL own F T h k n) {pc pc' : Nat} {ls : Array Slot} {st : List Value} {i : Nat} {cst : Int} {x : Int32} {ls' : Array Slot} (hd : decode c.code pc = .ok (.iinc i cst, 3)) (hp : pc + 3 = pc') (hl : ls[i]? = some (.val (.int x))) (hl' : storeLocals ls i (.int (x + Int32.ofInt cst)) = some ls') (K : Go p e below P T (mkF m pc' ls' (st))) : Go p e below P T (mkF m pc ls (st)) := by
  subst hp
  exact K.st fun t q => XS.iinc W.here W.hx rfl hd hl hl' q
theorem g_dup (W : Wd p l e R s m args below meth c Z a0 EL own F T h k n) {pc pc' : Nat} {ls : Array Slot} {st : List Value} {x : Value} (hd : decode c.code pc = .ok (.dup, 1)) (hp : pc + 1 = pc') (hc : x.category = 1) (K : Go p e below P T (mkF m pc' ls (x :: x :: st))) : Go p e below P T (mkF m pc ls (x :: st)) := by
  subst hp
  exact K.st fun t q => XS.dup W.here W.hx rfl hd rfl hc q
theorem g_pop (W : Wd p l e R s m args below meth c Z a0 EL own F T h k n) {pc pc' : Nat} {ls : Array Slot} {st : List Value} {x : Value} (hd : decode c.code pc = .ok (.pop, 1)) (hp : pc + 1 = pc') (hc : x.category = 1) (K : Go p e below P T (mkF m pc' ls (st))) : Go p e below P T (mkF m pc ls (x :: st)) := by
  subst hp
  exact K.st fun t q => XT.pop W.here W.hx rfl hd rfl hc q
theorem g_dup_x1 (W : Wd p l e R s m args below meth c Z a0 EL own F T h k n) {pc pc' : Nat} {ls : Array Slot} {st : List Value} {x y : Value} (hd : decode c.code pc = .ok (.dup_x1, 1)) (hp : pc + 1 = pc') (hc : x.category = 1) (hc' : y.category = 1) (K : Go p e below P T (mkF m pc' ls (x :: y :: x :: st))) : Go p e below P T (mkF m pc ls (x :: y :: st)) := by
  subst hp
  exact K.st fun t q => XT.dupX1 W.here W.hx rfl hd rfl hc hc' q
theorem g_dup2 (W : Wd p l e R s m args below meth c Z a0 EL own F T h k n) {pc pc' : Nat} {ls : Array Slot} {st : List Value} {x y : Value} (hd : decode c.code pc = .ok (.dup2, 1)) (hp : pc + 1 = pc') (hc : x.category = 1) (hc' : y.category = 1) (K : Go p e below P T (mkF m pc' ls (x :: y :: x :: y :: st))) : Go p e below P T (mkF m pc ls (x :: y :: st)) := by
  subst hp
  exact K.st fun t q => XT.dup2 W.here W.hx rfl hd rfl hc hc' q
theorem g_dup2L (W : Wd p l e R s m args below meth c Z a0 EL own F T h k n) {pc pc' : Nat} {ls : Array Slot} {st : List Value} {x : Int64} (hd : decode c.code pc = .ok (.dup2, 1)) (hp : pc + 1 = pc')  (K : Go p e below P T (mkF m pc' ls (.long x :: .long x :: st))) : Go p e below P T (mkF m pc ls (.long x :: st)) := by
  subst hp
  exact K.st fun t q => XT.dup2L W.here W.hx rfl hd rfl q
theorem g_goto (W : Wd p l e R s m args below meth c Z a0 EL own F T h k n) {pc pc' : Nat} {ls : Array Slot} {st : List Value} {o : Int} (hd : decode c.code pc = .ok (.goto o, 3)) (ho : 0 ≤ (pc : Int) + o) (hp : ((pc : Int) + o).toNat = pc') (K : Go p e below P T (mkF m pc' ls st)) : Go p e below P T (mkF m pc ls st) :=
  K.st fun t q => XS.goto W.here W.hx rfl rfl hd ho hp q
theorem g_icmpeqY (W : Wd p l e R s m args below meth c Z a0 EL own F T h k n) {pc pc1 pc2 : Nat} {ls : Array Slot} {st : List Value} {x y : Int32} {o : Int} (hd : decode c.code pc = .ok (.if_icmp .eq o, 3)) (ho : 0 ≤ (pc : Int) + o) (hp1 : ((pc : Int) + o).toNat = pc1) (hp2 : pc + 3 = pc2) (hc : x = y) (K : Go p e below P T (mkF m pc1 ls st)) : Go p e below P T (mkF m pc ls (.int y :: .int x :: st)) :=
  K.st fun t q => XS.icmpYes W.here W.hx rfl rfl hd rfl (teq hc).1 ho hp1 q
theorem g_icmpeqN (W : Wd p l e R s m args below meth c Z a0 EL own F T h k n) {pc pc1 pc2 : Nat} {ls : Array Slot} {st : List Value} {x y : Int32} {o : Int} (hd : decode c.code pc = .ok (.if_icmp .eq o, 3)) (ho : 0 ≤ (pc : Int) + o) (hp1 : ((pc : Int) + o).toNat = pc1) (hp2 : pc + 3 = pc2) (hc : ¬ x = y) (K : Go p e below P T (mkF m pc2 ls st)) : Go p e below P T (mkF m pc ls (.int y :: .int x :: st)) := by
  subst hp2
  exact K.st fun t q => XS.icmpNo W.here W.hx rfl hd rfl (feq hc).1 q
theorem g_icmpeq (W : Wd p l e R s m args below meth c Z a0 EL own F T h k n) {pc pc1 pc2 : Nat} {ls : Array Slot} {st : List Value} {x y : Int32} {o : Int} (hd : decode c.code pc = .ok (.if_icmp .eq o, 3)) (ho : 0 ≤ (pc : Int) + o) (hp1 : ((pc : Int) + o).toNat = pc1) (hp2 : pc + 3 = pc2) (K1 : x = y → Go p e below P T (mkF m pc1 ls st)) (K2 : ¬ x = y → Go p e below P T (mkF m pc2 ls st)) : Go p e below P T (mkF m pc ls (.int y :: .int x :: st)) := by
  by_cases hc : x = y
  · exact g_icmpeqY W hd ho hp1 hp2 hc (K1 hc)
  · exact g_icmpeqN W hd ho hp1 hp2 (by first | exact hc | exact Decidable.not_not.mp hc) (K2 (by first | exact hc | exact Decidable.not_not.mp hc))
theorem g_ifeqY (W : Wd p l e R s m args below meth c Z a0 EL own F T h k n) {pc pc1 pc2 : Nat} {ls : Array Slot} {st : List Value} {x : Int32} {o : Int} (hd : decode c.code pc = .ok (.ifCond .eq o, 3)) (ho : 0 ≤ (pc : Int) + o) (hp1 : ((pc : Int) + o).toNat = pc1) (hp2 : pc + 3 = pc2) (hc : x = 0) (K : Go p e below P T (mkF m pc1 ls st)) : Go p e below P T (mkF m pc ls (.int x :: st)) :=
  K.st fun t q => XS.ifYes W.here W.hx rfl rfl hd rfl (by rw [if0]; exact (teq hc).1) ho hp1 q
theorem g_ifeqN (W : Wd p l e R s m args below meth c Z a0 EL own F T h k n) {pc pc1 pc2 : Nat} {ls : Array Slot} {st : List Value} {x : Int32} {o : Int} (hd : decode c.code pc = .ok (.ifCond .eq o, 3)) (ho : 0 ≤ (pc : Int) + o) (hp1 : ((pc : Int) + o).toNat = pc1) (hp2 : pc + 3 = pc2) (hc : ¬ x = 0) (K : Go p e below P T (mkF m pc2 ls st)) : Go p e below P T (mkF m pc ls (.int x :: st)) := by
  subst hp2
  exact K.st fun t q => XS.ifNo W.here W.hx rfl hd rfl (by rw [if0]; exact (feq hc).1) q
theorem g_ifeq (W : Wd p l e R s m args below meth c Z a0 EL own F T h k n) {pc pc1 pc2 : Nat} {ls : Array Slot} {st : List Value} {x : Int32} {o : Int} (hd : decode c.code pc = .ok (.ifCond .eq o, 3)) (ho : 0 ≤ (pc : Int) + o) (hp1 : ((pc : Int) + o).toNat = pc1) (hp2 : pc + 3 = pc2) (K1 : x = 0 → Go p e below P T (mkF m pc1 ls st)) (K2 : ¬ x = 0 → Go p e below P T (mkF m pc2 ls st)) : Go p e below P T (mkF m pc ls (.int x :: st)) := by
  by_cases hc : x = 0
  · exact g_ifeqY W hd ho hp1 hp2 hc (K1 hc)
  · exact g_ifeqN W hd ho hp1 hp2 (by first | exact hc | exact Decidable.not_not.mp hc) (K2 (by first | exact hc | exact Decidable.not_not.mp hc))
theorem g_icmpneY (W : Wd p l e R s m args below meth c Z a0 EL own F T h k n) {pc pc1 pc2 : Nat} {ls : Array Slot} {st : List Value} {x y : Int32} {o : Int} (hd : decode c.code pc = .ok (.if_icmp .ne o, 3)) (ho : 0 ≤ (pc : Int) + o) (hp1 : ((pc : Int) + o).toNat = pc1) (hp2 : pc + 3 = pc2) (hc : ¬ x = y) (K : Go p e below P T (mkF m pc1 ls st)) : Go p e below P T (mkF m pc ls (.int y :: .int x :: st)) :=
  K.st fun t q => XS.icmpYes W.here W.hx rfl rfl hd rfl (feq hc).2 ho hp1 q
theorem g_icmpneN (W : Wd p l e R s m args below meth c Z a0 EL own F T h k n) {pc pc1 pc2 : Nat} {ls : Array Slot} {st : List Value} {x y : Int32} {o : Int} (hd : decode c.code pc = .ok (.if_icmp .ne o, 3)) (ho : 0 ≤ (pc : Int) + o) (hp1 : ((pc : Int) + o).toNat = pc1) (hp2 : pc + 3 = pc2) (hc : x = y) (K : Go p e below P T (mkF m pc2 ls st)) : Go p e below P T (mkF m pc ls (.int y :: .int x :: st)) := by
  subst hp2
  exact K.st fun t q => XS.icmpNo W.here W.hx rfl hd rfl (teq hc).2 q
theorem g_icmpne (W : Wd p l e R s m args below meth c Z a0 EL own F T h k n) {pc pc1 pc2 : Nat} {ls : Array Slot} {st : List Value} {x y : Int32} {o : Int} (hd : decode c.code pc = .ok (.if_icmp .ne o, 3)) (ho : 0 ≤ (pc : Int) + o) (hp1 : ((pc : Int) + o).toNat = pc1) (hp2 : pc + 3 = pc2) (K1 : ¬ x = y → Go p e below P T (mkF m pc1 ls st)) (K2 : x = y → Go p e below P T (mkF m pc2 ls st)) : Go p e below P T (mkF m pc ls (.int y :: .int x :: st)) := by
  by_cases hc : ¬ x = y
  · exact g_icmpneY W hd ho hp1 hp2 hc (K1 hc)
  · exact g_icmpneN W hd ho hp1 hp2 (by first | exact hc | exact Decidable.not_not.mp hc) (K2 (by first | exact hc | exact Decidable.not_not.mp hc))
theorem g_ifneY (W : Wd p l e R s m args below meth c Z a0 EL own F T h k n) {pc pc1 pc2 : Nat} {ls : Array Slot} {st : List Value} {x : Int32} {o : Int} (hd : decode c.code pc = .ok (.ifCond .ne o, 3)) (ho : 0 ≤ (pc : Int) + o) (hp1 : ((pc : Int) + o).toNat = pc1) (hp2 : pc + 3 = pc2) (hc : ¬ x = 0) (K : Go p e below P T (mkF m pc1 ls st)) : Go p e below P T (mkF m pc ls (.int x :: st)) :=
  K.st fun t q => XS.ifYes W.here W.hx rfl rfl hd rfl (by rw [if0]; exact (feq hc).2) ho hp1 q
theorem g_ifneN (W : Wd p l e R s m args below meth c Z a0 EL own F T h k n) {pc pc1 pc2 : Nat} {ls : Array Slot} {st : List Value} {x : Int32} {o : Int} (hd : decode c.code pc = .ok (.ifCond .ne o, 3)) (ho : 0 ≤ (pc : Int) + o) (hp1 : ((pc : Int) + o).toNat = pc1) (hp2 : pc + 3 = pc2) (hc : x = 0) (K : Go p e below P T (mkF m pc2 ls st)) : Go p e below P T (mkF m pc ls (.int x :: st)) := by
  subst hp2
  exact K.st fun t q => XS.ifNo W.here W.hx rfl hd rfl (by rw [if0]; exact (teq hc).2) q
theorem g_ifne (W : Wd p l e R s m args below meth c Z a0 EL own F T h k n) {pc pc1 pc2 : Nat} {ls : Array Slot} {st : List Value} {x : Int32} {o : Int} (hd : decode c.code pc = .ok (.ifCond .ne o, 3)) (ho : 0 ≤ (pc : Int) + o) (hp1 : ((pc : Int) + o).toNat = pc1) (hp2 : pc + 3 = pc2) (K1 : ¬ x = 0 → Go p e below P T (mkF m pc1 ls st)) (K2 : x = 0 → Go p e below P T (mkF m pc2 ls st)) : Go p e below P T (mkF m pc ls (.int x :: st)) := by
  by_cases hc : ¬ x = 0
  · exact g_ifneY W hd ho hp1 hp2 hc (K1 hc)
  · exact g_ifneN W hd ho hp1 hp2 (by first | exact hc | exact Decidable.not_not.mp hc) (K2 (by first | exact hc | exact Decidable.not_not.mp hc))
theorem g_icmpltY (W : Wd p l e R s m args below meth c Z a0 EL own F T h k n) {pc pc1 pc2 : Nat} {ls : Array Slot} {st : List Value} {x y : Int32} {o : Int} (hd : decode c.code pc = .ok (.if_icmp .lt o, 3)) (ho : 0 ≤ (pc : Int) + o) (hp1 : ((pc : Int) + o).toNat = pc1) (hp2 : pc + 3 = pc2) (hc : x < y) (K : Go p e below P T (mkF m pc1 ls st)) : Go p e below P T (mkF m pc ls (.int y :: .int x :: st)) :=
  K.st fun t q => XS.icmpYes W.here W.hx rfl rfl hd rfl (tlt hc).1 ho hp1 q
theorem g_icmpltN (W : Wd p l e R s m args below meth c Z a0 EL own F T h k n) {pc pc1 pc2 : Nat} {ls : Array Slot} {st : List Value} {x y : Int32} {o : Int} (hd : decode c.code pc = .ok (.if_icmp .lt o, 3)) (ho : 0 ≤ (pc : Int) + o) (hp1 : ((pc : Int) + o).toNat = pc1) (hp2 : pc + 3 = pc2) (hc : ¬ x < y) (K : Go p e below P T (mkF m pc2 ls st)) : Go p e below P T (mkF m pc ls (.int y :: .int x :: st)) := by
  subst hp2
  exact K.st fun t q => XS.icmpNo W.here W.hx rfl hd rfl (flt hc).1 q
theorem g_icmplt (W : Wd p l e R s m args below meth c Z a0 EL own F T h k n) {pc pc1 pc2 : Nat} {ls : Array Slot} {st : List Value} {x y : Int32} {o : Int} (hd : decode c.code pc = .ok (.if_icmp .lt o, 3)) (ho : 0 ≤ (pc : Int) + o) (hp1 : ((pc : Int) + o).toNat = pc1) (hp2 : pc + 3 = pc2) (K1 : x < y → Go p e below P T (mkF m pc1 ls st)) (K2 : ¬ x < y → Go p e below P T (mkF m pc2 ls st)) : Go p e below P T (mkF m pc ls (.int y :: .int x :: st)) := by
  by_cases hc : x < y
  · exact g_icmpltY W hd ho hp1 hp2 hc (K1 hc)
  · exact g_icmpltN W hd ho hp1 hp2 (by first | exact hc | exact Decidable.not_not.mp hc) (K2 (by first | exact hc | exact Decidable.not_not.mp hc))
theorem g_ifltY (W : Wd p l e R s m args below meth c Z a0 EL own F T h k n) {pc pc1 pc2 : Nat} {ls : Array Slot} {st : List Value} {x : Int32} {o : Int} (hd : decode c.code pc = .ok (.ifCond .lt o, 3)) (ho : 0 ≤ (pc : Int) + o) (hp1 : ((pc : Int) + o).toNat = pc1) (hp2 : pc + 3 = pc2) (hc : x < 0) (K : Go p e below P T (mkF m pc1 ls st)) : Go p e below P T (mkF m pc ls (.int x :: st)) :=
  K.st fun t q => XS.ifYes W.here W.hx rfl rfl hd rfl (by rw [if0]; exact (tlt hc).1) ho hp1 q
theorem g_ifltN (W : Wd p l e R s m args below meth c Z a0 EL own F T h k n) {pc pc1 pc2 : Nat} {ls : Array Slot} {st : List Value} {x : Int32} {o : Int} (hd : decode c.code pc = .ok (.ifCond .lt o, 3)) (ho : 0 ≤ (pc : Int) + o) (hp1 : ((pc : Int) + o).toNat = pc1) (hp2 : pc + 3 = pc2) (hc : ¬ x < 0) (K : Go p e below P T (mkF m pc2 ls st)) : Go p e below P T (mkF m pc ls (.int x :: st)) := by
  subst hp2
  exact K.st fun t q => XS.ifNo W.here W.hx rfl hd rfl (by rw [if0]; exact (flt hc).1) q
theorem g_iflt (W : Wd p l e R s m args below meth c Z a0 EL own F T h k n) {pc pc1 pc2 : Nat} {ls : Array Slot} {st : List Value} {x : Int32} {o : Int} (hd : decode c.code pc = .ok (.ifCond .lt o, 3)) (ho : 0 ≤ (pc : Int) + o) (hp1 : ((pc : Int) + o).toNat = pc1) (hp2 : pc + 3 = pc2) (K1 : x < 0 → Go p e below P T (mkF m pc1 ls st)) (K2 : ¬ x < 0 → Go p e below P T (mkF m pc2 ls st)) : Go p e below P T (mkF m pc ls (.int x :: st)) := by
  by_cases hc : x < 0
  · exact g_ifltY W hd ho hp1 hp2 hc (K1 hc)
  · exact g_ifltN W hd ho hp1 hp2 (by first | exact hc | exact Decidable.not_not.mp hc) (K2 (by first | exact hc | exact Decidable.not_not.mp hc))
theorem g_icmpgeY (W : Wd p l e R s m args below meth c Z a0 EL own F T h k n) {pc pc1 pc2 : Nat} {ls : Array Slot} {st : List Value} {x y : Int32} {o : Int} (hd : decode c.code pc = .ok (.if_icmp .ge o, 3)) (ho : 0 ≤ (pc : Int) + o) (hp1 : ((pc : Int) + o).toNat = pc1) (hp2 : pc + 3 = pc2) (hc : ¬ x < y) (K : Go p e below P T (mkF m pc1 ls st)) : Go p e below P T (mkF m pc ls (.int y :: .int x :: st)) :=
  K.st fun t q => XS.icmpYes W.here W.hx rfl rfl hd rfl (flt hc).2.1 ho hp1 q
theorem g_icmpgeN (W : Wd p l e R s m args below meth c Z a0 EL own F T h k n) {pc pc1 pc2 : Nat} {ls : Array Slot} {st : List Value} {x y : Int32} {o : Int} (hd : decode c.code pc = .ok (.if_icmp .ge o, 3)) (ho : 0 ≤ (pc : Int) + o) (hp1 : ((pc : Int) + o).toNat = pc1) (hp2 : pc + 3 = pc2) (hc : x < y) (K : Go p e below P T (mkF m pc2 ls st)) : Go p e below P T (mkF m pc ls (.int y :: .int x :: st)) := by
  subst hp2
  exact K.st fun t q => XS.icmpNo W.here W.hx rfl hd rfl (tlt hc).2.1 q
theorem g_icmpge (W : Wd p l e R s m args below meth c Z a0 EL own F T h k n) {pc pc1 pc2 : Nat} {ls : Array Slot} {st : List Value} {x y : Int32} {o : Int} (hd : decode c.code pc = .ok (.if_icmp .ge o, 3)) (ho : 0 ≤ (pc : Int) + o) (hp1 : ((pc : Int) + o).toNat = pc1) (hp2 : pc + 3 = pc2) (K1 : ¬ x < y → Go p e below P T (mkF m pc1 ls st)) (K2 : x < y → Go p e below P T (mkF m pc2 ls st)) : Go p e below P T (mkF m pc ls (.int y :: .int x :: st)) := by
  by_cases hc : ¬ x < y
  · exact g_icmpgeY W hd ho hp1 hp2 hc (K1 hc)
  · exact g_icmpgeN W hd ho hp1 hp2 (by first | exact hc | exact Decidable.not_not.mp hc) (K2 (by first | exact hc | exact Decidable.not_not.mp hc))
theorem g_ifgeY (W : Wd p l e R s m args below meth c Z a0 EL own F T h k n) {pc pc1 pc2 : Nat} {ls : Array Slot} {st : List Value} {x : Int32} {o : Int} (hd : decode c.code pc = .ok (.ifCond .ge o, 3)) (ho : 0 ≤ (pc : Int) + o) (hp1 : ((pc : Int) + o).toNat = pc1) (hp2 : pc + 3 = pc2) (hc : ¬ x < 0) (K : Go p e below P T (mkF m pc1 ls st)) : Go p e below P T (mkF m pc ls (.int x :: st)) :=
  K.st fun t q => XS.ifYes W.here W.hx rfl rfl hd rfl (by rw [if0]; exact (flt hc).2.1) ho hp1 q
theorem g_ifgeN (W : Wd p l e R s m args below meth c Z a0 EL own F T h k n) {pc pc1 pc2 : Nat} {ls : Array Slot} {st : List Value} {x : Int32} {o : Int} (hd : decode c.code pc = .ok (.ifCond .ge o, 3)) (ho : 0 ≤ (pc : Int) + o) (hp1 : ((pc : Int) + o).toNat = pc1) (hp2 : pc + 3 = pc2) (hc : x < 0) (K : Go p e below P T (mkF m pc2 ls st)) : Go p e below P T (mkF m pc ls (.int x :: st)) := by
  subst hp2
  exact K.st fun t q => XS.ifNo W.here W.hx rfl hd rfl (by rw [if0]; exact (tlt hc).2.1) q
theorem g_ifge (W : Wd p l e R s m args below meth c Z a0 EL own F T h k n) {pc pc1 pc2 : Nat} {ls : Array Slot} {st : List Value} {x : Int32} {o : Int} (hd : decode c.code pc = .ok (.ifCond .ge o, 3)) (ho : 0 ≤ (pc : Int) + o) (hp1 : ((pc : Int) + o).toNat = pc1) (hp2 : pc + 3 = pc2) (K1 : ¬ x < 0 → Go p e below P T (mkF m pc1 ls st)) (K2 : x < 0 → Go p e below P T (mkF m pc2 ls st)) : Go p e below P T (mkF m pc ls (.int x :: st)) := by
  by_cases hc : ¬ x < 0
  · exact g_ifgeY W hd ho hp1 hp2 hc (K1 hc)
  · exact g_ifgeN W hd ho hp1 hp2 (by first | exact hc | exact Decidable.not_not.mp hc) (K2 (by first | exact hc | exact Decidable.not_not.mp hc))
theorem g_icmpgtY (W : Wd p l e R s m args below meth c Z a0 EL own F T h k n) {pc pc1 pc2 : Nat} {ls : Array Slot} {st : List Value} {x y : Int32} {o : Int} (hd : decode c.code pc = .ok (.if_icmp .gt o, 3)) (ho : 0 ≤ (pc : Int) + o) (hp1 : ((pc : Int) + o).toNat = pc1) (hp2 : pc + 3 = pc2) (hc : y < x) (K : Go p e below P T (mkF m pc1 ls st)) : Go p e below P T (mkF m pc ls (.int y :: .int x :: st)) :=
  K.st fun t q => XS.icmpYes W.here W.hx rfl rfl hd rfl (tlt hc).2.2.1 ho hp1 q
theorem g_icmpgtN (W : Wd p l e R s m args below meth c Z a0 EL own F T h k n) {pc pc1 pc2 : Nat} {ls : Array Slot} {st : List Value} {x y : Int32} {o : Int} (hd : decode c.code pc = .ok (.if_icmp .gt o, 3)) (ho : 0 ≤ (pc : Int) + o) (hp1 : ((pc : Int) + o).toNat = pc1) (hp2 : pc + 3 = pc2) (hc : ¬ y < x) (K : Go p e below P T (mkF m pc2 ls st)) : Go p e below P T (mkF m pc ls (.int y :: .int x :: st)) := by
  subst hp2
  exact K.st fun t q => XS.icmpNo W.here W.hx rfl hd rfl (flt hc).2.2.1 q
theorem g_icmpgt (W : Wd p l e R s m args below meth c Z a0 EL own F T h k n) {pc pc1 pc2 : Nat} {ls : Array Slot} {st : List Value} {x y : Int32} {o : Int} (hd : decode c.code pc = .ok (.if_icmp .gt o, 3)) (ho : 0 ≤ (pc : Int) + o) (hp1 : ((pc : Int) + o).toNat = pc1) (hp2 : pc + 3 = pc2) (K1 : y < x → Go p e below P T (mkF m pc1 ls st)) (K2 : ¬ y < x → Go p e below P T (mkF m pc2 ls st)) : Go p e below P T (mkF m pc ls (.int y :: .int x :: st)) := by
  by_cases hc : y < x
  · exact g_icmpgtY W hd ho hp1 hp2 hc (K1 hc)
  · exact g_icmpgtN W hd ho hp1 hp2 (by first | exact hc | exact Decidable.not_not.mp hc) (K2 (by first | exact hc | exact Decidable.not_not.mp hc))
theorem g_ifgtY (W : Wd p l e R s m args below meth c Z a0 EL own F T h k n) {pc pc1 pc2 : Nat} {ls : Array Slot} {st : List Value} {x : Int32} {o : Int} (hd : decode c.code pc = .ok (.ifCond .gt o, 3)) (ho : 0 ≤ (pc : Int) + o) (hp1 : ((pc : Int) + o).toNat = pc1) (hp2 : pc + 3 = pc2) (hc : 0 < x) (K : Go p e below P T (mkF m pc1 ls st)) : Go p e below P T (mkF m pc ls (.int x :: st)) :=
  K.st fun t q => XS.ifYes W.here W.hx rfl rfl hd rfl (by rw [if0]; exact (tlt hc).2.2.1) ho hp1 q
theorem g_ifgtN (W : Wd p l e R s m args below meth c Z a0 EL own F T h k n) {pc pc1 pc2 : Nat} {ls : Array Slot} {st : List Value} {x : Int32} {o : Int} (hd : decode c.code pc = .ok (.ifCond .gt o, 3)) (ho : 0 ≤ (pc : Int) + o) (hp1 : ((pc : Int) + o).toNat = pc1) (hp2 : pc + 3 = pc2) (hc : ¬ 0 < x) (K : Go p e below P T (mkF m pc2 ls st)) : Go p e below P T (mkF m pc ls (.int x :: st)) := by
  subst hp2
  exact K.st fun t q => XS.ifNo W.here W.hx rfl hd rfl (by rw [if0]; exact (flt hc).2.2.1) q
theorem g_ifgt (W : Wd p l e R s m args below meth c Z a0 EL own F T h k n) {pc pc1 pc2 : Nat} {ls : Array Slot} {st : List Value} {x : Int32} {o : Int} (hd : decode c.code pc = .ok (.ifCond .gt o, 3)) (ho : 0 ≤ (pc : Int) + o) (hp1 : ((pc : Int) + o).toNat = pc1) (hp2 : pc + 3 = pc2) (K1 : 0 < x → Go p e below P T (mkF m pc1 ls st)) (K2 : ¬ 0 < x → Go p e below P T (mkF m pc2 ls st)) : Go p e below P T (mkF m pc ls (.int x :: st)) := by
  by_cases hc : 0 < x
  · exact g_ifgtY W hd ho hp1 hp2 hc (K1 hc)
  · exact g_ifgtN W hd ho hp1 hp2 (by first | exact hc | exact Decidable.not_not.mp hc) (K2 (by first | exact hc | exact Decidable.not_not.mp hc))
theorem g_icmpleY (W : Wd p l e R s m args below meth c Z a0 EL own F T h k n) {pc pc1 pc2 : Nat} {ls : Array Slot} {st : List Value} {x y : Int32} {o : Int} (hd : decode c.code pc = .ok (.if_icmp .le o, 3)) (ho : 0 ≤ (pc : Int) + o) (hp1 : ((pc : Int) + o).toNat = pc1) (hp2 : pc + 3 = pc2) (hc : ¬ y < x) (K : Go p e below P T (mkF m pc1 ls st)) : Go p e below P T (mkF m pc ls (.int y :: .int x :: st)) :=
  K.st fun t q => XS.icmpYes W.here W.hx rfl rfl hd rfl (flt hc).2.2.2 ho hp1 q
theorem g_icmpleN (W : Wd p l e R s m args below meth c Z a0 EL own F T h k n) {pc pc1 pc2 : Nat} {ls : Array Slot} {st : List Value} {x y : Int32} {o : Int} (hd : decode c.code pc = .ok (.if_icmp .le o, 3)) (ho : 0 ≤ (pc : Int) + o) (hp1 : ((pc : Int) + o).toNat = pc1) (hp2 : pc + 3 = pc2) (hc : y < x) (K : Go p e below P T (mkF m pc2 ls st)) : Go p e below P T (mkF m pc ls (.int y :: .int x :: st)) := by
  subst hp2
  exact K.st fun t q => XS.icmpNo W.here W.hx rfl hd rfl (tlt hc).2.2.2 q
theorem g_icmple (W : Wd p l e R s m args below meth c Z a0 EL own F T h k n) {pc pc1 pc2 : Nat} {ls : Array Slot} {st : List Value} {x y : Int32} {o : Int} (hd : decode c.code pc = .ok (.if_icmp .le o, 3)) (ho : 0 ≤ (pc : Int) + o) (hp1 : ((pc : Int) + o).toNat = pc1) (hp2 : pc + 3 = pc2) (K1 : ¬ y < x → Go p e below P T (mkF m pc1 ls st)) (K2 : y < x → Go p e below P T (mkF m pc2 ls st)) : Go p e below P T (mkF m pc ls (.int y :: .int x :: st)) := by
  by_cases hc : ¬ y < x
  · exact g_icmpleY W hd ho hp1 hp2 hc (K1 hc)
  · exact g_icmpleN W hd ho hp1 hp2 (by first | exact hc | exact Decidable.not_not.mp hc) (K2 (by first | exact hc | exact Decidable.not_not.mp hc))
theorem g_ifleY (W : Wd p l e R s m args below meth c Z a0 EL own F T h k n) {pc pc1 pc2 : Nat} {ls : Array Slot} {st : List Value} {x : Int32} {o : Int} (hd : decode c.code pc = .ok (.ifCond .le o, 3)) (ho : 0 ≤ (pc : Int) + o) (hp1 : ((pc : Int) + o).toNat = pc1) (hp2 : pc + 3 = pc2) (hc : ¬ 0 < x) (K : Go p e below P T (mkF m pc1 ls st)) : Go p e below P T (mkF m pc ls (.int x :: st)) :=
  K.st fun t q => XS.ifYes W.here W.hx rfl rfl hd rfl (by rw [if0]; exact (flt hc).2.2.2) ho hp1 q
theorem g_ifleN (W : Wd p l e R s m args below meth c Z a0 EL own F T h k n) {pc pc1 pc2 : Nat} {ls : Array Slot} {st : List Value} {x : Int32} {o : Int} (hd : decode c.code pc = .ok (.ifCond .le o, 3)) (ho : 0 ≤ (pc : Int) + o) (hp1 : ((pc : Int) + o).toNat = pc1) (hp2 : pc + 3 = pc2) (hc : 0 < x) (K : Go p e below P T (mkF m pc2 ls st)) : Go p e below P T (mkF m pc ls (.int x :: st)) := by
  subst hp2
  exact K.st fun t q => XS.ifNo W.here W.hx rfl hd rfl (by rw [if0]; exact (tlt hc).2.2.2) q
theorem g_ifle (W : Wd p l e R s m args below meth c Z a0 EL own F T h k n) {pc pc1 pc2 : Nat} {ls : Array Slot} {st : List Value} {x : Int32} {o : Int} (hd : decode c.code pc = .ok (.ifCond .le o, 3)) (ho : 0 ≤ (pc : Int) + o) (hp1 : ((pc : Int) + o).toNat = pc1) (hp2 : pc + 3 = pc2) (K1 : ¬ 0 < x → Go p e below P T (mkF m pc1 ls st)) (K2 : 0 < x → Go p e below P T (mkF m pc2 ls st)) : Go p e below P T (mkF m pc ls (.int x :: st)) := by
  by_cases hc : ¬ 0 < x
  · exact g_ifleY W hd ho hp1 hp2 hc (K1 hc)
  · exact g_ifleN W hd ho hp1 hp2 (by first | exact hc | exact Decidable.not_not.mp hc) (K2 (by first | exact hc | exact Decidable.not_not.mp hc))
theorem g_ifnullY (W : Wd p l e R s m args below meth c Z a0 EL own F T h k n) {pc pc1 pc2 : Nat} {ls : Array Slot} {st : List Value} {o : Int} (hd : decode c.code pc = .ok (.ifnull o, 3)) (ho : 0 ≤ (pc : Int) + o) (hp1 : ((pc : Int) + o).toNat = pc1) (hp2 : pc + 3 = pc2) (K : Go p e below P T (mkF m pc1 ls st)) : Go p e below P T (mkF m pc ls (.null :: st)) :=
  K.st fun t q => XS.ifnullYes W.here W.hx rfl rfl hd rfl ho hp1 q
theorem g_ifnullN (W : Wd p l e R s m args below meth c Z a0 EL own F T h k n) {pc pc1 pc2 : Nat} {ls : Array Slot} {st : List Value} {o : Int} {b : Addr} (hd : decode c.code pc = .ok (.ifnull o, 3)) (ho : 0 ≤ (pc : Int) + o) (hp1 : ((pc : Int) + o).toNat = pc1) (hp2 : pc + 3 = pc2) (K : Go p e below P T (mkF m pc2 ls st)) : Go p e below P T (mkF m pc ls (.ref b :: st)) := by
  subst hp2
  exact K.st fun t q => XS.ifnullNo W.here W.hx rfl hd rfl q
theorem g_ifnonnullY (W : Wd p l e R s m args below meth c Z a0 EL own F T h k n) {pc pc1 pc2 : Nat} {ls : Array Slot} {st : List Value} {o : Int} {b : Addr} (hd : decode c.code pc = .ok (.ifnonnull o, 3)) (ho : 0 ≤ (pc : Int) + o) (hp1 : ((pc : Int) + o).toNat = pc1) (hp2 : pc + 3 = pc2) (K : Go p e below P T (mkF m pc1 ls st)) : Go p e below P T (mkF m pc ls (.ref b :: st)) :=
  K.st fun t q => XT.ifnonnullYes W.here W.hx rfl rfl hd rfl ho hp1 q
theorem g_ifnonnullN (W : Wd p l e R s m args below meth c Z a0 EL own F T h k n) {pc pc1 pc2 : Nat} {ls : Array Slot} {st : List Value} {o : Int} (hd : decode c.code pc = .ok (.ifnonnull o, 3)) (ho : 0 ≤ (pc : Int) + o) (hp1 : ((pc : Int) + o).toNat = pc1) (hp2 : pc + 3 = pc2) (K : Go p e below P T (mkF m pc2 ls st)) : Go p e below P T (mkF m pc ls (.null :: st)) := by
  subst hp2
  exact K.st fun t q => XT.ifnonnullNo W.here W.hx rfl hd rfl q
theorem g_acmpeqY (W : Wd p l e R s m args below meth c Z a0 EL own F T h k n) {pc pc1 pc2 : Nat} {ls : Array Slot} {st : List Value} {o : Int} {x y : Value} (hd : decode c.code pc = .ok (.if_acmp .eq o, 3)) (ho : 0 ≤ (pc : Int) + o) (hp1 : ((pc : Int) + o).toNat = pc1) (hp2 : pc + 3 = pc2) (h1 : x.isRef = true) (h2 : y.isRef = true) (hc : x = y) (K : Go p e below P T (mkF m pc1 ls st)) : Go p e below P T (mkF m pc ls (y :: x :: st)) := by
  obtain ⟨w1, w2, w3, w4, vm0, k0, locs, X, r⟩ := W
  exact K.st fun t q => acmp X w1 rfl h1 h2 (same := true) rfl hd rfl (by simp [hc]) ho (by simp [acV, hp1]) q
theorem g_acmpeqN (W : Wd p l e R s m args below meth c Z a0 EL own F T h k n) {pc pc1 pc2 : Nat} {ls : Array Slot} {st : List Value} {o : Int} {x y : Value} (hd : decode c.code pc = .ok (.if_acmp .eq o, 3)) (ho : 0 ≤ (pc : Int) + o) (hp1 : ((pc : Int) + o).toNat = pc1) (hp2 : pc + 3 = pc2) (h1 : x.isRef = true) (h2 : y.isRef = true) (hc : ¬ x = y) (K : Go p e below P T (mkF m pc2 ls st)) : Go p e below P T (mkF m pc ls (y :: x :: st)) := by
  obtain ⟨w1, w2, w3, w4, vm0, k0, locs, X, r⟩ := W
  exact K.st fun t q => acmp X w1 rfl h1 h2 (same := false) rfl hd rfl (by simp [hc]) ho (by simp [acV, hp2]) q
theorem g_acmpeq (W : Wd p l e R s m args below meth c Z a0 EL own F T h k n) {pc pc1 pc2 : Nat} {ls : Array Slot} {st : List Value} {o : Int} {x y : Value} (hd : decode c.code pc = .ok (.if_acmp .eq o, 3)) (ho : 0 ≤ (pc : Int) + o) (hp1 : ((pc : Int) + o).toNat = pc1) (hp2 : pc + 3 = pc2) (h1 : x.isRef = true) (h2 : y.isRef = true) (K1 : x = y → Go p e below P T (mkF m pc1 ls st)) (K2 : ¬ x = y → Go p e below P T (mkF m pc2 ls st)) : Go p e below P T (mkF m pc ls (y :: x :: st)) := by
  by_cases hc : x = y
  · exact g_acmpeqY W hd ho hp1 hp2 h1 h2 hc (K1 hc)
  · exact g_acmpeqN W hd ho hp1 hp2 h1 h2 (by first | exact hc | exact Decidable.not_not.mp hc) (K2 (by first | exact hc | exact Decidable.not_not.mp hc))
theorem g_acmpneY (W : Wd p l e R s m args below meth c Z a0 EL own F T h k n) {pc pc1 pc2 : Nat} {ls : Array Slot} {st : List Value} {o : Int} {x y : Value} (hd : decode c.code pc = .ok (.if_acmp .ne o, 3)) (ho : 0 ≤ (pc : Int) + o) (hp1 : ((pc : Int) + o).toNat = pc1) (hp2 : pc + 3 = pc2) (h1 : x.isRef = true) (h2 : y.isRef = true) (hc : ¬ x = y) (K : Go p e below P T (mkF m pc1 ls st)) : Go p e below P T (mkF m pc ls (y :: x :: st)) := by
  obtain ⟨w1, w2, w3, w4, vm0, k0, locs, X, r⟩ := W
  exact K.st fun t q => acmp X w1 rfl h1 h2 (same := false) rfl hd rfl (by simp [hc]) ho (by simp [acV, hp1]) q
theorem g_acmpneN (W : Wd p l e R s m args below meth c Z a0 EL own F T h k n) {pc pc1 pc2 : Nat} {ls : Array Slot} {st : List Value} {o : Int} {x y : Value} (hd : decode c.code pc = .ok (.if_acmp .ne o, 3)) (ho : 0 ≤ (pc : Int) + o) (hp1 : ((pc : Int) + o).toNat = pc1) (hp2 : pc + 3 = pc2) (h1 : x.isRef = true) (h2 : y.isRef = true) (hc : x = y) (K : Go p e below P T (mkF m pc2 ls st)) : Go p e below P T (mkF m pc ls (y :: x :: st)) := by
  obtain ⟨w1, w2, w3, w4, vm0, k0, locs, X, r⟩ := W
  exact K.st fun t q => acmp X w1 rfl h1 h2 (same := true) rfl hd rfl (by simp [hc]) ho (by simp [acV, hp2]) q
theorem g_acmpne (W : Wd p l e R s m args below meth c Z a0 EL own F T h k n) {pc pc1 pc2 : Nat} {ls : Array Slot} {st : List Value} {o : Int} {x y : Value} (hd : decode c.code pc = .ok (.if_acmp .ne o, 3)) (ho : 0 ≤ (pc : Int) + o) (hp1 : ((pc : Int) + o).toNat = pc1) (hp2 : pc + 3 = pc2) (h1 : x.isRef = true) (h2 : y.isRef = true) (K1 : ¬ x = y → Go p e below P T (mkF m pc1 ls st)) (K2 : x = y → Go p e below P T (mkF m pc2 ls st)) : Go p e below P T (mkF m pc ls (y :: x :: st)) := by
  by_cases hc : ¬ x = y
  · exact g_acmpneY W hd ho hp1 hp2 h1 h2 hc (K1 hc)
  · exact g_acmpneN W hd ho hp1 hp2 h1 h2 (by first | exact hc | exact Decidable.not_not.mp hc) (K2 (by first | exact hc | exact Decidable.not_not.mp hc))
theorem g_icmpeqB (W : Wd p l e R s m args below meth c Z a0 EL own F T h k n) {pc pc1 pc2 pc3 pcJ : Nat} {ls : Array Slot} {st : List Value} {x y : Int32} {o o2 i1 i2 : Int} {v1 v2 : Int32} (hd : decode c.code pc = .ok (.if_icmp .eq o, 3)) (ho : 0 ≤ (pc : Int) + o) (hp1 : ((pc : Int) + o).toNat = pc1) (hp2 : pc + 3 = pc2) (hd1 : decode c.code pc2 = .ok (.iconst i1, 1)) (hp3 : pc2 + 1 = pc3) (hd2 : decode c.code pc3 = .ok (.goto o2, 3)) (ho2 : 0 ≤ (pc3 : Int) + o2) (hpJ : ((pc3 : Int) + o2).toNat = pcJ) (hd3 : decode c.code pc1 = .ok (.iconst i2, 1)) (hpJ2 : pc1 + 1 = pcJ) (hv1 : Int32.ofInt i1 = v1) (hv2 : Int32.ofInt i2 = v2) (K : Go p e below P T (mkF m pcJ ls (.int (if x = y then v2 else v1) :: st))) : Go p e below P T (mkF m pc ls (.int y :: .int x :: st)) := by
  refine g_icmpeq W hd ho hp1 hp2 (fun q => ?_) (fun q => ?_)
  · refine g_iconst W hd3 hpJ2 hv2 ?_
    have e : (if x = y then v2 else v1) = v2 := by simp [q]
    rw [e] at K
    exact K
  · refine g_iconst W hd1 hp3 hv1 (g_goto W hd2 ho2 hpJ ?_)
    have e : (if x = y then v2 else v1) = v1 := by simp [q]
    rw [e] at K
    exact K
theorem g_ifeqB (W : Wd p l e R s m args below meth c Z a0 EL own F T h k n) {pc pc1 pc2 pc3 pcJ : Nat} {ls : Array Slot} {st : List Value} {x : Int32} {o o2 i1 i2 : Int} {v1 v2 : Int32} (hd : decode c.code pc = .ok (.ifCond .eq o, 3)) (ho : 0 ≤ (pc : Int) + o) (hp1 : ((pc : Int) + o).toNat = pc1) (hp2 : pc + 3 = pc2) (hd1 : decode c.code pc2 = .ok (.iconst i1, 1)) (hp3 : pc2 + 1 = pc3) (hd2 : decode c.code pc3 = .ok (.goto o2, 3)) (ho2 : 0 ≤ (pc3 : Int) + o2) (hpJ : ((pc3 : Int) + o2).toNat = pcJ) (hd3 : decode c.code pc1 = .ok (.iconst i2, 1)) (hpJ2 : pc1 + 1 = pcJ) (hv1 : Int32.ofInt i1 = v1) (hv2 : Int32.ofInt i2 = v2) (K : Go p e below P T (mkF m pcJ ls (.int (if x = 0 then v2 else v1) :: st))) : Go p e below P T (mkF m pc ls (.int x :: st)) := by
  refine g_ifeq W hd ho hp1 hp2 (fun q => ?_) (fun q => ?_)
  · refine g_iconst W hd3 hpJ2 hv2 ?_
    have e : (if x = 0 then v2 else v1) = v2 := by simp [q]
    rw [e] at K
    exact K
  · refine g_iconst W hd1 hp3 hv1 (g_goto W hd2 ho2 hpJ ?_)
    have e : (if x = 0 then v2 else v1) = v1 := by simp [q]
    rw [e] at K
    exact K
theorem g_icmpneB (W : Wd p l e R s m args below meth c Z a0 EL own F T h k n) {pc pc1 pc2 pc3 pcJ : Nat} {ls : Array Slot} {st : List Value} {x y : Int32} {o o2 i1 i2 : Int} {v1 v2 : Int32} (hd : decode c.code pc = .ok (.if_icmp .ne o, 3)) (ho : 0 ≤ (pc : Int) + o) (hp1 : ((pc : Int) + o).toNat = pc1) (hp2 : pc + 3 = pc2) (hd1 : decode c.code pc2 = .ok (.iconst i1, 1)) (hp3 : pc2 + 1 = pc3) (hd2 : decode c.code pc3 = .ok (.goto o2, 3)) (ho2 : 0 ≤ (pc3 : Int) + o2) (hpJ : ((pc3 : Int) + o2).toNat = pcJ) (hd3 : decode c.code pc1 = .ok (.iconst i2, 1)) (hpJ2 : pc1 + 1 = pcJ) (hv1 : Int32.ofInt i1 = v1) (hv2 : Int32.ofInt i2 = v2) (K : Go p e below P T (mkF m pcJ ls (.int (if ¬ x = y then v2 else v1) :: st))) : Go p e below P T (mkF m pc ls (.int y :: .int x :: st)) := by
  refine g_icmpne W hd ho hp1 hp2 (fun q => ?_) (fun q => ?_)
  · refine g_iconst W hd3 hpJ2 hv2 ?_
    have e : (if ¬ x = y then v2 else v1) = v2 := by simp [q]
    rw [e] at K
    exact K
  · refine g_iconst W hd1 hp3 hv1 (g_goto W hd2 ho2 hpJ ?_)
    have e : (if ¬ x = y then v2 else v1) = v1 := by simp [q]
    rw [e] at K
    exact K
theorem g_ifneB (W : Wd p l e R s m args below meth c Z a0 EL own F T h k n) {pc pc1 pc2 pc3 pcJ : Nat} {ls : Array Slot} {st : List Value} {x : Int32} {o o2 i1 i2 : Int} {v1 v2 : Int32} (hd : decode c.code pc = .ok (.ifCond .ne o, 3)) (ho : 0 ≤ (pc : Int) + o) (hp1 : ((pc : Int) + o).toNat = pc1) (hp2 : pc + 3 = pc2) (hd1 : decode c.code pc2 = .ok (.iconst i1, 1)) (hp3 : pc2 + 1 = pc3) (hd2 : decode c.code pc3 = .ok (.goto o2, 3)) (ho2 : 0 ≤ (pc3 : Int) + o2) (hpJ : ((pc3 : Int) + o2).toNat = pcJ) (hd3 : decode c.code pc1 = .ok (.iconst i2, 1)) (hpJ2 : pc1 + 1 = pcJ) (hv1 : Int32.ofInt i1 = v1) (hv2 : Int32.ofInt i2 = v2) (K : Go p e below P T (mkF m pcJ ls (.int (if ¬ x = 0 then v2 else v1) :: st))) : Go p e below P T (mkF m pc ls (.int x :: st)) := by
  refine g_ifne W hd ho hp1 hp2 (fun q => ?_) (fun q => ?_)
  · refine g_iconst W hd3 hpJ2 hv2 ?_
    have e : (if ¬ x = 0 then v2 else v1) = v2 := by simp [q]
    rw [e] at K
    exact K
  · refine g_iconst W hd1 hp3 hv1 (g_goto W hd2 ho2 hpJ ?_)
    have e : (if ¬ x = 0 then v2 else v1) = v1 := by simp [q]
    rw [e] at K
    exact K
theorem g_icmpltB (W : Wd p l e R s m args below meth c Z a0 EL own F T h k n) {pc pc1 pc2 pc3 pcJ : Nat} {ls : Array Slot} {st : List Value} {x y : Int32} {o o2 i1 i2 : Int} {v1 v2 : Int32} (hd : decode c.code pc = .ok (.if_icmp .lt o, 3)) (ho : 0 ≤ (pc : Int) + o) (hp1 : ((pc : Int) + o).toNat = pc1) (hp2 : pc + 3 = pc2) (hd1 : decode c.code pc2 = .ok (.iconst i1, 1)) (hp3 : pc2 + 1 = pc3) (hd2 : decode c.code pc3 = .ok (.goto o2, 3)) (ho2 : 0 ≤ (pc3 : Int) + o2) (hpJ : ((pc3 : Int) + o2).toNat = pcJ) (hd3 : decode c.code pc1 = .ok (.iconst i2, 1)) (hpJ2 : pc1 + 1 = pcJ) (hv1 : Int32.ofInt i1 = v1) (hv2 : Int32.ofInt i2 = v2) (K : Go p e below P T (mkF m pcJ ls (.int (if x < y then v2 else v1) :: st))) : Go p e below P T (mkF m pc ls (.int y :: .int x :: st)) := by
  refine g_icmplt W hd ho hp1 hp2 (fun q => ?_) (fun q => ?_)
  · refine g_iconst W hd3 hpJ2 hv2 ?_
    have e : (if x < y then v2 else v1) = v2 := by simp [q]
    rw [e] at K
    exact K
  · refine g_iconst W hd1 hp3 hv1 (g_goto W hd2 ho2 hpJ ?_)
    have e : (if x < y then v2 else v1) = v1 := by simp [q]
    rw [e] at K
    exact K
theorem g_ifltB (W : Wd p l e R s m args below meth c Z a0 EL own F T h k n) {pc pc1 pc2 pc3 pcJ : Nat} {ls : Array Slot} {st : List Value} {x : Int32} {o o2 i1 i2 : Int} {v1 v2 : Int32} (hd : decode c.code pc = .ok (.ifCond .lt o, 3)) (ho : 0 ≤ (pc : Int) + o) (hp1 : ((pc : Int) + o).toNat = pc1) (hp2 : pc + 3 = pc2) (hd1 : decode c.code pc2 = .ok (.iconst i1, 1)) (hp3 : pc2 + 1 = pc3) (hd2 : decode c.code pc3 = .ok (.goto o2, 3)) (ho2 : 0 ≤ (pc3 : Int) + o2) (hpJ : ((pc3 : Int) + o2).toNat = pcJ) (hd3 : decode c.code pc1 = .ok (.iconst i2, 1)) (hpJ2 : pc1 + 1 = pcJ) (hv1 : Int32.ofInt i1 = v1) (hv2 : Int32.ofInt i2 = v2) (K : Go p e below P T (mkF m pcJ ls (.int (if x < 0 then v2 else v1) :: st))) : Go p e below P T (mkF m pc ls (.int x :: st)) := by
  refine g_iflt W hd ho hp1 hp2 (fun q => ?_) (fun q => ?_)
  · refine g_iconst W hd3 hpJ2 hv2 ?_
    have e : (if x < 0 then v2 else v1) = v2 := by simp [q]
    rw [e] at K
    exact K
  · refine g_iconst W hd1 hp3 hv1 (g_goto W hd2 ho2 hpJ ?_)
    have e : (if x < 0 then v2 else v1) = v1 := by simp [q]
    rw [e] at K
    exact K
theorem g_icmpgeB (W : Wd p l e R s m args below meth c Z a0 EL own F T h k n) {pc pc1 pc2 pc3 pcJ : Nat} {ls : Array Slot} {st : List Value} {x y : Int32} {o o2 i1 i2 : Int} {v1 v2 : Int32} (hd : decode c.code pc = .ok (.if_icmp .ge o, 3)) (ho : 0 ≤ (pc : Int) + o) (hp1 : ((pc : Int) + o).toNat = pc1) (hp2 : pc + 3 = pc2) (hd1 : decode c.code pc2 = .ok (.iconst i1, 1)) (hp3 : pc2 + 1 = pc3) (hd2 : decode c.code pc3 = .ok (.goto o2, 3)) (ho2 : 0 ≤ (pc3 : Int) + o2) (hpJ : ((pc3 : Int) + o2).toNat = pcJ) (hd3 : decode c.code pc1 = .ok (.iconst i2, 1)) (hpJ2 : pc1 + 1 = pcJ) (hv1 : Int32.ofInt i1 = v1) (hv2 : Int32.ofInt i2 = v2) (K : Go p e below P T (mkF m pcJ ls (.int (if ¬ x < y then v2 else v1) :: st))) : Go p e below P T (mkF m pc ls (.int y :: .int x :: st)) := by
  refine g_icmpge W hd ho hp1 hp2 (fun q => ?_) (fun q => ?_)
  · refine g_iconst W hd3 hpJ2 hv2 ?_
    have e : (if ¬ x < y then v2 else v1) = v2 := by simp [q]
    rw [e] at K
    exact K
  · refine g_iconst W hd1 hp3 hv1 (g_goto W hd2 ho2 hpJ ?_)
    have e : (if ¬ x < y then v2 else v1) = v1 := by simp [q]
    rw [e] at K
    exact K
theorem g_ifgeB (W : Wd p l e R s m args below meth c Z a0 EL own F T h k n) {pc pc1 pc2 pc3 pcJ : Nat} {ls : Array Slot} {st : List Value} {x : Int32} {o o2 i1 i2 : Int} {v1 v2 : Int32} (hd : decode c.code pc = .ok (.ifCond .ge o, 3)) (ho : 0 ≤ (pc : Int) + o) (hp1 : ((pc : Int) + o).toNat = pc1) (hp2 : pc + 3 = pc2) (hd1 : decode c.code pc2 = .ok (.iconst i1, 1)) (hp3 : pc2 + 1 = pc3) (hd2 : decode c.code pc3 = .ok (.goto o2, 3)) (ho2 : 0 ≤ (pc3 : Int) + o2) (hpJ : ((pc3 : Int) + o2).toNat = pcJ) (hd3 : decode c.code pc1 = .ok (.iconst i2, 1)) (hpJ2 : pc1 + 1 = pcJ) (hv1 : Int32.ofInt i1 = v1) (hv2 : Int32.ofInt i2 = v2) (K : Go p e below P T (mkF m pcJ ls (.int (if ¬ x < 0 then v2 else v1) :: st))) : Go p e below P T (mkF m pc ls (.int x :: st)) := by
  refine g_ifge W hd ho hp1 hp2 (fun q => ?_) (fun q => ?_)
  · refine g_iconst W hd3 hpJ2 hv2 ?_
    have e : (if ¬ x < 0 then v2 else v1) = v2 := by simp [q]
    rw [e] at K
    exact K
  · refine g_iconst W hd1 hp3 hv1 (g_goto W hd2 ho2 hpJ ?_)
    have e : (if ¬ x < 0 then v2 else v1) = v1 := by simp [q]
    rw [e] at K
    exact K
theorem g_icmpgtB (W : Wd p l e R s m args below meth c Z a0 EL own F T h k n) {pc pc1 pc2 pc3 pcJ : Nat} {ls : Array Slot} {st : List Value} {x y : Int32} {o o2 i1 i2 : Int} {v1 v2 : Int32} (hd : decode c.code pc = .ok (.if_icmp .gt o, 3)) (ho : 0 ≤ (pc : Int) + o) (hp1 : ((pc : Int) + o).toNat = pc1) (hp2 : pc + 3 = pc2) (hd1 : decode c.code pc2 = .ok (.iconst i1, 1)) (hp3 : pc2 + 1 = pc3) (hd2 : decode c.code pc3 = .ok (.goto o2, 3)) (ho2 : 0 ≤ (pc3 : Int) + o2) (hpJ : ((pc3 : Int) + o2).toNat = pcJ) (hd3 : decode c.code pc1 = .ok (.iconst i2, 1)) (hpJ2 : pc1 + 1 = pcJ) (hv1 : Int32.ofInt i1 = v1) (hv2 : Int32.ofInt i2 = v2) (K : Go p e below P T (mkF m pcJ ls (.int (if y < x then v2 else v1) :: st))) : Go p e below P T (mkF m pc ls (.int y :: .int x :: st)) := by
  refine g_icmpgt W hd ho hp1 hp2 (fun q => ?_) (fun q => ?_)
  · refine g_iconst W hd3 hpJ2 hv2 ?_
    have e : (if y < x then v2 else v1) = v2 := by simp [q]
    rw [e] at K
    exact K
  · refine g_iconst W hd1 hp3 hv1 (g_goto W hd2 ho2 hpJ ?_)
    have e : (if y < x then v2 else v1) = v1 := by simp [q]
    rw [e] at K
    exact K
theorem g_ifgtB (W : Wd p l e R s m args below meth c Z a0 EL own F T h k n) {pc pc1 pc2 pc3 pcJ : Nat} {ls : Array Slot} {st : List Value} {x : Int32} {o o2 i1 i2 : Int} {v1 v2 : Int32} (hd : decode c.code pc = .ok (.ifCond .gt o, 3)) (ho : 0 ≤ (pc : Int) + o) (hp1 : ((pc : Int) + o).toNat = pc1) (hp2 : pc + 3 = pc2) (hd1 : decode c.code pc2 = .ok (.iconst i1, 1)) (hp3 : pc2 + 1 = pc3) (hd2 : decode c.code pc3 = .ok (.goto o2, 3)) (ho2 : 0 ≤ (pc3 : Int) + o2) (hpJ : ((pc3 : Int) + o2).toNat = pcJ) (hd3 : decode c.code pc1 = .ok (.iconst i2, 1)) (hpJ2 : pc1 + 1 = pcJ) (hv1 : Int32.ofInt i1 = v1) (hv2 : Int32.ofInt i2 = v2) (K : Go p e below P T (mkF m pcJ ls (.int (if 0 < x then v2 else v1) :: st))) : Go p e below P T (mkF m pc ls (.int x :: st)) := by
  refine g_ifgt W hd ho hp1 hp2 (fun q => ?_) (fun q => ?_)
  · refine g_iconst W hd3 hpJ2 hv2 ?_
    have e : (if 0 < x then v2 else v1) = v2 := by simp [q]
    rw [e] at K
    exact K
  · refine g_iconst W hd1 hp3 hv1 (g_goto W hd2 ho2 hpJ ?_)
    have e : (if 0 < x then v2 else v1) = v1 := by simp [q]
    rw [e] at K
    exact K
theorem g_icmpleB (W : Wd p l e R s m args below meth c Z a0 EL own F T h k n) {pc pc1 pc2 pc3 pcJ : Nat} {ls : Array Slot} {st : List Value} {x y : Int32} {o o2 i1 i2 : Int} {v1 v2 : Int32} (hd : decode c.code pc = .ok (.if_icmp .le o, 3)) (ho : 0 ≤ (pc : Int) + o) (hp1 : ((pc : Int) + o).toNat = pc1) (hp2 : pc + 3 = pc2) (hd1 : decode c.code pc2 = .ok (.iconst i1, 1)) (hp3 : pc2 + 1 = pc3) (hd2 : decode c.code pc3 = .ok (.goto o2, 3)) (ho2 : 0 ≤ (pc3 : Int) + o2) (hpJ : ((pc3 : Int) + o2).toNat = pcJ) (hd3 : decode c.code pc1 = .ok (.iconst i2, 1)) (hpJ2 : pc1 + 1 = pcJ) (hv1 : Int32.ofInt i1 = v1) (hv2 : Int32.ofInt i2 = v2) (K : Go p e below P T (mkF m pcJ ls (.int (if ¬ y < x then v2 else v1) :: st))) : Go p e below P T (mkF m pc ls (.int y :: .int x :: st)) := by
  refine g_icmple W hd ho hp1 hp2 (fun q => ?_) (fun q => ?_)
  · refine g_iconst W hd3 hpJ2 hv2 ?_
    have e : (if ¬ y < x then v2 else v1) = v2 := by simp [q]
    rw [e] at K
    exact K
  · refine g_iconst W hd1 hp3 hv1 (g_goto W hd2 ho2 hpJ ?_)
    have e : (if ¬ y < x then v2 else v1) = v1 := by simp [q]
    rw [e] at K
    exact K
theorem g_ifleB (W : Wd p l e R s m args below meth c Z a0 EL own F T h k n) {pc pc1 pc2 pc3 pcJ : Nat} {ls : Array Slot} {st : List Value} {x : Int32} {o o2 i1 i2 : Int} {v1 v2 : Int32} (hd : decode c.code pc = .ok (.ifCond .le o, 3)) (ho : 0 ≤ (pc : Int) + o) (hp1 : ((pc : Int) + o).toNat = pc1) (hp2 : pc + 3 = pc2) (hd1 : decode c.code pc2 = .ok (.iconst i1, 1)) (hp3 : pc2 + 1 = pc3) (hd2 : decode c.code pc3 = .ok (.goto o2, 3)) (ho2 : 0 ≤ (pc3 : Int) + o2) (hpJ : ((pc3 : Int) + o2).toNat = pcJ) (hd3 : decode c.code pc1 = .ok (.iconst i2, 1)) (hpJ2 : pc1 + 1 = pcJ) (hv1 : Int32.ofInt i1 = v1) (hv2 : Int32.ofInt i2 = v2) (K : Go p e below P T (mkF m pcJ ls (.int (if ¬ 0 < x then v2 else v1) :: st))) : Go p e below P T (mkF m pc ls (.int x :: st)) := by
  refine g_ifle W hd ho hp1 hp2 (fun q => ?_) (fun q => ?_)
  · refine g_iconst W hd3 hpJ2 hv2 ?_
    have e : (if ¬ 0 < x then v2 else v1) = v2 := by simp [q]
    rw [e] at K
    exact K
  · refine g_iconst W hd1 hp3 hv1 (g_goto W hd2 ho2 hpJ ?_)
    have e : (if ¬ 0 < x then v2 else v1) = v1 := by simp [q]
    rw [e] at K
    exact K
theorem g_acmpeqB (W : Wd p l e R s m args below meth c Z a0 EL own F T h k n) {pc pc1 pc2 pc3 pcJ : Nat} {ls : Array Slot} {st : List Value} {x y : Value} {o o2 i1 i2 : Int} {v1 v2 : Int32} (hd : decode c.code pc = .ok (.if_acmp .eq o, 3)) (ho : 0 ≤ (pc : Int) + o) (hp1 : ((pc : Int) + o).toNat = pc1) (hp2 : pc + 3 = pc2) (hd1 : decode c.code pc2 = .ok (.iconst i1, 1)) (hp3 : pc2 + 1 = pc3) (hd2 : decode c.code pc3 = .ok (.goto o2, 3)) (ho2 : 0 ≤ (pc3 : Int) + o2) (hpJ : ((pc3 : Int) + o2).toNat = pcJ) (hd3 : decode c.code pc1 = .ok (.iconst i2, 1)) (hpJ2 : pc1 + 1 = pcJ) (hv1 : Int32.ofInt i1 = v1) (hv2 : Int32.ofInt i2 = v2) (h1 : x.isRef = true) (h2 : y.isRef = true) (K : Go p e below P T (mkF m pcJ ls (.int (if x = y then v2 else v1) :: st))) : Go p e below P T (mkF m pc ls (y :: x :: st)) := by
  refine g_acmpeq W hd ho hp1 hp2 h1 h2 (fun q => ?_) (fun q => ?_)
  · refine g_iconst W hd3 hpJ2 hv2 ?_
    have e : (if x = y then v2 else v1) = v2 := by simp [q]
    rw [e] at K
    exact K
  · refine g_iconst W hd1 hp3 hv1 (g_goto W hd2 ho2 hpJ ?_)
    have e : (if x = y then v2 else v1) = v1 := by simp [q]
    rw [e] at K
    exact K
theorem g_acmpneB (W : Wd p l e R s m args below meth c Z a0 EL own F T h k n) {pc pc1 pc2 pc3 pcJ : Nat} {ls : Array Slot} {st : List Value} {x y : Value} {o o2 i1 i2 : Int} {v1 v2 : Int32} (hd : decode c.code pc = .ok (.if_acmp .ne o, 3)) (ho : 0 ≤ (pc : Int) + o) (hp1 : ((pc : Int) + o).toNat = pc1) (hp2 : pc + 3 = pc2) (hd1 : decode c.code pc2 = .ok (.iconst i1, 1)) (hp3 : pc2 + 1 = pc3) (hd2 : decode c.code pc3 = .ok (.goto o2, 3)) (ho2 : 0 ≤ (pc3 : Int) + o2) (hpJ : ((pc3 : Int) + o2).toNat = pcJ) (hd3 : decode c.code pc1 = .ok (.iconst i2, 1)) (hpJ2 : pc1 + 1 = pcJ) (hv1 : Int32.ofInt i1 = v1) (hv2 : Int32.ofInt i2 = v2) (h1 : x.isRef = true) (h2 : y.isRef = true) (K : Go p e below P T (mkF m pcJ ls (.int (if ¬ x = y then v2 else v1) :: st))) : Go p e below P T (mkF m pc ls (y :: x :: st)) := by
  refine g_acmpne W hd ho hp1 hp2 h1 h2 (fun q => ?_) (fun q => ?_)
  · refine g_iconst W hd3 hpJ2 hv2 ?_
    have e : (if ¬ x = y then v2 else v1) = v2 := by simp [q]
    rw [e] at K
    exact K
  · refine g_iconst W hd1 hp3 hv1 (g_goto W hd2 ho2 hpJ ?_)
    have e : (if ¬ x = y then v2 else v1) = v1 := by simp [q]
    rw [e] at K
    exact K
theorem g_istoreS (W : Wd p l e R s m args below meth c Z a0 EL own F T h k n) {pc pc' : Nat} {ls ls' : Array Slot} {st : List Value} {i : Nat} {v : Int32} {o : Slot} (hd : decode c.code pc = .ok (.istore i, 2)) (hp : pc + 2 = pc') (ho : ls[i]? = some o) (hone : One o) (hl : ls.setIfInBounds i (.val (.int v)) = ls') (K : Go p e below P T (mkF m pc' ls' st)) : Go p e below P T (mkF m pc ls (.int v :: st)) := by
  subst hp hl
  exact K.st fun t q => XS.istoreS W.here W.hx rfl hd rfl ho hone q
theorem g_istoreNS (W : Wd p l e R s m args below meth c Z a0 EL own F T h k n) {pc pc' : Nat} {ls ls' : Array Slot} {st : List Value} {i : Fin 4} {v : Int32} {o : Slot} (hd : decode c.code pc = .ok (.istore_n i, 1)) (hp : pc + 1 = pc') (ho : ls[i.val]? = some o) (hone : One o) (hl : ls.setIfInBounds i.val (.val (.int v)) = ls') (K : Go p e below P T (mkF m pc' ls' st)) : Go p e below P T (mkF m pc ls (.int v :: st)) := by
  subst hp hl
  exact K.st fun t q => XS.istoreNS W.here W.hx rfl hd rfl ho hone q
theorem g_astoreS (W : Wd p l e R s m args below meth c Z a0 EL own F T h k n) {pc pc' : Nat} {ls ls' : Array Slot} {st : List Value} {i : Nat} {v : Value} {o : Slot} (hd : decode c.code pc = .ok (.astore i, 2)) (hp : pc + 2 = pc') (hv : v.isRef = true) (hc : v.category = 1) (ho : ls[i]? = some o) (hone : One o) (hl : ls.setIfInBounds i (.val v) = ls') (K : Go p e below P T (mkF m pc' ls' st)) : Go p e below P T (mkF m pc ls (v :: st)) := by
  subst hp hl
  exact K.st fun t q => XS.astoreS W.here W.hx rfl hd rfl hv hc ho hone q
theorem g_ldcI (W : Wd p l e R s m args below meth c Z a0 EL own F T h k n) {pc pc' : Nat} {ls : Array Slot} {st : List Value} {index : Nat} {v : Int32} (w : (Jvm.Cond.constant own index v).before a0 Z = true) (hd : decode c.code pc = .ok (.ldc index, 2)) (hp : pc + 2 = pc') (K : Go p e below P T (mkF m pc' ls (.int v :: st))) : Go p e below P T (mkF m pc ls st) := by
  subst hp
  obtain ⟨w1, w2, w3, w4, vm0, k0, locs, X, hZ, hown, r⟩ := W
  exact K.st fun t q => X.ldcI w1 (own := own) hown (mv hZ w) rfl hd q
theorem g_ldc2 (W : Wd p l e R s m args below meth c Z a0 EL own F T h k n) {pc pc' : Nat} {ls : Array Slot} {st : List Value} {index : Nat} {v : Int64} (w : (Jvm.Cond.constantLong own index v).before a0 Z = true) (hd : decode c.code pc = .ok (.ldc2_w index, 3)) (hp : pc + 3 = pc') (K : Go p e below P T (mkF m pc' ls (.long v :: st))) : Go p e below P T (mkF m pc ls st) := by
  subst hp
  obtain ⟨w1, w2, w3, w4, vm0, k0, locs, X, hZ, hown, r⟩ := W
  exact K.st fun t q => X.ldc2Long w1 (own := own) hown (mv hZ w) (g := mkF m pc ls st) rfl hd t q
theorem g_ret (W : Wd p l e R s m args below meth c Z a0 EL own F T h k n) {pc : Nat} {ls : Array Slot} {st : List Value} {v : Value} {t : FieldType} {i : Instr} {Q : Option Value → Heap → Prop} {k' n' : Nat} (hd : decode c.code pc = .ok (i, 1)) (hret : meth.sig.returnType = some t) (hn : narrow t v = v)
    (hi : (i = .ireturn ∧ (t = .int ∨ t = .boolean ∨ t = .byte ∨ t = .char ∨ t = .short) ∧ ∃ z, v = .int z) ∨ (i = .lreturn ∧ t = .long ∧ ∃ z, v = .long z) ∨ (i = .dreturn ∧ t = .double ∧ ∃ z, v = .double z) ∨ (i = .freturn ∧ t = .float ∧ ∃ z, v = .float z) ∨ (i = .areturn ∧ t.isReference = true ∧ v.isRef = true))
    (hk : k ≤ k') (hs : n ≤ n') (q : Q (some v) h) : Go p e below (Endp Z EL s Q k' n') T (mkF m pc ls (v :: st)) :=
  have hx := W.hx
  W.leave hk hs (fun h => by rw [hret] at h; cases h) q fun X hr => retOut X hx hret hn hi hd hr
theorem g_reti (W : Wd p l e R s m args below meth c Z a0 EL own F T h k n) {pc : Nat} {ls : Array Slot} {st : List Value} {v : Int32} {Q : Option Value → Heap → Prop} {k' n' : Nat} (hd : decode c.code pc = .ok (.ireturn, 1)) (hret : meth.sig.returnType = some .int) (hk : k ≤ k') (hs : n ≤ n') (q : Q (some (.int v)) h) : Go p e below (Endp Z EL s Q k' n') T (mkF m pc ls (.int v :: st)) :=
  g_ret W hd hret rfl (Or.inl ⟨rfl, Or.inl rfl, v, rfl⟩) hk hs q
theorem g_retz (W : Wd p l e R s m args below meth c Z a0 EL own F T h k n) {pc : Nat} {ls : Array Slot} {st : List Value} {v : Int32} {Q : Option Value → Heap → Prop} {k' n' : Nat} (hd : decode c.code pc = .ok (.ireturn, 1)) (hret : meth.sig.returnType = some .boolean) (hv : v = 0 ∨ v = 1) (hk : k ≤ k') (hs : n ≤ n') (q : Q (some (.int v)) h) : Go p e below (Endp Z EL s Q k' n') T (mkF m pc ls (.int v :: st)) :=
  g_ret W hd hret (by rcases hv with rfl | rfl <;> rfl) (Or.inl ⟨rfl, Or.inr (Or.inl rfl), v, rfl⟩) hk hs q
theorem g_retc (W : Wd p l e R s m args below meth c Z a0 EL own F T h k n) {pc : Nat} {ls : Array Slot} {st : List Value} {v : Int32} {Q : Option Value → Heap → Prop} {k' n' : Nat} (hd : decode c.code pc = .ok (.ireturn, 1)) (hret : meth.sig.returnType = some .char) (hv : narrow .char (.int v) = .int v) (hk : k ≤ k') (hs : n ≤ n') (q : Q (some (.int v)) h) : Go p e below (Endp Z EL s Q k' n') T (mkF m pc ls (.int v :: st)) :=
  g_ret W hd hret hv (Or.inl ⟨rfl, Or.inr (Or.inr (Or.inr (Or.inl rfl))), v, rfl⟩) hk hs q
theorem g_areturn (W : Wd p l e R s m args below meth c Z a0 EL own F T h k n) {pc : Nat} {ls : Array Slot} {st : List Value} {v : Value} {t : FieldType} {Q : Option Value → Heap → Prop} {k' n' : Nat} (hd : decode c.code pc = .ok (.areturn, 1)) (hret : meth.sig.returnType = some t) (ht : t.isReference = true) (hv : v.isRef = true) (hk : k ≤ k') (hs : n ≤ n') (q : Q (some v) h) : Go p e below (Endp Z EL s Q k' n') T (mkF m pc ls (v :: st)) :=
  g_ret W hd hret (by rcases ref_cases hv with rfl | ⟨z, rfl⟩ <;> cases t <;> first | rfl | cases ht) (Or.inr (Or.inr (Or.inr (Or.inr ⟨rfl, ht, hv⟩)))) hk hs q
theorem g_return (W : Wd p l e R s m args below meth c Z a0 EL own F T h k n) {pc : Nat} {ls : Array Slot} {Q : Option Value → Heap → Prop} {k' n' : Nat} (hd : decode c.code pc = .ok (.return_, 1)) (hret : meth.sig.returnType = none) (hk : k ≤ k') (hs : n ≤ n') (q : Q none h) : Go p e below (Endp Z EL s Q k' n') T (mkF m pc ls []) :=
  have hx := W.hx
  W.leave hk hs (fun _ => rfl) q fun X hr => X.returnOut hx hret hd hr
end OwnB
/-! own kit, part C: heap steps and calls -/
section OwnC
variable {p : Program} {l : Launch} {e : Env} {R : Room} {s : State} {m : MethodId} {args : Array Value} {below : List Frame} {meth : Method} {c : Code} {T T' : State} {h h' : Heap} {Z : State} {a0 : Array Value} {EL : List (String × Nat)} {own : String} {k n : Nat} {P : Outcome → State → Prop} {F : List Addr}
theorem g_getfield (W : Wd p l e R s m args below meth c Z a0 EL own F T h k n) {pc pc' : Nat} {ls : Array Slot} {st : List Value} {R0 O nm d host : String} {index : Nat} (w : (Jvm.Cond.fieldLink own index R0 nm d).before a0 Z = true ∨ (Jvm.Cond.fieldLinkNest own index R0 nm d host).before a0 Z = true) (via : Via Z R0 O nm d) {a : Addr} {v : Value} (Fl : Fld Z h a O nm d v)
    (hd : decode c.code pc = .ok (.getfield index, 3)) (hp : pc + 3 = pc') (K : ∀ T', Wd p l e R s m args below meth c Z a0 EL own F T' h k n → Go p e below P T' (mkF m pc' ls (v :: st))) : Go p e below P T (mkF m pc ls (.ref a :: st)) := by
  subst hp
  exact W.grow (fun X hZ hown eT => getF X W.hx hZ hown w via eT Fl rfl rfl hd) (ext_refl h) K
theorem g_getstatic (W : Wd p l e R s m args below meth c Z a0 EL own F T h k n) {pc pc' : Nat} {ls : Array Slot} {st : List Value} {R0 O nm d host : String} {index : Nat} (w : (Jvm.Cond.fieldLink own index R0 nm d).before a0 Z = true ∨ (Jvm.Cond.fieldLinkNest own index R0 nm d host).before a0 Z = true) (via : Via Z R0 O nm d) {v : Value} (Fl : Sta Z h O nm d v)
    (hd : decode c.code pc = .ok (.getstatic index, 3)) (hp : pc + 3 = pc') (K : ∀ T', Wd p l e R s m args below meth c Z a0 EL own F T' h k n → Go p e below P T' (mkF m pc' ls (v :: st))) : Go p e below P T (mkF m pc ls st) := by
  subst hp
  exact W.grow (fun X hZ hown eT => getS2 X W.hx hZ hown w via eT Fl rfl hd) (ext_refl h) K
theorem g_putfield (W : Wd p l e R s m args below meth c Z a0 EL own F T h k n) {pc pc' : Nat} {ls : Array Slot} {st : List Value} {R0 O nm d host C : String} {index kk : Nat} {ty : FieldType} (w : (Jvm.Cond.fieldLink own index R0 nm d).before a0 Z = true ∨ (Jvm.Cond.fieldLinkNest own index R0 nm d host).before a0 Z = true) (via : Via Z R0 O nm d) {a : Addr} {v old : Value} (Fl : Fld Z h a O nm d old) (E : Exa Z h a C)
    (L : (Jvm.Cond.lays C O nm d).before a0 Z = true ∨ ((Jvm.Cond.laysFinal C O nm d).before a0 Z = true ∧ own = O ∧ meth.name = "<init>")) (wi : (Jvm.Cond.instantiable C kk).before a0 Z = true) (hty : parseFieldDescriptor d = some ty) (hn : narrow ty v = v) (hf : fits ty v = true) (q : Wok Z F h a)
    (hd : decode c.code pc = .ok (.putfield index, 3)) (hp : pc + 3 = pc') (K : ∀ T' h', Wd p l e R s m args below meth c Z a0 EL own F T' h' k n → Wr h h' a (Jvm.RoadKit.slotOf Z O nm d) v → Go p e below P T' (mkF m pc' ls st)) : Go p e below P T (mkF m pc ls (v :: .ref a :: st)) := by
  subst hp
  exact W.write q (fun X hZ hown eT => putF X W.hx hZ hown w via eT Fl E L wi hty hn hf rfl rfl hd) K
/-- a step that makes one cell: it is one of the walk's own -/
theorem Wd.make (W : Wd p l e R s m args below meth c Z a0 EL own F T h k n) {k' n' : Nat} {g g' : JFrame} {B : Heap → Prop}
    (st : ∀ {vm0 : Vm} {locs : List Loc}, Stand p l e R (s.setVm vm0) m args below meth c T locs k n → Z.Warmed39 vm0 → vm0.findClass own = some m.cls → T.heap = h →
      ∃ T' h', Stand p l e R (s.setVm vm0) m args below meth c T' locs k' n' ∧ T'.heap = h' ∧ Ext h h' ∧ h.size < h'.size ∧ B h' ∧ ∀ target, Steps p.tables e below (T'.setTop g') target → Steps p.tables e below (T.setTop g) target)
    (K : ∀ T' h', Wd p l e R s m args below meth c Z a0 EL own (h.size :: F) T' h' k' n' → Ext h h' → B h' → Go p e below P T' g') : Go p e below P T g := by
  obtain ⟨w1, w2, w3, w4, vm0, k0, locs, X, hZ, hown, eT, hS, hk, hC, hN, hF⟩ := W
  obtain ⟨T', h', X', eT', E, hlt, hB, st⟩ := st X hZ hown eT
  refine (K T' h' ⟨w1, ext_trans w2 E, w3, w4, vm0, k0, locs, X', hZ, hown, eT', hS, Nat.le_trans hk E.1, hC.trans (CHr.ext E hC.1), hN, fun x q => ?_⟩ E hB).st st
  rcases List.mem_cons.mp q with rfl | q
  · exact ⟨hlt, Safe.ext E hC.1 (Safe.new (Nat.le_refl _))⟩
  · exact ⟨Nat.lt_of_lt_of_le (hF x q).1 E.1, Safe.ext E hC.1 (hF x q).2⟩
theorem g_new (W : Wd p l e R s m args below meth c Z a0 EL own F T h k n) {pc pc' : Nat} {ls : Array Slot} {st : List Value} {C : String} {index nn : Nat} (w : (Jvm.Cond.classLink own index C).before a0 Z = true) (wi : (Jvm.Cond.instantiable C nn).before a0 Z = true) (wz : (Jvm.Cond.initialized C).before a0 Z = true)
    (hd : decode c.code pc = .ok (.new index, 3)) (hp : pc + 3 = pc') (hc : k + 1 ≤ R.cells) (hl : n + nn ≤ R.slots)
    (K : ∀ x T' h', h.size ≤ x → Wd p l e R s m args below meth c Z a0 EL own (x :: F) T' h' (k + 1) (n + nn) → Ext h h' → (Exa Z h' x C ∧ ∀ {O nm d : String} {ty : FieldType}, Laid Z a0 C O nm d → parseFieldDescriptor d = some ty → Fld Z h' x O nm d (defaultValue ty)) → Go p e below P T' (mkF m pc' ls (.ref x :: st))) : Go p e below P T (mkF m pc ls st) := by
  subst hp
  refine W.make (B := fun h' => Exa Z h' h.size C ∧ ∀ {O nm d : String} {ty : FieldType}, Laid Z a0 C O nm d → parseFieldDescriptor d = some ty → Fld Z h' h.size O nm d (defaultValue ty)) (fun X hZ hown eT => ?_) (fun T' h' => K h.size T' h' (Nat.le_refl _))
  obtain ⟨T', h', X', e1, E, A, D, -, st⟩ := newO X W.hx hZ hown w wi wz eT (g := mkF m pc ls st) rfl hd hc hl
  exact ⟨T', h', X', e1, E, A.lt, ⟨A, D⟩, st⟩
/-- an array whose components are these -/
def Ali (Z : State) (h : Heap) (a : Addr) (ty : FieldType) (vs : List Value) : Prop := ∃ cell : Cell, Arr Z h a cell ty ∧ cell.slots.toList = vs ∧ vs.length < 2 ^ 31
theorem Ali.lt {a : Addr} {ty : FieldType} {vs : List Value} (A : Ali Z h a ty vs) : a < h.size := by obtain ⟨c, q, -⟩ := A; exact q.lt
theorem Ali.ext {a : Addr} {ty : FieldType} {vs : List Value} (E : Ext h h') (A : Ali Z h a ty vs) : Ali Z h' a ty vs := by obtain ⟨c, q, r⟩ := A; exact ⟨c, q.ext E, r⟩
theorem Ali.keep {a : Addr} {ty : FieldType} {vs : List Value} {ws : List Addr} (K : Keep h h' ws) (q : a ∉ ws) (A : Ali Z h a ty vs) : Ali Z h' a ty vs := by obtain ⟨c, r, t⟩ := A; exact ⟨c, ⟨K.2.1 _ _ r.1 q, r.2⟩, t⟩
theorem Ali.wok {a : Addr} {ty : FieldType} {vs : List Value} (A : Ali Z h a ty vs) (ht : ty ≠ .byte) (q : Z.heap.size ≤ a) : Wok Z F h a := by obtain ⟨c, r, -⟩ := A; exact ⟨q, Or.inr (Or.inr ⟨c, ty, r, ht⟩)⟩
theorem g_newarray (W : Wd p l e R s m args below meth c Z a0 EL own F T h k n) {pc pc' : Nat} {ls : Array Slot} {st : List Value} {aty : ArrayType} {ty : FieldType} (ht : newarray.typeOf aty = ty) {z : Int32} {i : Nat} (hz : ¬ z < 0) (hi : z.toNatClampNeg = i) (w : (Jvm.Cond.arrayClass ty).before a0 Z = true)
    (hd : decode c.code pc = .ok (.newarray aty, 2)) (hp : pc + 2 = pc') {cap : Nat} (hcap : i ≤ cap) (hb : cap * 8 ≤ 536870912) (hc : k + 1 ≤ R.cells) (hl : n + cap ≤ R.slots)
    (K : ∀ x T' h', h.size ≤ x → Wd p l e R s m args below meth c Z a0 EL own (x :: F) T' h' (k + 1) (n + cap) → Ext h h' → Ali Z h' x ty (List.replicate i (defaultValue ty)) → Go p e below P T' (mkF m pc' ls (.ref x :: st))) : Go p e below P T (mkF m pc ls (.int z :: st)) := by
  subst hp ht
  refine W.make (B := fun h' => Ali Z h' h.size (newarray.typeOf aty) (List.replicate i (defaultValue (newarray.typeOf aty)))) (fun X hZ hown eT => ?_) (fun T' h' => K h.size T' h' (Nat.le_refl _))
  obtain ⟨T', h', cA, X', e1, E, A, st⟩ := newP X W.hx hZ w eT (g := mkF m pc ls (.int z :: st)) rfl hd rfl hz (by rw [hi]; exact hcap) hb hc hl
  refine ⟨T', h', X', e1, E, A.lt, ⟨_, A, by simp [newA, hi], ?_⟩, st⟩
  rw [List.length_replicate]
  have := (back32 hz).2
  omega
theorem Ali.get {a : Addr} {ty : FieldType} {vs : List Value} (A : Ali Z h a ty vs) : ∃ cell : Cell, Arr Z h a cell ty ∧ cell.slots.size = vs.length ∧ ∀ i : Nat, cell.slots[i]? = vs[i]? := by
  obtain ⟨c, A, rfl, -⟩ := A
  exact ⟨c, A, by simp, fun i => by simp⟩
theorem Ali.set {a : Addr} {ty : FieldType} {vs : List Value} {i : Nat} {v : Value} (A : Ali Z h a ty vs) (W : Wr h h' a i v) : Ali Z h' a ty (vs.set i v) := by
  obtain ⟨c, A, rfl, q⟩ := A
  exact ⟨_, A.same W, by simp [Cell.setSlot], by simpa using q⟩
theorem g_castore (W : Wd p l e R s m args below meth c Z a0 EL own F T h k n) {pc pc' : Nat} {ls : Array Slot} {st : List Value} {a : Addr} {cs : List Int32} (A : Ali Z h a .char (cs.map Value.int)) (q : Z.heap.size ≤ a) {j x : Int32} {i : Nat} (hj : ¬ j < 0) (hi : j.toNatClampNeg = i) (hlt : i < cs.length) (hx0 : ¬ x < 0) (hx1 : ¬ 65535 < x)
    (hd : decode c.code pc = .ok (.castore, 1)) (hp : pc + 1 = pc')
    (K : ∀ T' h', Wd p l e R s m args below meth c Z a0 EL own F T' h' k n → Keep h h' [a] → Ali Z h' a .char ((cs.set i x).map Value.int) → Go p e below P T' (mkF m pc' ls st)) : Go p e below P T (mkF m pc ls (.int x :: .int j :: .ref a :: st)) := by
  subst hp
  obtain ⟨cell, A1, hsz, -⟩ := A.get
  have hn : nar .char x = x := by
    have := c_i2c x
    apply Int32.toInt_inj.mp
    have r := rng32 x
    rw [Int32.lt_iff_toInt_lt] at hx0 hx1
    have e0 : (0 : Int32).toInt = 0 := rfl
    have e1 : (65535 : Int32).toInt = 65535 := rfl
    show x.toUInt32.toUInt16.toUInt32.toInt32.toInt = x.toInt
    omega
  refine W.write (a := a) (sl := i) (v := .int x) (A.wok (by decide) q) (fun X hZ hown eT => ?_) (fun T' h' W' Wr1 => K T' h' W' (Keep.of_wr Wr1) (by rw [List.map_set]; exact A.set Wr1))
  obtain ⟨T', h', X', e1, W1, st⟩ := stC X W.hx hZ eT A1 (j := j) (x := x) (by rw [hsz, hi]; simp only [List.length_map]; exact fun r => r.elim hj (by omega)) (g := mkF m pc ls (.int x :: .int j :: .ref a :: st)) rfl rfl hd
  rw [hi] at X' W1
  rw [hn] at W1
  exact ⟨T', h', X', e1, W1, st⟩
theorem g_caload (W : Wd p l e R s m args below meth c Z a0 EL own F T h k n) {pc pc' : Nat} {ls : Array Slot} {st : List Value} {a : Addr} {cs : List Int32} (A : Ali Z h a .char (cs.map Value.int)) {j : Int32} {i : Nat} (hj : ¬ j < 0) (hi : j.toNatClampNeg = i) (hlt : i < cs.length)
    (hd : decode c.code pc = .ok (.caload, 1)) (hp : pc + 1 = pc') (K : Go p e below P T (mkF m pc' ls (.int (cs.getD i 0) :: st))) : Go p e below P T (mkF m pc ls (.int j :: .ref a :: st)) := by
  subst hp
  obtain ⟨cell, A1, hsz, hget⟩ := A.get
  obtain ⟨w1, w2, w3, w4, vm0, k0, locs, X, hZ, hown, rfl, r⟩ := W
  refine K.st fun t q => X.caload w1 A1.1 (State.isArrayOf_alike (s := Z) hZ.alike A1.2.1) A1.2.2 (j := j) (by rw [hsz, hi]; simp only [List.length_map]; exact fun r => r.elim hj (by omega)) (v := .int (cs.getD i 0)) (by rw [hi, hget]; simp [hlt]) (g := mkF m pc ls (.int j :: .ref a :: st)) rfl rfl hd t q
theorem g_arraylength (W : Wd p l e R s m args below meth c Z a0 EL own F T h k n) {pc pc' : Nat} {ls : Array Slot} {st : List Value} {a : Addr} {ty : FieldType} {vs : List Value} (A : Ali Z h a ty vs) {z : Int32} (hz : Int32.ofNat vs.length = z)
    (hd : decode c.code pc = .ok (.arraylength, 1)) (hp : pc + 1 = pc') (K : Go p e below P T (mkF m pc' ls (.int z :: st))) : Go p e below P T (mkF m pc ls (.ref a :: st)) := by
  subst hp hz
  obtain ⟨cell, A1, hsz, hget⟩ := A.get
  obtain ⟨w1, w2, w3, w4, vm0, k0, locs, X, hZ, hown, rfl, r⟩ := W
  refine K.st fun t q => X.arraylength w1 A1.1 (State.isArrayOf_alike (s := Z) hZ.alike A1.2.1) (g := mkF m pc ls (.ref a :: st)) rfl rfl hd t (by rw [hsz]; exact q)
theorem g_initO (W : Wd p l e R s m args below meth c Z a0 EL own F T h k n) {pc pc' : Nat} {ls : Array Slot} {st : List Value} {a : Addr} {index : Nat} (w1 : (Jvm.Cond.methodLink own index Lib.objectInit).before a0 Z = true) (w2 : (Jvm.Cond.instanceMethod Lib.objectInit).before a0 Z = true) (w3 : (Jvm.Cond.code Lib.objectInit ⟨#[0xb1]⟩ 1 none).before a0 Z = true) (hsz : ls.size = c.maxLocals)
    (hd : decode c.code pc = .ok (.invokespecial index, 3)) (hp : pc + 3 = pc') (hf : 1 ≤ R.frames) {Wn : Nat} (hW : (st.map fun v => v.category).sum ≤ Wn) (hl : Wn + 12 ≤ R.locals) (K : ∀ T', Wd p l e R s m args below meth c Z a0 EL own F T' h k n → Go p e below P T' (mkF m pc' ls st)) : Go p e below P T (mkF m pc ls (.ref a :: st)) := by
  subst hp
  exact W.grow (fun X hZ hown eT => initO X W.hx hZ hown w1 w2 w3 eT (g := mkF m pc ls (.ref a :: st)) rfl hsz rfl hd hf (by simpa using hW) hl) (ext_refl h) K
/-! calls by contract -/
theorem Met.back {F' : List Addr} {y : MethodName} {bytes : ByteArray} {maxL : Nat} {ret : Option FieldType} {rm : Room} {as' : Array Value} {Q : Option Value → Heap → Prop} (hM : Met l Z EL F' y bytes maxL ret rm as' h Q) {vm0 : Vm} {len Wn : Nat}
    (hZ : Z.Warmed39 vm0) (wc : (Jvm.Cond.code y bytes maxL ret).before a0 Z = true) (wz : (Jvm.Cond.initialized y.cls).before a0 Z = true) (hf : rm.frames + 1 ≤ R.frames) (hl : Wn + (maxL + 11) + rm.locals ≤ R.locals) (hEL : EW Z a0 EL) (H : CHv Z EL vm0 h) (hF : ∀ x ∈ F', x < h.size ∧ Safe Z EL vm0 h x) :
    BackS l R p e below (s.setVm vm0) args y len Wn (fun A a => a = as' ∧ A.U.heap = h ∧ A.cells + rm.cells ≤ R.cells ∧ A.slots + rm.slots ≤ R.slots)
      (fun A _ v B => ∃ L, (Q v B.U.heap ∧ Fr Z.heap.size L ∧ Ext Z.heap B.U.heap) ∧ B.locs = A.locs ++ L ∧ B.cells = A.cells + rm.cells ∧ B.slots = A.slots + rm.slots ∧ CHr Z EL vm0 h B.U.vm B.U.heap) :=
  BackS.of_freeW (bytes := bytes) (maxL := maxL) (ret := ret) (E := fun _ first o t L k n => k = rm.cells ∧ n = rm.slots ∧ (∃ v, o = .returned v ∧ Q v t.heap ∧ Fr Z.heap.size L ∧ Ext Z.heap t.heap) ∧ CHr Z EL first.vm first.heap t.vm t.heap) hM hf hl
    (fun m meth c A a Y hp => have hU : Z.Warmed39 A.U.vm := wtrans (s := s.setVm vm0) hZ Y.warmed
      ⟨by show (Jvm.Cond.and _ .tt).before a A.U = true; rw [Cond.before_and, mv hU wc]; rfl, mv hU wc, mv hU wz, hp.2.2.1, hp.2.2.2⟩)
    (fun m meth c A a g mk Y hp => ⟨hp.1, wtrans (s := s.setVm vm0) hZ Y.warmed, hp.2.1, (CHv.at Y hZ hEL H).1, fun x q => ⟨(hF x q).1, (CHv.at Y hZ hEL H).safe (hF x q).1 (hF x q).2⟩⟩) (fun _ _ _ _ _ _ _ _ _ => trivial)
    (fun _ _ _ _ ⟨v, L, h1, h2, h3, h4⟩ => ⟨L, _, _, h4, rfl, rfl, ⟨v, h1, h2⟩, h3⟩)
    (fun m meth c A a g mk v t L k n Y hp _ _ ⟨e1, e2, ⟨v', e3, e4⟩, e5⟩ => by
      cases e3; subst e1 e2
      refine ⟨L, e4, rfl, rfl, rfl, (CHv.at Y hZ hEL H).trans ?_⟩
      rw [← hp.2.1]; exact e5)
theorem wd_after (w1 : p.tables.exec = Jvm.exec) (w3 : EW Z a0 EL) (w4 : meth.locks = false) {vm0 : Vm} {k0 : Nat} {locs L : List Loc} {B : Pt} (hZ : Z.Warmed39 vm0) (hown : vm0.findClass own = some m.cls) (hS : s.Since vm0 k0) (hk : k0 ≤ h.size) (hC : CHr Z EL s.vm s.heap vm0 h) (hN : Fr Z.heap.size locs)
    (hF : ∀ x ∈ F, x < h.size ∧ Safe Z EL vm0 h x) (X' : Stand p l e R ((s.setVm vm0).setVm B.U.vm) m args below meth c B.U B.locs B.cells B.slots) (hS' : (s.setVm vm0).Since B.U.vm B.U.heap.size) (hg : h.size ≤ B.U.heap.size) (hNL : Fr Z.heap.size L) (hO : Ext Z.heap B.U.heap) (hl : B.locs = locs ++ L)
    (hc' : CHr Z EL vm0 h B.U.vm B.U.heap) : Wd p l e R s m args below meth c Z a0 EL own F B.U B.U.heap B.cells B.slots :=
  ⟨w1, hO, w3, w4, B.U.vm, B.U.heap.size, B.locs, X', State.Warmed39.trans (t := s.setVm vm0) hZ hS'.1, (hS'.1.alike.findClass _ _).trans hown, rfl, hS.trans hS' (Nat.le_trans hk hg), Nat.le_refl _, hC.trans hc', hl ▸ hN.app hNL, fun x q => ⟨Nat.lt_of_lt_of_le (hF x q).1 hg, hc'.safe (hF x q).1 (hF x q).2⟩⟩
/-- a value comes back -/
def Ret (Q : Value → Heap → Prop) (v : Option Value) (h : Heap) : Prop := ∃ w, v = some w ∧ Q w h
def Void (Q : Heap → Prop) (v : Option Value) (h : Heap) : Prop := v = none ∧ Q h
theorem g_callSO (W : Wd p l e R s m args below meth c Z a0 EL own F T h k n) {F' : List Addr} {y : MethodName} {bytes : ByteArray} {maxL : Nat} {ret : Option FieldType} {rm : Room} {as' : Array Value} {Q : Option Value → Heap → Prop} (hM : Met l Z EL F' y bytes maxL ret rm as' h Q) (hF' : ∀ x ∈ F', x ∈ F) {index : Nat}
    (v1 : (Jvm.Cond.methodLink own index y).before a0 Z = true) (v2 : (Jvm.Cond.static y).before a0 Z = true) (v3 : (Jvm.Cond.initialized y.cls).before a0 Z = true) (v4 : (Jvm.Cond.code y bytes maxL ret).before a0 Z = true) (hy : y.cls ≠ "java/lang/invoke/MethodHandle" ∧ y.cls ≠ "java/lang/invoke/VarHandle")
    {ps : List FieldType} {rt : Option FieldType} (pd : parseMethodDescriptor y.desc = some ⟨ps, rt⟩) {argsL : List Value} (has : argsL.toArray = as') (hal : argsL.length = ps.length) {pc pc' : Nat} {ls : Array Slot} {st rest : List Value} (hst : st = argsL.reverse ++ rest) (hsz : ls.size = c.maxLocals)
    (hd : decode c.code pc = .ok (.invokestatic index, 3)) (hp : pc + 3 = pc') {Wn : Nat} (hW : (rest.map fun v => v.category).sum ≤ Wn) (hf : rm.frames + 1 ≤ R.frames) (hl : Wn + (maxL + 11) + rm.locals ≤ R.locals) (hc : k + rm.cells ≤ R.cells) (hs : n + rm.slots ≤ R.slots)
    (K : ∀ v T' h', Wd p l e R s m args below meth c Z a0 EL own F T' h' (k + rm.cells) (n + rm.slots) → h.size ≤ h'.size → Q v h' → Go p e below P T' (mkF m pc' ls (v.toList ++ rest))) : Go p e below P T (mkF m pc ls st) := by
  subst hp hst has
  obtain ⟨w1, w2, w3, w4, vm0, k0, locs, X, hZ, hown, eT, hS, hk, hC, hN, hF⟩ := W
  obtain ⟨v, vm1, B, hw1, X', hS', hg, ⟨L, ⟨q1, q2, q3⟩, r1, r2, r3, r4⟩, st⟩ := callSS X w1 (own := own) hown (mvT (s := s.setVm vm0) hZ v1) (mvT (s := s.setVm vm0) hZ v2) (mvT (s := s.setVm vm0) hZ v3) (mvT (s := s.setVm vm0) hZ v4) hy (Met.back hM hZ v4 v3 hf hl w3 hC.1 (fun x q => hF x (hF' x q))) (g := mkF m pc ls (argsL.reverse ++ rest)) rfl hsz (argsL := argsL) (rest := rest) (lenOf pd hal) rfl (by simpa using hW) hd (fun _ _ => ⟨rfl, eT, hc, hs⟩)
  rw [eT] at hg
  have W' := wd_after (B := B) w1 w3 w4 hZ hown hS hk hC hN hF X' hS' hg q2 q3 r1 r4
  simp only [Pt.cells, Pt.slots] at W' r2 r3
  rw [r2, r3] at W'
  exact (K v B.U _ W' hg q1).tr st
theorem g_callS (W : Wd p l e R s m args below meth c Z a0 EL own F T h k n) {F' : List Addr} {y : MethodName} {bytes : ByteArray} {maxL : Nat} {ret : Option FieldType} {rm : Room} {as' : Array Value} {Q : Value → Heap → Prop} (hM : Met l Z EL F' y bytes maxL ret rm as' h (Ret Q)) (hF' : ∀ x ∈ F', x ∈ F) {index : Nat}
    (v1 : (Jvm.Cond.methodLink own index y).before a0 Z = true) (v2 : (Jvm.Cond.static y).before a0 Z = true) (v3 : (Jvm.Cond.initialized y.cls).before a0 Z = true) (v4 : (Jvm.Cond.code y bytes maxL ret).before a0 Z = true) (hy : y.cls ≠ "java/lang/invoke/MethodHandle" ∧ y.cls ≠ "java/lang/invoke/VarHandle")
    {ps : List FieldType} {rt : Option FieldType} (pd : parseMethodDescriptor y.desc = some ⟨ps, rt⟩) {argsL : List Value} (has : argsL.toArray = as') (hal : argsL.length = ps.length) {pc pc' : Nat} {ls : Array Slot} {st rest : List Value} (hst : st = argsL.reverse ++ rest) (hsz : ls.size = c.maxLocals)
    (hd : decode c.code pc = .ok (.invokestatic index, 3)) (hp : pc + 3 = pc') {Wn : Nat} (hW : (rest.map fun v => v.category).sum ≤ Wn) (hf : rm.frames + 1 ≤ R.frames) (hl : Wn + (maxL + 11) + rm.locals ≤ R.locals) (hc : k + rm.cells ≤ R.cells) (hs : n + rm.slots ≤ R.slots)
    (K : ∀ v T' h', Wd p l e R s m args below meth c Z a0 EL own F T' h' (k + rm.cells) (n + rm.slots) → h.size ≤ h'.size → Q v h' → Go p e below P T' (mkF m pc' ls (v :: rest))) : Go p e below P T (mkF m pc ls st) :=
  g_callSO W hM hF' v1 v2 v3 v4 hy pd has hal hst hsz hd hp hW hf hl hc hs fun v T' h' W' hg q => by
    obtain ⟨w, rfl, q⟩ := q
    exact K w T' h' W' hg q
theorem g_spec (W : Wd p l e R s m args below meth c Z a0 EL own F T h k n) {F' : List Addr} {y : MethodName} {bytes : ByteArray} {maxL : Nat} {rm : Room} {as' : Array Value} {Q : Heap → Prop} (hM : Met l Z EL F' y bytes maxL none rm as' h (Void Q)) (hF' : ∀ x ∈ F', x ∈ F) {index : Nat} (hy1 : y.name = "<init>")
    (v1 : (Jvm.Cond.methodLink own index y).before a0 Z = true) (v2 : (Jvm.Cond.instanceMethod y).before a0 Z = true) (v3 : (Jvm.Cond.initialized y.cls).before a0 Z = true) (v4 : (Jvm.Cond.code y bytes maxL none).before a0 Z = true) (hy : y.cls ≠ "java/lang/invoke/MethodHandle" ∧ y.cls ≠ "java/lang/invoke/VarHandle")
    {ps : List FieldType} {rt : Option FieldType} (pd : parseMethodDescriptor y.desc = some ⟨ps, rt⟩) {a : Addr} {argsL : List Value} (has : (.ref a :: argsL).toArray = as') (hal : argsL.length = ps.length) {pc pc' : Nat} {ls : Array Slot} {st rest : List Value} (hst : st = argsL.reverse ++ .ref a :: rest) (hsz : ls.size = c.maxLocals)
    (hd : decode c.code pc = .ok (.invokespecial index, 3)) (hp : pc + 3 = pc') {Wn : Nat} (hW : (rest.map fun v => v.category).sum ≤ Wn) (hf : rm.frames + 1 ≤ R.frames) (hl : Wn + (maxL + 11) + rm.locals ≤ R.locals) (hc : k + rm.cells ≤ R.cells) (hs : n + rm.slots ≤ R.slots)
    (K : ∀ T' h', Wd p l e R s m args below meth c Z a0 EL own F T' h' (k + rm.cells) (n + rm.slots) → h.size ≤ h'.size → Q h' → Go p e below P T' (mkF m pc' ls rest)) : Go p e below P T (mkF m pc ls st) := by
  subst hp hst has
  obtain ⟨w1, w2, w3, w4, vm0, k0, locs, X, hZ, hown, eT, hS, hk, hC, hN, hF⟩ := W
  obtain ⟨v, vm1, B, hw1, X', hS', hg, ⟨L, ⟨q1, q2, q3⟩, r1, r2, r3, r4⟩, st⟩ := X.specialBackS w1 (own := own) hy1 hown (mvT (s := s.setVm vm0) hZ v1) (mvT (s := s.setVm vm0) hZ v2) (mvT (s := s.setVm vm0) hZ v4) hy (Met.back hM hZ v4 v3 hf hl w3 hC.1 (fun x q => hF x (hF' x q))) (g := mkF m pc ls (argsL.reverse ++ .ref a :: rest)) rfl hsz (Steps.refl _) (a := a) (argsL := argsL) (rest := rest) (lenOf pd hal) rfl (by simpa using hW) hd (fun _ _ => ⟨rfl, eT, hc, hs⟩)
  rw [eT] at hg
  have W' := wd_after (B := B) w1 w3 w4 hZ hown hS hk hC hN hF X' hS' hg q2 q3 r1 r4
  simp only [Pt.cells, Pt.slots] at W' r2 r3
  rw [r2, r3] at W'
  obtain ⟨rfl, q1⟩ := q1
  exact (K B.U _ W' hg q1).tr st
theorem g_virtO (W : Wd p l e R s m args below meth c Z a0 EL own F T h k n) {F' : List Addr} {y z : MethodName} {C : String} {bytes : ByteArray} {maxL : Nat} {ret : Option FieldType} {rm : Room} {as' : Array Value} {Q : Option Value → Heap → Prop} (hM : Met l Z EL F' z bytes maxL ret rm as' h Q) (hF' : ∀ x ∈ F', x ∈ F) (hyz : z = y) {index : Nat}
    (v1 : (Jvm.Cond.methodLink own index y).before a0 Z = true) (v2 : (Jvm.Cond.declares y).before a0 Z = true) (v5 : (Jvm.Cond.selects C y z).before a0 Z = true) (v6 : (Jvm.Cond.instanceMethod z).before a0 Z = true) (v3 : (Jvm.Cond.initialized z.cls).before a0 Z = true) (v4 : (Jvm.Cond.code z bytes maxL ret).before a0 Z = true) (hy : y.cls ≠ "java/lang/invoke/MethodHandle" ∧ y.cls ≠ "java/lang/invoke/VarHandle")
    {ps : List FieldType} {rt : Option FieldType} (pd : parseMethodDescriptor y.desc = some ⟨ps, rt⟩) {a : Addr} (E : Exa Z h a C) {argsL : List Value} (has : (.ref a :: argsL).toArray = as') (hal : argsL.length = ps.length) {pc pc' : Nat} {ls : Array Slot} {st rest : List Value} (hst : st = argsL.reverse ++ .ref a :: rest) (hsz : ls.size = c.maxLocals)
    (hd : decode c.code pc = .ok (.invokevirtual index, 3)) (hp : pc + 3 = pc') {Wn : Nat} (hW : (rest.map fun v => v.category).sum ≤ Wn) (hf : rm.frames + 1 ≤ R.frames) (hl : Wn + (maxL + 11) + rm.locals ≤ R.locals) (hc : k + rm.cells ≤ R.cells) (hs : n + rm.slots ≤ R.slots)
    (K : ∀ v T' h', Wd p l e R s m args below meth c Z a0 EL own F T' h' (k + rm.cells) (n + rm.slots) → h.size ≤ h'.size → Q v h' → Go p e below P T' (mkF m pc' ls (v.toList ++ rest))) : Go p e below P T (mkF m pc ls st) := by
  subst hp hst has hyz
  obtain ⟨w1, w2, w3, w4, vm0, k0, locs, X, hZ, hown, eT, hS, hk, hC, hN, hF⟩ := W
  obtain ⟨cq, kq, qa, qb, qc⟩ := isOf (s := s.setVm vm0) hZ eT E
  obtain ⟨v, vm1, B, hw1, X', hS', hg, ⟨L, ⟨q1, q2, q3⟩, r1, r2, r3, r4⟩, st⟩ := X.virtualBackS w1 (own := own) (y := z) (z := z) hown (mvT (s := s.setVm vm0) hZ v1) (mvT (s := s.setVm vm0) hZ v2) (notFace_of_selects (args := #[]) (mvT (s := s.setVm vm0) hZ v5)) (mvT (s := s.setVm vm0) hZ v5) (mvT (s := s.setVm vm0) hZ v6) hy (Met.back hM hZ v4 v3 hf hl w3 hC.1 (fun x q => hF x (hF' x q))) qa qc (g := mkF m pc ls (argsL.reverse ++ .ref a :: rest)) rfl hsz (Steps.refl _) (argsL := argsL) (rest := rest) (lenOf pd hal) rfl (by simpa using hW) hd (fun _ _ => ⟨rfl, eT, hc, hs⟩)
  rw [eT] at hg
  have W' := wd_after (B := B) w1 w3 w4 hZ hown hS hk hC hN hF X' hS' hg q2 q3 r1 r4
  simp only [Pt.cells, Pt.slots] at W' r2 r3
  rw [r2, r3] at W'
  exact (K v B.U _ W' hg q1).tr st
theorem g_virt (W : Wd p l e R s m args below meth c Z a0 EL own F T h k n) {F' : List Addr} {y z : MethodName} {C : String} {bytes : ByteArray} {maxL : Nat} {ret : Option FieldType} {rm : Room} {as' : Array Value} {Q : Value → Heap → Prop} (hM : Met l Z EL F' z bytes maxL ret rm as' h (Ret Q)) (hF' : ∀ x ∈ F', x ∈ F) (hyz : z = y) {index : Nat}
    (v1 : (Jvm.Cond.methodLink own index y).before a0 Z = true) (v2 : (Jvm.Cond.declares y).before a0 Z = true) (v5 : (Jvm.Cond.selects C y z).before a0 Z = true) (v6 : (Jvm.Cond.instanceMethod z).before a0 Z = true) (v3 : (Jvm.Cond.initialized z.cls).before a0 Z = true) (v4 : (Jvm.Cond.code z bytes maxL ret).before a0 Z = true) (hy : y.cls ≠ "java/lang/invoke/MethodHandle" ∧ y.cls ≠ "java/lang/invoke/VarHandle")
    {ps : List FieldType} {rt : Option FieldType} (pd : parseMethodDescriptor y.desc = some ⟨ps, rt⟩) {a : Addr} (E : Exa Z h a C) {argsL : List Value} (has : (.ref a :: argsL).toArray = as') (hal : argsL.length = ps.length) {pc pc' : Nat} {ls : Array Slot} {st rest : List Value} (hst : st = argsL.reverse ++ .ref a :: rest) (hsz : ls.size = c.maxLocals)
    (hd : decode c.code pc = .ok (.invokevirtual index, 3)) (hp : pc + 3 = pc') {Wn : Nat} (hW : (rest.map fun v => v.category).sum ≤ Wn) (hf : rm.frames + 1 ≤ R.frames) (hl : Wn + (maxL + 11) + rm.locals ≤ R.locals) (hc : k + rm.cells ≤ R.cells) (hs : n + rm.slots ≤ R.slots)
    (K : ∀ v T' h', Wd p l e R s m args below meth c Z a0 EL own F T' h' (k + rm.cells) (n + rm.slots) → h.size ≤ h'.size → Q v h' → Go p e below P T' (mkF m pc' ls (v :: rest))) : Go p e below P T (mkF m pc ls st) :=
  g_virtO W hM hF' hyz v1 v2 v5 v6 v3 v4 hy pd E has hal hst hsz hd hp hW hf hl hc hs fun v T' h' W' hg q => by
    obtain ⟨w, rfl, q⟩ := q
    exact K w T' h' W' hg q
end OwnC
/-! own kit, part D: Strings of Latin-1 chars -/
section OwnD
variable {p : Program} {l : Launch} {e : Env} {R : Room} {s : State} {m : MethodId} {args : Array Value} {below : List Frame} {meth : Method} {c : Code} {T T' : State} {h h' : Heap} {Z : State} {a0 : Array Value} {EL : List (String × Nat)} {own : String} {k n : Nat} {P : Outcome → State → Prop} {F : List Addr}
theorem own_n32 {n : Nat} (q : n < 2 ^ 31) : (Int32.ofNat n).toNatClampNeg = n := by
  have e : (Int32.ofNat n).toInt = n := Int32.toInt_ofNat_small q
  simp [Int32.toNatClampNeg, e]
theorem own_n0 {n : Nat} (q : n < 2 ^ 31) : ¬ Int32.ofNat n < 0 := by
  rw [Int32.lt_iff_toInt_lt, Int32.toInt_ofNat_small q]
  have e0 : (0 : Int32).toInt = 0 := rfl
  omega
/-- the low byte, signed -/
def lo (x : Int32) : Int32 := x.toInt8.toInt32
def Latin (cs : List Int32) : Prop := ∀ c ∈ cs, ¬ c < 0 ∧ ¬ (255 : Int32) < c
def Str (Z : State) (h : Heap) (a : Addr) (cs : List Int32) : Prop :=
  Exa Z h a "java/lang/String" ∧ Fld Z h a "java/lang/String" "coder" "B" (.int 0) ∧ (∃ t, Fld Z h a "java/lang/String" "value" "[B" (.ref t) ∧ Ali Z h t .byte ((cs.map lo).map Value.int)) ∧ Latin cs ∧ cs.length ≤ 4000
theorem Ali.of_arv {a : Addr} {kk : ClassId} {ty : FieldType} {z : Int32} {vs : List Value} {d : Value} (A : Arv Z h a kk ty z vs d) (hl : z.toNatClampNeg = vs.length) : Ali Z h a ty vs := by
  obtain ⟨c, A, -, S, hz, H, -⟩ := A
  refine ⟨c, A, ?_, ?_⟩
  · apply List.ext_getElem?
    intro i
    rw [Array.getElem?_toList]
    rcases Nat.lt_or_ge i vs.length with q | q
    · rw [H i (by omega)]; simp [q]
    · rw [List.getElem?_eq_none q, Array.getElem?_eq_none (by omega)]
  · have := (back32 hz).2; omega
theorem Ali.arv {a : Addr} {ty : FieldType} {vs : List Value} {d : Value} {z : Int32} (A : Ali Z h a ty vs) (hf : ∀ v ∈ vs, fits ty v = true) (hz : z = Int32.ofNat vs.length) : ∃ kk, Arv Z h a kk ty z vs d := by
  obtain ⟨c, A, rfl, q⟩ := A
  subst hz
  simp only [Array.length_toList] at q hf
  refine ⟨c.cls, c, A, rfl, by rw [Array.length_toList, own_n32 q], by rw [Array.length_toList]; exact own_n0 q, fun i hi => by simp [hi], fun i hi => ?_⟩
  have e : c.slots.toList.getD i d = c.slots[i] := by simp [hi]
  rw [e]
  exact hf _ (by simp)
theorem fits_lo (x : Int32) : fits .byte (.int (lo x)) = true := fits_nar_byte x
theorem Latin.lit {cs : List Int32} (q : Latin cs) : ∀ c ∈ cs, ¬ c < 0 ∧ ¬ (65535 : Int32) < c := fun c hc => ⟨(q c hc).1, fun r => (q c hc).2 (by
  rw [Int32.lt_iff_toInt_lt] at r ⊢
  have e0 : (255 : Int32).toInt = 255 := rfl
  have e1 : (65535 : Int32).toInt = 65535 := rfl
  omega)⟩
theorem Latin.nil : Latin [] := fun _ q => nomatch q
theorem Latin.cons {x : Int32} {cs : List Int32} (q0 : ¬ x < 0) (q1 : ¬ 255 < x) (r : Latin cs) : Latin (x :: cs) := fun c hc => (List.mem_cons.mp hc).elim (fun e => e ▸ ⟨q0, q1⟩) (r c)
theorem fits_chr {x : Int32} (q0 : ¬ x < 0) (q1 : ¬ 65535 < x) : fits .char (.int x) = true := by
  simp only [fits, Bool.and_eq_true, decide_eq_true_eq]
  exact ⟨Int32.not_lt.mp q0, Int32.not_lt.mp q1⟩
theorem Str.ext {a : Addr} {cs : List Int32} (E : Ext h h') (S : Str Z h a cs) : Str Z h' a cs := by
  obtain ⟨s1, s2, ⟨t, s3, s4⟩, r⟩ := S
  exact ⟨s1.ext E, s2.ext E, ⟨t, s3.ext E, s4.ext E⟩, r⟩
theorem Str.lt {a : Addr} {cs : List Int32} (S : Str Z h a cs) : a < h.size := S.1.lt
theorem arr_neT {a b : Addr} {t1 t2 : FieldType} {c1 c2 : Cell} (A : Arr Z h a c1 t1) (B : Arr Z h b c2 t2) (q : t1 ≠ t2) : a ≠ b := fun e => by
  subst e
  cases A.1.symm.trans B.1
  obtain ⟨-, k1, a1, comp1, a2⟩ := A.2.1
  obtain ⟨-, k2, b1, comp2, b2⟩ := B.2.1
  cases a1.symm.trans b1
  rw [a2] at b2
  injection b2 with _ r
  exact q r
theorem Ali.wr {a b : Addr} {ty : FieldType} {vs : List Value} {sl : Nat} {v : Value} (W : Wr h h' b sl v) (q : a ≠ b) (A : Ali Z h a ty vs) : Ali Z h' a ty vs := by obtain ⟨c, r, t⟩ := A; exact ⟨c, r.other W q, t⟩
theorem Ali.neE {x a : Addr} {ty : FieldType} {vs : List Value} {C : String} {nn : Nat} (A : Ali Z h a ty vs) (E : Exa Z h x C) (wi : (Jvm.Cond.instantiable C nn).before a0 Z = true) : a ≠ x := by obtain ⟨c, r, -⟩ := A; exact (ne_arr E wi r).symm
theorem Ali.neA {a b : Addr} {t1 t2 : FieldType} {vs us : List Value} (A : Ali Z h a t1 vs) (B : Ali Z h b t2 us) (q : t1 ≠ t2) : a ≠ b := by obtain ⟨c, r, -⟩ := A; obtain ⟨d, u, -⟩ := B; exact arr_neT r u q
theorem lo_lo (x : Int32) : lo (lo x) = lo x := by
  show x.toInt8.toInt32.toInt8.toInt32 = x.toInt8.toInt32
  rw [Int8.toInt8_toInt32]
theorem g_bastore (W : Wd p l e R s m args below meth c Z a0 EL own F T h k n) {pc pc' : Nat} {ls : Array Slot} {st : List Value} {a : Addr} {bs : List Int32} (A : Ali Z h a .byte (bs.map Value.int)) (q : Z.heap.size ≤ a) (hF : a ∈ F) {j x : Int32} {i : Nat} (hj : ¬ j < 0) (hi : j.toNatClampNeg = i) (hlt : i < bs.length)
    (hd : decode c.code pc = .ok (.bastore, 1)) (hp : pc + 1 = pc')
    (K : ∀ T' h', Wd p l e R s m args below meth c Z a0 EL own F T' h' k n → Keep h h' [a] → Ali Z h' a .byte ((bs.set i (lo x)).map Value.int) → Go p e below P T' (mkF m pc' ls st)) : Go p e below P T (mkF m pc ls (.int x :: .int j :: .ref a :: st)) := by
  subst hp
  obtain ⟨cell, A1, hsz, -⟩ := A.get
  refine W.write (a := a) (sl := i) (v := .int (lo x)) ⟨q, Or.inl hF⟩ (fun X hZ hown eT => ?_) (fun T' h' W' Wr1 => K T' h' W' (Keep.of_wr Wr1) (by rw [List.map_set]; exact A.set Wr1))
  obtain ⟨T', h', X', e1, W1, st⟩ := stB X W.hx hZ eT A1 (j := j) (x := x) (by rw [hsz, hi]; simp only [List.length_map]; exact fun r => r.elim hj (by omega)) (g := mkF m pc ls (.int x :: .int j :: .ref a :: st)) rfl rfl hd
  rw [hi] at X' W1
  exact ⟨T', h', X', e1, W1, st⟩
/-- a place that is no part of a String: an array of another kind, or an object of another class -/
def NoStr (Z : State) (a0 : Array Value) (h : Heap) (x : Addr) : Prop := (∃ C nn, Exa Z h x C ∧ C ≠ "java/lang/String" ∧ (Jvm.Cond.instantiable C nn).before a0 Z = true) ∨ ∃ cl ty, Arr Z h x cl ty ∧ ty ≠ .byte
theorem Ali.noStr {x : Addr} {ty : FieldType} {vs : List Value} (A : Ali Z h x ty vs) (ht : ty ≠ .byte) : NoStr Z a0 h x := by obtain ⟨c, r, -⟩ := A; exact Or.inr ⟨c, ty, r, ht⟩
theorem Str.keep {a x : Addr} {cs : List Int32} (wi : (Jvm.Cond.instantiable "java/lang/String" 4).before a0 Z = true) (S : Str Z h a cs) (K : Keep h h' [x]) (q : NoStr Z a0 h x) : Str Z h' a cs := by
  obtain ⟨s1, s2, ⟨t, s3, ⟨ct, s4, s5⟩⟩, r⟩ := S
  have n1 : a ∉ [x] := ninS (by
    rcases q with ⟨C, nn, q1, q2, q3⟩ | ⟨cl, ty, q1, q2⟩
    · exact Exa.ne s1 q1 (Ne.symm q2)
    · exact ne_arr s1 wi q1) nin0
  have n2 : t ∉ [x] := ninS (by
    rcases q with ⟨C, nn, q1, q2, q3⟩ | ⟨cl, ty, q1, q2⟩
    · exact (ne_arr q1 q3 s4).symm
    · exact arr_neT s4 q1 (Ne.symm q2)) nin0
  exact ⟨s1.keep K, s2.keep K n1, ⟨t, s3.keep K n1, Ali.keep K n2 ⟨ct, s4, s5⟩⟩, r⟩
theorem own_new {b : Addr} {h : Heap} (q : h.size ≤ b) : ∀ x ∈ [b], x ∈ ([] : List Addr) ∨ h.size ≤ x := fun x r => Or.inr (by cases List.mem_singleton.mp r; exact q)
/-- ldc of a String constant -/
theorem g_ldcS (W : Wd p l e R s m args below meth c Z a0 EL own F T h k n) {pc pc' : Nat} {ls : Array Slot} {st : List Value} {index : Nat} {text : String} {cs : List Int32} (w : (Jvm.Cond.stringLink own index text).before a0 Z = true) (wS : ∀ a ∈ Bundle.stringAtoms, a.before a0 Z = true) (hmem : (own, index) ∈ EL)
    (ht : (∀ c ∈ text.toList, c.toNat < 256) ∧ text.toList.map (fun c => Value.int (Jvm.Lit.byteI c.toNat.toUInt16)) = (cs.map lo).map Value.int) (hL : Latin cs) (hlen : cs.length ≤ 4000) {nn : Nat} (hn : 4 * text.toList.length ≤ nn) (hbig : nn ≤ 536870912)
    (hd : decode c.code pc = .ok (.ldc index, 2)) (hp : pc + 2 = pc') (hc : k + 2 ≤ R.cells) (hl : n + (nn + 4) ≤ R.slots)
    (K : ∀ a T' h', Wd p l e R s m args below meth c Z a0 EL own F T' h' (k + 2) (n + (nn + 4)) → Ext h h' → Str Z h' a cs → Go p e below P T' (mkF m pc' ls (.ref a :: st))) : Go p e below P T (mkF m pc ls st) := by
  subst hp
  obtain ⟨w1, w2, w3, w4, vm0, k0, locs, X, hZ, hown, eT, hS, hk, hC, hN, hF⟩ := W
  have hz : (Int32.ofNat cs.length).toNatClampNeg = ((cs.map lo).map Value.int).length := by rw [own_n32 (by omega)]; simp
  obtain ⟨a, T', h', k1, b, kb, X', eT', E, hS', hk1, hZ', hown', q1, q2, q3, q4, -, -, hC', -, -, st⟩ := ldcCH X w1 hZ hown w wS eT hS hk w3 hmem hC.1 ht (own_n0 (by omega)) hz (g := mkF m pc ls st) rfl hd hn hbig hc hl
  exact (K a T' h' ⟨w1, ext_trans w2 E, w3, w4, T'.vm, k1, locs, X', hZ', hown', eT', hS', hk1, hC.trans hC', hN, fun x q => ⟨Nat.lt_of_lt_of_le (hF x q).1 E.1, hC'.safe (hF x q).1 (hF x q).2⟩⟩ E ⟨q1, q2, ⟨b, q3, Ali.of_arv q4 hz⟩, hL, hlen⟩).st st
/-- a step over the same tables that keeps all but some cells of the walk's own -/
theorem wd_kept (w1 : p.tables.exec = Jvm.exec) (w2 : Ext Z.heap h) (w3 : EW Z a0 EL) (w4 : meth.locks = false) {vm0 : Vm} {k0 : Nat} {locs L : List Loc} {B : Pt} (hZ : Z.Warmed39 vm0) (hown : vm0.findClass own = some m.cls) (hS : s.Since vm0 k0) (hk : k0 ≤ h.size) (hC : CHr Z EL s.vm s.heap vm0 h) (hN : Fr Z.heap.size locs)
    (hF : ∀ x ∈ F, x < h.size ∧ Safe Z EL vm0 h x) (X' : Stand p l e R (s.setVm vm0) m args below meth c B.U B.locs B.cells B.slots) {ws : List Addr} (Kp : Keep h B.U.heap ws) (q : ∀ x ∈ ws, Wok Z F h x) (hNL : Fr Z.heap.size L) (hl : B.locs = locs ++ L) :
    Wd p l e R s m args below meth c Z a0 EL own F B.U B.U.heap B.cells B.slots := by
  have hs : ∀ x ∈ ws, Safe Z EL vm0 h x := fun x hx => Wd.safeOf hZ.alike hF (q x hx)
  exact ⟨w1, ext_old_keep w2 Kp (fun x hx => (q x hx).1), w3, w4, vm0, k0, B.locs, X', hZ, hown, rfl, hS, Nat.le_trans hk Kp.1, hC.trans (CHr.keep Kp hs hC.1), hl ▸ hN.app hNL, fun x r => ⟨Nat.lt_of_lt_of_le (hF x r).1 Kp.1, Safe.keep Kp hs hC.1 (hF x r).2⟩⟩
/-- a String as `new` left it -/
def NewS (Z : State) (F : List Addr) (h : Heap) (x : Addr) : Prop := Z.heap.size ≤ x ∧ x ∈ F ∧ Exa Z h x "java/lang/String" ∧ (∃ v, Fld Z h x "java/lang/String" "value" "[B" v) ∧ ∃ v, Fld Z h x "java/lang/String" "coder" "B" v
theorem NewS.ext {x : Addr} (E : Ext h h') (S : NewS Z F h x) : NewS Z F h' x := by
  obtain ⟨s1, s2, s3, ⟨v, s4⟩, ⟨u, s5⟩⟩ := S
  exact ⟨s1, s2, s3.ext E, ⟨v, s4.ext E⟩, ⟨u, s5.ext E⟩⟩
theorem NewS.mem {x : Addr} {F' : List Addr} (q : ∀ x ∈ F, x ∈ F') (S : NewS Z F h x) : NewS Z F' h x := ⟨S.1, q _ S.2.1, S.2.2⟩
theorem NewS.keep {x b : Addr} (S : NewS Z F h x) (K : Keep h h' [b]) (q : x ≠ b) : NewS Z F h' x := by
  obtain ⟨s1, s2, s3, ⟨v, s4⟩, ⟨u, s5⟩⟩ := S
  exact ⟨s1, s2, s3.keep K, ⟨v, s4.keep K (ninS q nin0)⟩, ⟨u, s5.keep K (ninS q nin0)⟩⟩
theorem NewS.keepA {x b : Addr} {ty : FieldType} {vs : List Value} (wi : (Jvm.Cond.instantiable "java/lang/String" 4).before a0 Z = true) (S : NewS Z F h x) (K : Keep h h' [b]) (A : Ali Z h b ty vs) : NewS Z F h' x := by
  obtain ⟨c, A, -⟩ := A
  exact S.keep K (ne_arr S.2.2.1 wi A)
theorem NewS.one {x : Addr} {F' : List Addr} (S : NewS Z (x :: F') h x) : NewS Z [x] h x := ⟨S.1, List.mem_singleton.mpr rfl, S.2.2⟩
theorem g_newS (W : Wd p l e R s m args below meth c Z a0 EL own F T h k n) {pc pc' : Nat} {ls : Array Slot} {st : List Value} {index : Nat} (w : (Jvm.Cond.classLink own index "java/lang/String").before a0 Z = true) (wi : (Jvm.Cond.instantiable "java/lang/String" 4).before a0 Z = true) (wz : (Jvm.Cond.initialized "java/lang/String").before a0 Z = true)
    (wv : (Jvm.Cond.laysFinal "java/lang/String" "java/lang/String" "value" "[B").before a0 Z = true) (wc : (Jvm.Cond.laysFinal "java/lang/String" "java/lang/String" "coder" "B").before a0 Z = true)
    (hd : decode c.code pc = .ok (.new index, 3)) (hp : pc + 3 = pc') (hc : k + 1 ≤ R.cells) (hl : n + 4 ≤ R.slots)
    (K : ∀ x T' h', h.size ≤ x → Wd p l e R s m args below meth c Z a0 EL own (x :: F) T' h' (k + 1) (n + 4) → Ext h h' → NewS Z (x :: F) h' x → Go p e below P T' (mkF m pc' ls (.ref x :: st))) : Go p e below P T (mkF m pc ls st) := by
  have hO := W.old
  exact g_new W w wi wz hd hp hc hl fun x T' h' hx W' E B => K x T' h' hx W' E ⟨Nat.le_trans hO.1 hx, List.mem_cons_self .., B.1, ⟨_, B.2 (Or.inr wv) (ty := .array .byte) (by decide)⟩, ⟨_, B.2 (Or.inr wc) (ty := .byte) (by decide)⟩⟩
theorem g_baload (W : Wd p l e R s m args below meth c Z a0 EL own F T h k n) {pc pc' : Nat} {ls : Array Slot} {st : List Value} {a : Addr} {cs : List Int32} (A : Ali Z h a .byte (cs.map Value.int)) {j : Int32} {i : Nat} (hj : ¬ j < 0) (hi : j.toNatClampNeg = i) (hlt : i < cs.length)
    (hd : decode c.code pc = .ok (.baload, 1)) (hp : pc + 1 = pc') (K : Go p e below P T (mkF m pc' ls (.int (cs.getD i 0) :: st))) : Go p e below P T (mkF m pc ls (.int j :: .ref a :: st)) := by
  subst hp
  obtain ⟨cell, A1, hsz, hget⟩ := A.get
  obtain ⟨w1, w2, w3, w4, vm0, k0, locs, X, hZ, hown, rfl, r⟩ := W
  refine K.st fun t q => X.baloadBytes w1 A1.1 (State.isArrayOf_alike (s := Z) hZ.alike A1.2.1) A1.2.2 (j := j) (by rw [hsz, hi]; simp only [List.length_map]; exact fun r => r.elim hj (by omega)) (v := .int (cs.getD i 0)) (by rw [hi, hget]; simp [hlt]) (g := mkF m pc ls (.int j :: .ref a :: st)) rfl rfl hd t q
theorem g_instNull (W : Wd p l e R s m args below meth c Z a0 EL own F T h k n) {pc pc' : Nat} {ls : Array Slot} {st : List Value} {index : Nat} (hd : decode c.code pc = .ok (.instanceof index, 3)) (hp : pc + 3 = pc') (K : Go p e below P T (mkF m pc' ls (.int 0 :: st))) : Go p e below P T (mkF m pc ls (.null :: st)) := by
  subst hp
  obtain ⟨w1, w2, w3, w4, vm0, k0, locs, X, r⟩ := W
  exact K.st fun t q => X.instanceofNull w1 (g := mkF m pc ls (.null :: st)) rfl (rest := st) rfl hd t q
theorem g_checkcast (W : Wd p l e R s m args below meth c Z a0 EL own F T h k n) {pc pc' : Nat} {ls : Array Slot} {st : List Value} {index : Nat} {C : String} (w : (Jvm.Cond.classLink own index C).before a0 Z = true) {a : Addr} (I : Ins Z h a C true) (hd : decode c.code pc = .ok (.checkcast index, 3)) (hp : pc + 3 = pc')
    (K : ∀ T', Wd p l e R s m args below meth c Z a0 EL own F T' h k n → Go p e below P T' (mkF m pc' ls (.ref a :: st))) : Go p e below P T (mkF m pc ls (.ref a :: st)) := by
  subst hp
  exact W.grow (fun X hZ hown eT => castY X W.hx hZ hown w eT I (g := mkF m pc ls (.ref a :: st)) rfl rfl hd) (ext_refl h) K
end OwnD
/-! own kit, part E: String's own methods at a call, over the pasted laws of laws/STRINGS -/
section OwnE
variable {p : Program} {l : Launch} {e : Env} {R : Room} {s : State} {m : MethodId} {args : Array Value} {below : List Frame} {meth : Method} {c : Code} {T T' : State} {h h' : Heap} {Z : State} {a0 : Array Value} {EL : List (String × Nat)} {own : String} {k n : Nat} {P : Outcome → State → Prop} {F : List Addr}
/-- compact strings are on -/
def Cst (Z : State) : Prop := ∃ z : Int32, Sta Z Z.heap "java/lang/String" "COMPACT_STRINGS" "Z" (.int z) ∧ ¬ z = 0
def Fst (Z : State) : Prop := ∃ fm : Value, Sta Z Z.heap "jdk/internal/util/Preconditions" "SIOOBE_FORMATTER" "Ljava/util/function/BiFunction;" fm ∧ fm.isRef = true
theorem Str.cod {a : Addr} {cs : List Int32} (S : Str Z h a cs) : ∃ t kb, Fld Z h a "java/lang/String" "value" "[B" (.ref t) ∧ Arv Z h t kb .byte (Int32.ofNat cs.length) ((cs.map StrChars.lo8).map Value.int) (.int 0) ∧ StrChars.Road.CodA cs 0 (Int32.ofNat cs.length) ((cs.map StrChars.lo8).map Value.int) := by
  obtain ⟨s1, s2, ⟨t, s3, s4⟩, s5, s6⟩ := S
  obtain ⟨kb, A⟩ := s4.arv (d := .int 0) (z := Int32.ofNat cs.length) (fun v hv => by
    simp only [List.mem_map] at hv
    obtain ⟨b, ⟨x, -, rfl⟩, rfl⟩ := hv
    exact fits_lo x) (by simp)
  exact ⟨t, kb, s3, A, StrChars.Road.codOf rfl fun c hc => (s5 c hc).2⟩
theorem g_len (W : Wd p l e R s m args below meth c Z a0 EL own F T h k n) (hw : ∀ d ∈ tables_1, d.before a0 Z = true) (cst : Cst Z) {a : Addr} {cs : List Int32} (S : Str Z h a cs) {index : Nat} (v1 : (Jvm.Cond.methodLink own index (⟨"java/lang/String", "length", "()I"⟩ : MethodName)).before a0 Z = true)
    {pc pc' : Nat} {ls : Array Slot} {rest : List Value} (hsz : ls.size = c.maxLocals) (hd : decode c.code pc = .ok (.invokevirtual index, 3)) (hp : pc + 3 = pc') {Wn : Nat} (hW : (rest.map fun v => v.category).sum ≤ Wn) (hf : 2 ≤ R.frames) (hl : Wn + 25 ≤ R.locals) (hc : k ≤ R.cells) (hs : n ≤ R.slots) {z : Int32} (hz : Int32.ofNat cs.length = z)
    (K : ∀ T', Wd p l e R s m args below meth c Z a0 EL own F T' h k n → Go p e below P T' (mkF m pc' ls (.int z :: rest))) : Go p e below P T (mkF m pc ls (.ref a :: rest)) := by
  subst hp hz
  obtain ⟨zc, Sc, hzc⟩ := cst
  have wl : ∀ d ∈ StrChars.Road.wordsLen, d.before a0 Z = true := fun d hd => hw d ((by decide +kernel : ∀ d ∈ StrChars.Road.wordsLen, d ∈ tables_1) d hd)
  have wi : (Jvm.Cond.instantiable "java/lang/String" 4).before a0 Z = true := hw _ (by decide +kernel)
  obtain ⟨t, kb, q1, q2, q3⟩ := S.cod
  obtain ⟨w1, w2, w3, w4, vm0, k0, locs, X, hZ, hown, rfl, hS, hk, hC, hN, hF⟩ := W
  obtain ⟨cq, kq, qa, qb, qc⟩ := isOf (s := s.setVm vm0) hZ rfl S.1
  obtain ⟨v, vm1, B, hw1, X', ⟨L, ⟨rfl, rfl, e1⟩, r1, r2, r3⟩, st⟩ := X.virtualBack w1 (own := own) (y := (⟨"java/lang/String", "length", "()I"⟩ : MethodName)) (z := (⟨"java/lang/String", "length", "()I"⟩ : MethodName)) hown (mvT (s := s.setVm vm0) hZ v1) (mvT (s := s.setVm vm0) hZ (hw _ (by decide +kernel))) (notFace_of_selects (C := "java/lang/String") (y := (⟨"java/lang/String", "length", "()I"⟩ : MethodName)) (args := #[]) (mvT (s := s.setVm vm0) hZ (hw _ (by decide +kernel)))) (mvT (s := s.setVm vm0) hZ (hw _ (by decide +kernel))) (mvT (s := s.setVm vm0) hZ (hw _ (by decide +kernel))) (by decide)
    (StrChars.Road.lenW (s := s.setVm vm0) hZ wl wi S.1 q1 S.2.1 q2 q3 S.2.2.2.1.lit (Sc.ext w2) hzc S.2.2.2.2 hf hl) qa qc (g := mkF m pc ls (.ref a :: rest)) rfl hsz (Steps.refl _) (argsL := []) (rest := rest) (lenOf (by decide : parseMethodDescriptor "()I" = some ⟨[], some .int⟩) rfl) rfl (by simpa using hW) hd (fun _ _ => ⟨rfl, rfl, hc, hs⟩)
  have W' := wd_kept (B := B) (ws := []) (L := []) w1 w2 w3 w4 hZ hown hS hk hC hN hF X' (by rw [e1]; exact Keep.refl _ _) (fun x q => nomatch q) (Fr.nil _) (by simpa using r1)
  simp only [Pt.cells, Pt.slots, Pt.U, Nat.add_zero] at W' r2 r3 e1
  rw [r2, r3, e1] at W'
  exact (K B.U W').tr st
theorem g_charAt (W : Wd p l e R s m args below meth c Z a0 EL own F T h k n) (hw : ∀ d ∈ tables_1, d.before a0 Z = true) (cst : Cst Z) (fst : Fst Z) {a : Addr} {cs : List Int32} (S : Str Z h a cs) {index : Nat} (v1 : (Jvm.Cond.methodLink own index (⟨"java/lang/String", "charAt", "(I)C"⟩ : MethodName)).before a0 Z = true)
    {pc pc' : Nat} {ls : Array Slot} {rest : List Value} (hsz : ls.size = c.maxLocals) (hd : decode c.code pc = .ok (.invokevirtual index, 3)) (hp : pc + 3 = pc') {Wn : Nat} (hW : (rest.map fun v => v.category).sum ≤ Wn) (hf : 4 ≤ R.frames) (hl : Wn + 53 ≤ R.locals) (hc : k ≤ R.cells) (hs : n ≤ R.slots) {j : Int32} {i : Nat} (hj : j = Int32.ofNat i) (hi : i < cs.length)
    (K : ∀ T', Wd p l e R s m args below meth c Z a0 EL own F T' h k n → Go p e below P T' (mkF m pc' ls (.int (cs.getD i 0) :: rest))) : Go p e below P T (mkF m pc ls (.int j :: .ref a :: rest)) := by
  subst hp
  obtain ⟨zc, Sc, hzc⟩ := cst
  obtain ⟨fm, Sf, rf⟩ := fst
  have wl : ∀ d ∈ StrChars.Road.wordsChN, d.before a0 Z = true := fun d hd => hw d ((by decide +kernel : ∀ d ∈ StrChars.Road.wordsChN, d ∈ tables_1) d hd)
  have wi : (Jvm.Cond.instantiable "java/lang/String" 4).before a0 Z = true := hw _ (by decide +kernel)
  obtain ⟨t, kb, q1, q2, q3⟩ := S.cod
  obtain ⟨w1, w2, w3, w4, vm0, k0, locs, X, hZ, hown, rfl, hS, hk, hC, hN, hF⟩ := W
  obtain ⟨cq, kq, qa, qb, qc⟩ := isOf (s := s.setVm vm0) hZ rfl S.1
  obtain ⟨v, vm1, B, hw1, X', ⟨L, ⟨rfl, rfl, e1⟩, r1, r2, r3⟩, st⟩ := X.virtualBack w1 (own := own) (y := (⟨"java/lang/String", "charAt", "(I)C"⟩ : MethodName)) (z := (⟨"java/lang/String", "charAt", "(I)C"⟩ : MethodName)) hown (mvT (s := s.setVm vm0) hZ v1) (mvT (s := s.setVm vm0) hZ (hw _ (by decide +kernel))) (notFace_of_selects (C := "java/lang/String") (y := (⟨"java/lang/String", "charAt", "(I)C"⟩ : MethodName)) (args := #[]) (mvT (s := s.setVm vm0) hZ (hw _ (by decide +kernel)))) (mvT (s := s.setVm vm0) hZ (hw _ (by decide +kernel))) (mvT (s := s.setVm vm0) hZ (hw _ (by decide +kernel))) (by decide)
    (StrChars.Road.chN (s := s.setVm vm0) hZ wl wi S.1 q1 S.2.1 q2 q3 S.2.2.2.1.lit (Sc.ext w2) hzc (Sf.ext w2) rf S.2.2.2.2 hi hj hf hl) qa qc (g := mkF m pc ls (.int j :: .ref a :: rest)) rfl hsz (Steps.refl _) (argsL := [.int j]) (rest := rest) (lenOf (by decide : parseMethodDescriptor "(I)C" = some ⟨[.int], some .char⟩) rfl) rfl (by simpa using hW) hd (fun _ _ => ⟨rfl, rfl, hc, hs⟩)
  have W' := wd_kept (B := B) (ws := []) (L := []) w1 w2 w3 w4 hZ hown hS hk hC hN hF X' (by rw [e1]; exact Keep.refl _ _) (fun x q => nomatch q) (Fr.nil _) (by simpa using r1)
  simp only [Pt.cells, Pt.slots, Pt.U, Nat.add_zero] at W' r2 r3 e1
  rw [r2, r3, e1] at W'
  exact (K B.U W').tr st
theorem g_equals (W : Wd p l e R s m args below meth c Z a0 EL own F T h k n) (hw : ∀ d ∈ tables_1, d.before a0 Z = true) (cst : Cst Z) {a b : Addr} {cs ds : List Int32} (S : Str Z h a cs) (S' : Str Z h b ds) {index : Nat} (v1 : (Jvm.Cond.methodLink own index (⟨"java/lang/String", "equals", "(Ljava/lang/Object;)Z"⟩ : MethodName)).before a0 Z = true)
    {pc pc' : Nat} {ls : Array Slot} {rest : List Value} (hsz : ls.size = c.maxLocals) (hd : decode c.code pc = .ok (.invokevirtual index, 3)) (hp : pc + 3 = pc') {Wn : Nat} (hW : (rest.map fun v => v.category).sum ≤ Wn) (hf : 2 ≤ R.frames) (hl : Wn + 28 ≤ R.locals) (hc : k ≤ R.cells) (hs : n ≤ R.slots)
    (K : ∀ T', Wd p l e R s m args below meth c Z a0 EL own F T' h k n → Go p e below P T' (mkF m pc' ls (.int (if cs = ds then 1 else 0) :: rest))) : Go p e below P T (mkF m pc ls (.ref b :: .ref a :: rest)) := by
  subst hp
  obtain ⟨zc, Sc, hzc⟩ := cst
  have wl : ∀ d ∈ StrChars.Road.wordsEq, d.before a0 Z = true := fun d hd => hw d ((by decide +kernel : ∀ d ∈ StrChars.Road.wordsEq, d ∈ tables_1) d hd)
  have wi : (Jvm.Cond.instantiable "java/lang/String" 4).before a0 Z = true := hw _ (by decide +kernel)
  obtain ⟨t, kb, q1, q2, q3⟩ := S.cod
  obtain ⟨t', kb', q1', q2', q3'⟩ := S'.cod
  obtain ⟨w1, w2, w3, w4, vm0, k0, locs, X, hZ, hown, rfl, hS, hk, hC, hN, hF⟩ := W
  obtain ⟨cq, kq, qa, qb, qc⟩ := isOf (s := s.setVm vm0) hZ rfl S.1
  obtain ⟨v, vm1, B, hw1, X', ⟨L, ⟨hv, rfl, e1⟩, r1, r2, r3⟩, st⟩ := X.virtualBack w1 (own := own) (y := (⟨"java/lang/String", "equals", "(Ljava/lang/Object;)Z"⟩ : MethodName)) (z := (⟨"java/lang/String", "equals", "(Ljava/lang/Object;)Z"⟩ : MethodName)) hown (mvT (s := s.setVm vm0) hZ v1) (mvT (s := s.setVm vm0) hZ (hw _ (by decide +kernel))) (notFace_of_selects (C := "java/lang/String") (y := (⟨"java/lang/String", "equals", "(Ljava/lang/Object;)Z"⟩ : MethodName)) (args := #[]) (mvT (s := s.setVm vm0) hZ (hw _ (by decide +kernel)))) (mvT (s := s.setVm vm0) hZ (hw _ (by decide +kernel))) (mvT (s := s.setVm vm0) hZ (hw _ (by decide +kernel))) (by decide)
    (StrChars.Road.eqW (s := s.setVm vm0) hZ wl wi S.1 q1 S.2.1 q2 q3 S.2.2.2.1.lit S.2.2.2.2 S'.1 q1' S'.2.1 q2' q3' S'.2.2.2.1.lit S'.2.2.2.2 (Sc.ext w2) hzc hf hl) qa qc (g := mkF m pc ls (.ref b :: .ref a :: rest)) rfl hsz (Steps.refl _) (argsL := [.ref b]) (rest := rest) (lenOf (by decide : parseMethodDescriptor "(Ljava/lang/Object;)Z" = some ⟨[.object "java/lang/Object"], some .boolean⟩) rfl) rfl (by simpa using hW) hd (fun _ _ => ⟨rfl, rfl, hc, hs⟩)
  have hv' : v = some (.int (if cs = ds then 1 else 0)) := by
    rcases hv with ⟨rfl, q⟩ | ⟨rfl, q⟩
    · simp [q]
    · simp [q]
  subst hv'
  have W' := wd_kept (B := B) (ws := []) (L := []) w1 w2 w3 w4 hZ hown hS hk hC hN hF X' (by rw [e1]; exact Keep.refl _ _) (fun x q => nomatch q) (Fr.nil _) (by simpa using r1)
  simp only [Pt.cells, Pt.slots, Pt.U, Nat.add_zero] at W' r2 r3 e1
  rw [r2, r3, e1] at W'
  exact (K B.U W').tr st
theorem g_initS (W : Wd p l e R s m args below meth c Z a0 EL own F T h k n) (hw : ∀ d ∈ tables_1, d.before a0 Z = true) (cst : Cst Z) {x b : Addr} {cs : List Int32} (S : NewS Z F h x) (A : Ali Z h b .char (cs.map Value.int)) (hL : Latin cs) (l0 : 0 < cs.length) (l1 : cs.length ≤ 4000) {index : Nat}
    (v1 : (Jvm.Cond.methodLink own index (⟨"java/lang/String", "<init>", "([C)V"⟩ : MethodName)).before a0 Z = true)
    {pc pc' : Nat} {ls : Array Slot} {rest : List Value} (hsz : ls.size = c.maxLocals) (hd : decode c.code pc = .ok (.invokespecial index, 3)) (hp : pc + 3 = pc') {Wn : Nat} (hW : (rest.map fun v => v.category).sum ≤ Wn) (hf : 4 ≤ R.frames) (hl : Wn + 65 ≤ R.locals) (hc : k + 1 ≤ R.cells) {nn : Nat} (hnn : cs.length ≤ nn) (hs : n + nn ≤ R.slots)
    (K : ∀ T' h', Wd p l e R s m args below meth c Z a0 EL own F T' h' (k + 1) (n + nn) → Keep h h' [x] → Str Z h' x cs → Go p e below P T' (mkF m pc' ls rest)) : Go p e below P T (mkF m pc ls (.ref b :: .ref x :: rest)) := by
  subst hp
  obtain ⟨zc, Sc, hzc⟩ := cst
  have wl : ∀ d ∈ StrChars.Road.words, d.before a0 Z = true := fun d hd => hw d ((by decide +kernel : ∀ d ∈ StrChars.Road.words, d ∈ tables_1) d hd)
  have wi : (Jvm.Cond.instantiable "java/lang/String" 4).before a0 Z = true := hw _ (by decide +kernel)
  have wcode : (Jvm.Cond.code (⟨"java/lang/String", "<init>", "([C)V"⟩ : MethodName) StrChars.New1.yB 2 none).before a0 Z = true := hw _ (by decide +kernel)
  obtain ⟨s1, s2, s3, ⟨v0, s4⟩, ⟨u0, s5⟩⟩ := S
  obtain ⟨kC, A1⟩ := A.arv (d := .int 0) (z := Int32.ofNat cs.length) (fun v hv => by
    obtain ⟨y, hy, rfl⟩ := List.mem_map.mp hv
    exact fits_chr (hL.lit y hy).1 (hL.lit y hy).2) (by simp)
  obtain ⟨w1, w2, w3, w4, vm0, k0, locs, X, hZ, hown, rfl, hS, hk, hC, hN, hF⟩ := W
  obtain ⟨v, vm1, B, hw1, X', ⟨L, ⟨rfl, f1, f2, f3, f4, t, kb, -, -, -, f5, f6⟩, r1, r2, r3⟩, st⟩ := X.specialBack w1 (own := own) (y := (⟨"java/lang/String", "<init>", "([C)V"⟩ : MethodName)) rfl hown (mvT (s := s.setVm vm0) hZ v1) (mvT (s := s.setVm vm0) hZ (hw _ (by decide +kernel))) (mvT (s := s.setVm vm0) hZ wcode) (by decide)
    (StrChars.Road.backV (s := s.setVm vm0) hZ wl wi s1 w2.1 s3 s4 s5 A1 (Sc.ext w2) hzc rfl rfl l0 l1 hL rfl hf hl) (g := mkF m pc ls (.ref b :: .ref x :: rest)) rfl hsz (Steps.refl _) (a := x) (argsL := [.ref b]) (rest := rest) (lenOf (by decide : parseMethodDescriptor "([C)V" = some ⟨[.array .char], none⟩) rfl) rfl (by simpa using hW) hd (fun _ _ => ⟨rfl, rfl, hc, Nat.le_trans (Nat.add_le_add_left hnn _) hs⟩)
  have W' := wd_kept (B := B) (ws := [x]) (L := L) w1 w2 w3 w4 hZ hown hS hk hC hN hF X' f2 (fun y q => by cases List.mem_singleton.mp q; exact ⟨s1, Or.inl s2⟩) f1 r1
  simp only [Pt.cells, Pt.slots, Pt.U] at W' r2 r3
  rw [r2, r3] at W'
  refine (K B.U _ (W'.more (Nat.le_refl _) (Nat.add_le_add_left hnn _)) f2 ⟨f3, f4, ⟨t, f5, Ali.of_arv (vs := (cs.map lo).map Value.int) f6 ?_⟩, hL, l1⟩).tr st
  rw [own_n32 (by omega)]
  simp
end OwnE
/-! own kit, part F: small facts -/
section OwnF
variable {p : Program} {e : Env} {below : List Frame} {P : Outcome → State → Prop} {T : State} {Z : State} {a0 : Array Value}
theorem Go.cast {g g' : JFrame} (q : g = g') (K : Go p e below P T g') : Go p e below P T g := q ▸ K
/-- a char below 256 -/
def Lc (x : Int32) : Prop := ¬ x < 0 ∧ ¬ (255 : Int32) < x
theorem Lc.w {x : Int32} (q : Lc x) : ¬ (65535 : Int32) < x := ((Latin.cons q.1 q.2 Latin.nil).lit x (List.mem_cons_self ..)).2
theorem Lc.mask (x : Int32) : Lc (x &&& 255) := by
  have q := c_and x 255 (by decide)
  have e1 : (255 : Int32).toInt = 255 := rfl
  have e0 : (0 : Int32).toInt = 0 := rfl
  constructor
  · rw [Int32.lt_iff_toInt_lt]; omega
  · rw [Int32.lt_iff_toInt_lt]; omega
theorem nar_char {x : Int32} (h0 : ¬ x < 0) (h1 : ¬ 65535 < x) : x.toUInt32.toUInt16.toUInt32.toInt32 = x := by
  have := c_i2c x
  apply Int32.toInt_inj.mp
  rw [Int32.lt_iff_toInt_lt] at h0 h1
  have e0 : (0 : Int32).toInt = 0 := rfl
  have e1 : (65535 : Int32).toInt = 65535 := rfl
  omega
theorem Lc.i2c {x : Int32} (q : Lc x) : x.toUInt32.toUInt16.toUInt32.toInt32 = x := nar_char q.1 q.w
theorem Lc.nar {x : Int32} (q : Lc x) : narrow .char (.int x) = .int x := by
  show Value.int (Jvm.RoadKit.nar .char x) = _
  rw [show Jvm.RoadKit.nar .char x = x from q.i2c]
theorem Lc.l2i (y : Int64) : Lc (y &&& 255).toInt32 := by
  have a := c_maskL y 255 8 (by decide) (by decide)
  have b := c_l2i (y &&& 255)
  have r := rng32 (y &&& 255).toInt32
  have e0 : (0 : Int32).toInt = 0 := rfl
  have e1 : (255 : Int32).toInt = 255 := rfl
  constructor
  · rw [Int32.lt_iff_toInt_lt]; omega
  · rw [Int32.lt_iff_toInt_lt]; omega
theorem lt_nat {i : Int32} {n : Nat} (h0 : ¬ i < 0) (hn : n < 2 ^ 31) (h : i < Int32.ofNat n) : i.toNatClampNeg < n := by
  rw [Int32.lt_iff_toInt_lt] at h h0
  rw [Int32.toInt_ofNat_small hn] at h
  have e0 : (0 : Int32).toInt = 0 := rfl
  simp only [Int32.toNatClampNeg]
  omega
theorem eq_nat {i : Int32} (h0 : ¬ i < 0) : i = Int32.ofNat i.toNatClampNeg := (back32 h0).1.symm
theorem Lc.zero : Lc 0 := ⟨by decide, by decide⟩
theorem Latin.get {cs : List Int32} (q : Latin cs) (i : Nat) : Lc (cs.getD i 0) := by
  rcases Nat.lt_or_ge i cs.length with h | h
  · have e : cs.getD i 0 = cs[i] := by simp [h]
    rw [e]; exact q _ (List.getElem_mem _)
  · have e : cs.getD i 0 = 0 := by simp [List.getElem?_eq_none h]
    rw [e]; exact Lc.zero
theorem Latin.set {cs : List Int32} (q : Latin cs) (i : Nat) {x : Int32} (hx : Lc x) : Latin (cs.set i x) := fun c hc => by
  rcases List.mem_or_eq_of_mem_set hc with h | rfl
  · exact q c h
  · exact hx
theorem Latin.con {x : Int32} {cs : List Int32} (q : Lc x) (r : Latin cs) : Latin (x :: cs) := Latin.cons q.1 q.2 r
theorem own_wS (hw : ∀ d ∈ tables_1, d.before a0 Z = true) : ∀ a ∈ Bundle.stringAtoms, a.before a0 Z = true := fun d hd => hw d ((by decide +kernel : ∀ d ∈ Bundle.stringAtoms, d ∈ tables_1) d hd)
theorem and3 (x : Int32) : x &&& 3 = 0 ∨ x &&& 3 = 1 ∨ x &&& 3 = 2 ∨ x &&& 3 = 3 := by
  have q := c_and x 3 (by decide)
  have e3 : (3 : Int32).toInt = 3 := rfl
  have e2 : (2 : Int32).toInt = 2 := rfl
  have e1 : (1 : Int32).toInt = 1 := rfl
  have e0 : (0 : Int32).toInt = 0 := rfl
  simp only [← Int32.toInt_inj]
  omega
end OwnF
/-! own kit, part G: arrays of references, what a case says of a String or an array of the start -/
section OwnG
variable {p : Program} {l : Launch} {e : Env} {R : Room} {s : State} {m : MethodId} {args : Array Value} {below : List Frame} {meth : Method} {c : Code} {T T' : State} {h h' : Heap} {Z : State} {a0 : Array Value} {EL : List (String × Nat)} {own : String} {k n : Nat} {P : Outcome → State → Prop} {F : List Addr}
theorem g_aaload (W : Wd p l e R s m args below meth c Z a0 EL own F T h k n) {pc pc' : Nat} {ls : Array Slot} {st : List Value} {a : Addr} {ty : FieldType} {vs : List Value} (A : Ali Z h a ty vs) (ht : ty.isReference = true) {j : Int32} {i : Nat} (hj : ¬ j < 0) (hi : j.toNatClampNeg = i) {v : Value} (hv : vs[i]? = some v)
    (hd : decode c.code pc = .ok (.aaload, 1)) (hp : pc + 1 = pc') (K : Go p e below P T (mkF m pc' ls (v :: st))) : Go p e below P T (mkF m pc ls (.int j :: .ref a :: st)) := by
  subst hp
  obtain ⟨cell, A1, hsz, hget⟩ := A.get
  have hlt : i < vs.length := (List.getElem?_eq_some_iff.mp hv).1
  obtain ⟨w1, w2, w3, w4, vm0, k0, locs, X, hZ, hown, rfl, r⟩ := W
  refine K.st fun t q => X.aaload w1 A1.1 (State.isArrayOf_alike (s := Z) hZ.alike A1.2.1) ht A1.2.2 (j := j) (by rw [hsz, hi]; exact fun r => r.elim hj (by omega)) (v := v) (by rw [hi, hget]; exact hv) (g := mkF m pc ls (.int j :: .ref a :: st)) rfl rfl hd t q
theorem g_clone (W : Wd p l e R s m args below meth c Z a0 EL own F T h k n) {pc pc' : Nat} {ls : Array Slot} {st : List Value} {a : Addr} {ty : FieldType} {cl : Cell} (A : Arr Z h a cl ty) (FC : FitC Z cl) (hlen : cl.slots.size < 2 ^ 31) {ad : String} (E : Exa Z h a ad) {index : Nat}
    (w1 : (Jvm.Cond.methodLink own index ⟨ad, "clone", "()Ljava/lang/Object;"⟩).before a0 Z = true) (w2 : (Jvm.Cond.sameMethod ad "java/lang/Object" "clone" "()Ljava/lang/Object;").before a0 Z = true) (w3 : (Jvm.Cond.native ⟨"java/lang/Object", "clone", "()Ljava/lang/Object;"⟩).before a0 Z = true)
    (w4 : (Jvm.Cond.instanceMethod ⟨"java/lang/Object", "clone", "()Ljava/lang/Object;"⟩).before a0 Z = true) (w5 : (Jvm.Cond.selects ad ⟨ad, "clone", "()Ljava/lang/Object;"⟩ ⟨"java/lang/Object", "clone", "()Ljava/lang/Object;"⟩).before a0 Z = true) (w6 : (Jvm.Cond.castable ad "java/lang/Cloneable").before a0 Z = true)
    (hsz : ls.size = c.maxLocals) (hd : decode c.code pc = .ok (.invokevirtual index, 3)) (hp : pc + 3 = pc') (hf : 1 ≤ R.frames) {Wn : Nat} (hW : (st.map fun v => v.category).sum ≤ Wn) (hl : Wn + 14 ≤ R.locals) {cap : Nat} (hcap : cl.slots.size ≤ cap) (hc : k + 1 ≤ R.cells) (hs : n + cap ≤ R.slots)
    (K : ∀ x T' h', h.size ≤ x → Wd p l e R s m args below meth c Z a0 EL own (x :: F) T' h' (k + 1) (n + cap) → Ext h h' → (Ali Z h' x ty cl.slots.toList ∧ Exa Z h' x ad) → Go p e below P T' (mkF m pc' ls (.ref x :: st))) : Go p e below P T (mkF m pc ls (.ref a :: st)) := by
  subst hp
  refine W.make (B := fun h' => Ali Z h' h.size ty cl.slots.toList ∧ Exa Z h' h.size ad) (fun X hZ hown eT => ?_) (fun T' h' => K h.size T' h' (Nat.le_refl _))
  obtain ⟨T', h', X', e1, E1, A1, E2, st⟩ := cloneA X W.hx hZ hown w1 w2 w3 w4 w5 w6 eT A E FC (g := mkF m pc ls (.ref a :: st)) rfl hsz rfl hd hf (by simpa using hW) hl hcap hc hs
  exact ⟨T', h', X', e1, E1, A1.lt, ⟨⟨_, A1, rfl, by simpa using hlen⟩, E2⟩, st⟩
/-- what a case says of an array: its length, its components -/
theorem arr_at {t : Jvm.Term} {a : Addr} {ty : FieldType} {z : Int32} {n : Nat} {vs : Nat → Value} (ev : t.eval args s none [] s = some (.ref a)) (ha : (Jvm.Cond.arrayOf t ty).value args s none s [] = some true) (hl : (Jvm.Cond.eq (.length t) (.int z)).value args s none s [] = some true) (hz : Int32.ofNat n = z) (hn : n < 2 ^ 31)
    (he : ∀ i, i < n → (Jvm.Term.elem t (.int (Int32.ofNat i))).eval args s none [] s = some (vs i)) : ∃ cl, Arr s s.heap a cl ty ∧ cl.slots.toList = (List.range n).map vs ∧ cl.slots.size = n := by
  obtain ⟨cl, A⟩ := Arr.start ev ha
  have hat := Arr.fin (Vm.Alike.refl _) A
  have hlen := Cond.eq_int (Cond.before_iff.mpr hl) rfl
  have h31 := Jvm.Free.SBG.length_lt ev hat hlen
  have hsz : cl.slots.size = n := by
    have e : (Jvm.Term.length t).eval args s none [] s = some (.int (Int32.ofNat cl.slots.size)) := by simp [Jvm.Term.eval, ev, hat, h31]
    have h2 : Int32.ofNat cl.slots.size = Int32.ofNat n := by rw [hz]; simpa using Option.some.inj (e.symm.trans hlen)
    have := congrArg Int32.toInt h2
    rw [Int32.toInt_ofNat_small h31, Int32.toInt_ofNat_small hn] at this; omega
  refine ⟨cl, A, ?_, hsz⟩
  apply List.ext_getElem?
  intro i
  rw [Array.getElem?_toList]
  rcases Nat.lt_or_ge i n with q | q
  · have e1 := he i q
    rw [Jvm.Free.SBG.elem_at (ix := .int (Int32.ofNat i)) ev hat (by omega) h31 rfl] at e1
    rw [e1]; simp [q]
  · rw [Array.getElem?_eq_none (by omega), List.getElem?_eq_none (by simpa using q)]
/-- what a case says of a String: exactly a String, Latin-1, these bytes -/
theorem str_at {t : Jvm.Term} {a : Addr} {z : Int32} {cs bs : List Int32} (ev : t.eval args s none [] s = some (.ref a)) (hx : (Jvm.Cond.exactly t "java/lang/String").value args s none s [] = some true) (hc : (Jvm.Cond.eq (.field t "java/lang/String" "coder" "B") (.int 0)).value args s none s [] = some true)
    (ha : (Jvm.Cond.arrayOf (.field t "java/lang/String" "value" "[B") .byte).value args s none s [] = some true) (hl : (Jvm.Cond.eq (.length (.field t "java/lang/String" "value" "[B")) (.int z)).value args s none s [] = some true) (hz : Int32.ofNat bs.length = z) (hb : cs.map lo = bs) (hL : Latin cs) (h4 : cs.length ≤ 4000)
    (he : ∀ i, i < bs.length → (Jvm.Cond.eq (.elem (.field t "java/lang/String" "value" "[B") (.int (Int32.ofNat i))) (.int (bs.getD i 0))).value args s none s [] = some true) : Str s s.heap a cs := by
  subst hb
  obtain ⟨tv, ev2⟩ := arr_v ha
  have ec := Cond.eq_int (Cond.before_iff.mpr hc) rfl
  rw [fld_at ev] at ec
  have fv := ev2
  rw [fld_at ev] at fv
  obtain ⟨cl, A, hA, hsz⟩ := arr_at (vs := fun i => .int ((cs.map lo).getD i 0)) ev2 ha hl hz (by simp; omega) (fun i hi => Cond.eq_int (Cond.before_iff.mpr (he i hi)) rfl)
  refine ⟨Exa.start ev hx, Fld.start ec, ⟨tv, Fld.start fv, cl, A, ?_, by simp; omega⟩, hL, h4⟩
  rw [hA]
  apply List.ext_getElem?
  intro i
  rcases Nat.lt_or_ge i (cs.map lo).length with q | q
  · simp only [List.length_map] at q
    simp [q]
  · simp only [List.length_map] at q
    rw [List.getElem?_eq_none (by simpa using q), List.getElem?_eq_none (by simpa using q)]
/-- a component of the array is this static's object -/
theorem elem_ref {t i u : Jvm.Term} {q : Addr} (h : (Jvm.Cond.eq (.elem t i) u).value args s none s [] = some true) (hu : u.eval args s none [] s = some (.ref q)) : (Jvm.Term.elem t i).eval args s none [] s = some (.ref q) := by
  obtain ⟨x, y, e1, e2, -, k2⟩ := cmp_v (Or.inl h)
  cases e2.symm.trans hu
  have hx : x.isRef = true := by
    have : Value.isRef (.ref q) = true ∧ x.isRef = true := k2
    exact this.2
  have e := gotT (eq_R e1 hu hx rfl) h
  rw [e1, e]
end OwnG
theorem pnS : plainName "java/lang/String" = true := by first | (simp [plainName, overriddenIn]; done) | decide +kernel
/-! String.equals(null) -/
theorem en_0 : decode jdk_42_method_66_code 0 = .ok (.aload_n 0, 1) := by decide +kernel
theorem en_1 : decode jdk_42_method_66_code 1 = .ok (.aload_n 1, 1) := by decide +kernel
theorem en_2 : decode jdk_42_method_66_code 2 = .ok (.if_acmp .ne 5, 3) := by decide +kernel
theorem en_5 : decode jdk_42_method_66_code 5 = .ok (.iconst 1, 1) := by decide +kernel
theorem en_6 : decode jdk_42_method_66_code 6 = .ok (.ireturn, 1) := by decide +kernel
theorem en_7 : decode jdk_42_method_66_code 7 = .ok (.aload_n 1, 1) := by decide +kernel
theorem en_8 : decode jdk_42_method_66_code 8 = .ok (.instanceof 10, 3) := by decide +kernel
theorem en_11 : decode jdk_42_method_66_code 11 = .ok (.ifCond .eq 43, 3) := by decide +kernel
theorem en_14 : decode jdk_42_method_66_code 14 = .ok (.aload_n 1, 1) := by decide +kernel
theorem en_15 : decode jdk_42_method_66_code 15 = .ok (.checkcast 10, 3) := by decide +kernel
theorem en_18 : decode jdk_42_method_66_code 18 = .ok (.astore_n 2, 1) := by decide +kernel
theorem en_19 : decode jdk_42_method_66_code 19 = .ok (.getstatic 38, 3) := by decide +kernel
theorem en_22 : decode jdk_42_method_66_code 22 = .ok (.ifCond .eq 14, 3) := by decide +kernel
theorem en_25 : decode jdk_42_method_66_code 25 = .ok (.aload_n 0, 1) := by decide +kernel
theorem en_26 : decode jdk_42_method_66_code 26 = .ok (.getfield 15, 3) := by decide +kernel
theorem en_29 : decode jdk_42_method_66_code 29 = .ok (.aload_n 2, 1) := by decide +kernel
theorem en_30 : decode jdk_42_method_66_code 30 = .ok (.getfield 15, 3) := by decide +kernel
theorem en_33 : decode jdk_42_method_66_code 33 = .ok (.if_icmp .ne 21, 3) := by decide +kernel
theorem en_36 : decode jdk_42_method_66_code 36 = .ok (.aload_n 0, 1) := by decide +kernel
theorem en_37 : decode jdk_42_method_66_code 37 = .ok (.getfield 9, 3) := by decide +kernel
theorem en_40 : decode jdk_42_method_66_code 40 = .ok (.aload_n 2, 1) := by decide +kernel
theorem en_41 : decode jdk_42_method_66_code 41 = .ok (.getfield 9, 3) := by decide +kernel
theorem en_44 : decode jdk_42_method_66_code 44 = .ok (.invokestatic 541, 3) := by decide +kernel
theorem en_47 : decode jdk_42_method_66_code 47 = .ok (.ifCond .eq 7, 3) := by decide +kernel
theorem en_50 : decode jdk_42_method_66_code 50 = .ok (.iconst 1, 1) := by decide +kernel
theorem en_51 : decode jdk_42_method_66_code 51 = .ok (.goto 4, 3) := by decide +kernel
theorem en_54 : decode jdk_42_method_66_code 54 = .ok (.iconst 0, 1) := by decide +kernel
theorem en_55 : decode jdk_42_method_66_code 55 = .ok (.ireturn, 1) := by decide +kernel
theorem efEn (m : MethodId) (x0 : Addr) : entryFrame m #[.ref x0, .null] 3 = mkF m 0 #[.val (.ref x0), .val .null, .unset] [] := by first | (simp [entryFrame, mkF, argsToLocals, Value.category, maxLocals]; done) | rfl
set_option maxRecDepth 65536 in
set_option maxHeartbeats 4000000 in
theorem t_eqNull (l : Launch) {Z : State} {a0 : Array Value} {EL : List (String × Nat)} (hEL : EW Z a0 EL) {h : Heap} (hO : Ext Z.heap h) {x : Addr} :
    Met l Z EL [] (⟨"java/lang/String", "equals", "(Ljava/lang/Object;)Z"⟩ : MethodName) jdk_42_method_66_code 3 (some .boolean) { frames := 0, cells := 0, slots := 0, locals := 0 } #[.ref x, .null] h (Ret fun v h' => v = .int 0 ∧ h = h') := by
  refine Met.intro pnS hEL hO ?_
  intro p e s m below meth c T W hby hml hret hnm
  have D : ∀ {pc : Nat} {r}, decode jdk_42_method_66_code pc = r → decode c.code pc = r := fun q => hb hby q
  refine Go.cast (efEn m x) ?_
  refine g_aloadN W (pc' := 1) (D en_0) rfl rfl (by first | rfl | assumption) ?_
  refine g_aloadN W (pc' := 2) (D en_1) rfl rfl (by first | rfl | assumption) ?_
  refine g_acmpneY W (pc1 := 7) (pc2 := 5) (D en_2) (by decide) (by decide) rfl (by first | rfl | assumption) (by first | rfl | assumption) (fun r => nomatch r) ?_
  refine g_aloadN W (pc' := 8) (D en_7) rfl rfl (by first | rfl | assumption) ?_
  refine g_instNull W (pc' := 11) (D en_8) rfl ?_
  refine g_ifeqY W (pc1 := 54) (pc2 := 14) (D en_11) (by decide) (by decide) rfl (rfl) ?_
  refine g_iconst W (pc' := 55) (D en_54) rfl (v := (0 : Int32)) (by decide) ?_
  exact g_retz W (D en_55) hret (Or.inl rfl) (by decide) (by decide) ⟨_, rfl, rfl, rfl⟩
abbrev LW : String := "com/example/fondsmith/fondsmith/model/KindOfPinLaw"
abbrev NK : String := "com/example/fondsmith/fondsmith/model/Name$Kind"
abbrev NKd : String := "Lcom/example/fondsmith/fondsmith/model/Name$Kind;"
abbrev NKa : String := "[Lcom/example/fondsmith/fondsmith/model/Name$Kind;"
abbrev SD : String := "Ljava/lang/String;"
abbrev EN : String := "element"
abbrev C0 : List Int32 := [112, 101, 114, 115, 110, 97, 109, 101]
abbrev C1 : List Int32 := [99, 111, 114, 112, 110, 97, 109, 101]
abbrev C2 : List Int32 := [102, 97, 109, 110, 97, 109, 101]
abbrev C3 : List Int32 := [110, 97, 109, 101]
/-- the enum's constants, as the case says them -/
def Kn (Z : State) (va q0 q1 q2 q3 e0 e1 e2 e3 : Addr) : Prop := Sta Z Z.heap NK "$VALUES" NKa (.ref va) ∧ (∃ cl, Arr Z Z.heap va cl (.object NK) ∧ FitC Z cl ∧ cl.slots.toList = [.ref q0, .ref q1, .ref q2, .ref q3]) ∧ Exa Z Z.heap va NKa ∧ Sta Z Z.heap NK "PERSON" NKd (.ref q0) ∧ Sta Z Z.heap NK "ORGANIZATION" NKd (.ref q1) ∧ Sta Z Z.heap NK "FAMILY" NKd (.ref q2) ∧ Sta Z Z.heap NK "UNSPECIFIED" NKd (.ref q3) ∧ Fld Z Z.heap q0 NK EN SD (.ref e0) ∧ Fld Z Z.heap q1 NK EN SD (.ref e1) ∧ Fld Z Z.heap q2 NK EN SD (.ref e2) ∧ Fld Z Z.heap q3 NK EN SD (.ref e3) ∧ Str Z Z.heap e0 C0 ∧ Str Z Z.heap e1 C1 ∧ Str Z Z.heap e2 C2 ∧ Str Z Z.heap e3 C3
def kres (q0 q1 q2 q3 : Addr) (ss : List Int32) : Value := if ss = C0 then .ref q0 else if ss = C1 then .ref q1 else if ss = C2 then .ref q2 else if ss = C3 then .ref q3 else .null
theorem kres_ref (q0 q1 q2 q3 : Addr) (ss : List Int32) : (kres q0 q1 q2 q3 ss).isRef = true := by
  unfold kres
  repeat' split
  all_goals rfl
theorem pnNK : plainName "com/example/fondsmith/fondsmith/model/Name$Kind" = true := by first | (simp [plainName, overriddenIn]; done) | decide +kernel
theorem pnLW : plainName "com/example/fondsmith/fondsmith/model/KindOfPinLaw" = true := by first | (simp [plainName, overriddenIn]; done) | decide +kernel
theorem va_0 : decode prog_53_method_1_code 0 = .ok (.getstatic 16, 3) := by decide +kernel
theorem va_3 : decode prog_53_method_1_code 3 = .ok (.invokevirtual 20, 3) := by decide +kernel
theorem va_6 : decode prog_53_method_1_code 6 = .ok (.checkcast 21, 3) := by decide +kernel
theorem va_9 : decode prog_53_method_1_code 9 = .ok (.areturn, 1) := by decide +kernel
theorem efVa (m : MethodId) : entryFrame m #[] 0 = mkF m 0 #[] [] := by first | (simp [entryFrame, mkF, argsToLocals, Value.category]; done) | rfl
set_option maxRecDepth 65536 in
set_option maxHeartbeats 4000000 in
theorem t_values (l : Launch) {Z : State} {a0 : Array Value} {EL : List (String × Nat)} (hw : ∀ d ∈ tables_1, d.before a0 Z = true) (hEL : EW Z a0 EL) {h : Heap} (hO : Ext Z.heap h) {va q0 q1 q2 q3 e0 e1 e2 e3 : Addr} (KN : Kn Z va q0 q1 q2 q3 e0 e1 e2 e3) :
    Met l Z EL [] (⟨NK, "values", "()[Lcom/example/fondsmith/fondsmith/model/Name$Kind;"⟩ : MethodName) prog_53_method_1_code 0 (some (.array (.object NK))) { frames := 1, cells := 1, slots := 4, locals := 14 } #[] h (Ret fun v h' => ∃ x, v = .ref x ∧ Ext h h' ∧ Ali Z h' x (.object NK) [.ref q0, .ref q1, .ref q2, .ref q3]) := by
  obtain ⟨sv, ⟨cl, Acl, FC, hcl⟩, Eva, s0, s1, s2, s3, f0, f1, f2, f3, S0, S1, S2, S3⟩ := KN
  refine Met.intro pnNK hEL hO ?_
  intro p e s m below meth c T W hby hml hret hnm
  have D : ∀ {pc : Nat} {r}, decode prog_53_method_1_code pc = r → decode c.code pc = r := fun q => hb hby q
  refine Go.cast (efVa m) ?_
  refine g_getstatic W (pc' := 3) (host := "") (Or.inl (hw _ (List.mem_of_getElem? (i := 83) rfl))) Via.refl (sv.ext W.old) (D va_0) rfl (fun T W => ?_)
  have hsz : cl.slots.size = 4 := by rw [← Array.length_toList, hcl]; rfl
  refine g_clone W (pc' := 6) (Acl.ext W.old) (FC) (by rw [hsz]; decide) (Eva.ext W.old) (hw _ (List.mem_of_getElem? (i := 85) rfl)) (hw _ (List.mem_of_getElem? (i := 86) rfl)) (hw _ (List.mem_of_getElem? (i := 90) rfl)) (hw _ (List.mem_of_getElem? (i := 88) rfl)) (hw _ (List.mem_of_getElem? (i := 89) rfl)) (hw _ (List.mem_of_getElem? (i := 91) rfl)) (by rw [hml]; rfl) (D va_3) rfl (by decide) (Wn := 0) (Nat.le_refl _) (by decide) (cap := 4) (by rw [hsz]; exact Nat.le_refl _) (by decide) (by decide) (fun x T h1 hx W E B => ?_)
  rw [hcl] at B
  refine g_checkcast W (pc' := 9) (hw _ (List.mem_of_getElem? (i := 97) rfl)) (Ins.self B.2) (D va_6) rfl (fun T W => ?_)
  exact g_areturn W (D va_9) hret rfl rfl (by decide) (by decide) ⟨_, rfl, x, rfl, E, B.1⟩
theorem of_0 : decode prog_53_method_5_code 0 = .ok (.invokestatic 39, 3) := by decide +kernel
theorem of_3 : decode prog_53_method_5_code 3 = .ok (.astore_n 1, 1) := by decide +kernel
theorem of_4 : decode prog_53_method_5_code 4 = .ok (.aload_n 1, 1) := by decide +kernel
theorem of_5 : decode prog_53_method_5_code 5 = .ok (.arraylength, 1) := by decide +kernel
theorem of_6 : decode prog_53_method_5_code 6 = .ok (.istore_n 2, 1) := by decide +kernel
theorem of_7 : decode prog_53_method_5_code 7 = .ok (.iconst 0, 1) := by decide +kernel
theorem of_8 : decode prog_53_method_5_code 8 = .ok (.istore_n 3, 1) := by decide +kernel
theorem of_9 : decode prog_53_method_5_code 9 = .ok (.iload_n 3, 1) := by decide +kernel
theorem of_10 : decode prog_53_method_5_code 10 = .ok (.iload_n 2, 1) := by decide +kernel
theorem of_11 : decode prog_53_method_5_code 11 = .ok (.if_icmp .ge 29, 3) := by decide +kernel
theorem of_14 : decode prog_53_method_5_code 14 = .ok (.aload_n 1, 1) := by decide +kernel
theorem of_15 : decode prog_53_method_5_code 15 = .ok (.iload_n 3, 1) := by decide +kernel
theorem of_16 : decode prog_53_method_5_code 16 = .ok (.aaload, 1) := by decide +kernel
theorem of_17 : decode prog_53_method_5_code 17 = .ok (.astore 4, 2) := by decide +kernel
theorem of_19 : decode prog_53_method_5_code 19 = .ok (.aload 4, 2) := by decide +kernel
theorem of_21 : decode prog_53_method_5_code 21 = .ok (.getfield 35, 3) := by decide +kernel
theorem of_24 : decode prog_53_method_5_code 24 = .ok (.aload_n 0, 1) := by decide +kernel
theorem of_25 : decode prog_53_method_5_code 25 = .ok (.invokevirtual 43, 3) := by decide +kernel
theorem of_28 : decode prog_53_method_5_code 28 = .ok (.ifCond .eq 6, 3) := by decide +kernel
theorem of_31 : decode prog_53_method_5_code 31 = .ok (.aload 4, 2) := by decide +kernel
theorem of_33 : decode prog_53_method_5_code 33 = .ok (.areturn, 1) := by decide +kernel
theorem of_34 : decode prog_53_method_5_code 34 = .ok (.iinc 3 1, 3) := by decide +kernel
theorem of_37 : decode prog_53_method_5_code 37 = .ok (.goto (-28), 3) := by decide +kernel
theorem of_40 : decode prog_53_method_5_code 40 = .ok (.aconst_null, 1) := by decide +kernel
theorem of_41 : decode prog_53_method_5_code 41 = .ok (.areturn, 1) := by decide +kernel
theorem efOf (m : MethodId) (x0 : Addr) : entryFrame m #[.ref x0] 5 = mkF m 0 #[.val (.ref x0), .unset, .unset, .unset, .unset] [] := by first | (simp [entryFrame, mkF, argsToLocals, Value.category, maxLocals]; done) | rfl
theorem efOfN (m : MethodId)  : entryFrame m #[.null] 5 = mkF m 0 #[.val .null, .unset, .unset, .unset, .unset] [] := by first | (simp [entryFrame, mkF, argsToLocals, Value.category, maxLocals]; done) | rfl
set_option maxRecDepth 65536 in
set_option maxHeartbeats 4000000 in
theorem t_of (l : Launch) {Z : State} {a0 : Array Value} {EL : List (String × Nat)} (hw : ∀ d ∈ tables_1, d.before a0 Z = true) (hEL : EW Z a0 EL) (cst : Cst Z) {h : Heap} (hO : Ext Z.heap h) {va q0 q1 q2 q3 e0 e1 e2 e3 : Addr} (KN : Kn Z va q0 q1 q2 q3 e0 e1 e2 e3) {a : Addr} {ss : List Int32} (S : Str Z h a ss) : Met l Z EL [] (⟨NK, "of", "(Ljava/lang/String;)Lcom/example/fondsmith/fondsmith/model/Name$Kind;"⟩ : MethodName) prog_53_method_5_code 5 (some (.object NK)) { frames := 2, cells := 1, slots := 4, locals := 29 } #[.ref a] h (Ret fun v h' => v = kres q0 q1 q2 q3 ss ∧ Ext h h') := by
  refine Met.intro pnNK hEL hO ?_
  intro p e s m below meth c T W hby hml hret hnm
  have D : ∀ {pc : Nat} {r}, decode prog_53_method_5_code pc = r → decode c.code pc = r := fun q => hb hby q
  refine Go.cast (efOf m a) ?_
  refine g_callS W (t_values l hw hEL W.old KN) (fun x q => nomatch q) (hw _ (List.mem_of_getElem? (i := 80) rfl)) (hw _ (List.mem_of_getElem? (i := 81) rfl)) (hw _ (List.mem_of_getElem? (i := 78) rfl)) (hw _ (List.mem_of_getElem? (i := 82) rfl)) (by decide) (by decide +kernel : parseMethodDescriptor "()[Lcom/example/fondsmith/fondsmith/model/Name$Kind;" = some ⟨[], some (.array (.object "com/example/fondsmith/fondsmith/model/Name$Kind"))⟩) (argsL := []) rfl rfl (pc' := 3) rfl (by rw [hml]; rfl) (D of_0) rfl (Wn := 0) (Nat.le_refl _) (by decide) (by decide) (by decide) (by decide) (fun v T h1 W hg hQ => ?_)
  obtain ⟨sv, ⟨cl, Acl, FC, hcl⟩, Eva, s0, s1, s2, s3, f0, f1, f2, f3, S0, S1, S2, S3⟩ := KN
  obtain ⟨xa, rfl, E1, Aa⟩ := hQ
  refine g_astoreN W (pc' := 4) (D of_3) rfl (by first | rfl | assumption) (ls' := #[_, _, _, _, _]) rfl ?_
  refine g_aloadN W (pc' := 5) (D of_4) rfl rfl (by first | rfl | assumption) ?_
  refine g_arraylength W (pc' := 6) (Aa) (z := (4 : Int32)) (rfl) (D of_5) rfl ?_
  refine g_istoreN W (pc' := 7) (D of_6) rfl (ls' := #[_, _, _, _, _]) rfl ?_
  refine g_iconst W (pc' := 8) (D of_7) rfl (v := (0 : Int32)) (by decide) ?_
  refine g_istoreN W (pc' := 9) (D of_8) rfl (ls' := #[_, _, _, _, _]) rfl ?_
  refine g_iloadN W (pc' := 10) (D of_9) rfl rfl ?_
  refine g_iloadN W (pc' := 11) (D of_10) rfl rfl ?_
  refine g_icmpgeN W (pc1 := 40) (pc2 := 14) (D of_11) (by decide) (by decide) rfl (by decide) ?_
  refine g_aloadN W (pc' := 15) (D of_14) rfl rfl (by first | rfl | assumption) ?_
  refine g_iloadN W (pc' := 16) (D of_15) rfl rfl ?_
  refine g_aaload W (pc' := 17) (Aa) rfl (i := 0) (by decide) (by decide) (v := .ref q0) rfl (D of_16) rfl ?_
  refine g_astore W (pc' := 19) (D of_17) rfl (by first | rfl | assumption) (ls' := #[_, _, _, _, _]) rfl ?_
  refine g_aload W (pc' := 21) (D of_19) rfl rfl (by first | rfl | assumption) ?_
  refine g_getfield W (pc' := 24) (host := "") (Or.inl (hw _ (List.mem_of_getElem? (i := 99) rfl))) Via.refl (f0.ext W.old) (D of_21) rfl (fun T W => ?_)
  refine g_aloadN W (pc' := 25) (D of_24) rfl rfl (by first | rfl | assumption) ?_
  refine g_equals W hw cst (S0.ext W.old) (S.ext E1) (hw _ (List.mem_of_getElem? (i := 101) rfl)) (pc' := 28) (by rw [hml]; rfl) (D of_25) rfl (Wn := 0) (Nat.le_refl _) (by decide) (by decide) (by decide) (by decide) (fun T W => ?_)
  by_cases k0 : C0 = ss
  · rw [if_pos k0]
    refine g_ifeqN W (pc1 := 34) (pc2 := 31) (D of_28) (by decide) (by decide) rfl (by decide) ?_
    refine g_aload W (pc' := 33) (D of_31) rfl rfl (by first | rfl | assumption) ?_
    exact g_areturn W (D of_33) hret rfl rfl (by decide) (by decide) ⟨_, rfl, by unfold kres; rw [if_pos k0.symm], E1⟩
  · rw [if_neg k0]
    refine g_ifeqY W (pc1 := 34) (pc2 := 31) (D of_28) (by decide) (by decide) rfl (rfl) ?_
    refine g_iinc W (pc' := 37) (D of_34) rfl rfl (ls' := #[_, _, _, _, _]) rfl ?_
    refine g_goto W (pc' := 9) (D of_37) (by decide) (by decide) ?_
    refine g_iloadN W (pc' := 10) (D of_9) rfl rfl ?_
    refine g_iloadN W (pc' := 11) (D of_10) rfl rfl ?_
    refine g_icmpgeN W (pc1 := 40) (pc2 := 14) (D of_11) (by decide) (by decide) rfl (by decide) ?_
    refine g_aloadN W (pc' := 15) (D of_14) rfl rfl (by first | rfl | assumption) ?_
    refine g_iloadN W (pc' := 16) (D of_15) rfl rfl ?_
    refine g_aaload W (pc' := 17) (Aa) rfl (i := 1) (by decide) (by decide) (v := .ref q1) rfl (D of_16) rfl ?_
    refine g_astore W (pc' := 19) (D of_17) rfl (by first | rfl | assumption) (ls' := #[_, _, _, _, _]) rfl ?_
    refine g_aload W (pc' := 21) (D of_19) rfl rfl (by first | rfl | assumption) ?_
    refine g_getfield W (pc' := 24) (host := "") (Or.inl (hw _ (List.mem_of_getElem? (i := 99) rfl))) Via.refl (f1.ext W.old) (D of_21) rfl (fun T W => ?_)
    refine g_aloadN W (pc' := 25) (D of_24) rfl rfl (by first | rfl | assumption) ?_
    refine g_equals W hw cst (S1.ext W.old) (S.ext E1) (hw _ (List.mem_of_getElem? (i := 101) rfl)) (pc' := 28) (by rw [hml]; rfl) (D of_25) rfl (Wn := 0) (Nat.le_refl _) (by decide) (by decide) (by decide) (by decide) (fun T W => ?_)
    by_cases k1 : C1 = ss
    · rw [if_pos k1]
      refine g_ifeqN W (pc1 := 34) (pc2 := 31) (D of_28) (by decide) (by decide) rfl (by decide) ?_
      refine g_aload W (pc' := 33) (D of_31) rfl rfl (by first | rfl | assumption) ?_
      exact g_areturn W (D of_33) hret rfl rfl (by decide) (by decide) ⟨_, rfl, by unfold kres; rw [if_neg (Ne.symm k0), if_pos k1.symm], E1⟩
    · rw [if_neg k1]
      refine g_ifeqY W (pc1 := 34) (pc2 := 31) (D of_28) (by decide) (by decide) rfl (rfl) ?_
      refine g_iinc W (pc' := 37) (D of_34) rfl rfl (ls' := #[_, _, _, _, _]) rfl ?_
      refine g_goto W (pc' := 9) (D of_37) (by decide) (by decide) ?_
      refine g_iloadN W (pc' := 10) (D of_9) rfl rfl ?_
      refine g_iloadN W (pc' := 11) (D of_10) rfl rfl ?_
      refine g_icmpgeN W (pc1 := 40) (pc2 := 14) (D of_11) (by decide) (by decide) rfl (by decide) ?_
      refine g_aloadN W (pc' := 15) (D of_14) rfl rfl (by first | rfl | assumption) ?_
      refine g_iloadN W (pc' := 16) (D of_15) rfl rfl ?_
      refine g_aaload W (pc' := 17) (Aa) rfl (i := 2) (by decide) (by decide) (v := .ref q2) rfl (D of_16) rfl ?_
      refine g_astore W (pc' := 19) (D of_17) rfl (by first | rfl | assumption) (ls' := #[_, _, _, _, _]) rfl ?_
      refine g_aload W (pc' := 21) (D of_19) rfl rfl (by first | rfl | assumption) ?_
      refine g_getfield W (pc' := 24) (host := "") (Or.inl (hw _ (List.mem_of_getElem? (i := 99) rfl))) Via.refl (f2.ext W.old) (D of_21) rfl (fun T W => ?_)
      refine g_aloadN W (pc' := 25) (D of_24) rfl rfl (by first | rfl | assumption) ?_
      refine g_equals W hw cst (S2.ext W.old) (S.ext E1) (hw _ (List.mem_of_getElem? (i := 101) rfl)) (pc' := 28) (by rw [hml]; rfl) (D of_25) rfl (Wn := 0) (Nat.le_refl _) (by decide) (by decide) (by decide) (by decide) (fun T W => ?_)
      by_cases k2 : C2 = ss
      · rw [if_pos k2]
        refine g_ifeqN W (pc1 := 34) (pc2 := 31) (D of_28) (by decide) (by decide) rfl (by decide) ?_
        refine g_aload W (pc' := 33) (D of_31) rfl rfl (by first | rfl | assumption) ?_
        exact g_areturn W (D of_33) hret rfl rfl (by decide) (by decide) ⟨_, rfl, by unfold kres; rw [if_neg (Ne.symm k0), if_neg (Ne.symm k1), if_pos k2.symm], E1⟩
      · rw [if_neg k2]
        refine g_ifeqY W (pc1 := 34) (pc2 := 31) (D of_28) (by decide) (by decide) rfl (rfl) ?_
        refine g_iinc W (pc' := 37) (D of_34) rfl rfl (ls' := #[_, _, _, _, _]) rfl ?_
        refine g_goto W (pc' := 9) (D of_37) (by decide) (by decide) ?_
        refine g_iloadN W (pc' := 10) (D of_9) rfl rfl ?_
        refine g_iloadN W (pc' := 11) (D of_10) rfl rfl ?_
        refine g_icmpgeN W (pc1 := 40) (pc2 := 14) (D of_11) (by decide) (by decide) rfl (by decide) ?_
        refine g_aloadN W (pc' := 15) (D of_14) rfl rfl (by first | rfl | assumption) ?_
        refine g_iloadN W (pc' := 16) (D of_15) rfl rfl ?_
        refine g_aaload W (pc' := 17) (Aa) rfl (i := 3) (by decide) (by decide) (v := .ref q3) rfl (D of_16) rfl ?_
        refine g_astore W (pc' := 19) (D of_17) rfl (by first | rfl | assumption) (ls' := #[_, _, _, _, _]) rfl ?_
        refine g_aload W (pc' := 21) (D of_19) rfl rfl (by first | rfl | assumption) ?_
        refine g_getfield W (pc' := 24) (host := "") (Or.inl (hw _ (List.mem_of_getElem? (i := 99) rfl))) Via.refl (f3.ext W.old) (D of_21) rfl (fun T W => ?_)
        refine g_aloadN W (pc' := 25) (D of_24) rfl rfl (by first | rfl | assumption) ?_
        refine g_equals W hw cst (S3.ext W.old) (S.ext E1) (hw _ (List.mem_of_getElem? (i := 101) rfl)) (pc' := 28) (by rw [hml]; rfl) (D of_25) rfl (Wn := 0) (Nat.le_refl _) (by decide) (by decide) (by decide) (by decide) (fun T W => ?_)
        by_cases k3 : C3 = ss
        · rw [if_pos k3]
          refine g_ifeqN W (pc1 := 34) (pc2 := 31) (D of_28) (by decide) (by decide) rfl (by decide) ?_
          refine g_aload W (pc' := 33) (D of_31) rfl rfl (by first | rfl | assumption) ?_
          exact g_areturn W (D of_33) hret rfl rfl (by decide) (by decide) ⟨_, rfl, by unfold kres; rw [if_neg (Ne.symm k0), if_neg (Ne.symm k1), if_neg (Ne.symm k2), if_pos k3.symm], E1⟩
        · rw [if_neg k3]
          refine g_ifeqY W (pc1 := 34) (pc2 := 31) (D of_28) (by decide) (by decide) rfl (rfl) ?_
          refine g_iinc W (pc' := 37) (D of_34) rfl rfl (ls' := #[_, _, _, _, _]) rfl ?_
          refine g_goto W (pc' := 9) (D of_37) (by decide) (by decide) ?_
          refine g_iloadN W (pc' := 10) (D of_9) rfl rfl ?_
          refine g_iloadN W (pc' := 11) (D of_10) rfl rfl ?_
          refine g_icmpgeY W (pc1 := 40) (pc2 := 14) (D of_11) (by decide) (by decide) rfl (by decide) ?_
          refine g_aconst_null W (pc' := 41) (D of_40) rfl ?_
          exact g_areturn W (D of_41) hret rfl rfl (by decide) (by decide) ⟨_, rfl, by unfold kres; rw [if_neg (Ne.symm k0), if_neg (Ne.symm k1), if_neg (Ne.symm k2), if_neg (Ne.symm k3)], E1⟩
set_option maxRecDepth 65536 in
set_option maxHeartbeats 4000000 in
theorem t_ofN (l : Launch) {Z : State} {a0 : Array Value} {EL : List (String × Nat)} (hw : ∀ d ∈ tables_1, d.before a0 Z = true) (hEL : EW Z a0 EL) (cst : Cst Z) {h : Heap} (hO : Ext Z.heap h) {va q0 q1 q2 q3 e0 e1 e2 e3 : Addr} (KN : Kn Z va q0 q1 q2 q3 e0 e1 e2 e3) : Met l Z EL [] (⟨NK, "of", "(Ljava/lang/String;)Lcom/example/fondsmith/fondsmith/model/Name$Kind;"⟩ : MethodName) prog_53_method_5_code 5 (some (.object NK)) { frames := 2, cells := 1, slots := 4, locals := 29 } #[.null] h (Ret fun v h' => v = .null ∧ Ext h h') := by
  refine Met.intro pnNK hEL hO ?_
  intro p e s m below meth c T W hby hml hret hnm
  have D : ∀ {pc : Nat} {r}, decode prog_53_method_5_code pc = r → decode c.code pc = r := fun q => hb hby q
  refine Go.cast (efOfN m) ?_
  refine g_callS W (t_values l hw hEL W.old KN) (fun x q => nomatch q) (hw _ (List.mem_of_getElem? (i := 80) rfl)) (hw _ (List.mem_of_getElem? (i := 81) rfl)) (hw _ (List.mem_of_getElem? (i := 78) rfl)) (hw _ (List.mem_of_getElem? (i := 82) rfl)) (by decide) (by decide +kernel : parseMethodDescriptor "()[Lcom/example/fondsmith/fondsmith/model/Name$Kind;" = some ⟨[], some (.array (.object "com/example/fondsmith/fondsmith/model/Name$Kind"))⟩) (argsL := []) rfl rfl (pc' := 3) rfl (by rw [hml]; rfl) (D of_0) rfl (Wn := 0) (Nat.le_refl _) (by decide) (by decide) (by decide) (by decide) (fun v T h1 W hg hQ => ?_)
  obtain ⟨sv, ⟨cl, Acl, FC, hcl⟩, Eva, s0, s1, s2, s3, f0, f1, f2, f3, S0, S1, S2, S3⟩ := KN
  obtain ⟨xa, rfl, E1, Aa⟩ := hQ
  refine g_astoreN W (pc' := 4) (D of_3) rfl (by first | rfl | assumption) (ls' := #[_, _, _, _, _]) rfl ?_
  refine g_aloadN W (pc' := 5) (D of_4) rfl rfl (by first | rfl | assumption) ?_
  refine g_arraylength W (pc' := 6) (Aa) (z := (4 : Int32)) (rfl) (D of_5) rfl ?_
  refine g_istoreN W (pc' := 7) (D of_6) rfl (ls' := #[_, _, _, _, _]) rfl ?_
  refine g_iconst W (pc' := 8) (D of_7) rfl (v := (0 : Int32)) (by decide) ?_
  refine g_istoreN W (pc' := 9) (D of_8) rfl (ls' := #[_, _, _, _, _]) rfl ?_
  refine g_iloadN W (pc' := 10) (D of_9) rfl rfl ?_
  refine g_iloadN W (pc' := 11) (D of_10) rfl rfl ?_
  refine g_icmpgeN W (pc1 := 40) (pc2 := 14) (D of_11) (by decide) (by decide) rfl (by decide) ?_
  refine g_aloadN W (pc' := 15) (D of_14) rfl rfl (by first | rfl | assumption) ?_
  refine g_iloadN W (pc' := 16) (D of_15) rfl rfl ?_
  refine g_aaload W (pc' := 17) (Aa) rfl (i := 0) (by decide) (by decide) (v := .ref q0) rfl (D of_16) rfl ?_
  refine g_astore W (pc' := 19) (D of_17) rfl (by first | rfl | assumption) (ls' := #[_, _, _, _, _]) rfl ?_
  refine g_aload W (pc' := 21) (D of_19) rfl rfl (by first | rfl | assumption) ?_
  refine g_getfield W (pc' := 24) (host := "") (Or.inl (hw _ (List.mem_of_getElem? (i := 99) rfl))) Via.refl (f0.ext W.old) (D of_21) rfl (fun T W => ?_)
  refine g_aloadN W (pc' := 25) (D of_24) rfl rfl (by first | rfl | assumption) ?_
  refine g_virt W (t_eqNull l hEL W.old) (fun x q => nomatch q) rfl (hw _ (List.mem_of_getElem? (i := 101) rfl)) (hw _ (List.mem_of_getElem? (i := 102) rfl)) (hw _ (List.mem_of_getElem? (i := 104) rfl)) (hw _ (List.mem_of_getElem? (i := 103) rfl)) (hw _ (List.mem_of_getElem? (i := 5) rfl)) (hw _ (List.mem_of_getElem? (i := 105) rfl)) (by decide) (by decide +kernel : parseMethodDescriptor "(Ljava/lang/Object;)Z" = some ⟨[(.object "java/lang/Object")], some .boolean⟩) ((S0.ext W.old).1) (argsL := [_]) rfl rfl (pc' := 28) rfl (by rw [hml]; rfl) (D of_25) rfl (Wn := 0) (Nat.le_refl _) (by decide) (by decide) (by decide) (by decide) (fun v T h2 W hg hQ => ?_)
  obtain ⟨rfl, rfl⟩ := hQ
  refine g_ifeqY W (pc1 := 34) (pc2 := 31) (D of_28) (by decide) (by decide) rfl (rfl) ?_
  refine g_iinc W (pc' := 37) (D of_34) rfl rfl (ls' := #[_, _, _, _, _]) rfl ?_
  refine g_goto W (pc' := 9) (D of_37) (by decide) (by decide) ?_
  refine g_iloadN W (pc' := 10) (D of_9) rfl rfl ?_
  refine g_iloadN W (pc' := 11) (D of_10) rfl rfl ?_
  refine g_icmpgeN W (pc1 := 40) (pc2 := 14) (D of_11) (by decide) (by decide) rfl (by decide) ?_
  refine g_aloadN W (pc' := 15) (D of_14) rfl rfl (by first | rfl | assumption) ?_
  refine g_iloadN W (pc' := 16) (D of_15) rfl rfl ?_
  refine g_aaload W (pc' := 17) (Aa) rfl (i := 1) (by decide) (by decide) (v := .ref q1) rfl (D of_16) rfl ?_
  refine g_astore W (pc' := 19) (D of_17) rfl (by first | rfl | assumption) (ls' := #[_, _, _, _, _]) rfl ?_
  refine g_aload W (pc' := 21) (D of_19) rfl rfl (by first | rfl | assumption) ?_
  refine g_getfield W (pc' := 24) (host := "") (Or.inl (hw _ (List.mem_of_getElem? (i := 99) rfl))) Via.refl (f1.ext W.old) (D of_21) rfl (fun T W => ?_)
  refine g_aloadN W (pc' := 25) (D of_24) rfl rfl (by first | rfl | assumption) ?_
  refine g_virt W (t_eqNull l hEL W.old) (fun x q => nomatch q) rfl (hw _ (List.mem_of_getElem? (i := 101) rfl)) (hw _ (List.mem_of_getElem? (i := 102) rfl)) (hw _ (List.mem_of_getElem? (i := 104) rfl)) (hw _ (List.mem_of_getElem? (i := 103) rfl)) (hw _ (List.mem_of_getElem? (i := 5) rfl)) (hw _ (List.mem_of_getElem? (i := 105) rfl)) (by decide) (by decide +kernel : parseMethodDescriptor "(Ljava/lang/Object;)Z" = some ⟨[(.object "java/lang/Object")], some .boolean⟩) ((S1.ext W.old).1) (argsL := [_]) rfl rfl (pc' := 28) rfl (by rw [hml]; rfl) (D of_25) rfl (Wn := 0) (Nat.le_refl _) (by decide) (by decide) (by decide) (by decide) (fun v T h2 W hg hQ => ?_)
  obtain ⟨rfl, rfl⟩ := hQ
  refine g_ifeqY W (pc1 := 34) (pc2 := 31) (D of_28) (by decide) (by decide) rfl (rfl) ?_
  refine g_iinc W (pc' := 37) (D of_34) rfl rfl (ls' := #[_, _, _, _, _]) rfl ?_
  refine g_goto W (pc' := 9) (D of_37) (by decide) (by decide) ?_
  refine g_iloadN W (pc' := 10) (D of_9) rfl rfl ?_
  refine g_iloadN W (pc' := 11) (D of_10) rfl rfl ?_
  refine g_icmpgeN W (pc1 := 40) (pc2 := 14) (D of_11) (by decide) (by decide) rfl (by decide) ?_
  refine g_aloadN W (pc' := 15) (D of_14) rfl rfl (by first | rfl | assumption) ?_
  refine g_iloadN W (pc' := 16) (D of_15) rfl rfl ?_
  refine g_aaload W (pc' := 17) (Aa) rfl (i := 2) (by decide) (by decide) (v := .ref q2) rfl (D of_16) rfl ?_
  refine g_astore W (pc' := 19) (D of_17) rfl (by first | rfl | assumption) (ls' := #[_, _, _, _, _]) rfl ?_
  refine g_aload W (pc' := 21) (D of_19) rfl rfl (by first | rfl | assumption) ?_
  refine g_getfield W (pc' := 24) (host := "") (Or.inl (hw _ (List.mem_of_getElem? (i := 99) rfl))) Via.refl (f2.ext W.old) (D of_21) rfl (fun T W => ?_)
  refine g_aloadN W (pc' := 25) (D of_24) rfl rfl (by first | rfl | assumption) ?_
  refine g_virt W (t_eqNull l hEL W.old) (fun x q => nomatch q) rfl (hw _ (List.mem_of_getElem? (i := 101) rfl)) (hw _ (List.mem_of_getElem? (i := 102) rfl)) (hw _ (List.mem_of_getElem? (i := 104) rfl)) (hw _ (List.mem_of_getElem? (i := 103) rfl)) (hw _ (List.mem_of_getElem? (i := 5) rfl)) (hw _ (List.mem_of_getElem? (i := 105) rfl)) (by decide) (by decide +kernel : parseMethodDescriptor "(Ljava/lang/Object;)Z" = some ⟨[(.object "java/lang/Object")], some .boolean⟩) ((S2.ext W.old).1) (argsL := [_]) rfl rfl (pc' := 28) rfl (by rw [hml]; rfl) (D of_25) rfl (Wn := 0) (Nat.le_refl _) (by decide) (by decide) (by decide) (by decide) (fun v T h2 W hg hQ => ?_)
  obtain ⟨rfl, rfl⟩ := hQ
  refine g_ifeqY W (pc1 := 34) (pc2 := 31) (D of_28) (by decide) (by decide) rfl (rfl) ?_
  refine g_iinc W (pc' := 37) (D of_34) rfl rfl (ls' := #[_, _, _, _, _]) rfl ?_
  refine g_goto W (pc' := 9) (D of_37) (by decide) (by decide) ?_
  refine g_iloadN W (pc' := 10) (D of_9) rfl rfl ?_
  refine g_iloadN W (pc' := 11) (D of_10) rfl rfl ?_
  refine g_icmpgeN W (pc1 := 40) (pc2 := 14) (D of_11) (by decide) (by decide) rfl (by decide) ?_
  refine g_aloadN W (pc' := 15) (D of_14) rfl rfl (by first | rfl | assumption) ?_
  refine g_iloadN W (pc' := 16) (D of_15) rfl rfl ?_
  refine g_aaload W (pc' := 17) (Aa) rfl (i := 3) (by decide) (by decide) (v := .ref q3) rfl (D of_16) rfl ?_
  refine g_astore W (pc' := 19) (D of_17) rfl (by first | rfl | assumption) (ls' := #[_, _, _, _, _]) rfl ?_
  refine g_aload W (pc' := 21) (D of_19) rfl rfl (by first | rfl | assumption) ?_
  refine g_getfield W (pc' := 24) (host := "") (Or.inl (hw _ (List.mem_of_getElem? (i := 99) rfl))) Via.refl (f3.ext W.old) (D of_21) rfl (fun T W => ?_)
  refine g_aloadN W (pc' := 25) (D of_24) rfl rfl (by first | rfl | assumption) ?_
  refine g_virt W (t_eqNull l hEL W.old) (fun x q => nomatch q) rfl (hw _ (List.mem_of_getElem? (i := 101) rfl)) (hw _ (List.mem_of_getElem? (i := 102) rfl)) (hw _ (List.mem_of_getElem? (i := 104) rfl)) (hw _ (List.mem_of_getElem? (i := 103) rfl)) (hw _ (List.mem_of_getElem? (i := 5) rfl)) (hw _ (List.mem_of_getElem? (i := 105) rfl)) (by decide) (by decide +kernel : parseMethodDescriptor "(Ljava/lang/Object;)Z" = some ⟨[(.object "java/lang/Object")], some .boolean⟩) ((S3.ext W.old).1) (argsL := [_]) rfl rfl (pc' := 28) rfl (by rw [hml]; rfl) (D of_25) rfl (Wn := 0) (Nat.le_refl _) (by decide) (by decide) (by decide) (by decide) (fun v T h2 W hg hQ => ?_)
  obtain ⟨rfl, rfl⟩ := hQ
  refine g_ifeqY W (pc1 := 34) (pc2 := 31) (D of_28) (by decide) (by decide) rfl (rfl) ?_
  refine g_iinc W (pc' := 37) (D of_34) rfl rfl (ls' := #[_, _, _, _, _]) rfl ?_
  refine g_goto W (pc' := 9) (D of_37) (by decide) (by decide) ?_
  refine g_iloadN W (pc' := 10) (D of_9) rfl rfl ?_
  refine g_iloadN W (pc' := 11) (D of_10) rfl rfl ?_
  refine g_icmpgeY W (pc1 := 40) (pc2 := 14) (D of_11) (by decide) (by decide) rfl (by decide) ?_
  refine g_aconst_null W (pc' := 41) (D of_40) rfl ?_
  exact g_areturn W (D of_41) hret rfl rfl (by decide) (by decide) ⟨_, rfl, rfl, E1⟩
theorem ex_0 : decode method_3_code 0 = .ok (.aload_n 0, 1) := by decide +kernel
theorem ex_1 : decode method_3_code 1 = .ok (.ifnonnull 5, 3) := by decide +kernel
theorem ex_4 : decode method_3_code 4 = .ok (.aconst_null, 1) := by decide +kernel
theorem ex_5 : decode method_3_code 5 = .ok (.areturn, 1) := by decide +kernel
theorem ex_6 : decode method_3_code 6 = .ok (.aload_n 0, 1) := by decide +kernel
theorem ex_7 : decode method_3_code 7 = .ok (.ldc 37, 2) := by decide +kernel
theorem ex_9 : decode method_3_code 9 = .ok (.invokevirtual 39, 3) := by decide +kernel
theorem ex_12 : decode method_3_code 12 = .ok (.ifCond .eq 7, 3) := by decide +kernel
theorem ex_15 : decode method_3_code 15 = .ok (.getstatic 43, 3) := by decide +kernel
theorem ex_18 : decode method_3_code 18 = .ok (.areturn, 1) := by decide +kernel
theorem ex_19 : decode method_3_code 19 = .ok (.aload_n 0, 1) := by decide +kernel
theorem ex_20 : decode method_3_code 20 = .ok (.ldc 47, 2) := by decide +kernel
theorem ex_22 : decode method_3_code 22 = .ok (.invokevirtual 39, 3) := by decide +kernel
theorem ex_25 : decode method_3_code 25 = .ok (.ifCond .eq 7, 3) := by decide +kernel
theorem ex_28 : decode method_3_code 28 = .ok (.getstatic 49, 3) := by decide +kernel
theorem ex_31 : decode method_3_code 31 = .ok (.areturn, 1) := by decide +kernel
theorem ex_32 : decode method_3_code 32 = .ok (.aload_n 0, 1) := by decide +kernel
theorem ex_33 : decode method_3_code 33 = .ok (.ldc 52, 2) := by decide +kernel
theorem ex_35 : decode method_3_code 35 = .ok (.invokevirtual 39, 3) := by decide +kernel
theorem ex_38 : decode method_3_code 38 = .ok (.ifCond .eq 7, 3) := by decide +kernel
theorem ex_41 : decode method_3_code 41 = .ok (.getstatic 54, 3) := by decide +kernel
theorem ex_44 : decode method_3_code 44 = .ok (.areturn, 1) := by decide +kernel
theorem ex_45 : decode method_3_code 45 = .ok (.aload_n 0, 1) := by decide +kernel
theorem ex_46 : decode method_3_code 46 = .ok (.ldc 57, 2) := by decide +kernel
theorem ex_48 : decode method_3_code 48 = .ok (.invokevirtual 39, 3) := by decide +kernel
theorem ex_51 : decode method_3_code 51 = .ok (.ifCond .eq 7, 3) := by decide +kernel
theorem ex_54 : decode method_3_code 54 = .ok (.getstatic 59, 3) := by decide +kernel
theorem ex_57 : decode method_3_code 57 = .ok (.areturn, 1) := by decide +kernel
theorem ex_58 : decode method_3_code 58 = .ok (.aconst_null, 1) := by decide +kernel
theorem ex_59 : decode method_3_code 59 = .ok (.areturn, 1) := by decide +kernel
theorem efEx (m : MethodId) (x0 : Addr) : entryFrame m #[.ref x0] 1 = mkF m 0 #[.val (.ref x0)] [] := by first | (simp [entryFrame, mkF, argsToLocals, Value.category, maxLocals]; done) | rfl
theorem efExN (m : MethodId)  : entryFrame m #[.null] 1 = mkF m 0 #[.val .null] [] := by first | (simp [entryFrame, mkF, argsToLocals, Value.category, maxLocals]; done) | rfl
set_option maxRecDepth 65536 in
set_option maxHeartbeats 4000000 in
theorem t_expN (l : Launch) {Z : State} {a0 : Array Value} (hw : ∀ d ∈ tables_1, d.before a0 Z = true) (hEL : EW Z a0 consts_1) (cst : Cst Z) {h : Heap} (hO : Ext Z.heap h) {va q0 q1 q2 q3 e0 e1 e2 e3 : Addr} (KN : Kn Z va q0 q1 q2 q3 e0 e1 e2 e3) : Met l Z consts_1 [] (⟨LW, "expected", "(Ljava/lang/String;)Lcom/example/fondsmith/fondsmith/model/Name$Kind;"⟩ : MethodName) method_3_code 1 (some (.object NK)) { frames := 2, cells := 8, slots := 136, locals := 28 } #[.null] h (Ret fun v h' => v = .null) := by
  refine Met.intro pnLW hEL hO ?_
  intro p e s m below meth c T W hby hml hret hnm
  have D : ∀ {pc : Nat} {r}, decode method_3_code pc = r → decode c.code pc = r := fun q => hb hby q
  refine Go.cast (efExN m) ?_
  refine g_aloadN W (pc' := 1) (D ex_0) rfl rfl (by first | rfl | assumption) ?_
  refine g_ifnonnullN W (pc1 := 6) (pc2 := 4) (D ex_1) (by decide) (by decide) rfl ?_
  refine g_aconst_null W (pc' := 5) (D ex_4) rfl ?_
  exact g_areturn W (D ex_5) hret rfl rfl (by decide) (by decide) ⟨_, rfl, rfl⟩
set_option maxRecDepth 65536 in
set_option maxHeartbeats 4000000 in
theorem t_exp (l : Launch) {Z : State} {a0 : Array Value} (hw : ∀ d ∈ tables_1, d.before a0 Z = true) (hEL : EW Z a0 consts_1) (cst : Cst Z) {h : Heap} (hO : Ext Z.heap h) {va q0 q1 q2 q3 e0 e1 e2 e3 : Addr} (KN : Kn Z va q0 q1 q2 q3 e0 e1 e2 e3) {a : Addr} {ss : List Int32} (S : Str Z h a ss) : Met l Z consts_1 [] (⟨LW, "expected", "(Ljava/lang/String;)Lcom/example/fondsmith/fondsmith/model/Name$Kind;"⟩ : MethodName) method_3_code 1 (some (.object NK)) { frames := 2, cells := 8, slots := 136, locals := 28 } #[.ref a] h (Ret fun v h' => v = kres q0 q1 q2 q3 ss) := by
  obtain ⟨sv, ⟨cl, Acl, FC, hcl⟩, Eva, s0, s1, s2, s3, f0, f1, f2, f3, S0, S1, S2, S3⟩ := KN
  refine Met.intro pnLW hEL hO ?_
  intro p e s m below meth c T W hby hml hret hnm
  have D : ∀ {pc : Nat} {r}, decode method_3_code pc = r → decode c.code pc = r := fun q => hb hby q
  refine Go.cast (efEx m a) ?_
  have wS := own_wS hw
  refine g_aloadN W (pc' := 1) (D ex_0) rfl rfl (by first | rfl | assumption) ?_
  refine g_ifnonnullY W (pc1 := 6) (pc2 := 4) (D ex_1) (by decide) (by decide) rfl ?_
  refine g_aloadN W (pc' := 7) (D ex_6) rfl rfl (by first | rfl | assumption) ?_
  refine g_ldcS W (pc' := 9) (text := "persname") (cs := [112, 101, 114, 115, 110, 97, 109, 101]) (hw _ (List.mem_of_getElem? (i := 4) rfl)) wS (by decide) (by decide +kernel) (by unfold Latin; decide) (by decide) (nn := 32) (by decide) (by decide) (D ex_7) rfl (by decide) (by decide) (fun b T h0 W E1 S1 => ?_)
  replace S := S.ext E1
  refine g_equals W hw cst (S) (S1) (hw _ (List.mem_of_getElem? (i := 113) rfl)) (pc' := 12) (by rw [hml]; rfl) (D ex_9) rfl (Wn := 0) (Nat.le_refl _) (by decide) (by decide) (by decide) (by decide) (fun T W => ?_)
  by_cases k0 : ss = C0
  · rw [if_pos k0]
    refine g_ifeqN W (pc1 := 19) (pc2 := 15) (D ex_12) (by decide) (by decide) rfl (by decide) ?_
    refine g_getstatic W (pc' := 18) (host := "") (Or.inl (hw _ (List.mem_of_getElem? (i := 123) rfl))) Via.refl (s0.ext W.old) (D ex_15) rfl (fun T W => ?_)
    exact g_areturn W (D ex_18) hret rfl rfl (by decide) (by decide) ⟨_, rfl, by unfold kres; rw [if_pos k0]⟩
  · rw [if_neg k0]
    refine g_ifeqY W (pc1 := 19) (pc2 := 15) (D ex_12) (by decide) (by decide) rfl (rfl) ?_
    refine g_aloadN W (pc' := 20) (D ex_19) rfl rfl (by first | rfl | assumption) ?_
    refine g_ldcS W (pc' := 22) (text := "corpname") (cs := [99, 111, 114, 112, 110, 97, 109, 101]) (hw _ (List.mem_of_getElem? (i := 114) rfl)) wS (by decide) (by decide +kernel) (by unfold Latin; decide) (by decide) (nn := 32) (by decide) (by decide) (D ex_20) rfl (by decide) (by decide) (fun b T h1 W E1 S1 => ?_)
    replace S := S.ext E1
    refine g_equals W hw cst (S) (S1) (hw _ (List.mem_of_getElem? (i := 113) rfl)) (pc' := 25) (by rw [hml]; rfl) (D ex_22) rfl (Wn := 0) (Nat.le_refl _) (by decide) (by decide) (by decide) (by decide) (fun T W => ?_)
    by_cases k1 : ss = C1
    · rw [if_pos k1]
      refine g_ifeqN W (pc1 := 32) (pc2 := 28) (D ex_25) (by decide) (by decide) rfl (by decide) ?_
      refine g_getstatic W (pc' := 31) (host := "") (Or.inl (hw _ (List.mem_of_getElem? (i := 120) rfl))) Via.refl (s1.ext W.old) (D ex_28) rfl (fun T W => ?_)
      exact g_areturn W (D ex_31) hret rfl rfl (by decide) (by decide) ⟨_, rfl, by unfold kres; rw [if_neg k0, if_pos k1]⟩
    · rw [if_neg k1]
      refine g_ifeqY W (pc1 := 32) (pc2 := 28) (D ex_25) (by decide) (by decide) rfl (rfl) ?_
      refine g_aloadN W (pc' := 33) (D ex_32) rfl rfl (by first | rfl | assumption) ?_
      refine g_ldcS W (pc' := 35) (text := "famname") (cs := [102, 97, 109, 110, 97, 109, 101]) (hw _ (List.mem_of_getElem? (i := 115) rfl)) wS (by decide) (by decide +kernel) (by unfold Latin; decide) (by decide) (nn := 28) (by decide) (by decide) (D ex_33) rfl (by decide) (by decide) (fun b T h2 W E1 S1 => ?_)
      replace S := S.ext E1
      refine g_equals W hw cst (S) (S1) (hw _ (List.mem_of_getElem? (i := 113) rfl)) (pc' := 38) (by rw [hml]; rfl) (D ex_35) rfl (Wn := 0) (Nat.le_refl _) (by decide) (by decide) (by decide) (by decide) (fun T W => ?_)
      by_cases k2 : ss = C2
      · rw [if_pos k2]
        refine g_ifeqN W (pc1 := 45) (pc2 := 41) (D ex_38) (by decide) (by decide) rfl (by decide) ?_
        refine g_getstatic W (pc' := 44) (host := "") (Or.inl (hw _ (List.mem_of_getElem? (i := 119) rfl))) Via.refl (s2.ext W.old) (D ex_41) rfl (fun T W => ?_)
        exact g_areturn W (D ex_44) hret rfl rfl (by decide) (by decide) ⟨_, rfl, by unfold kres; rw [if_neg k0, if_neg k1, if_pos k2]⟩
      · rw [if_neg k2]
        refine g_ifeqY W (pc1 := 45) (pc2 := 41) (D ex_38) (by decide) (by decide) rfl (rfl) ?_
        refine g_aloadN W (pc' := 46) (D ex_45) rfl rfl (by first | rfl | assumption) ?_
        refine g_ldcS W (pc' := 48) (text := "name") (cs := [110, 97, 109, 101]) (hw _ (List.mem_of_getElem? (i := 116) rfl)) wS (by decide) (by decide +kernel) (by unfold Latin; decide) (by decide) (nn := 16) (by decide) (by decide) (D ex_46) rfl (by decide) (by decide) (fun b T h3 W E1 S1 => ?_)
        replace S := S.ext E1
        refine g_equals W hw cst (S) (S1) (hw _ (List.mem_of_getElem? (i := 113) rfl)) (pc' := 51) (by rw [hml]; rfl) (D ex_48) rfl (Wn := 0) (Nat.le_refl _) (by decide) (by decide) (by decide) (by decide) (fun T W => ?_)
        by_cases k3 : ss = C3
        · rw [if_pos k3]
          refine g_ifeqN W (pc1 := 58) (pc2 := 54) (D ex_51) (by decide) (by decide) rfl (by decide) ?_
          refine g_getstatic W (pc' := 57) (host := "") (Or.inl (hw _ (List.mem_of_getElem? (i := 122) rfl))) Via.refl (s3.ext W.old) (D ex_54) rfl (fun T W => ?_)
          exact g_areturn W (D ex_57) hret rfl rfl (by decide) (by decide) ⟨_, rfl, by unfold kres; rw [if_neg k0, if_neg k1, if_neg k2, if_pos k3]⟩
        · rw [if_neg k3]
          refine g_ifeqY W (pc1 := 58) (pc2 := 54) (D ex_51) (by decide) (by decide) rfl (rfl) ?_
          refine g_aconst_null W (pc' := 59) (D ex_58) rfl ?_
          exact g_areturn W (D ex_59) hret rfl rfl (by decide) (by decide) ⟨_, rfl, by unfold kres; rw [if_neg k0, if_neg k1, if_neg k2, if_neg k3]⟩
theorem ba_0 : decode method_4_code 0 = .ok (.iload_n 0, 1) := by decide +kernel
theorem ba_1 : decode method_4_code 1 = .ok (.ifCond .ne 6, 3) := by decide +kernel
theorem ba_4 : decode method_4_code 4 = .ok (.ldc 37, 2) := by decide +kernel
theorem ba_6 : decode method_4_code 6 = .ok (.areturn, 1) := by decide +kernel
theorem ba_7 : decode method_4_code 7 = .ok (.iload_n 0, 1) := by decide +kernel
theorem ba_8 : decode method_4_code 8 = .ok (.iconst 1, 1) := by decide +kernel
theorem ba_9 : decode method_4_code 9 = .ok (.if_icmp .ne 6, 3) := by decide +kernel
theorem ba_12 : decode method_4_code 12 = .ok (.ldc 47, 2) := by decide +kernel
theorem ba_14 : decode method_4_code 14 = .ok (.areturn, 1) := by decide +kernel
theorem ba_15 : decode method_4_code 15 = .ok (.iload_n 0, 1) := by decide +kernel
theorem ba_16 : decode method_4_code 16 = .ok (.iconst 2, 1) := by decide +kernel
theorem ba_17 : decode method_4_code 17 = .ok (.if_icmp .ne 6, 3) := by decide +kernel
theorem ba_20 : decode method_4_code 20 = .ok (.ldc 52, 2) := by decide +kernel
theorem ba_22 : decode method_4_code 22 = .ok (.areturn, 1) := by decide +kernel
theorem ba_23 : decode method_4_code 23 = .ok (.iload_n 0, 1) := by decide +kernel
theorem ba_24 : decode method_4_code 24 = .ok (.iconst 3, 1) := by decide +kernel
theorem ba_25 : decode method_4_code 25 = .ok (.if_icmp .ne 6, 3) := by decide +kernel
theorem ba_28 : decode method_4_code 28 = .ok (.ldc 57, 2) := by decide +kernel
theorem ba_30 : decode method_4_code 30 = .ok (.areturn, 1) := by decide +kernel
theorem ba_31 : decode method_4_code 31 = .ok (.iload_n 0, 1) := by decide +kernel
theorem ba_32 : decode method_4_code 32 = .ok (.iconst 4, 1) := by decide +kernel
theorem ba_33 : decode method_4_code 33 = .ok (.if_icmp .ne 6, 3) := by decide +kernel
theorem ba_36 : decode method_4_code 36 = .ok (.ldc 62, 2) := by decide +kernel
theorem ba_38 : decode method_4_code 38 = .ok (.areturn, 1) := by decide +kernel
theorem ba_39 : decode method_4_code 39 = .ok (.iload_n 0, 1) := by decide +kernel
theorem ba_40 : decode method_4_code 40 = .ok (.iconst 5, 1) := by decide +kernel
theorem ba_41 : decode method_4_code 41 = .ok (.if_icmp .ne 6, 3) := by decide +kernel
theorem ba_44 : decode method_4_code 44 = .ok (.ldc 64, 2) := by decide +kernel
theorem ba_46 : decode method_4_code 46 = .ok (.areturn, 1) := by decide +kernel
theorem ba_47 : decode method_4_code 47 = .ok (.iload_n 0, 1) := by decide +kernel
theorem ba_48 : decode method_4_code 48 = .ok (.bipush 6, 2) := by decide +kernel
theorem ba_50 : decode method_4_code 50 = .ok (.if_icmp .ne 6, 3) := by decide +kernel
theorem ba_53 : decode method_4_code 53 = .ok (.ldc 66, 2) := by decide +kernel
theorem ba_55 : decode method_4_code 55 = .ok (.areturn, 1) := by decide +kernel
theorem ba_56 : decode method_4_code 56 = .ok (.ldc 68, 2) := by decide +kernel
theorem ba_58 : decode method_4_code 58 = .ok (.areturn, 1) := by decide +kernel
theorem efBa (m : MethodId) (x0 : Int32) : entryFrame m #[.int x0] 1 = mkF m 0 #[.val (.int x0)] [] := by first | (simp [entryFrame, mkF, argsToLocals, Value.category, maxLocals]; done) | rfl
set_option maxRecDepth 65536 in
set_option maxHeartbeats 4000000 in
theorem t_base (l : Launch) {Z : State} {a0 : Array Value} (hw : ∀ d ∈ tables_1, d.before a0 Z = true) (hEL : EW Z a0 consts_1) {h : Heap} (hO : Ext Z.heap h) {i : Int32} :
    Met l Z consts_1 [] (⟨LW, "base", "(I)Ljava/lang/String;"⟩ : MethodName) method_4_code 1 (some (.object "java/lang/String")) { frames := 0, cells := 2, slots := 36, locals := 0 } #[.int i] h (Ret fun v h' => ∃ x cs, v = .ref x ∧ Ext h h' ∧ Str Z h' x cs ∧ 4 ≤ cs.length ∧ cs.length ≤ 8) := by
  refine Met.intro pnLW hEL hO ?_
  intro p e s m below meth c T W hby hml hret hnm
  have D : ∀ {pc : Nat} {r}, decode method_4_code pc = r → decode c.code pc = r := fun q => hb hby q
  refine Go.cast (efBa m i) ?_
  have wS := own_wS hw
  refine g_iloadN W (pc' := 1) (D ba_0) rfl rfl ?_
  refine g_ifne W (pc1 := 7) (pc2 := 4) (D ba_1) (by decide) (by decide) rfl (fun b0 => ?_) (fun b0 => ?_)
  rotate_left
  · refine g_ldcS W (pc' := 6) (text := "persname") (cs := [112, 101, 114, 115, 110, 97, 109, 101]) (hw _ (List.mem_of_getElem? (i := 4) rfl)) wS (by decide) (by decide +kernel) (by unfold Latin; decide) (by decide) (nn := 32) (by decide) (by decide) (D ba_4) rfl (by decide) (by decide) (fun x T h1 W E1 S1 => ?_)
    exact g_areturn W (D ba_6) hret rfl rfl (by decide) (by decide) ⟨_, rfl, x, _, rfl, E1, S1, by decide, by decide⟩
  · skip
    refine g_iloadN W (pc' := 8) (D ba_7) rfl rfl ?_
    refine g_iconst W (pc' := 9) (D ba_8) rfl (v := (1 : Int32)) (by decide) ?_
    refine g_icmpne W (pc1 := 15) (pc2 := 12) (D ba_9) (by decide) (by decide) rfl (fun b1 => ?_) (fun b1 => ?_)
    rotate_left
    · refine g_ldcS W (pc' := 14) (text := "corpname") (cs := [99, 111, 114, 112, 110, 97, 109, 101]) (hw _ (List.mem_of_getElem? (i := 114) rfl)) wS (by decide) (by decide +kernel) (by unfold Latin; decide) (by decide) (nn := 32) (by decide) (by decide) (D ba_12) rfl (by decide) (by decide) (fun x T h1 W E1 S1 => ?_)
      exact g_areturn W (D ba_14) hret rfl rfl (by decide) (by decide) ⟨_, rfl, x, _, rfl, E1, S1, by decide, by decide⟩
    · skip
      refine g_iloadN W (pc' := 16) (D ba_15) rfl rfl ?_
      refine g_iconst W (pc' := 17) (D ba_16) rfl (v := (2 : Int32)) (by decide) ?_
      refine g_icmpne W (pc1 := 23) (pc2 := 20) (D ba_17) (by decide) (by decide) rfl (fun b2 => ?_) (fun b2 => ?_)
      rotate_left
      · refine g_ldcS W (pc' := 22) (text := "famname") (cs := [102, 97, 109, 110, 97, 109, 101]) (hw _ (List.mem_of_getElem? (i := 115) rfl)) wS (by decide) (by decide +kernel) (by unfold Latin; decide) (by decide) (nn := 28) (by decide) (by decide) (D ba_20) rfl (by decide) (by decide) (fun x T h1 W E1 S1 => ?_)
        exact g_areturn W (D ba_22) hret rfl rfl (by decide) (by decide) ⟨_, rfl, x, _, rfl, E1, S1, by decide, by decide⟩
      · skip
        refine g_iloadN W (pc' := 24) (D ba_23) rfl rfl ?_
        refine g_iconst W (pc' := 25) (D ba_24) rfl (v := (3 : Int32)) (by decide) ?_
        refine g_icmpne W (pc1 := 31) (pc2 := 28) (D ba_25) (by decide) (by decide) rfl (fun b3 => ?_) (fun b3 => ?_)
        rotate_left
        · refine g_ldcS W (pc' := 30) (text := "name") (cs := [110, 97, 109, 101]) (hw _ (List.mem_of_getElem? (i := 116) rfl)) wS (by decide) (by decide +kernel) (by unfold Latin; decide) (by decide) (nn := 16) (by decide) (by decide) (D ba_28) rfl (by decide) (by decide) (fun x T h1 W E1 S1 => ?_)
          exact g_areturn W (D ba_30) hret rfl rfl (by decide) (by decide) ⟨_, rfl, x, _, rfl, E1, S1, by decide, by decide⟩
        · skip
          refine g_iloadN W (pc' := 32) (D ba_31) rfl rfl ?_
          refine g_iconst W (pc' := 33) (D ba_32) rfl (v := (4 : Int32)) (by decide) ?_
          refine g_icmpne W (pc1 := 39) (pc2 := 36) (D ba_33) (by decide) (by decide) rfl (fun b4 => ?_) (fun b4 => ?_)
          rotate_left
          · refine g_ldcS W (pc' := 38) (text := "subject") (cs := [115, 117, 98, 106, 101, 99, 116]) (hw _ (List.mem_of_getElem? (i := 117) rfl)) wS (by decide) (by decide +kernel) (by unfold Latin; decide) (by decide) (nn := 28) (by decide) (by decide) (D ba_36) rfl (by decide) (by decide) (fun x T h1 W E1 S1 => ?_)
            exact g_areturn W (D ba_38) hret rfl rfl (by decide) (by decide) ⟨_, rfl, x, _, rfl, E1, S1, by decide, by decide⟩
          · skip
            refine g_iloadN W (pc' := 40) (D ba_39) rfl rfl ?_
            refine g_iconst W (pc' := 41) (D ba_40) rfl (v := (5 : Int32)) (by decide) ?_
            refine g_icmpne W (pc1 := 47) (pc2 := 44) (D ba_41) (by decide) (by decide) rfl (fun b5 => ?_) (fun b5 => ?_)
            rotate_left
            · refine g_ldcS W (pc' := 46) (text := "geogname") (cs := [103, 101, 111, 103, 110, 97, 109, 101]) (hw _ (List.mem_of_getElem? (i := 121) rfl)) wS (by decide) (by decide +kernel) (by unfold Latin; decide) (by decide) (nn := 32) (by decide) (by decide) (D ba_44) rfl (by decide) (by decide) (fun x T h1 W E1 S1 => ?_)
              exact g_areturn W (D ba_46) hret rfl rfl (by decide) (by decide) ⟨_, rfl, x, _, rfl, E1, S1, by decide, by decide⟩
            · skip
              refine g_iloadN W (pc' := 48) (D ba_47) rfl rfl ?_
              refine g_bipush W (pc' := 50) (D ba_48) rfl (v := (6 : Int32)) (by decide) ?_
              refine g_icmpne W (pc1 := 56) (pc2 := 53) (D ba_50) (by decide) (by decide) rfl (fun b6 => ?_) (fun b6 => ?_)
              rotate_left
              · refine g_ldcS W (pc' := 55) (text := "title") (cs := [116, 105, 116, 108, 101]) (hw _ (List.mem_of_getElem? (i := 124) rfl)) wS (by decide) (by decide +kernel) (by unfold Latin; decide) (by decide) (nn := 20) (by decide) (by decide) (D ba_53) rfl (by decide) (by decide) (fun x T h1 W E1 S1 => ?_)
                exact g_areturn W (D ba_55) hret rfl rfl (by decide) (by decide) ⟨_, rfl, x, _, rfl, E1, S1, by decide, by decide⟩
              · skip
                refine g_ldcS W (pc' := 58) (text := "function") (cs := [102, 117, 110, 99, 116, 105, 111, 110]) (hw _ (List.mem_of_getElem? (i := 118) rfl)) wS (by decide) (by decide +kernel) (by unfold Latin; decide) (by decide) (nn := 32) (by decide) (by decide) (D ba_56) rfl (by decide) (by decide) (fun x T h1 W E1 S1 => ?_)
                exact g_areturn W (D ba_58) hret rfl rfl (by decide) (by decide) ⟨_, rfl, x, _, rfl, E1, S1, by decide, by decide⟩
theorem ta_0 : decode method_5_code 0 = .ok (.iload_n 1, 1) := by decide +kernel
theorem ta_1 : decode method_5_code 1 = .ok (.aload_n 0, 1) := by decide +kernel
theorem ta_2 : decode method_5_code 2 = .ok (.invokevirtual 13, 3) := by decide +kernel
theorem ta_5 : decode method_5_code 5 = .ok (.if_icmp .ge 11, 3) := by decide +kernel
theorem ta_8 : decode method_5_code 8 = .ok (.aload_n 0, 1) := by decide +kernel
theorem ta_9 : decode method_5_code 9 = .ok (.iload_n 1, 1) := by decide +kernel
theorem ta_10 : decode method_5_code 10 = .ok (.invokevirtual 70, 3) := by decide +kernel
theorem ta_13 : decode method_5_code 13 = .ok (.goto 4, 3) := by decide +kernel
theorem ta_16 : decode method_5_code 16 = .ok (.iload_n 2, 1) := by decide +kernel
theorem ta_17 : decode method_5_code 17 = .ok (.ireturn, 1) := by decide +kernel
theorem efAt (m : MethodId) (x0 : Addr) (x1 : Int32) (x2 : Int32) : entryFrame m #[.ref x0, .int x1, .int x2] 3 = mkF m 0 #[.val (.ref x0), .val (.int x1), .val (.int x2)] [] := by first | (simp [entryFrame, mkF, argsToLocals, Value.category, maxLocals]; done) | rfl
set_option maxRecDepth 65536 in
set_option maxHeartbeats 4000000 in
theorem t_at (l : Launch) {Z : State} {a0 : Array Value} (hw : ∀ d ∈ tables_1, d.before a0 Z = true) (hEL : EW Z a0 consts_1) (cst : Cst Z) (fst : Fst Z) {h : Heap} (hO : Ext Z.heap h) {a : Addr} {cs : List Int32} (S : Str Z h a cs) {i ch : Int32} (hi : ¬ i < 0) (hc : Lc ch) :
    Met l Z consts_1 [] (⟨LW, "at", "(Ljava/lang/String;IC)C"⟩ : MethodName) method_5_code 3 (some .char) { frames := 4, cells := 0, slots := 0, locals := 53 } #[.ref a, .int i, .int ch] h (Ret fun v h' => ∃ z, v = .int z ∧ Lc z ∧ h = h') := by
  refine Met.intro pnLW hEL hO ?_
  intro p e s m below meth c T W hby hml hret hnm
  have D : ∀ {pc : Nat} {r}, decode method_5_code pc = r → decode c.code pc = r := fun q => hb hby q
  refine Go.cast (efAt m a i ch) ?_
  have h4 := S.2.2.2.2
  refine g_iloadN W (pc' := 1) (D ta_0) rfl rfl ?_
  refine g_aloadN W (pc' := 2) (D ta_1) rfl rfl (by first | rfl | assumption) ?_
  refine g_len W hw cst (S) (hw _ (List.mem_of_getElem? (i := 12) rfl)) (pc' := 5) (by rw [hml]; rfl) (D ta_2) rfl (Wn := 1) (Nat.le_refl _) (by decide) (by decide) (by decide) (by decide) (rfl) (fun T W => ?_)
  refine g_icmpge W (pc1 := 16) (pc2 := 8) (D ta_5) (by decide) (by decide) rfl (fun q => ?_) (fun q => ?_)
  · refine g_iloadN W (pc' := 17) (D ta_16) rfl rfl ?_
    exact g_retc W (D ta_17) hret hc.nar (by decide) (by decide) ⟨_, rfl, _, rfl, hc, rfl⟩
  · refine g_aloadN W (pc' := 9) (D ta_8) rfl rfl (by first | rfl | assumption) ?_
    refine g_iloadN W (pc' := 10) (D ta_9) rfl rfl ?_
    refine g_charAt W hw cst fst (S) (hw _ (List.mem_of_getElem? (i := 29) rfl)) (pc' := 13) (by rw [hml]; rfl) (D ta_10) rfl (Wn := 0) (Nat.le_refl _) (by decide) (by decide) (by decide) (by decide) (eq_nat hi) (lt_nat hi (by omega) q) (fun T W => ?_)
    refine g_goto W (pc' := 17) (D ta_13) (by decide) (by decide) ?_
    exact g_retc W (D ta_17) hret (S.2.2.2.1.get _).nar (by decide) (by decide) ⟨_, rfl, _, rfl, S.2.2.2.1.get _, rfl⟩
theorem st_0 : decode method_6_code 0 = .ok (.iload_n 1, 1) := by decide +kernel
theorem st_1 : decode method_6_code 1 = .ok (.iconst 3, 1) := by decide +kernel
theorem st_2 : decode method_6_code 2 = .ok (.if_icmp .gt 32, 3) := by decide +kernel
theorem st_5 : decode method_6_code 5 = .ok (.new 14, 3) := by decide +kernel
theorem st_8 : decode method_6_code 8 = .ok (.dup, 1) := by decide +kernel
theorem st_9 : decode method_6_code 9 = .ok (.iconst 3, 1) := by decide +kernel
theorem st_10 : decode method_6_code 10 = .ok (.newarray .char, 2) := by decide +kernel
theorem st_12 : decode method_6_code 12 = .ok (.dup, 1) := by decide +kernel
theorem st_13 : decode method_6_code 13 = .ok (.iconst 0, 1) := by decide +kernel
theorem st_14 : decode method_6_code 14 = .ok (.aload_n 0, 1) := by decide +kernel
theorem st_15 : decode method_6_code 15 = .ok (.iconst 0, 1) := by decide +kernel
theorem st_16 : decode method_6_code 16 = .ok (.caload, 1) := by decide +kernel
theorem st_17 : decode method_6_code 17 = .ok (.castore, 1) := by decide +kernel
theorem st_18 : decode method_6_code 18 = .ok (.dup, 1) := by decide +kernel
theorem st_19 : decode method_6_code 19 = .ok (.iconst 1, 1) := by decide +kernel
theorem st_20 : decode method_6_code 20 = .ok (.aload_n 0, 1) := by decide +kernel
theorem st_21 : decode method_6_code 21 = .ok (.iconst 1, 1) := by decide +kernel
theorem st_22 : decode method_6_code 22 = .ok (.caload, 1) := by decide +kernel
theorem st_23 : decode method_6_code 23 = .ok (.castore, 1) := by decide +kernel
theorem st_24 : decode method_6_code 24 = .ok (.dup, 1) := by decide +kernel
theorem st_25 : decode method_6_code 25 = .ok (.iconst 2, 1) := by decide +kernel
theorem st_26 : decode method_6_code 26 = .ok (.aload_n 0, 1) := by decide +kernel
theorem st_27 : decode method_6_code 27 = .ok (.iconst 2, 1) := by decide +kernel
theorem st_28 : decode method_6_code 28 = .ok (.caload, 1) := by decide +kernel
theorem st_29 : decode method_6_code 29 = .ok (.castore, 1) := by decide +kernel
theorem st_30 : decode method_6_code 30 = .ok (.invokespecial 74, 3) := by decide +kernel
theorem st_33 : decode method_6_code 33 = .ok (.areturn, 1) := by decide +kernel
theorem st_34 : decode method_6_code 34 = .ok (.iload_n 1, 1) := by decide +kernel
theorem st_35 : decode method_6_code 35 = .ok (.iconst 4, 1) := by decide +kernel
theorem st_36 : decode method_6_code 36 = .ok (.if_icmp .ne 38, 3) := by decide +kernel
theorem st_39 : decode method_6_code 39 = .ok (.new 14, 3) := by decide +kernel
theorem st_42 : decode method_6_code 42 = .ok (.dup, 1) := by decide +kernel
theorem st_43 : decode method_6_code 43 = .ok (.iconst 4, 1) := by decide +kernel
theorem st_44 : decode method_6_code 44 = .ok (.newarray .char, 2) := by decide +kernel
theorem st_46 : decode method_6_code 46 = .ok (.dup, 1) := by decide +kernel
theorem st_47 : decode method_6_code 47 = .ok (.iconst 0, 1) := by decide +kernel
theorem st_48 : decode method_6_code 48 = .ok (.aload_n 0, 1) := by decide +kernel
theorem st_49 : decode method_6_code 49 = .ok (.iconst 0, 1) := by decide +kernel
theorem st_50 : decode method_6_code 50 = .ok (.caload, 1) := by decide +kernel
theorem st_51 : decode method_6_code 51 = .ok (.castore, 1) := by decide +kernel
theorem st_52 : decode method_6_code 52 = .ok (.dup, 1) := by decide +kernel
theorem st_53 : decode method_6_code 53 = .ok (.iconst 1, 1) := by decide +kernel
theorem st_54 : decode method_6_code 54 = .ok (.aload_n 0, 1) := by decide +kernel
theorem st_55 : decode method_6_code 55 = .ok (.iconst 1, 1) := by decide +kernel
theorem st_56 : decode method_6_code 56 = .ok (.caload, 1) := by decide +kernel
theorem st_57 : decode method_6_code 57 = .ok (.castore, 1) := by decide +kernel
theorem st_58 : decode method_6_code 58 = .ok (.dup, 1) := by decide +kernel
theorem st_59 : decode method_6_code 59 = .ok (.iconst 2, 1) := by decide +kernel
theorem st_60 : decode method_6_code 60 = .ok (.aload_n 0, 1) := by decide +kernel
theorem st_61 : decode method_6_code 61 = .ok (.iconst 2, 1) := by decide +kernel
theorem st_62 : decode method_6_code 62 = .ok (.caload, 1) := by decide +kernel
theorem st_63 : decode method_6_code 63 = .ok (.castore, 1) := by decide +kernel
theorem st_64 : decode method_6_code 64 = .ok (.dup, 1) := by decide +kernel
theorem st_65 : decode method_6_code 65 = .ok (.iconst 3, 1) := by decide +kernel
theorem st_66 : decode method_6_code 66 = .ok (.aload_n 0, 1) := by decide +kernel
theorem st_67 : decode method_6_code 67 = .ok (.iconst 3, 1) := by decide +kernel
theorem st_68 : decode method_6_code 68 = .ok (.caload, 1) := by decide +kernel
theorem st_69 : decode method_6_code 69 = .ok (.castore, 1) := by decide +kernel
theorem st_70 : decode method_6_code 70 = .ok (.invokespecial 74, 3) := by decide +kernel
theorem st_73 : decode method_6_code 73 = .ok (.areturn, 1) := by decide +kernel
theorem st_74 : decode method_6_code 74 = .ok (.iload_n 1, 1) := by decide +kernel
theorem st_75 : decode method_6_code 75 = .ok (.iconst 5, 1) := by decide +kernel
theorem st_76 : decode method_6_code 76 = .ok (.if_icmp .ne 44, 3) := by decide +kernel
theorem st_79 : decode method_6_code 79 = .ok (.new 14, 3) := by decide +kernel
theorem st_82 : decode method_6_code 82 = .ok (.dup, 1) := by decide +kernel
theorem st_83 : decode method_6_code 83 = .ok (.iconst 5, 1) := by decide +kernel
theorem st_84 : decode method_6_code 84 = .ok (.newarray .char, 2) := by decide +kernel
theorem st_86 : decode method_6_code 86 = .ok (.dup, 1) := by decide +kernel
theorem st_87 : decode method_6_code 87 = .ok (.iconst 0, 1) := by decide +kernel
theorem st_88 : decode method_6_code 88 = .ok (.aload_n 0, 1) := by decide +kernel
theorem st_89 : decode method_6_code 89 = .ok (.iconst 0, 1) := by decide +kernel
theorem st_90 : decode method_6_code 90 = .ok (.caload, 1) := by decide +kernel
theorem st_91 : decode method_6_code 91 = .ok (.castore, 1) := by decide +kernel
theorem st_92 : decode method_6_code 92 = .ok (.dup, 1) := by decide +kernel
theorem st_93 : decode method_6_code 93 = .ok (.iconst 1, 1) := by decide +kernel
theorem st_94 : decode method_6_code 94 = .ok (.aload_n 0, 1) := by decide +kernel
theorem st_95 : decode method_6_code 95 = .ok (.iconst 1, 1) := by decide +kernel
theorem st_96 : decode method_6_code 96 = .ok (.caload, 1) := by decide +kernel
theorem st_97 : decode method_6_code 97 = .ok (.castore, 1) := by decide +kernel
theorem st_98 : decode method_6_code 98 = .ok (.dup, 1) := by decide +kernel
theorem st_99 : decode method_6_code 99 = .ok (.iconst 2, 1) := by decide +kernel
theorem st_100 : decode method_6_code 100 = .ok (.aload_n 0, 1) := by decide +kernel
theorem st_101 : decode method_6_code 101 = .ok (.iconst 2, 1) := by decide +kernel
theorem st_102 : decode method_6_code 102 = .ok (.caload, 1) := by decide +kernel
theorem st_103 : decode method_6_code 103 = .ok (.castore, 1) := by decide +kernel
theorem st_104 : decode method_6_code 104 = .ok (.dup, 1) := by decide +kernel
theorem st_105 : decode method_6_code 105 = .ok (.iconst 3, 1) := by decide +kernel
theorem st_106 : decode method_6_code 106 = .ok (.aload_n 0, 1) := by decide +kernel
theorem st_107 : decode method_6_code 107 = .ok (.iconst 3, 1) := by decide +kernel
theorem st_108 : decode method_6_code 108 = .ok (.caload, 1) := by decide +kernel
theorem st_109 : decode method_6_code 109 = .ok (.castore, 1) := by decide +kernel
theorem st_110 : decode method_6_code 110 = .ok (.dup, 1) := by decide +kernel
theorem st_111 : decode method_6_code 111 = .ok (.iconst 4, 1) := by decide +kernel
theorem st_112 : decode method_6_code 112 = .ok (.aload_n 0, 1) := by decide +kernel
theorem st_113 : decode method_6_code 113 = .ok (.iconst 4, 1) := by decide +kernel
theorem st_114 : decode method_6_code 114 = .ok (.caload, 1) := by decide +kernel
theorem st_115 : decode method_6_code 115 = .ok (.castore, 1) := by decide +kernel
theorem st_116 : decode method_6_code 116 = .ok (.invokespecial 74, 3) := by decide +kernel
theorem st_119 : decode method_6_code 119 = .ok (.areturn, 1) := by decide +kernel
theorem st_120 : decode method_6_code 120 = .ok (.iload_n 1, 1) := by decide +kernel
theorem st_121 : decode method_6_code 121 = .ok (.bipush 6, 2) := by decide +kernel
theorem st_123 : decode method_6_code 123 = .ok (.if_icmp .ne 51, 3) := by decide +kernel
theorem st_126 : decode method_6_code 126 = .ok (.new 14, 3) := by decide +kernel
theorem st_129 : decode method_6_code 129 = .ok (.dup, 1) := by decide +kernel
theorem st_130 : decode method_6_code 130 = .ok (.bipush 6, 2) := by decide +kernel
theorem st_132 : decode method_6_code 132 = .ok (.newarray .char, 2) := by decide +kernel
theorem st_134 : decode method_6_code 134 = .ok (.dup, 1) := by decide +kernel
theorem st_135 : decode method_6_code 135 = .ok (.iconst 0, 1) := by decide +kernel
theorem st_136 : decode method_6_code 136 = .ok (.aload_n 0, 1) := by decide +kernel
theorem st_137 : decode method_6_code 137 = .ok (.iconst 0, 1) := by decide +kernel
theorem st_138 : decode method_6_code 138 = .ok (.caload, 1) := by decide +kernel
theorem st_139 : decode method_6_code 139 = .ok (.castore, 1) := by decide +kernel
theorem st_140 : decode method_6_code 140 = .ok (.dup, 1) := by decide +kernel
theorem st_141 : decode method_6_code 141 = .ok (.iconst 1, 1) := by decide +kernel
theorem st_142 : decode method_6_code 142 = .ok (.aload_n 0, 1) := by decide +kernel
theorem st_143 : decode method_6_code 143 = .ok (.iconst 1, 1) := by decide +kernel
theorem st_144 : decode method_6_code 144 = .ok (.caload, 1) := by decide +kernel
theorem st_145 : decode method_6_code 145 = .ok (.castore, 1) := by decide +kernel
theorem st_146 : decode method_6_code 146 = .ok (.dup, 1) := by decide +kernel
theorem st_147 : decode method_6_code 147 = .ok (.iconst 2, 1) := by decide +kernel
theorem st_148 : decode method_6_code 148 = .ok (.aload_n 0, 1) := by decide +kernel
theorem st_149 : decode method_6_code 149 = .ok (.iconst 2, 1) := by decide +kernel
theorem st_150 : decode method_6_code 150 = .ok (.caload, 1) := by decide +kernel
theorem st_151 : decode method_6_code 151 = .ok (.castore, 1) := by decide +kernel
theorem st_152 : decode method_6_code 152 = .ok (.dup, 1) := by decide +kernel
theorem st_153 : decode method_6_code 153 = .ok (.iconst 3, 1) := by decide +kernel
theorem st_154 : decode method_6_code 154 = .ok (.aload_n 0, 1) := by decide +kernel
theorem st_155 : decode method_6_code 155 = .ok (.iconst 3, 1) := by decide +kernel
theorem st_156 : decode method_6_code 156 = .ok (.caload, 1) := by decide +kernel
theorem st_157 : decode method_6_code 157 = .ok (.castore, 1) := by decide +kernel
theorem st_158 : decode method_6_code 158 = .ok (.dup, 1) := by decide +kernel
theorem st_159 : decode method_6_code 159 = .ok (.iconst 4, 1) := by decide +kernel
theorem st_160 : decode method_6_code 160 = .ok (.aload_n 0, 1) := by decide +kernel
theorem st_161 : decode method_6_code 161 = .ok (.iconst 4, 1) := by decide +kernel
theorem st_162 : decode method_6_code 162 = .ok (.caload, 1) := by decide +kernel
theorem st_163 : decode method_6_code 163 = .ok (.castore, 1) := by decide +kernel
theorem st_164 : decode method_6_code 164 = .ok (.dup, 1) := by decide +kernel
theorem st_165 : decode method_6_code 165 = .ok (.iconst 5, 1) := by decide +kernel
theorem st_166 : decode method_6_code 166 = .ok (.aload_n 0, 1) := by decide +kernel
theorem st_167 : decode method_6_code 167 = .ok (.iconst 5, 1) := by decide +kernel
theorem st_168 : decode method_6_code 168 = .ok (.caload, 1) := by decide +kernel
theorem st_169 : decode method_6_code 169 = .ok (.castore, 1) := by decide +kernel
theorem st_170 : decode method_6_code 170 = .ok (.invokespecial 74, 3) := by decide +kernel
theorem st_173 : decode method_6_code 173 = .ok (.areturn, 1) := by decide +kernel
theorem st_174 : decode method_6_code 174 = .ok (.iload_n 1, 1) := by decide +kernel
theorem st_175 : decode method_6_code 175 = .ok (.bipush 7, 2) := by decide +kernel
theorem st_177 : decode method_6_code 177 = .ok (.if_icmp .ne 59, 3) := by decide +kernel
theorem st_180 : decode method_6_code 180 = .ok (.new 14, 3) := by decide +kernel
theorem st_183 : decode method_6_code 183 = .ok (.dup, 1) := by decide +kernel
theorem st_184 : decode method_6_code 184 = .ok (.bipush 7, 2) := by decide +kernel
theorem st_186 : decode method_6_code 186 = .ok (.newarray .char, 2) := by decide +kernel
theorem st_188 : decode method_6_code 188 = .ok (.dup, 1) := by decide +kernel
theorem st_189 : decode method_6_code 189 = .ok (.iconst 0, 1) := by decide +kernel
theorem st_190 : decode method_6_code 190 = .ok (.aload_n 0, 1) := by decide +kernel
theorem st_191 : decode method_6_code 191 = .ok (.iconst 0, 1) := by decide +kernel
theorem st_192 : decode method_6_code 192 = .ok (.caload, 1) := by decide +kernel
theorem st_193 : decode method_6_code 193 = .ok (.castore, 1) := by decide +kernel
theorem st_194 : decode method_6_code 194 = .ok (.dup, 1) := by decide +kernel
theorem st_195 : decode method_6_code 195 = .ok (.iconst 1, 1) := by decide +kernel
theorem st_196 : decode method_6_code 196 = .ok (.aload_n 0, 1) := by decide +kernel
theorem st_197 : decode method_6_code 197 = .ok (.iconst 1, 1) := by decide +kernel
theorem st_198 : decode method_6_code 198 = .ok (.caload, 1) := by decide +kernel
theorem st_199 : decode method_6_code 199 = .ok (.castore, 1) := by decide +kernel
theorem st_200 : decode method_6_code 200 = .ok (.dup, 1) := by decide +kernel
theorem st_201 : decode method_6_code 201 = .ok (.iconst 2, 1) := by decide +kernel
theorem st_202 : decode method_6_code 202 = .ok (.aload_n 0, 1) := by decide +kernel
theorem st_203 : decode method_6_code 203 = .ok (.iconst 2, 1) := by decide +kernel
theorem st_204 : decode method_6_code 204 = .ok (.caload, 1) := by decide +kernel
theorem st_205 : decode method_6_code 205 = .ok (.castore, 1) := by decide +kernel
theorem st_206 : decode method_6_code 206 = .ok (.dup, 1) := by decide +kernel
theorem st_207 : decode method_6_code 207 = .ok (.iconst 3, 1) := by decide +kernel
theorem st_208 : decode method_6_code 208 = .ok (.aload_n 0, 1) := by decide +kernel
theorem st_209 : decode method_6_code 209 = .ok (.iconst 3, 1) := by decide +kernel
theorem st_210 : decode method_6_code 210 = .ok (.caload, 1) := by decide +kernel
theorem st_211 : decode method_6_code 211 = .ok (.castore, 1) := by decide +kernel
theorem st_212 : decode method_6_code 212 = .ok (.dup, 1) := by decide +kernel
theorem st_213 : decode method_6_code 213 = .ok (.iconst 4, 1) := by decide +kernel
theorem st_214 : decode method_6_code 214 = .ok (.aload_n 0, 1) := by decide +kernel
theorem st_215 : decode method_6_code 215 = .ok (.iconst 4, 1) := by decide +kernel
theorem st_216 : decode method_6_code 216 = .ok (.caload, 1) := by decide +kernel
theorem st_217 : decode method_6_code 217 = .ok (.castore, 1) := by decide +kernel
theorem st_218 : decode method_6_code 218 = .ok (.dup, 1) := by decide +kernel
theorem st_219 : decode method_6_code 219 = .ok (.iconst 5, 1) := by decide +kernel
theorem st_220 : decode method_6_code 220 = .ok (.aload_n 0, 1) := by decide +kernel
theorem st_221 : decode method_6_code 221 = .ok (.iconst 5, 1) := by decide +kernel
theorem st_222 : decode method_6_code 222 = .ok (.caload, 1) := by decide +kernel
theorem st_223 : decode method_6_code 223 = .ok (.castore, 1) := by decide +kernel
theorem st_224 : decode method_6_code 224 = .ok (.dup, 1) := by decide +kernel
theorem st_225 : decode method_6_code 225 = .ok (.bipush 6, 2) := by decide +kernel
theorem st_227 : decode method_6_code 227 = .ok (.aload_n 0, 1) := by decide +kernel
theorem st_228 : decode method_6_code 228 = .ok (.bipush 6, 2) := by decide +kernel
theorem st_230 : decode method_6_code 230 = .ok (.caload, 1) := by decide +kernel
theorem st_231 : decode method_6_code 231 = .ok (.castore, 1) := by decide +kernel
theorem st_232 : decode method_6_code 232 = .ok (.invokespecial 74, 3) := by decide +kernel
theorem st_235 : decode method_6_code 235 = .ok (.areturn, 1) := by decide +kernel
theorem st_236 : decode method_6_code 236 = .ok (.iload_n 1, 1) := by decide +kernel
theorem st_237 : decode method_6_code 237 = .ok (.bipush 8, 2) := by decide +kernel
theorem st_239 : decode method_6_code 239 = .ok (.if_icmp .ne 67, 3) := by decide +kernel
theorem st_242 : decode method_6_code 242 = .ok (.new 14, 3) := by decide +kernel
theorem st_245 : decode method_6_code 245 = .ok (.dup, 1) := by decide +kernel
theorem st_246 : decode method_6_code 246 = .ok (.bipush 8, 2) := by decide +kernel
theorem st_248 : decode method_6_code 248 = .ok (.newarray .char, 2) := by decide +kernel
theorem st_250 : decode method_6_code 250 = .ok (.dup, 1) := by decide +kernel
theorem st_251 : decode method_6_code 251 = .ok (.iconst 0, 1) := by decide +kernel
theorem st_252 : decode method_6_code 252 = .ok (.aload_n 0, 1) := by decide +kernel
theorem st_253 : decode method_6_code 253 = .ok (.iconst 0, 1) := by decide +kernel
theorem st_254 : decode method_6_code 254 = .ok (.caload, 1) := by decide +kernel
theorem st_255 : decode method_6_code 255 = .ok (.castore, 1) := by decide +kernel
theorem st_256 : decode method_6_code 256 = .ok (.dup, 1) := by decide +kernel
theorem st_257 : decode method_6_code 257 = .ok (.iconst 1, 1) := by decide +kernel
theorem st_258 : decode method_6_code 258 = .ok (.aload_n 0, 1) := by decide +kernel
theorem st_259 : decode method_6_code 259 = .ok (.iconst 1, 1) := by decide +kernel
theorem st_260 : decode method_6_code 260 = .ok (.caload, 1) := by decide +kernel
theorem st_261 : decode method_6_code 261 = .ok (.castore, 1) := by decide +kernel
theorem st_262 : decode method_6_code 262 = .ok (.dup, 1) := by decide +kernel
theorem st_263 : decode method_6_code 263 = .ok (.iconst 2, 1) := by decide +kernel
theorem st_264 : decode method_6_code 264 = .ok (.aload_n 0, 1) := by decide +kernel
theorem st_265 : decode method_6_code 265 = .ok (.iconst 2, 1) := by decide +kernel
theorem st_266 : decode method_6_code 266 = .ok (.caload, 1) := by decide +kernel
theorem st_267 : decode method_6_code 267 = .ok (.castore, 1) := by decide +kernel
theorem st_268 : decode method_6_code 268 = .ok (.dup, 1) := by decide +kernel
theorem st_269 : decode method_6_code 269 = .ok (.iconst 3, 1) := by decide +kernel
theorem st_270 : decode method_6_code 270 = .ok (.aload_n 0, 1) := by decide +kernel
theorem st_271 : decode method_6_code 271 = .ok (.iconst 3, 1) := by decide +kernel
theorem st_272 : decode method_6_code 272 = .ok (.caload, 1) := by decide +kernel
theorem st_273 : decode method_6_code 273 = .ok (.castore, 1) := by decide +kernel
theorem st_274 : decode method_6_code 274 = .ok (.dup, 1) := by decide +kernel
theorem st_275 : decode method_6_code 275 = .ok (.iconst 4, 1) := by decide +kernel
theorem st_276 : decode method_6_code 276 = .ok (.aload_n 0, 1) := by decide +kernel
theorem st_277 : decode method_6_code 277 = .ok (.iconst 4, 1) := by decide +kernel
theorem st_278 : decode method_6_code 278 = .ok (.caload, 1) := by decide +kernel
theorem st_279 : decode method_6_code 279 = .ok (.castore, 1) := by decide +kernel
theorem st_280 : decode method_6_code 280 = .ok (.dup, 1) := by decide +kernel
theorem st_281 : decode method_6_code 281 = .ok (.iconst 5, 1) := by decide +kernel
theorem st_282 : decode method_6_code 282 = .ok (.aload_n 0, 1) := by decide +kernel
theorem st_283 : decode method_6_code 283 = .ok (.iconst 5, 1) := by decide +kernel
theorem st_284 : decode method_6_code 284 = .ok (.caload, 1) := by decide +kernel
theorem st_285 : decode method_6_code 285 = .ok (.castore, 1) := by decide +kernel
theorem st_286 : decode method_6_code 286 = .ok (.dup, 1) := by decide +kernel
theorem st_287 : decode method_6_code 287 = .ok (.bipush 6, 2) := by decide +kernel
theorem st_289 : decode method_6_code 289 = .ok (.aload_n 0, 1) := by decide +kernel
theorem st_290 : decode method_6_code 290 = .ok (.bipush 6, 2) := by decide +kernel
theorem st_292 : decode method_6_code 292 = .ok (.caload, 1) := by decide +kernel
theorem st_293 : decode method_6_code 293 = .ok (.castore, 1) := by decide +kernel
theorem st_294 : decode method_6_code 294 = .ok (.dup, 1) := by decide +kernel
theorem st_295 : decode method_6_code 295 = .ok (.bipush 7, 2) := by decide +kernel
theorem st_297 : decode method_6_code 297 = .ok (.aload_n 0, 1) := by decide +kernel
theorem st_298 : decode method_6_code 298 = .ok (.bipush 7, 2) := by decide +kernel
theorem st_300 : decode method_6_code 300 = .ok (.caload, 1) := by decide +kernel
theorem st_301 : decode method_6_code 301 = .ok (.castore, 1) := by decide +kernel
theorem st_302 : decode method_6_code 302 = .ok (.invokespecial 74, 3) := by decide +kernel
theorem st_305 : decode method_6_code 305 = .ok (.areturn, 1) := by decide +kernel
theorem st_306 : decode method_6_code 306 = .ok (.new 14, 3) := by decide +kernel
theorem st_309 : decode method_6_code 309 = .ok (.dup, 1) := by decide +kernel
theorem st_310 : decode method_6_code 310 = .ok (.bipush 9, 2) := by decide +kernel
theorem st_312 : decode method_6_code 312 = .ok (.newarray .char, 2) := by decide +kernel
theorem st_314 : decode method_6_code 314 = .ok (.dup, 1) := by decide +kernel
theorem st_315 : decode method_6_code 315 = .ok (.iconst 0, 1) := by decide +kernel
theorem st_316 : decode method_6_code 316 = .ok (.aload_n 0, 1) := by decide +kernel
theorem st_317 : decode method_6_code 317 = .ok (.iconst 0, 1) := by decide +kernel
theorem st_318 : decode method_6_code 318 = .ok (.caload, 1) := by decide +kernel
theorem st_319 : decode method_6_code 319 = .ok (.castore, 1) := by decide +kernel
theorem st_320 : decode method_6_code 320 = .ok (.dup, 1) := by decide +kernel
theorem st_321 : decode method_6_code 321 = .ok (.iconst 1, 1) := by decide +kernel
theorem st_322 : decode method_6_code 322 = .ok (.aload_n 0, 1) := by decide +kernel
theorem st_323 : decode method_6_code 323 = .ok (.iconst 1, 1) := by decide +kernel
theorem st_324 : decode method_6_code 324 = .ok (.caload, 1) := by decide +kernel
theorem st_325 : decode method_6_code 325 = .ok (.castore, 1) := by decide +kernel
theorem st_326 : decode method_6_code 326 = .ok (.dup, 1) := by decide +kernel
theorem st_327 : decode method_6_code 327 = .ok (.iconst 2, 1) := by decide +kernel
theorem st_328 : decode method_6_code 328 = .ok (.aload_n 0, 1) := by decide +kernel
theorem st_329 : decode method_6_code 329 = .ok (.iconst 2, 1) := by decide +kernel
theorem st_330 : decode method_6_code 330 = .ok (.caload, 1) := by decide +kernel
theorem st_331 : decode method_6_code 331 = .ok (.castore, 1) := by decide +kernel
theorem st_332 : decode method_6_code 332 = .ok (.dup, 1) := by decide +kernel
theorem st_333 : decode method_6_code 333 = .ok (.iconst 3, 1) := by decide +kernel
theorem st_334 : decode method_6_code 334 = .ok (.aload_n 0, 1) := by decide +kernel
theorem st_335 : decode method_6_code 335 = .ok (.iconst 3, 1) := by decide +kernel
theorem st_336 : decode method_6_code 336 = .ok (.caload, 1) := by decide +kernel
theorem st_337 : decode method_6_code 337 = .ok (.castore, 1) := by decide +kernel
theorem st_338 : decode method_6_code 338 = .ok (.dup, 1) := by decide +kernel
theorem st_339 : decode method_6_code 339 = .ok (.iconst 4, 1) := by decide +kernel
theorem st_340 : decode method_6_code 340 = .ok (.aload_n 0, 1) := by decide +kernel
theorem st_341 : decode method_6_code 341 = .ok (.iconst 4, 1) := by decide +kernel
theorem st_342 : decode method_6_code 342 = .ok (.caload, 1) := by decide +kernel
theorem st_343 : decode method_6_code 343 = .ok (.castore, 1) := by decide +kernel
theorem st_344 : decode method_6_code 344 = .ok (.dup, 1) := by decide +kernel
theorem st_345 : decode method_6_code 345 = .ok (.iconst 5, 1) := by decide +kernel
theorem st_346 : decode method_6_code 346 = .ok (.aload_n 0, 1) := by decide +kernel
theorem st_347 : decode method_6_code 347 = .ok (.iconst 5, 1) := by decide +kernel
theorem st_348 : decode method_6_code 348 = .ok (.caload, 1) := by decide +kernel
theorem st_349 : decode method_6_code 349 = .ok (.castore, 1) := by decide +kernel
theorem st_350 : decode method_6_code 350 = .ok (.dup, 1) := by decide +kernel
theorem st_351 : decode method_6_code 351 = .ok (.bipush 6, 2) := by decide +kernel
theorem st_353 : decode method_6_code 353 = .ok (.aload_n 0, 1) := by decide +kernel
theorem st_354 : decode method_6_code 354 = .ok (.bipush 6, 2) := by decide +kernel
theorem st_356 : decode method_6_code 356 = .ok (.caload, 1) := by decide +kernel
theorem st_357 : decode method_6_code 357 = .ok (.castore, 1) := by decide +kernel
theorem st_358 : decode method_6_code 358 = .ok (.dup, 1) := by decide +kernel
theorem st_359 : decode method_6_code 359 = .ok (.bipush 7, 2) := by decide +kernel
theorem st_361 : decode method_6_code 361 = .ok (.aload_n 0, 1) := by decide +kernel
theorem st_362 : decode method_6_code 362 = .ok (.bipush 7, 2) := by decide +kernel
theorem st_364 : decode method_6_code 364 = .ok (.caload, 1) := by decide +kernel
theorem st_365 : decode method_6_code 365 = .ok (.castore, 1) := by decide +kernel
theorem st_366 : decode method_6_code 366 = .ok (.dup, 1) := by decide +kernel
theorem st_367 : decode method_6_code 367 = .ok (.bipush 8, 2) := by decide +kernel
theorem st_369 : decode method_6_code 369 = .ok (.aload_n 0, 1) := by decide +kernel
theorem st_370 : decode method_6_code 370 = .ok (.bipush 8, 2) := by decide +kernel
theorem st_372 : decode method_6_code 372 = .ok (.caload, 1) := by decide +kernel
theorem st_373 : decode method_6_code 373 = .ok (.castore, 1) := by decide +kernel
theorem st_374 : decode method_6_code 374 = .ok (.invokespecial 74, 3) := by decide +kernel
theorem st_377 : decode method_6_code 377 = .ok (.areturn, 1) := by decide +kernel
theorem efSt (m : MethodId) (x0 : Addr) (x1 : Int32) : entryFrame m #[.ref x0, .int x1] 2 = mkF m 0 #[.val (.ref x0), .val (.int x1)] [] := by first | (simp [entryFrame, mkF, argsToLocals, Value.category, maxLocals]; done) | rfl
set_option maxRecDepth 65536 in
set_option maxHeartbeats 8000000 in
theorem t_str (l : Launch) {Z : State} {a0 : Array Value} (hw : ∀ d ∈ tables_1, d.before a0 Z = true) (hEL : EW Z a0 consts_1) (cst : Cst Z) {h : Heap} (hO : Ext Z.heap h) {a : Addr} {len x0 x1 x2 x3 x4 x5 x6 x7 x8 : Int32} (Aa : Ali Z h a .char ([x0, x1, x2, x3, x4, x5, x6, x7, x8].map Value.int)) (hL : Latin [x0, x1, x2, x3, x4, x5, x6, x7, x8]) :
    Met l Z consts_1 [] (⟨LW, "str", "([CI)Ljava/lang/String;"⟩ : MethodName) method_6_code 2 (some (.object "java/lang/String")) { frames := 4, cells := 3, slots := 30, locals := 70 } #[.ref a, .int len] h (Ret fun v h' => ∃ x ss, v = .ref x ∧ Ext h h' ∧ Str Z h' x ss) := by
  refine Met.intro pnLW hEL hO ?_
  intro p e s m below meth c T W hby hml hret hnm
  have D : ∀ {pc : Nat} {r}, decode method_6_code pc = r → decode c.code pc = r := fun q => hb hby q
  refine Go.cast (efSt m a len) ?_
  have wi : (Jvm.Cond.instantiable "java/lang/String" 4).before a0 Z = true := (hw _ (List.mem_of_getElem? (i := 6) rfl))
  refine g_iloadN W (pc' := 1) (D st_0) rfl rfl ?_
  refine g_iconst W (pc' := 2) (D st_1) rfl (v := (3 : Int32)) (by decide) ?_
  refine g_icmpgt W (pc1 := 34) (pc2 := 5) (D st_2) (by decide) (by decide) rfl (fun b0 => ?_) (fun b0 => ?_)
  rotate_left
  · skip
    have hzh0 := W.old.1
    refine g_newS W (pc' := 8) (hw _ (List.mem_of_getElem? (i := 55) rfl)) wi (hw _ (List.mem_of_getElem? (i := 5) rfl)) (hw _ (List.mem_of_getElem? (i := 8) rfl)) (hw _ (List.mem_of_getElem? (i := 9) rfl)) (D st_5) rfl (by decide) (by decide) (fun x T ga hx W E1 N => ?_)
    refine g_dup W (pc' := 9) (D st_8) rfl rfl ?_
    refine g_iconst W (pc' := 10) (D st_9) rfl (v := (3 : Int32)) (by decide) ?_
    refine g_newarray W (pc' := 12) (ty := .char) rfl (i := 3) (by decide) (by decide) (hw _ (List.mem_of_getElem? (i := 25) rfl)) (D st_10) rfl (cap := 3) (by decide) (by decide) (by decide) (by decide) (fun b T gb hb0 W E2 A => ?_)
    replace N := (N.mem (fun y q => List.mem_cons_of_mem b q)).ext E2
    replace A : Ali Z gb b .char ((List.replicate 3 (0 : Int32)).map Value.int) := A
    have hbz : Z.heap.size ≤ b := Nat.le_trans hzh0 (Nat.le_trans E1.1 hb0)
    have hbx : h.size ≤ b := Nat.le_trans E1.1 hb0
    have KK : Keep h gb [] := ext_keep (ext_trans E1 E2) []
    have hne : a ∉ [b] := ninS (Nat.ne_of_lt (Nat.lt_of_lt_of_le Aa.lt hbx)) nin0
    replace Aa := (Aa.ext E1).ext E2
    refine g_dup W (pc' := 13) (D st_12) rfl rfl ?_
    refine g_iconst W (pc' := 14) (D st_13) rfl (v := (0 : Int32)) (by decide) ?_
    refine g_aloadN W (pc' := 15) (D st_14) rfl rfl (by first | rfl | assumption) ?_
    refine g_iconst W (pc' := 16) (D st_15) rfl (v := (0 : Int32)) (by decide) ?_
    refine g_caload W (pc' := 17) (Aa) (i := 0) (by decide) (by decide) (by show 0 < 9; decide) (D st_16) rfl ?_
    refine g_castore W (pc' := 18) (A) (hbz) (i := 0) (by decide) (by decide) (by simp) ((hL.get 0).1) ((hL.get 0).w) (D st_17) rfl (fun T g0 W Kp A' => ?_)
    replace N := N.keepA wi Kp A
    replace KK := KK.trans Kp (own_new hbx)
    replace Aa := Aa.keep Kp hne
    replace A := A'
    refine g_dup W (pc' := 19) (D st_18) rfl rfl ?_
    refine g_iconst W (pc' := 20) (D st_19) rfl (v := (1 : Int32)) (by decide) ?_
    refine g_aloadN W (pc' := 21) (D st_20) rfl rfl (by first | rfl | assumption) ?_
    refine g_iconst W (pc' := 22) (D st_21) rfl (v := (1 : Int32)) (by decide) ?_
    refine g_caload W (pc' := 23) (Aa) (i := 1) (by decide) (by decide) (by show 1 < 9; decide) (D st_22) rfl ?_
    refine g_castore W (pc' := 24) (A) (hbz) (i := 1) (by decide) (by decide) (by simp) ((hL.get 1).1) ((hL.get 1).w) (D st_23) rfl (fun T g1 W Kp A' => ?_)
    replace N := N.keepA wi Kp A
    replace KK := KK.trans Kp (own_new hbx)
    replace Aa := Aa.keep Kp hne
    replace A := A'
    refine g_dup W (pc' := 25) (D st_24) rfl rfl ?_
    refine g_iconst W (pc' := 26) (D st_25) rfl (v := (2 : Int32)) (by decide) ?_
    refine g_aloadN W (pc' := 27) (D st_26) rfl rfl (by first | rfl | assumption) ?_
    refine g_iconst W (pc' := 28) (D st_27) rfl (v := (2 : Int32)) (by decide) ?_
    refine g_caload W (pc' := 29) (Aa) (i := 2) (by decide) (by decide) (by show 2 < 9; decide) (D st_28) rfl ?_
    refine g_castore W (pc' := 30) (A) (hbz) (i := 2) (by decide) (by decide) (by simp) ((hL.get 2).1) ((hL.get 2).w) (D st_29) rfl (fun T g2 W Kp A' => ?_)
    replace N := N.keepA wi Kp A
    replace KK := KK.trans Kp (own_new hbx)
    replace Aa := Aa.keep Kp hne
    replace A := A'
    replace A : Ali Z _ b .char (([x0, x1, x2] : List Int32).map Value.int) := A
    refine g_initS W hw cst (N) (A) (fun z hz => hL z (List.mem_of_mem_take (i := 3) hz)) (by show 0 < 3; decide) (by show 3 ≤ 4000; decide) (hw _ (List.mem_of_getElem? (i := 56) rfl)) (pc' := 33) (by rw [hml]; rfl) (D st_30) rfl (Wn := 1) (Nat.le_refl _) (by decide) (by decide) (by decide) (nn := 3) (Nat.le_refl _) (by decide) (fun T gz W Kp S => ?_)
    replace KK := KK.trans Kp (own_new hx)
    exact g_areturn W (D st_33) hret rfl rfl (by decide) (by decide) ⟨_, rfl, x, _, rfl, keep_ext KK, S⟩
  · skip
    refine g_iloadN W (pc' := 35) (D st_34) rfl rfl ?_
    refine g_iconst W (pc' := 36) (D st_35) rfl (v := (4 : Int32)) (by decide) ?_
    refine g_icmpne W (pc1 := 74) (pc2 := 39) (D st_36) (by decide) (by decide) rfl (fun b1 => ?_) (fun b1 => ?_)
    rotate_left
    · skip
      have hzh0 := W.old.1
      refine g_newS W (pc' := 42) (hw _ (List.mem_of_getElem? (i := 55) rfl)) wi (hw _ (List.mem_of_getElem? (i := 5) rfl)) (hw _ (List.mem_of_getElem? (i := 8) rfl)) (hw _ (List.mem_of_getElem? (i := 9) rfl)) (D st_39) rfl (by decide) (by decide) (fun x T ga hx W E1 N => ?_)
      refine g_dup W (pc' := 43) (D st_42) rfl rfl ?_
      refine g_iconst W (pc' := 44) (D st_43) rfl (v := (4 : Int32)) (by decide) ?_
      refine g_newarray W (pc' := 46) (ty := .char) rfl (i := 4) (by decide) (by decide) (hw _ (List.mem_of_getElem? (i := 25) rfl)) (D st_44) rfl (cap := 4) (by decide) (by decide) (by decide) (by decide) (fun b T gb hb0 W E2 A => ?_)
      replace N := (N.mem (fun y q => List.mem_cons_of_mem b q)).ext E2
      replace A : Ali Z gb b .char ((List.replicate 4 (0 : Int32)).map Value.int) := A
      have hbz : Z.heap.size ≤ b := Nat.le_trans hzh0 (Nat.le_trans E1.1 hb0)
      have hbx : h.size ≤ b := Nat.le_trans E1.1 hb0
      have KK : Keep h gb [] := ext_keep (ext_trans E1 E2) []
      have hne : a ∉ [b] := ninS (Nat.ne_of_lt (Nat.lt_of_lt_of_le Aa.lt hbx)) nin0
      replace Aa := (Aa.ext E1).ext E2
      refine g_dup W (pc' := 47) (D st_46) rfl rfl ?_
      refine g_iconst W (pc' := 48) (D st_47) rfl (v := (0 : Int32)) (by decide) ?_
      refine g_aloadN W (pc' := 49) (D st_48) rfl rfl (by first | rfl | assumption) ?_
      refine g_iconst W (pc' := 50) (D st_49) rfl (v := (0 : Int32)) (by decide) ?_
      refine g_caload W (pc' := 51) (Aa) (i := 0) (by decide) (by decide) (by show 0 < 9; decide) (D st_50) rfl ?_
      refine g_castore W (pc' := 52) (A) (hbz) (i := 0) (by decide) (by decide) (by simp) ((hL.get 0).1) ((hL.get 0).w) (D st_51) rfl (fun T g0 W Kp A' => ?_)
      replace N := N.keepA wi Kp A
      replace KK := KK.trans Kp (own_new hbx)
      replace Aa := Aa.keep Kp hne
      replace A := A'
      refine g_dup W (pc' := 53) (D st_52) rfl rfl ?_
      refine g_iconst W (pc' := 54) (D st_53) rfl (v := (1 : Int32)) (by decide) ?_
      refine g_aloadN W (pc' := 55) (D st_54) rfl rfl (by first | rfl | assumption) ?_
      refine g_iconst W (pc' := 56) (D st_55) rfl (v := (1 : Int32)) (by decide) ?_
      refine g_caload W (pc' := 57) (Aa) (i := 1) (by decide) (by decide) (by show 1 < 9; decide) (D st_56) rfl ?_
      refine g_castore W (pc' := 58) (A) (hbz) (i := 1) (by decide) (by decide) (by simp) ((hL.get 1).1) ((hL.get 1).w) (D st_57) rfl (fun T g1 W Kp A' => ?_)
      replace N := N.keepA wi Kp A
      replace KK := KK.trans Kp (own_new hbx)
      replace Aa := Aa.keep Kp hne
      replace A := A'
      refine g_dup W (pc' := 59) (D st_58) rfl rfl ?_
      refine g_iconst W (pc' := 60) (D st_59) rfl (v := (2 : Int32)) (by decide) ?_
      refine g_aloadN W (pc' := 61) (D st_60) rfl rfl (by first | rfl | assumption) ?_
      refine g_iconst W (pc' := 62) (D st_61) rfl (v := (2 : Int32)) (by decide) ?_
      refine g_caload W (pc' := 63) (Aa) (i := 2) (by decide) (by decide) (by show 2 < 9; decide) (D st_62) rfl ?_
      refine g_castore W (pc' := 64) (A) (hbz) (i := 2) (by decide) (by decide) (by simp) ((hL.get 2).1) ((hL.get 2).w) (D st_63) rfl (fun T g2 W Kp A' => ?_)
      replace N := N.keepA wi Kp A
      replace KK := KK.trans Kp (own_new hbx)
      replace Aa := Aa.keep Kp hne
      replace A := A'
      refine g_dup W (pc' := 65) (D st_64) rfl rfl ?_
      refine g_iconst W (pc' := 66) (D st_65) rfl (v := (3 : Int32)) (by decide) ?_
      refine g_aloadN W (pc' := 67) (D st_66) rfl rfl (by first | rfl | assumption) ?_
      refine g_iconst W (pc' := 68) (D st_67) rfl (v := (3 : Int32)) (by decide) ?_
      refine g_caload W (pc' := 69) (Aa) (i := 3) (by decide) (by decide) (by show 3 < 9; decide) (D st_68) rfl ?_
      refine g_castore W (pc' := 70) (A) (hbz) (i := 3) (by decide) (by decide) (by simp) ((hL.get 3).1) ((hL.get 3).w) (D st_69) rfl (fun T g3 W Kp A' => ?_)
      replace N := N.keepA wi Kp A
      replace KK := KK.trans Kp (own_new hbx)
      replace Aa := Aa.keep Kp hne
      replace A := A'
      replace A : Ali Z _ b .char (([x0, x1, x2, x3] : List Int32).map Value.int) := A
      refine g_initS W hw cst (N) (A) (fun z hz => hL z (List.mem_of_mem_take (i := 4) hz)) (by show 0 < 4; decide) (by show 4 ≤ 4000; decide) (hw _ (List.mem_of_getElem? (i := 56) rfl)) (pc' := 73) (by rw [hml]; rfl) (D st_70) rfl (Wn := 1) (Nat.le_refl _) (by decide) (by decide) (by decide) (nn := 4) (Nat.le_refl _) (by decide) (fun T gz W Kp S => ?_)
      replace KK := KK.trans Kp (own_new hx)
      exact g_areturn W (D st_73) hret rfl rfl (by decide) (by decide) ⟨_, rfl, x, _, rfl, keep_ext KK, S⟩
    · skip
      refine g_iloadN W (pc' := 75) (D st_74) rfl rfl ?_
      refine g_iconst W (pc' := 76) (D st_75) rfl (v := (5 : Int32)) (by decide) ?_
      refine g_icmpne W (pc1 := 120) (pc2 := 79) (D st_76) (by decide) (by decide) rfl (fun b2 => ?_) (fun b2 => ?_)
      rotate_left
      · skip
        have hzh0 := W.old.1
        refine g_newS W (pc' := 82) (hw _ (List.mem_of_getElem? (i := 55) rfl)) wi (hw _ (List.mem_of_getElem? (i := 5) rfl)) (hw _ (List.mem_of_getElem? (i := 8) rfl)) (hw _ (List.mem_of_getElem? (i := 9) rfl)) (D st_79) rfl (by decide) (by decide) (fun x T ga hx W E1 N => ?_)
        refine g_dup W (pc' := 83) (D st_82) rfl rfl ?_
        refine g_iconst W (pc' := 84) (D st_83) rfl (v := (5 : Int32)) (by decide) ?_
        refine g_newarray W (pc' := 86) (ty := .char) rfl (i := 5) (by decide) (by decide) (hw _ (List.mem_of_getElem? (i := 25) rfl)) (D st_84) rfl (cap := 5) (by decide) (by decide) (by decide) (by decide) (fun b T gb hb0 W E2 A => ?_)
        replace N := (N.mem (fun y q => List.mem_cons_of_mem b q)).ext E2
        replace A : Ali Z gb b .char ((List.replicate 5 (0 : Int32)).map Value.int) := A
        have hbz : Z.heap.size ≤ b := Nat.le_trans hzh0 (Nat.le_trans E1.1 hb0)
        have hbx : h.size ≤ b := Nat.le_trans E1.1 hb0
        have KK : Keep h gb [] := ext_keep (ext_trans E1 E2) []
        have hne : a ∉ [b] := ninS (Nat.ne_of_lt (Nat.lt_of_lt_of_le Aa.lt hbx)) nin0
        replace Aa := (Aa.ext E1).ext E2
        refine g_dup W (pc' := 87) (D st_86) rfl rfl ?_
        refine g_iconst W (pc' := 88) (D st_87) rfl (v := (0 : Int32)) (by decide) ?_
        refine g_aloadN W (pc' := 89) (D st_88) rfl rfl (by first | rfl | assumption) ?_
        refine g_iconst W (pc' := 90) (D st_89) rfl (v := (0 : Int32)) (by decide) ?_
        refine g_caload W (pc' := 91) (Aa) (i := 0) (by decide) (by decide) (by show 0 < 9; decide) (D st_90) rfl ?_
        refine g_castore W (pc' := 92) (A) (hbz) (i := 0) (by decide) (by decide) (by simp) ((hL.get 0).1) ((hL.get 0).w) (D st_91) rfl (fun T g0 W Kp A' => ?_)
        replace N := N.keepA wi Kp A
        replace KK := KK.trans Kp (own_new hbx)
        replace Aa := Aa.keep Kp hne
        replace A := A'
        refine g_dup W (pc' := 93) (D st_92) rfl rfl ?_
        refine g_iconst W (pc' := 94) (D st_93) rfl (v := (1 : Int32)) (by decide) ?_
        refine g_aloadN W (pc' := 95) (D st_94) rfl rfl (by first | rfl | assumption) ?_
        refine g_iconst W (pc' := 96) (D st_95) rfl (v := (1 : Int32)) (by decide) ?_
        refine g_caload W (pc' := 97) (Aa) (i := 1) (by decide) (by decide) (by show 1 < 9; decide) (D st_96) rfl ?_
        refine g_castore W (pc' := 98) (A) (hbz) (i := 1) (by decide) (by decide) (by simp) ((hL.get 1).1) ((hL.get 1).w) (D st_97) rfl (fun T g1 W Kp A' => ?_)
        replace N := N.keepA wi Kp A
        replace KK := KK.trans Kp (own_new hbx)
        replace Aa := Aa.keep Kp hne
        replace A := A'
        refine g_dup W (pc' := 99) (D st_98) rfl rfl ?_
        refine g_iconst W (pc' := 100) (D st_99) rfl (v := (2 : Int32)) (by decide) ?_
        refine g_aloadN W (pc' := 101) (D st_100) rfl rfl (by first | rfl | assumption) ?_
        refine g_iconst W (pc' := 102) (D st_101) rfl (v := (2 : Int32)) (by decide) ?_
        refine g_caload W (pc' := 103) (Aa) (i := 2) (by decide) (by decide) (by show 2 < 9; decide) (D st_102) rfl ?_
        refine g_castore W (pc' := 104) (A) (hbz) (i := 2) (by decide) (by decide) (by simp) ((hL.get 2).1) ((hL.get 2).w) (D st_103) rfl (fun T g2 W Kp A' => ?_)
        replace N := N.keepA wi Kp A
        replace KK := KK.trans Kp (own_new hbx)
        replace Aa := Aa.keep Kp hne
        replace A := A'
        refine g_dup W (pc' := 105) (D st_104) rfl rfl ?_
        refine g_iconst W (pc' := 106) (D st_105) rfl (v := (3 : Int32)) (by decide) ?_
        refine g_aloadN W (pc' := 107) (D st_106) rfl rfl (by first | rfl | assumption) ?_
        refine g_iconst W (pc' := 108) (D st_107) rfl (v := (3 : Int32)) (by decide) ?_
        refine g_caload W (pc' := 109) (Aa) (i := 3) (by decide) (by decide) (by show 3 < 9; decide) (D st_108) rfl ?_
        refine g_castore W (pc' := 110) (A) (hbz) (i := 3) (by decide) (by decide) (by simp) ((hL.get 3).1) ((hL.get 3).w) (D st_109) rfl (fun T g3 W Kp A' => ?_)
        replace N := N.keepA wi Kp A
        replace KK := KK.trans Kp (own_new hbx)
        replace Aa := Aa.keep Kp hne
        replace A := A'
        refine g_dup W (pc' := 111) (D st_110) rfl rfl ?_
        refine g_iconst W (pc' := 112) (D st_111) rfl (v := (4 : Int32)) (by decide) ?_
        refine g_aloadN W (pc' := 113) (D st_112) rfl rfl (by first | rfl | assumption) ?_
        refine g_iconst W (pc' := 114) (D st_113) rfl (v := (4 : Int32)) (by decide) ?_
        refine g_caload W (pc' := 115) (Aa) (i := 4) (by decide) (by decide) (by show 4 < 9; decide) (D st_114) rfl ?_
        refine g_castore W (pc' := 116) (A) (hbz) (i := 4) (by decide) (by decide) (by simp) ((hL.get 4).1) ((hL.get 4).w) (D st_115) rfl (fun T g4 W Kp A' => ?_)
        replace N := N.keepA wi Kp A
        replace KK := KK.trans Kp (own_new hbx)
        replace Aa := Aa.keep Kp hne
        replace A := A'
        replace A : Ali Z _ b .char (([x0, x1, x2, x3, x4] : List Int32).map Value.int) := A
        refine g_initS W hw cst (N) (A) (fun z hz => hL z (List.mem_of_mem_take (i := 5) hz)) (by show 0 < 5; decide) (by show 5 ≤ 4000; decide) (hw _ (List.mem_of_getElem? (i := 56) rfl)) (pc' := 119) (by rw [hml]; rfl) (D st_116) rfl (Wn := 1) (Nat.le_refl _) (by decide) (by decide) (by decide) (nn := 5) (Nat.le_refl _) (by decide) (fun T gz W Kp S => ?_)
        replace KK := KK.trans Kp (own_new hx)
        exact g_areturn W (D st_119) hret rfl rfl (by decide) (by decide) ⟨_, rfl, x, _, rfl, keep_ext KK, S⟩
      · skip
        refine g_iloadN W (pc' := 121) (D st_120) rfl rfl ?_
        refine g_bipush W (pc' := 123) (D st_121) rfl (v := (6 : Int32)) (by decide) ?_
        refine g_icmpne W (pc1 := 174) (pc2 := 126) (D st_123) (by decide) (by decide) rfl (fun b3 => ?_) (fun b3 => ?_)
        rotate_left
        · skip
          have hzh0 := W.old.1
          refine g_newS W (pc' := 129) (hw _ (List.mem_of_getElem? (i := 55) rfl)) wi (hw _ (List.mem_of_getElem? (i := 5) rfl)) (hw _ (List.mem_of_getElem? (i := 8) rfl)) (hw _ (List.mem_of_getElem? (i := 9) rfl)) (D st_126) rfl (by decide) (by decide) (fun x T ga hx W E1 N => ?_)
          refine g_dup W (pc' := 130) (D st_129) rfl rfl ?_
          refine g_bipush W (pc' := 132) (D st_130) rfl (v := (6 : Int32)) (by decide) ?_
          refine g_newarray W (pc' := 134) (ty := .char) rfl (i := 6) (by decide) (by decide) (hw _ (List.mem_of_getElem? (i := 25) rfl)) (D st_132) rfl (cap := 6) (by decide) (by decide) (by decide) (by decide) (fun b T gb hb0 W E2 A => ?_)
          replace N := (N.mem (fun y q => List.mem_cons_of_mem b q)).ext E2
          replace A : Ali Z gb b .char ((List.replicate 6 (0 : Int32)).map Value.int) := A
          have hbz : Z.heap.size ≤ b := Nat.le_trans hzh0 (Nat.le_trans E1.1 hb0)
          have hbx : h.size ≤ b := Nat.le_trans E1.1 hb0
          have KK : Keep h gb [] := ext_keep (ext_trans E1 E2) []
          have hne : a ∉ [b] := ninS (Nat.ne_of_lt (Nat.lt_of_lt_of_le Aa.lt hbx)) nin0
          replace Aa := (Aa.ext E1).ext E2
          refine g_dup W (pc' := 135) (D st_134) rfl rfl ?_
          refine g_iconst W (pc' := 136) (D st_135) rfl (v := (0 : Int32)) (by decide) ?_
          refine g_aloadN W (pc' := 137) (D st_136) rfl rfl (by first | rfl | assumption) ?_
          refine g_iconst W (pc' := 138) (D st_137) rfl (v := (0 : Int32)) (by decide) ?_
          refine g_caload W (pc' := 139) (Aa) (i := 0) (by decide) (by decide) (by show 0 < 9; decide) (D st_138) rfl ?_
          refine g_castore W (pc' := 140) (A) (hbz) (i := 0) (by decide) (by decide) (by simp) ((hL.get 0).1) ((hL.get 0).w) (D st_139) rfl (fun T g0 W Kp A' => ?_)
          replace N := N.keepA wi Kp A
          replace KK := KK.trans Kp (own_new hbx)
          replace Aa := Aa.keep Kp hne
          replace A := A'
          refine g_dup W (pc' := 141) (D st_140) rfl rfl ?_
          refine g_iconst W (pc' := 142) (D st_141) rfl (v := (1 : Int32)) (by decide) ?_
          refine g_aloadN W (pc' := 143) (D st_142) rfl rfl (by first | rfl | assumption) ?_
          refine g_iconst W (pc' := 144) (D st_143) rfl (v := (1 : Int32)) (by decide) ?_
          refine g_caload W (pc' := 145) (Aa) (i := 1) (by decide) (by decide) (by show 1 < 9; decide) (D st_144) rfl ?_
          refine g_castore W (pc' := 146) (A) (hbz) (i := 1) (by decide) (by decide) (by simp) ((hL.get 1).1) ((hL.get 1).w) (D st_145) rfl (fun T g1 W Kp A' => ?_)
          replace N := N.keepA wi Kp A
          replace KK := KK.trans Kp (own_new hbx)
          replace Aa := Aa.keep Kp hne
          replace A := A'
          refine g_dup W (pc' := 147) (D st_146) rfl rfl ?_
          refine g_iconst W (pc' := 148) (D st_147) rfl (v := (2 : Int32)) (by decide) ?_
          refine g_aloadN W (pc' := 149) (D st_148) rfl rfl (by first | rfl | assumption) ?_
          refine g_iconst W (pc' := 150) (D st_149) rfl (v := (2 : Int32)) (by decide) ?_
          refine g_caload W (pc' := 151) (Aa) (i := 2) (by decide) (by decide) (by show 2 < 9; decide) (D st_150) rfl ?_
          refine g_castore W (pc' := 152) (A) (hbz) (i := 2) (by decide) (by decide) (by simp) ((hL.get 2).1) ((hL.get 2).w) (D st_151) rfl (fun T g2 W Kp A' => ?_)
          replace N := N.keepA wi Kp A
          replace KK := KK.trans Kp (own_new hbx)
          replace Aa := Aa.keep Kp hne
          replace A := A'
          refine g_dup W (pc' := 153) (D st_152) rfl rfl ?_
          refine g_iconst W (pc' := 154) (D st_153) rfl (v := (3 : Int32)) (by decide) ?_
          refine g_aloadN W (pc' := 155) (D st_154) rfl rfl (by first | rfl | assumption) ?_
          refine g_iconst W (pc' := 156) (D st_155) rfl (v := (3 : Int32)) (by decide) ?_
          refine g_caload W (pc' := 157) (Aa) (i := 3) (by decide) (by decide) (by show 3 < 9; decide) (D st_156) rfl ?_
          refine g_castore W (pc' := 158) (A) (hbz) (i := 3) (by decide) (by decide) (by simp) ((hL.get 3).1) ((hL.get 3).w) (D st_157) rfl (fun T g3 W Kp A' => ?_)
          replace N := N.keepA wi Kp A
          replace KK := KK.trans Kp (own_new hbx)
          replace Aa := Aa.keep Kp hne
          replace A := A'
          refine g_dup W (pc' := 159) (D st_158) rfl rfl ?_
          refine g_iconst W (pc' := 160) (D st_159) rfl (v := (4 : Int32)) (by decide) ?_
          refine g_aloadN W (pc' := 161) (D st_160) rfl rfl (by first | rfl | assumption) ?_
          refine g_iconst W (pc' := 162) (D st_161) rfl (v := (4 : Int32)) (by decide) ?_
          refine g_caload W (pc' := 163) (Aa) (i := 4) (by decide) (by decide) (by show 4 < 9; decide) (D st_162) rfl ?_
          refine g_castore W (pc' := 164) (A) (hbz) (i := 4) (by decide) (by decide) (by simp) ((hL.get 4).1) ((hL.get 4).w) (D st_163) rfl (fun T g4 W Kp A' => ?_)
          replace N := N.keepA wi Kp A
          replace KK := KK.trans Kp (own_new hbx)
          replace Aa := Aa.keep Kp hne
          replace A := A'
          refine g_dup W (pc' := 165) (D st_164) rfl rfl ?_
          refine g_iconst W (pc' := 166) (D st_165) rfl (v := (5 : Int32)) (by decide) ?_
          refine g_aloadN W (pc' := 167) (D st_166) rfl rfl (by first | rfl | assumption) ?_
          refine g_iconst W (pc' := 168) (D st_167) rfl (v := (5 : Int32)) (by decide) ?_
          refine g_caload W (pc' := 169) (Aa) (i := 5) (by decide) (by decide) (by show 5 < 9; decide) (D st_168) rfl ?_
          refine g_castore W (pc' := 170) (A) (hbz) (i := 5) (by decide) (by decide) (by simp) ((hL.get 5).1) ((hL.get 5).w) (D st_169) rfl (fun T g5 W Kp A' => ?_)
          replace N := N.keepA wi Kp A
          replace KK := KK.trans Kp (own_new hbx)
          replace Aa := Aa.keep Kp hne
          replace A := A'
          replace A : Ali Z _ b .char (([x0, x1, x2, x3, x4, x5] : List Int32).map Value.int) := A
          refine g_initS W hw cst (N) (A) (fun z hz => hL z (List.mem_of_mem_take (i := 6) hz)) (by show 0 < 6; decide) (by show 6 ≤ 4000; decide) (hw _ (List.mem_of_getElem? (i := 56) rfl)) (pc' := 173) (by rw [hml]; rfl) (D st_170) rfl (Wn := 1) (Nat.le_refl _) (by decide) (by decide) (by decide) (nn := 6) (Nat.le_refl _) (by decide) (fun T gz W Kp S => ?_)
          replace KK := KK.trans Kp (own_new hx)
          exact g_areturn W (D st_173) hret rfl rfl (by decide) (by decide) ⟨_, rfl, x, _, rfl, keep_ext KK, S⟩
        · skip
          refine g_iloadN W (pc' := 175) (D st_174) rfl rfl ?_
          refine g_bipush W (pc' := 177) (D st_175) rfl (v := (7 : Int32)) (by decide) ?_
          refine g_icmpne W (pc1 := 236) (pc2 := 180) (D st_177) (by decide) (by decide) rfl (fun b4 => ?_) (fun b4 => ?_)
          rotate_left
          · skip
            have hzh0 := W.old.1
            refine g_newS W (pc' := 183) (hw _ (List.mem_of_getElem? (i := 55) rfl)) wi (hw _ (List.mem_of_getElem? (i := 5) rfl)) (hw _ (List.mem_of_getElem? (i := 8) rfl)) (hw _ (List.mem_of_getElem? (i := 9) rfl)) (D st_180) rfl (by decide) (by decide) (fun x T ga hx W E1 N => ?_)
            refine g_dup W (pc' := 184) (D st_183) rfl rfl ?_
            refine g_bipush W (pc' := 186) (D st_184) rfl (v := (7 : Int32)) (by decide) ?_
            refine g_newarray W (pc' := 188) (ty := .char) rfl (i := 7) (by decide) (by decide) (hw _ (List.mem_of_getElem? (i := 25) rfl)) (D st_186) rfl (cap := 7) (by decide) (by decide) (by decide) (by decide) (fun b T gb hb0 W E2 A => ?_)
            replace N := (N.mem (fun y q => List.mem_cons_of_mem b q)).ext E2
            replace A : Ali Z gb b .char ((List.replicate 7 (0 : Int32)).map Value.int) := A
            have hbz : Z.heap.size ≤ b := Nat.le_trans hzh0 (Nat.le_trans E1.1 hb0)
            have hbx : h.size ≤ b := Nat.le_trans E1.1 hb0
            have KK : Keep h gb [] := ext_keep (ext_trans E1 E2) []
            have hne : a ∉ [b] := ninS (Nat.ne_of_lt (Nat.lt_of_lt_of_le Aa.lt hbx)) nin0
            replace Aa := (Aa.ext E1).ext E2
            refine g_dup W (pc' := 189) (D st_188) rfl rfl ?_
            refine g_iconst W (pc' := 190) (D st_189) rfl (v := (0 : Int32)) (by decide) ?_
            refine g_aloadN W (pc' := 191) (D st_190) rfl rfl (by first | rfl | assumption) ?_
            refine g_iconst W (pc' := 192) (D st_191) rfl (v := (0 : Int32)) (by decide) ?_
            refine g_caload W (pc' := 193) (Aa) (i := 0) (by decide) (by decide) (by show 0 < 9; decide) (D st_192) rfl ?_
            refine g_castore W (pc' := 194) (A) (hbz) (i := 0) (by decide) (by decide) (by simp) ((hL.get 0).1) ((hL.get 0).w) (D st_193) rfl (fun T g0 W Kp A' => ?_)
            replace N := N.keepA wi Kp A
            replace KK := KK.trans Kp (own_new hbx)
            replace Aa := Aa.keep Kp hne
            replace A := A'
            refine g_dup W (pc' := 195) (D st_194) rfl rfl ?_
            refine g_iconst W (pc' := 196) (D st_195) rfl (v := (1 : Int32)) (by decide) ?_
            refine g_aloadN W (pc' := 197) (D st_196) rfl rfl (by first | rfl | assumption) ?_
            refine g_iconst W (pc' := 198) (D st_197) rfl (v := (1 : Int32)) (by decide) ?_
            refine g_caload W (pc' := 199) (Aa) (i := 1) (by decide) (by decide) (by show 1 < 9; decide) (D st_198) rfl ?_
            refine g_castore W (pc' := 200) (A) (hbz) (i := 1) (by decide) (by decide) (by simp) ((hL.get 1).1) ((hL.get 1).w) (D st_199) rfl (fun T g1 W Kp A' => ?_)
            replace N := N.keepA wi Kp A
            replace KK := KK.trans Kp (own_new hbx)
            replace Aa := Aa.keep Kp hne
            replace A := A'
            refine g_dup W (pc' := 201) (D st_200) rfl rfl ?_
            refine g_iconst W (pc' := 202) (D st_201) rfl (v := (2 : Int32)) (by decide) ?_
            refine g_aloadN W (pc' := 203) (D st_202) rfl rfl (by first | rfl | assumption) ?_
            refine g_iconst W (pc' := 204) (D st_203) rfl (v := (2 : Int32)) (by decide) ?_
            refine g_caload W (pc' := 205) (Aa) (i := 2) (by decide) (by decide) (by show 2 < 9; decide) (D st_204) rfl ?_
            refine g_castore W (pc' := 206) (A) (hbz) (i := 2) (by decide) (by decide) (by simp) ((hL.get 2).1) ((hL.get 2).w) (D st_205) rfl (fun T g2 W Kp A' => ?_)
            replace N := N.keepA wi Kp A
            replace KK := KK.trans Kp (own_new hbx)
            replace Aa := Aa.keep Kp hne
            replace A := A'
            refine g_dup W (pc' := 207) (D st_206) rfl rfl ?_
            refine g_iconst W (pc' := 208) (D st_207) rfl (v := (3 : Int32)) (by decide) ?_
            refine g_aloadN W (pc' := 209) (D st_208) rfl rfl (by first | rfl | assumption) ?_
            refine g_iconst W (pc' := 210) (D st_209) rfl (v := (3 : Int32)) (by decide) ?_
            refine g_caload W (pc' := 211) (Aa) (i := 3) (by decide) (by decide) (by show 3 < 9; decide) (D st_210) rfl ?_
            refine g_castore W (pc' := 212) (A) (hbz) (i := 3) (by decide) (by decide) (by simp) ((hL.get 3).1) ((hL.get 3).w) (D st_211) rfl (fun T g3 W Kp A' => ?_)
            replace N := N.keepA wi Kp A
            replace KK := KK.trans Kp (own_new hbx)
            replace Aa := Aa.keep Kp hne
            replace A := A'
            refine g_dup W (pc' := 213) (D st_212) rfl rfl ?_
            refine g_iconst W (pc' := 214) (D st_213) rfl (v := (4 : Int32)) (by decide) ?_
            refine g_aloadN W (pc' := 215) (D st_214) rfl rfl (by first | rfl | assumption) ?_
            refine g_iconst W (pc' := 216) (D st_215) rfl (v := (4 : Int32)) (by decide) ?_
            refine g_caload W (pc' := 217) (Aa) (i := 4) (by decide) (by decide) (by show 4 < 9; decide) (D st_216) rfl ?_
            refine g_castore W (pc' := 218) (A) (hbz) (i := 4) (by decide) (by decide) (by simp) ((hL.get 4).1) ((hL.get 4).w) (D st_217) rfl (fun T g4 W Kp A' => ?_)
            replace N := N.keepA wi Kp A
            replace KK := KK.trans Kp (own_new hbx)
            replace Aa := Aa.keep Kp hne
            replace A := A'
            refine g_dup W (pc' := 219) (D st_218) rfl rfl ?_
            refine g_iconst W (pc' := 220) (D st_219) rfl (v := (5 : Int32)) (by decide) ?_
            refine g_aloadN W (pc' := 221) (D st_220) rfl rfl (by first | rfl | assumption) ?_
            refine g_iconst W (pc' := 222) (D st_221) rfl (v := (5 : Int32)) (by decide) ?_
            refine g_caload W (pc' := 223) (Aa) (i := 5) (by decide) (by decide) (by show 5 < 9; decide) (D st_222) rfl ?_
            refine g_castore W (pc' := 224) (A) (hbz) (i := 5) (by decide) (by decide) (by simp) ((hL.get 5).1) ((hL.get 5).w) (D st_223) rfl (fun T g5 W Kp A' => ?_)
            replace N := N.keepA wi Kp A
            replace KK := KK.trans Kp (own_new hbx)
            replace Aa := Aa.keep Kp hne
            replace A := A'
            refine g_dup W (pc' := 225) (D st_224) rfl rfl ?_
            refine g_bipush W (pc' := 227) (D st_225) rfl (v := (6 : Int32)) (by decide) ?_
            refine g_aloadN W (pc' := 228) (D st_227) rfl rfl (by first | rfl | assumption) ?_
            refine g_bipush W (pc' := 230) (D st_228) rfl (v := (6 : Int32)) (by decide) ?_
            refine g_caload W (pc' := 231) (Aa) (i := 6) (by decide) (by decide) (by show 6 < 9; decide) (D st_230) rfl ?_
            refine g_castore W (pc' := 232) (A) (hbz) (i := 6) (by decide) (by decide) (by simp) ((hL.get 6).1) ((hL.get 6).w) (D st_231) rfl (fun T g6 W Kp A' => ?_)
            replace N := N.keepA wi Kp A
            replace KK := KK.trans Kp (own_new hbx)
            replace Aa := Aa.keep Kp hne
            replace A := A'
            replace A : Ali Z _ b .char (([x0, x1, x2, x3, x4, x5, x6] : List Int32).map Value.int) := A
            refine g_initS W hw cst (N) (A) (fun z hz => hL z (List.mem_of_mem_take (i := 7) hz)) (by show 0 < 7; decide) (by show 7 ≤ 4000; decide) (hw _ (List.mem_of_getElem? (i := 56) rfl)) (pc' := 235) (by rw [hml]; rfl) (D st_232) rfl (Wn := 1) (Nat.le_refl _) (by decide) (by decide) (by decide) (nn := 7) (Nat.le_refl _) (by decide) (fun T gz W Kp S => ?_)
            replace KK := KK.trans Kp (own_new hx)
            exact g_areturn W (D st_235) hret rfl rfl (by decide) (by decide) ⟨_, rfl, x, _, rfl, keep_ext KK, S⟩
          · skip
            refine g_iloadN W (pc' := 237) (D st_236) rfl rfl ?_
            refine g_bipush W (pc' := 239) (D st_237) rfl (v := (8 : Int32)) (by decide) ?_
            refine g_icmpne W (pc1 := 306) (pc2 := 242) (D st_239) (by decide) (by decide) rfl (fun b5 => ?_) (fun b5 => ?_)
            rotate_left
            · skip
              have hzh0 := W.old.1
              refine g_newS W (pc' := 245) (hw _ (List.mem_of_getElem? (i := 55) rfl)) wi (hw _ (List.mem_of_getElem? (i := 5) rfl)) (hw _ (List.mem_of_getElem? (i := 8) rfl)) (hw _ (List.mem_of_getElem? (i := 9) rfl)) (D st_242) rfl (by decide) (by decide) (fun x T ga hx W E1 N => ?_)
              refine g_dup W (pc' := 246) (D st_245) rfl rfl ?_
              refine g_bipush W (pc' := 248) (D st_246) rfl (v := (8 : Int32)) (by decide) ?_
              refine g_newarray W (pc' := 250) (ty := .char) rfl (i := 8) (by decide) (by decide) (hw _ (List.mem_of_getElem? (i := 25) rfl)) (D st_248) rfl (cap := 8) (by decide) (by decide) (by decide) (by decide) (fun b T gb hb0 W E2 A => ?_)
              replace N := (N.mem (fun y q => List.mem_cons_of_mem b q)).ext E2
              replace A : Ali Z gb b .char ((List.replicate 8 (0 : Int32)).map Value.int) := A
              have hbz : Z.heap.size ≤ b := Nat.le_trans hzh0 (Nat.le_trans E1.1 hb0)
              have hbx : h.size ≤ b := Nat.le_trans E1.1 hb0
              have KK : Keep h gb [] := ext_keep (ext_trans E1 E2) []
              have hne : a ∉ [b] := ninS (Nat.ne_of_lt (Nat.lt_of_lt_of_le Aa.lt hbx)) nin0
              replace Aa := (Aa.ext E1).ext E2
              refine g_dup W (pc' := 251) (D st_250) rfl rfl ?_
              refine g_iconst W (pc' := 252) (D st_251) rfl (v := (0 : Int32)) (by decide) ?_
              refine g_aloadN W (pc' := 253) (D st_252) rfl rfl (by first | rfl | assumption) ?_
              refine g_iconst W (pc' := 254) (D st_253) rfl (v := (0 : Int32)) (by decide) ?_
              refine g_caload W (pc' := 255) (Aa) (i := 0) (by decide) (by decide) (by show 0 < 9; decide) (D st_254) rfl ?_
              refine g_castore W (pc' := 256) (A) (hbz) (i := 0) (by decide) (by decide) (by simp) ((hL.get 0).1) ((hL.get 0).w) (D st_255) rfl (fun T g0 W Kp A' => ?_)
              replace N := N.keepA wi Kp A
              replace KK := KK.trans Kp (own_new hbx)
              replace Aa := Aa.keep Kp hne
              replace A := A'
              refine g_dup W (pc' := 257) (D st_256) rfl rfl ?_
              refine g_iconst W (pc' := 258) (D st_257) rfl (v := (1 : Int32)) (by decide) ?_
              refine g_aloadN W (pc' := 259) (D st_258) rfl rfl (by first | rfl | assumption) ?_
              refine g_iconst W (pc' := 260) (D st_259) rfl (v := (1 : Int32)) (by decide) ?_
              refine g_caload W (pc' := 261) (Aa) (i := 1) (by decide) (by decide) (by show 1 < 9; decide) (D st_260) rfl ?_
              refine g_castore W (pc' := 262) (A) (hbz) (i := 1) (by decide) (by decide) (by simp) ((hL.get 1).1) ((hL.get 1).w) (D st_261) rfl (fun T g1 W Kp A' => ?_)
              replace N := N.keepA wi Kp A
              replace KK := KK.trans Kp (own_new hbx)
              replace Aa := Aa.keep Kp hne
              replace A := A'
              refine g_dup W (pc' := 263) (D st_262) rfl rfl ?_
              refine g_iconst W (pc' := 264) (D st_263) rfl (v := (2 : Int32)) (by decide) ?_
              refine g_aloadN W (pc' := 265) (D st_264) rfl rfl (by first | rfl | assumption) ?_
              refine g_iconst W (pc' := 266) (D st_265) rfl (v := (2 : Int32)) (by decide) ?_
              refine g_caload W (pc' := 267) (Aa) (i := 2) (by decide) (by decide) (by show 2 < 9; decide) (D st_266) rfl ?_
              refine g_castore W (pc' := 268) (A) (hbz) (i := 2) (by decide) (by decide) (by simp) ((hL.get 2).1) ((hL.get 2).w) (D st_267) rfl (fun T g2 W Kp A' => ?_)
              replace N := N.keepA wi Kp A
              replace KK := KK.trans Kp (own_new hbx)
              replace Aa := Aa.keep Kp hne
              replace A := A'
              refine g_dup W (pc' := 269) (D st_268) rfl rfl ?_
              refine g_iconst W (pc' := 270) (D st_269) rfl (v := (3 : Int32)) (by decide) ?_
              refine g_aloadN W (pc' := 271) (D st_270) rfl rfl (by first | rfl | assumption) ?_
              refine g_iconst W (pc' := 272) (D st_271) rfl (v := (3 : Int32)) (by decide) ?_
              refine g_caload W (pc' := 273) (Aa) (i := 3) (by decide) (by decide) (by show 3 < 9; decide) (D st_272) rfl ?_
              refine g_castore W (pc' := 274) (A) (hbz) (i := 3) (by decide) (by decide) (by simp) ((hL.get 3).1) ((hL.get 3).w) (D st_273) rfl (fun T g3 W Kp A' => ?_)
              replace N := N.keepA wi Kp A
              replace KK := KK.trans Kp (own_new hbx)
              replace Aa := Aa.keep Kp hne
              replace A := A'
              refine g_dup W (pc' := 275) (D st_274) rfl rfl ?_
              refine g_iconst W (pc' := 276) (D st_275) rfl (v := (4 : Int32)) (by decide) ?_
              refine g_aloadN W (pc' := 277) (D st_276) rfl rfl (by first | rfl | assumption) ?_
              refine g_iconst W (pc' := 278) (D st_277) rfl (v := (4 : Int32)) (by decide) ?_
              refine g_caload W (pc' := 279) (Aa) (i := 4) (by decide) (by decide) (by show 4 < 9; decide) (D st_278) rfl ?_
              refine g_castore W (pc' := 280) (A) (hbz) (i := 4) (by decide) (by decide) (by simp) ((hL.get 4).1) ((hL.get 4).w) (D st_279) rfl (fun T g4 W Kp A' => ?_)
              replace N := N.keepA wi Kp A
              replace KK := KK.trans Kp (own_new hbx)
              replace Aa := Aa.keep Kp hne
              replace A := A'
              refine g_dup W (pc' := 281) (D st_280) rfl rfl ?_
              refine g_iconst W (pc' := 282) (D st_281) rfl (v := (5 : Int32)) (by decide) ?_
              refine g_aloadN W (pc' := 283) (D st_282) rfl rfl (by first | rfl | assumption) ?_
              refine g_iconst W (pc' := 284) (D st_283) rfl (v := (5 : Int32)) (by decide) ?_
              refine g_caload W (pc' := 285) (Aa) (i := 5) (by decide) (by decide) (by show 5 < 9; decide) (D st_284) rfl ?_
              refine g_castore W (pc' := 286) (A) (hbz) (i := 5) (by decide) (by decide) (by simp) ((hL.get 5).1) ((hL.get 5).w) (D st_285) rfl (fun T g5 W Kp A' => ?_)
              replace N := N.keepA wi Kp A
              replace KK := KK.trans Kp (own_new hbx)
              replace Aa := Aa.keep Kp hne
              replace A := A'
              refine g_dup W (pc' := 287) (D st_286) rfl rfl ?_
              refine g_bipush W (pc' := 289) (D st_287) rfl (v := (6 : Int32)) (by decide) ?_
              refine g_aloadN W (pc' := 290) (D st_289) rfl rfl (by first | rfl | assumption) ?_
              refine g_bipush W (pc' := 292) (D st_290) rfl (v := (6 : Int32)) (by decide) ?_
              refine g_caload W (pc' := 293) (Aa) (i := 6) (by decide) (by decide) (by show 6 < 9; decide) (D st_292) rfl ?_
              refine g_castore W (pc' := 294) (A) (hbz) (i := 6) (by decide) (by decide) (by simp) ((hL.get 6).1) ((hL.get 6).w) (D st_293) rfl (fun T g6 W Kp A' => ?_)
              replace N := N.keepA wi Kp A
              replace KK := KK.trans Kp (own_new hbx)
              replace Aa := Aa.keep Kp hne
              replace A := A'
              refine g_dup W (pc' := 295) (D st_294) rfl rfl ?_
              refine g_bipush W (pc' := 297) (D st_295) rfl (v := (7 : Int32)) (by decide) ?_
              refine g_aloadN W (pc' := 298) (D st_297) rfl rfl (by first | rfl | assumption) ?_
              refine g_bipush W (pc' := 300) (D st_298) rfl (v := (7 : Int32)) (by decide) ?_
              refine g_caload W (pc' := 301) (Aa) (i := 7) (by decide) (by decide) (by show 7 < 9; decide) (D st_300) rfl ?_
              refine g_castore W (pc' := 302) (A) (hbz) (i := 7) (by decide) (by decide) (by simp) ((hL.get 7).1) ((hL.get 7).w) (D st_301) rfl (fun T g7 W Kp A' => ?_)
              replace N := N.keepA wi Kp A
              replace KK := KK.trans Kp (own_new hbx)
              replace Aa := Aa.keep Kp hne
              replace A := A'
              replace A : Ali Z _ b .char (([x0, x1, x2, x3, x4, x5, x6, x7] : List Int32).map Value.int) := A
              refine g_initS W hw cst (N) (A) (fun z hz => hL z (List.mem_of_mem_take (i := 8) hz)) (by show 0 < 8; decide) (by show 8 ≤ 4000; decide) (hw _ (List.mem_of_getElem? (i := 56) rfl)) (pc' := 305) (by rw [hml]; rfl) (D st_302) rfl (Wn := 1) (Nat.le_refl _) (by decide) (by decide) (by decide) (nn := 8) (Nat.le_refl _) (by decide) (fun T gz W Kp S => ?_)
              replace KK := KK.trans Kp (own_new hx)
              exact g_areturn W (D st_305) hret rfl rfl (by decide) (by decide) ⟨_, rfl, x, _, rfl, keep_ext KK, S⟩
            · skip
              have hzh0 := W.old.1
              refine g_newS W (pc' := 309) (hw _ (List.mem_of_getElem? (i := 55) rfl)) wi (hw _ (List.mem_of_getElem? (i := 5) rfl)) (hw _ (List.mem_of_getElem? (i := 8) rfl)) (hw _ (List.mem_of_getElem? (i := 9) rfl)) (D st_306) rfl (by decide) (by decide) (fun x T ga hx W E1 N => ?_)
              refine g_dup W (pc' := 310) (D st_309) rfl rfl ?_
              refine g_bipush W (pc' := 312) (D st_310) rfl (v := (9 : Int32)) (by decide) ?_
              refine g_newarray W (pc' := 314) (ty := .char) rfl (i := 9) (by decide) (by decide) (hw _ (List.mem_of_getElem? (i := 25) rfl)) (D st_312) rfl (cap := 9) (by decide) (by decide) (by decide) (by decide) (fun b T gb hb0 W E2 A => ?_)
              replace N := (N.mem (fun y q => List.mem_cons_of_mem b q)).ext E2
              replace A : Ali Z gb b .char ((List.replicate 9 (0 : Int32)).map Value.int) := A
              have hbz : Z.heap.size ≤ b := Nat.le_trans hzh0 (Nat.le_trans E1.1 hb0)
              have hbx : h.size ≤ b := Nat.le_trans E1.1 hb0
              have KK : Keep h gb [] := ext_keep (ext_trans E1 E2) []
              have hne : a ∉ [b] := ninS (Nat.ne_of_lt (Nat.lt_of_lt_of_le Aa.lt hbx)) nin0
              replace Aa := (Aa.ext E1).ext E2
              refine g_dup W (pc' := 315) (D st_314) rfl rfl ?_
              refine g_iconst W (pc' := 316) (D st_315) rfl (v := (0 : Int32)) (by decide) ?_
              refine g_aloadN W (pc' := 317) (D st_316) rfl rfl (by first | rfl | assumption) ?_
              refine g_iconst W (pc' := 318) (D st_317) rfl (v := (0 : Int32)) (by decide) ?_
              refine g_caload W (pc' := 319) (Aa) (i := 0) (by decide) (by decide) (by show 0 < 9; decide) (D st_318) rfl ?_
              refine g_castore W (pc' := 320) (A) (hbz) (i := 0) (by decide) (by decide) (by simp) ((hL.get 0).1) ((hL.get 0).w) (D st_319) rfl (fun T g0 W Kp A' => ?_)
              replace N := N.keepA wi Kp A
              replace KK := KK.trans Kp (own_new hbx)
              replace Aa := Aa.keep Kp hne
              replace A := A'
              refine g_dup W (pc' := 321) (D st_320) rfl rfl ?_
              refine g_iconst W (pc' := 322) (D st_321) rfl (v := (1 : Int32)) (by decide) ?_
              refine g_aloadN W (pc' := 323) (D st_322) rfl rfl (by first | rfl | assumption) ?_
              refine g_iconst W (pc' := 324) (D st_323) rfl (v := (1 : Int32)) (by decide) ?_
              refine g_caload W (pc' := 325) (Aa) (i := 1) (by decide) (by decide) (by show 1 < 9; decide) (D st_324) rfl ?_
              refine g_castore W (pc' := 326) (A) (hbz) (i := 1) (by decide) (by decide) (by simp) ((hL.get 1).1) ((hL.get 1).w) (D st_325) rfl (fun T g1 W Kp A' => ?_)
              replace N := N.keepA wi Kp A
              replace KK := KK.trans Kp (own_new hbx)
              replace Aa := Aa.keep Kp hne
              replace A := A'
              refine g_dup W (pc' := 327) (D st_326) rfl rfl ?_
              refine g_iconst W (pc' := 328) (D st_327) rfl (v := (2 : Int32)) (by decide) ?_
              refine g_aloadN W (pc' := 329) (D st_328) rfl rfl (by first | rfl | assumption) ?_
              refine g_iconst W (pc' := 330) (D st_329) rfl (v := (2 : Int32)) (by decide) ?_
              refine g_caload W (pc' := 331) (Aa) (i := 2) (by decide) (by decide) (by show 2 < 9; decide) (D st_330) rfl ?_
              refine g_castore W (pc' := 332) (A) (hbz) (i := 2) (by decide) (by decide) (by simp) ((hL.get 2).1) ((hL.get 2).w) (D st_331) rfl (fun T g2 W Kp A' => ?_)
              replace N := N.keepA wi Kp A
              replace KK := KK.trans Kp (own_new hbx)
              replace Aa := Aa.keep Kp hne
              replace A := A'
              refine g_dup W (pc' := 333) (D st_332) rfl rfl ?_
              refine g_iconst W (pc' := 334) (D st_333) rfl (v := (3 : Int32)) (by decide) ?_
              refine g_aloadN W (pc' := 335) (D st_334) rfl rfl (by first | rfl | assumption) ?_
              refine g_iconst W (pc' := 336) (D st_335) rfl (v := (3 : Int32)) (by decide) ?_
              refine g_caload W (pc' := 337) (Aa) (i := 3) (by decide) (by decide) (by show 3 < 9; decide) (D st_336) rfl ?_
              refine g_castore W (pc' := 338) (A) (hbz) (i := 3) (by decide) (by decide) (by simp) ((hL.get 3).1) ((hL.get 3).w) (D st_337) rfl (fun T g3 W Kp A' => ?_)
              replace N := N.keepA wi Kp A
              replace KK := KK.trans Kp (own_new hbx)
              replace Aa := Aa.keep Kp hne
              replace A := A'
              refine g_dup W (pc' := 339) (D st_338) rfl rfl ?_
              refine g_iconst W (pc' := 340) (D st_339) rfl (v := (4 : Int32)) (by decide) ?_
              refine g_aloadN W (pc' := 341) (D st_340) rfl rfl (by first | rfl | assumption) ?_
              refine g_iconst W (pc' := 342) (D st_341) rfl (v := (4 : Int32)) (by decide) ?_
              refine g_caload W (pc' := 343) (Aa) (i := 4) (by decide) (by decide) (by show 4 < 9; decide) (D st_342) rfl ?_
              refine g_castore W (pc' := 344) (A) (hbz) (i := 4) (by decide) (by decide) (by simp) ((hL.get 4).1) ((hL.get 4).w) (D st_343) rfl (fun T g4 W Kp A' => ?_)
              replace N := N.keepA wi Kp A
              replace KK := KK.trans Kp (own_new hbx)
              replace Aa := Aa.keep Kp hne
              replace A := A'
              refine g_dup W (pc' := 345) (D st_344) rfl rfl ?_
              refine g_iconst W (pc' := 346) (D st_345) rfl (v := (5 : Int32)) (by decide) ?_
              refine g_aloadN W (pc' := 347) (D st_346) rfl rfl (by first | rfl | assumption) ?_
              refine g_iconst W (pc' := 348) (D st_347) rfl (v := (5 : Int32)) (by decide) ?_
              refine g_caload W (pc' := 349) (Aa) (i := 5) (by decide) (by decide) (by show 5 < 9; decide) (D st_348) rfl ?_
              refine g_castore W (pc' := 350) (A) (hbz) (i := 5) (by decide) (by decide) (by simp) ((hL.get 5).1) ((hL.get 5).w) (D st_349) rfl (fun T g5 W Kp A' => ?_)
              replace N := N.keepA wi Kp A
              replace KK := KK.trans Kp (own_new hbx)
              replace Aa := Aa.keep Kp hne
              replace A := A'
              refine g_dup W (pc' := 351) (D st_350) rfl rfl ?_
              refine g_bipush W (pc' := 353) (D st_351) rfl (v := (6 : Int32)) (by decide) ?_
              refine g_aloadN W (pc' := 354) (D st_353) rfl rfl (by first | rfl | assumption) ?_
              refine g_bipush W (pc' := 356) (D st_354) rfl (v := (6 : Int32)) (by decide) ?_
              refine g_caload W (pc' := 357) (Aa) (i := 6) (by decide) (by decide) (by show 6 < 9; decide) (D st_356) rfl ?_
              refine g_castore W (pc' := 358) (A) (hbz) (i := 6) (by decide) (by decide) (by simp) ((hL.get 6).1) ((hL.get 6).w) (D st_357) rfl (fun T g6 W Kp A' => ?_)
              replace N := N.keepA wi Kp A
              replace KK := KK.trans Kp (own_new hbx)
              replace Aa := Aa.keep Kp hne
              replace A := A'
              refine g_dup W (pc' := 359) (D st_358) rfl rfl ?_
              refine g_bipush W (pc' := 361) (D st_359) rfl (v := (7 : Int32)) (by decide) ?_
              refine g_aloadN W (pc' := 362) (D st_361) rfl rfl (by first | rfl | assumption) ?_
              refine g_bipush W (pc' := 364) (D st_362) rfl (v := (7 : Int32)) (by decide) ?_
              refine g_caload W (pc' := 365) (Aa) (i := 7) (by decide) (by decide) (by show 7 < 9; decide) (D st_364) rfl ?_
              refine g_castore W (pc' := 366) (A) (hbz) (i := 7) (by decide) (by decide) (by simp) ((hL.get 7).1) ((hL.get 7).w) (D st_365) rfl (fun T g7 W Kp A' => ?_)
              replace N := N.keepA wi Kp A
              replace KK := KK.trans Kp (own_new hbx)
              replace Aa := Aa.keep Kp hne
              replace A := A'
              refine g_dup W (pc' := 367) (D st_366) rfl rfl ?_
              refine g_bipush W (pc' := 369) (D st_367) rfl (v := (8 : Int32)) (by decide) ?_
              refine g_aloadN W (pc' := 370) (D st_369) rfl rfl (by first | rfl | assumption) ?_
              refine g_bipush W (pc' := 372) (D st_370) rfl (v := (8 : Int32)) (by decide) ?_
              refine g_caload W (pc' := 373) (Aa) (i := 8) (by decide) (by decide) (by show 8 < 9; decide) (D st_372) rfl ?_
              refine g_castore W (pc' := 374) (A) (hbz) (i := 8) (by decide) (by decide) (by simp) ((hL.get 8).1) ((hL.get 8).w) (D st_373) rfl (fun T g8 W Kp A' => ?_)
              replace N := N.keepA wi Kp A
              replace KK := KK.trans Kp (own_new hbx)
              replace Aa := Aa.keep Kp hne
              replace A := A'
              replace A : Ali Z _ b .char (([x0, x1, x2, x3, x4, x5, x6, x7, x8] : List Int32).map Value.int) := A
              refine g_initS W hw cst (N) (A) (fun z hz => hL z (List.mem_of_mem_take (i := 9) hz)) (by show 0 < 9; decide) (by show 9 ≤ 4000; decide) (hw _ (List.mem_of_getElem? (i := 56) rfl)) (pc' := 377) (by rw [hml]; rfl) (D st_374) rfl (Wn := 1) (Nat.le_refl _) (by decide) (by decide) (by decide) (nn := 9) (Nat.le_refl _) (by decide) (fun T gz W Kp S => ?_)
              replace KK := KK.trans Kp (own_new hx)
              exact g_areturn W (D st_377) hret rfl rfl (by decide) (by decide) ⟨_, rfl, x, _, rfl, keep_ext KK, S⟩
theorem efL (m : MethodId) (x0 : Int32) (x1 : Int32) (x2 : Int32) (x3 : Int32) : entryFrame m #[.int x0, .int x1, .int x2, .int x3] maxLocals = mkF m 0 #[.val (.int x0), .val (.int x1), .val (.int x2), .val (.int x3), .unset, .unset, .unset, .unset, .unset, .unset, .unset] [] := by first | (simp [entryFrame, mkF, argsToLocals, Value.category, maxLocals]; done) | rfl
abbrev GL (Z : State) (p : Program) (e : Env) (s : State) (below : List Frame) (T : State) (g : JFrame) : Prop := Go p e below (Endp Z consts_1 s (Ret fun v _ => v = .int 1) room_1.cells room_1.slots) T g
abbrev WL (l : Launch) (Z : State) (a0 : Array Value) (p : Program) (e : Env) (s : State) (m : MethodId) (below : List Frame) (meth : Method) (c : Code) (A : Array Value) (F : List Addr) (T : State) (h : Heap) (k n : Nat) : Prop := Wd p l e room_1 s m A below meth c Z a0 consts_1 LW F T h k n
theorem pm (pos nn : Int32) {k : Nat} (hn : nn = Int32.ofNat k) (h4 : 4 ≤ k) (h8 : k ≤ 8) : ¬ (pos &&& 2147483647) % nn < 0 ∧ ((pos &&& 2147483647) % nn).toNatClampNeg < 9 ∧ nn ≠ 0 := by
  have q := c_and pos 2147483647 (by decide)
  have hk : nn.toInt = k := by rw [hn]; exact Int32.toInt_ofNat_small (by omega)
  have r := (c_iremV (pos &&& 2147483647) nn).1 q.1 (by omega)
  have e0 : (0 : Int32).toInt = 0 := rfl
  refine ⟨?_, ?_, ?_⟩
  · rw [Int32.lt_iff_toInt_lt]; omega
  · simp only [Int32.toNatClampNeg]; omega
  · rw [Ne, ← Int32.toInt_inj]; omega
theorem len9 : ∀ bs : List Int32, bs.length = 9 → ∃ x0 x1 x2 x3 x4 x5 x6 x7 x8, bs = [x0, x1, x2, x3, x4, x5, x6, x7, x8]
  | [x0, x1, x2, x3, x4, x5, x6, x7, x8], _ => ⟨x0, x1, x2, x3, x4, x5, x6, x7, x8, rfl⟩
set_option maxRecDepth 65536 in
set_option maxHeartbeats 8000000 in
theorem t_law (l : Launch) {Z : State} {a0 : Array Value} (hw : ∀ d ∈ tables_1, d.before a0 Z = true) (cst : Cst Z) (fst : Fst Z) (hEL : EW Z a0 consts_1) {va q0 q1 q2 q3 e0 e1 e2 e3 : Addr} (KN : Kn Z va q0 q1 q2 q3 e0 e1 e2 e3) (sel pos ch mode : Int32) :
    MetW tables_1 l Z consts_1 [] x code maxLocals ret room_1 #[.int sel, .int pos, .int ch, .int mode] Z.heap (Ret fun v _ => v = .int 1) := by
  have hO : Ext Z.heap Z.heap := ext_refl _
  refine Met.intro pnLW hEL hO ?_
  intro p e s m below meth c T W hby hml hret hnm
  have D : ∀ {pc : Nat} {r}, decode code pc = r → decode c.code pc = r := fun q => hb hby q
  refine Go.cast (efL m sel pos ch mode) ?_
  have wi : (Jvm.Cond.instantiable "java/lang/String" 4).before a0 Z = true := (hw _ (List.mem_of_getElem? (i := 6) rfl))
  refine g_iloadN W (pc' := 1) (D at_0) rfl rfl ?_
  refine g_bipush W (pc' := 3) (D at_1) rfl (v := (7 : Int32)) (by decide) ?_
  refine g_iand W (pc' := 4) (D at_3) rfl ?_
  refine g_callS W (t_base l hw hEL W.old) (fun x q => nomatch q) (hw _ (List.mem_of_getElem? (i := 0) rfl)) (hw _ (List.mem_of_getElem? (i := 1) rfl)) (hw _ (List.mem_of_getElem? (i := 2) rfl)) (hw _ (List.mem_of_getElem? (i := 3) rfl)) (by decide) (by decide +kernel : parseMethodDescriptor "(I)Ljava/lang/String;" = some ⟨[.int], some (.object "java/lang/String")⟩) (argsL := [_]) rfl rfl (pc' := 7) rfl (by rw [hml]; rfl) (D at_4) rfl (Wn := 0) (Nat.le_refl _) (by decide) (by decide) (by decide) (by decide) (fun v T g1 W hg hQ => ?_)
  obtain ⟨xb, cs, rfl, E1, S, k4, k8⟩ := hQ
  refine g_astore W (pc' := 9) (D at_7) rfl (by first | rfl | assumption) (ls' := #[_, _, _, _, _, _, _, _, _, _, _]) rfl ?_
  refine g_aload W (pc' := 11) (D at_9) rfl rfl (by first | rfl | assumption) ?_
  refine g_len W hw cst (S) (hw _ (List.mem_of_getElem? (i := 12) rfl)) (pc' := 14) (by rw [hml]; rfl) (D at_11) rfl (Wn := 0) (Nat.le_refl _) (by decide) (by decide) (by decide) (by decide) (rfl) (fun T W => ?_)
  obtain ⟨nn, hnn⟩ : ∃ z : Int32, z = Int32.ofNat cs.length := ⟨_, rfl⟩
  rw [← hnn]
  refine g_istore W (pc' := 16) (D at_14) rfl (ls' := #[_, _, _, _, _, _, _, _, _, _, _]) rfl ?_
  refine g_iloadN W (pc' := 17) (D at_16) rfl rfl ?_
  refine g_sipush W (pc' := 20) (D at_17) rfl (v := (255 : Int32)) (by decide) ?_
  refine g_iand W (pc' := 21) (D at_20) rfl ?_
  refine g_i2c W (pc' := 22) (D at_21) rfl ?_
  rw [i2c_mask]
  have Lch := Lc.mask ch
  obtain ⟨cc, hcc⟩ : ∃ z : Int32, z = ch &&& 255 := ⟨_, rfl⟩
  rw [← hcc] at Lch
  rw [← hcc]
  have hzh := W.old.1
  refine g_istore W (pc' := 24) (D at_22) rfl (ls' := #[_, _, _, _, _, _, _, _, _, _, _]) rfl ?_
  refine g_bipush W (pc' := 26) (D at_24) rfl (v := (9 : Int32)) (by decide) ?_
  refine g_newarray W (pc' := 28) (ty := .char) rfl (i := 9) (by decide) (by decide) (hw _ (List.mem_of_getElem? (i := 25) rfl)) (D at_26) rfl (cap := 9) (by decide) (by decide) (by decide) (by decide) (fun a T h1 ha W E A => ?_)
  have Aa : Ali Z h1 a .char ((List.replicate 9 (0 : Int32)).map Value.int) := A
  have ha0 : Z.heap.size ≤ a := Nat.le_trans hzh ha
  replace S := S.ext E
  refine g_astore W (pc' := 30) (D at_28) rfl (by first | rfl | assumption) (ls' := #[_, _, _, _, _, _, _, _, _, _, _]) rfl ?_
  refine g_aload W (pc' := 32) (D at_30) rfl rfl (by first | rfl | assumption) ?_
  refine g_iconst W (pc' := 33) (D at_32) rfl (v := (0 : Int32)) (by decide) ?_
  refine g_aload W (pc' := 35) (D at_33) rfl rfl (by first | rfl | assumption) ?_
  refine g_iconst W (pc' := 36) (D at_35) rfl (v := (0 : Int32)) (by decide) ?_
  refine g_iload W (pc' := 38) (D at_36) rfl rfl ?_
  refine g_callS W (t_at l hw hEL cst fst W.old S (i := 0) (by decide) Lch) (fun x q => nomatch q) (hw _ (List.mem_of_getElem? (i := 26) rfl)) (hw _ (List.mem_of_getElem? (i := 27) rfl)) (hw _ (List.mem_of_getElem? (i := 2) rfl)) (hw _ (List.mem_of_getElem? (i := 28) rfl)) (by decide) (by decide +kernel : parseMethodDescriptor "(Ljava/lang/String;IC)C" = some ⟨[(.object "java/lang/String"), .int, .char], some .char⟩) (argsL := [_, _, _]) rfl rfl (pc' := 41) rfl (by rw [hml]; rfl) (D at_38) rfl (Wn := 2) (Nat.le_refl _) (by decide) (by decide) (by decide) (by decide) (fun v T h' W hg hQ => ?_)
  obtain ⟨x0, rfl, L0, rfl⟩ := hQ
  have N0 := Aa.noStr (a0 := a0) (by decide)
  refine g_castore W (pc' := 42) (Aa) (ha0) (i := 0) (by decide) (by decide) (by simp) (L0.1) (L0.w) (D at_41) rfl (fun T h2 W Kp Aa => ?_)
  replace S := S.keep wi Kp N0
  refine g_aload W (pc' := 44) (D at_42) rfl rfl (by first | rfl | assumption) ?_
  refine g_iconst W (pc' := 45) (D at_44) rfl (v := (1 : Int32)) (by decide) ?_
  refine g_aload W (pc' := 47) (D at_45) rfl rfl (by first | rfl | assumption) ?_
  refine g_iconst W (pc' := 48) (D at_47) rfl (v := (1 : Int32)) (by decide) ?_
  refine g_iload W (pc' := 50) (D at_48) rfl rfl ?_
  refine g_callS W (t_at l hw hEL cst fst W.old S (i := 1) (by decide) Lch) (fun x q => nomatch q) (hw _ (List.mem_of_getElem? (i := 26) rfl)) (hw _ (List.mem_of_getElem? (i := 27) rfl)) (hw _ (List.mem_of_getElem? (i := 2) rfl)) (hw _ (List.mem_of_getElem? (i := 28) rfl)) (by decide) (by decide +kernel : parseMethodDescriptor "(Ljava/lang/String;IC)C" = some ⟨[(.object "java/lang/String"), .int, .char], some .char⟩) (argsL := [_, _, _]) rfl rfl (pc' := 53) rfl (by rw [hml]; rfl) (D at_50) rfl (Wn := 2) (Nat.le_refl _) (by decide) (by decide) (by decide) (by decide) (fun v T h' W hg hQ => ?_)
  obtain ⟨x1, rfl, L1, rfl⟩ := hQ
  have N1 := Aa.noStr (a0 := a0) (by decide)
  refine g_castore W (pc' := 54) (Aa) (ha0) (i := 1) (by decide) (by decide) (by simp) (L1.1) (L1.w) (D at_53) rfl (fun T h3 W Kp Aa => ?_)
  replace S := S.keep wi Kp N1
  refine g_aload W (pc' := 56) (D at_54) rfl rfl (by first | rfl | assumption) ?_
  refine g_iconst W (pc' := 57) (D at_56) rfl (v := (2 : Int32)) (by decide) ?_
  refine g_aload W (pc' := 59) (D at_57) rfl rfl (by first | rfl | assumption) ?_
  refine g_iconst W (pc' := 60) (D at_59) rfl (v := (2 : Int32)) (by decide) ?_
  refine g_iload W (pc' := 62) (D at_60) rfl rfl ?_
  refine g_callS W (t_at l hw hEL cst fst W.old S (i := 2) (by decide) Lch) (fun x q => nomatch q) (hw _ (List.mem_of_getElem? (i := 26) rfl)) (hw _ (List.mem_of_getElem? (i := 27) rfl)) (hw _ (List.mem_of_getElem? (i := 2) rfl)) (hw _ (List.mem_of_getElem? (i := 28) rfl)) (by decide) (by decide +kernel : parseMethodDescriptor "(Ljava/lang/String;IC)C" = some ⟨[(.object "java/lang/String"), .int, .char], some .char⟩) (argsL := [_, _, _]) rfl rfl (pc' := 65) rfl (by rw [hml]; rfl) (D at_62) rfl (Wn := 2) (Nat.le_refl _) (by decide) (by decide) (by decide) (by decide) (fun v T h' W hg hQ => ?_)
  obtain ⟨x2, rfl, L2, rfl⟩ := hQ
  have N2 := Aa.noStr (a0 := a0) (by decide)
  refine g_castore W (pc' := 66) (Aa) (ha0) (i := 2) (by decide) (by decide) (by simp) (L2.1) (L2.w) (D at_65) rfl (fun T h4 W Kp Aa => ?_)
  replace S := S.keep wi Kp N2
  refine g_aload W (pc' := 68) (D at_66) rfl rfl (by first | rfl | assumption) ?_
  refine g_iconst W (pc' := 69) (D at_68) rfl (v := (3 : Int32)) (by decide) ?_
  refine g_aload W (pc' := 71) (D at_69) rfl rfl (by first | rfl | assumption) ?_
  refine g_iconst W (pc' := 72) (D at_71) rfl (v := (3 : Int32)) (by decide) ?_
  refine g_iload W (pc' := 74) (D at_72) rfl rfl ?_
  refine g_callS W (t_at l hw hEL cst fst W.old S (i := 3) (by decide) Lch) (fun x q => nomatch q) (hw _ (List.mem_of_getElem? (i := 26) rfl)) (hw _ (List.mem_of_getElem? (i := 27) rfl)) (hw _ (List.mem_of_getElem? (i := 2) rfl)) (hw _ (List.mem_of_getElem? (i := 28) rfl)) (by decide) (by decide +kernel : parseMethodDescriptor "(Ljava/lang/String;IC)C" = some ⟨[(.object "java/lang/String"), .int, .char], some .char⟩) (argsL := [_, _, _]) rfl rfl (pc' := 77) rfl (by rw [hml]; rfl) (D at_74) rfl (Wn := 2) (Nat.le_refl _) (by decide) (by decide) (by decide) (by decide) (fun v T h' W hg hQ => ?_)
  obtain ⟨x3, rfl, L3, rfl⟩ := hQ
  have N3 := Aa.noStr (a0 := a0) (by decide)
  refine g_castore W (pc' := 78) (Aa) (ha0) (i := 3) (by decide) (by decide) (by simp) (L3.1) (L3.w) (D at_77) rfl (fun T h5 W Kp Aa => ?_)
  replace S := S.keep wi Kp N3
  refine g_aload W (pc' := 80) (D at_78) rfl rfl (by first | rfl | assumption) ?_
  refine g_iconst W (pc' := 81) (D at_80) rfl (v := (4 : Int32)) (by decide) ?_
  refine g_aload W (pc' := 83) (D at_81) rfl rfl (by first | rfl | assumption) ?_
  refine g_iconst W (pc' := 84) (D at_83) rfl (v := (4 : Int32)) (by decide) ?_
  refine g_iload W (pc' := 86) (D at_84) rfl rfl ?_
  refine g_callS W (t_at l hw hEL cst fst W.old S (i := 4) (by decide) Lch) (fun x q => nomatch q) (hw _ (List.mem_of_getElem? (i := 26) rfl)) (hw _ (List.mem_of_getElem? (i := 27) rfl)) (hw _ (List.mem_of_getElem? (i := 2) rfl)) (hw _ (List.mem_of_getElem? (i := 28) rfl)) (by decide) (by decide +kernel : parseMethodDescriptor "(Ljava/lang/String;IC)C" = some ⟨[(.object "java/lang/String"), .int, .char], some .char⟩) (argsL := [_, _, _]) rfl rfl (pc' := 89) rfl (by rw [hml]; rfl) (D at_86) rfl (Wn := 2) (Nat.le_refl _) (by decide) (by decide) (by decide) (by decide) (fun v T h' W hg hQ => ?_)
  obtain ⟨x4, rfl, L4, rfl⟩ := hQ
  have N4 := Aa.noStr (a0 := a0) (by decide)
  refine g_castore W (pc' := 90) (Aa) (ha0) (i := 4) (by decide) (by decide) (by simp) (L4.1) (L4.w) (D at_89) rfl (fun T h6 W Kp Aa => ?_)
  replace S := S.keep wi Kp N4
  refine g_aload W (pc' := 92) (D at_90) rfl rfl (by first | rfl | assumption) ?_
  refine g_iconst W (pc' := 93) (D at_92) rfl (v := (5 : Int32)) (by decide) ?_
  refine g_aload W (pc' := 95) (D at_93) rfl rfl (by first | rfl | assumption) ?_
  refine g_iconst W (pc' := 96) (D at_95) rfl (v := (5 : Int32)) (by decide) ?_
  refine g_iload W (pc' := 98) (D at_96) rfl rfl ?_
  refine g_callS W (t_at l hw hEL cst fst W.old S (i := 5) (by decide) Lch) (fun x q => nomatch q) (hw _ (List.mem_of_getElem? (i := 26) rfl)) (hw _ (List.mem_of_getElem? (i := 27) rfl)) (hw _ (List.mem_of_getElem? (i := 2) rfl)) (hw _ (List.mem_of_getElem? (i := 28) rfl)) (by decide) (by decide +kernel : parseMethodDescriptor "(Ljava/lang/String;IC)C" = some ⟨[(.object "java/lang/String"), .int, .char], some .char⟩) (argsL := [_, _, _]) rfl rfl (pc' := 101) rfl (by rw [hml]; rfl) (D at_98) rfl (Wn := 2) (Nat.le_refl _) (by decide) (by decide) (by decide) (by decide) (fun v T h' W hg hQ => ?_)
  obtain ⟨x5, rfl, L5, rfl⟩ := hQ
  have N5 := Aa.noStr (a0 := a0) (by decide)
  refine g_castore W (pc' := 102) (Aa) (ha0) (i := 5) (by decide) (by decide) (by simp) (L5.1) (L5.w) (D at_101) rfl (fun T h7 W Kp Aa => ?_)
  replace S := S.keep wi Kp N5
  refine g_aload W (pc' := 104) (D at_102) rfl rfl (by first | rfl | assumption) ?_
  refine g_bipush W (pc' := 106) (D at_104) rfl (v := (6 : Int32)) (by decide) ?_
  refine g_aload W (pc' := 108) (D at_106) rfl rfl (by first | rfl | assumption) ?_
  refine g_bipush W (pc' := 110) (D at_108) rfl (v := (6 : Int32)) (by decide) ?_
  refine g_iload W (pc' := 112) (D at_110) rfl rfl ?_
  refine g_callS W (t_at l hw hEL cst fst W.old S (i := 6) (by decide) Lch) (fun x q => nomatch q) (hw _ (List.mem_of_getElem? (i := 26) rfl)) (hw _ (List.mem_of_getElem? (i := 27) rfl)) (hw _ (List.mem_of_getElem? (i := 2) rfl)) (hw _ (List.mem_of_getElem? (i := 28) rfl)) (by decide) (by decide +kernel : parseMethodDescriptor "(Ljava/lang/String;IC)C" = some ⟨[(.object "java/lang/String"), .int, .char], some .char⟩) (argsL := [_, _, _]) rfl rfl (pc' := 115) rfl (by rw [hml]; rfl) (D at_112) rfl (Wn := 2) (Nat.le_refl _) (by decide) (by decide) (by decide) (by decide) (fun v T h' W hg hQ => ?_)
  obtain ⟨x6, rfl, L6, rfl⟩ := hQ
  have N6 := Aa.noStr (a0 := a0) (by decide)
  refine g_castore W (pc' := 116) (Aa) (ha0) (i := 6) (by decide) (by decide) (by simp) (L6.1) (L6.w) (D at_115) rfl (fun T h8 W Kp Aa => ?_)
  replace S := S.keep wi Kp N6
  refine g_aload W (pc' := 118) (D at_116) rfl rfl (by first | rfl | assumption) ?_
  refine g_bipush W (pc' := 120) (D at_118) rfl (v := (7 : Int32)) (by decide) ?_
  refine g_aload W (pc' := 122) (D at_120) rfl rfl (by first | rfl | assumption) ?_
  refine g_bipush W (pc' := 124) (D at_122) rfl (v := (7 : Int32)) (by decide) ?_
  refine g_iload W (pc' := 126) (D at_124) rfl rfl ?_
  refine g_callS W (t_at l hw hEL cst fst W.old S (i := 7) (by decide) Lch) (fun x q => nomatch q) (hw _ (List.mem_of_getElem? (i := 26) rfl)) (hw _ (List.mem_of_getElem? (i := 27) rfl)) (hw _ (List.mem_of_getElem? (i := 2) rfl)) (hw _ (List.mem_of_getElem? (i := 28) rfl)) (by decide) (by decide +kernel : parseMethodDescriptor "(Ljava/lang/String;IC)C" = some ⟨[(.object "java/lang/String"), .int, .char], some .char⟩) (argsL := [_, _, _]) rfl rfl (pc' := 129) rfl (by rw [hml]; rfl) (D at_126) rfl (Wn := 2) (Nat.le_refl _) (by decide) (by decide) (by decide) (by decide) (fun v T h' W hg hQ => ?_)
  obtain ⟨x7, rfl, L7, rfl⟩ := hQ
  have N7 := Aa.noStr (a0 := a0) (by decide)
  refine g_castore W (pc' := 130) (Aa) (ha0) (i := 7) (by decide) (by decide) (by simp) (L7.1) (L7.w) (D at_129) rfl (fun T h9 W Kp Aa => ?_)
  replace S := S.keep wi Kp N7
  refine g_aload W (pc' := 132) (D at_130) rfl rfl (by first | rfl | assumption) ?_
  refine g_bipush W (pc' := 134) (D at_132) rfl (v := (8 : Int32)) (by decide) ?_
  refine g_aload W (pc' := 136) (D at_134) rfl rfl (by first | rfl | assumption) ?_
  refine g_bipush W (pc' := 138) (D at_136) rfl (v := (8 : Int32)) (by decide) ?_
  refine g_iload W (pc' := 140) (D at_138) rfl rfl ?_
  refine g_callS W (t_at l hw hEL cst fst W.old S (i := 8) (by decide) Lch) (fun x q => nomatch q) (hw _ (List.mem_of_getElem? (i := 26) rfl)) (hw _ (List.mem_of_getElem? (i := 27) rfl)) (hw _ (List.mem_of_getElem? (i := 2) rfl)) (hw _ (List.mem_of_getElem? (i := 28) rfl)) (by decide) (by decide +kernel : parseMethodDescriptor "(Ljava/lang/String;IC)C" = some ⟨[(.object "java/lang/String"), .int, .char], some .char⟩) (argsL := [_, _, _]) rfl rfl (pc' := 143) rfl (by rw [hml]; rfl) (D at_140) rfl (Wn := 2) (Nat.le_refl _) (by decide) (by decide) (by decide) (by decide) (fun v T h' W hg hQ => ?_)
  obtain ⟨x8, rfl, L8, rfl⟩ := hQ
  have N8 := Aa.noStr (a0 := a0) (by decide)
  refine g_castore W (pc' := 144) (Aa) (ha0) (i := 8) (by decide) (by decide) (by simp) (L8.1) (L8.w) (D at_143) rfl (fun T h10 W Kp Aa => ?_)
  replace S := S.keep wi Kp N8
  replace Aa : Ali Z h10 a .char ([x0, x1, x2, x3, x4, x5, x6, x7, x8].map Value.int) := Aa
  have hL : Latin [x0, x1, x2, x3, x4, x5, x6, x7, x8] := Latin.con L0 (Latin.con L1 (Latin.con L2 (Latin.con L3 (Latin.con L4 (Latin.con L5 (Latin.con L6 (Latin.con L7 (Latin.con L8 Latin.nil))))))))
  refine g_iloadN W (pc' := 145) (D at_144) rfl rfl ?_
  refine g_bipush W (pc' := 147) (D at_145) rfl (v := (7 : Int32)) (by decide) ?_
  refine g_iand W (pc' := 148) (D at_147) rfl ?_
  refine g_istore W (pc' := 150) (D at_148) rfl (ls' := #[_, _, _, _, _, _, _, _, _, _, _]) rfl ?_
  refine g_iload W (pc' := 152) (D at_150) rfl rfl ?_
  refine g_bipush W (pc' := 154) (D at_152) rfl (v := (6 : Int32)) (by decide) ?_
  have J : ∀ (sv : Value) (sl : Slot) (T : State) (h : Heap), (sv = .null ∨ ∃ y ss, sv = .ref y ∧ Str Z h y ss) → WL l Z a0 p e s m below meth c #[.int sel, .int pos, .int ch, .int mode] [a] T h 6 80 → GL Z p e s below T (mkF m 259 #[.val (.int sel), .val (.int pos), .val (.int ch), .val (.int mode), .val (.ref xb), .val (.int nn), .val (.int cc), .val (.ref a), .val (.int (mode &&& 7)), .val sv, sl] []) := by
    intro sv sl T h hsv W
    rcases hsv with rfl | ⟨y, ss, rfl, S⟩
    · refine g_aload W (pc' := 261) (D at_259) rfl rfl (by first | rfl | assumption) ?_
      refine g_callS W (t_ofN l hw hEL cst W.old KN) (fun x q => nomatch q) (hw _ (List.mem_of_getElem? (i := 76) rfl)) (hw _ (List.mem_of_getElem? (i := 77) rfl)) (hw _ (List.mem_of_getElem? (i := 78) rfl)) (hw _ (List.mem_of_getElem? (i := 79) rfl)) (by decide) (by decide +kernel : parseMethodDescriptor "(Ljava/lang/String;)Lcom/example/fondsmith/fondsmith/model/Name$Kind;" = some ⟨[(.object "java/lang/String")], some (.object "com/example/fondsmith/fondsmith/model/Name$Kind")⟩) (argsL := [_]) rfl rfl (pc' := 264) rfl (by rw [hml]; rfl) (D at_261) rfl (Wn := 0) (Nat.le_refl _) (by decide) (by decide) (by decide) (by decide) (fun v T h2 W hg hQ => ?_)
      obtain ⟨rfl, E2⟩ := hQ
      refine g_aload W (pc' := 266) (D at_264) rfl rfl (by first | rfl | assumption) ?_
      refine g_callS W (t_expN l hw hEL cst W.old KN) (fun x q => nomatch q) (hw _ (List.mem_of_getElem? (i := 110) rfl)) (hw _ (List.mem_of_getElem? (i := 111) rfl)) (hw _ (List.mem_of_getElem? (i := 2) rfl)) (hw _ (List.mem_of_getElem? (i := 112) rfl)) (by decide) (by decide +kernel : parseMethodDescriptor "(Ljava/lang/String;)Lcom/example/fondsmith/fondsmith/model/Name$Kind;" = some ⟨[(.object "java/lang/String")], some (.object "com/example/fondsmith/fondsmith/model/Name$Kind")⟩) (argsL := [_]) rfl rfl (pc' := 269) rfl (by rw [hml]; rfl) (D at_266) rfl (Wn := 1) (Nat.le_refl _) (by decide) (by decide) (by decide) (by decide) (fun v T h3 W hg hQ => ?_)
      subst hQ
      refine g_acmpneB W (pc1 := 276) (pc2 := 272) (pc3 := 273) (pcJ := 277) (D at_269) (by decide) (by decide) rfl (D at_272) rfl (D at_273) (by decide) (by decide) (D at_276) rfl (v1 := (1 : Int32)) (v2 := (0 : Int32)) (by decide) (by decide) (by first | rfl | assumption) (by first | rfl | assumption) ?_
      rw [if_neg (fun r => r rfl)]
      exact g_retz W (D at_277) hret (Or.inr rfl) (by decide) (by decide) ⟨_, rfl, rfl⟩
    · have hk := kres_ref q0 q1 q2 q3 ss
      have hcat : (kres q0 q1 q2 q3 ss).category = 1 := by rcases ref_cases hk with r | ⟨z, r⟩ <;> rw [r] <;> rfl
      refine g_aload W (pc' := 261) (D at_259) rfl rfl (by first | rfl | assumption) ?_
      refine g_callS W (t_of l hw hEL cst W.old KN S) (fun x q => nomatch q) (hw _ (List.mem_of_getElem? (i := 76) rfl)) (hw _ (List.mem_of_getElem? (i := 77) rfl)) (hw _ (List.mem_of_getElem? (i := 78) rfl)) (hw _ (List.mem_of_getElem? (i := 79) rfl)) (by decide) (by decide +kernel : parseMethodDescriptor "(Ljava/lang/String;)Lcom/example/fondsmith/fondsmith/model/Name$Kind;" = some ⟨[(.object "java/lang/String")], some (.object "com/example/fondsmith/fondsmith/model/Name$Kind")⟩) (argsL := [_]) rfl rfl (pc' := 264) rfl (by rw [hml]; rfl) (D at_261) rfl (Wn := 0) (Nat.le_refl _) (by decide) (by decide) (by decide) (by decide) (fun v T h2 W hg hQ => ?_)
      obtain ⟨rfl, E2⟩ := hQ
      refine g_aload W (pc' := 266) (D at_264) rfl rfl (by first | rfl | assumption) ?_
      refine g_callS W (t_exp l hw hEL cst W.old KN (S.ext E2)) (fun x q => nomatch q) (hw _ (List.mem_of_getElem? (i := 110) rfl)) (hw _ (List.mem_of_getElem? (i := 111) rfl)) (hw _ (List.mem_of_getElem? (i := 2) rfl)) (hw _ (List.mem_of_getElem? (i := 112) rfl)) (by decide) (by decide +kernel : parseMethodDescriptor "(Ljava/lang/String;)Lcom/example/fondsmith/fondsmith/model/Name$Kind;" = some ⟨[(.object "java/lang/String")], some (.object "com/example/fondsmith/fondsmith/model/Name$Kind")⟩) (argsL := [_]) rfl rfl (pc' := 269) rfl (by rw [hml]; rfl) (D at_266) rfl (Wn := 1) (by simp [hcat]) (by decide) (by decide) (by decide) (by decide) (fun v T h3 W hg hQ => ?_)
      subst hQ
      refine g_acmpneB W (pc1 := 276) (pc2 := 272) (pc3 := 273) (pcJ := 277) (D at_269) (by decide) (by decide) rfl (D at_272) rfl (D at_273) (by decide) (by decide) (D at_276) rfl (v1 := (1 : Int32)) (v2 := (0 : Int32)) (by decide) (by decide) (by first | rfl | assumption) (by first | rfl | assumption) ?_
      rw [if_neg (fun r => r rfl)]
      exact g_retz W (D at_277) hret (Or.inr rfl) (by decide) (by decide) ⟨_, rfl, rfl⟩
  have P1 : GL Z p e s below T (mkF m 175 #[.val (.int sel), .val (.int pos), .val (.int ch), .val (.int mode), .val (.ref xb), .val (.int nn), .val (.int cc), .val (.ref a), .val (.int (mode &&& 7)), .unset, .unset] []) := by
    obtain ⟨p1, p2, p3⟩ := pm pos nn hnn k4 k8
    refine g_iloadN W (pc' := 176) (D at_175) rfl rfl ?_
    refine g_ldcI W (pc' := 178) (hw _ (List.mem_of_getElem? (i := 51) rfl)) (D at_176) rfl ?_
    refine g_iand W (pc' := 179) (D at_178) rfl ?_
    refine g_iload W (pc' := 181) (D at_179) rfl rfl ?_
    refine g_irem W (pc' := 182) (D at_181) rfl (by first | decide | assumption) ?_
    refine g_istore W (pc' := 184) (D at_182) rfl (ls' := #[_, _, _, _, _, _, _, _, _, _, _]) rfl ?_
    refine g_aload W (pc' := 186) (D at_184) rfl rfl (by first | rfl | assumption) ?_
    refine g_iload W (pc' := 188) (D at_186) rfl rfl ?_
    refine g_iload W (pc' := 190) (D at_188) rfl rfl ?_
    refine g_castore W (pc' := 191) (Aa) (ha0) (i := ((pos &&& 2147483647) % nn).toNatClampNeg) p1 rfl (p2) (Lch.1) (Lch.w) (D at_190) rfl (fun T h11 W Kp Ab => ?_)
    have hLb := hL.set ((pos &&& 2147483647) % nn).toNatClampNeg Lch
    generalize hbs : [x0, x1, x2, x3, x4, x5, x6, x7, x8].set ((pos &&& 2147483647) % nn).toNatClampNeg cc = bs at Ab hLb
    have hbl : bs.length = 9 := by rw [← hbs]; simp
    obtain ⟨z0, z1, z2, z3, z4, z5, z6, z7, z8, rfl⟩ := len9 bs hbl
    refine g_aload W (pc' := 193) (D at_191) rfl rfl (by first | rfl | assumption) ?_
    refine g_iload W (pc' := 195) (D at_193) rfl rfl ?_
    refine g_callS W (t_str l hw hEL cst W.old Ab hLb) (fun x q => nomatch q) (hw _ (List.mem_of_getElem? (i := 52) rfl)) (hw _ (List.mem_of_getElem? (i := 53) rfl)) (hw _ (List.mem_of_getElem? (i := 2) rfl)) (hw _ (List.mem_of_getElem? (i := 54) rfl)) (by decide) (by decide +kernel : parseMethodDescriptor "([CI)Ljava/lang/String;" = some ⟨[(.array .char), .int], some (.object "java/lang/String")⟩) (argsL := [_, _]) rfl rfl (pc' := 198) rfl (by rw [hml]; rfl) (D at_195) rfl (Wn := 0) (Nat.le_refl _) (by decide) (by decide) (by decide) (by decide) (fun v T h2 W hg hQ => ?_)
    obtain ⟨y, ss, rfl, E2, S2⟩ := hQ
    refine g_astore W (pc' := 200) (D at_198) rfl (by first | rfl | assumption) (ls' := #[_, _, _, _, _, _, _, _, _, _, _]) rfl ?_
    refine g_goto W (pc' := 259) (D at_200) (by decide) (by decide) ?_
    exact J _ _ T h2 (Or.inr ⟨y, ss, rfl, S2⟩) (W.more (by decide) (by decide))
  have P3 : GL Z p e s below T (mkF m 236 #[.val (.int sel), .val (.int pos), .val (.int ch), .val (.int mode), .val (.ref xb), .val (.int nn), .val (.int cc), .val (.ref a), .val (.int (mode &&& 7)), .unset, .unset] []) := by
    refine g_aload W (pc' := 238) (D at_236) rfl rfl (by first | rfl | assumption) ?_
    refine g_iload W (pc' := 240) (D at_238) rfl rfl ?_
    refine g_iconst W (pc' := 241) (D at_240) rfl (v := (1 : Int32)) (by decide) ?_
    refine g_iadd W (pc' := 242) (D at_241) rfl ?_
    refine g_callS W (t_str l hw hEL cst W.old Aa hL) (fun x q => nomatch q) (hw _ (List.mem_of_getElem? (i := 52) rfl)) (hw _ (List.mem_of_getElem? (i := 53) rfl)) (hw _ (List.mem_of_getElem? (i := 2) rfl)) (hw _ (List.mem_of_getElem? (i := 54) rfl)) (by decide) (by decide +kernel : parseMethodDescriptor "([CI)Ljava/lang/String;" = some ⟨[(.array .char), .int], some (.object "java/lang/String")⟩) (argsL := [_, _]) rfl rfl (pc' := 245) rfl (by rw [hml]; rfl) (D at_242) rfl (Wn := 0) (Nat.le_refl _) (by decide) (by decide) (by decide) (by decide) (fun v T h2 W hg hQ => ?_)
    obtain ⟨y, ss, rfl, E2, S2⟩ := hQ
    refine g_astore W (pc' := 247) (D at_245) rfl (by first | rfl | assumption) (ls' := #[_, _, _, _, _, _, _, _, _, _, _]) rfl ?_
    refine g_goto W (pc' := 259) (D at_247) (by decide) (by decide) ?_
    exact J _ _ T h2 (Or.inr ⟨y, ss, rfl, S2⟩) (W.more (by decide) (by decide))
  refine g_icmpne W (pc1 := 163) (pc2 := 157) (D at_154) (by decide) (by decide) rfl (fun b0 => ?_) (fun b0 => ?_)
  · refine g_iload W (pc' := 165) (D at_163) rfl rfl ?_
    refine g_iconst W (pc' := 166) (D at_165) rfl (v := (1 : Int32)) (by decide) ?_
    refine g_icmpeq W (pc1 := 175) (pc2 := 169) (D at_166) (by decide) (by decide) rfl (fun b1 => ?_) (fun b1 => ?_)
    · exact P1
    · refine g_iload W (pc' := 171) (D at_169) rfl rfl ?_
      refine g_iconst W (pc' := 172) (D at_171) rfl (v := (5 : Int32)) (by decide) ?_
      refine g_icmpne W (pc1 := 203) (pc2 := 175) (D at_172) (by decide) (by decide) rfl (fun b2 => ?_) (fun b2 => ?_)
      · refine g_iload W (pc' := 205) (D at_203) rfl rfl ?_
        refine g_iconst W (pc' := 206) (D at_205) rfl (v := (2 : Int32)) (by decide) ?_
        refine g_icmpne W (pc1 := 223) (pc2 := 209) (D at_206) (by decide) (by decide) rfl (fun b3 => ?_) (fun b3 => ?_)
        · refine g_iload W (pc' := 225) (D at_223) rfl rfl ?_
          refine g_iconst W (pc' := 226) (D at_225) rfl (v := (3 : Int32)) (by decide) ?_
          refine g_icmpeq W (pc1 := 236) (pc2 := 229) (D at_226) (by decide) (by decide) rfl (fun b4 => ?_) (fun b4 => ?_)
          · exact P3
          · refine g_iload W (pc' := 231) (D at_229) rfl rfl ?_
            refine g_bipush W (pc' := 233) (D at_231) rfl (v := (7 : Int32)) (by decide) ?_
            refine g_icmpne W (pc1 := 250) (pc2 := 236) (D at_233) (by decide) (by decide) rfl (fun b5 => ?_) (fun b5 => ?_)
            · refine g_aload W (pc' := 252) (D at_250) rfl rfl (by first | rfl | assumption) ?_
              refine g_iload W (pc' := 254) (D at_252) rfl rfl ?_
              refine g_callS W (t_str l hw hEL cst W.old Aa hL) (fun x q => nomatch q) (hw _ (List.mem_of_getElem? (i := 52) rfl)) (hw _ (List.mem_of_getElem? (i := 53) rfl)) (hw _ (List.mem_of_getElem? (i := 2) rfl)) (hw _ (List.mem_of_getElem? (i := 54) rfl)) (by decide) (by decide +kernel : parseMethodDescriptor "([CI)Ljava/lang/String;" = some ⟨[(.array .char), .int], some (.object "java/lang/String")⟩) (argsL := [_, _]) rfl rfl (pc' := 257) rfl (by rw [hml]; rfl) (D at_254) rfl (Wn := 0) (Nat.le_refl _) (by decide) (by decide) (by decide) (by decide) (fun v T h2 W hg hQ => ?_)
              obtain ⟨y, ss, rfl, E2, S2⟩ := hQ
              refine g_astore W (pc' := 259) (D at_257) rfl (by first | rfl | assumption) (ls' := #[_, _, _, _, _, _, _, _, _, _, _]) rfl ?_
              exact J _ _ T h2 (Or.inr ⟨y, ss, rfl, S2⟩) (W.more (by decide) (by decide))
            · exact P3
        · refine g_aload W (pc' := 211) (D at_209) rfl rfl (by first | rfl | assumption) ?_
          refine g_iload W (pc' := 213) (D at_211) rfl rfl ?_
          refine g_iconst W (pc' := 214) (D at_213) rfl (v := (1 : Int32)) (by decide) ?_
          refine g_isub W (pc' := 215) (D at_214) rfl ?_
          refine g_callS W (t_str l hw hEL cst W.old Aa hL) (fun x q => nomatch q) (hw _ (List.mem_of_getElem? (i := 52) rfl)) (hw _ (List.mem_of_getElem? (i := 53) rfl)) (hw _ (List.mem_of_getElem? (i := 2) rfl)) (hw _ (List.mem_of_getElem? (i := 54) rfl)) (by decide) (by decide +kernel : parseMethodDescriptor "([CI)Ljava/lang/String;" = some ⟨[(.array .char), .int], some (.object "java/lang/String")⟩) (argsL := [_, _]) rfl rfl (pc' := 218) rfl (by rw [hml]; rfl) (D at_215) rfl (Wn := 0) (Nat.le_refl _) (by decide) (by decide) (by decide) (by decide) (fun v T h2 W hg hQ => ?_)
          obtain ⟨y, ss, rfl, E2, S2⟩ := hQ
          refine g_astore W (pc' := 220) (D at_218) rfl (by first | rfl | assumption) (ls' := #[_, _, _, _, _, _, _, _, _, _, _]) rfl ?_
          refine g_goto W (pc' := 259) (D at_220) (by decide) (by decide) ?_
          exact J _ _ T h2 (Or.inr ⟨y, ss, rfl, S2⟩) (W.more (by decide) (by decide))
      · exact P1
  · refine g_aconst_null W (pc' := 158) (D at_157) rfl ?_
    refine g_astore W (pc' := 160) (D at_158) rfl (by first | rfl | assumption) (ls' := #[_, _, _, _, _, _, _, _, _, _, _]) rfl ?_
    refine g_goto W (pc' := 259) (D at_160) (by decide) (by decide) ?_
    exact J _ _ T _ (Or.inl rfl) (W.more (by decide) (by decide))
set_option maxRecDepth 65536 in
set_option maxHeartbeats 4000000 in
theorem comes_1 {Post : Tables → Env → Array Value → State → Outcome → State → Prop} (hpost : ∀ tb e args s v u, (limb_1_1.after args s (.returned v) u = true ∧ limb_1_2.after args s (.returned v) u = true ∧ True) → ReturnedEndW s (.returned v) u (Jvm.fieldLocs frame_1_writes args s ++ Jvm.arrayLocs frame_1_arrays args s ++ Jvm.staticLocs frame_1_statics s) room_1.cells room_1.slots → Post tb e args s (.returned v) u) :
    ArmFor flags0 classFile x code maxLocals ret World_1 tables_1 room_1 Calls_1 rest_1 Pre_1 Post := by
  intro l hfl _ _ p e ha hc hk s m args below hf hA hF happ hP
  obtain ⟨hcalls, hrest, hpre⟩ := hP
  obtain ⟨-, -, -, hnamed, -, -, -, hat⟩ := (Spec.applies_iff hf).mp happ
  obtain ⟨hg, hn⟩ := and_e (Cond.before_iff.mp (show (Jvm.Cond.and given_1 narrow_1).before args s = true from hpre))
  obtain ⟨hz, u0⟩ := and_e hg
  obtain ⟨g0, u1⟩ := and_e u0
  obtain ⟨g1, u2⟩ := and_e u1
  obtain ⟨g2, u3⟩ := and_e u2
  obtain ⟨w0, w1, w2, w3, rfl⟩ : ∃ w0 w1 w2 w3 : Value, args = #[w0, w1, w2, w3] := by
    have hs : args.size = 4 := by simpa [Cond.value, given_1] using hz
    obtain ⟨L⟩ := args
    match L, hs with
    | [w0, w1, w2, w3], _ => exact ⟨w0, w1, w2, w3, rfl⟩
  have hw := fun d (hd : d ∈ tables_1) => atoms_spec (ws := Jvm.Cond.code x code maxLocals ret :: tables_1) hat d (List.mem_cons_of_mem _ hd)
  obtain ⟨hsets, hown0⟩ := atoms_of _ (rest_1_c_eq ▸ (show rest_1_c.before _ s = true from hrest))
  obtain ⟨i0, e0⟩ := is_v g0
  obtain rfl : w0 = (.int i0) := Option.some.inj e0
  obtain ⟨i1, e1⟩ := is_v g1
  obtain rfl : w1 = (.int i1) := Option.some.inj e1
  obtain ⟨i2, e2⟩ := is_v g2
  obtain rfl : w2 = (.int i2) := Option.some.inj e2
  obtain ⟨i3, e3⟩ := is_v u3
  obtain rfl : w3 = (.int i3) := Option.some.inj e3
  have hcw := hsets _ (List.mem_of_getElem? (i := 2) rfl)
  have n5 := not_v (Cond.before_iff.mp hcw)
  obtain ⟨zc, ez⟩ := is_v (Cond.before_iff.mp (hsets _ (List.mem_of_getElem? (i := 1) rfl)))
  have cst : Cst s := ⟨zc, Sta.start ez (Or.inl (hsets _ (List.mem_of_getElem? (i := 0) rfl))), gotF (Cond.eq_ints ez (Term.int_eval (0))) n5⟩
  obtain ⟨vf, ef, rf⟩ := isR_v (Cond.before_iff.mp (hsets _ (List.mem_of_getElem? (i := 8) rfl)))
  have fst : Fst s := ⟨vf, Sta.start ef (Or.inl (hsets _ (List.mem_of_getElem? (i := 7) rfl))), rf⟩
  have hEL : EW s #[.int i0, .int i1, .int i2, .int i3] consts_1 := (EW.cons (hw _ (List.mem_of_getElem? (i := 4) rfl)) (by decide +kernel) (EW.cons (hw _ (List.mem_of_getElem? (i := 114) rfl)) (by decide +kernel) (EW.cons (hw _ (List.mem_of_getElem? (i := 115) rfl)) (by decide +kernel) (EW.cons (hw _ (List.mem_of_getElem? (i := 116) rfl)) (by decide +kernel) (EW.cons (hw _ (List.mem_of_getElem? (i := 117) rfl)) (by decide +kernel) (EW.cons (hw _ (List.mem_of_getElem? (i := 121) rfl)) (by decide +kernel) (EW.cons (hw _ (List.mem_of_getElem? (i := 124) rfl)) (by decide +kernel) (EW.cons (hw _ (List.mem_of_getElem? (i := 118) rfl)) (by decide +kernel) EW.nil))))))))
  have hCH : CHv s consts_1 s.vm s.heap := CHv.start hEL (fun q hq => hcalls.1 q hq) hcw (hw _ (List.mem_of_getElem? (i := 7) rfl)) (hw _ (List.mem_of_getElem? (i := 6) rfl))
  obtain ⟨m0, r0⟩ := and_e hn
  obtain ⟨m1, r1⟩ := and_e r0
  obtain ⟨m2, r2⟩ := and_e r1
  obtain ⟨m3, r3⟩ := and_e r2
  obtain ⟨m4, r4⟩ := and_e r3
  obtain ⟨m5, r5⟩ := and_e r4
  obtain ⟨m6, r6⟩ := and_e r5
  obtain ⟨m7, r7⟩ := and_e r6
  obtain ⟨m8, r8⟩ := and_e r7
  obtain ⟨m9, r9⟩ := and_e r8
  obtain ⟨m10, r10⟩ := and_e r9
  obtain ⟨m11, r11⟩ := and_e r10
  obtain ⟨m12, r12⟩ := and_e r11
  obtain ⟨m13, r13⟩ := and_e r12
  obtain ⟨m14, r14⟩ := and_e r13
  obtain ⟨m15, r15⟩ := and_e r14
  obtain ⟨m16, r16⟩ := and_e r15
  obtain ⟨m17, r17⟩ := and_e r16
  obtain ⟨m18, r18⟩ := and_e r17
  obtain ⟨m19, r19⟩ := and_e r18
  obtain ⟨m20, r20⟩ := and_e r19
  obtain ⟨m21, r21⟩ := and_e r20
  obtain ⟨m22, r22⟩ := and_e r21
  obtain ⟨m23, r23⟩ := and_e r22
  obtain ⟨m24, r24⟩ := and_e r23
  obtain ⟨m25, r25⟩ := and_e r24
  obtain ⟨m26, r26⟩ := and_e r25
  obtain ⟨m27, r27⟩ := and_e r26
  obtain ⟨m28, r28⟩ := and_e r27
  obtain ⟨m29, r29⟩ := and_e r28
  obtain ⟨m30, r30⟩ := and_e r29
  obtain ⟨m31, r31⟩ := and_e r30
  obtain ⟨m32, r32⟩ := and_e r31
  obtain ⟨m33, r33⟩ := and_e r32
  obtain ⟨m34, r34⟩ := and_e r33
  obtain ⟨m35, r35⟩ := and_e r34
  obtain ⟨m36, r36⟩ := and_e r35
  obtain ⟨m37, r37⟩ := and_e r36
  obtain ⟨m38, r38⟩ := and_e r37
  obtain ⟨m39, r39⟩ := and_e r38
  obtain ⟨m40, r40⟩ := and_e r39
  obtain ⟨m41, r41⟩ := and_e r40
  obtain ⟨m42, r42⟩ := and_e r41
  obtain ⟨m43, r43⟩ := and_e r42
  obtain ⟨m44, r44⟩ := and_e r43
  obtain ⟨m45, r45⟩ := and_e r44
  obtain ⟨m46, r46⟩ := and_e r45
  obtain ⟨m47, r47⟩ := and_e r46
  obtain ⟨m48, r48⟩ := and_e r47
  obtain ⟨m49, r49⟩ := and_e r48
  obtain ⟨m50, r50⟩ := and_e r49
  obtain ⟨m51, r51⟩ := and_e r50
  obtain ⟨m52, r52⟩ := and_e r51
  have m53 := r52
  have hfit : Fit s := fun {y c} hc i hi => by
    obtain ⟨ha, rfl⟩ := Array.getElem?_eq_some_iff.mp hc
    have q := List.all_eq_true.mp ((Array.all_eq_true_iff_forall_mem.mp hF) _ (Array.getElem_mem ha)) i (List.mem_range.mpr hi)
    simpa [Array.getElem?_eq_getElem hi] using q
  obtain ⟨q0, ev0⟩ := exa_v m3
  have s0 := Sta.start ev0 (Or.inr ⟨(hw _ (List.mem_of_getElem? (i := 78) rfl)), (hw _ (List.mem_of_getElem? (i := 92) rfl))⟩)
  obtain ⟨e0', fe0⟩ := exa_v m11
  have f0 : Fld s s.heap q0 NK EN SD (.ref e0') := Fld.start (by rw [fld_at ev0] at fe0; exact fe0)
  have S0 : Str s s.heap e0' C0 := str_at (bs := C0) fe0 m11 m12 m13 m14 (by decide) (by decide) (by unfold Latin; decide) (by decide) (fun i hi => match i, hi with | 0, _ => m31 | 1, _ => m32 | 2, _ => m33 | 3, _ => m34 | 4, _ => m35 | 5, _ => m36 | 6, _ => m37 | 7, _ => m38)
  obtain ⟨q1, ev1⟩ := exa_v m5
  have s1 := Sta.start ev1 (Or.inr ⟨(hw _ (List.mem_of_getElem? (i := 78) rfl)), (hw _ (List.mem_of_getElem? (i := 93) rfl))⟩)
  obtain ⟨e1', fe1⟩ := exa_v m15
  have f1 : Fld s s.heap q1 NK EN SD (.ref e1') := Fld.start (by rw [fld_at ev1] at fe1; exact fe1)
  have S1 : Str s s.heap e1' C1 := str_at (bs := C1) fe1 m15 m16 m17 m18 (by decide) (by decide) (by unfold Latin; decide) (by decide) (fun i hi => match i, hi with | 0, _ => m39 | 1, _ => m40 | 2, _ => m41 | 3, _ => m42 | 4, _ => m43 | 5, _ => m44 | 6, _ => m45 | 7, _ => m46)
  obtain ⟨q2, ev2⟩ := exa_v m7
  have s2 := Sta.start ev2 (Or.inr ⟨(hw _ (List.mem_of_getElem? (i := 78) rfl)), (hw _ (List.mem_of_getElem? (i := 94) rfl))⟩)
  obtain ⟨e2', fe2⟩ := exa_v m19
  have f2 : Fld s s.heap q2 NK EN SD (.ref e2') := Fld.start (by rw [fld_at ev2] at fe2; exact fe2)
  have S2 : Str s s.heap e2' C2 := str_at (bs := C2) fe2 m19 m20 m21 m22 (by decide) (by decide) (by unfold Latin; decide) (by decide) (fun i hi => match i, hi with | 0, _ => m47 | 1, _ => m48 | 2, _ => m49 | 3, _ => m50 | 4, _ => m51 | 5, _ => m52 | 6, _ => m53)
  obtain ⟨q3, ev3⟩ := exa_v m9
  have s3 := Sta.start ev3 (Or.inr ⟨(hw _ (List.mem_of_getElem? (i := 78) rfl)), (hw _ (List.mem_of_getElem? (i := 95) rfl))⟩)
  obtain ⟨e3', fe3⟩ := exa_v m23
  have f3 : Fld s s.heap q3 NK EN SD (.ref e3') := Fld.start (by rw [fld_at ev3] at fe3; exact fe3)
  have S3 : Str s s.heap e3' C3 := str_at (bs := C3) fe3 m23 m24 m25 m26 (by decide) (by decide) (by unfold Latin; decide) (by decide) (fun i hi => match i, hi with | 0, _ => m27 | 1, _ => m28 | 2, _ => m29 | 3, _ => m30)
  obtain ⟨va, eva⟩ := arr_v m0
  have sv := Sta.start eva (Or.inr ⟨(hw _ (List.mem_of_getElem? (i := 78) rfl)), (hw _ (List.mem_of_getElem? (i := 84) rfl))⟩)
  obtain ⟨cl, Acl, hcl, -⟩ := arr_at (n := 4) (vs := fun i => ([.ref q0, .ref q1, .ref q2, .ref q3] : List Value).getD i .null) eva m0 m2 (by decide) (by decide) (fun i hi => match i, hi with | 0, _ => elem_ref m4 ev0 | 1, _ => elem_ref m6 ev1 | 2, _ => elem_ref m8 ev2 | 3, _ => elem_ref m10 ev3)
  have KN : Kn s va q0 q1 q2 q3 e0' e1' e2' e3' := ⟨sv, ⟨cl, Acl, FitC.start hfit Acl, hcl⟩, Exa.start eva m1, s0, s1, s2, s3, f0, f1, f2, f3, S0, S1, S2, S3⟩
  obtain ⟨n, o, h1, h2, h3, v, L, rfl, ⟨⟨w, rfl, rfl⟩, N, hE⟩, hC, hq⟩ := t_law l hw cst fst hEL KN i0 i1 i2 i3 p e ha hc hk s m _ below hf ((Spec.applies_iff_loose hf).mp happ).1 ⟨rfl, State.Warmed39.refl s, rfl, hCH, fun x q => nomatch q⟩ trivial
  refine ⟨n, _, h1, h2, h3, hpost _ _ _ _ _ _ ⟨Cond.after_iff.mpr rfl, Cond.after_iff.mpr (eq_i res_at (Term.int_eval (1)) rfl), trivial⟩ ⟨hq.1, hq.2.1, hq.2.2.1, hq.2.2.2.sift fun y hy => Or.inr (N y hy)⟩⟩
theorem main_1_1 : Claimed_1_1 := comes_1 fun _ _ _ _ _ _ h hF => ⟨h.1, hF⟩
theorem main_1_2 : Claimed_1_2 := comes_1 fun _ _ _ _ _ _ h hF => ⟨h.2.1, hF⟩
end Jvm.Pilot.@@N@@
namespace Jvm.Pilot.@@N@@
open Jvm Jvm.ClassFile Sem Op Lib Jvm.Free Jvm.Stand Jvm.Pilot.@@N@@.Jvm.D
/-! MADE BY PROGRAM (witnessworld.py) out of the Statement's table words and the real class files: 22 classes; the members and pool entries that the words name. The judged class is class 1, her method 1. -/
namespace start1
open Jvm.ClassFile
def u (s : String) : CpInfo := .utf8 (stringToUtf16 s)
/-- a pool by its gaps: so many unusable entries, then the entry; so many at the end -/
def gap : Nat → List CpInfo → List CpInfo
  | 0, r => r
  | n + 1, r => .unusable :: gap n r
def poolList (es : List (Nat × CpInfo)) (last : Nat) : List CpInfo := es.foldr (fun e r => gap e.1 (e.2 :: r)) (gap last [])
def pool (es : List (Nat × CpInfo)) (last : Nat) : Array CpInfo := ⟨poolList es last⟩
def fileOf (pool : Array CpInfo) (this : Nat) (attrs : Array Attribute := #[]) (ms : Array MethodInfo := #[]) (fl : Nat := 33) (sup : Nat := 0) (ifs : Array Nat := #[]) (fds : Array FieldInfo := #[]) : ClassFile where
  minorVersion := 0
  majorVersion := 65
  constantPool := pool
  accessFlags := fl
  thisClass := this
  superClass := sup
  interfaces := ifs
  fields := fds
  methods := ms
  attributes := attrs
def plain (name : String) (sup : Option ClassId) : Class where
  name := name
  kind := .ordinary
  loader := none
  accessFlags := 33
  super := sup
  interfaces := #[]
  cf := none
  fields := #[]
  methods := #[]
  instanceTypes := #[]
  staticTypes := #[]
  resolved := #[]
  callSites := []
  init := .initialized
  statics := none
  mirror := none

def pool0 : Array CpInfo := pool [(5, u "<init>"), (0, u "()V"), (1, .class_ 10), (1, u "java/lang/Object"), (85, u "clone"), (0, u "()Ljava/lang/Object;")] 26

def k0c0 : Code := { maxStack := 0, maxLocals := 1, code := object_method_1_code, exceptionTable := #[], attributes := #[] }
def k0m0 : Method := { name := "<init>", desc := "()V", sig := { parameters := [], returnType := none }, accessFlags := 1, code := some k0c0 }
def k0m1 : Method := { name := "clone", desc := "()Ljava/lang/Object;", sig := { parameters := [], returnType := some (.object "java/lang/Object") }, accessFlags := 260, code := none }
/-- java/lang/Object -/
def k0 : Class := { plain "java/lang/Object" none with
  accessFlags := 33
  interfaces := #[]
  cf := some (fileOf pool0 8 #[] #[{ accessFlags := 1, nameIndex := 5, descriptorIndex := 6, attributes := #[] }, { accessFlags := 260, nameIndex := 96, descriptorIndex := 97, attributes := #[] }] 33 0 #[] #[])
  fields := #[]
  methods := #[k0m0, k0m1]
  instanceTypes := #[]
  staticTypes := #[]
  resolved := Array.replicate 124 none
  statics := none }

def pool1 : Array CpInfo := pool [(2, .class_ 4), (1, u "java/lang/Object"), (0, u "<init>"), (0, u "()V"), (0, .methodref 8 9), (0, .class_ 10), (0, .nameAndType 11 12), (0, u "com/example/fondsmith/fondsmith/model/KindOfPinLaw"), (0, u "base"), (0, u "(I)Ljava/lang/String;"), (0, .methodref 14 15), (0, .class_ 16), (0, .nameAndType 17 18), (0, u "java/lang/String"), (0, u "length"), (0, u "()I"), (0, .methodref 8 20), (0, .nameAndType 21 22), (0, u "at"), (0, u "(Ljava/lang/String;IC)C"), (0, .integer 2147483647), (0, .methodref 8 25), (0, .nameAndType 26 27), (0, u "str"), (0, u "([CI)Ljava/lang/String;"), (0, .methodref 29 30), (0, .class_ 31), (0, .nameAndType 32 33), (0, u "com/example/fondsmith/fondsmith/model/Name$Kind"), (0, u "of"), (0, u "(Ljava/lang/String;)Lcom/example/fondsmith/fondsmith/model/Name$Kind;"), (0, .methodref 8 35), (0, .nameAndType 36 33), (0, u "expected"), (0, .string 38), (0, u "persname"), (0, .methodref 14 40), (0, .nameAndType 41 42), (0, u "equals"), (0, u "(Ljava/lang/Object;)Z"), (0, .fieldref 29 44), (0, .nameAndType 45 46), (0, u "PERSON"), (0, u "Lcom/example/fondsmith/fondsmith/model/Name$Kind;"), (0, .string 48), (0, u "corpname"), (0, .fieldref 29 50), (0, .nameAndType 51 46), (0, u "ORGANIZATION"), (0, .string 53), (0, u "famname"), (0, .fieldref 29 55), (0, .nameAndType 56 46), (0, u "FAMILY"), (0, .string 58), (0, u "name"), (0, .fieldref 29 60), (0, .nameAndType 61 46), (0, u "UNSPECIFIED"), (0, .string 63), (0, u "subject"), (0, .string 65), (0, u "geogname"), (0, .string 67), (0, u "title"), (0, .string 69), (0, u "function"), (0, .methodref 14 71), (0, .nameAndType 72 73), (0, u "charAt"), (0, u "(I)C"), (0, .methodref 14 75), (0, .nameAndType 5 76), (0, u "([C)V"), (2, u "law"), (0, u "(IIII)Z")] 9

def k1m0 : Method := { name := "<init>", desc := "()V", sig := { parameters := [], returnType := none }, accessFlags := 2, code := none }
def k1c1 : Code := { maxStack := 5, maxLocals := 11, code := code, exceptionTable := #[], attributes := #[] }
def k1m1 : Method := { name := "law", desc := "(IIII)Z", sig := { parameters := [.int, .int, .int, .int], returnType := some .boolean }, accessFlags := 9, code := some k1c1 }
def k1c2 : Code := { maxStack := 2, maxLocals := 1, code := method_3_code, exceptionTable := #[], attributes := #[] }
def k1m2 : Method := { name := "expected", desc := "(Ljava/lang/String;)Lcom/example/fondsmith/fondsmith/model/Name$Kind;", sig := { parameters := [(.object "java/lang/String")], returnType := some (.object "com/example/fondsmith/fondsmith/model/Name$Kind") }, accessFlags := 10, code := some k1c2 }
def k1c3 : Code := { maxStack := 2, maxLocals := 1, code := method_4_code, exceptionTable := #[], attributes := #[] }
def k1m3 : Method := { name := "base", desc := "(I)Ljava/lang/String;", sig := { parameters := [.int], returnType := some (.object "java/lang/String") }, accessFlags := 10, code := some k1c3 }
def k1c4 : Code := { maxStack := 2, maxLocals := 3, code := method_5_code, exceptionTable := #[], attributes := #[] }
def k1m4 : Method := { name := "at", desc := "(Ljava/lang/String;IC)C", sig := { parameters := [(.object "java/lang/String"), .int, .char], returnType := some .char }, accessFlags := 10, code := some k1c4 }
def k1c5 : Code := { maxStack := 7, maxLocals := 2, code := method_6_code, exceptionTable := #[], attributes := #[] }
def k1m5 : Method := { name := "str", desc := "([CI)Ljava/lang/String;", sig := { parameters := [(.array .char), .int], returnType := some (.object "java/lang/String") }, accessFlags := 10, code := some k1c5 }
/-- com/example/fondsmith/fondsmith/model/KindOfPinLaw -/
def k1 : Class := { plain "com/example/fondsmith/fondsmith/model/KindOfPinLaw" (some 0) with
  accessFlags := 49
  interfaces := #[]
  cf := some (fileOf pool1 8 #[] #[{ accessFlags := 2, nameIndex := 5, descriptorIndex := 6, attributes := #[] }, { accessFlags := 9, nameIndex := 79, descriptorIndex := 80, attributes := #[] }, { accessFlags := 10, nameIndex := 36, descriptorIndex := 33, attributes := #[] }, { accessFlags := 10, nameIndex := 11, descriptorIndex := 12, attributes := #[] }, { accessFlags := 10, nameIndex := 21, descriptorIndex := 22, attributes := #[] }, { accessFlags := 10, nameIndex := 26, descriptorIndex := 27, attributes := #[] }] 49 2 #[] #[])
  fields := #[]
  methods := #[k1m0, k1m1, k1m2, k1m3, k1m4, k1m5]
  instanceTypes := #[]
  staticTypes := #[]
  resolved := Array.replicate 90 none
  statics := none }

def pool2 : Array CpInfo := pool [(1, .class_ 2), (0, u "java/io/Serializable"), (0, .class_ 4), (0, u "java/lang/Object")] 2

/-- java/io/Serializable -/
def k2 : Class := { plain "java/io/Serializable" (some 0) with
  accessFlags := 1537
  interfaces := #[]
  cf := some (fileOf pool2 1 #[] #[] 1537 3 #[] #[])
  fields := #[]
  methods := #[]
  instanceTypes := #[]
  staticTypes := #[]
  resolved := Array.replicate 7 none
  statics := none }

def pool3 : Array CpInfo := pool [(1, .class_ 2), (0, u "java/lang/Comparable"), (0, .class_ 4), (0, u "java/lang/Object")] 7

/-- java/lang/Comparable -/
def k3 : Class := { plain "java/lang/Comparable" (some 0) with
  accessFlags := 1537
  interfaces := #[]
  cf := some (fileOf pool3 1 #[] #[] 1537 3 #[] #[])
  fields := #[]
  methods := #[]
  instanceTypes := #[]
  staticTypes := #[]
  resolved := Array.replicate 12 none
  statics := none }

def pool4 : Array CpInfo := pool [(2, .class_ 4), (1, u "java/lang/CharSequence"), (42, .class_ 48), (0, u "java/lang/CharSequence$1CodePointIterator"), (10, .class_ 60), (0, u "java/lang/CharSequence$1CharIterator"), (5, .class_ 67), (0, u "java/lang/Object")] 63

/-- java/lang/CharSequence -/
def k4 : Class := { plain "java/lang/CharSequence" (some 0) with
  accessFlags := 1537
  interfaces := #[]
  cf := some (fileOf pool4 2 #[.nestMembers #[47, 59]] #[] 1537 66 #[] #[])
  fields := #[]
  methods := #[]
  instanceTypes := #[]
  staticTypes := #[]
  resolved := Array.replicate 131 none
  statics := none }

def pool5 : Array CpInfo := pool [(1, .class_ 2), (0, u "java/lang/constant/Constable"), (0, .class_ 4), (0, u "java/lang/Object")] 6

/-- java/lang/constant/Constable -/
def k5 : Class := { plain "java/lang/constant/Constable" (some 0) with
  accessFlags := 1537
  interfaces := #[]
  cf := some (fileOf pool5 1 #[] #[] 1537 3 #[] #[])
  fields := #[]
  methods := #[]
  instanceTypes := #[]
  staticTypes := #[]
  resolved := Array.replicate 11 none
  statics := none }

def pool6 : Array CpInfo := pool [(1, .class_ 2), (0, u "java/lang/constant/ConstantDesc"), (0, .class_ 4), (0, u "java/lang/Object")] 32

/-- java/lang/constant/ConstantDesc -/
def k6 : Class := { plain "java/lang/constant/ConstantDesc" (some 0) with
  accessFlags := 1537
  interfaces := #[]
  cf := some (fileOf pool6 1 #[] #[] 1537 3 #[] #[])
  fields := #[]
  methods := #[]
  instanceTypes := #[]
  staticTypes := #[]
  resolved := Array.replicate 37 none
  statics := none }

def pool7 : Array CpInfo := pool [(1, .methodref 2 3), (0, .class_ 4), (0, .nameAndType 5 6), (0, u "java/lang/Object"), (0, u "<init>"), (0, u "()V"), (2, .fieldref 10 11), (0, .class_ 12), (0, .nameAndType 13 14), (0, u "java/lang/String"), (0, u "value"), (0, u "[B"), (0, .fieldref 10 16), (0, .nameAndType 17 18), (0, u "coder"), (0, u "B"), (2, u "hash"), (0, u "I"), (2, u "hashIsZero"), (0, u "Z"), (0, .methodref 10 28), (0, .nameAndType 5 29), (0, u "([CIILjava/lang/Void;)V"), (8, .fieldref 10 39), (0, .nameAndType 40 26), (0, u "COMPACT_STRINGS"), (1, .class_ 44), (1, u "java/lang/StringUTF16"), (0, u "compress"), (1, .methodref 42 48), (0, .nameAndType 49 50), (0, u "coderFromArrayLen"), (0, u "([BI)B"), (56, .class_ 109), (1, u "java/lang/StringLatin1"), (32, u "()Z"), (34, .methodref 42 178), (0, .nameAndType 45 179), (0, u "([CII)[B"), (154, u "()I"), (0, .methodref 10 336), (0, .nameAndType 17 337), (0, u "()B"), (25, u "([BI)C"), (27, u "(II)V"), (35, u "(I)C"), (64, .methodref 10 493), (0, .nameAndType 494 142), (0, u "isLatin1"), (0, .methodref 107 496), (0, .nameAndType 497 363), (0, u "charAt"), (3, u "checkIndex"), (5, u "length"), (33, .methodref 107 542), (0, .nameAndType 543 544), (0, u "equals"), (0, u "([B[B)Z"), (28, u "(Ljava/lang/Object;)Z"), (1, .class_ 576), (0, u "java/lang/CharSequence"), (22, u "CASE_INSENSITIVE_ORDER"), (0, u "Ljava/util/Comparator;"), (409, u "([C)V"), (42, .fieldref 1054 1055), (0, .class_ 1056), (0, .nameAndType 1057 1058), (0, u "jdk/internal/util/Preconditions"), (0, u "SIOOBE_FORMATTER"), (0, u "Ljava/util/function/BiFunction;"), (0, .methodref 1054 1060), (0, .nameAndType 501 1061), (0, u "(IILjava/util/function/BiFunction;)I"), (39, u "serialPersistentFields"), (0, u "[Ljava/io/ObjectStreamField;"), (0, .class_ 1104), (0, u "java/lang/String$CaseInsensitiveComparator"), (1, .class_ 1107), (0, u "java/io/Serializable"), (0, .class_ 1109), (0, u "java/lang/Comparable"), (0, .class_ 1111), (0, u "java/lang/constant/Constable"), (0, .class_ 1113), (0, u "java/lang/constant/ConstantDesc"), (2, u "serialVersionUID"), (0, u "J"), (3, u "REPL"), (0, u "C"), (2, u "LATIN1"), (1, u "UTF16")] 323

def k7m0 : Method := { name := "<init>", desc := "()V", sig := { parameters := [], returnType := none }, accessFlags := 1, code := none }
def k7c1 : Code := { maxStack := 5, maxLocals := 2, code := jdk_42_method_3_code, exceptionTable := #[], attributes := #[] }
def k7m1 : Method := { name := "<init>", desc := "([C)V", sig := { parameters := [(.array .char)], returnType := none }, accessFlags := 1, code := some k7c1 }
def k7c2 : Code := { maxStack := 2, maxLocals := 1, code := jdk_42_method_54_code, exceptionTable := #[], attributes := #[] }
def k7m2 : Method := { name := "length", desc := "()I", sig := { parameters := [], returnType := some .int }, accessFlags := 1, code := some k7c2 }
def k7c3 : Code := { maxStack := 2, maxLocals := 2, code := jdk_42_method_56_code, exceptionTable := #[], attributes := #[] }
def k7m3 : Method := { name := "charAt", desc := "(I)C", sig := { parameters := [.int], returnType := some .char }, accessFlags := 1, code := some k7c3 }
def k7c4 : Code := { maxStack := 2, maxLocals := 3, code := jdk_42_method_66_code, exceptionTable := #[], attributes := #[] }
def k7m4 : Method := { name := "equals", desc := "(Ljava/lang/Object;)Z", sig := { parameters := [(.object "java/lang/Object")], returnType := some .boolean }, accessFlags := 1, code := some k7c4 }
def k7c5 : Code := { maxStack := 4, maxLocals := 6, code := jdk_42_method_149_code, exceptionTable := #[], attributes := #[] }
def k7m5 : Method := { name := "<init>", desc := "([CIILjava/lang/Void;)V", sig := { parameters := [(.array .char), .int, .int, (.object "java/lang/Void")], returnType := none }, accessFlags := 2, code := some k7c5 }
def k7c6 : Code := { maxStack := 1, maxLocals := 1, code := jdk_42_method_152_code, exceptionTable := #[], attributes := #[] }
def k7m6 : Method := { name := "coder", desc := "()B", sig := { parameters := [], returnType := some .byte }, accessFlags := 0, code := some k7c6 }
def k7c7 : Code := { maxStack := 1, maxLocals := 1, code := jdk_42_method_154_code, exceptionTable := #[], attributes := #[] }
def k7m7 : Method := { name := "isLatin1", desc := "()Z", sig := { parameters := [], returnType := some .boolean }, accessFlags := 0, code := some k7c7 }
def k7c8 : Code := { maxStack := 3, maxLocals := 2, code := jdk_42_method_155_code, exceptionTable := #[], attributes := #[] }
def k7m8 : Method := { name := "checkIndex", desc := "(II)V", sig := { parameters := [.int, .int], returnType := none }, accessFlags := 8, code := some k7c8 }
/-- java/lang/String -/
def k7 : Class := { plain "java/lang/String" (some 0) with
  accessFlags := 49
  interfaces := #[2, 3, 4, 5, 6]
  cf := some (fileOf pool7 10 #[.nestMembers #[1103]] #[{ accessFlags := 1, nameIndex := 5, descriptorIndex := 6, attributes := #[] }, { accessFlags := 1, nameIndex := 5, descriptorIndex := 1010, attributes := #[] }, { accessFlags := 1, nameIndex := 507, descriptorIndex := 334, attributes := #[] }, { accessFlags := 1, nameIndex := 497, descriptorIndex := 427, attributes := #[] }, { accessFlags := 1, nameIndex := 543, descriptorIndex := 573, attributes := #[] }, { accessFlags := 2, nameIndex := 5, descriptorIndex := 29, attributes := #[] }, { accessFlags := 0, nameIndex := 17, descriptorIndex := 337, attributes := #[] }, { accessFlags := 0, nameIndex := 494, descriptorIndex := 142, attributes := #[] }, { accessFlags := 8, nameIndex := 501, descriptorIndex := 391, attributes := #[] }] 49 2 #[1106, 1108, 575, 1110, 1112] #[{ accessFlags := 18, nameIndex := 13, descriptorIndex := 14, attributes := #[] }, { accessFlags := 18, nameIndex := 17, descriptorIndex := 18, attributes := #[] }, { accessFlags := 2, nameIndex := 21, descriptorIndex := 22, attributes := #[] }, { accessFlags := 2, nameIndex := 25, descriptorIndex := 26, attributes := #[] }, { accessFlags := 26, nameIndex := 1116, descriptorIndex := 1117, attributes := #[] }, { accessFlags := 24, nameIndex := 40, descriptorIndex := 26, attributes := #[] }, { accessFlags := 26, nameIndex := 1101, descriptorIndex := 1102, attributes := #[] }, { accessFlags := 26, nameIndex := 1121, descriptorIndex := 1122, attributes := #[] }, { accessFlags := 25, nameIndex := 599, descriptorIndex := 600, attributes := #[] }, { accessFlags := 24, nameIndex := 1125, descriptorIndex := 18, attributes := #[] }, { accessFlags := 24, nameIndex := 1127, descriptorIndex := 18, attributes := #[] }])
  fields := #[{ name := "value", type := (.array .byte), accessFlags := 18, slot := 0, constantValue := 0 }, { name := "coder", type := .byte, accessFlags := 18, slot := 1, constantValue := 0 }, { name := "hash", type := .int, accessFlags := 2, slot := 2, constantValue := 0 }, { name := "hashIsZero", type := .boolean, accessFlags := 2, slot := 3, constantValue := 0 }, { name := "serialVersionUID", type := .long, accessFlags := 26, slot := 0, constantValue := 0 }, { name := "COMPACT_STRINGS", type := .boolean, accessFlags := 24, slot := 1, constantValue := 0 }, { name := "serialPersistentFields", type := (.array (.object "java/io/ObjectStreamField")), accessFlags := 26, slot := 2, constantValue := 0 }, { name := "REPL", type := .char, accessFlags := 26, slot := 3, constantValue := 0 }, { name := "CASE_INSENSITIVE_ORDER", type := (.object "java/util/Comparator"), accessFlags := 25, slot := 4, constantValue := 0 }, { name := "LATIN1", type := .byte, accessFlags := 24, slot := 5, constantValue := 0 }, { name := "UTF16", type := .byte, accessFlags := 24, slot := 6, constantValue := 0 }]
  methods := #[k7m0, k7m1, k7m2, k7m3, k7m4, k7m5, k7m6, k7m7, k7m8]
  instanceTypes := #[(.array .byte), .byte, .int, .boolean]
  staticTypes := #[.long, .boolean, (.array (.object "java/io/ObjectStreamField")), .char, (.object "java/util/Comparator"), .byte, .byte]
  resolved := Array.replicate 1451 none
  statics := some 0 }

def pool8 : Array CpInfo := pool [(1, .class_ 2), (0, u "java/lang/String"), (1, .class_ 6), (1, u "java/lang/Object"), (0, u "<init>"), (0, u "()V"), (0, .methodref 1 10), (0, .nameAndType 11 12), (0, u "checkIndex"), (0, u "(II)V"), (1, .class_ 16), (1, u "java/lang/StringLatin1"), (36, u "([BI)C"), (67, u "$assertionsDisabled"), (0, u "Z"), (98, .class_ 223), (1, u "java/lang/StringLatin1$LinesSpliterator"), (28, u "charAt"), (28, u "equals"), (0, u "([B[B)Z"), (107, .class_ 391), (0, u "java/lang/StringLatin1$CharsSpliterator")] 3

def k8m0 : Method := { name := "<init>", desc := "()V", sig := { parameters := [], returnType := none }, accessFlags := 0, code := none }
def k8c1 : Code := { maxStack := 2, maxLocals := 2, code := jdk_43_method_2_code, exceptionTable := #[], attributes := #[] }
def k8m1 : Method := { name := "charAt", desc := "([BI)C", sig := { parameters := [(.array .byte), .int], returnType := some .char }, accessFlags := 9, code := some k8c1 }
def k8c2 : Code := { maxStack := 3, maxLocals := 3, code := jdk_43_method_13_code, exceptionTable := #[], attributes := #[] }
def k8m2 : Method := { name := "equals", desc := "([B[B)Z", sig := { parameters := [(.array .byte), (.array .byte)], returnType := some .boolean }, accessFlags := 9, code := some k8c2 }
/-- java/lang/StringLatin1 -/
def k8 : Class := { plain "java/lang/StringLatin1" (some 0) with
  accessFlags := 48
  interfaces := #[]
  cf := some (fileOf pool8 14 #[.nestMembers #[390, 221]] #[{ accessFlags := 0, nameIndex := 7, descriptorIndex := 8, attributes := #[] }, { accessFlags := 9, nameIndex := 252, descriptorIndex := 53, attributes := #[] }, { accessFlags := 9, nameIndex := 281, descriptorIndex := 282, attributes := #[] }] 48 4 #[] #[{ accessFlags := 4120, nameIndex := 121, descriptorIndex := 122, attributes := #[] }])
  fields := #[{ name := "$assertionsDisabled", type := .boolean, accessFlags := 4120, slot := 0, constantValue := 0 }]
  methods := #[k8m0, k8m1, k8m2]
  instanceTypes := #[]
  staticTypes := #[.boolean]
  resolved := Array.replicate 395 none
  statics := none }

def pool9 : Array CpInfo := pool [(2, .class_ 4), (1, u "java/lang/Object"), (0, u "<init>"), (0, u "()V"), (17, .class_ 26), (1, u "jdk/internal/util/Preconditions"), (6, u "checkIndex"), (21, .class_ 56), (0, u "jdk/internal/util/Preconditions$4"), (57, .class_ 115), (0, u "jdk/internal/util/Preconditions$1"), (7, u "SIOOBE_FORMATTER"), (0, u "Ljava/util/function/BiFunction;"), (0, .class_ 126), (0, u "jdk/internal/util/Preconditions$2"), (3, u "AIOOBE_FORMATTER"), (0, .class_ 132), (0, u "jdk/internal/util/Preconditions$3"), (3, u "IOOBE_FORMATTER"), (41, u "(IILjava/util/function/BiFunction;)I")] 15

def k9m0 : Method := { name := "<init>", desc := "()V", sig := { parameters := [], returnType := none }, accessFlags := 1, code := none }
def k9c1 : Code := { maxStack := 3, maxLocals := 3, code := jdk_41_method_11_code, exceptionTable := #[], attributes := #[] }
def k9m1 : Method := { name := "checkIndex", desc := "(IILjava/util/function/BiFunction;)I", sig := { parameters := [.int, .int, (.object "java/util/function/BiFunction")], returnType := some .int }, accessFlags := 9, code := some k9c1 }
/-- jdk/internal/util/Preconditions -/
def k9 : Class := { plain "jdk/internal/util/Preconditions" (some 0) with
  accessFlags := 33
  interfaces := #[]
  cf := some (fileOf pool9 24 #[.nestMembers #[55, 131, 125, 114]] #[{ accessFlags := 1, nameIndex := 5, descriptorIndex := 6, attributes := #[] }, { accessFlags := 9, nameIndex := 33, descriptorIndex := 178, attributes := #[] }] 33 2 #[] #[{ accessFlags := 25, nameIndex := 123, descriptorIndex := 124, attributes := #[] }, { accessFlags := 25, nameIndex := 130, descriptorIndex := 124, attributes := #[] }, { accessFlags := 25, nameIndex := 136, descriptorIndex := 124, attributes := #[] }])
  fields := #[{ name := "SIOOBE_FORMATTER", type := (.object "java/util/function/BiFunction"), accessFlags := 25, slot := 0, constantValue := 0 }, { name := "AIOOBE_FORMATTER", type := (.object "java/util/function/BiFunction"), accessFlags := 25, slot := 1, constantValue := 0 }, { name := "IOOBE_FORMATTER", type := (.object "java/util/function/BiFunction"), accessFlags := 25, slot := 2, constantValue := 0 }]
  methods := #[k9m0, k9m1]
  instanceTypes := #[]
  staticTypes := #[(.object "java/util/function/BiFunction"), (.object "java/util/function/BiFunction"), (.object "java/util/function/BiFunction")]
  resolved := Array.replicate 194 none
  statics := some 1 }

def pool10 : Array CpInfo := pool [(6, .class_ 8), (1, u "java/lang/Object"), (0, u "<init>"), (0, u "()V"), (1, .class_ 14), (1, u "java/lang/StringUTF16"), (31, u "$assertionsDisabled"), (0, u "Z"), (13, u "HI_BYTE_SHIFT"), (0, u "I"), (2, u "LO_BYTE_SHIFT"), (49, .methodref 12 116), (0, .nameAndType 117 118), (0, u "compress"), (0, u "([CI[BII)I"), (3, u "([CII)[B"), (138, u "coderFromArrayLen"), (0, u "([BI)B"), (106, .class_ 371), (1, u "java/lang/StringUTF16$LinesSpliterator"), (58, u "MAX_LENGTH"), (196, .class_ 628), (0, u "java/lang/StringUTF16$CodePointsSpliterator"), (0, .class_ 630), (0, u "java/lang/StringUTF16$CharsSpliterator")] 4

def k10m0 : Method := { name := "<init>", desc := "()V", sig := { parameters := [], returnType := none }, accessFlags := 0, code := none }
def k10c1 : Code := { maxStack := 2, maxLocals := 2, code := jdk_52_method_15_code, exceptionTable := #[], attributes := #[] }
def k10m1 : Method := { name := "coderFromArrayLen", desc := "([BI)B", sig := { parameters := [(.array .byte), .int], returnType := some .byte }, accessFlags := 8, code := some k10c1 }
def k10c2 : Code := { maxStack := 5, maxLocals := 6, code := jdk_52_method_16_code, exceptionTable := #[], attributes := #[] }
def k10m2 : Method := { name := "compress", desc := "([CII)[B", sig := { parameters := [(.array .char), .int, .int], returnType := some (.array .byte) }, accessFlags := 9, code := some k10c2 }
def k10c3 : Code := { maxStack := 3, maxLocals := 7, code := jdk_52_method_21_code, exceptionTable := #[], attributes := #[] }
def k10m3 : Method := { name := "compress", desc := "([CI[BII)I", sig := { parameters := [(.array .char), .int, (.array .byte), .int, .int], returnType := some .int }, accessFlags := 9, code := some k10c3 }
/-- java/lang/StringUTF16 -/
def k10 : Class := { plain "java/lang/StringUTF16" (some 0) with
  accessFlags := 48
  interfaces := #[]
  cf := some (fileOf pool10 12 #[.nestMembers #[627, 629, 369]] #[{ accessFlags := 0, nameIndex := 9, descriptorIndex := 10, attributes := #[] }, { accessFlags := 8, nameIndex := 261, descriptorIndex := 262, attributes := #[] }, { accessFlags := 9, nameIndex := 117, descriptorIndex := 122, attributes := #[] }, { accessFlags := 9, nameIndex := 117, descriptorIndex := 118, attributes := #[] }] 48 6 #[] #[{ accessFlags := 26, nameIndex := 61, descriptorIndex := 62, attributes := #[] }, { accessFlags := 26, nameIndex := 65, descriptorIndex := 62, attributes := #[] }, { accessFlags := 24, nameIndex := 430, descriptorIndex := 62, attributes := #[] }, { accessFlags := 4120, nameIndex := 46, descriptorIndex := 47, attributes := #[] }])
  fields := #[{ name := "HI_BYTE_SHIFT", type := .int, accessFlags := 26, slot := 0, constantValue := 0 }, { name := "LO_BYTE_SHIFT", type := .int, accessFlags := 26, slot := 1, constantValue := 0 }, { name := "MAX_LENGTH", type := .int, accessFlags := 24, slot := 2, constantValue := 0 }, { name := "$assertionsDisabled", type := .boolean, accessFlags := 4120, slot := 3, constantValue := 0 }]
  methods := #[k10m0, k10m1, k10m2, k10m3]
  instanceTypes := #[]
  staticTypes := #[.int, .int, .int, .boolean]
  resolved := Array.replicate 635 none
  statics := none }

def pool11 : Array CpInfo := pool [(2, .class_ 4), (1, u "java/lang/Enum"), (0, u "name"), (0, u "Ljava/lang/String;"), (2, u "ordinal"), (0, u "I"), (1, .class_ 14), (1, u "java/lang/Object"), (4, u "hash"), (86, .class_ 108), (1, u "java/lang/Enum$EnumDesc"), (2, .class_ 112), (0, u "java/lang/constant/Constable"), (0, .class_ 114), (0, u "java/lang/Comparable"), (0, .class_ 116), (0, u "java/io/Serializable")] 87

/-- java/lang/Enum -/
def k11 : Class := { plain "java/lang/Enum" (some 0) with
  accessFlags := 1057
  interfaces := #[5, 3, 2]
  cf := some (fileOf pool11 2 #[.nestMembers #[106]] #[] 1057 12 #[111, 113, 115] #[{ accessFlags := 18, nameIndex := 5, descriptorIndex := 6, attributes := #[] }, { accessFlags := 18, nameIndex := 9, descriptorIndex := 10, attributes := #[] }, { accessFlags := 2, nameIndex := 19, descriptorIndex := 10, attributes := #[] }])
  fields := #[{ name := "name", type := (.object "java/lang/String"), accessFlags := 18, slot := 0, constantValue := 0 }, { name := "ordinal", type := .int, accessFlags := 18, slot := 1, constantValue := 0 }, { name := "hash", type := .int, accessFlags := 2, slot := 2, constantValue := 0 }]
  methods := #[]
  instanceTypes := #[(.object "java/lang/String"), .int, .int]
  staticTypes := #[]
  resolved := Array.replicate 204 none
  statics := none }

def pool12 : Array CpInfo := pool [(1, .class_ 2), (0, u "com/example/fondsmith/fondsmith/model/Name$Kind"), (2, u "PERSON"), (0, u "Lcom/example/fondsmith/fondsmith/model/Name$Kind;"), (2, u "ORGANIZATION"), (2, u "FAMILY"), (2, u "UNSPECIFIED"), (0, .fieldref 1 17), (0, .nameAndType 18 19), (0, u "$VALUES"), (0, u "[Lcom/example/fondsmith/fondsmith/model/Name$Kind;"), (0, .methodref 21 22), (0, .class_ 19), (0, .nameAndType 23 24), (0, u "clone"), (0, u "()Ljava/lang/Object;"), (1, .class_ 28), (1, u "java/lang/Enum"), (6, .fieldref 1 36), (0, .nameAndType 37 38), (0, u "element"), (0, u "Ljava/lang/String;"), (0, .methodref 1 40), (0, .nameAndType 41 42), (0, u "values"), (0, u "()[Lcom/example/fondsmith/fondsmith/model/Name$Kind;"), (0, .methodref 44 45), (0, .class_ 46), (0, .nameAndType 47 48), (0, u "java/lang/String"), (0, u "equals"), (0, u "(Ljava/lang/Object;)Z"), (20, u "(Ljava/lang/String;)Lcom/example/fondsmith/fondsmith/model/Name$Kind;"), (4, u "of"), (7, .class_ 83), (0, u "com/example/fondsmith/fondsmith/model/Name")] 2

def k12c0 : Code := { maxStack := 1, maxLocals := 0, code := prog_53_method_1_code, exceptionTable := #[], attributes := #[] }
def k12m0 : Method := { name := "values", desc := "()[Lcom/example/fondsmith/fondsmith/model/Name$Kind;", sig := { parameters := [], returnType := some (.array (.object "com/example/fondsmith/fondsmith/model/Name$Kind")) }, accessFlags := 9, code := some k12c0 }
def k12c1 : Code := { maxStack := 2, maxLocals := 5, code := prog_53_method_5_code, exceptionTable := #[], attributes := #[] }
def k12m1 : Method := { name := "of", desc := "(Ljava/lang/String;)Lcom/example/fondsmith/fondsmith/model/Name$Kind;", sig := { parameters := [(.object "java/lang/String")], returnType := some (.object "com/example/fondsmith/fondsmith/model/Name$Kind") }, accessFlags := 9, code := some k12c1 }
/-- com/example/fondsmith/fondsmith/model/Name$Kind -/
def k12 : Class := { plain "com/example/fondsmith/fondsmith/model/Name$Kind" (some 11) with
  accessFlags := 16433
  interfaces := #[]
  cf := some (fileOf pool12 1 #[.nestHost 82] #[{ accessFlags := 9, nameIndex := 41, descriptorIndex := 42, attributes := #[] }, { accessFlags := 9, nameIndex := 74, descriptorIndex := 69, attributes := #[] }] 16433 26 #[] #[{ accessFlags := 16409, nameIndex := 5, descriptorIndex := 6, attributes := #[] }, { accessFlags := 16409, nameIndex := 9, descriptorIndex := 6, attributes := #[] }, { accessFlags := 16409, nameIndex := 12, descriptorIndex := 6, attributes := #[] }, { accessFlags := 16409, nameIndex := 15, descriptorIndex := 6, attributes := #[] }, { accessFlags := 18, nameIndex := 37, descriptorIndex := 38, attributes := #[] }, { accessFlags := 4122, nameIndex := 18, descriptorIndex := 19, attributes := #[] }])
  fields := #[{ name := "PERSON", type := (.object "com/example/fondsmith/fondsmith/model/Name$Kind"), accessFlags := 16409, slot := 0, constantValue := 0 }, { name := "ORGANIZATION", type := (.object "com/example/fondsmith/fondsmith/model/Name$Kind"), accessFlags := 16409, slot := 1, constantValue := 0 }, { name := "FAMILY", type := (.object "com/example/fondsmith/fondsmith/model/Name$Kind"), accessFlags := 16409, slot := 2, constantValue := 0 }, { name := "UNSPECIFIED", type := (.object "com/example/fondsmith/fondsmith/model/Name$Kind"), accessFlags := 16409, slot := 3, constantValue := 0 }, { name := "element", type := (.object "java/lang/String"), accessFlags := 18, slot := 3, constantValue := 0 }, { name := "$VALUES", type := (.array (.object "com/example/fondsmith/fondsmith/model/Name$Kind")), accessFlags := 4122, slot := 4, constantValue := 0 }]
  methods := #[k12m0, k12m1]
  instanceTypes := #[(.object "java/lang/String"), .int, .int, (.object "java/lang/String")]
  staticTypes := #[(.object "com/example/fondsmith/fondsmith/model/Name$Kind"), (.object "com/example/fondsmith/fondsmith/model/Name$Kind"), (.object "com/example/fondsmith/fondsmith/model/Name$Kind"), (.object "com/example/fondsmith/fondsmith/model/Name$Kind"), (.array (.object "com/example/fondsmith/fondsmith/model/Name$Kind"))]
  resolved := Array.replicate 86 none
  statics := some 2 }

def pool13 : Array CpInfo := pool [(1, .class_ 2), (0, u "java/lang/Cloneable"), (0, .class_ 4), (0, u "java/lang/Object")] 2

/-- java/lang/Cloneable -/
def k13 : Class := { plain "java/lang/Cloneable" (some 0) with
  accessFlags := 1537
  interfaces := #[]
  cf := some (fileOf pool13 1 #[] #[] 1537 3 #[] #[])
  fields := #[]
  methods := #[]
  instanceTypes := #[]
  staticTypes := #[]
  resolved := Array.replicate 7 none
  statics := none }

def pool14 : Array CpInfo := pool [(9, u "<init>"), (6, .class_ 18), (1, u "java/lang/Object"), (0, u "()V"), (1, .class_ 23), (1, u "jdk/internal/util/ArraysSupport"), (0, u "LOG2_ARRAY_LONG_INDEX_SCALE"), (0, u "I"), (2, u "U"), (0, u "Ljdk/internal/misc/Unsafe;"), (8, u "BIG_ENDIAN"), (0, u "Z"), (8, u "LOG2_BYTE_BIT_SIZE"), (4, u "LOG2_ARRAY_INT_INDEX_SCALE"), (54, u "JLA"), (0, u "Ljdk/internal/access/JavaLangAccess;"), (11, u "LOG2_ARRAY_BOOLEAN_INDEX_SCALE"), (9, u "LOG2_ARRAY_BYTE_INDEX_SCALE"), (5, u "LOG2_ARRAY_CHAR_INDEX_SCALE"), (5, u "LOG2_ARRAY_SHORT_INDEX_SCALE"), (18, u "LOG2_ARRAY_FLOAT_INDEX_SCALE"), (24, u "LOG2_ARRAY_DOUBLE_INDEX_SCALE"), (89, u "T_BOOLEAN"), (2, u "T_CHAR"), (1, u "T_FLOAT"), (1, u "T_DOUBLE"), (1, u "T_BYTE"), (1, u "T_SHORT"), (1, u "T_INT"), (1, u "T_LONG"), (1, u "SOFT_MAX_ARRAY_LENGTH")] 83

def k14m0 : Method := { name := "<init>", desc := "()V", sig := { parameters := [], returnType := none }, accessFlags := 2, code := none }
/-- jdk/internal/util/ArraysSupport -/
def k14 : Class := { plain "jdk/internal/util/ArraysSupport" (some 0) with
  accessFlags := 33
  interfaces := #[]
  cf := some (fileOf pool14 21 #[] #[{ accessFlags := 2, nameIndex := 9, descriptorIndex := 19, attributes := #[] }] 33 16 #[] #[{ accessFlags := 24, nameIndex := 28, descriptorIndex := 29, attributes := #[] }, { accessFlags := 26, nameIndex := 38, descriptorIndex := 39, attributes := #[] }, { accessFlags := 25, nameIndex := 121, descriptorIndex := 25, attributes := #[] }, { accessFlags := 25, nameIndex := 131, descriptorIndex := 25, attributes := #[] }, { accessFlags := 25, nameIndex := 137, descriptorIndex := 25, attributes := #[] }, { accessFlags := 25, nameIndex := 143, descriptorIndex := 25, attributes := #[] }, { accessFlags := 25, nameIndex := 53, descriptorIndex := 25, attributes := #[] }, { accessFlags := 25, nameIndex := 24, descriptorIndex := 25, attributes := #[] }, { accessFlags := 25, nameIndex := 162, descriptorIndex := 25, attributes := #[] }, { accessFlags := 25, nameIndex := 187, descriptorIndex := 25, attributes := #[] }, { accessFlags := 26, nameIndex := 48, descriptorIndex := 25, attributes := #[] }, { accessFlags := 25, nameIndex := 277, descriptorIndex := 25, attributes := #[] }, { accessFlags := 25, nameIndex := 280, descriptorIndex := 25, attributes := #[] }, { accessFlags := 25, nameIndex := 282, descriptorIndex := 25, attributes := #[] }, { accessFlags := 25, nameIndex := 284, descriptorIndex := 25, attributes := #[] }, { accessFlags := 25, nameIndex := 286, descriptorIndex := 25, attributes := #[] }, { accessFlags := 25, nameIndex := 288, descriptorIndex := 25, attributes := #[] }, { accessFlags := 25, nameIndex := 290, descriptorIndex := 25, attributes := #[] }, { accessFlags := 25, nameIndex := 292, descriptorIndex := 25, attributes := #[] }, { accessFlags := 26, nameIndex := 108, descriptorIndex := 109, attributes := #[] }, { accessFlags := 25, nameIndex := 294, descriptorIndex := 25, attributes := #[] }])
  fields := #[{ name := "U", type := (.object "jdk/internal/misc/Unsafe"), accessFlags := 24, slot := 0, constantValue := 0 }, { name := "BIG_ENDIAN", type := .boolean, accessFlags := 26, slot := 1, constantValue := 0 }, { name := "LOG2_ARRAY_BOOLEAN_INDEX_SCALE", type := .int, accessFlags := 25, slot := 2, constantValue := 0 }, { name := "LOG2_ARRAY_BYTE_INDEX_SCALE", type := .int, accessFlags := 25, slot := 3, constantValue := 0 }, { name := "LOG2_ARRAY_CHAR_INDEX_SCALE", type := .int, accessFlags := 25, slot := 4, constantValue := 0 }, { name := "LOG2_ARRAY_SHORT_INDEX_SCALE", type := .int, accessFlags := 25, slot := 5, constantValue := 0 }, { name := "LOG2_ARRAY_INT_INDEX_SCALE", type := .int, accessFlags := 25, slot := 6, constantValue := 0 }, { name := "LOG2_ARRAY_LONG_INDEX_SCALE", type := .int, accessFlags := 25, slot := 7, constantValue := 0 }, { name := "LOG2_ARRAY_FLOAT_INDEX_SCALE", type := .int, accessFlags := 25, slot := 8, constantValue := 0 }, { name := "LOG2_ARRAY_DOUBLE_INDEX_SCALE", type := .int, accessFlags := 25, slot := 9, constantValue := 0 }, { name := "LOG2_BYTE_BIT_SIZE", type := .int, accessFlags := 26, slot := 10, constantValue := 0 }, { name := "T_BOOLEAN", type := .int, accessFlags := 25, slot := 11, constantValue := 0 }, { name := "T_CHAR", type := .int, accessFlags := 25, slot := 12, constantValue := 0 }, { name := "T_FLOAT", type := .int, accessFlags := 25, slot := 13, constantValue := 0 }, { name := "T_DOUBLE", type := .int, accessFlags := 25, slot := 14, constantValue := 0 }, { name := "T_BYTE", type := .int, accessFlags := 25, slot := 15, constantValue := 0 }, { name := "T_SHORT", type := .int, accessFlags := 25, slot := 16, constantValue := 0 }, { name := "T_INT", type := .int, accessFlags := 25, slot := 17, constantValue := 0 }, { name := "T_LONG", type := .int, accessFlags := 25, slot := 18, constantValue := 0 }, { name := "JLA", type := (.object "jdk/internal/access/JavaLangAccess"), accessFlags := 26, slot := 19, constantValue := 0 }, { name := "SOFT_MAX_ARRAY_LENGTH", type := .int, accessFlags := 25, slot := 20, constantValue := 0 }]
  methods := #[k14m0]
  instanceTypes := #[]
  staticTypes := #[(.object "jdk/internal/misc/Unsafe"), .boolean, .int, .int, .int, .int, .int, .int, .int, .int, .int, .int, .int, .int, .int, .int, .int, .int, .int, (.object "jdk/internal/access/JavaLangAccess"), .int]
  resolved := Array.replicate 378 none
  statics := none }

/-- the primitive byte -/
def k15 : Class := { plain "byte" none with kind := .primitive 'B', accessFlags := 0x411 }
/-- [B -/
def k16 : Class := { plain "[B" (some 0) with kind := .array 15 .byte, interfaces := #[13, 2], accessFlags := 1041 }

/-- the primitive char -/
def k17 : Class := { plain "char" none with kind := .primitive 'C', accessFlags := 0x411 }
/-- [C -/
def k18 : Class := { plain "[C" (some 0) with kind := .array 17 .char, interfaces := #[13, 2], accessFlags := 1041 }

/-- the primitive int -/
def k19 : Class := { plain "int" none with kind := .primitive 'I', accessFlags := 0x411 }
/-- [I -/
def k20 : Class := { plain "[I" (some 0) with kind := .array 19 .int, interfaces := #[13, 2], accessFlags := 1041 }

/-- [Lcom/example/fondsmith/fondsmith/model/Name$Kind; -/
def k21 : Class := { plain "[Lcom/example/fondsmith/fondsmith/model/Name$Kind;" (some 0) with kind := .array 12 (.object "com/example/fondsmith/fondsmith/model/Name$Kind"), interfaces := #[13, 2], accessFlags := 1041 }

def heap : Heap := #[{ cls := 7, slots := #[.long 0, .int 1, .null, .int 0, .null, .int 0, .int 0], vm := .statics 7 },
  { cls := 9, slots := #[.null, .null, .null], vm := .statics 9 },
  { cls := 12, slots := #[.ref 6, .ref 9, .ref 12, .ref 15, .ref 3], vm := .statics 12 },
  { cls := 21, slots := #[.ref 6, .ref 9, .ref 12, .ref 15], vm := .none },
  { cls := 16, slots := #[.int 112, .int 101, .int 114, .int 115, .int 110, .int 97, .int 109, .int 101], vm := .none },
  { cls := 7, slots := #[.ref 4, .int 0, .int 0, .int 0], vm := .none },
  { cls := 12, slots := #[.null, .int 0, .int 0, .ref 5], vm := .none },
  { cls := 16, slots := #[.int 99, .int 111, .int 114, .int 112, .int 110, .int 97, .int 109, .int 101], vm := .none },
  { cls := 7, slots := #[.ref 7, .int 0, .int 0, .int 0], vm := .none },
  { cls := 12, slots := #[.null, .int 1, .int 0, .ref 8], vm := .none },
  { cls := 16, slots := #[.int 102, .int 97, .int 109, .int 110, .int 97, .int 109, .int 101], vm := .none },
  { cls := 7, slots := #[.ref 10, .int 0, .int 0, .int 0], vm := .none },
  { cls := 12, slots := #[.null, .int 2, .int 0, .ref 11], vm := .none },
  { cls := 16, slots := #[.int 110, .int 97, .int 109, .int 101], vm := .none },
  { cls := 7, slots := #[.ref 13, .int 0, .int 0, .int 0], vm := .none },
  { cls := 12, slots := #[.null, .int 3, .int 0, .ref 14], vm := .none }]
def classes : Array Class := #[k0, k1, k2, k3, k4, k5, k6, k7, k8, k9, k10, k11, k12, k13, k14, k15, k16, k17, k18, k19, k20, k21]
def interned : List (Array UInt16 × Addr) := []
def slotsUsed : Nat := 78
def theMethod : MethodId := ⟨1, 1⟩
def args0 : Array Value := #[.int 5, .int 5, .int 5, .int 5]
def aboutOver (below : List Frame) : State where
  vm := { classes := classes, interned := interned.toArray }
  heap := heap
  slotsUsed := slotsUsed
  threads := #[{ frames := .invoking theMethod args0 :: below }]
def below0 : List Frame := [.native { method := ⟨0, 0⟩, args := #[] }]
def about1 : State := aboutOver below0
def p0 : Program := .bare "" "" ""
def e0 : Env := launch0.env 0 0 0
theorem w_frames : about1.frames = Frame.invoking theMethod args0 :: below0 := rfl
set_option maxRecDepth 65536 in
theorem w_args : argsFit about1.vm theMethod args0 = true := by decide +kernel
set_option maxRecDepth 65536 in
theorem w_heap : heapFits about1 = true := by decide +kernel
set_option maxRecDepth 65536 in
theorem w_runnable : about1.curStatus? = some .runnable := by decide +kernel
set_option maxRecDepth 65536 in
theorem w_alone : about1.alone = true := by decide +kernel
set_option maxRecDepth 65536 in
theorem w_named : about1.methodNamed? x = some theMethod := by decide +kernel
set_option maxRecDepth 65536 in
theorem w_hears : about1.hears theMethod below0 = true := by decide +kernel
set_option maxRecDepth 65536 in
theorem w_ripe : about1.ripe theMethod args0 below0 = true := by decide +kernel
theorem w_running : about1.status = .running := rfl
set_option maxRecDepth 65536 in
theorem w_room : about1.hasRoom e0.platform room_1 = true :=
  launch0.hasRoom_least _ room_1 (by decide +kernel) (by decide +kernel) (by decide +kernel) (by decide +kernel) (by decide +kernel) (by decide +kernel)
theorem allAtoms_all (ts : List Jvm.Cond) (a : Array Jvm.Value) (st : Jvm.State) : (allAtoms ts).before a st = ts.all (fun c => c.before a st) := by
  induction ts with
  | nil => rfl
  | cons c t ih =>
    show (Jvm.Cond.and c (allAtoms t)).before a st = _
    rw [Jvm.Cond.before_and, ih, List.all_cons]
def words1 : List Jvm.Cond := Jvm.Cond.code x code maxLocals ret :: tables_1
/-- a 'code' word, met by the world's own term for the bytes: nothing is compared byte by byte -/
theorem code_word {y : MethodName} {bytes : ByteArray} {mx : Nat} {rt : Option FieldType} {a : Array Value} {s : State} {m : MethodId} {meth : Method} {c : Code} (h1 : s.methodNamed? y = some m) (h2 : s.vm.method? m = some meth) (h3 : meth.code = some c) (h4 : c.code = bytes)
    (h5 : (c.maxLocals == mx && c.exceptionTable.isEmpty && decide (c.maxStack ≤ mostOperands) && decide (meth.sig.returnType = rt) && !meth.locks && decide (parseMethodDescriptor y.desc = some meth.sig)) = true) : (Jvm.Cond.code y bytes mx rt).before a s = true := by
  simp only [Bool.and_eq_true, beq_iff_eq, Bool.not_eq_true', decide_eq_true_eq] at h5
  obtain ⟨⟨⟨⟨⟨g1, g2⟩, g3⟩, g4⟩, g5⟩, g6⟩ := h5
  simp [Cond.before, Cond.holds, Cond.value, h1, h2, h3, h4, g1, g2, g3, g4, g5, g6]
def isCode : Jvm.Cond → Bool
  | .code _ _ _ _ => true
  | _ => false
theorem all_split {L : List Jvm.Cond} {P : Jvm.Cond → Bool} (h1 : L.all (fun c => isCode c || P c) = true) (h2 : ∀ c ∈ L.filter isCode, P c = true) : L.all P = true := by
  refine List.all_eq_true.mpr fun c hc => ?_
  have h := List.all_eq_true.mp h1 c hc
  rcases Bool.eq_false_or_eq_true (isCode c) with hi | hi
  · exact h2 c (List.mem_filter.mpr ⟨hc, hi⟩)
  · simpa [hi] using h
set_option maxRecDepth 65536 in
theorem w_c0 : (Jvm.Cond.code x code maxLocals ret).before args0 about1 = true := code_word (m := ⟨1, 1⟩) (meth := k1m1) (c := k1c1) (by decide +kernel) rfl rfl rfl (by decide +kernel)
set_option maxRecDepth 65536 in
theorem w_c1 : (Jvm.Cond.code ({ cls := "com/example/fondsmith/fondsmith/model/KindOfPinLaw", name := "base", desc := "(I)Ljava/lang/String;" } : Jvm.MethodName) method_4_code (1 : Nat) (Option.some (Jvm.ClassFile.FieldType.object "java/lang/String"))).before args0 about1 = true := code_word (m := ⟨1, 3⟩) (meth := k1m3) (c := k1c3) (by decide +kernel) rfl rfl rfl (by decide +kernel)
set_option maxRecDepth 65536 in
theorem w_c2 : (Jvm.Cond.code ({ cls := "java/lang/String", name := "length", desc := "()I" } : Jvm.MethodName) jdk_42_method_54_code (1 : Nat) (Option.some Jvm.ClassFile.FieldType.int)).before args0 about1 = true := code_word (m := ⟨7, 2⟩) (meth := k7m2) (c := k7c2) (by decide +kernel) rfl rfl rfl (by decide +kernel)
set_option maxRecDepth 65536 in
theorem w_c3 : (Jvm.Cond.code ({ cls := "java/lang/String", name := "coder", desc := "()B" } : Jvm.MethodName) jdk_42_method_152_code (1 : Nat) (Option.some Jvm.ClassFile.FieldType.byte)).before args0 about1 = true := code_word (m := ⟨7, 6⟩) (meth := k7m6) (c := k7c6) (by decide +kernel) rfl rfl rfl (by decide +kernel)
set_option maxRecDepth 65536 in
theorem w_c4 : (Jvm.Cond.code ({ cls := "com/example/fondsmith/fondsmith/model/KindOfPinLaw", name := "at", desc := "(Ljava/lang/String;IC)C" } : Jvm.MethodName) method_5_code (3 : Nat) (Option.some Jvm.ClassFile.FieldType.char)).before args0 about1 = true := code_word (m := ⟨1, 4⟩) (meth := k1m4) (c := k1c4) (by decide +kernel) rfl rfl rfl (by decide +kernel)
set_option maxRecDepth 65536 in
theorem w_c5 : (Jvm.Cond.code ({ cls := "java/lang/String", name := "charAt", desc := "(I)C" } : Jvm.MethodName) jdk_42_method_56_code (2 : Nat) (Option.some Jvm.ClassFile.FieldType.char)).before args0 about1 = true := code_word (m := ⟨7, 3⟩) (meth := k7m3) (c := k7c3) (by decide +kernel) rfl rfl rfl (by decide +kernel)
set_option maxRecDepth 65536 in
theorem w_c6 : (Jvm.Cond.code ({ cls := "java/lang/String", name := "isLatin1", desc := "()Z" } : Jvm.MethodName) jdk_42_method_154_code (1 : Nat) (Option.some Jvm.ClassFile.FieldType.boolean)).before args0 about1 = true := code_word (m := ⟨7, 7⟩) (meth := k7m7) (c := k7c7) (by decide +kernel) rfl rfl rfl (by decide +kernel)
set_option maxRecDepth 65536 in
theorem w_c7 : (Jvm.Cond.code ({ cls := "java/lang/StringLatin1", name := "charAt", desc := "([BI)C" } : Jvm.MethodName) jdk_43_method_2_code (2 : Nat) (Option.some Jvm.ClassFile.FieldType.char)).before args0 about1 = true := code_word (m := ⟨8, 1⟩) (meth := k8m1) (c := k8c1) (by decide +kernel) rfl rfl rfl (by decide +kernel)
set_option maxRecDepth 65536 in
theorem w_c8 : (Jvm.Cond.code ({ cls := "java/lang/String", name := "checkIndex", desc := "(II)V" } : Jvm.MethodName) jdk_42_method_155_code (2 : Nat) (Option.none : Option Jvm.ClassFile.FieldType)).before args0 about1 = true := code_word (m := ⟨7, 8⟩) (meth := k7m8) (c := k7c8) (by decide +kernel) rfl rfl rfl (by decide +kernel)
set_option maxRecDepth 65536 in
theorem w_c9 : (Jvm.Cond.code ({ cls := "jdk/internal/util/Preconditions", name := "checkIndex", desc := "(IILjava/util/function/BiFunction;)I" } : Jvm.MethodName) jdk_41_method_11_code (3 : Nat) (Option.some Jvm.ClassFile.FieldType.int)).before args0 about1 = true := code_word (m := ⟨9, 1⟩) (meth := k9m1) (c := k9c1) (by decide +kernel) rfl rfl rfl (by decide +kernel)
set_option maxRecDepth 65536 in
theorem w_c10 : (Jvm.Cond.code ({ cls := "com/example/fondsmith/fondsmith/model/KindOfPinLaw", name := "str", desc := "([CI)Ljava/lang/String;" } : Jvm.MethodName) method_6_code (2 : Nat) (Option.some (Jvm.ClassFile.FieldType.object "java/lang/String"))).before args0 about1 = true := code_word (m := ⟨1, 5⟩) (meth := k1m5) (c := k1c5) (by decide +kernel) rfl rfl rfl (by decide +kernel)
set_option maxRecDepth 65536 in
theorem w_c11 : (Jvm.Cond.code ({ cls := "java/lang/String", name := "<init>", desc := "([C)V" } : Jvm.MethodName) jdk_42_method_3_code (2 : Nat) (Option.none : Option Jvm.ClassFile.FieldType)).before args0 about1 = true := code_word (m := ⟨7, 1⟩) (meth := k7m1) (c := k7c1) (by decide +kernel) rfl rfl rfl (by decide +kernel)
set_option maxRecDepth 65536 in
theorem w_c12 : (Jvm.Cond.code ({ cls := "java/lang/String", name := "<init>", desc := "([CIILjava/lang/Void;)V" } : Jvm.MethodName) jdk_42_method_149_code (6 : Nat) (Option.none : Option Jvm.ClassFile.FieldType)).before args0 about1 = true := code_word (m := ⟨7, 5⟩) (meth := k7m5) (c := k7c5) (by decide +kernel) rfl rfl rfl (by decide +kernel)
set_option maxRecDepth 65536 in
theorem w_c13 : (Jvm.Cond.code ({ cls := "java/lang/Object", name := "<init>", desc := "()V" } : Jvm.MethodName) object_method_1_code (1 : Nat) (Option.none : Option Jvm.ClassFile.FieldType)).before args0 about1 = true := code_word (m := ⟨0, 0⟩) (meth := k0m0) (c := k0c0) (by decide +kernel) rfl rfl rfl (by decide +kernel)
set_option maxRecDepth 65536 in
theorem w_c14 : (Jvm.Cond.code ({ cls := "java/lang/StringUTF16", name := "compress", desc := "([CII)[B" } : Jvm.MethodName) jdk_52_method_16_code (6 : Nat) (Option.some (Jvm.ClassFile.FieldType.array Jvm.ClassFile.FieldType.byte))).before args0 about1 = true := code_word (m := ⟨10, 2⟩) (meth := k10m2) (c := k10c2) (by decide +kernel) rfl rfl rfl (by decide +kernel)
set_option maxRecDepth 65536 in
theorem w_c15 : (Jvm.Cond.code ({ cls := "java/lang/StringUTF16", name := "compress", desc := "([CI[BII)I" } : Jvm.MethodName) jdk_52_method_21_code (7 : Nat) (Option.some Jvm.ClassFile.FieldType.int)).before args0 about1 = true := code_word (m := ⟨10, 3⟩) (meth := k10m3) (c := k10c3) (by decide +kernel) rfl rfl rfl (by decide +kernel)
set_option maxRecDepth 65536 in
theorem w_c16 : (Jvm.Cond.code ({ cls := "java/lang/StringUTF16", name := "coderFromArrayLen", desc := "([BI)B" } : Jvm.MethodName) jdk_52_method_15_code (2 : Nat) (Option.some Jvm.ClassFile.FieldType.byte)).before args0 about1 = true := code_word (m := ⟨10, 1⟩) (meth := k10m1) (c := k10c1) (by decide +kernel) rfl rfl rfl (by decide +kernel)
set_option maxRecDepth 65536 in
theorem w_c17 : (Jvm.Cond.code ({ cls := "com/example/fondsmith/fondsmith/model/Name$Kind", name := "of", desc := "(Ljava/lang/String;)Lcom/example/fondsmith/fondsmith/model/Name$Kind;" } : Jvm.MethodName) prog_53_method_5_code (5 : Nat) (Option.some (Jvm.ClassFile.FieldType.object "com/example/fondsmith/fondsmith/model/Name$Kind"))).before args0 about1 = true := code_word (m := ⟨12, 1⟩) (meth := k12m1) (c := k12c1) (by decide +kernel) rfl rfl rfl (by decide +kernel)
set_option maxRecDepth 65536 in
theorem w_c18 : (Jvm.Cond.code ({ cls := "com/example/fondsmith/fondsmith/model/Name$Kind", name := "values", desc := "()[Lcom/example/fondsmith/fondsmith/model/Name$Kind;" } : Jvm.MethodName) prog_53_method_1_code (0 : Nat) (Option.some (Jvm.ClassFile.FieldType.array (Jvm.ClassFile.FieldType.object "com/example/fondsmith/fondsmith/model/Name$Kind")))).before args0 about1 = true := code_word (m := ⟨12, 0⟩) (meth := k12m0) (c := k12c0) (by decide +kernel) rfl rfl rfl (by decide +kernel)
set_option maxRecDepth 65536 in
theorem w_c19 : (Jvm.Cond.code ({ cls := "java/lang/String", name := "equals", desc := "(Ljava/lang/Object;)Z" } : Jvm.MethodName) jdk_42_method_66_code (3 : Nat) (Option.some Jvm.ClassFile.FieldType.boolean)).before args0 about1 = true := code_word (m := ⟨7, 4⟩) (meth := k7m4) (c := k7c4) (by decide +kernel) rfl rfl rfl (by decide +kernel)
set_option maxRecDepth 65536 in
theorem w_c20 : (Jvm.Cond.code ({ cls := "java/lang/StringLatin1", name := "equals", desc := "([B[B)Z" } : Jvm.MethodName) jdk_43_method_13_code (3 : Nat) (Option.some Jvm.ClassFile.FieldType.boolean)).before args0 about1 = true := code_word (m := ⟨8, 2⟩) (meth := k8m2) (c := k8c2) (by decide +kernel) rfl rfl rfl (by decide +kernel)
set_option maxRecDepth 65536 in
theorem w_c21 : (Jvm.Cond.code ({ cls := "com/example/fondsmith/fondsmith/model/KindOfPinLaw", name := "expected", desc := "(Ljava/lang/String;)Lcom/example/fondsmith/fondsmith/model/Name$Kind;" } : Jvm.MethodName) method_3_code (1 : Nat) (Option.some (Jvm.ClassFile.FieldType.object "com/example/fondsmith/fondsmith/model/Name$Kind"))).before args0 about1 = true := code_word (m := ⟨1, 2⟩) (meth := k1m2) (c := k1c2) (by decide +kernel) rfl rfl rfl (by decide +kernel)
def codes1 : List Jvm.Cond := [Jvm.Cond.code x code maxLocals ret, Jvm.Cond.code ({ cls := "com/example/fondsmith/fondsmith/model/KindOfPinLaw", name := "base", desc := "(I)Ljava/lang/String;" } : Jvm.MethodName) method_4_code (1 : Nat) (Option.some (Jvm.ClassFile.FieldType.object "java/lang/String")), Jvm.Cond.code ({ cls := "java/lang/String", name := "length", desc := "()I" } : Jvm.MethodName) jdk_42_method_54_code (1 : Nat) (Option.some Jvm.ClassFile.FieldType.int), Jvm.Cond.code ({ cls := "java/lang/String", name := "coder", desc := "()B" } : Jvm.MethodName) jdk_42_method_152_code (1 : Nat) (Option.some Jvm.ClassFile.FieldType.byte), Jvm.Cond.code ({ cls := "com/example/fondsmith/fondsmith/model/KindOfPinLaw", name := "at", desc := "(Ljava/lang/String;IC)C" } : Jvm.MethodName) method_5_code (3 : Nat) (Option.some Jvm.ClassFile.FieldType.char), Jvm.Cond.code ({ cls := "java/lang/String", name := "charAt", desc := "(I)C" } : Jvm.MethodName) jdk_42_method_56_code (2 : Nat) (Option.some Jvm.ClassFile.FieldType.char), Jvm.Cond.code ({ cls := "java/lang/String", name := "isLatin1", desc := "()Z" } : Jvm.MethodName) jdk_42_method_154_code (1 : Nat) (Option.some Jvm.ClassFile.FieldType.boolean), Jvm.Cond.code ({ cls := "java/lang/StringLatin1", name := "charAt", desc := "([BI)C" } : Jvm.MethodName) jdk_43_method_2_code (2 : Nat) (Option.some Jvm.ClassFile.FieldType.char), Jvm.Cond.code ({ cls := "java/lang/String", name := "checkIndex", desc := "(II)V" } : Jvm.MethodName) jdk_42_method_155_code (2 : Nat) (Option.none : Option Jvm.ClassFile.FieldType), Jvm.Cond.code ({ cls := "jdk/internal/util/Preconditions", name := "checkIndex", desc := "(IILjava/util/function/BiFunction;)I" } : Jvm.MethodName) jdk_41_method_11_code (3 : Nat) (Option.some Jvm.ClassFile.FieldType.int), Jvm.Cond.code ({ cls := "com/example/fondsmith/fondsmith/model/KindOfPinLaw", name := "str", desc := "([CI)Ljava/lang/String;" } : Jvm.MethodName) method_6_code (2 : Nat) (Option.some (Jvm.ClassFile.FieldType.object "java/lang/String")), Jvm.Cond.code ({ cls := "java/lang/String", name := "<init>", desc := "([C)V" } : Jvm.MethodName) jdk_42_method_3_code (2 : Nat) (Option.none : Option Jvm.ClassFile.FieldType), Jvm.Cond.code ({ cls := "java/lang/String", name := "<init>", desc := "([CIILjava/lang/Void;)V" } : Jvm.MethodName) jdk_42_method_149_code (6 : Nat) (Option.none : Option Jvm.ClassFile.FieldType), Jvm.Cond.code ({ cls := "java/lang/Object", name := "<init>", desc := "()V" } : Jvm.MethodName) object_method_1_code (1 : Nat) (Option.none : Option Jvm.ClassFile.FieldType), Jvm.Cond.code ({ cls := "java/lang/StringUTF16", name := "compress", desc := "([CII)[B" } : Jvm.MethodName) jdk_52_method_16_code (6 : Nat) (Option.some (Jvm.ClassFile.FieldType.array Jvm.ClassFile.FieldType.byte)), Jvm.Cond.code ({ cls := "java/lang/StringUTF16", name := "compress", desc := "([CI[BII)I" } : Jvm.MethodName) jdk_52_method_21_code (7 : Nat) (Option.some Jvm.ClassFile.FieldType.int), Jvm.Cond.code ({ cls := "java/lang/StringUTF16", name := "coderFromArrayLen", desc := "([BI)B" } : Jvm.MethodName) jdk_52_method_15_code (2 : Nat) (Option.some Jvm.ClassFile.FieldType.byte), Jvm.Cond.code ({ cls := "com/example/fondsmith/fondsmith/model/Name$Kind", name := "of", desc := "(Ljava/lang/String;)Lcom/example/fondsmith/fondsmith/model/Name$Kind;" } : Jvm.MethodName) prog_53_method_5_code (5 : Nat) (Option.some (Jvm.ClassFile.FieldType.object "com/example/fondsmith/fondsmith/model/Name$Kind")), Jvm.Cond.code ({ cls := "com/example/fondsmith/fondsmith/model/Name$Kind", name := "values", desc := "()[Lcom/example/fondsmith/fondsmith/model/Name$Kind;" } : Jvm.MethodName) prog_53_method_1_code (0 : Nat) (Option.some (Jvm.ClassFile.FieldType.array (Jvm.ClassFile.FieldType.object "com/example/fondsmith/fondsmith/model/Name$Kind"))), Jvm.Cond.code ({ cls := "java/lang/String", name := "equals", desc := "(Ljava/lang/Object;)Z" } : Jvm.MethodName) jdk_42_method_66_code (3 : Nat) (Option.some Jvm.ClassFile.FieldType.boolean), Jvm.Cond.code ({ cls := "java/lang/StringLatin1", name := "equals", desc := "([B[B)Z" } : Jvm.MethodName) jdk_43_method_13_code (3 : Nat) (Option.some Jvm.ClassFile.FieldType.boolean), Jvm.Cond.code ({ cls := "com/example/fondsmith/fondsmith/model/KindOfPinLaw", name := "expected", desc := "(Ljava/lang/String;)Lcom/example/fondsmith/fondsmith/model/Name$Kind;" } : Jvm.MethodName) method_3_code (1 : Nat) (Option.some (Jvm.ClassFile.FieldType.object "com/example/fondsmith/fondsmith/model/Name$Kind"))]
set_option maxRecDepth 65536 in
theorem codes_eq : words1.filter isCode = codes1 := rfl
theorem w_codes : ∀ c ∈ words1.filter isCode, c.before args0 about1 = true := by
  rw [codes_eq]
  intro c hc
  simp only [codes1, List.mem_cons, List.not_mem_nil, or_false] at hc
  rcases hc with rfl | rfl | rfl | rfl | rfl | rfl | rfl | rfl | rfl | rfl | rfl | rfl | rfl | rfl | rfl | rfl | rfl | rfl | rfl | rfl | rfl | rfl
  · exact w_c0
  · exact w_c1
  · exact w_c2
  · exact w_c3
  · exact w_c4
  · exact w_c5
  · exact w_c6
  · exact w_c7
  · exact w_c8
  · exact w_c9
  · exact w_c10
  · exact w_c11
  · exact w_c12
  · exact w_c13
  · exact w_c14
  · exact w_c15
  · exact w_c16
  · exact w_c17
  · exact w_c18
  · exact w_c19
  · exact w_c20
  · exact w_c21
set_option maxRecDepth 65536 in
theorem w_t1 : (words1.take 24).all (fun c => isCode c || c.before args0 about1) = true := by decide +kernel
set_option maxRecDepth 65536 in
theorem w_t2 : ((words1.drop 24).take 24).all (fun c => isCode c || c.before args0 about1) = true := by decide +kernel
set_option maxRecDepth 65536 in
theorem w_t3 : (((words1.drop 24).drop 24).take 24).all (fun c => isCode c || c.before args0 about1) = true := by decide +kernel
set_option maxRecDepth 65536 in
theorem w_t4 : ((((words1.drop 24).drop 24).drop 24).take 24).all (fun c => isCode c || c.before args0 about1) = true := by decide +kernel
set_option maxRecDepth 65536 in
theorem w_t5 : (((((words1.drop 24).drop 24).drop 24).drop 24).take 24).all (fun c => isCode c || c.before args0 about1) = true := by decide +kernel
set_option maxRecDepth 65536 in
theorem w_t6 : (((((words1.drop 24).drop 24).drop 24).drop 24).drop 24).all (fun c => isCode c || c.before args0 about1) = true := by decide +kernel
theorem w_tables : (allAtoms (Jvm.Cond.code x code maxLocals ret :: tables_1)).before args0 about1 = true := by
  rw [allAtoms_all]
  show words1.all (fun c => c.before args0 about1) = true
  refine all_split ?_ w_codes
  rw [← List.take_append_drop 24 words1, List.all_append, w_t1, ← List.take_append_drop 24 (words1.drop 24), List.all_append, w_t2, ← List.take_append_drop 24 ((words1.drop 24).drop 24), List.all_append, w_t3, ← List.take_append_drop 24 (((words1.drop 24).drop 24).drop 24), List.all_append, w_t4, ← List.take_append_drop 24 ((((words1.drop 24).drop 24).drop 24).drop 24), List.all_append, w_t5, w_t6]
  rfl
set_option maxRecDepth 65536 in
theorem w_rest : rest_1_c.before args0 about1 = true := by decide +kernel
set_option maxRecDepth 65536 in
theorem w_case : (Jvm.Cond.and given_1 narrow_1).before args0 about1 = true := by decide +kernel
set_option maxRecDepth 65536 in
theorem w_consts : constsHeld consts_1 about1 := Jvm.Lit.constsHeldB_iff.mp (by decide +kernel)
theorem w_applies : (headSpec (Jvm.Cond.code x code maxLocals ret :: tables_1) room_1).applies x e0.platform about1 = true :=
  (Spec.applies_iff w_frames).mpr ⟨w_running, w_runnable, w_alone, w_named, w_hears, w_ripe, w_room, w_tables⟩
theorem atStart : AtStart classFile x code maxLocals ret World_1 tables_1 room_1 Calls_1 rest_1 Pre_1 launch0 p0 e0 about1 theMethod args0 below0 :=
  ⟨lists_1, trivial, launch0.admits_env _ _ _, launch0.least_env, fairChoices_fair.cas, fairChoices_fair.clock, w_frames, w_args, w_heap, w_applies, ⟨w_consts, trivial⟩, w_rest, w_case⟩
end start1
theorem witness_1 : WitnessClaimed_1 := ⟨start1.p0, start1.e0, start1.about1, start1.theMethod, start1.args0, start1.below0, start1.atStart⟩
end Jvm.Pilot.@@N@@
