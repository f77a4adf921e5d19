import JvmDerived
import JvmDerived.Pilot.@@N@@Statement
import JvmDerived.Pilot.@@N@@Code
set_option linter.unusedVariables false
set_option linter.unusedSimpArgs false
/- laws to paste: Road.backV, Road.lenW, Road.chN, Road.eqW, Road.codOf (cut by pick.py; bodies as the Statement names them) -/
namespace Jvm.Pilot.@@N@@
namespace StrChars
open Jvm Sem ClassFile Op Lib Jvm.Stand Jvm.Free.XT Jvm.Free.ALB Jvm.Free.JM Jvm.Free
open Jvm.Lib.Cold (StaticIs)
/-- a char array whose places are chars -/
def Ch (a : Addr) (A : Cell) (U : State) : Prop := Arr .char a A U ∧ Typed .char A
theorem Ch.mv {a : Addr} {A : Cell} {U U' : State} (h : Ch a A U) (hal : U.vm.Alike U'.vm) (hh : U'.heap = U.heap) : Ch a A U' := ⟨h.1.mv hal hh, h.2⟩
theorem Ch.keep {a : Addr} {A : Cell} {U U' : State} (h : Ch a A U) (hal : U.vm.Alike U'.vm) (hk : U'.heap[a]? = some A) : Ch a A U' := ⟨h.1.keep hal hk, h.2⟩
/-- what place i of a char[]'s cell holds -/
def cv (A : Cell) (i : Nat) : Int32 := match A.slots[i]? with | some (.int x) => x | _ => 0
theorem Ch.get {a : Addr} {A : Cell} {U : State} (h : Ch a A U) {i : Nat} (hi : i < A.slots.size) : A.slots[i]? = some (.int (cv A i)) := by
  have e := Array.getElem?_eq_getElem hi
  have f := h.2 i _ e
  unfold cv; rw [e]
  generalize A.slots[i] = v at f
  cases v <;> simp [fits] at f ⊢
/-- the byte that i2b leaves of a char -/
def lo8 (x : Int32) : Int32 := x.toInt8.toInt32
theorem fits_lo8 (y : Int32) : fits .byte (.int (lo8 y)) = true := by
  have h1 := y.toInt8.le_toInt
  have h2 := y.toInt8.toInt_lt
  simp only [lo8, fits, Bool.and_eq_true, decide_eq_true_eq, Int32.le_iff_toInt_le, Int8.toInt_toInt32, show (-128 : Int32).toInt = -128 from by decide, show (127 : Int32).toInt = 127 from by decide]
  omega
/-- A' is A but that each place j of lo .. hi - 1 holds f j -/
def Laid (A A' : Cell) (lo hi : Nat) (f : Nat → Value) : Prop := A'.cls = A.cls ∧ A'.vm = A.vm ∧ A'.slots.size = A.slots.size ∧ ∀ i, A'.slots[i]? = if lo ≤ i ∧ i < hi then some (f i) else A.slots[i]?
theorem Laid.zero (A : Cell) (lo : Nat) (f : Nat → Value) : Laid A A lo (lo + 0) f := ⟨rfl, rfl, rfl, fun i => by rw [if_neg (by omega)]⟩
theorem Laid.step {A Ak : Cell} {lo k : Nat} {f : Nat → Value} {v : Value} (h : Laid A Ak lo k f) (hlo : lo ≤ k) (hk : k < Ak.slots.size) (hv : v = f k) : Laid A (Ak.setSlot k v) lo (k + 1) f := by
  refine ⟨h.1, h.2.1, by simpa [Cell.setSlot] using h.2.2.1, fun i => ?_⟩
  by_cases e : k = i
  · subst e; rw [Cell.slots_setSlot_self v hk, if_pos (by omega), hv]
  · rw [Cell.slots_setSlot_ne v e, h.2.2.2 i]
    by_cases q : lo ≤ i ∧ i < k
    · rw [if_pos q, if_pos (by omega)]
    · rw [if_neg q, if_neg (by omega)]
def U16 : String := "java/lang/StringUTF16"
namespace Cmp5
def yN : MethodName := ⟨"java/lang/StringUTF16", "compress", "([CI[BII)I"⟩
abbrev yB : ByteArray := jdk_52_method_21_code
theorem d0 : decode yB 0 = .ok (.iconst 0, 1) := by decide +kernel
theorem d1 : decode yB 1 = .ok (.istore 5, 2) := by decide +kernel
theorem d3 : decode yB 3 = .ok (.iload 5, 2) := by decide +kernel
theorem d5 : decode yB 5 = .ok (.iload 4, 2) := by decide +kernel
theorem d7 : decode yB 7 = .ok (.if_icmp (.ge) 37, 3) := by decide +kernel
theorem d10 : decode yB 10 = .ok (.aload_n 0, 1) := by decide +kernel
theorem d11 : decode yB 11 = .ok (.iload_n 1, 1) := by decide +kernel
theorem d12 : decode yB 12 = .ok (.caload, 1) := by decide +kernel
theorem d13 : decode yB 13 = .ok (.istore 6, 2) := by decide +kernel
theorem d15 : decode yB 15 = .ok (.iload 6, 2) := by decide +kernel
theorem d17 : decode yB 17 = .ok (.sipush 255, 3) := by decide +kernel
theorem d20 : decode yB 20 = .ok (.if_icmp (.le) 6, 3) := by decide +kernel
theorem d26 : decode yB 26 = .ok (.aload_n 2, 1) := by decide +kernel
theorem d27 : decode yB 27 = .ok (.iload_n 3, 1) := by decide +kernel
theorem d28 : decode yB 28 = .ok (.iload 6, 2) := by decide +kernel
theorem d30 : decode yB 30 = .ok (.i2b, 1) := by decide +kernel
theorem d31 : decode yB 31 = .ok (.bastore, 1) := by decide +kernel
theorem d32 : decode yB 32 = .ok (.iinc 1 1, 3) := by decide +kernel
theorem d35 : decode yB 35 = .ok (.iinc 3 1, 3) := by decide +kernel
theorem d38 : decode yB 38 = .ok (.iinc 5 1, 3) := by decide +kernel
theorem d41 : decode yB 41 = .ok (.goto (-38), 3) := by decide +kernel
theorem d44 : decode yB 44 = .ok (.iload 4, 2) := by decide +kernel
theorem d46 : decode yB 46 = .ok (.ireturn, 1) := by decide +kernel
def site : List Cond := []
def tab : Cond := tabOf yN yB 7 (some .int) site
def P (b : Addr) (A : Cell) (d : Addr) (B : Cell) (o q len : Nat) (args : Array Value) (s : State) : Prop := args = #[.ref b, .int (Int32.ofNat o), .ref d, .int (Int32.ofNat q), .int (Int32.ofNat len)] ∧ Ch b A s ∧ Arr .byte d B s ∧ b ≠ d ∧ o + len ≤ A.slots.size ∧ q + len ≤ B.slots.size ∧ ∀ i, i < len → ¬ 255 < cv A (o + i)
def E (b : Addr) (A : Cell) (d : Addr) (B : Cell) (o q len : Nat) (r : Option Value) (s u : State) : Prop := r = some (.int (Int32.ofNat len)) ∧ ∃ B', Put d B' s u ∧ Laid B B' q (q + len) (fun j => Value.int (lo8 (cv A (o + (j - q)))))
/-- no char of the range above 255: len; the places written hold each char's low byte -/
theorem law (l : Launch) (b : Addr) (A : Cell) (d : Addr) (B : Cell) (o q len : Nat) : Law l yN 5 5 0 0 yB 7 (some .int) site (P b A d B o q len) (E b A d B o q len) (copyLocs d q len) 0 0 := by
  refine Law.of_walk (plainFor_of_name (by decide +kernel)) (by decide +kernel) (by decide +kernel) (by decide) (fun _ _ h => by rw [h.1]; rfl) (fun _ U U' hal hh h => ⟨h.1, h.2.1.mv hal hh, h.2.2.1.mv hal hh, h.2.2.2⟩) (fun r U U' V V' h1 hal h2 h => ⟨h.1, h.2.elim fun B' q => ⟨B', q.1.mv h1 h2, q.2⟩⟩) ?_
  intro p e s m args below meth c s₁ X0 hexec hbytes hml hret hlk hnm hown hh0 W hP
  obtain ⟨rfl, hA, hB, hne, l1, l2, hp⟩ := hP
  have c1 : Steps p.tables e below (s₁.setTop (entryFrame m #[.ref b, .int (Int32.ofNat o), .ref d, .int (Int32.ofNat q), .int (Int32.ofNat len)] 7)) (s₁.setTop (mkF m 0 #[.val (.ref b), .val (.int (Int32.ofNat o)), .val (.ref d), .val (.int (Int32.ofNat q)), .val (.int (Int32.ofNat len)), .unset, .unset] [])) := entry rfl
  have hA0 := hA.1.mv X0.warmed.alike hh0
  have hB0 := hB.mv X0.warmed.alike hh0
  have a31 := hA.1.2.2.2
  have c2 : Steps p.tables e below (s₁.setTop (entryFrame m #[.ref b, .int (Int32.ofNat o), .ref d, .int (Int32.ofNat q), .int (Int32.ofNat len)] 7)) (s₁.setTop (mkF m 3 #[.val (.ref b), .val (.int (Int32.ofNat o)), .val (.ref d), .val (.int (Int32.ofNat q)), .val (.int (Int32.ofNat len)), .val (.int 0), .unset] [])) := c1.trans (by
    refine iconstV X0.here hexec rfl 0 (hb hbytes d0) (by decide) ?_
    refine XS.istore X0.here hexec rfl (hb hbytes d1) rfl rfl ?_
    exact Steps.refl _)
  have loop : ∀ (r i : Nat), i + r = len → ∀ (z : Slot), (z = .unset ∨ ∃ w, z = .val w ∧ w.category = 1) → ∀ (Tl : State) (Bk : Cell), Stand p l e { frames := 0, locals := 0, cells := 0, slots := 0 } s m #[.ref b, .int (Int32.ofNat o), .ref d, .int (Int32.ofNat q), .int (Int32.ofNat len)] below meth c Tl ([] ++ copyLocs d q i) 0 0 → Put d Bk s₁ Tl → Laid B Bk q (q + i) (fun j => Value.int (lo8 (cv A (o + (j - q))))) →
      Steps p.tables e below (s₁.setTop (entryFrame m #[.ref b, .int (Int32.ofNat o), .ref d, .int (Int32.ofNat q), .int (Int32.ofNat len)] 7)) (Tl.setTop (mkF m 3 #[.val (.ref b), .val (.int (Int32.ofNat (o + i))), .val (.ref d), .val (.int (Int32.ofNat (q + i))), .val (.int (Int32.ofNat len)), .val (.int (Int32.ofNat i)), z] [])) → ∃ (T' : State) (B' : Cell) (z' : Slot), Stand p l e { frames := 0, locals := 0, cells := 0, slots := 0 } s m #[.ref b, .int (Int32.ofNat o), .ref d, .int (Int32.ofNat q), .int (Int32.ofNat len)] below meth c T' ([] ++ copyLocs d q len) 0 0 ∧ Put d B' s₁ T' ∧ Laid B B' q (q + len) (fun j => Value.int (lo8 (cv A (o + (j - q))))) ∧
      Steps p.tables e below (s₁.setTop (entryFrame m #[.ref b, .int (Int32.ofNat o), .ref d, .int (Int32.ofNat q), .int (Int32.ofNat len)] 7)) (T'.setTop (mkF m 3 #[.val (.ref b), .val (.int (Int32.ofNat (o + len))), .val (.ref d), .val (.int (Int32.ofNat (q + len))), .val (.int (Int32.ofNat len)), .val (.int (Int32.ofNat len)), z'] [])) := by
    intro r
    induction r with
    | zero =>
      intro i hi z hz Tl Bk Xl pl fl cl
      have hil : i = len := by omega
      rw [hil] at Xl fl cl
      exact ⟨Tl, Bk, z, Xl, pl, fl, cl⟩
    | succ r ih =>
      intro i hi z hz Tl Bk Xl pl fl cl
      have all := X0.warmed.alike.symm.trans Xl.warmed.alike
      have hAl := hA0.keep all (pl.other hne hA0.1)
      have hBk := hB0.like all pl.1 fl.1 fl.2.1 fl.2.2.1
      have hlt : q + i < Bk.slots.size := by rw [fl.2.2.1]; omega
      have c3 : Steps p.tables e below (s₁.setTop (entryFrame m #[.ref b, .int (Int32.ofNat o), .ref d, .int (Int32.ofNat q), .int (Int32.ofNat len)] 7)) (Tl.setTop (mkF m 12 #[.val (.ref b), .val (.int (Int32.ofNat (o + i))), .val (.ref d), .val (.int (Int32.ofNat (q + i))), .val (.int (Int32.ofNat len)), .val (.int (Int32.ofNat i)), z] [.int (Int32.ofNat (o + i)), .ref b])) := cl.trans (by
        refine XS.iload Xl.here hexec rfl (hb hbytes d3) rfl ?_
        refine XS.iload Xl.here hexec rfl (hb hbytes d5) rfl ?_
        refine XS.icmpNo Xl.here hexec rfl (hb hbytes d7) rfl (ii_ge_f (lt32 (by omega) (by omega))) ?_
        refine XS.aloadN Xl.here hexec rfl (hb hbytes d10) rfl rfl ?_
        refine XS.iloadN Xl.here hexec rfl (hb hbytes d11) rfl ?_
        exact Steps.refl _)
      have c4 : Steps p.tables e below (s₁.setTop (entryFrame m #[.ref b, .int (Int32.ofNat o), .ref d, .int (Int32.ofNat q), .int (Int32.ofNat len)] 7)) (Tl.setTop (mkF m 13 #[.val (.ref b), .val (.int (Int32.ofNat (o + i))), .val (.ref d), .val (.int (Int32.ofNat (q + i))), .val (.int (Int32.ofNat len)), .val (.int (Int32.ofNat i)), z] [.int (cv A (o + i))])) := c3.trans (by
        refine Xl.aget hexec hAl rfl (hA.get (i := o + i) (by omega)) rfl rfl (hb hbytes d12) ?_
        exact Steps.refl _)
      have c5 : Steps p.tables e below (s₁.setTop (entryFrame m #[.ref b, .int (Int32.ofNat o), .ref d, .int (Int32.ofNat q), .int (Int32.ofNat len)] 7)) (Tl.setTop (mkF m 15 #[.val (.ref b), .val (.int (Int32.ofNat (o + i))), .val (.ref d), .val (.int (Int32.ofNat (q + i))), .val (.int (Int32.ofNat len)), .val (.int (Int32.ofNat i)), .val (.int (cv A (o + i)))] [])) := c4.trans (by
        refine XS.istoreS Xl.here hexec rfl (hb hbytes d13) rfl rfl hz ?_
        exact Steps.refl _)
      have c6 : Steps p.tables e below (s₁.setTop (entryFrame m #[.ref b, .int (Int32.ofNat o), .ref d, .int (Int32.ofNat q), .int (Int32.ofNat len)] 7)) (Tl.setTop (mkF m 31 #[.val (.ref b), .val (.int (Int32.ofNat (o + i))), .val (.ref d), .val (.int (Int32.ofNat (q + i))), .val (.int (Int32.ofNat len)), .val (.int (Int32.ofNat i)), .val (.int (cv A (o + i)))] [.int (lo8 (cv A (o + i))), .int (Int32.ofNat (q + i)), .ref d])) := c5.trans (by
        refine XS.iload Xl.here hexec rfl (hb hbytes d15) rfl ?_
        refine sipushV Xl.here hexec rfl 255 (hb hbytes d17) (by decide) ?_
        refine XS.icmpYes Xl.here hexec rfl (pc0 := 20) rfl (hb hbytes d20) rfl (ii_le_t (hp i (by omega))) (by decide) rfl ?_
        refine XS.aloadN Xl.here hexec rfl (hb hbytes d26) rfl rfl ?_
        refine XS.iloadN Xl.here hexec rfl (hb hbytes d27) rfl ?_
        refine XS.iload Xl.here hexec rfl (hb hbytes d28) rfl ?_
        refine i2b Xl.here hexec rfl (hb hbytes d30) rfl ?_
        exact Steps.refl _)
      obtain ⟨T7, X7, p7, st7⟩ := Xl.aput hexec hBk rfl hlt rfl (fits_lo8 (cv A (o + i))) (g := (mkF m 31 #[.val (.ref b), .val (.int (Int32.ofNat (o + i))), .val (.ref d), .val (.int (Int32.ofNat (q + i))), .val (.int (Int32.ofNat len)), .val (.int (Int32.ofNat i)), .val (.int (cv A (o + i)))] [.int (lo8 (cv A (o + i))), .int (Int32.ofNat (q + i)), .ref d])) rfl (rest := []) rfl (hb hbytes d31)
      have c8 : Steps p.tables e below (s₁.setTop (entryFrame m #[.ref b, .int (Int32.ofNat o), .ref d, .int (Int32.ofNat q), .int (Int32.ofNat len)] 7)) (T7.setTop (mkF m 32 #[.val (.ref b), .val (.int (Int32.ofNat (o + i))), .val (.ref d), .val (.int (Int32.ofNat (q + i))), .val (.int (Int32.ofNat len)), .val (.int (Int32.ofNat i)), .val (.int (cv A (o + i)))] [])) := c6.trans (st7 _ (Steps.refl _))
      have c9 : Steps p.tables e below (s₁.setTop (entryFrame m #[.ref b, .int (Int32.ofNat o), .ref d, .int (Int32.ofNat q), .int (Int32.ofNat len)] 7)) (T7.setTop (mkF m 3 #[.val (.ref b), .val (.int (Int32.ofNat (o + i) + 1)), .val (.ref d), .val (.int (Int32.ofNat (q + i) + 1)), .val (.int (Int32.ofNat len)), .val (.int (Int32.ofNat i + 1)), .val (.int (cv A (o + i)))] [])) := c8.trans (by
        refine iincV X7.here hexec rfl 1 (hb hbytes d32) (by decide) rfl rfl ?_
        refine iincV X7.here hexec rfl 1 (hb hbytes d35) (by decide) rfl rfl ?_
        refine iincV X7.here hexec rfl 1 (hb hbytes d38) (by decide) rfl rfl ?_
        refine XS.goto X7.here hexec rfl (pc0 := 41) rfl (hb hbytes d41) (by decide) rfl ?_
        exact Steps.refl _)
      have c10 : Steps p.tables e below (s₁.setTop (entryFrame m #[.ref b, .int (Int32.ofNat o), .ref d, .int (Int32.ofNat q), .int (Int32.ofNat len)] 7)) (T7.setTop (mkF m 3 #[.val (.ref b), .val (.int (Int32.ofNat (o + (i + 1)))), .val (.ref d), .val (.int (Int32.ofNat (q + (i + 1)))), .val (.int (Int32.ofNat len)), .val (.int (Int32.ofNat (i + 1))), .val (.int (cv A (o + i)))] [])) := by
        have := c9
        rw [succ32, succ32, succ32] at this
        exact this
      exact ih (i + 1) (by omega) _ (Or.inr ⟨_, rfl, rfl⟩) T7 _ (by rw [copyLocs_step, ← List.append_assoc]; exact X7) (pl.trans p7) (fl.step (by omega) hlt (by simp)) c10
  obtain ⟨T9, B9, z9, X9, p9, f9, g9⟩ := loop len 0 (by omega) .unset (Or.inl rfl) s₁ B (by simpa [copyLocs] using X0) ⟨hB0.1, fun _ _ => rfl, rfl⟩ (Laid.zero _ _ _) c2
  have c11 : Steps p.tables e below (s₁.setTop (entryFrame m #[.ref b, .int (Int32.ofNat o), .ref d, .int (Int32.ofNat q), .int (Int32.ofNat len)] 7)) (T9.setTop (mkF m 46 #[.val (.ref b), .val (.int (Int32.ofNat (o + len))), .val (.ref d), .val (.int (Int32.ofNat (q + len))), .val (.int (Int32.ofNat len)), .val (.int (Int32.ofNat len)), z9] [.int (Int32.ofNat len)])) := g9.trans (by
    refine XS.iload X9.here hexec rfl (hb hbytes d3) rfl ?_
    refine XS.iload X9.here hexec rfl (hb hbytes d5) rfl ?_
    refine XS.icmpYes X9.here hexec rfl (pc0 := 7) rfl (hb hbytes d7) rfl (ii_ge_t (nlt32 (by omega) (Nat.le_refl _))) (by decide) rfl ?_
    refine XS.iload X9.here hexec rfl (hb hbytes d44) rfl ?_
    exact Steps.refl _)
  exact ⟨T9, some (.int (Int32.ofNat len)), _, _, _, X9, by simp, rfl, rfl, (fun h => by cases h), ⟨rfl, B9, p9.from hh0, f9⟩, fun fs hl => c11.trans (X9.ireturnOut hexec hret rfl (Or.inl rfl) (hb hbytes d46) hl)⟩
end Cmp5
namespace Cmp3
def yN : MethodName := ⟨"java/lang/StringUTF16", "compress", "([CII)[B"⟩
abbrev yB : ByteArray := jdk_52_method_16_code
theorem d0 : decode yB 0 = .ok (.iload_n 2, 1) := by decide +kernel
theorem d1 : decode yB 1 = .ok (.newarray .byte, 2) := by decide +kernel
theorem d3 : decode yB 3 = .ok (.astore_n 3, 1) := by decide +kernel
theorem d4 : decode yB 4 = .ok (.aload_n 0, 1) := by decide +kernel
theorem d5 : decode yB 5 = .ok (.iload_n 1, 1) := by decide +kernel
theorem d6 : decode yB 6 = .ok (.aload_n 3, 1) := by decide +kernel
theorem d7 : decode yB 7 = .ok (.iconst 0, 1) := by decide +kernel
theorem d8 : decode yB 8 = .ok (.iload_n 2, 1) := by decide +kernel
theorem d9 : decode yB 9 = .ok (.invokestatic 115, 3) := by decide +kernel
theorem d12 : decode yB 12 = .ok (.istore 4, 2) := by decide +kernel
theorem d14 : decode yB 14 = .ok (.iload 4, 2) := by decide +kernel
theorem d16 : decode yB 16 = .ok (.iload_n 2, 1) := by decide +kernel
theorem d17 : decode yB 17 = .ok (.if_icmp (.eq) 40, 3) := by decide +kernel
theorem d57 : decode yB 57 = .ok (.aload_n 3, 1) := by decide +kernel
theorem d58 : decode yB 58 = .ok (.areturn, 1) := by decide +kernel
def site : List Cond := [.arrayClass .byte, Cmp5.tab] ++ staticW U16 115 Cmp5.yN
def tab : Cond := tabOf yN yB 6 (some (.array .byte)) site
def P (b : Addr) (A : Cell) (o len : Nat) (args : Array Value) (s : State) : Prop := args = #[.ref b, .int (Int32.ofNat o), .int (Int32.ofNat len)] ∧ Ch b A s ∧ o + len ≤ A.slots.size ∧ len ≤ 536870912 ∧ ∀ i, i < len → ¬ 255 < cv A (o + i)
def E (b : Addr) (A : Cell) (o len : Nat) (r : Option Value) (s u : State) : Prop := NewArr .byte "[B" len (fun j => .int (lo8 (cv A (o + j)))) r s u ∧ u.heap.size = s.heap.size + 1
/-- no char of the range above 255: a new byte[] of their low bytes -/
theorem law (l : Launch) (b : Addr) (A : Cell) (o len : Nat) : Law l yN 3 3 1 18 yB 6 (some (.array .byte)) site (P b A o len) (E b A o len) [] 1 len := by
  refine Law.of_walk (plainFor_of_name (by decide +kernel)) (by decide +kernel) (by decide +kernel) (by decide) (fun _ _ h => by rw [h.1]; rfl) (fun _ U U' hal hh h => ⟨h.1, h.2.1.mv hal hh, h.2.2⟩) (fun r U U' V V' h1 hal h2 h => ⟨NewArr.mv r U U' V V' h1 hal h2 h.1, by rw [h1, h2]; exact h.2⟩) ?_
  intro p e s m args below meth c s₁ X0 hexec hbytes hml hret hlk hnm hown hh0 W hP
  obtain ⟨rfl, hA, l1, l2, hp⟩ := hP
  have a31 := hA.1.2.2.2
  have c1 : Steps p.tables e below (s₁.setTop (entryFrame m #[.ref b, .int (Int32.ofNat o), .int (Int32.ofNat len)] 6)) (s₁.setTop (mkF m 0 #[.val (.ref b), .val (.int (Int32.ofNat o)), .val (.int (Int32.ofNat len)), .unset, .unset, .unset] [])) := entry rfl
  have c2 : Steps p.tables e below (s₁.setTop (entryFrame m #[.ref b, .int (Int32.ofNat o), .int (Int32.ofNat len)] 6)) (s₁.setTop (mkF m 1 #[.val (.ref b), .val (.int (Int32.ofNat o)), .val (.int (Int32.ofNat len)), .unset, .unset, .unset] [.int (Int32.ofNat len)])) := c1.trans (by
    refine XS.iloadN X0.here hexec rfl (hb hbytes d0) rfl ?_
    exact Steps.refl _)
  obtain ⟨T3, B3, X3, ba3, bs3, bv3, bh3, bf3, st3⟩ := X0.anew hexec (atype := .byte) (wk W (.arrayClass .byte)) rfl (by show len * 1 ≤ _; omega) (by omega) (g := (mkF m 1 #[.val (.ref b), .val (.int (Int32.ofNat o)), .val (.int (Int32.ofNat len)), .unset, .unset, .unset] [.int (Int32.ofNat len)])) rfl (hb hbytes d1) (rest := []) rfl (Nat.le_refl _) (by show 0 + len ≤ len; omega)
  rw [hh0] at ba3 st3
  have kp3 : XT.Kept s T3 := (XT.Kept.of_eq hh0).push bh3
  have hA3 := hA.keep X3.warmed.alike (kp3 _ _ hA.1.1)
  have hne : b ≠ s.heap.size := hA.1.ne
  have c4 : Steps p.tables e below (s₁.setTop (entryFrame m #[.ref b, .int (Int32.ofNat o), .int (Int32.ofNat len)] 6)) (T3.setTop (mkF m 3 #[.val (.ref b), .val (.int (Int32.ofNat o)), .val (.int (Int32.ofNat len)), .unset, .unset, .unset] [.ref s.heap.size])) := c2.trans (st3 _ (Steps.refl _))
  have c5 : Steps p.tables e below (s₁.setTop (entryFrame m #[.ref b, .int (Int32.ofNat o), .int (Int32.ofNat len)] 6)) (T3.setTop (mkF m 9 #[.val (.ref b), .val (.int (Int32.ofNat o)), .val (.int (Int32.ofNat len)), .val (.ref s.heap.size), .unset, .unset] [.int (Int32.ofNat len), .int 0, .ref s.heap.size, .int (Int32.ofNat o), .ref b])) := c4.trans (by
    refine XS.astoreN X3.here hexec rfl (hb hbytes d3) rfl rfl rfl ?_
    refine XS.aloadN X3.here hexec rfl (hb hbytes d4) rfl rfl ?_
    refine XS.iloadN X3.here hexec rfl (hb hbytes d5) rfl ?_
    refine XS.aloadN X3.here hexec rfl (hb hbytes d6) rfl rfl ?_
    refine iconstV X3.here hexec rfl 0 (hb hbytes d7) (by decide) ?_
    refine XS.iloadN X3.here hexec rfl (hb hbytes d8) rfl ?_
    exact Steps.refl _)
  obtain ⟨v6, T6, X6, E6, g6⟩ := X3.callS hexec (Cmp5.law l b A s.heap.size B3 o 0 len) hown (wks W (staticW U16 115 Cmp5.yN)) (wk W Cmp5.tab) (W := 0) (Nat.le_of_ble_eq_true rfl) (Nat.le_of_ble_eq_true rfl) (Nat.le_refl _) (by show 0 + len + 0 ≤ len; omega) (g := (mkF m 9 #[.val (.ref b), .val (.int (Int32.ofNat o)), .val (.int (Int32.ofNat len)), .val (.ref s.heap.size), .unset, .unset] [.int (Int32.ofNat len), .int (Int32.ofNat 0), .ref s.heap.size, .int (Int32.ofNat o), .ref b])) rfl (by rw [hml]; rfl) c5 (argsL := [.ref b, .int (Int32.ofNat o), .ref s.heap.size, .int (Int32.ofNat 0), .int (Int32.ofNat len)]) (rest := []) rfl rfl (by show 2 * 0 + 0 ≤ _; decide) (hb hbytes d9) (⟨rfl, hA3, ba3, hne, l1, by rw [bs3]; simp, hp⟩)
  obtain ⟨rfl, B6, p6, f6⟩ := E6
  have c7 : Steps p.tables e below (s₁.setTop (entryFrame m #[.ref b, .int (Int32.ofNat o), .int (Int32.ofNat len)] 6)) (T6.setTop (mkF m 12 #[.val (.ref b), .val (.int (Int32.ofNat o)), .val (.int (Int32.ofNat len)), .val (.ref s.heap.size), .unset, .unset] [.int (Int32.ofNat len)])) := g6
  have c8 : Steps p.tables e below (s₁.setTop (entryFrame m #[.ref b, .int (Int32.ofNat o), .int (Int32.ofNat len)] 6)) (T6.setTop (mkF m 58 #[.val (.ref b), .val (.int (Int32.ofNat o)), .val (.int (Int32.ofNat len)), .val (.ref s.heap.size), .val (.int (Int32.ofNat len)), .unset] [.ref s.heap.size])) := c7.trans (by
    refine XS.istore X6.here hexec rfl (hb hbytes d12) rfl rfl ?_
    refine XS.iload X6.here hexec rfl (hb hbytes d14) rfl ?_
    refine XS.iloadN X6.here hexec rfl (hb hbytes d16) rfl ?_
    refine XS.icmpYes X6.here hexec rfl (pc0 := 17) rfl (hb hbytes d17) rfl (ii_eq_t rfl) (by decide) rfl ?_
    refine XS.aloadN X6.here hexec rfl (hb hbytes d57) rfl rfl ?_
    exact Steps.refl _)
  have X8 := X6.wide (L' := []) (cells' := 1) (slots' := len) (fun x hx hlt => by
    simp only [List.nil_append, copyLocs, List.mem_map, List.mem_range] at hx
    obtain ⟨i, -, rfl⟩ := hx
    exact absurd hlt (Nat.lt_irrefl _)) (Nat.le_refl _) (by omega)
  exact ⟨T6, some (.ref s.heap.size), _, _, _, X8, rfl, rfl, rfl, (fun h => by cases h), ⟨⟨rfl, B6, ba3.like (X3.warmed.alike.symm.trans X6.warmed.alike) p6.1 f6.1 f6.2.1 f6.2.2.1, f6.2.1.trans bv3, by rw [X6.warmed.alike.findClass, f6.1]; exact bf3, by rw [f6.2.2.1, bs3]; simp, fun j hj => by rw [f6.2.2.2 j, if_pos (by omega)]; rfl, kp3.put p6 (Nat.le_refl _)⟩, by rw [p6.2.2, bh3, hh0]; simp⟩, fun fs hl => c8.trans (X8.areturnOut hexec rfl hret rfl (hb hbytes d58) hl)⟩
end Cmp3
namespace CodL
def yN : MethodName := ⟨"java/lang/StringUTF16", "coderFromArrayLen", "([BI)B"⟩
abbrev yB : ByteArray := jdk_52_method_15_code
theorem d0 : decode yB 0 = .ok (.iload_n 1, 1) := by decide +kernel
theorem d1 : decode yB 1 = .ok (.aload_n 0, 1) := by decide +kernel
theorem d2 : decode yB 2 = .ok (.arraylength, 1) := by decide +kernel
theorem d3 : decode yB 3 = .ok (.isub, 1) := by decide +kernel
theorem d4 : decode yB 4 = .ok (.bipush 31, 2) := by decide +kernel
theorem d6 : decode yB 6 = .ok (.iushr, 1) := by decide +kernel
theorem d7 : decode yB 7 = .ok (.i2b, 1) := by decide +kernel
theorem d8 : decode yB 8 = .ok (.ireturn, 1) := by decide +kernel
def site : List Cond := []
def tab : Cond := tabOf yN yB 2 (some .byte) site
def P (d : Addr) (B : Cell) (args : Array Value) (s : State) : Prop := args = #[.ref d, .int (Int32.ofNat B.slots.size)] ∧ Arr .byte d B s
def E (r : Option Value) (s u : State) : Prop := XT.PureE (some (.int 0)) r s u
/-- an array as long as the number of chars: LATIN1 -/
theorem law (l : Launch) (d : Addr) (B : Cell) : Law l yN 2 2 0 0 yB 2 (some .byte) site (P d B) E [] 0 0 := by
  refine Law.of_walk (plainFor_of_name (by decide +kernel)) (by decide +kernel) (by decide +kernel) (by decide) (fun _ _ h => by rw [h.1]; rfl) (fun _ U U' hal hh h => ⟨h.1, h.2.mv hal hh⟩) (fun r U U' V V' h1 hal h2 h => XT.PureE.mv r U U' V V' h1 hal h2 h) ?_
  intro p e s m args below meth c s₁ X0 hexec hbytes hml hret hlk hnm hown hh0 W hP
  obtain ⟨rfl, hB⟩ := hP
  have hB0 := hB.mv X0.warmed.alike hh0
  have c1 : Steps p.tables e below (s₁.setTop (entryFrame m #[.ref d, .int (Int32.ofNat B.slots.size)] 2)) (s₁.setTop (mkF m 0 #[.val (.ref d), .val (.int (Int32.ofNat B.slots.size))] [])) := entry rfl
  have c2 : Steps p.tables e below (s₁.setTop (entryFrame m #[.ref d, .int (Int32.ofNat B.slots.size)] 2)) (s₁.setTop (mkF m 2 #[.val (.ref d), .val (.int (Int32.ofNat B.slots.size))] [.ref d, .int (Int32.ofNat B.slots.size)])) := c1.trans (by
    refine XS.iloadN X0.here hexec rfl (hb hbytes d0) rfl ?_
    refine XS.aloadN X0.here hexec rfl (hb hbytes d1) rfl rfl ?_
    exact Steps.refl _)
  have c3 : Steps p.tables e below (s₁.setTop (entryFrame m #[.ref d, .int (Int32.ofNat B.slots.size)] 2)) (s₁.setTop (mkF m 8 #[.val (.ref d), .val (.int (Int32.ofNat B.slots.size))] [.int (lo8 (ushr (Int32.ofNat B.slots.size - Int32.ofNat B.slots.size) 31))])) := c2.trans (by
    refine X0.alen hexec hB0 rfl rfl (hb hbytes d2) ?_
    refine XS.isub X0.here hexec rfl (hb hbytes d3) rfl ?_
    refine bipushV X0.here hexec rfl 31 (hb hbytes d4) (by decide) ?_
    refine iushr X0.here hexec rfl (hb hbytes d6) rfl ?_
    refine i2b X0.here hexec rfl (hb hbytes d7) rfl ?_
    exact Steps.refl _)
  have e0 : lo8 (ushr (Int32.ofNat B.slots.size - Int32.ofNat B.slots.size) 31) = 0 := by rw [Int32.sub_self]; decide
  rw [e0] at c3
  exact ⟨s₁, some (.int 0), _, _, _, X0, rfl, rfl, rfl, (fun h => by cases h), ⟨rfl, hh0⟩, fun fs hl => c3.trans (X0.ireturnOut hexec hret rfl (Or.inr (Or.inr (Or.inl rfl))) (hb hbytes d8) hl)⟩
end CodL
/-- the String at a is Latin-1 over a new byte[] (the heap's one new cell): the low bytes of the len chars of A from o on; every cell but a is kept -/
def Got (a : Addr) (D : Cell) (fV fC : Field) (A : Cell) (o len : Nat) (r : Option Value) (s u : State) : Prop := r = none ∧ ∃ D' V : Cell, Blank "java/lang/String" a D' u ∧ Same D D' [fV.slot, fC.slot] ∧ D'.slots[fV.slot]? = some (.ref s.heap.size) ∧ D'.slots[fC.slot]? = some (.int 0) ∧ Arr .byte s.heap.size V u ∧ V.vm = .none ∧ u.vm.findClass "[B" = some V.cls ∧ V.slots.size = len ∧ (∀ j, j < len → V.slots[j]? = some (.int (lo8 (cv A (o + j))))) ∧ (∀ (y : Addr) (c : Cell), y ≠ a → s.heap[y]? = some c → u.heap[y]? = some c) ∧ u.heap.size = s.heap.size + 1
theorem Got.mv {a : Addr} {D A : Cell} {fV fC : Field} {o len : Nat} : ∀ r (U U' V V' : State), U'.heap = U.heap → V.vm.Alike V'.vm → V'.heap = V.heap → Got a D fV fC A o len r U V → Got a D fV fC A o len r U' V' :=
  fun r U U' V V' h1 hal h2 ⟨e0, D', X, a1, a2, a3, a4, a5, a6, a7, a8, a9, a10, a11⟩ => ⟨e0, D', X, a1.mv hal h2, a2, by rw [h1]; exact a3, a4, by rw [h1]; exact a5.mv hal h2, a6, by rw [hal.findClass]; exact a7, a8, a9, by rw [h1, h2]; exact a10, by rw [h1, h2]; exact a11⟩
namespace New4
def yN : MethodName := ⟨"java/lang/String", "<init>", "([CIILjava/lang/Void;)V"⟩
abbrev yB : ByteArray := jdk_42_method_149_code
theorem d0 : decode yB 0 = .ok (.aload_n 0, 1) := by decide +kernel
theorem d1 : decode yB 1 = .ok (.invokespecial 1, 3) := by decide +kernel
theorem d4 : decode yB 4 = .ok (.iload_n 3, 1) := by decide +kernel
theorem d5 : decode yB 5 = .ok (.ifCond (.ne) 22, 3) := by decide +kernel
theorem d27 : decode yB 27 = .ok (.getstatic 38, 3) := by decide +kernel
theorem d30 : decode yB 30 = .ok (.ifCond (.eq) 28, 3) := by decide +kernel
theorem d33 : decode yB 33 = .ok (.aload_n 1, 1) := by decide +kernel
theorem d34 : decode yB 34 = .ok (.iload_n 2, 1) := by decide +kernel
theorem d35 : decode yB 35 = .ok (.iload_n 3, 1) := by decide +kernel
theorem d36 : decode yB 36 = .ok (.invokestatic 177, 3) := by decide +kernel
theorem d39 : decode yB 39 = .ok (.astore 5, 2) := by decide +kernel
theorem d41 : decode yB 41 = .ok (.aload_n 0, 1) := by decide +kernel
theorem d42 : decode yB 42 = .ok (.aload 5, 2) := by decide +kernel
theorem d44 : decode yB 44 = .ok (.iload_n 3, 1) := by decide +kernel
theorem d45 : decode yB 45 = .ok (.invokestatic 47, 3) := by decide +kernel
theorem d48 : decode yB 48 = .ok (.putfield 15, 3) := by decide +kernel
theorem d51 : decode yB 51 = .ok (.aload_n 0, 1) := by decide +kernel
theorem d52 : decode yB 52 = .ok (.aload 5, 2) := by decide +kernel
theorem d54 : decode yB 54 = .ok (.putfield 9, 3) := by decide +kernel
theorem d57 : decode yB 57 = .ok (.return_, 1) := by decide +kernel
def site : List Cond := [.fieldLink "java/lang/String" 38 "java/lang/String" "COMPACT_STRINGS" "Z", Cmp3.tab, CodL.tab, .laysFinal "java/lang/String" "java/lang/String" "value" "[B", .fieldLink "java/lang/String" 9 "java/lang/String" "value" "[B", .laysFinal "java/lang/String" "java/lang/String" "coder" "B", .fieldLink "java/lang/String" 15 "java/lang/String" "coder" "B"] ++ objW "java/lang/String" 1 ++ staticW "java/lang/String" 177 Cmp3.yN ++ staticW "java/lang/String" 47 CodL.yN
def tab : Cond := tabOf yN yB 6 none site
def P (a : Addr) (D : Cell) (fV fC : Field) (b : Addr) (A : Cell) (z : Int32) (o len : Nat) (args : Array Value) (s : State) : Prop := args = #[.ref a, .ref b, .int (Int32.ofNat o), .int (Int32.ofNat len), .null] ∧ Blank "java/lang/String" a D s ∧ Found "java/lang/String" "value" "[B" fV s ∧ Found "java/lang/String" "coder" "B" fC s ∧ Ch b A s ∧ StaticIs s "java/lang/String" "COMPACT_STRINGS" "Z" (.int z) ∧ ¬ z = 0 ∧ 0 < len ∧ o + len ≤ A.slots.size ∧ len ≤ 536870912 ∧ ∀ i, i < len → ¬ 255 < cv A (o + i)
def E (a : Addr) (D : Cell) (fV fC : Field) (A : Cell) (o len : Nat) (r : Option Value) (s u : State) : Prop := Got a D fV fC A o len r s u
/-- len > 0, no char of the range above 255: a Latin-1 String of their low bytes -/
theorem law (l : Launch) (a : Addr) (D : Cell) (fV fC : Field) (b : Addr) (A : Cell) (z : Int32) (o len : Nat) : Law l yN 5 4 2 35 yB 6 none site (P a D fV fC b A z o len) (E a D fV fC A o len) [⟨a, fC.slot⟩, ⟨a, fV.slot⟩] 1 len := by
  refine Law.of_walk (plainFor_of_name (by decide +kernel)) (by decide +kernel) (by decide +kernel) (by decide) (fun _ _ h => by rw [h.1]; rfl) (fun _ U U' hal hh h => ⟨h.1, h.2.1.mv hal hh, h.2.2.1.al hal, h.2.2.2.1.al hal, h.2.2.2.2.1.mv hal hh, h.2.2.2.2.2.1.there hal hh, h.2.2.2.2.2.2⟩) (fun r U U' V V' h1 hal h2 h => Got.mv r U U' V V' h1 hal h2 h) ?_
  intro p e s m args below meth c s₁ X0 hexec hbytes hml hret hlk hnm hown hh0 W hP
  obtain ⟨rfl, hB, f1, f2, hA, s1, hz, l0, l1, l2, hp⟩ := hP
  have a31 := hA.1.2.2.2
  have c1 : Steps p.tables e below (s₁.setTop (entryFrame m #[.ref a, .ref b, .int (Int32.ofNat o), .int (Int32.ofNat len), .null] 6)) (s₁.setTop (mkF m 0 #[.val (.ref a), .val (.ref b), .val (.int (Int32.ofNat o)), .val (.int (Int32.ofNat len)), .val .null, .unset] [])) := entry rfl
  have c2 : Steps p.tables e below (s₁.setTop (entryFrame m #[.ref a, .ref b, .int (Int32.ofNat o), .int (Int32.ofNat len), .null] 6)) (s₁.setTop (mkF m 1 #[.val (.ref a), .val (.ref b), .val (.int (Int32.ofNat o)), .val (.int (Int32.ofNat len)), .val .null, .unset] [.ref a])) := c1.trans (by
    refine XS.aloadN X0.here hexec rfl (hb hbytes d0) rfl rfl ?_
    exact Steps.refl _)
  obtain ⟨T3, X3, q3, st3⟩ := X0.oinit hexec hown (wks W (objW "java/lang/String" 1)) (g := (mkF m 1 #[.val (.ref a), .val (.ref b), .val (.int (Int32.ofNat o)), .val (.int (Int32.ofNat len)), .val .null, .unset] [.ref a])) rfl (by rw [hml]; rfl) (rest := []) rfl (hb hbytes d1) (W := 0) (by show 2 * 0 + 0 ≤ _; decide) (Nat.le_of_ble_eq_true rfl) (Nat.le_of_ble_eq_true rfl)
  have hh3 := q3.trans hh0
  have c4 : Steps p.tables e below (s₁.setTop (entryFrame m #[.ref a, .ref b, .int (Int32.ofNat o), .int (Int32.ofNat len), .null] 6)) (T3.setTop (mkF m 27 #[.val (.ref a), .val (.ref b), .val (.int (Int32.ofNat o)), .val (.int (Int32.ofNat len)), .val .null, .unset] [])) := (c2.trans (st3 _ (Steps.refl _))).trans (by
    refine XS.iloadN X3.here hexec rfl (hb hbytes d4) rfl ?_
    refine XS.ifYes X3.here hexec rfl (pc0 := 5) rfl (hb hbytes d5) rfl (i0_ne_t (nz32 (by omega) l0)) (by decide) rfl ?_
    exact Steps.refl _)
  obtain ⟨T5, X5, q5, st5⟩ := X3.sget hexec hown (wk W (.fieldLink "java/lang/String" 38 "java/lang/String" "COMPACT_STRINGS" "Z")) s1 (fun _ _ h => by rw [hh3]; exact h) (g := (mkF m 27 #[.val (.ref a), .val (.ref b), .val (.int (Int32.ofNat o)), .val (.int (Int32.ofNat len)), .val .null, .unset] [])) rfl (hb hbytes d27)
  have hh5 := q5.trans hh3
  have c6 : Steps p.tables e below (s₁.setTop (entryFrame m #[.ref a, .ref b, .int (Int32.ofNat o), .int (Int32.ofNat len), .null] 6)) (T5.setTop (mkF m 30 #[.val (.ref a), .val (.ref b), .val (.int (Int32.ofNat o)), .val (.int (Int32.ofNat len)), .val .null, .unset] [.int z])) := c4.trans (st5 _ (Steps.refl _))
  have c7 : Steps p.tables e below (s₁.setTop (entryFrame m #[.ref a, .ref b, .int (Int32.ofNat o), .int (Int32.ofNat len), .null] 6)) (T5.setTop (mkF m 36 #[.val (.ref a), .val (.ref b), .val (.int (Int32.ofNat o)), .val (.int (Int32.ofNat len)), .val .null, .unset] [.int (Int32.ofNat len), .int (Int32.ofNat o), .ref b])) := c6.trans (by
    refine XS.ifNo X5.here hexec rfl (hb hbytes d30) rfl (i0_eq_f hz) ?_
    refine XS.aloadN X5.here hexec rfl (hb hbytes d33) rfl rfl ?_
    refine XS.iloadN X5.here hexec rfl (hb hbytes d34) rfl ?_
    refine XS.iloadN X5.here hexec rfl (hb hbytes d35) rfl ?_
    exact Steps.refl _)
  obtain ⟨v8, T8, X8, E8, g8⟩ := X5.callS hexec (Cmp3.law l b A o len) hown (wks W (staticW "java/lang/String" 177 Cmp3.yN)) (wk W Cmp3.tab) (W := 0) (Nat.le_of_ble_eq_true rfl) (Nat.le_of_ble_eq_true rfl) (Nat.le_refl _) (by show 0 + len ≤ len; omega) (g := (mkF m 36 #[.val (.ref a), .val (.ref b), .val (.int (Int32.ofNat o)), .val (.int (Int32.ofNat len)), .val .null, .unset] [.int (Int32.ofNat len), .int (Int32.ofNat o), .ref b])) rfl (by rw [hml]; rfl) c7 (argsL := [.ref b, .int (Int32.ofNat o), .int (Int32.ofNat len)]) (rest := []) rfl rfl (by show 2 * 0 + 0 ≤ _; decide) (hb hbytes d36) (⟨rfl, hA.mv X5.warmed.alike hh5, l1, l2, hp⟩)
  obtain ⟨e8, z8⟩ := E8
  obtain ⟨rfl, N, n1, n2, n3, n4, n5, n6⟩ := NewArr.mv _ T5 s _ _ hh5.symm (Vm.Alike.refl _) rfl e8
  rw [hh5] at z8
  have hB1 := hB.keep X8.warmed.alike (n6 _ _ hB.1)
  have hne : s.heap.size ≠ a := (Nat.ne_of_lt (Array.getElem?_eq_some_iff.mp hB.1).1).symm
  have c9 : Steps p.tables e below (s₁.setTop (entryFrame m #[.ref a, .ref b, .int (Int32.ofNat o), .int (Int32.ofNat len), .null] 6)) (T8.setTop (mkF m 39 #[.val (.ref a), .val (.ref b), .val (.int (Int32.ofNat o)), .val (.int (Int32.ofNat len)), .val .null, .unset] [.ref s.heap.size])) := g8
  have c10 : Steps p.tables e below (s₁.setTop (entryFrame m #[.ref a, .ref b, .int (Int32.ofNat o), .int (Int32.ofNat len), .null] 6)) (T8.setTop (mkF m 45 #[.val (.ref a), .val (.ref b), .val (.int (Int32.ofNat o)), .val (.int (Int32.ofNat len)), .val .null, .val (.ref s.heap.size)] [.int (Int32.ofNat N.slots.size), .ref s.heap.size, .ref a])) := by
    have hc : Steps p.tables e below (s₁.setTop (entryFrame m #[.ref a, .ref b, .int (Int32.ofNat o), .int (Int32.ofNat len), .null] 6)) (T8.setTop (mkF m 45 #[.val (.ref a), .val (.ref b), .val (.int (Int32.ofNat o)), .val (.int (Int32.ofNat len)), .val .null, .val (.ref s.heap.size)] [.int (Int32.ofNat len), .ref s.heap.size, .ref a])) := c9.trans (by
      refine XS.astore X8.here hexec rfl (hb hbytes d39) rfl rfl rfl ?_
      refine XS.aloadN X8.here hexec rfl (hb hbytes d41) rfl rfl ?_
      refine XS.aload X8.here hexec rfl (hb hbytes d42) rfl rfl ?_
      refine XS.iloadN X8.here hexec rfl (hb hbytes d44) rfl ?_
      exact Steps.refl _)
    rw [n4]; exact hc
  obtain ⟨v11, T11, X11, E11, g11⟩ := X8.callS hexec (CodL.law l s.heap.size N) hown (wks W (staticW "java/lang/String" 47 CodL.yN)) (wk W CodL.tab) (W := 1) (Nat.le_of_ble_eq_true rfl) (Nat.le_of_ble_eq_true rfl) (Nat.le_refl _) (by show 0 + len + 0 ≤ len; omega) (g := (mkF m 45 #[.val (.ref a), .val (.ref b), .val (.int (Int32.ofNat o)), .val (.int (Int32.ofNat len)), .val .null, .val (.ref s.heap.size)] [.int (Int32.ofNat N.slots.size), .ref s.heap.size, .ref a])) rfl (by rw [hml]; rfl) c10 (argsL := [.ref s.heap.size, .int (Int32.ofNat N.slots.size)]) (rest := [.ref a]) rfl rfl (by show 2 * 0 + (1 + 0) ≤ _; decide) (hb hbytes d45) (⟨rfl, n1⟩)
  obtain ⟨rfl, q11⟩ := E11
  have hB11 := hB1.mv (X8.warmed.alike.symm.trans X11.warmed.alike) q11
  have c12 : Steps p.tables e below (s₁.setTop (entryFrame m #[.ref a, .ref b, .int (Int32.ofNat o), .int (Int32.ofNat len), .null] 6)) (T11.setTop (mkF m 48 #[.val (.ref a), .val (.ref b), .val (.int (Int32.ofNat o)), .val (.int (Int32.ofNat len)), .val .null, .val (.ref s.heap.size)] [.int 0, .ref a])) := g11
  obtain ⟨T13, X13, p13, bl13, sl13, st13⟩ := X11.finit hexec hown (wk W (.fieldLink "java/lang/String" 15 "java/lang/String" "coder" "B")) (Or.inr ⟨_, (wk W (.laysFinal "java/lang/String" "java/lang/String" "coder" "B"))⟩) (Or.inl ⟨rfl, hnm⟩) f2 (Or.inl rfl) hB11 (t := .byte) (by decide +kernel) rfl (g := (mkF m 48 #[.val (.ref a), .val (.ref b), .val (.int (Int32.ofNat o)), .val (.int (Int32.ofNat len)), .val .null, .val (.ref s.heap.size)] [.int 0, .ref a])) rfl (rest := []) rfl (hb hbytes d48)
  have c14 : Steps p.tables e below (s₁.setTop (entryFrame m #[.ref a, .ref b, .int (Int32.ofNat o), .int (Int32.ofNat len), .null] 6)) (T13.setTop (mkF m 54 #[.val (.ref a), .val (.ref b), .val (.int (Int32.ofNat o)), .val (.int (Int32.ofNat len)), .val .null, .val (.ref s.heap.size)] [.ref s.heap.size, .ref a])) := (c12.trans (st13 _ (Steps.refl _))).trans (by
    refine XS.aloadN X13.here hexec rfl (hb hbytes d51) rfl rfl ?_
    refine XS.aload X13.here hexec rfl (hb hbytes d52) rfl rfl ?_
    exact Steps.refl _)
  obtain ⟨T15, X15, p15, bl15, sl15, st15⟩ := X13.finit hexec hown (wk W (.fieldLink "java/lang/String" 9 "java/lang/String" "value" "[B")) (Or.inr ⟨_, (wk W (.laysFinal "java/lang/String" "java/lang/String" "value" "[B"))⟩) (Or.inl ⟨rfl, hnm⟩) f1 (Or.inl rfl) bl13 (t := (.array .byte)) (by decide +kernel) rfl (g := (mkF m 54 #[.val (.ref a), .val (.ref b), .val (.int (Int32.ofNat o)), .val (.int (Int32.ofNat len)), .val .null, .val (.ref s.heap.size)] [.ref s.heap.size, .ref a])) rfl (rest := []) rfl (hb hbytes d54)
  have c16 : Steps p.tables e below (s₁.setTop (entryFrame m #[.ref a, .ref b, .int (Int32.ofNat o), .int (Int32.ofNat len), .null] 6)) (T15.setTop (mkF m 57 #[.val (.ref a), .val (.ref b), .val (.int (Int32.ofNat o)), .val (.int (Int32.ofNat len)), .val .null, .val (.ref s.heap.size)] [])) := c14.trans (st15 _ (Steps.refl _))
  have ap := apart (Or.inr ⟨_, (wk W (.laysFinal "java/lang/String" "java/lang/String" "value" "[B"))⟩) (Or.inr ⟨_, (wk W (.laysFinal "java/lang/String" "java/lang/String" "coder" "B"))⟩) f1 f2 (t₁ := .array .byte) (t₂ := .byte) (by decide +kernel) (by decide +kernel) (by decide)
  have al := X8.warmed.alike.symm.trans X15.warmed.alike
  have n7 : T11.heap[s.heap.size]? = some N := by rw [q11]; exact n1.1
  exact ⟨T15, none, _, _, _, X15, by simp, rfl, by omega, (fun _ => rfl), ⟨rfl, _, N, bl15, ((Same.refl D _).set _ (by simp)).set _ (by simp), sl15, (Cell.slots_setSlot_ne _ ap).trans sl13, n1.keep al (p15.other hne (p13.other hne n7)), n2, by rw [al.findClass]; exact n3, n4, n5, fun y c h1 h2 => p15.other h1 (p13.other h1 (by rw [q11]; exact n6 y c h2)), by rw [p15.2.2, p13.2.2, q11]; exact z8⟩, fun fs hl => c16.trans (X15.returnOut hexec hret (hb hbytes d57) hl)⟩
end New4
namespace New1
def yN : MethodName := ⟨"java/lang/String", "<init>", "([C)V"⟩
abbrev yB : ByteArray := jdk_42_method_3_code
theorem d0 : decode yB 0 = .ok (.aload_n 0, 1) := by decide +kernel
theorem d1 : decode yB 1 = .ok (.aload_n 1, 1) := by decide +kernel
theorem d2 : decode yB 2 = .ok (.iconst 0, 1) := by decide +kernel
theorem d3 : decode yB 3 = .ok (.aload_n 1, 1) := by decide +kernel
theorem d4 : decode yB 4 = .ok (.arraylength, 1) := by decide +kernel
theorem d5 : decode yB 5 = .ok (.aconst_null, 1) := by decide +kernel
theorem d6 : decode yB 6 = .ok (.invokespecial 27, 3) := by decide +kernel
theorem d9 : decode yB 9 = .ok (.return_, 1) := by decide +kernel
def site : List Cond := [New4.tab] ++ initW "java/lang/String" 27 New4.yN
def tab : Cond := tabOf yN yB 2 none site
def P (a : Addr) (D : Cell) (fV fC : Field) (b : Addr) (A : Cell) (z : Int32) (args : Array Value) (s : State) : Prop := args = #[.ref a, .ref b] ∧ Blank "java/lang/String" a D s ∧ Found "java/lang/String" "value" "[B" fV s ∧ Found "java/lang/String" "coder" "B" fC s ∧ Ch b A s ∧ StaticIs s "java/lang/String" "COMPACT_STRINGS" "Z" (.int z) ∧ ¬ z = 0 ∧ 0 < A.slots.size ∧ A.slots.size ≤ 536870912 ∧ ∀ i, i < A.slots.size → ¬ 255 < cv A i
def E (a : Addr) (D : Cell) (fV fC : Field) (A : Cell) (r : Option Value) (s u : State) : Prop := Got a D fV fC A 0 A.slots.size r s u
/-- new String(chars), not empty, no char above 255: a Latin-1 String of their low bytes -/
theorem law (l : Launch) (a : Addr) (D : Cell) (fV fC : Field) (b : Addr) (A : Cell) (z : Int32) : Law l yN 2 1 3 52 yB 2 none site (P a D fV fC b A z) (E a D fV fC A) [⟨a, fC.slot⟩, ⟨a, fV.slot⟩] 1 A.slots.size := by
  refine Law.of_walk (plainFor_of_name (by decide +kernel)) (by decide +kernel) (by decide +kernel) (by decide) (fun _ _ h => by rw [h.1]; rfl) (fun _ U U' hal hh h => ⟨h.1, h.2.1.mv hal hh, h.2.2.1.al hal, h.2.2.2.1.al hal, h.2.2.2.2.1.mv hal hh, h.2.2.2.2.2.1.there hal hh, h.2.2.2.2.2.2⟩) (fun r U U' V V' h1 hal h2 h => Got.mv r U U' V V' h1 hal h2 h) ?_
  intro p e s m args below meth c s₁ X0 hexec hbytes hml hret hlk hnm hown hh0 W hP
  obtain ⟨rfl, hB, f1, f2, hA, s1, hz, l0, l2, hp⟩ := hP
  have c1 : Steps p.tables e below (s₁.setTop (entryFrame m #[.ref a, .ref b] 2)) (s₁.setTop (mkF m 0 #[.val (.ref a), .val (.ref b)] [])) := entry rfl
  have c2 : Steps p.tables e below (s₁.setTop (entryFrame m #[.ref a, .ref b] 2)) (s₁.setTop (mkF m 6 #[.val (.ref a), .val (.ref b)] [.null, .int (Int32.ofNat A.slots.size), .int 0, .ref b, .ref a])) := c1.trans (by
    refine XS.aloadN X0.here hexec rfl (hb hbytes d0) rfl rfl ?_
    refine XS.aloadN X0.here hexec rfl (hb hbytes d1) rfl rfl ?_
    refine iconstV X0.here hexec rfl 0 (hb hbytes d2) (by decide) ?_
    refine XS.aloadN X0.here hexec rfl (hb hbytes d3) rfl rfl ?_
    refine X0.alen hexec (hA.1.mv X0.warmed.alike hh0) rfl rfl (hb hbytes d4) ?_
    refine XS.aconstNull X0.here hexec rfl (hb hbytes d5) ?_
    exact Steps.refl _)
  obtain ⟨v3, T3, X3, E3, g3⟩ := X0.callN hexec (New4.law l a D fV fC b A z 0 A.slots.size) rfl hown (wks W (initW "java/lang/String" 27 New4.yN)) (W New4.tab (by simp only [site, List.mem_cons, List.mem_append, true_or, or_true])) (W := 0) (Nat.le_of_ble_eq_true rfl) (Nat.le_of_ble_eq_true rfl) (Nat.le_refl _) (by show 0 + A.slots.size ≤ A.slots.size; omega) (g := (mkF m 6 #[.val (.ref a), .val (.ref b)] [.null, .int (Int32.ofNat A.slots.size), .int (Int32.ofNat 0), .ref b, .ref a])) rfl (by rw [hml]; rfl) c2 (argsL := [.ref b, .int (Int32.ofNat 0), .int (Int32.ofNat A.slots.size), .null]) (rest := []) rfl rfl (by show 2 * 0 + 0 ≤ _; decide) (hb hbytes d6) (⟨rfl, hB.mv X0.warmed.alike hh0, f1.al X0.warmed.alike, f2.al X0.warmed.alike, hA.mv X0.warmed.alike hh0, s1.there X0.warmed.alike hh0, hz, l0, by omega, l2, fun i hi => by rw [Nat.zero_add]; exact hp i hi⟩)
  have e0 := Got.mv _ s₁ s _ _ hh0.symm (Vm.Alike.refl _) rfl E3
  obtain rfl := e0.1
  have c4 : Steps p.tables e below (s₁.setTop (entryFrame m #[.ref a, .ref b] 2)) (T3.setTop (mkF m 9 #[.val (.ref a), .val (.ref b)] [])) := g3
  exact ⟨T3, none, _, _, _, X3, by simp, rfl, by omega, (fun _ => rfl), e0, fun fs hl => c4.trans (X3.returnOut hexec hret (hb hbytes d9) hl)⟩
theorem pays {l : Launch} {R : Room} {p : Program} {e : Env} {below : List Frame} {s : State} {sargs : Array Value} {len W : Nat} (a : Addr) (D : Cell) (fV fC : Field) (b : Addr) (A : Cell) (z : Int32) (htab : tab.before sargs s = true) (hfr : 4 ≤ R.frames) (hlo : W + 65 ≤ R.locals) :
    Back l R p e below s sargs yN len W (fun A₁ a₁ => A₁.cells + 1 ≤ R.cells ∧ A₁.slots + A.slots.size ≤ R.slots ∧ P a D fV fC b A z a₁ A₁.U) (fun A₁ _ v₁ B₁ => E a D fV fC A v₁ A₁.U B₁.U ∧ B₁.locs = A₁.locs ++ [⟨a, fC.slot⟩, ⟨a, fV.slot⟩] ∧ B₁.cells = A₁.cells + 1 ∧ B₁.slots = A₁.slots + A.slots.size) :=
  (law l a D fV fC b A z).pays htab hfr (by omega)
end New1
/-- the byte, read back as charAt reads it, is the char -/
theorem lo8_mask {x : Int32} (h0 : ¬ x < 0) (h1 : ¬ 255 < x) : lo8 x &&& 255 = x := by
  have t : ∀ k : Fin 256, lo8 (Int32.ofNat k.val) &&& 255 = Int32.ofNat k.val := by decide +kernel
  rw [Int32.lt_iff_toInt_lt] at h0 h1
  have e0 : (0 : Int32).toInt = 0 := rfl
  have e1 : (255 : Int32).toInt = 255 := rfl
  obtain ⟨k, hk⟩ : ∃ k : Nat, x.toInt = k := ⟨x.toInt.toNat, by omega⟩
  have hx : x = Int32.ofNat k := Int32.toInt_inj.mp (by rw [hk, Int32.toInt_ofNat_small (by omega)])
  rw [hx]
  exact t ⟨k, by omega⟩
end StrChars
namespace StrChars.Road
open Jvm Sem ClassFile Op Lib Jvm.Stand Jvm.Free Jvm.Free.XT
open Jvm.Lib.Cold (StaticIs)
abbrev ST : String := "java/lang/String"
/-- every table word that New1's law asks, flat -/
abbrev words : List Jvm.Cond := [.code New1.yN New1.yB 2 none, .initialized ST, .methodLink ST 27 New4.yN, .instanceMethod New4.yN,
  .code New4.yN New4.yB 6 none, .fieldLink ST 38 ST "COMPACT_STRINGS" "Z", .laysFinal ST ST "value" "[B", .fieldLink ST 9 ST "value" "[B", .laysFinal ST ST "coder" "B", .fieldLink ST 15 ST "coder" "B",
  .methodLink ST 1 Lib.objectInit, .instanceMethod Lib.objectInit, .code Lib.objectInit ⟨#[0xb1]⟩ 1 none, .methodLink ST 177 Cmp3.yN, .static Cmp3.yN, .methodLink ST 47 CodL.yN, .static CodL.yN,
  .code Cmp3.yN Cmp3.yB 6 (some (.array .byte)), .initialized U16, .arrayClass .byte, .methodLink U16 115 Cmp5.yN, .static Cmp5.yN, .code Cmp5.yN Cmp5.yB 7 (some .int), .code CodL.yN CodL.yB 2 (some .byte)]
theorem tab_of {a : Array Value} {s : State} (h : ∀ w ∈ words, w.before a s = true) : New1.tab.before a s = true := by
  have h5 : Cmp5.tab.before a s = true := unparts (wk h (.code Cmp5.yN Cmp5.yB 7 (some .int))) (wks h (.initialized Cmp5.yN.cls :: Cmp5.site))
  have hc : CodL.tab.before a s = true := unparts (wk h (.code CodL.yN CodL.yB 2 (some .byte))) (wks h (.initialized CodL.yN.cls :: CodL.site))
  have q5 : ∀ w ∈ Cmp5.tab :: words, w.before a s = true := fun w hw => (List.mem_cons.mp hw).elim (fun e => e ▸ h5) (h w)
  have h3 : Cmp3.tab.before a s = true := unparts (wk q5 (.code Cmp3.yN Cmp3.yB 6 (some (.array .byte)))) (wks q5 (.initialized Cmp3.yN.cls :: Cmp3.site))
  have q3 : ∀ w ∈ Cmp3.tab :: CodL.tab :: words, w.before a s = true := fun w hw => (List.mem_cons.mp hw).elim (fun e => e ▸ h3) fun hw => (List.mem_cons.mp hw).elim (fun e => e ▸ hc) (h w)
  have h4 : New4.tab.before a s = true := unparts (wk q3 (.code New4.yN New4.yB 6 none)) (wks q3 (.initialized New4.yN.cls :: New4.site))
  have q4 : ∀ w ∈ New4.tab :: words, w.before a s = true := fun w hw => (List.mem_cons.mp hw).elim (fun e => e ▸ h4) (h w)
  exact unparts (wk q4 (.code New1.yN New1.yB 2 none)) (wks q4 (.initialized New1.yN.cls :: New1.site))
/-- the words ride from the start Z to the walk's own state -/
theorem moved {Z s : State} {a0 args : Array Value} (hZ : Z.Warmed39 s.vm) (hw : ∀ d ∈ words, d.before a0 Z = true) : ∀ d ∈ words, d.before args s = true := fun d hd => by
  have q := hw d hd
  have t : ∀ d ∈ words, d = .arrayClass .byte ∨ (d.onTables && d.keepsFace) = true := by decide +kernel
  rcases t d hd with rfl | t
  · exact RoadKit.mvA hZ q
  · exact RoadKit.mv hZ q t
/-- WHAT COMES BACK, over the tables of the start Z: h the heap at the call, h' behind it -/
def Q (Z : State) (x : Addr) (A : Cell) (h : Heap) (v : Option Value) (h' : Heap) (L : List Loc) : Prop := v = none ∧ (∀ y ∈ L, y.base = x) ∧ RoadKit.Keep h h' [x] ∧ h'.size = h.size + 1 ∧ RoadKit.Exa Z h' x ST ∧ RoadKit.Fld Z h' x ST "value" "[B" (.ref h.size) ∧ RoadKit.Fld Z h' x ST "coder" "B" (.int 0) ∧
  (∃ V : Cell, RoadKit.Arr Z h' h.size V .byte ∧ V.vm = .none ∧ Z.vm.findClass "[B" = some V.cls ∧ V.slots.size = A.slots.size ∧ ∀ j, j < A.slots.size → V.slots[j]? = some (.int (lo8 (cv A j)))) ∧
  ∀ (O n d : String) (w : Value), RoadKit.Fld Z h x O n d w → RoadKit.slotOf Z O n d ≠ RoadKit.slotOf Z ST "value" "[B" → RoadKit.slotOf Z O n d ≠ RoadKit.slotOf Z ST "coder" "B" → RoadKit.Fld Z h' x O n d w
/-- **new String(chars) AT A CALL, IN THE ROAD'S FORM**: for specialBack behind newO: x the fresh String, b the char[] with the cell A -/
theorem back {p : Program} {l : Launch} {e : Env} {R : Room} {s : State} {args : Array Value} {below : List Frame} {len W : Nat} {Z : State} {a0 : Array Value} {h : Heap} (hZ : Z.Warmed39 s.vm) (hw : ∀ d ∈ words, d.before a0 Z = true) {kI : Nat} (wi : (Jvm.Cond.instantiable ST kI).before a0 Z = true)
    {x b : Addr} {A : Cell} {z : Int32} {v0 c0 : Value} (E : RoadKit.Exa Z h x ST) (V : RoadKit.Fld Z h x ST "value" "[B" v0) (C : RoadKit.Fld Z h x ST "coder" "B" c0) (K : RoadKit.Arr Z h b A .char) (hty : Typed .char A) (S : RoadKit.Sta Z h ST "COMPACT_STRINGS" "Z" (.int z)) (hz : ¬ z = 0)
    (l0 : 0 < A.slots.size) (l2 : A.slots.size ≤ 536870912) (hp : ∀ i, i < A.slots.size → ¬ 255 < cv A i) (hfr : 4 ≤ R.frames) (hlo : W + 65 ≤ R.locals) :
    Back l R p e below s args New1.yN len W (fun P a => a = #[.ref x, .ref b] ∧ P.U.heap = h ∧ P.cells + 1 ≤ R.cells ∧ P.slots + A.slots.size ≤ R.slots)
      (fun P _ v B => ∃ L, Q Z x A h v B.U.heap L ∧ B.locs = P.locs ++ L ∧ B.cells = P.cells + 1 ∧ B.slots = P.slots + A.slots.size) := by
  intro m meth c P g ig mk a X hg hsize hdg hW hn hp'
  obtain ⟨rfl, rfl, r1, r2⟩ := hp'
  have al : Z.vm.Alike P.U.vm := hZ.alike.trans X.warmed.alike
  obtain ⟨D, cfV, kV, iV, fV, hD, gV, stV, knV, obV, asV, slV⟩ := id V
  obtain ⟨D', cfC, kC, iC, fC, hD', gC, stC, -, -, asC, slC⟩ := id C
  cases hD.symm.trans hD'
  obtain ⟨D2, kD, e1, e2, e3, e4, e5⟩ := id E
  cases hD.symm.trans e1
  obtain ⟨c2, k2, i1, i2, i3, -⟩ := Cond.instantiable_spec wi
  cases e2.symm.trans i1
  cases e3.symm.trans i2
  obtain ⟨kU, u1, u2⟩ := al.2.2 _ _ e3
  have hB : Blank ST x D P.U := ⟨hD, ⟨knV, fun q hq => by rw [hq] at obV; cases obV⟩, by rw [al.findClass]; exact e2, kU, u1, by rw [u2]; exact i3, by rw [u2]; exact e5 i3⟩
  have F1 : Found ST "value" "[B" fV P.U := ⟨SBG.found_only al ⟨cfV, kV, iV, gV⟩, stV⟩
  have F2 : Found ST "coder" "B" fC P.U := ⟨SBG.found_only al ⟨cfC, kC, iC, gC⟩, stC⟩
  have hA : Ch b A P.U := ⟨⟨K.1, State.isArrayOf_alike al K.2.1, K.2.2, by omega⟩, hty⟩
  have hS : StaticIs P.U ST "COMPACT_STRINGS" "Z" (.int z) := by
    obtain ⟨cfS, iS, kS, fS, st, cS, t1, t2, t3, t4, t5, t6, t7⟩ := S
    exact StaticIs.there (s := { Z with heap := P.U.heap }) ⟨cfS, iS, kS, fS, st, cS, t1, t2, t3, t4, t5, (fun q => by rw [q] at t6; cases t6), t7⟩ al rfl
  obtain ⟨v, B, X', ⟨⟨hv, E', V', q1, q2, q3, q4, q5, q6, q7, q8, q9, q10, q11⟩, hl, hc, hs⟩, st⟩ := New1.pays x D fV fC b A z (tab_of (moved hZ hw)) hfr hlo m meth c P g ig mk _ X hg hsize hdg hW hn ⟨r1, r2, rfl, hB, F1, F2, hA, hS, hz, l0, l2, hp⟩
  have al' : Z.vm.Alike B.U.vm := hZ.alike.trans X'.warmed.alike
  have hsz : E'.slots.size = D.slots.size := by
    obtain ⟨-, -, -, kB, w1, w2, w3⟩ := q1
    obtain ⟨kB', y1, y2⟩ := al'.2.2 _ _ e3
    rw [q2.2.1] at w1
    cases w1.symm.trans y1
    rw [w3, e5 i3, y2]
  refine ⟨v, B, X', ⟨_, ⟨hv, ?_, ⟨by omega, fun y cy hy hn' => q10 y cy (by simpa using hn') hy, fun y cy hy => ?_⟩, q11, ⟨E', _, q1.1, by rw [q2.2.1]; exact e2, by rw [q2.2.1]; exact e3, by rw [q2.1]; exact obV, fun _ => by rw [hsz]; exact e5 i3⟩,
    ⟨E', cfV, kV, iV, fV, q1.1, gV, stV, by rw [q2.1]; exact knV, by rw [q2.1]; exact obV, by rw [q2.2.1]; exact asV, q3⟩, ⟨E', cfC, kC, iC, fC, q1.1, gC, stC, by rw [q2.1]; exact knV, by rw [q2.1]; exact obV, by rw [q2.2.1]; exact asC, q4⟩,
    ⟨V', ⟨q5.1, State.isArrayOf_alike al'.symm q5.2.1, q5.2.2.1⟩, q6, by rw [← al'.findClass]; exact q7, q8, fun j hj => by have := q9 j hj; rwa [Nat.zero_add] at this⟩, fun O n d w F n1 n2 => ?_⟩, hl, hc, hs⟩, st⟩
  · intro y hy
    simp only [List.mem_cons, List.not_mem_nil, or_false] at hy
    rcases hy with rfl | rfl <;> rfl
  · by_cases q : y = x
    · subst q
      cases hD.symm.trans hy
      exact ⟨E', q1.1, q2.2.1, q2.1, hsz⟩
    · exact ⟨cy, q10 y cy q hy, rfl, rfl, rfl⟩
  · obtain ⟨D3, cf, k, i, f, g1, g2, g3, g4, g5, g6, g7⟩ := F
    cases hD.symm.trans g1
    simp only [RoadKit.slotOf, g2, gV, gC, Option.map_some, Option.getD_some] at n1 n2
    exact ⟨E', cf, k, i, f, q1.1, g2, g3, by rw [q2.1]; exact g4, by rw [q2.1]; exact g5, by rw [q2.2.1]; exact g6, by rw [q2.2.2 f.slot (by simp [n1, n2])]; exact g7⟩
end StrChars.Road
namespace StrChars.Road
open Jvm Sem ClassFile Op Lib Jvm.Stand Jvm.Free Jvm.Free.XT
/-- WHAT COMES BACK, the byte[] as a list of values -/
def QA (Z : State) (x : Addr) (zn : Int32) (cs : List Int32) (h : Heap) (v : Option Value) (h' : Heap) (L : List Loc) : Prop := v = none ∧ (∀ y ∈ L, y.base = x) ∧ RoadKit.Keep h h' [x] ∧ h'.size = h.size + 1 ∧ RoadKit.Exa Z h' x ST ∧ RoadKit.Fld Z h' x ST "value" "[B" (.ref h.size) ∧ RoadKit.Fld Z h' x ST "coder" "B" (.int 0) ∧
  (∃ kb, Z.vm.findClass "[B" = some kb ∧ RoadKit.Arv Z h' h.size kb .byte zn (cs.map fun c => .int (lo8 c)) (.int 0)) ∧
  ∀ (O n d : String) (w : Value), RoadKit.Fld Z h x O n d w → RoadKit.slotOf Z O n d ≠ RoadKit.slotOf Z ST "value" "[B" → RoadKit.slotOf Z O n d ≠ RoadKit.slotOf Z ST "coder" "B" → RoadKit.Fld Z h' x O n d w
/-- **new String(chars) AT A CALL, THE ARRAYS AS LISTS**: the char[] at b holds cs, not empty, no char above 255 -/
theorem backArv {p : Program} {l : Launch} {e : Env} {R : Room} {s : State} {args : Array Value} {below : List Frame} {len W : Nat} {Z : State} {a0 : Array Value} {h : Heap} (hZ : Z.Warmed39 s.vm) (hw : ∀ d ∈ words, d.before a0 Z = true) {kI : Nat} (wi : (Jvm.Cond.instantiable ST kI).before a0 Z = true)
    {x b : Addr} {k : ClassId} {zn z : Int32} {cs : List Int32} {dv v0 c0 : Value} (E : RoadKit.Exa Z h x ST) (V : RoadKit.Fld Z h x ST "value" "[B" v0) (C : RoadKit.Fld Z h x ST "coder" "B" c0) (K : RoadKit.Arv Z h b k .char zn (cs.map Value.int) dv) (S : RoadKit.Sta Z h ST "COMPACT_STRINGS" "Z" (.int z)) (hz : ¬ z = 0)
    (hlen : zn.toNatClampNeg = cs.length) (h0 : 0 < cs.length) (hbig : cs.length ≤ 536870912) (hall : ∀ c ∈ cs, ¬ 255 < c) (hfr : 4 ≤ R.frames) (hlo : W + 65 ≤ R.locals) :
    Back l R p e below s args New1.yN len W (fun P a => a = #[.ref x, .ref b] ∧ P.U.heap = h ∧ P.cells + 1 ≤ R.cells ∧ P.slots + cs.length ≤ R.slots)
      (fun P _ v B => ∃ L, QA Z x zn cs h v B.U.heap L ∧ B.locs = P.locs ++ L ∧ B.cells = P.cells + 1 ∧ B.slots = P.slots + cs.length) := by
  obtain ⟨A, K1, K2, K3, K4, K5, K6⟩ := K
  have e : A.slots.size = cs.length := K3.trans hlen
  have hat : ∀ (i : Nat) (hi : i < cs.length), A.slots[i]? = some (.int cs[i]) := fun i hi => by rw [K5 i (by omega)]; simp [List.getD_eq_getElem?_getD, hi]
  have hcv : ∀ (i : Nat) (hi : i < cs.length), cv A i = cs[i] := fun i hi => by unfold cv; rw [hat i hi]
  have hty : Typed .char A := fun i v hv => by
    have hi : i < A.slots.size := (Array.getElem?_eq_some_iff.mp hv).1
    have q := K5 i hi
    rw [hv] at q
    rw [Option.some.inj q]
    exact K6 i hi
  refine Back.mono (back hZ hw wi E V C K1 hty S hz (by omega) (by omega) (fun i hi => by rw [hcv i (by omega)]; exact hall _ (List.getElem_mem _)) hfr hlo) (fun P a hp => ⟨hp.1, hp.2.1, hp.2.2.1, by rw [e]; exact hp.2.2.2⟩) (fun P a v B hp hq => ?_)
  obtain ⟨L, ⟨q1, q2, q3, q4, q5, q6, q7, ⟨V', v1, v2, v3, v4, v5⟩, q9⟩, hl, hc, hs⟩ := hq
  refine ⟨L, ⟨q1, q2, q3, q4, q5, q6, q7, ⟨V'.cls, v3, V', v1, rfl, by rw [v4, e, hlen], K4, fun i hi => ?_, fun i hi => ?_⟩, q9⟩, hl, hc, by rw [hs, e]⟩
  · have hi' : i < cs.length := by omega
    rw [v5 i (by omega), hcv i hi']; simp [List.getD_eq_getElem?_getD, hi']
  · have hi' : i < cs.length := by omega
    simp only [List.getD_eq_getElem?_getD, List.getElem?_map, List.getElem?_eq_getElem hi', Option.map_some, Option.getD_some]
    exact fits_lo8 _
end StrChars.Road
namespace StrChars.Road
open Jvm Sem ClassFile Op Lib Jvm.Stand Jvm.Free Jvm.Free.XT
/-- WHAT COMES BACK, in the writer's own shape -/
def QV (Z : State) (x : Addr) (N : Int32) (bs : List Int32) (h : Heap) (n0 : Nat) (v : Option Value) (h' : Heap) (L : List Loc) : Prop := v = none ∧ RoadKit.Fr n0 L ∧ RoadKit.Keep h h' [x] ∧ RoadKit.Exa Z h' x ST ∧ RoadKit.Fld Z h' x ST "coder" "B" (.int 0) ∧
  ∃ (t : Addr) (kb : ClassId), n0 ≤ t ∧ h.size ≤ t ∧ ¬ t = x ∧ RoadKit.Fld Z h' x ST "value" "[B" (.ref t) ∧ RoadKit.Arv Z h' t kb .byte N (bs.map Value.int) (.int 0)
/-- **new String(chars) AT A CALL, FOR THE WRITER**: a char[] of n known ints, each 0 to 255 -/
theorem backV {p : Program} {l : Launch} {e : Env} {R : Room} {s : State} {args : Array Value} {below : List Frame} {len W : Nat} {Z : State} {a0 : Array Value} {h : Heap} (hZ : Z.Warmed39 s.vm) (hw : ∀ d ∈ words, d.before a0 Z = true) {kI : Nat} (wi : (Jvm.Cond.instantiable ST kI).before a0 Z = true)
    {x b : Addr} {kC : ClassId} {cs bs : List Int32} {d v0 c0 : Value} {z N : Int32} {n n0 : Nat} (hx0 : n0 ≤ x) (hh0 : n0 ≤ h.size) (E : RoadKit.Exa Z h x ST) (V : RoadKit.Fld Z h x ST "value" "[B" v0) (C : RoadKit.Fld Z h x ST "coder" "B" c0) (K : RoadKit.Arv Z h b kC .char N (cs.map Value.int) d) (S : RoadKit.Sta Z h ST "COMPACT_STRINGS" "Z" (.int z)) (hz : ¬ z = 0)
    (hn : cs.length = n) (hN : N = Int32.ofNat n) (l0 : 0 < n) (l2 : n ≤ 4000) (hp : ∀ c ∈ cs, ¬ c < 0 ∧ ¬ (255 : Int32) < c) (hb : bs = cs.map (fun c => c.toInt8.toInt32)) (hfr : 4 ≤ R.frames) (hlo : W + 65 ≤ R.locals) :
    Back l R p e below s args (⟨"java/lang/String", "<init>", "([C)V"⟩ : MethodName) len W (fun P a => a = #[.ref x, .ref b] ∧ P.U.heap = h ∧ P.cells + 1 ≤ R.cells ∧ P.slots + n ≤ R.slots)
      (fun P _ v B => ∃ L, QV Z x N bs h n0 v B.U.heap L ∧ B.locs = P.locs ++ L ∧ B.cells = P.cells + 1 ∧ B.slots = P.slots + n) := by
  subst hn hN hb
  refine Back.mono (backArv hZ hw wi E V C K S hz (n32 (by omega)) l0 (by omega) (fun c hc => (hp c hc).2) hfr hlo) (fun P a hp => hp) (fun P a v B hp hq => ?_)
  obtain ⟨L, ⟨q1, q2, q3, q4, q5, q6, q7, ⟨kb, v1, v2⟩, q9⟩, hl, hc, hs⟩ := hq
  exact ⟨L, ⟨q1, fun y hy => by rw [q2 y hy]; exact hx0, q3, q5, q7, h.size, kb, hh0, Nat.le_refl _, Nat.ne_of_gt E.lt, q6, by rw [List.map_map]; exact v2⟩, hl, hc, hs⟩
end StrChars.Road
namespace StrChars
open Jvm Sem ClassFile Op Lib Jvm.Stand Jvm.Free.XT Jvm.Free.ALB Jvm.Free.JM Jvm.Free
open Jvm.Lib.Cold (StaticIs)
def hi8 (x : Int32) : Int32 := lo8 (x >>> ((8 : Int32) &&& 31))
/-- what StringUTF16.getChar makes of two bytes -/
def pairCh (u v : Int32) : Int32 := (((u &&& 255) <<< ((0 : Int32) &&& 31)) ||| ((v &&& 255) <<< ((8 : Int32) &&& 31))).toUInt32.toUInt16.toUInt32.toInt32
theorem shr0 (c : Int32) : c >>> ((0 : Int32) &&& 31) = c := by
  have e : ((0 : Int32) &&& 31) = 0 := by decide
  rw [e]
  apply Int32.toBitVec_inj.mp
  rw [Int32.toBitVec_shiftRight]
  have e1 : ((0 : Int32).toBitVec.smod 32) = 0#32 := by decide
  rw [e1, BitVec.sshiftRight_eq']
  exact BitVec.sshiftRight_zero
theorem lo8_and (x : Int32) : (lo8 x &&& 255).toBitVec.toNat = x.toBitVec.toNat % 256 := by
  have h : (lo8 x).toBitVec = (x.toBitVec.signExtend 8).signExtend 32 := by rw [lo8, Int8.toBitVec_toInt32, Int32.toBitVec_toInt8]
  rw [Int32.toBitVec_and, BitVec.toNat_and, h]
  have e : ((x.toBitVec.signExtend 8).signExtend 32).toNat % 256 = x.toBitVec.toNat % 256 := by
    rw [BitVec.toNat_signExtend]
    have hlt := x.toBitVec.isLt
    simp only [BitVec.toNat_setWidth, BitVec.toNat_signExtend]
    split <;> split <;> omega
  rw [← e]
  exact Nat.and_two_pow_sub_one_eq_mod _ 8
theorem pair_says {c : Int32} (h0 : ¬ c < 0) (h1 : ¬ 65535 < c) : pairCh (lo8 c) (hi8 c) = c := by
  rw [Int32.lt_iff_toInt_lt] at h0 h1
  have e0 : (0 : Int32).toInt = 0 := rfl
  have e1 : (65535 : Int32).toInt = 65535 := rfl
  have hc : c.toInt = c.toBitVec.toNat := by
    have := c.toBitVec.isLt
    have e : c.toInt = c.toBitVec.toInt := rfl
    rw [e] at h0 h1
    rw [e]
    rw [BitVec.toInt_eq_toNat_cond] at h0 h1 ⊢
    split at h0 <;> split <;> omega
  have hn : c.toBitVec.toNat < 65536 := by omega
  have a1 := lo8_and c
  have a2 : (hi8 c &&& 255).toBitVec.toNat = c.toBitVec.toNat / 256 := by
    rw [hi8, lo8_and]
    have e : ((8 : Int32) &&& 31) = 8 := by decide
    rw [e, Int32.toBitVec_shiftRight]
    have e2 : ((8 : Int32).toBitVec.smod 32) = 8#32 := by decide
    rw [e2, BitVec.sshiftRight_eq', BitVec.toNat_sshiftRight_of_msb_false (by rw [BitVec.msb_eq_false_iff_two_mul_lt]; omega)]
    show c.toBitVec.toNat >>> 8 % 256 = _
    rw [Nat.shiftRight_eq_div_pow]
    omega
  unfold pairCh
  apply Int32.toBitVec_inj.mp
  apply BitVec.eq_of_toNat_eq
  have f0 : ((0 : Int32) &&& 31) = 0 := by decide
  have f8 : ((8 : Int32) &&& 31) = 8 := by decide
  rw [f0, f8]
  have g : (((lo8 c &&& 255) <<< (0 : Int32)) ||| ((hi8 c &&& 255) <<< (8 : Int32))).toBitVec.toNat = c.toBitVec.toNat := by
    rw [Int32.toBitVec_or, Int32.toBitVec_shiftLeft, Int32.toBitVec_shiftLeft]
    have s0 : ((0 : Int32).toBitVec.smod 32) = 0#32 := by decide
    have s8 : ((8 : Int32).toBitVec.smod 32) = 8#32 := by decide
    rw [s0, s8, BitVec.toNat_or]
    simp only [BitVec.shiftLeft_eq', BitVec.toNat_shiftLeft, a1, a2]
    show (c.toBitVec.toNat % 256) <<< 0 % 2 ^ 32 ||| (c.toBitVec.toNat / 256) <<< 8 % 2 ^ 32 = _
    rw [Nat.shiftLeft_zero, Nat.mod_eq_of_lt (show c.toBitVec.toNat % 256 < 2 ^ 32 by omega), Nat.mod_eq_of_lt (show (c.toBitVec.toNat / 256) <<< 8 < 2 ^ 32 by rw [Nat.shiftLeft_eq]; omega), Nat.or_comm, ← Nat.shiftLeft_add_eq_or_of_lt (by omega), Nat.shiftLeft_eq]
    omega
  show BitVec.toNat (((((lo8 c &&& 255) <<< (0 : Int32)) ||| ((hi8 c &&& 255) <<< (8 : Int32))).toBitVec.setWidth 16).setWidth 32) = _
  rw [BitVec.toNat_setWidth, BitVec.toNat_setWidth, g]
  omega
end StrChars
namespace StrChars
open Jvm Sem ClassFile Op Lib Jvm.Stand Jvm.Free.XT Jvm.Free.ALB Jvm.Free.JM Jvm.Free
open Jvm.Lib.Cold (StaticIs)
theorem shr1 {n : Nat} (h : 2 * n < 2 ^ 31) : Int32.ofNat (2 * n) >>> ((1 : Int32) &&& 31) = Int32.ofNat n := by
  have e : ((1 : Int32) &&& 31) = 1 := by decide
  rw [e]
  apply Int32.toBitVec_inj.mp
  rw [Int32.toBitVec_shiftRight]
  have e1 : ((1 : Int32).toBitVec.smod 32) = 1#32 := by decide
  have hm : (BitVec.ofNat 32 (2 * n)).toNat = 2 * n := by rw [BitVec.toNat_ofNat, Nat.mod_eq_of_lt (by omega)]
  rw [e1, BitVec.sshiftRight_eq']
  apply BitVec.eq_of_toNat_eq
  show ((BitVec.ofNat 32 (2 * n)).sshiftRight 1).toNat = (BitVec.ofNat 32 n).toNat
  rw [BitVec.toNat_sshiftRight_of_msb_false (by rw [BitVec.msb_eq_false_iff_two_mul_lt, hm]; omega), hm, BitVec.toNat_ofNat, Nat.shiftRight_eq_div_pow]
  omega
/-- charAt's cast of a byte read back -/
def chr8 (u : Int32) : Int32 := (u &&& 255).toUInt32.toUInt16.toUInt32.toInt32
theorem chr8_lo8 {c : Int32} (h0 : ¬ c < 0) (h1 : ¬ 255 < c) : chr8 (lo8 c) = c := by
  have t : ∀ k : Fin 256, (Int32.ofNat k.val).toUInt32.toUInt16.toUInt32.toInt32 = Int32.ofNat k.val := by decide +kernel
  unfold chr8
  rw [lo8_mask h0 h1]
  rw [Int32.lt_iff_toInt_lt] at h0 h1
  have e0 : (0 : Int32).toInt = 0 := rfl
  have e1 : (255 : Int32).toInt = 255 := rfl
  obtain ⟨k, hk⟩ : ∃ k : Nat, c.toInt = k := ⟨c.toInt.toNat, by omega⟩
  have hx : c = Int32.ofNat k := Int32.toInt_inj.mp (by rw [hk, Int32.toInt_ofNat_small (by omega)])
  rw [hx]
  exact t ⟨k, by omega⟩
theorem narrow_ch {c : Int32} (h0 : ¬ c < 0) (h1 : ¬ 65535 < c) : narrow .char (.int c) = .int c := by
  have q : narrow .char (.int (pairCh (lo8 c) (hi8 c))) = .int (pairCh (lo8 c) (hi8 c)) := narrow_c _
  rwa [pair_says h0 h1] at q
/-- the array's cell V codes the n chars f 0 .. f (n - 1) by the coder cd, as the JDK does: coder 1 just where some char is above 255 -/
def Cod (cd : Int32) (n : Nat) (f : Nat → Int32) (V : Cell) : Prop := (cd = 0 ∧ V.slots.size = n ∧ ∀ j, j < n → V.slots[j]? = some (.int (lo8 (f j))) ∧ ¬ 255 < f j) ∨ (cd = 1 ∧ V.slots.size = 2 * n ∧ (∀ j, j < n → V.slots[2 * j]? = some (.int (lo8 (f j))) ∧ V.slots[2 * j + 1]? = some (.int (hi8 (f j)))) ∧ ∃ j, j < n ∧ 255 < f j)
theorem Cod.cd {cd : Int32} {n : Nat} {f : Nat → Int32} {V : Cell} (h : Cod cd n f V) : cd = 0 ∨ cd = 1 := h.imp (fun q => q.1) fun q => q.1
theorem Cod.len {cd : Int32} {n : Nat} {f : Nat → Int32} {V : Cell} (h : Cod cd n f V) (hs : V.slots.size < 2 ^ 31) : Int32.ofNat V.slots.size >>> (cd &&& 31) = Int32.ofNat n := by
  rcases h with ⟨rfl, h, -⟩ | ⟨rfl, h, -⟩
  · rw [shr0, h]
  · rw [h, shr1 (by omega)]
/-- **x is a String of the n chars f 0 .. f (n - 1)**, Latin-1 or UTF-16; its array at t has the cell V -/
def Txt (x t : Addr) (V : Cell) (cd : Int32) (n : Nat) (f : Nat → Int32) (U : State) : Prop := Exact "java/lang/String" x U ∧ Has x "java/lang/String" "value" "[B" (.ref t) U ∧ Has x "java/lang/String" "coder" "B" (.int cd) U ∧ XT.Arr .byte t V U ∧ Cod cd n f V ∧ ∀ j, j < n → ¬ f j < 0 ∧ ¬ 65535 < f j
theorem Txt.mv {x t : Addr} {V : Cell} {cd : Int32} {n : Nat} {f : Nat → Int32} {U U' : State} (h : Txt x t V cd n f U) (hal : U.vm.Alike U'.vm) (hh : U'.heap = U.heap) : Txt x t V cd n f U' := ⟨h.1.mv hal hh, h.2.1.mv hal hh, h.2.2.1.mv hal hh, h.2.2.2.1.mv hal hh, h.2.2.2.2⟩
namespace Cdr
def yN : MethodName := ⟨"java/lang/String", "coder", "()B"⟩
abbrev yB : ByteArray := jdk_42_method_152_code
theorem d0 : decode yB 0 = .ok (.getstatic 38, 3) := by decide +kernel
theorem d3 : decode yB 3 = .ok (.ifCond (.eq) 10, 3) := by decide +kernel
theorem d6 : decode yB 6 = .ok (.aload_n 0, 1) := by decide +kernel
theorem d7 : decode yB 7 = .ok (.getfield 15, 3) := by decide +kernel
theorem d10 : decode yB 10 = .ok (.goto 4, 3) := by decide +kernel
theorem d14 : decode yB 14 = .ok (.ireturn, 1) := by decide +kernel
def site : List Cond := [.fieldLink "java/lang/String" 38 "java/lang/String" "COMPACT_STRINGS" "Z", .fieldLink "java/lang/String" 15 "java/lang/String" "coder" "B"]
def tab : Cond := tabOf yN yB 1 (some .byte) site
def P (x : Addr) (cd z : Int32) (args : Array Value) (s : State) : Prop := args = #[.ref x] ∧ Has x "java/lang/String" "coder" "B" (.int cd) s ∧ (cd = 0 ∨ cd = 1) ∧ StaticIs s "java/lang/String" "COMPACT_STRINGS" "Z" (.int z) ∧ ¬ z = 0
def E (cd : Int32) (r : Option Value) (s u : State) : Prop := XT.PureE (some (.int cd)) r s u
theorem law (l : Launch) (x : Addr) (cd z : Int32) : Law l yN 1 0 0 0 yB 1 (some .byte) site (P x cd z) (E cd) [] 0 0 := by
  refine Law.of_walk (plainFor_of_name (by decide +kernel)) (by decide +kernel) (by decide +kernel) (by decide) (fun _ _ h => by rw [h.1]; rfl) (fun _ U U' hal hh h => ⟨h.1, h.2.1.mv hal hh, h.2.2.1, h.2.2.2.1.there hal hh, h.2.2.2.2⟩) (fun r U U' V V' h1 hal h2 h => XT.PureE.mv r U U' V V' h1 hal h2 h) ?_
  intro p e s m args below meth c s₁ X0 hexec hbytes hml hret hlk hnm hown hh0 W hP
  obtain ⟨rfl, hx, hc, s1, hz⟩ := hP
  have c1 : Steps p.tables e below (s₁.setTop (entryFrame m #[.ref x] 1)) (s₁.setTop (mkF m 0 #[.val (.ref x)] [])) := entry rfl
  obtain ⟨T2, X2, q2, st2⟩ := X0.sget hexec hown (wk W (.fieldLink "java/lang/String" 38 "java/lang/String" "COMPACT_STRINGS" "Z")) s1 (fun _ _ h => by rw [hh0]; exact h) (g := (mkF m 0 #[.val (.ref x)] [])) rfl (hb hbytes d0)
  have hh2 := q2.trans hh0
  have c3 : Steps p.tables e below (s₁.setTop (entryFrame m #[.ref x] 1)) (T2.setTop (mkF m 7 #[.val (.ref x)] [.ref x])) := (c1.trans (st2 _ (Steps.refl _))).trans (by
    refine XS.ifNo X2.here hexec rfl (hb hbytes d3) rfl (i0_eq_f hz) ?_
    refine XS.aloadN X2.here hexec rfl (hb hbytes d6) rfl rfl ?_
    exact Steps.refl _)
  obtain ⟨T4, X4, q4, st4⟩ := X2.hget hexec hown (wk W (.fieldLink "java/lang/String" 15 "java/lang/String" "coder" "B")) (hx.mv X2.warmed.alike hh2) (g := (mkF m 7 #[.val (.ref x)] [.ref x])) rfl (rest := []) rfl (hb hbytes d7)
  have c5 : Steps p.tables e below (s₁.setTop (entryFrame m #[.ref x] 1)) (T4.setTop (mkF m 14 #[.val (.ref x)] [.int cd])) := (c3.trans (st4 _ (Steps.refl _))).trans (by
    refine XS.goto X4.here hexec rfl (pc0 := 10) rfl (hb hbytes d10) (by decide) rfl ?_
    exact Steps.refl _)
  exact ⟨T4, some (.int cd), _, _, _, X4, rfl, rfl, rfl, (fun h => by cases h), ⟨rfl, q4.trans hh2⟩, fun fs hl => c5.trans (X4.ireturnOut hexec hret (by rcases hc with rfl | rfl <;> rfl) (Or.inr (Or.inr (Or.inl rfl))) (hb hbytes d14) hl)⟩
end Cdr
namespace Len
def yN : MethodName := ⟨"java/lang/String", "length", "()I"⟩
abbrev yB : ByteArray := jdk_42_method_54_code
theorem d0 : decode yB 0 = .ok (.aload_n 0, 1) := by decide +kernel
theorem d1 : decode yB 1 = .ok (.getfield 9, 3) := by decide +kernel
theorem d4 : decode yB 4 = .ok (.arraylength, 1) := by decide +kernel
theorem d5 : decode yB 5 = .ok (.aload_n 0, 1) := by decide +kernel
theorem d6 : decode yB 6 = .ok (.invokevirtual 335, 3) := by decide +kernel
theorem d9 : decode yB 9 = .ok (.ishr, 1) := by decide +kernel
theorem d10 : decode yB 10 = .ok (.ireturn, 1) := by decide +kernel
def site : List Cond := [.fieldLink "java/lang/String" 9 "java/lang/String" "value" "[B", Cdr.tab] ++ virtW "java/lang/String" 335 "java/lang/String" Cdr.yN Cdr.yN
def tab : Cond := tabOf yN yB 1 (some .int) site
def P (x t : Addr) (V : Cell) (cd : Int32) (n : Nat) (f : Nat → Int32) (z : Int32) (args : Array Value) (s : State) : Prop := args = #[.ref x] ∧ Txt x t V cd n f s ∧ StaticIs s "java/lang/String" "COMPACT_STRINGS" "Z" (.int z) ∧ ¬ z = 0
def E (n : Nat) (r : Option Value) (s u : State) : Prop := XT.PureE (some (.int (Int32.ofNat n))) r s u
/-- length() of a String of n chars, in either coding -/
theorem law (l : Launch) (x t : Addr) (V : Cell) (cd : Int32) (n : Nat) (f : Nat → Int32) (z : Int32) : Law l yN 1 0 1 13 yB 1 (some .int) site (P x t V cd n f z) (E n) [] 0 0 := by
  refine Law.of_walk (plainFor_of_name (by decide +kernel)) (by decide +kernel) (by decide +kernel) (by decide) (fun _ _ h => by rw [h.1]; rfl) (fun _ U U' hal hh h => ⟨h.1, h.2.1.mv hal hh, h.2.2.1.there hal hh, h.2.2.2⟩) (fun r U U' V V' h1 hal h2 h => XT.PureE.mv r U U' V V' h1 hal h2 h) ?_
  intro p e s m args below meth c s₁ X0 hexec hbytes hml hret hlk hnm hown hh0 W hP
  obtain ⟨rfl, hx, s1, hz⟩ := hP
  have v31 := hx.2.2.2.1.2.2.2
  have c1 : Steps p.tables e below (s₁.setTop (entryFrame m #[.ref x] 1)) (s₁.setTop (mkF m 1 #[.val (.ref x)] [.ref x])) := Steps.trans (entry rfl) (by
    show Steps p.tables e below (s₁.setTop (mkF m 0 #[.val (.ref x)] [])) _
    refine XS.aloadN X0.here hexec rfl (hb hbytes d0) rfl rfl ?_
    exact Steps.refl _)
  obtain ⟨T2, X2, q2, st2⟩ := X0.hget hexec hown (wk W (.fieldLink "java/lang/String" 9 "java/lang/String" "value" "[B")) (hx.mv X0.warmed.alike hh0).2.1 (g := (mkF m 1 #[.val (.ref x)] [.ref x])) rfl (rest := []) rfl (hb hbytes d1)
  have hh2 := q2.trans hh0
  have hx2 := hx.mv X2.warmed.alike hh2
  have c3 : Steps p.tables e below (s₁.setTop (entryFrame m #[.ref x] 1)) (T2.setTop (mkF m 6 #[.val (.ref x)] [.ref x, .int (Int32.ofNat V.slots.size)])) := (c1.trans (st2 _ (Steps.refl _))).trans (by
    refine X2.alen hexec hx2.2.2.2.1 rfl rfl (hb hbytes d4) ?_
    refine XS.aloadN X2.here hexec rfl (hb hbytes d5) rfl rfl ?_
    exact Steps.refl _)
  obtain ⟨v4, T4, X4, E4, g4⟩ := X2.callV hexec (Cdr.law l x cd z) hown (wks W (virtW "java/lang/String" 335 "java/lang/String" Cdr.yN Cdr.yN)) rfl (by decide) (wk W Cdr.tab) (W := 1) (Nat.le_of_ble_eq_true rfl) (Nat.le_of_ble_eq_true rfl) (Nat.le_refl _) (Nat.le_refl _) (hx2.1.fc X2.warmed.alike) hx2.1.is (g := (mkF m 6 #[.val (.ref x)] [.ref x, .int (Int32.ofNat V.slots.size)])) rfl (by rw [hml]; rfl) c3 (argsL := []) (rest := [.int (Int32.ofNat V.slots.size)]) rfl rfl (by show 2 * 0 + (1 + 0) ≤ _; decide) (hb hbytes d6) (⟨rfl, hx2.2.2.1, hx.2.2.2.2.1.cd, s1.there X2.warmed.alike hh2, hz⟩)
  obtain ⟨rfl, q4⟩ := E4
  have c5 : Steps p.tables e below (s₁.setTop (entryFrame m #[.ref x] 1)) (T4.setTop (mkF m 10 #[.val (.ref x)] [.int (Int32.ofNat V.slots.size >>> (cd &&& 31))])) := Steps.trans g4 (by
    refine ishr X4.here hexec rfl (hb hbytes d9) rfl ?_
    exact Steps.refl _)
  rw [hx.2.2.2.2.1.len v31] at c5
  exact ⟨T4, some (.int (Int32.ofNat n)), _, _, _, X4, rfl, rfl, rfl, (fun h => by cases h), ⟨rfl, q4.trans hh2⟩, fun fs hl => c5.trans (X4.ireturnOut hexec hret rfl (Or.inl rfl) (hb hbytes d10) hl)⟩
theorem pays {l : Launch} {R : Room} {p : Program} {e : Env} {below : List Frame} {s : State} {sargs : Array Value} {len W : Nat} (x t : Addr) (V : Cell) (cd : Int32) (n : Nat) (f : Nat → Int32) (z : Int32) (htab : tab.before sargs s = true) (hfr : 2 ≤ R.frames) (hlo : W + 25 ≤ R.locals) :
    Back l R p e below s sargs yN len W (fun A₁ a₁ => A₁.cells + 0 ≤ R.cells ∧ A₁.slots + 0 ≤ R.slots ∧ P x t V cd n f z a₁ A₁.U) (fun A₁ _ v₁ B₁ => E n v₁ A₁.U B₁.U ∧ B₁.locs = A₁.locs ++ [] ∧ B₁.cells = A₁.cells + 0 ∧ B₁.slots = A₁.slots + 0) :=
  (law l x t V cd n f z).pays htab hfr (by omega)
end Len
namespace IsL
def yN : MethodName := ⟨"java/lang/String", "isLatin1", "()Z"⟩
abbrev yB : ByteArray := jdk_42_method_154_code
theorem d0 : decode yB 0 = .ok (.getstatic 38, 3) := by decide +kernel
theorem d3 : decode yB 3 = .ok (.ifCond (.eq) 14, 3) := by decide +kernel
theorem d6 : decode yB 6 = .ok (.aload_n 0, 1) := by decide +kernel
theorem d7 : decode yB 7 = .ok (.getfield 15, 3) := by decide +kernel
theorem d10 : decode yB 10 = .ok (.ifCond (.ne) 7, 3) := by decide +kernel
theorem d13 : decode yB 13 = .ok (.iconst 1, 1) := by decide +kernel
theorem d14 : decode yB 14 = .ok (.goto 4, 3) := by decide +kernel
theorem d17 : decode yB 17 = .ok (.iconst 0, 1) := by decide +kernel
theorem d18 : decode yB 18 = .ok (.ireturn, 1) := by decide +kernel
def site : List Cond := [.fieldLink "java/lang/String" 38 "java/lang/String" "COMPACT_STRINGS" "Z", .fieldLink "java/lang/String" 15 "java/lang/String" "coder" "B"]
def tab : Cond := tabOf yN yB 1 (some .boolean) site
def P (x : Addr) (cd z : Int32) (args : Array Value) (s : State) : Prop := args = #[.ref x] ∧ Has x "java/lang/String" "coder" "B" (.int cd) s ∧ (cd = 0 ∨ cd = 1) ∧ StaticIs s "java/lang/String" "COMPACT_STRINGS" "Z" (.int z) ∧ ¬ z = 0
def E (cd : Int32) (r : Option Value) (s u : State) : Prop := XT.PureE (some (.int (1 - cd))) r s u
theorem law (l : Launch) (x : Addr) (cd z : Int32) : Law l yN 1 0 0 0 yB 1 (some .boolean) site (P x cd z) (E cd) [] 0 0 := by
  refine Law.of_walk (plainFor_of_name (by decide +kernel)) (by decide +kernel) (by decide +kernel) (by decide) (fun _ _ h => by rw [h.1]; rfl) (fun _ U U' hal hh h => ⟨h.1, h.2.1.mv hal hh, h.2.2.1, h.2.2.2.1.there hal hh, h.2.2.2.2⟩) (fun r U U' V V' h1 hal h2 h => XT.PureE.mv r U U' V V' h1 hal h2 h) ?_
  intro p e s m args below meth c s₁ X0 hexec hbytes hml hret hlk hnm hown hh0 W hP
  obtain ⟨rfl, hx, hc, s1, hz⟩ := hP
  have c1 : Steps p.tables e below (s₁.setTop (entryFrame m #[.ref x] 1)) (s₁.setTop (mkF m 0 #[.val (.ref x)] [])) := entry rfl
  obtain ⟨T2, X2, q2, st2⟩ := X0.sget hexec hown (wk W (.fieldLink "java/lang/String" 38 "java/lang/String" "COMPACT_STRINGS" "Z")) s1 (fun _ _ h => by rw [hh0]; exact h) (g := (mkF m 0 #[.val (.ref x)] [])) rfl (hb hbytes d0)
  have hh2 := q2.trans hh0
  have c3 : Steps p.tables e below (s₁.setTop (entryFrame m #[.ref x] 1)) (T2.setTop (mkF m 7 #[.val (.ref x)] [.ref x])) := (c1.trans (st2 _ (Steps.refl _))).trans (by
    refine XS.ifNo X2.here hexec rfl (hb hbytes d3) rfl (i0_eq_f hz) ?_
    refine XS.aloadN X2.here hexec rfl (hb hbytes d6) rfl rfl ?_
    exact Steps.refl _)
  obtain ⟨T4, X4, q4, st4⟩ := X2.hget hexec hown (wk W (.fieldLink "java/lang/String" 15 "java/lang/String" "coder" "B")) (hx.mv X2.warmed.alike hh2) (g := (mkF m 7 #[.val (.ref x)] [.ref x])) rfl (rest := []) rfl (hb hbytes d7)
  have c5 : Steps p.tables e below (s₁.setTop (entryFrame m #[.ref x] 1)) (T4.setTop (mkF m 10 #[.val (.ref x)] [.int cd])) := c3.trans (st4 _ (Steps.refl _))
  have c6 : Steps p.tables e below (s₁.setTop (entryFrame m #[.ref x] 1)) (T4.setTop (mkF m 18 #[.val (.ref x)] [.int (1 - cd)])) := by
    rcases hc with rfl | rfl
    · exact c5.trans (by
        refine XS.ifNo X4.here hexec rfl (hb hbytes d10) rfl (i0_ne_f rfl) ?_
        refine iconstV X4.here hexec rfl 1 (hb hbytes d13) (by decide) ?_
        refine XS.goto X4.here hexec rfl (pc0 := 14) rfl (hb hbytes d14) (by decide) rfl ?_
        exact Steps.refl _)
    · exact c5.trans (by
        refine XS.ifYes X4.here hexec rfl (pc0 := 10) rfl (hb hbytes d10) rfl (i0_ne_t (by decide)) (by decide) rfl ?_
        refine iconstV X4.here hexec rfl 0 (hb hbytes d17) (by decide) ?_
        exact Steps.refl _)
  exact ⟨T4, some (.int (1 - cd)), _, _, _, X4, rfl, rfl, rfl, (fun h => by cases h), ⟨rfl, q4.trans hh2⟩, fun fs hl => c6.trans (X4.ireturnOut hexec hret (by rcases hc with rfl | rfl <;> rfl) (Or.inr (Or.inl rfl)) (hb hbytes d18) hl)⟩
end IsL
namespace LChA
def yN : MethodName := ⟨"java/lang/StringLatin1", "charAt", "([BI)C"⟩
abbrev yB : ByteArray := jdk_43_method_2_code
theorem d0 : decode yB 0 = .ok (.iload_n 1, 1) := by decide +kernel
theorem d1 : decode yB 1 = .ok (.aload_n 0, 1) := by decide +kernel
theorem d2 : decode yB 2 = .ok (.arraylength, 1) := by decide +kernel
theorem d3 : decode yB 3 = .ok (.invokestatic 9, 3) := by decide +kernel
theorem d6 : decode yB 6 = .ok (.aload_n 0, 1) := by decide +kernel
theorem d7 : decode yB 7 = .ok (.iload_n 1, 1) := by decide +kernel
theorem d8 : decode yB 8 = .ok (.baload, 1) := by decide +kernel
theorem d9 : decode yB 9 = .ok (.sipush 255, 3) := by decide +kernel
theorem d12 : decode yB 12 = .ok (.iand, 1) := by decide +kernel
theorem d13 : decode yB 13 = .ok (.i2c, 1) := by decide +kernel
theorem d14 : decode yB 14 = .ok (.ireturn, 1) := by decide +kernel
def site : List Cond := [JO.Str_checkIndex.tab] ++ staticW "java/lang/StringLatin1" 9 JO.Str_checkIndex.yN
def tab : Cond := tabOf yN yB 2 (some .char) site
def P (t : Addr) (V : Cell) (i : Nat) (u : Int32) (fm : Value) (args : Array Value) (s : State) : Prop := args = #[.ref t, .int (Int32.ofNat i)] ∧ XT.Arr .byte t V s ∧ V.slots[i]? = some (.int u) ∧ (StaticIs s "jdk/internal/util/Preconditions" "SIOOBE_FORMATTER" "Ljava/util/function/BiFunction;" fm ∧ fm.isRef = true)
def E (u : Int32) (r : Option Value) (s w : State) : Prop := XT.PureE (some (.int (chr8 u))) r s w
theorem law (l : Launch) (t : Addr) (V : Cell) (i : Nat) (u : Int32) (fm : Value) : Law l yN 2 2 2 27 yB 2 (some .char) site (P t V i u fm) (E u) [] 0 0 := by
  refine Law.of_walk (plainFor_of_name (by decide +kernel)) (by decide +kernel) (by decide +kernel) (by decide) (fun _ _ h => by rw [h.1]; rfl) (fun _ U U' hal hh h => ⟨h.1, h.2.1.mv hal hh, h.2.2.1, h.2.2.2.1.there hal hh, h.2.2.2.2⟩) (fun r U U' V V' h1 hal h2 h => XT.PureE.mv r U U' V V' h1 hal h2 h) ?_
  intro p e s m args below meth c s₁ X0 hexec hbytes hml hret hlk hnm hown hh0 W hP
  obtain ⟨rfl, hV, hu, s1, rf⟩ := hP
  have v31 := hV.2.2.2
  have hi : i < V.slots.size := (Array.getElem?_eq_some_iff.mp hu).1
  have c1 : Steps p.tables e below (s₁.setTop (entryFrame m #[.ref t, .int (Int32.ofNat i)] 2)) (s₁.setTop (mkF m 0 #[.val (.ref t), .val (.int (Int32.ofNat i))] [])) := entry rfl
  have c2 : Steps p.tables e below (s₁.setTop (entryFrame m #[.ref t, .int (Int32.ofNat i)] 2)) (s₁.setTop (mkF m 3 #[.val (.ref t), .val (.int (Int32.ofNat i))] [.int (Int32.ofNat V.slots.size), .int (Int32.ofNat i)])) := c1.trans (by
    refine XS.iloadN X0.here hexec rfl (hb hbytes d0) rfl ?_
    refine XS.aloadN X0.here hexec rfl (hb hbytes d1) rfl rfl ?_
    refine X0.alen hexec (hV.mv X0.warmed.alike hh0) rfl rfl (hb hbytes d2) ?_
    exact Steps.refl _)
  obtain ⟨v3, T3, X3, E3, g3⟩ := X0.callS hexec (JO.Str_checkIndex.law l (Int32.ofNat i) (Int32.ofNat V.slots.size) fm) hown (wks W (staticW "java/lang/StringLatin1" 9 JO.Str_checkIndex.yN)) (wk W JO.Str_checkIndex.tab) (W := 0) (Nat.le_of_ble_eq_true rfl) (Nat.le_of_ble_eq_true rfl) (Nat.le_refl _) (Nat.le_refl _) (g := (mkF m 3 #[.val (.ref t), .val (.int (Int32.ofNat i))] [.int (Int32.ofNat V.slots.size), .int (Int32.ofNat i)])) rfl (by rw [hml]; rfl) c2 (argsL := [.int (Int32.ofNat i), .int (Int32.ofNat V.slots.size)]) (rest := []) rfl rfl (by show 2 * 0 + 0 ≤ _; decide) (hb hbytes d3) (⟨rfl, rf, s1.there X0.warmed.alike hh0, Int32.ofNat_not_neg (by omega), lt32 v31 hi⟩)
  obtain ⟨rfl, q3⟩ := E3
  have hh3 := q3.trans hh0
  have c4 : Steps p.tables e below (s₁.setTop (entryFrame m #[.ref t, .int (Int32.ofNat i)] 2)) (T3.setTop (mkF m 14 #[.val (.ref t), .val (.int (Int32.ofNat i))] [.int (chr8 u)])) := Steps.trans g3 (by
    refine XS.aloadN X3.here hexec rfl (hb hbytes d6) rfl rfl ?_
    refine XS.iloadN X3.here hexec rfl (hb hbytes d7) rfl ?_
    refine X3.aget hexec (hV.mv X3.warmed.alike hh3) rfl hu rfl rfl (hb hbytes d8) ?_
    refine sipushV X3.here hexec rfl 255 (hb hbytes d9) (by decide) ?_
    refine XS.iand X3.here hexec rfl (hb hbytes d12) rfl ?_
    refine i2c X3.here hexec rfl (hb hbytes d13) rfl ?_
    exact Steps.refl _)
  exact ⟨T3, some (.int (chr8 u)), _, _, _, X3, rfl, rfl, rfl, (fun h => by cases h), ⟨rfl, hh3⟩, fun fs hl => c4.trans (X3.ireturnOut hexec hret (narrow_c _) (Or.inr (Or.inr (Or.inr (Or.inl rfl)))) (hb hbytes d14) hl)⟩
end LChA
end StrChars
namespace StrChars.Road
open Jvm Sem ClassFile Op Lib Jvm.Stand Jvm.Free Jvm.Free.XT
open Jvm.Lib.Cold (StaticIs)
theorem consq {a : Array Value} {s : State} {c : Jvm.Cond} {L : List Jvm.Cond} (h0 : c.before a s = true) (h : ∀ w ∈ L, w.before a s = true) : ∀ w ∈ c :: L, w.before a s = true := fun w hw => (List.mem_cons.mp hw).elim (fun e => e ▸ h0) (h w)
/-- the words of String.length(), either coding -/
abbrev wordsLen : List Jvm.Cond := [.code Len.yN Len.yB 1 (some .int), .initialized ST, .fieldLink ST 9 ST "value" "[B", .fieldLink ST 38 ST "COMPACT_STRINGS" "Z", .fieldLink ST 15 ST "coder" "B", .code Cdr.yN Cdr.yB 1 (some .byte), .methodLink ST 335 Cdr.yN, .declares Cdr.yN, .selects ST Cdr.yN Cdr.yN, .instanceMethod Cdr.yN]
theorem tabLen_of {a : Array Value} {s : State} (h : ∀ w ∈ wordsLen, w.before a s = true) : Len.tab.before a s = true := by
  have hc : Cdr.tab.before a s = true := unparts (wk h (.code Cdr.yN Cdr.yB 1 (some .byte))) (wks h (.initialized Cdr.yN.cls :: Cdr.site))
  have q := consq hc h
  exact unparts (wk q (.code Len.yN Len.yB 1 (some .int))) (wks q (.initialized Len.yN.cls :: Len.site))
theorem movedLen {Z s : State} {a0 args : Array Value} (hZ : Z.Warmed39 s.vm) (hw : ∀ d ∈ wordsLen, d.before a0 Z = true) : ∀ d ∈ wordsLen, d.before args s = true := fun d hd => by
  have q := hw d hd
  have t : ∀ d ∈ wordsLen, d = .arrayClass .byte ∨ (d.onTables && d.keepsFace) = true := by decide +kernel
  rcases t d hd with rfl | t
  · exact RoadKit.mvA hZ q
  · exact RoadKit.mv hZ q t
/-- the bytes of the chars cs, low before high -/
def wideBytes : List Int32 → List Value
  | [] => []
  | c :: cs => .int (lo8 c) :: .int (hi8 c) :: wideBytes cs
theorem wide_lo (d : Value) : ∀ (cs : List Int32) (j : Nat), j < cs.length → (wideBytes cs).getD (2 * j) d = .int (lo8 (cs.getD j 0))
  | [], j, h => absurd h (Nat.not_lt_zero j)
  | c :: cs, 0, _ => rfl
  | c :: cs, j + 1, h => by
    have q := wide_lo d cs j (by simpa using h)
    rw [show 2 * (j + 1) = 2 * j + 1 + 1 from by omega]
    simpa [wideBytes] using q
theorem wide_hi (d : Value) : ∀ (cs : List Int32) (j : Nat), j < cs.length → (wideBytes cs).getD (2 * j + 1) d = .int (hi8 (cs.getD j 0))
  | [], j, h => absurd h (Nat.not_lt_zero j)
  | c :: cs, 0, _ => rfl
  | c :: cs, j + 1, h => by
    have q := wide_hi d cs j (by simpa using h)
    rw [show 2 * (j + 1) + 1 = 2 * j + 1 + 1 + 1 from by omega]
    simpa [wideBytes] using q
theorem low_at (d : Value) (cs : List Int32) (j : Nat) (h : j < cs.length) : (cs.map fun c => Value.int (lo8 c)).getD j d = .int (lo8 (cs.getD j 0)) := by
  simp [List.getD_eq_getElem?_getD, h]
/-- an array of N2 bytes vs codes the chars cs by the coder cd -/
def CodA (cs : List Int32) (cd N2 : Int32) (vs : List Value) : Prop := (cd = 0 ∧ N2 = Int32.ofNat cs.length ∧ vs = (cs.map fun c => Value.int (lo8 c)) ∧ ∀ c ∈ cs, ¬ 255 < c) ∨ (cd = 1 ∧ N2 = Int32.ofNat (2 * cs.length) ∧ vs = wideBytes cs ∧ ∃ c ∈ cs, 255 < c)
theorem CodA.cod {cs : List Int32} {cd N2 : Int32} {vs : List Value} {V : Cell} (h : CodA cs cd N2 vs) (hn : 2 * cs.length < 2 ^ 31) (hs : V.slots.size = N2.toNatClampNeg) (hv : RoadKit.Has V vs (.int 0)) : Cod cd cs.length (fun j => cs.getD j 0) V := by
  rcases h with ⟨rfl, rfl, rfl, h⟩ | ⟨rfl, rfl, rfl, c, hc, hw⟩
  · rw [n32 (by omega)] at hs
    exact Or.inl ⟨rfl, hs, fun j hj => ⟨by rw [hv j (by omega), low_at _ _ _ hj], by
      have e : cs.getD j 0 = cs[j] := by simp [List.getD_eq_getElem?_getD, hj]
      show ¬ 255 < cs.getD j 0
      rw [e]; exact h _ (List.getElem_mem _)⟩⟩
  · rw [n32 (by omega)] at hs
    obtain ⟨j, hj, rfl⟩ := List.getElem_of_mem hc
    exact Or.inr ⟨rfl, hs, fun j hj => ⟨by rw [hv _ (by omega), wide_lo _ _ _ hj], by rw [hv _ (by omega), wide_hi _ _ _ hj]⟩, j, hj, by
      have e : cs.getD j 0 = cs[j] := by simp [List.getD_eq_getElem?_getD, hj]
      show 255 < cs.getD j 0
      rw [e]; exact hw⟩
/-- an object of exactly java/lang/String, its two fields found: as the laws ask it -/
theorem strObj {Z U : State} {a0 : Array Value} {kI : Nat} (wi : (Jvm.Cond.instantiable ST kI).before a0 Z = true) (al : Z.vm.Alike U.vm) {x : Addr} {v0 c0 : Value} (E : RoadKit.Exa Z U.heap x ST) (V : RoadKit.Fld Z U.heap x ST "value" "[B" v0) (C : RoadKit.Fld Z U.heap x ST "coder" "B" c0) :
    ∃ (D : Cell) (fV fC : Field), Blank ST x D U ∧ Found ST "value" "[B" fV U ∧ Found ST "coder" "B" fC U ∧ D.slots[fV.slot]? = some v0 ∧ D.slots[fC.slot]? = some c0 ∧ RoadKit.slotOf Z ST "value" "[B" = fV.slot ∧ RoadKit.slotOf Z ST "coder" "B" = fC.slot := by
  obtain ⟨D, cfV, kV, iV, fV, hD, gV, stV, knV, obV, asV, slV⟩ := V
  obtain ⟨D', cfC, kC, iC, fC, hD', gC, stC, -, -, asC, slC⟩ := C
  cases hD.symm.trans hD'
  obtain ⟨D2, kD, e1, e2, e3, e4, e5⟩ := E
  cases hD.symm.trans e1
  obtain ⟨c2, k2, i1, i2, i3, -⟩ := Cond.instantiable_spec wi
  cases e2.symm.trans i1
  cases e3.symm.trans i2
  obtain ⟨kU, u1, u2⟩ := al.2.2 _ _ e3
  exact ⟨D, fV, fC, ⟨hD, ⟨knV, fun q hq => by rw [hq] at obV; cases obV⟩, by rw [al.findClass]; exact e2, kU, u1, by rw [u2]; exact i3, by rw [u2]; exact e5 i3⟩, ⟨SBG.found_only al ⟨cfV, kV, iV, gV⟩, stV⟩, ⟨SBG.found_only al ⟨cfC, kC, iC, gC⟩, stC⟩, slV, slC, by simp [RoadKit.slotOf, gV], by simp [RoadKit.slotOf, gC]⟩
theorem sta_is {Z U : State} (al : Z.vm.Alike U.vm) {C n d : String} {v : Value} (S : RoadKit.Sta Z U.heap C n d v) : StaticIs U C n d v := by
  obtain ⟨cfS, iS, kS, fS, st, cS, t1, t2, t3, t4, t5, t6, t7⟩ := S
  exact StaticIs.there (s := { Z with heap := U.heap }) ⟨cfS, iS, kS, fS, st, cS, t1, t2, t3, t4, t5, (fun q => by rw [q] at t6; cases t6), t7⟩ al rfl
/-- **length() OF SUCH A STRING** -/
theorem lenW {p : Program} {l : Launch} {e : Env} {R : Room} {s : State} {args : Array Value} {below : List Frame} {len W : Nat} {Z : State} {a0 : Array Value} {h : Heap} (hZ : Z.Warmed39 s.vm) (hw : ∀ d ∈ wordsLen, d.before a0 Z = true) {kI : Nat} (wi : (Jvm.Cond.instantiable ST kI).before a0 Z = true)
    {x t : Addr} {kb : ClassId} {cs : List Int32} {cd N2 z : Int32} {vs : List Value} (E : RoadKit.Exa Z h x ST) (V : RoadKit.Fld Z h x ST "value" "[B" (.ref t)) (C : RoadKit.Fld Z h x ST "coder" "B" (.int cd)) (K : RoadKit.Arv Z h t kb .byte N2 vs (.int 0)) (hc : CodA cs cd N2 vs) (hb : ∀ c ∈ cs, ¬ c < 0 ∧ ¬ (65535 : Int32) < c)
    (S : RoadKit.Sta Z h ST "COMPACT_STRINGS" "Z" (.int z)) (hz : ¬ z = 0) (l2 : cs.length ≤ 4000) (hfr : 2 ≤ R.frames) (hlo : W + 25 ≤ R.locals) :
    Back l R p e below s args (⟨"java/lang/String", "length", "()I"⟩ : MethodName) len W (fun P a => a = #[.ref x] ∧ P.U.heap = h ∧ P.cells + 0 ≤ R.cells ∧ P.slots + 0 ≤ R.slots)
      (fun P _ v B => ∃ L, (v = some (.int (Int32.ofNat cs.length)) ∧ L = [] ∧ B.U.heap = h) ∧ B.locs = P.locs ++ L ∧ B.cells = P.cells + 0 ∧ B.slots = P.slots + 0) := by
  obtain ⟨A, K1, K2, K3, K4, K5, K6⟩ := K
  have hcod := hc.cod (by omega) K3 K5
  intro m meth c P g ig mk a X hg hsize hdg hW hn hp'
  obtain ⟨rfl, rfl, r1, r2⟩ := hp'
  have al : Z.vm.Alike P.U.vm := hZ.alike.trans X.warmed.alike
  obtain ⟨D, fV, fC, hB, F1, F2, g1, g2, -, -⟩ := strObj wi al E V C
  have hx : Txt x t A cd cs.length (fun j => cs.getD j 0) P.U := ⟨⟨_, hB.2.2.1, D, hB.1, rfl, by cases q : D.vm <;> first | rfl | exact absurd q (hB.2.1.2 _)⟩, Has.of hB F1 g1, Has.of hB F2 g2, ⟨K1.1, State.isArrayOf_alike al K1.2.1, K1.2.2, by rcases hcod with ⟨-, q, -⟩ | ⟨-, q, -⟩ <;> omega⟩, hcod, fun j hj => by
    have e : cs.getD j 0 = cs[j] := by simp [List.getD_eq_getElem?_getD, hj]
    show ¬ cs.getD j 0 < 0 ∧ ¬ 65535 < cs.getD j 0
    rw [e]; exact hb _ (List.getElem_mem _)⟩
  obtain ⟨v, B, X', ⟨⟨hv, hh⟩, hl, hk, hs⟩, st⟩ := Len.pays x t A cd cs.length (fun j => cs.getD j 0) z (tabLen_of (movedLen hZ hw)) hfr hlo m meth c P g ig mk _ X hg hsize hdg hW hn ⟨r1, r2, rfl, hx, sta_is al S, hz⟩
  exact ⟨v, B, X', ⟨[], ⟨hv, rfl, hh⟩, hl, hk, hs⟩, st⟩
end StrChars.Road
namespace StrChars
open Jvm Sem ClassFile Op Lib Jvm.Stand Jvm.Free.XT Jvm.Free.ALB Jvm.Free.JM Jvm.Free
open Jvm.Lib.Cold (StaticIs)
/-- what place i of a byte[]'s cell holds -/
def yv (A : Cell) (i : Nat) : Int32 := match A.slots[i]? with | some (.int x) => x | _ => 0
theorem yv_get {a : Addr} {A : Cell} {U : State} (h : XT.Arr .byte a A U) (ht : Typed .byte A) {i : Nat} (hi : i < A.slots.size) : A.slots[i]? = some (.int (yv A i)) := by
  have e := Array.getElem?_eq_getElem hi
  have f := ht i _ e
  unfold yv; rw [e]
  generalize A.slots[i] = v at f
  cases v <;> simp [fits] at f ⊢
/-- the two arrays are equal, place for place -/
def EqC (A B : Cell) : Prop := A.slots.size = B.slots.size ∧ ∀ i, i < A.slots.size → yv A i = yv B i
/-- a boolean that says whether p -/
def Says01 (q : Prop) (r : Option Value) (s u : State) : Prop := ∃ v : Int32, r = some (.int v) ∧ u.heap = s.heap ∧ ((v = 1 ∧ q) ∨ (v = 0 ∧ ¬ q))
theorem Says01.mv {q : Prop} : ∀ r (U U' V V' : State), U'.heap = U.heap → V.vm.Alike V'.vm → V'.heap = V.heap → Says01 q r U V → Says01 q r U' V' :=
  fun r U U' V V' h1 _ h2 ⟨v, a, b, c⟩ => ⟨v, a, by rw [h1, h2]; exact b, c⟩
namespace LEq
def yN : MethodName := ⟨"java/lang/StringLatin1", "equals", "([B[B)Z"⟩
abbrev yB : ByteArray := jdk_43_method_13_code
theorem d0 : decode yB 0 = .ok (.aload_n 0, 1) := by decide +kernel
theorem d1 : decode yB 1 = .ok (.arraylength, 1) := by decide +kernel
theorem d2 : decode yB 2 = .ok (.aload_n 1, 1) := by decide +kernel
theorem d3 : decode yB 3 = .ok (.arraylength, 1) := by decide +kernel
theorem d4 : decode yB 4 = .ok (.if_icmp (.ne) 30, 3) := by decide +kernel
theorem d7 : decode yB 7 = .ok (.iconst 0, 1) := by decide +kernel
theorem d8 : decode yB 8 = .ok (.istore_n 2, 1) := by decide +kernel
theorem d9 : decode yB 9 = .ok (.iload_n 2, 1) := by decide +kernel
theorem d10 : decode yB 10 = .ok (.aload_n 0, 1) := by decide +kernel
theorem d11 : decode yB 11 = .ok (.arraylength, 1) := by decide +kernel
theorem d12 : decode yB 12 = .ok (.if_icmp (.ge) 20, 3) := by decide +kernel
theorem d15 : decode yB 15 = .ok (.aload_n 0, 1) := by decide +kernel
theorem d16 : decode yB 16 = .ok (.iload_n 2, 1) := by decide +kernel
theorem d17 : decode yB 17 = .ok (.baload, 1) := by decide +kernel
theorem d18 : decode yB 18 = .ok (.aload_n 1, 1) := by decide +kernel
theorem d19 : decode yB 19 = .ok (.iload_n 2, 1) := by decide +kernel
theorem d20 : decode yB 20 = .ok (.baload, 1) := by decide +kernel
theorem d21 : decode yB 21 = .ok (.if_icmp (.eq) 5, 3) := by decide +kernel
theorem d24 : decode yB 24 = .ok (.iconst 0, 1) := by decide +kernel
theorem d25 : decode yB 25 = .ok (.ireturn, 1) := by decide +kernel
theorem d26 : decode yB 26 = .ok (.iinc 2 1, 3) := by decide +kernel
theorem d29 : decode yB 29 = .ok (.goto (-20), 3) := by decide +kernel
theorem d32 : decode yB 32 = .ok (.iconst 1, 1) := by decide +kernel
theorem d33 : decode yB 33 = .ok (.ireturn, 1) := by decide +kernel
theorem d34 : decode yB 34 = .ok (.iconst 0, 1) := by decide +kernel
theorem d35 : decode yB 35 = .ok (.ireturn, 1) := by decide +kernel
def site : List Cond := []
def tab : Cond := tabOf yN yB 3 (some .boolean) site
def P (a : Addr) (A : Cell) (b : Addr) (B : Cell) (args : Array Value) (s : State) : Prop := args = #[.ref a, .ref b] ∧ XT.Arr .byte a A s ∧ Typed .byte A ∧ XT.Arr .byte b B s ∧ Typed .byte B
/-- whether two byte[] are equal, place for place -/
theorem law (l : Launch) (a : Addr) (A : Cell) (b : Addr) (B : Cell) : Law l yN 2 2 0 0 yB 3 (some .boolean) site (P a A b B) (Says01 (EqC A B)) [] 0 0 := by
  refine Law.of_walk (plainFor_of_name (by decide +kernel)) (by decide +kernel) (by decide +kernel) (by decide) (fun _ _ h => by rw [h.1]; rfl) (fun _ U U' hal hh h => ⟨h.1, h.2.1.mv hal hh, h.2.2.1, h.2.2.2.1.mv hal hh, h.2.2.2.2⟩) (fun r U U' V V' h1 hal h2 h => Says01.mv r U U' V V' h1 hal h2 h) ?_
  intro p e s m args below meth c s₁ X0 hexec hbytes hml hret hlk hnm hown hh0 W hP
  obtain ⟨rfl, hA, tA, hB, tB⟩ := hP
  have a31 := hA.2.2.2
  have b31 := hB.2.2.2
  have hA0 := hA.mv X0.warmed.alike hh0
  have hB0 := hB.mv X0.warmed.alike hh0
  have c1 : Steps p.tables e below (s₁.setTop (entryFrame m #[.ref a, .ref b] 3)) (s₁.setTop (mkF m 0 #[.val (.ref a), .val (.ref b), .unset] [])) := entry rfl
  have c2 : Steps p.tables e below (s₁.setTop (entryFrame m #[.ref a, .ref b] 3)) (s₁.setTop (mkF m 4 #[.val (.ref a), .val (.ref b), .unset] [.int (Int32.ofNat B.slots.size), .int (Int32.ofNat A.slots.size)])) := c1.trans (by
    refine XS.aloadN X0.here hexec rfl (hb hbytes d0) rfl rfl ?_
    refine X0.alen hexec hA0 rfl rfl (hb hbytes d1) ?_
    refine XS.aloadN X0.here hexec rfl (hb hbytes d2) rfl rfl ?_
    refine X0.alen hexec hB0 rfl rfl (hb hbytes d3) ?_
    exact Steps.refl _)
  by_cases hs : A.slots.size = B.slots.size
  · have c3 : Steps p.tables e below (s₁.setTop (entryFrame m #[.ref a, .ref b] 3)) (s₁.setTop (mkF m 9 #[.val (.ref a), .val (.ref b), .val (.int 0)] [])) := c2.trans (by
      refine XS.icmpNo X0.here hexec rfl (hb hbytes d4) rfl (ii_ne_f (by rw [hs])) ?_
      refine iconstV X0.here hexec rfl 0 (hb hbytes d7) (by decide) ?_
      refine XS.istoreN X0.here hexec rfl (hb hbytes d8) rfl rfl ?_
      exact Steps.refl _)
    have loop : ∀ (r i : Nat), i + r = A.slots.size → (∀ j, j < i → yv A j = yv B j) → Steps p.tables e below (s₁.setTop (entryFrame m #[.ref a, .ref b] 3)) (s₁.setTop (mkF m 9 #[.val (.ref a), .val (.ref b), .val (.int (Int32.ofNat i))] [])) → ∃ (pc : Nat) (Ls : Array Slot) (v : Int32), (pc = 25 ∨ pc = 33) ∧ ((v = 1 ∧ EqC A B) ∨ (v = 0 ∧ ¬ EqC A B)) ∧ Steps p.tables e below (s₁.setTop (entryFrame m #[.ref a, .ref b] 3)) (s₁.setTop (mkF m pc Ls [.int v])) := by
      intro r
      induction r with
      | zero =>
        intro i hi he cl
        exact ⟨33, _, 1, Or.inr rfl, Or.inl ⟨rfl, hs, fun j hj => he j (by omega)⟩, cl.trans (by
          refine XS.iloadN X0.here hexec rfl (hb hbytes d9) rfl ?_
          refine XS.aloadN X0.here hexec rfl (hb hbytes d10) rfl rfl ?_
          refine X0.alen hexec hA0 rfl rfl (hb hbytes d11) ?_
          refine XS.icmpYes X0.here hexec rfl (pc0 := 12) rfl (hb hbytes d12) rfl (ii_ge_t (nlt32 (by omega) (by omega))) (by decide) rfl ?_
          refine iconstV X0.here hexec rfl 1 (hb hbytes d32) (by decide) ?_
          exact Steps.refl _)⟩
      | succ r ih =>
        intro i hi he cl
        have c4 : Steps p.tables e below (s₁.setTop (entryFrame m #[.ref a, .ref b] 3)) (s₁.setTop (mkF m 21 #[.val (.ref a), .val (.ref b), .val (.int (Int32.ofNat i))] [.int (yv B i), .int (yv A i)])) := cl.trans (by
          refine XS.iloadN X0.here hexec rfl (hb hbytes d9) rfl ?_
          refine XS.aloadN X0.here hexec rfl (hb hbytes d10) rfl rfl ?_
          refine X0.alen hexec hA0 rfl rfl (hb hbytes d11) ?_
          refine XS.icmpNo X0.here hexec rfl (hb hbytes d12) rfl (ii_ge_f (lt32 (by omega) (by omega))) ?_
          refine XS.aloadN X0.here hexec rfl (hb hbytes d15) rfl rfl ?_
          refine XS.iloadN X0.here hexec rfl (hb hbytes d16) rfl ?_
          refine X0.aget hexec hA0 rfl (yv_get hA tA (i := i) (by omega)) rfl rfl (hb hbytes d17) ?_
          refine XS.aloadN X0.here hexec rfl (hb hbytes d18) rfl rfl ?_
          refine XS.iloadN X0.here hexec rfl (hb hbytes d19) rfl ?_
          refine X0.aget hexec hB0 rfl (yv_get hB tB (i := i) (by omega)) rfl rfl (hb hbytes d20) ?_
          exact Steps.refl _)
        by_cases hv : yv A i = yv B i
        · have c5 : Steps p.tables e below (s₁.setTop (entryFrame m #[.ref a, .ref b] 3)) (s₁.setTop (mkF m 9 #[.val (.ref a), .val (.ref b), .val (.int (Int32.ofNat i + 1))] [])) := c4.trans (by
            refine XS.icmpYes X0.here hexec rfl (pc0 := 21) rfl (hb hbytes d21) rfl (ii_eq_t hv) (by decide) rfl ?_
            refine iincV X0.here hexec rfl 1 (hb hbytes d26) (by decide) rfl rfl ?_
            refine XS.goto X0.here hexec rfl (pc0 := 29) rfl (hb hbytes d29) (by decide) rfl ?_
            exact Steps.refl _)
          rw [succ32] at c5
          exact ih (i + 1) (by omega) (fun j hj => by
            by_cases e : j = i
            · rw [e]; exact hv
            · exact he j (by omega)) c5
        · exact ⟨25, _, 0, Or.inl rfl, Or.inr ⟨rfl, fun q => hv (q.2 i (by omega))⟩, c4.trans (by
            refine XS.icmpNo X0.here hexec rfl (hb hbytes d21) rfl (ii_eq_f hv) ?_
            refine iconstV X0.here hexec rfl 0 (hb hbytes d24) (by decide) ?_
            exact Steps.refl _)⟩
    obtain ⟨pc, Ls, v, hpc, hv, cz⟩ := loop A.slots.size 0 (by omega) (fun j hj => absurd hj (Nat.not_lt_zero j)) c3
    have nv : narrow .boolean (.int v) = .int v := by rcases hv with ⟨rfl, -⟩ | ⟨rfl, -⟩ <;> rfl
    rcases hpc with rfl | rfl
    · exact ⟨s₁, some (.int v), _, _, _, X0, rfl, rfl, rfl, (fun h => by cases h), ⟨v, rfl, hh0, hv⟩, fun fs hl => cz.trans (X0.ireturnOut hexec hret nv (Or.inr (Or.inl rfl)) (hb hbytes d25) hl)⟩
    · exact ⟨s₁, some (.int v), _, _, _, X0, rfl, rfl, rfl, (fun h => by cases h), ⟨v, rfl, hh0, hv⟩, fun fs hl => cz.trans (X0.ireturnOut hexec hret nv (Or.inr (Or.inl rfl)) (hb hbytes d33) hl)⟩
  · have c3 : Steps p.tables e below (s₁.setTop (entryFrame m #[.ref a, .ref b] 3)) (s₁.setTop (mkF m 35 #[.val (.ref a), .val (.ref b), .unset] [.int 0])) := c2.trans (by
      refine XS.icmpYes X0.here hexec rfl (pc0 := 4) rfl (hb hbytes d4) rfl (ii_ne_t (ne32 a31 b31 hs)) (by decide) rfl ?_
      refine iconstV X0.here hexec rfl 0 (hb hbytes d34) (by decide) ?_
      exact Steps.refl _)
    exact ⟨s₁, some (.int 0), _, _, _, X0, rfl, rfl, rfl, (fun h => by cases h), ⟨0, rfl, hh0, Or.inr ⟨rfl, fun q => hs q.1⟩⟩, fun fs hl => c3.trans (X0.ireturnOut hexec hret rfl (Or.inr (Or.inl rfl)) (hb hbytes d35) hl)⟩
end LEq
theorem Cod.ty {cd : Int32} {n : Nat} {f : Nat → Int32} {V : Cell} (h : Cod cd n f V) : Typed .byte V := fun i v hv => by
  have hi : i < V.slots.size := (Array.getElem?_eq_some_iff.mp hv).1
  rcases h with ⟨-, k1, k2⟩ | ⟨-, k1, k2, -⟩
  · rw [(k2 i (by omega)).1] at hv; cases hv; exact fits_lo8 _
  · rcases Nat.mod_two_eq_zero_or_one i with e | e
    · obtain ⟨j, rfl⟩ : ∃ j, i = 2 * j := ⟨i / 2, by omega⟩
      rw [(k2 j (by omega)).1] at hv; cases hv; exact fits_lo8 _
    · obtain ⟨j, rfl⟩ : ∃ j, i = 2 * j + 1 := ⟨i / 2, by omega⟩
      rw [(k2 j (by omega)).2] at hv; cases hv; exact fits_lo8 _
/-- the same text -/
def SameT (n : Nat) (f : Nat → Int32) (k : Nat) (g : Nat → Int32) : Prop := n = k ∧ ∀ j, j < n → f j = g j
theorem lo8_inj {x y : Int32} (h0 : ¬ x < 0) (h1 : ¬ 255 < x) (k0 : ¬ y < 0) (k1 : ¬ 255 < y) (h : lo8 x = lo8 y) : x = y := by
  rw [← lo8_mask h0 h1, ← lo8_mask k0 k1, h]
/-- arrays coded by one coder are equal just where the texts are -/
theorem Cod.eqv {cd : Int32} {n k : Nat} {f g : Nat → Int32} {V V' : Cell} (h : Cod cd n f V) (h' : Cod cd k g V') (hf : ∀ j, j < n → ¬ f j < 0 ∧ ¬ 65535 < f j) (hg : ∀ j, j < k → ¬ g j < 0 ∧ ¬ 65535 < g j) : EqC V V' ↔ SameT n f k g := by
  have yvv : ∀ {W : Cell} {i : Nat} {x : Int32}, W.slots[i]? = some (.int x) → yv W i = x := fun q => by unfold yv; rw [q]
  rcases h with ⟨rfl, k1, k2⟩ | ⟨rfl, k1, k2, -⟩
  · rcases h' with ⟨-, m1, m2⟩ | ⟨e, -⟩
    · constructor
      · rintro ⟨e1, e2⟩
        refine ⟨by omega, fun j hj => ?_⟩
        have q := e2 j (by omega)
        rw [yvv (k2 j hj).1, yvv (m2 j (by omega)).1] at q
        exact lo8_inj (hf j hj).1 (k2 j hj).2 (hg j (by omega)).1 (m2 j (by omega)).2 q
      · rintro ⟨rfl, e2⟩
        refine ⟨by omega, fun j hj => ?_⟩
        rw [yvv (k2 j (by omega)).1, yvv (m2 j (by omega)).1, e2 j (by omega)]
    · exact absurd e (by decide)
  · rcases h' with ⟨e, -⟩ | ⟨-, m1, m2, -⟩
    · exact absurd e (by decide)
    · constructor
      · rintro ⟨e1, e2⟩
        refine ⟨by omega, fun j hj => ?_⟩
        have q1 := e2 (2 * j) (by omega)
        have q2 := e2 (2 * j + 1) (by omega)
        rw [yvv (k2 j hj).1, yvv (m2 j (by omega)).1] at q1
        rw [yvv (k2 j hj).2, yvv (m2 j (by omega)).2] at q2
        rw [← pair_says (hf j hj).1 (hf j hj).2, ← pair_says (hg j (by omega)).1 (hg j (by omega)).2, q1, q2]
      · rintro ⟨rfl, e2⟩
        refine ⟨by omega, fun i hi => ?_⟩
        rcases Nat.mod_two_eq_zero_or_one i with e | e
        · obtain ⟨j, rfl⟩ : ∃ j, i = 2 * j := ⟨i / 2, by omega⟩
          rw [yvv (k2 j (by omega)).1, yvv (m2 j (by omega)).1, e2 j (by omega)]
        · obtain ⟨j, rfl⟩ : ∃ j, i = 2 * j + 1 := ⟨i / 2, by omega⟩
          rw [yvv (k2 j (by omega)).2, yvv (m2 j (by omega)).2, e2 j (by omega)]
/-- two codings differ: so do the texts -/
theorem Cod.dif {cd cd' : Int32} {n k : Nat} {f g : Nat → Int32} {V V' : Cell} (h : Cod cd n f V) (h' : Cod cd' k g V') (hne : ¬ cd = cd') : ¬ SameT n f k g := by
  rintro ⟨rfl, e⟩
  rcases h with ⟨rfl, -, k2⟩ | ⟨rfl, -, -, j, hj, hw⟩
  · rcases h' with ⟨rfl, -⟩ | ⟨-, -, -, j, hj, hw⟩
    · exact hne rfl
    · exact (k2 j hj).2 (by rw [e j hj]; exact hw)
  · rcases h' with ⟨-, -, m2⟩ | ⟨rfl, -⟩
    · exact (m2 j hj).2 (by rw [← e j hj]; exact hw)
    · exact hne rfl
/-- an object of exactly C is an instance of C -/
theorem cinst {p : Program} {l : Launch} {e : Env} {R : Room} {s : State} {m : MethodId} {args : Array Value} {below : List Frame} {meth : Method} {c : Code} {T : State} {locs : List Loc} {cells slots : Nat} (X : Stand p l e R s m args below meth c T locs cells slots) (hexec : p.tables.exec = Jvm.exec) {own C : String} {index : Nat} (hown : s.vm.findClass own = some m.cls) (hlink : (Cond.classLink own index C).before args s = true) {a : Addr} (hE : Exact C a T)
    {g : JFrame} (hg : g.method = m) {rest : List Value} (hstack : g.stack = .ref a :: rest) (hdg : decode c.code g.pc = .ok (.instanceof index, 3)) :
    ∃ T', Stand p l e R s m args below meth c T' locs cells slots ∧ T'.heap = T.heap ∧ ∀ target, Steps p.tables e below (T'.setTop { g with pc := g.pc + 3, stack := .int 1 :: rest }) target → Steps p.tables e below (T.setTop g) target := by
  obtain ⟨cB, h1, D, h2, h3, h4⟩ := hE
  have h1' : s.vm.findClass C = some cB := by rw [← X.warmed.alike.findClass]; exact h1
  obtain ⟨vm', X', st⟩ := X.instanceofYes hexec hown hlink h2 h4 h1' (by rw [h3]; exact Jvm.Free.SB.assignable_self _ _) hg hstack hdg
  exact ⟨_, X', rfl, st⟩
theorem cself {p : Program} {l : Launch} {e : Env} {R : Room} {s : State} {m : MethodId} {args : Array Value} {below : List Frame} {meth : Method} {c : Code} {T : State} {locs : List Loc} {cells slots : Nat} (X : Stand p l e R s m args below meth c T locs cells slots) (hexec : p.tables.exec = Jvm.exec) {own C : String} {index : Nat} (hown : s.vm.findClass own = some m.cls) (hlink : (Cond.classLink own index C).before args s = true) {a : Addr} (hE : Exact C a T)
    {g : JFrame} (hg : g.method = m) {rest : List Value} (hstack : g.stack = .ref a :: rest) (hdg : decode c.code g.pc = .ok (.checkcast index, 3)) :
    ∃ T', Stand p l e R s m args below meth c T' locs cells slots ∧ T'.heap = T.heap ∧ ∀ target, Steps p.tables e below (T'.setTop { g with pc := g.pc + 3, stack := .ref a :: rest }) target → Steps p.tables e below (T.setTop g) target := by
  obtain ⟨cB, h1, D, h2, h3, h4⟩ := hE
  have h1' : s.vm.findClass C = some cB := by rw [← X.warmed.alike.findClass]; exact h1
  obtain ⟨vm', X', st⟩ := X.checkcastYes hexec hown hlink h2 h4 h1' (by rw [h3]; exact Jvm.Free.SB.assignable_self _ _) hg hstack hdg
  exact ⟨_, X', rfl, fun t h => st t (by rw [← hstack] at h; exact h)⟩
namespace SEq
def yN : MethodName := ⟨"java/lang/String", "equals", "(Ljava/lang/Object;)Z"⟩
abbrev yB : ByteArray := jdk_42_method_66_code
theorem d0 : decode yB 0 = .ok (.aload_n 0, 1) := by decide +kernel
theorem d1 : decode yB 1 = .ok (.aload_n 1, 1) := by decide +kernel
theorem d2 : decode yB 2 = .ok (.if_acmp (.ne) 5, 3) := by decide +kernel
theorem d5 : decode yB 5 = .ok (.iconst 1, 1) := by decide +kernel
theorem d6 : decode yB 6 = .ok (.ireturn, 1) := by decide +kernel
theorem d7 : decode yB 7 = .ok (.aload_n 1, 1) := by decide +kernel
theorem d8 : decode yB 8 = .ok (.instanceof 10, 3) := by decide +kernel
theorem d11 : decode yB 11 = .ok (.ifCond (.eq) 43, 3) := by decide +kernel
theorem d14 : decode yB 14 = .ok (.aload_n 1, 1) := by decide +kernel
theorem d15 : decode yB 15 = .ok (.checkcast 10, 3) := by decide +kernel
theorem d18 : decode yB 18 = .ok (.astore_n 2, 1) := by decide +kernel
theorem d19 : decode yB 19 = .ok (.getstatic 38, 3) := by decide +kernel
theorem d22 : decode yB 22 = .ok (.ifCond (.eq) 14, 3) := by decide +kernel
theorem d25 : decode yB 25 = .ok (.aload_n 0, 1) := by decide +kernel
theorem d26 : decode yB 26 = .ok (.getfield 15, 3) := by decide +kernel
theorem d29 : decode yB 29 = .ok (.aload_n 2, 1) := by decide +kernel
theorem d30 : decode yB 30 = .ok (.getfield 15, 3) := by decide +kernel
theorem d33 : decode yB 33 = .ok (.if_icmp (.ne) 21, 3) := by decide +kernel
theorem d36 : decode yB 36 = .ok (.aload_n 0, 1) := by decide +kernel
theorem d37 : decode yB 37 = .ok (.getfield 9, 3) := by decide +kernel
theorem d40 : decode yB 40 = .ok (.aload_n 2, 1) := by decide +kernel
theorem d41 : decode yB 41 = .ok (.getfield 9, 3) := by decide +kernel
theorem d44 : decode yB 44 = .ok (.invokestatic 541, 3) := by decide +kernel
theorem d47 : decode yB 47 = .ok (.ifCond (.eq) 7, 3) := by decide +kernel
theorem d50 : decode yB 50 = .ok (.iconst 1, 1) := by decide +kernel
theorem d51 : decode yB 51 = .ok (.goto 4, 3) := by decide +kernel
theorem d54 : decode yB 54 = .ok (.iconst 0, 1) := by decide +kernel
theorem d55 : decode yB 55 = .ok (.ireturn, 1) := by decide +kernel
def site : List Cond := [.classLink "java/lang/String" 10 "java/lang/String", .fieldLink "java/lang/String" 38 "java/lang/String" "COMPACT_STRINGS" "Z", .fieldLink "java/lang/String" 15 "java/lang/String" "coder" "B", .fieldLink "java/lang/String" 9 "java/lang/String" "value" "[B", LEq.tab] ++ staticW "java/lang/String" 541 LEq.yN
def tab : Cond := tabOf yN yB 3 (some .boolean) site
def P (x t : Addr) (V : Cell) (cd : Int32) (n : Nat) (f : Nat → Int32) (y t' : Addr) (V' : Cell) (cd' : Int32) (k : Nat) (g : Nat → Int32) (z : Int32) (args : Array Value) (s : State) : Prop := args = #[.ref x, .ref y] ∧ Txt x t V cd n f s ∧ Txt y t' V' cd' k g s ∧ StaticIs s "java/lang/String" "COMPACT_STRINGS" "Z" (.int z) ∧ ¬ z = 0
/-- equals(Object) of two Strings: whether the texts are the same -/
theorem law (l : Launch) (x t : Addr) (V : Cell) (cd : Int32) (n : Nat) (f : Nat → Int32) (y t' : Addr) (V' : Cell) (cd' : Int32) (k : Nat) (g : Nat → Int32) (z : Int32) : Law l yN 2 1 1 14 yB 3 (some .boolean) site (P x t V cd n f y t' V' cd' k g z) (Says01 (SameT n f k g)) [] 0 0 := by
  refine Law.of_walk (plainFor_of_name (by decide +kernel)) (by decide +kernel) (by decide +kernel) (by decide) (fun _ _ h => by rw [h.1]; rfl) (fun _ U U' hal hh h => ⟨h.1, h.2.1.mv hal hh, h.2.2.1.mv hal hh, h.2.2.2.1.there hal hh, h.2.2.2.2⟩) (fun r U U' V V' h1 hal h2 h => Says01.mv r U U' V V' h1 hal h2 h) ?_
  intro p e s m args below meth c s₁ X0 hexec hbytes hml hret hlk hnm hown hh0 W hP
  obtain ⟨rfl, hx, hy, s1, hz⟩ := hP
  have c1 : Steps p.tables e below (s₁.setTop (entryFrame m #[.ref x, .ref y] 3)) (s₁.setTop (mkF m 2 #[.val (.ref x), .val (.ref y), .unset] [.ref y, .ref x])) := Steps.trans (entry rfl) (by
    show Steps p.tables e below (s₁.setTop (mkF m 0 #[.val (.ref x), .val (.ref y), .unset] [])) _
    refine XS.aloadN X0.here hexec rfl (hb hbytes d0) rfl rfl ?_
    refine XS.aloadN X0.here hexec rfl (hb hbytes d1) rfl rfl ?_
    exact Steps.refl _)
  by_cases hxy : x = y
  · have c2 : Steps p.tables e below (s₁.setTop (entryFrame m #[.ref x, .ref y] 3)) (s₁.setTop (mkF m 6 #[.val (.ref x), .val (.ref y), .unset] [.int 1])) := c1.trans (by
      refine acmpNo X0.here hexec rfl (hb hbytes d2) rfl rfl rfl (by simp [acmp, hxy]) ?_
      refine iconstV X0.here hexec rfl 1 (hb hbytes d5) (by decide) ?_
      exact Steps.refl _)
    subst hxy
    have ec : cd = cd' := by
      obtain ⟨D, fd, a1, a2, a3⟩ := hx.2.2.1
      obtain ⟨D', fd', b1, b2, b3⟩ := hy.2.2.1
      cases a1.symm.trans b1
      obtain ⟨q1, q2, q3, q4⟩ := a2.1
      obtain ⟨r1, r2, r3, r4⟩ := b2.1
      cases q4.symm.trans r4
      cases a3.symm.trans b3; rfl
    have et : t = t' := by
      obtain ⟨D, fd, a1, a2, a3⟩ := hx.2.1
      obtain ⟨D', fd', b1, b2, b3⟩ := hy.2.1
      cases a1.symm.trans b1
      obtain ⟨q1, q2, q3, q4⟩ := a2.1
      obtain ⟨r1, r2, r3, r4⟩ := b2.1
      cases q4.symm.trans r4
      cases a3.symm.trans b3; rfl
    subst ec et
    have ev : V = V' := by cases hx.2.2.2.1.1.symm.trans hy.2.2.2.1.1; rfl
    subst ev
    have hs : SameT n f k g := (Cod.eqv hx.2.2.2.2.1 hy.2.2.2.2.1 hx.2.2.2.2.2 hy.2.2.2.2.2).mp ⟨rfl, fun _ _ => rfl⟩
    exact ⟨s₁, some (.int 1), _, _, _, X0, rfl, rfl, rfl, (fun h => by cases h), ⟨1, rfl, hh0, Or.inl ⟨rfl, hs⟩⟩, fun fs hl => c2.trans (X0.ireturnOut hexec hret rfl (Or.inr (Or.inl rfl)) (hb hbytes d6) hl)⟩
  · have c2 : Steps p.tables e below (s₁.setTop (entryFrame m #[.ref x, .ref y] 3)) (s₁.setTop (mkF m 8 #[.val (.ref x), .val (.ref y), .unset] [.ref y])) := c1.trans (by
      refine acmpYes X0.here hexec rfl (pc0 := 2) rfl (hb hbytes d2) rfl rfl rfl (by simp [acmp, hxy]) (by decide) rfl ?_
      refine XS.aloadN X0.here hexec rfl (hb hbytes d7) rfl rfl ?_
      exact Steps.refl _)
    obtain ⟨T3, X3, q3, st3⟩ := cinst X0 hexec hown (wk W (.classLink "java/lang/String" 10 "java/lang/String")) (hy.mv X0.warmed.alike hh0).1 (g := (mkF m 8 #[.val (.ref x), .val (.ref y), .unset] [.ref y])) rfl (rest := []) rfl (hb hbytes d8)
    have hh3 := q3.trans hh0
    have c4 : Steps p.tables e below (s₁.setTop (entryFrame m #[.ref x, .ref y] 3)) (T3.setTop (mkF m 15 #[.val (.ref x), .val (.ref y), .unset] [.ref y])) := (c2.trans (st3 _ (Steps.refl _))).trans (by
      refine XS.ifNo X3.here hexec rfl (hb hbytes d11) rfl (i0_eq_f (by decide)) ?_
      refine XS.aloadN X3.here hexec rfl (hb hbytes d14) rfl rfl ?_
      exact Steps.refl _)
    obtain ⟨T5, X5, q5, st5⟩ := cself X3 hexec hown (wk W (.classLink "java/lang/String" 10 "java/lang/String")) (hy.mv X3.warmed.alike hh3).1 (g := (mkF m 15 #[.val (.ref x), .val (.ref y), .unset] [.ref y])) rfl (rest := []) rfl (hb hbytes d15)
    have hh5 := q5.trans hh3
    have c6 : Steps p.tables e below (s₁.setTop (entryFrame m #[.ref x, .ref y] 3)) (T5.setTop (mkF m 19 #[.val (.ref x), .val (.ref y), .val (.ref y)] [])) := (c4.trans (st5 _ (Steps.refl _))).trans (by
      refine XS.astoreN X5.here hexec rfl (hb hbytes d18) rfl rfl rfl ?_
      exact Steps.refl _)
    obtain ⟨T7, X7, q7, st7⟩ := X5.sget hexec hown (wk W (.fieldLink "java/lang/String" 38 "java/lang/String" "COMPACT_STRINGS" "Z")) s1 (fun _ _ h => by rw [hh5]; exact h) (g := (mkF m 19 #[.val (.ref x), .val (.ref y), .val (.ref y)] [])) rfl (hb hbytes d19)
    have hh7 := q7.trans hh5
    have c8 : Steps p.tables e below (s₁.setTop (entryFrame m #[.ref x, .ref y] 3)) (T7.setTop (mkF m 26 #[.val (.ref x), .val (.ref y), .val (.ref y)] [.ref x])) := (c6.trans (st7 _ (Steps.refl _))).trans (by
      refine XS.ifNo X7.here hexec rfl (hb hbytes d22) rfl (i0_eq_f hz) ?_
      refine XS.aloadN X7.here hexec rfl (hb hbytes d25) rfl rfl ?_
      exact Steps.refl _)
    obtain ⟨T9, X9, q9, st9⟩ := X7.hget hexec hown (wk W (.fieldLink "java/lang/String" 15 "java/lang/String" "coder" "B")) (hx.mv X7.warmed.alike hh7).2.2.1 (g := (mkF m 26 #[.val (.ref x), .val (.ref y), .val (.ref y)] [.ref x])) rfl (rest := []) rfl (hb hbytes d26)
    have hh9 := q9.trans hh7
    have c10 : Steps p.tables e below (s₁.setTop (entryFrame m #[.ref x, .ref y] 3)) (T9.setTop (mkF m 30 #[.val (.ref x), .val (.ref y), .val (.ref y)] [.ref y, .int cd])) := (c8.trans (st9 _ (Steps.refl _))).trans (by
      refine XS.aloadN X9.here hexec rfl (hb hbytes d29) rfl rfl ?_
      exact Steps.refl _)
    obtain ⟨T11, X11, q11, st11⟩ := X9.hget hexec hown (wk W (.fieldLink "java/lang/String" 15 "java/lang/String" "coder" "B")) (hy.mv X9.warmed.alike hh9).2.2.1 (g := (mkF m 30 #[.val (.ref x), .val (.ref y), .val (.ref y)] [.ref y, .int cd])) rfl (rest := [.int cd]) rfl (hb hbytes d30)
    have hh11 := q11.trans hh9
    have c12 : Steps p.tables e below (s₁.setTop (entryFrame m #[.ref x, .ref y] 3)) (T11.setTop (mkF m 33 #[.val (.ref x), .val (.ref y), .val (.ref y)] [.int cd', .int cd])) := c10.trans (st11 _ (Steps.refl _))
    by_cases hcd : cd = cd'
    · subst hcd
      have c13 : Steps p.tables e below (s₁.setTop (entryFrame m #[.ref x, .ref y] 3)) (T11.setTop (mkF m 37 #[.val (.ref x), .val (.ref y), .val (.ref y)] [.ref x])) := c12.trans (by
        refine XS.icmpNo X11.here hexec rfl (hb hbytes d33) rfl (ii_ne_f rfl) ?_
        refine XS.aloadN X11.here hexec rfl (hb hbytes d36) rfl rfl ?_
        exact Steps.refl _)
      obtain ⟨T14, X14, q14, st14⟩ := X11.hget hexec hown (wk W (.fieldLink "java/lang/String" 9 "java/lang/String" "value" "[B")) (hx.mv X11.warmed.alike hh11).2.1 (g := (mkF m 37 #[.val (.ref x), .val (.ref y), .val (.ref y)] [.ref x])) rfl (rest := []) rfl (hb hbytes d37)
      have hh14 := q14.trans hh11
      have c15 : Steps p.tables e below (s₁.setTop (entryFrame m #[.ref x, .ref y] 3)) (T14.setTop (mkF m 41 #[.val (.ref x), .val (.ref y), .val (.ref y)] [.ref y, .ref t])) := (c13.trans (st14 _ (Steps.refl _))).trans (by
        refine XS.aloadN X14.here hexec rfl (hb hbytes d40) rfl rfl ?_
        exact Steps.refl _)
      obtain ⟨T16, X16, q16, st16⟩ := X14.hget hexec hown (wk W (.fieldLink "java/lang/String" 9 "java/lang/String" "value" "[B")) (hy.mv X14.warmed.alike hh14).2.1 (g := (mkF m 41 #[.val (.ref x), .val (.ref y), .val (.ref y)] [.ref y, .ref t])) rfl (rest := [.ref t]) rfl (hb hbytes d41)
      have hh16 := q16.trans hh14
      have c17 : Steps p.tables e below (s₁.setTop (entryFrame m #[.ref x, .ref y] 3)) (T16.setTop (mkF m 44 #[.val (.ref x), .val (.ref y), .val (.ref y)] [.ref t', .ref t])) := c15.trans (st16 _ (Steps.refl _))
      obtain ⟨v18, T18, X18, E18, g18⟩ := X16.callS hexec (LEq.law l t V t' V') hown (wks W (staticW "java/lang/String" 541 LEq.yN)) (wk W LEq.tab) (W := 0) (Nat.le_of_ble_eq_true rfl) (Nat.le_of_ble_eq_true rfl) (Nat.le_refl _) (Nat.le_refl _) (g := (mkF m 44 #[.val (.ref x), .val (.ref y), .val (.ref y)] [.ref t', .ref t])) rfl (by rw [hml]; rfl) c17 (argsL := [.ref t, .ref t']) (rest := []) rfl rfl (by show 2 * 0 + 0 ≤ _; decide) (hb hbytes d44) (⟨rfl, hx.2.2.2.1.mv X16.warmed.alike hh16, hx.2.2.2.2.1.ty, hy.2.2.2.1.mv X16.warmed.alike hh16, hy.2.2.2.2.1.ty⟩)
      obtain ⟨v, rfl, q18, hv⟩ := E18
      have iff := Cod.eqv hx.2.2.2.2.1 hy.2.2.2.2.1 hx.2.2.2.2.2 hy.2.2.2.2.2
      rcases hv with ⟨rfl, he⟩ | ⟨rfl, he⟩
      · have c19 : Steps p.tables e below (s₁.setTop (entryFrame m #[.ref x, .ref y] 3)) (T18.setTop (mkF m 55 #[.val (.ref x), .val (.ref y), .val (.ref y)] [.int 1])) := Steps.trans g18 (by
          refine XS.ifNo X18.here hexec rfl (hb hbytes d47) rfl (i0_eq_f (by decide)) ?_
          refine iconstV X18.here hexec rfl 1 (hb hbytes d50) (by decide) ?_
          refine XS.goto X18.here hexec rfl (pc0 := 51) rfl (hb hbytes d51) (by decide) rfl ?_
          exact Steps.refl _)
        exact ⟨T18, some (.int 1), _, _, _, X18, rfl, rfl, rfl, (fun h => by cases h), ⟨1, rfl, q18.trans hh16, Or.inl ⟨rfl, iff.mp he⟩⟩, fun fs hl => c19.trans (X18.ireturnOut hexec hret rfl (Or.inr (Or.inl rfl)) (hb hbytes d55) hl)⟩
      · have c19 : Steps p.tables e below (s₁.setTop (entryFrame m #[.ref x, .ref y] 3)) (T18.setTop (mkF m 55 #[.val (.ref x), .val (.ref y), .val (.ref y)] [.int 0])) := Steps.trans g18 (by
          refine XS.ifYes X18.here hexec rfl (pc0 := 47) rfl (hb hbytes d47) rfl (i0_eq_t rfl) (by decide) rfl ?_
          refine iconstV X18.here hexec rfl 0 (hb hbytes d54) (by decide) ?_
          exact Steps.refl _)
        exact ⟨T18, some (.int 0), _, _, _, X18, rfl, rfl, rfl, (fun h => by cases h), ⟨0, rfl, q18.trans hh16, Or.inr ⟨rfl, fun q => he (iff.mpr q)⟩⟩, fun fs hl => c19.trans (X18.ireturnOut hexec hret rfl (Or.inr (Or.inl rfl)) (hb hbytes d55) hl)⟩
    · have c13 : Steps p.tables e below (s₁.setTop (entryFrame m #[.ref x, .ref y] 3)) (T11.setTop (mkF m 55 #[.val (.ref x), .val (.ref y), .val (.ref y)] [.int 0])) := c12.trans (by
        refine XS.icmpYes X11.here hexec rfl (pc0 := 33) rfl (hb hbytes d33) rfl (ii_ne_t hcd) (by decide) rfl ?_
        refine iconstV X11.here hexec rfl 0 (hb hbytes d54) (by decide) ?_
        exact Steps.refl _)
      exact ⟨T11, some (.int 0), _, _, _, X11, rfl, rfl, rfl, (fun h => by cases h), ⟨0, rfl, hh11, Or.inr ⟨rfl, Cod.dif hx.2.2.2.2.1 hy.2.2.2.2.1 hcd⟩⟩, fun fs hl => c13.trans (X11.ireturnOut hexec hret rfl (Or.inr (Or.inl rfl)) (hb hbytes d55) hl)⟩
theorem pays {l : Launch} {R : Room} {p : Program} {e : Env} {below : List Frame} {s : State} {sargs : Array Value} {len W : Nat} (x t : Addr) (V : Cell) (cd : Int32) (n : Nat) (f : Nat → Int32) (y t' : Addr) (V' : Cell) (cd' : Int32) (k : Nat) (g : Nat → Int32) (z : Int32) (htab : tab.before sargs s = true) (hfr : 2 ≤ R.frames) (hlo : W + 28 ≤ R.locals) :
    Back l R p e below s sargs yN len W (fun A₁ a₁ => A₁.cells + 0 ≤ R.cells ∧ A₁.slots + 0 ≤ R.slots ∧ P x t V cd n f y t' V' cd' k g z a₁ A₁.U) (fun A₁ _ v₁ B₁ => Says01 (SameT n f k g) v₁ A₁.U B₁.U ∧ B₁.locs = A₁.locs ++ [] ∧ B₁.cells = A₁.cells + 0 ∧ B₁.slots = A₁.slots + 0) :=
  (law l x t V cd n f y t' V' cd' k g z).pays htab hfr (by omega)
end SEq
end StrChars
namespace StrChars.Road
open Jvm Sem ClassFile Op Lib Jvm.Stand Jvm.Free Jvm.Free.XT
open Jvm.Lib.Cold (StaticIs)
/-- the words of String.equals(Object) -/
abbrev wordsEq : List Jvm.Cond := [.code SEq.yN SEq.yB 3 (some .boolean), .initialized ST, .classLink ST 10 ST, .fieldLink ST 38 ST "COMPACT_STRINGS" "Z", .fieldLink ST 15 ST "coder" "B", .fieldLink ST 9 ST "value" "[B", .methodLink ST 541 LEq.yN, .static LEq.yN, .code LEq.yN LEq.yB 3 (some .boolean), .initialized "java/lang/StringLatin1"]
theorem tabEq_of {a : Array Value} {s : State} (h : ∀ w ∈ wordsEq, w.before a s = true) : SEq.tab.before a s = true := by
  have hl : LEq.tab.before a s = true := unparts (wk h (.code LEq.yN LEq.yB 3 (some .boolean))) (wks h (.initialized LEq.yN.cls :: LEq.site))
  have q := consq hl h
  exact unparts (wk q (.code SEq.yN SEq.yB 3 (some .boolean))) (wks q (.initialized SEq.yN.cls :: SEq.site))
theorem movedEq {Z s : State} {a0 args : Array Value} (hZ : Z.Warmed39 s.vm) (hw : ∀ d ∈ wordsEq, d.before a0 Z = true) : ∀ d ∈ wordsEq, d.before args s = true := fun d hd => by
  have t : ∀ d ∈ wordsEq, (d.onTables && d.keepsFace) = true := by decide +kernel
  exact RoadKit.mv hZ (hw d hd) (t d hd)
/-- the road's facts of a String, as the laws ask it -/
theorem txt_of {Z U : State} {a0 : Array Value} {kI : Nat} (wi : (Jvm.Cond.instantiable ST kI).before a0 Z = true) (al : Z.vm.Alike U.vm) {x t : Addr} {kb : ClassId} {cs : List Int32} {cd N2 : Int32} {vs : List Value} (E : RoadKit.Exa Z U.heap x ST) (V : RoadKit.Fld Z U.heap x ST "value" "[B" (.ref t)) (C : RoadKit.Fld Z U.heap x ST "coder" "B" (.int cd)) (K : RoadKit.Arv Z U.heap t kb .byte N2 vs (.int 0)) (hc : CodA cs cd N2 vs) (hb : ∀ c ∈ cs, ¬ c < 0 ∧ ¬ (65535 : Int32) < c) (l2 : cs.length ≤ 4000) :
    ∃ A, Txt x t A cd cs.length (fun j => cs.getD j 0) U := by
  obtain ⟨A, K1, K2, K3, K4, K5, K6⟩ := K
  have hcod := hc.cod (by omega) K3 K5
  obtain ⟨D, fV, fC, hB, F1, F2, g1, g2, -, -⟩ := strObj wi al E V C
  exact ⟨A, ⟨_, hB.2.2.1, D, hB.1, rfl, by cases q : D.vm <;> first | rfl | exact absurd q (hB.2.1.2 _)⟩, Has.of hB F1 g1, Has.of hB F2 g2, ⟨K1.1, State.isArrayOf_alike al K1.2.1, K1.2.2, by rcases hcod with ⟨-, q, -⟩ | ⟨-, q, -⟩ <;> omega⟩, hcod, fun j hj => by
    have e : cs.getD j 0 = cs[j] := by simp [List.getD_eq_getElem?_getD, hj]
    show ¬ cs.getD j 0 < 0 ∧ ¬ 65535 < cs.getD j 0
    rw [e]; exact hb _ (List.getElem_mem _)⟩
theorem same_list (cs ds : List Int32) : SameT cs.length (fun j => cs.getD j 0) ds.length (fun j => ds.getD j 0) ↔ cs = ds := by
  constructor
  · rintro ⟨e, q⟩
    refine List.ext_getElem e fun j h1 h2 => ?_
    have := q j h1
    simpa [List.getD_eq_getElem?_getD, h1, h2] using this
  · rintro rfl
    exact ⟨rfl, fun _ _ => rfl⟩
/-- **equals(Object) OF TWO SUCH STRINGS**: 1 just where the chars are the same -/
theorem eqW {p : Program} {l : Launch} {e : Env} {R : Room} {s : State} {args : Array Value} {below : List Frame} {len W : Nat} {Z : State} {a0 : Array Value} {h : Heap} (hZ : Z.Warmed39 s.vm) (hw : ∀ d ∈ wordsEq, d.before a0 Z = true) {kI : Nat} (wi : (Jvm.Cond.instantiable ST kI).before a0 Z = true)
    {x t : Addr} {kb : ClassId} {cs : List Int32} {cd N2 : Int32} {vs : List Value} (E : RoadKit.Exa Z h x ST) (V : RoadKit.Fld Z h x ST "value" "[B" (.ref t)) (C : RoadKit.Fld Z h x ST "coder" "B" (.int cd)) (K : RoadKit.Arv Z h t kb .byte N2 vs (.int 0)) (hc : CodA cs cd N2 vs) (hb : ∀ c ∈ cs, ¬ c < 0 ∧ ¬ (65535 : Int32) < c) (l2 : cs.length ≤ 4000)
    {y t' : Addr} {kb' : ClassId} {ds : List Int32} {cd' N2' : Int32} {vs' : List Value} (E' : RoadKit.Exa Z h y ST) (V' : RoadKit.Fld Z h y ST "value" "[B" (.ref t')) (C' : RoadKit.Fld Z h y ST "coder" "B" (.int cd')) (K' : RoadKit.Arv Z h t' kb' .byte N2' vs' (.int 0)) (hc' : CodA ds cd' N2' vs') (hb' : ∀ c ∈ ds, ¬ c < 0 ∧ ¬ (65535 : Int32) < c) (l2' : ds.length ≤ 4000)
    {z : Int32} (S : RoadKit.Sta Z h ST "COMPACT_STRINGS" "Z" (.int z)) (hz : ¬ z = 0) (hfr : 2 ≤ R.frames) (hlo : W + 28 ≤ R.locals) :
    Back l R p e below s args (⟨"java/lang/String", "equals", "(Ljava/lang/Object;)Z"⟩ : MethodName) len W (fun P a => a = #[.ref x, .ref y] ∧ P.U.heap = h ∧ P.cells + 0 ≤ R.cells ∧ P.slots + 0 ≤ R.slots)
      (fun P _ v B => ∃ L, (((v = some (.int 1) ∧ cs = ds) ∨ (v = some (.int 0) ∧ ¬ cs = ds)) ∧ L = [] ∧ B.U.heap = h) ∧ B.locs = P.locs ++ L ∧ B.cells = P.cells + 0 ∧ B.slots = P.slots + 0) := by
  intro m meth c P g ig mk a X hg hsize hdg hW hn hp'
  obtain ⟨rfl, rfl, r1, r2⟩ := hp'
  have al : Z.vm.Alike P.U.vm := hZ.alike.trans X.warmed.alike
  obtain ⟨A, hx⟩ := txt_of wi al E V C K hc hb l2
  obtain ⟨A', hy⟩ := txt_of wi al E' V' C' K' hc' hb' l2'
  obtain ⟨v, B, X', ⟨⟨w, hv, hh, hq⟩, hl, hk, hs⟩, st⟩ := SEq.pays x t A cd cs.length (fun j => cs.getD j 0) y t' A' cd' ds.length (fun j => ds.getD j 0) z (tabEq_of (movedEq hZ hw)) hfr hlo m meth c P g ig mk _ X hg hsize hdg hW hn ⟨r1, r2, rfl, hx, hy, sta_is al S, hz⟩
  refine ⟨v, B, X', ⟨[], ⟨?_, rfl, hh⟩, hl, hk, hs⟩, st⟩
  rcases hq with ⟨rfl, q⟩ | ⟨rfl, q⟩
  · exact Or.inl ⟨hv, (same_list cs ds).mp q⟩
  · exact Or.inr ⟨hv, fun e => q ((same_list cs ds).mpr e)⟩
end StrChars.Road
namespace StrChars
open Jvm Sem ClassFile Op Lib Jvm.Stand Jvm.Free.XT Jvm.Free.ALB Jvm.Free.JM Jvm.Free
open Jvm.Lib.Cold (StaticIs)
namespace ChN
def yN : MethodName := ⟨"java/lang/String", "charAt", "(I)C"⟩
abbrev yB : ByteArray := jdk_42_method_56_code
theorem d0 : decode yB 0 = .ok (.aload_n 0, 1) := by decide +kernel
theorem d1 : decode yB 1 = .ok (.invokevirtual 492, 3) := by decide +kernel
theorem d4 : decode yB 4 = .ok (.ifCond (.eq) 12, 3) := by decide +kernel
theorem d7 : decode yB 7 = .ok (.aload_n 0, 1) := by decide +kernel
theorem d8 : decode yB 8 = .ok (.getfield 9, 3) := by decide +kernel
theorem d11 : decode yB 11 = .ok (.iload_n 1, 1) := by decide +kernel
theorem d12 : decode yB 12 = .ok (.invokestatic 495, 3) := by decide +kernel
theorem d15 : decode yB 15 = .ok (.ireturn, 1) := by decide +kernel
def site : List Cond := [.fieldLink "java/lang/String" 9 "java/lang/String" "value" "[B", IsL.tab, LChA.tab] ++ virtW "java/lang/String" 492 "java/lang/String" IsL.yN IsL.yN ++ staticW "java/lang/String" 495 LChA.yN
def tab : Cond := tabOf yN yB 2 (some .char) site
def P (x t : Addr) (V : Cell) (n : Nat) (f : Nat → Int32) (z : Int32) (fm : Value) (i : Nat) (args : Array Value) (s : State) : Prop := args = #[.ref x, .int (Int32.ofNat i)] ∧ Txt x t V 0 n f s ∧ i < n ∧ StaticIs s "java/lang/String" "COMPACT_STRINGS" "Z" (.int z) ∧ ¬ z = 0 ∧ StaticIs s "jdk/internal/util/Preconditions" "SIOOBE_FORMATTER" "Ljava/util/function/BiFunction;" fm ∧ fm.isRef = true
def E (f : Nat → Int32) (i : Nat) (r : Option Value) (s u : State) : Prop := XT.PureE (some (.int (f i))) r s u
/-- charAt(i) of a Latin-1 String of n chars, i < n: f i -/
theorem law (l : Launch) (x t : Addr) (V : Cell) (n : Nat) (f : Nat → Int32) (z : Int32) (fm : Value) (i : Nat) : Law l yN 2 1 3 40 yB 2 (some .char) site (P x t V n f z fm i) (E f i) [] 0 0 := by
  refine Law.of_walk (plainFor_of_name (by decide +kernel)) (by decide +kernel) (by decide +kernel) (by decide) (fun _ _ h => by rw [h.1]; rfl) (fun _ U U' hal hh h => ⟨h.1, h.2.1.mv hal hh, h.2.2.1, h.2.2.2.1.there hal hh, h.2.2.2.2.1, h.2.2.2.2.2.1.there hal hh, h.2.2.2.2.2.2⟩) (fun r U U' V V' h1 hal h2 h => XT.PureE.mv r U U' V V' h1 hal h2 h) ?_
  intro p e s m args below meth c s₁ X0 hexec hbytes hml hret hlk hnm hown hh0 W hP
  obtain ⟨rfl, hx, hi, s1, hz, s3, rf⟩ := hP
  have v31 := hx.2.2.2.1.2.2.2
  have hr := hx.2.2.2.2.2 i hi
  have hx0 := hx.mv X0.warmed.alike hh0
  have c1 : Steps p.tables e below (s₁.setTop (entryFrame m #[.ref x, .int (Int32.ofNat i)] 2)) (s₁.setTop (mkF m 1 #[.val (.ref x), .val (.int (Int32.ofNat i))] [.ref x])) := Steps.trans (entry rfl) (by
    show Steps p.tables e below (s₁.setTop (mkF m 0 #[.val (.ref x), .val (.int (Int32.ofNat i))] [])) _
    refine XS.aloadN X0.here hexec rfl (hb hbytes d0) rfl rfl ?_
    exact Steps.refl _)
  obtain ⟨v2, T2, X2, E2, g2⟩ := X0.callV hexec (IsL.law l x 0 z) hown (wks W (virtW "java/lang/String" 492 "java/lang/String" IsL.yN IsL.yN)) rfl (by decide) (wk W IsL.tab) (W := 0) (Nat.le_of_ble_eq_true rfl) (Nat.le_of_ble_eq_true rfl) (Nat.le_refl _) (Nat.le_refl _) (hx0.1.fc X0.warmed.alike) hx0.1.is (g := (mkF m 1 #[.val (.ref x), .val (.int (Int32.ofNat i))] [.ref x])) rfl (by rw [hml]; rfl) c1 (argsL := []) (rest := []) rfl rfl (by show 2 * 0 + 0 ≤ _; decide) (hb hbytes d1) (⟨rfl, hx0.2.2.1, hx.2.2.2.2.1.cd, s1.there X0.warmed.alike hh0, hz⟩)
  obtain ⟨rfl, q2⟩ := E2
  have hh2 := q2.trans hh0
  have hx2 := hx.mv X2.warmed.alike hh2
  obtain ⟨-, k1, k2⟩ | ⟨k0, -⟩ := hx.2.2.2.2.1
  · have c3 : Steps p.tables e below (s₁.setTop (entryFrame m #[.ref x, .int (Int32.ofNat i)] 2)) (T2.setTop (mkF m 8 #[.val (.ref x), .val (.int (Int32.ofNat i))] [.ref x])) := Steps.trans g2 (by
      refine XS.ifNo X2.here hexec rfl (hb hbytes d4) rfl (i0_eq_f (by decide)) ?_
      refine XS.aloadN X2.here hexec rfl (hb hbytes d7) rfl rfl ?_
      exact Steps.refl _)
    obtain ⟨T4, X4, q4, st4⟩ := X2.hget hexec hown (wk W (.fieldLink "java/lang/String" 9 "java/lang/String" "value" "[B")) hx2.2.1 (g := (mkF m 8 #[.val (.ref x), .val (.int (Int32.ofNat i))] [.ref x])) rfl (rest := []) rfl (hb hbytes d8)
    have hh4 := q4.trans hh2
    have c5 : Steps p.tables e below (s₁.setTop (entryFrame m #[.ref x, .int (Int32.ofNat i)] 2)) (T4.setTop (mkF m 12 #[.val (.ref x), .val (.int (Int32.ofNat i))] [.int (Int32.ofNat i), .ref t])) := (c3.trans (st4 _ (Steps.refl _))).trans (by
      refine XS.iloadN X4.here hexec rfl (hb hbytes d11) rfl ?_
      exact Steps.refl _)
    obtain ⟨v6, T6, X6, E6, g6⟩ := X4.callS hexec (LChA.law l t V i (lo8 (f i)) fm) hown (wks W (staticW "java/lang/String" 495 LChA.yN)) (wk W LChA.tab) (W := 0) (Nat.le_of_ble_eq_true rfl) (Nat.le_of_ble_eq_true rfl) (Nat.le_refl _) (Nat.le_refl _) (g := (mkF m 12 #[.val (.ref x), .val (.int (Int32.ofNat i))] [.int (Int32.ofNat i), .ref t])) rfl (by rw [hml]; rfl) c5 (argsL := [.ref t, .int (Int32.ofNat i)]) (rest := []) rfl rfl (by show 2 * 0 + 0 ≤ _; decide) (hb hbytes d12) (⟨rfl, hx.2.2.2.1.mv X4.warmed.alike hh4, (k2 i hi).1, s3.there X4.warmed.alike hh4, rf⟩)
    obtain ⟨rfl, q6⟩ := E6
    rw [chr8_lo8 hr.1 (k2 i hi).2] at g6
    exact ⟨T6, some (.int (f i)), _, _, _, X6, rfl, rfl, rfl, (fun h => by cases h), ⟨rfl, q6.trans hh4⟩, fun fs hl => Steps.trans g6 (X6.ireturnOut hexec hret (narrow_ch hr.1 hr.2) (Or.inr (Or.inr (Or.inr (Or.inl rfl)))) (hb hbytes d15) hl)⟩
  · exact absurd k0 (by decide)
theorem pays {l : Launch} {R : Room} {p : Program} {e : Env} {below : List Frame} {s : State} {sargs : Array Value} {len W : Nat} (x t : Addr) (V : Cell) (n : Nat) (f : Nat → Int32) (z : Int32) (fm : Value) (i : Nat) (htab : tab.before sargs s = true) (hfr : 4 ≤ R.frames) (hlo : W + 53 ≤ R.locals) :
    Back l R p e below s sargs yN len W (fun A₁ a₁ => A₁.cells + 0 ≤ R.cells ∧ A₁.slots + 0 ≤ R.slots ∧ P x t V n f z fm i a₁ A₁.U) (fun A₁ _ v₁ B₁ => E f i v₁ A₁.U B₁.U ∧ B₁.locs = A₁.locs ++ [] ∧ B₁.cells = A₁.cells + 0 ∧ B₁.slots = A₁.slots + 0) :=
  (law l x t V n f z fm i).pays htab hfr (by omega)
end ChN
end StrChars
namespace StrChars.Road
open Jvm Sem ClassFile Op Lib Jvm.Stand Jvm.Free Jvm.Free.XT
open Jvm.Lib.Cold (StaticIs)
/-- the words of String.charAt(int), the Latin-1 road alone -/
abbrev wordsChN : List Jvm.Cond := [.code ChN.yN ChN.yB 2 (some .char), .initialized ST, .fieldLink ST 9 ST "value" "[B", .fieldLink ST 38 ST "COMPACT_STRINGS" "Z", .fieldLink ST 15 ST "coder" "B", .code IsL.yN IsL.yB 1 (some .boolean), .methodLink ST 492 IsL.yN, .declares IsL.yN, .selects ST IsL.yN IsL.yN, .instanceMethod IsL.yN,
  .methodLink ST 495 LChA.yN, .static LChA.yN, .code LChA.yN LChA.yB 2 (some .char), .initialized "java/lang/StringLatin1", .methodLink "java/lang/StringLatin1" 9 JO.Str_checkIndex.yN, .static JO.Str_checkIndex.yN, .code JO.Str_checkIndex.yN JO.Str_checkIndex.yB 2 none,
  .fieldLink ST 1053 "jdk/internal/util/Preconditions" "SIOOBE_FORMATTER" "Ljava/util/function/BiFunction;", .methodLink ST 1059 JC.PreCheck.yN, .static JC.PreCheck.yN, .code JC.PreCheck.yN JC.PreCheck.yB 3 (some .int), .initialized "jdk/internal/util/Preconditions"]
theorem tabChN_of {a : Array Value} {s : State} (h : ∀ w ∈ wordsChN, w.before a s = true) : ChN.tab.before a s = true := by
  have hp : JC.PreCheck.tab.before a s = true := unparts (wk h (.code JC.PreCheck.yN JC.PreCheck.yB 3 (some .int))) (wks h (.initialized JC.PreCheck.yN.cls :: JC.PreCheck.site))
  have qk := consq hp h
  have hk : JO.Str_checkIndex.tab.before a s = true := unparts (wk qk (.code JO.Str_checkIndex.yN JO.Str_checkIndex.yB 2 none)) (wks qk (.initialized JO.Str_checkIndex.yN.cls :: JO.Str_checkIndex.site))
  have ql := consq hk h
  have hl : LChA.tab.before a s = true := unparts (wk ql (.code LChA.yN LChA.yB 2 (some .char))) (wks ql (.initialized LChA.yN.cls :: LChA.site))
  have hi : IsL.tab.before a s = true := unparts (wk h (.code IsL.yN IsL.yB 1 (some .boolean))) (wks h (.initialized IsL.yN.cls :: IsL.site))
  have q := consq hi (consq hl h)
  exact unparts (wk q (.code ChN.yN ChN.yB 2 (some .char))) (wks q (.initialized ChN.yN.cls :: ChN.site))
theorem movedChN {Z s : State} {a0 args : Array Value} (hZ : Z.Warmed39 s.vm) (hw : ∀ d ∈ wordsChN, d.before a0 Z = true) : ∀ d ∈ wordsChN, d.before args s = true := fun d hd => by
  have t : ∀ d ∈ wordsChN, (d.onTables && d.keepsFace) = true := by decide +kernel
  exact RoadKit.mv hZ (hw d hd) (t d hd)
/-- **charAt(i) OF A LATIN-1 STRING**, i < n: the char -/
theorem chN {p : Program} {l : Launch} {e : Env} {R : Room} {s : State} {args : Array Value} {below : List Frame} {len W : Nat} {Z : State} {a0 : Array Value} {h : Heap} (hZ : Z.Warmed39 s.vm) (hw : ∀ d ∈ wordsChN, d.before a0 Z = true) {kI : Nat} (wi : (Jvm.Cond.instantiable ST kI).before a0 Z = true)
    {x t : Addr} {kb : ClassId} {cs : List Int32} {N2 z : Int32} {vs : List Value} {fm : Value} {i : Nat} {j : Int32} (E : RoadKit.Exa Z h x ST) (V : RoadKit.Fld Z h x ST "value" "[B" (.ref t)) (C : RoadKit.Fld Z h x ST "coder" "B" (.int 0)) (K : RoadKit.Arv Z h t kb .byte N2 vs (.int 0)) (hc : CodA cs 0 N2 vs) (hb : ∀ c ∈ cs, ¬ c < 0 ∧ ¬ (65535 : Int32) < c)
    (S : RoadKit.Sta Z h ST "COMPACT_STRINGS" "Z" (.int z)) (hz : ¬ z = 0) (F : RoadKit.Sta Z h "jdk/internal/util/Preconditions" "SIOOBE_FORMATTER" "Ljava/util/function/BiFunction;" fm) (rf : fm.isRef = true) (l2 : cs.length ≤ 4000) (hi : i < cs.length) (hj : j = Int32.ofNat i) (hfr : 4 ≤ R.frames) (hlo : W + 53 ≤ R.locals) :
    Back l R p e below s args (⟨"java/lang/String", "charAt", "(I)C"⟩ : MethodName) len W (fun P a => a = #[.ref x, .int j] ∧ P.U.heap = h ∧ P.cells + 0 ≤ R.cells ∧ P.slots + 0 ≤ R.slots)
      (fun P _ v B => ∃ L, (v = some (.int (cs.getD i 0)) ∧ L = [] ∧ B.U.heap = h) ∧ B.locs = P.locs ++ L ∧ B.cells = P.cells + 0 ∧ B.slots = P.slots + 0) := by
  subst hj
  intro m meth c P g ig mk a X hg hsize hdg hW hn hp'
  obtain ⟨rfl, rfl, r1, r2⟩ := hp'
  have al : Z.vm.Alike P.U.vm := hZ.alike.trans X.warmed.alike
  obtain ⟨A, hx⟩ := txt_of wi al E V C K hc hb l2
  obtain ⟨v, B, X', ⟨⟨hv, hh⟩, hl, hk, hs⟩, st⟩ := ChN.pays x t A cs.length (fun j => cs.getD j 0) z fm i (tabChN_of (movedChN hZ hw)) hfr hlo m meth c P g ig mk _ X hg hsize hdg hW hn ⟨r1, r2, rfl, hx, hi, sta_is al S, hz, sta_is al F, rf⟩
  exact ⟨v, B, X', ⟨[], ⟨hv, rfl, hh⟩, hl, hk, hs⟩, st⟩
/-- what backV says of its String, as the contracts of this text ask it: cs's low bytes, coder 0 -/
theorem codOf {cs : List Int32} {n : Nat} (hn : cs.length = n) (hb : ∀ c ∈ cs, ¬ 255 < c) : CodA cs 0 (Int32.ofNat n) ((cs.map lo8).map Value.int) := Or.inl ⟨rfl, by rw [hn], by simp [List.map_map, Function.comp_def], hb⟩
end StrChars.Road
end Jvm.Pilot.@@N@@
namespace Jvm.Pilot.@@N@@
open Jvm Jvm.ClassFile Sem Op Lib Jvm.Free Jvm.Stand Jvm.LawKit Jvm.RoadKit Bundle Jvm.Pilot.@@N@@.Jvm.D
/-! own kit, part A: a walk as a goal (Go), the world of a walk (Wd), contracts (Met) -/
section OwnA
variable {p : Program} {l : Launch} {e : Env} {R : Room} {s : State} {m : MethodId} {args : Array Value} {below : List Frame} {meth : Method} {c : Code} {T T' : State} {h h' : Heap} {Z : State} {a0 : Array Value} {EL : List (String × Nat)} {own : String} {k n : Nat} {P : Outcome → State → Prop} {F : List Addr}
/-- what a walk owes from here -/
def Go (p : Program) (e : Env) (below : List Frame) (P : Outcome → State → Prop) (T : State) (g : JFrame) : Prop :=
  ∃ t o, Steps p.tables e below (T.setTop g) t ∧ t.status = .running ∧ Ended t below o ∧ P o t
theorem Go.st {g g' : JFrame} (K : Go p e below P T' g') (st : ∀ target, Steps p.tables e below (T'.setTop g') target → Steps p.tables e below (T.setTop g) target) : Go p e below P T g := by
  obtain ⟨t, o, h1, h2⟩ := K
  exact ⟨t, o, st t h1, h2⟩
theorem Go.tr {g g' : JFrame} (K : Go p e below P T' g') (st : Steps p.tables e below (T.setTop g) (T'.setTop g')) : Go p e below P T g := by
  obtain ⟨t, o, h1, h2⟩ := K
  exact ⟨t, o, st.trans h1, h2⟩
/-- an address that the walk may write -/
def Wok (Z : State) (F : List Addr) (h : Heap) (a : Addr) : Prop := Z.heap.size ≤ a ∧ (a ∈ F ∨ (∃ C, Exa Z h a C ∧ C ≠ "java/lang/String" ∧ C ≠ "[B") ∨ ∃ cl ty, Arr Z h a cl ty ∧ ty ≠ .byte)
/-- the world of a walk -/
def Wd (p : Program) (l : Launch) (e : Env) (R : Room) (s : State) (m : MethodId) (args : Array Value) (below : List Frame) (meth : Method) (c : Code) (Z : State) (a0 : Array Value) (EL : List (String × Nat)) (own : String) (F : List Addr) (T : State) (h : Heap) (k n : Nat) : Prop :=
  p.tables.exec = Jvm.exec ∧ Ext Z.heap h ∧ EW Z a0 EL ∧ meth.locks = false ∧
    ∃ (vm0 : Vm) (k0 : Nat) (locs : List Loc), Stand p l e R (s.setVm vm0) m args below meth c T locs k n ∧ Z.Warmed39 vm0 ∧ vm0.findClass own = some m.cls ∧ T.heap = h ∧ s.Since vm0 k0 ∧ k0 ≤ h.size ∧ CHr Z EL s.vm s.heap vm0 h ∧ Fr Z.heap.size locs ∧ (EL = [] → s.WarmedH vm0) ∧ ∀ x ∈ F, x < h.size ∧ Safe Z EL vm0 h x
theorem Wd.here (W : Wd p l e R s m args below meth c Z a0 EL own F T h k n) : At T m c below := by
  obtain ⟨-, -, -, -, vm0, k0, locs, X, -⟩ := W; exact X.here
theorem Wd.hx (W : Wd p l e R s m args below meth c Z a0 EL own F T h k n) : p.tables.exec = Jvm.exec := W.1
theorem Wd.old (W : Wd p l e R s m args below meth c Z a0 EL own F T h k n) : Ext Z.heap h := W.2.1
theorem Wd.hEL (W : Wd p l e R s m args below meth c Z a0 EL own F T h k n) : EW Z a0 EL := W.2.2.1
theorem Wd.safeOf {vm0 : Vm} (hal : Z.vm.Alike vm0) (hF : ∀ x ∈ F, x < h.size ∧ Safe Z EL vm0 h x) {a : Addr} (q : Wok Z F h a) : Safe Z EL vm0 h a := by
  rcases q.2 with q | ⟨C, q1, q2, q3⟩ | ⟨cl, ty, q1, q2⟩
  · exact (hF a q).2
  · exact Safe.exa hal q1 q2 q3
  · exact Safe.arr hal q1 q2
theorem Wd.more (W : Wd p l e R s m args below meth c Z a0 EL own F T h k n) {k' n' : Nat} (hk : k ≤ k') (hn : n ≤ n') : Wd p l e R s m args below meth c Z a0 EL own F T h k' n' := by
  obtain ⟨w1, w2, w3, w4, vm0, k0, locs, X, r⟩ := W
  exact ⟨w1, w2, w3, w4, vm0, k0, locs, X.more hk hn, r⟩
theorem Wd.drop (W : Wd p l e R s m args below meth c Z a0 EL own F T h k n) {F' : List Addr} (q : ∀ x ∈ F', x ∈ F) : Wd p l e R s m args below meth c Z a0 EL own F' T h k n := by
  obtain ⟨w1, w2, w3, w4, vm0, k0, locs, X, a, b, d, f, g, i, j, w, u⟩ := W
  exact ⟨w1, w2, w3, w4, vm0, k0, locs, X, a, b, d, f, g, i, j, w, fun x hx => u x (q x hx)⟩
theorem ext_old_wr {a : Addr} {sl : Nat} {v : Value} (E : Ext Z.heap h) (W : Wr h h' a sl v) (q : Z.heap.size ≤ a) : Ext Z.heap h' := (Old.wr (n0 := Z.heap.size) ⟨rfl, E⟩ W q).2
theorem ext_old_keep {ws : List Addr} (E : Ext Z.heap h) (K : Keep h h' ws) (q : ∀ x ∈ ws, Z.heap.size ≤ x) : Ext Z.heap h' := (Old.keep (n0 := Z.heap.size) ⟨rfl, E⟩ K q).2
theorem ext_trans {h2 : Heap} (E : Ext h h') (E' : Ext h' h2) : Ext h h2 := ⟨Nat.le_trans E.1 E'.1, fun a c q => E'.2 a c (E.2 a c q)⟩
theorem ext_refl (h : Heap) : Ext h h := ⟨Nat.le_refl _, fun _ _ q => q⟩
theorem ext_keep (E : Ext h h') (ws : List Addr) : Keep h h' ws := (Keep.refl h ws).ext E
theorem keep_ext (K : Keep h h' []) : Ext h h' := ⟨K.1, fun a c q => K.2.1 a c q (fun z => nomatch z)⟩
/-- a step over the same tables that only makes cells -/
theorem Wd.grow (W : Wd p l e R s m args below meth c Z a0 EL own F T h k n) {k' n' : Nat} {g g' : JFrame}
    (st : ∀ {vm0 : Vm} {locs : List Loc}, Stand p l e R (s.setVm vm0) m args below meth c T locs k n → Z.Warmed39 vm0 → vm0.findClass own = some m.cls → T.heap = h →
      ∃ T', Stand p l e R (s.setVm vm0) m args below meth c T' locs k' n' ∧ T'.heap = h' ∧ ∀ target, Steps p.tables e below (T'.setTop g') target → Steps p.tables e below (T.setTop g) target)
    (E : Ext h h') (K : ∀ T', Wd p l e R s m args below meth c Z a0 EL own F T' h' k' n' → Go p e below P T' g') : Go p e below P T g := by
  obtain ⟨w1, w2, w3, w4, vm0, k0, locs, X, hZ, hown, eT, hS, hk, hC, hN, hH, hF⟩ := W
  obtain ⟨T', X', eT', st⟩ := st X hZ hown eT
  exact (K T' ⟨w1, ext_trans w2 E, w3, w4, vm0, k0, locs, X', hZ, hown, eT', hS, Nat.le_trans hk E.1, hC.trans (CHr.ext E hC.1), hN, hH, fun x q => ⟨Nat.lt_of_lt_of_le (hF x q).1 E.1, Safe.ext E hC.1 (hF x q).2⟩⟩).st st
/-- a step over the same tables that writes one place -/
theorem Wd.write (W : Wd p l e R s m args below meth c Z a0 EL own F T h k n) {a : Addr} {sl : Nat} {v : Value} {g g' : JFrame} (q : Wok Z F h a)
    (st : ∀ {vm0 : Vm} {locs : List Loc}, Stand p l e R (s.setVm vm0) m args below meth c T locs k n → Z.Warmed39 vm0 → vm0.findClass own = some m.cls → T.heap = h →
      ∃ T' h', Stand p l e R (s.setVm vm0) m args below meth c T' (locs ++ [⟨a, sl⟩]) k n ∧ T'.heap = h' ∧ Wr h h' a sl v ∧ ∀ target, Steps p.tables e below (T'.setTop g') target → Steps p.tables e below (T.setTop g) target)
    (K : ∀ T' h', Wd p l e R s m args below meth c Z a0 EL own F T' h' k n → Wr h h' a sl v → Go p e below P T' g') : Go p e below P T g := by
  obtain ⟨w1, w2, w3, w4, vm0, k0, locs, X, hZ, hown, eT, hS, hk, hC, hN, hH, hF⟩ := W
  obtain ⟨T', h', X', eT', Wr1, st⟩ := st X hZ hown eT
  have hsf := Wd.safeOf hZ.alike hF q
  exact (K T' h' ⟨w1, ext_old_wr w2 Wr1 q.1, w3, w4, vm0, k0, _, X', hZ, hown, eT', hS, by rw [Wr1.size]; exact hk, hC.trans (CHr.wr Wr1 hsf hC.1), Fr.snoc X' hN q.1, hH, fun x r => ⟨by rw [Wr1.size]; exact (hF x r).1, Safe.wr Wr1 hsf hC.1 (hF x r).2⟩⟩ Wr1).st st
/-- the end of a walk: what a contract says (FF: addresses of cells that the callee has made and that are nobody's literal) -/
def Endp (Z : State) (EL : List (String × Nat)) (s : State) (Q : Option Value → Heap → List Addr → Prop) (k n : Nat) (o : Outcome) (t : State) : Prop :=
  ∃ v L FF, o = .returned v ∧ (Q v t.heap FF ∧ Fr Z.heap.size L ∧ Ext Z.heap t.heap ∧ ∀ x ∈ FF, x < t.heap.size ∧ Safe Z EL t.vm t.heap x) ∧ CHr Z EL s.vm s.heap t.vm t.heap ∧ ReturnedEndW s o t L k n ∧ (EL = [] → s.WarmedH t.vm)
/-- a contract -/
def MetW (ws : List Jvm.Cond) (l : Launch) (Z : State) (EL : List (String × Nat)) (F : List Addr) (y : MethodName) (bytes : ByteArray) (maxL : Nat) (ret : Option FieldType) (rm : Room) (as' : Array Value) (h : Heap) (Q : Option Value → Heap → List Addr → Prop) : Prop :=
  MetFree l y (head1 (Jvm.Cond.code y bytes maxL ret :: ws) rm) (fun a U => a = as' ∧ Z.Warmed39 U.vm ∧ U.heap = h ∧ CHv Z EL U.vm h ∧ ∀ x ∈ F, x < h.size ∧ Safe Z EL U.vm h x) (fun _ _ _ _ _ => True) (fun _ U o U' => Endp Z EL U Q rm.cells rm.slots o U')
abbrev Met (l : Launch) (Z : State) (EL : List (String × Nat)) (F : List Addr) (y : MethodName) (bytes : ByteArray) (maxL : Nat) (ret : Option FieldType) (rm : Room) (as' : Array Value) (h : Heap) (Q : Option Value → Heap → List Addr → Prop) : Prop := MetW [] l Z EL F y bytes maxL ret rm as' h Q
theorem CHr.id {vm : Vm} (H : CHv Z EL vm h) : CHr Z EL vm h vm h := CHr.refl H
theorem Met.intro {ws : List Jvm.Cond} {y : MethodName} {bytes : ByteArray} {maxL : Nat} {ret : Option FieldType} {rm : Room} {as' : Array Value} {Q : Option Value → Heap → List Addr → Prop} (pn : plainName y.cls = true) (hEL : EW Z a0 EL) (hO : Ext Z.heap h)
    (body : ∀ (p : Program) (e : Env) (s : State) (m : MethodId) (below : List Frame) (meth : Method) (c : Code) (T : State), Wd p l e rm s m as' below meth c Z a0 EL y.cls F T h 0 0 → c.code = bytes → c.maxLocals = maxL → meth.sig.returnType = ret → meth.name = y.name →
      Go p e below (Endp Z EL s Q rm.cells rm.slots) T (entryFrame m as' maxL)) : MetW ws l Z EL F y bytes maxL ret rm as' h Q := by
  refine MetFree.of_bodySF (plainFor_of_name pn) hisR ?_
  intro p e s m args below meth c s₁ Bd hml0 hP hK
  obtain ⟨rfl, hZ, hh, hC, hF⟩ := hP
  have hown : s.vm.findClass y.cls = some m.cls := findClass_of_methodNamed Bd.named
  have hnm := (name_of_methodNamed Bd.named Bd.method).1
  have X0 : Stand p l e rm s m args below meth c s₁ [] 0 0 := Stand.of_body Bd
  have e0 : s₁.heap = h := by rw [← hh, Bd.state]; rfl
  exact body p e s m below meth c s₁ ⟨Bd.exec, hO, hEL, Bd.notSynchronized, s.vm, h.size, [], X0, hZ, hown, e0, State.WarmedH.since (State.WarmedH.refl s) _, Nat.le_refl _, by rw [hh]; exact CHr.refl hC, Fr.nil _, fun _ => State.WarmedH.refl s, hF⟩ Bd.bytes hml0 Bd.returns hnm
/-- the walk leaves -/
theorem Wd.leave (W : Wd p l e R s m args below meth c Z a0 EL own F T h k n) {Q : Option Value → Heap → List Addr → Prop} {k' n' : Nat} (hk : k ≤ k') (hn : n ≤ n') {v : Option Value} (hv : meth.sig.returnType = none → v = none) {FF : List Addr} (hFF : ∀ x ∈ FF, x ∈ F) (q : Q v h FF) {g : JFrame}
    (st : ∀ {vm0 : Vm} {locs : List Loc} {fs : List Frame}, Stand p l e R (s.setVm vm0) m args below meth c T locs k n → (∀ (f : JFrame) (acts : List Action), f.method = m → f.locked = none → f.entered = [] → (doReturn e (T.setTop f) acts v).1 = T.setFrames fs) → Steps p.tables e below (T.setTop g) (T.setFrames fs)) :
    Go p e below (Endp Z EL s Q k' n') T g := by
  obtain ⟨w1, w2, w3, w4, vm0, k0, locs, X, hZ, hown, rfl, hS, hk0, hC, hN, hH, hF⟩ := W
  obtain ⟨fs, hr, hrun, hended, hend⟩ := X.leaveW hS hk0 hv w4
  have hA := CHv.at X hZ w3 hC.1
  refine ⟨_, _, st X hr, hrun, hended, v, locs, FF, rfl, ⟨q, hN, w2, fun x hx => ?_⟩, ?_, ⟨hend.1, hend.2.1, hend.2.2.1, hend.2.2.2.mono hk hn⟩, fun e => ?_⟩
  · show x < T.heap.size ∧ Safe Z EL T.vm T.heap x
    exact ⟨(hF x (hFF x hx)).1, hA.safe (hF x (hFF x hx)).1 (hF x (hFF x hx)).2⟩
  · show CHr Z EL s.vm s.heap T.vm T.heap
    exact hC.trans hA
  · show s.WarmedH T.vm
    exact State.WarmedH.trans (t := s.setVm vm0) (hH e) X.warmed
end OwnA
/-! own kit, part B: one instruction each (by wip/kit/mkB.py) -/
section OwnB
variable {p : Program} {l : Launch} {e : Env} {R : Room} {s : State} {m : MethodId} {args : Array Value} {below : List Frame} {meth : Method} {c : Code} {T T' : State} {h h' : Heap} {Z : State} {a0 : Array Value} {EL : List (String × Nat)} {own : String} {k n : Nat} {P : Outcome → State → Prop} {F : List Addr}
theorem g_iloadN (W : Wd p l e R s m args below meth c Z a0 EL own F T h k n) {pc pc' : Nat} {ls : Array Slot} {st : List Value} {i : Fin 4} {v : Int32} (hd : decode c.code pc = .ok (.iload_n i, 1)) (hp : pc + 1 = pc') (hl : ls[i.val]? = some (.val (.int v)))  (K : Go p e below P T (mkF m pc' ls (.int v :: st))) : Go p e below P T (mkF m pc ls (st)) := by
  subst hp
  exact K.st fun t q => XS.iloadN W.here W.hx rfl hd hl q
theorem g_iload (W : Wd p l e R s m args below meth c Z a0 EL own F T h k n) {pc pc' : Nat} {ls : Array Slot} {st : List Value} {i : Nat} {v : Int32} (hd : decode c.code pc = .ok (.iload i, 2)) (hp : pc + 2 = pc') (hl : ls[i]? = some (.val (.int v)))  (K : Go p e below P T (mkF m pc' ls (.int v :: st))) : Go p e below P T (mkF m pc ls (st)) := by
  subst hp
  exact K.st fun t q => XS.iload W.here W.hx rfl hd hl q
theorem g_aloadN (W : Wd p l e R s m args below meth c Z a0 EL own F T h k n) {pc pc' : Nat} {ls : Array Slot} {st : List Value} {i : Fin 4} {v : Value} (hd : decode c.code pc = .ok (.aload_n i, 1)) (hp : pc + 1 = pc') (hl : ls[i.val]? = some (.val (v))) (hv : v.isRef = true) (K : Go p e below P T (mkF m pc' ls (v :: st))) : Go p e below P T (mkF m pc ls (st)) := by
  subst hp
  exact K.st fun t q => XS.aloadN W.here W.hx rfl hd hl hv q
theorem g_aload (W : Wd p l e R s m args below meth c Z a0 EL own F T h k n) {pc pc' : Nat} {ls : Array Slot} {st : List Value} {i : Nat} {v : Value} (hd : decode c.code pc = .ok (.aload i, 2)) (hp : pc + 2 = pc') (hl : ls[i]? = some (.val (v))) (hv : v.isRef = true) (K : Go p e below P T (mkF m pc' ls (v :: st))) : Go p e below P T (mkF m pc ls (st)) := by
  subst hp
  exact K.st fun t q => XS.aload W.here W.hx rfl hd hl hv q
theorem g_lloadN (W : Wd p l e R s m args below meth c Z a0 EL own F T h k n) {pc pc' : Nat} {ls : Array Slot} {st : List Value} {i : Fin 4} {v : Int64} (hd : decode c.code pc = .ok (.lload_n i, 1)) (hp : pc + 1 = pc') (hl : ls[i.val]? = some (.val (.long v)))  (K : Go p e below P T (mkF m pc' ls (.long v :: st))) : Go p e below P T (mkF m pc ls (st)) := by
  subst hp
  exact K.st fun t q => XT.lloadN W.here W.hx rfl hd hl q
theorem g_lload (W : Wd p l e R s m args below meth c Z a0 EL own F T h k n) {pc pc' : Nat} {ls : Array Slot} {st : List Value} {i : Nat} {v : Int64} (hd : decode c.code pc = .ok (.lload i, 2)) (hp : pc + 2 = pc') (hl : ls[i]? = some (.val (.long v)))  (K : Go p e below P T (mkF m pc' ls (.long v :: st))) : Go p e below P T (mkF m pc ls (st)) := by
  subst hp
  exact K.st fun t q => XT.lload W.here W.hx rfl hd hl q
theorem g_istoreN (W : Wd p l e R s m args below meth c Z a0 EL own F T h k n) {pc pc' : Nat} {ls : Array Slot} {st : List Value} {i : Fin 4} {v : Int32} {ls' : Array Slot} (hd : decode c.code pc = .ok (.istore_n i, 1)) (hp : pc + 1 = pc') (hl : storeLocals ls i.val (.int v) = some ls') (K : Go p e below P T (mkF m pc' ls' (st))) : Go p e below P T (mkF m pc ls (.int v :: st)) := by
  subst hp
  exact K.st fun t q => XS.istoreN W.here W.hx rfl hd rfl hl q
theorem g_istore (W : Wd p l e R s m args below meth c Z a0 EL own F T h k n) {pc pc' : Nat} {ls : Array Slot} {st : List Value} {i : Nat} {v : Int32} {ls' : Array Slot} (hd : decode c.code pc = .ok (.istore i, 2)) (hp : pc + 2 = pc') (hl : storeLocals ls i (.int v) = some ls') (K : Go p e below P T (mkF m pc' ls' (st))) : Go p e below P T (mkF m pc ls (.int v :: st)) := by
  subst hp
  exact K.st fun t q => XS.istore W.here W.hx rfl hd rfl hl q
theorem g_astoreN (W : Wd p l e R s m args below meth c Z a0 EL own F T h k n) {pc pc' : Nat} {ls : Array Slot} {st : List Value} {i : Fin 4} {v : Value} {ls' : Array Slot} (hd : decode c.code pc = .ok (.astore_n i, 1)) (hp : pc + 1 = pc') (hv : v.isRef = true) (hl : storeLocals ls i.val (v) = some ls') (K : Go p e below P T (mkF m pc' ls' (st))) : Go p e below P T (mkF m pc ls (v :: st)) := by
  subst hp
  exact K.st fun t q => XS.astoreN W.here W.hx rfl hd rfl hv hl q
theorem g_astore (W : Wd p l e R s m args below meth c Z a0 EL own F T h k n) {pc pc' : Nat} {ls : Array Slot} {st : List Value} {i : Nat} {v : Value} {ls' : Array Slot} (hd : decode c.code pc = .ok (.astore i, 2)) (hp : pc + 2 = pc') (hv : v.isRef = true) (hl : storeLocals ls i (v) = some ls') (K : Go p e below P T (mkF m pc' ls' (st))) : Go p e below P T (mkF m pc ls (v :: st)) := by
  subst hp
  exact K.st fun t q => XS.astore W.here W.hx rfl hd rfl hv hl q
theorem g_lstoreN (W : Wd p l e R s m args below meth c Z a0 EL own F T h k n) {pc pc' : Nat} {ls : Array Slot} {st : List Value} {i : Fin 4} {v : Int64} {ls' : Array Slot} (hd : decode c.code pc = .ok (.lstore_n i, 1)) (hp : pc + 1 = pc') (hl : storeLocals ls i.val (.long v) = some ls') (K : Go p e below P T (mkF m pc' ls' (st))) : Go p e below P T (mkF m pc ls (.long v :: st)) := by
  subst hp
  exact K.st fun t q => XT.lstoreN W.here W.hx rfl hd rfl hl q
theorem g_lstore (W : Wd p l e R s m args below meth c Z a0 EL own F T h k n) {pc pc' : Nat} {ls : Array Slot} {st : List Value} {i : Nat} {v : Int64} {ls' : Array Slot} (hd : decode c.code pc = .ok (.lstore i, 2)) (hp : pc + 2 = pc') (hl : storeLocals ls i (.long v) = some ls') (K : Go p e below P T (mkF m pc' ls' (st))) : Go p e below P T (mkF m pc ls (.long v :: st)) := by
  subst hp
  exact K.st fun t q => XT.lstore W.here W.hx rfl hd rfl hl q
theorem g_iconst (W : Wd p l e R s m args below meth c Z a0 EL own F T h k n) {pc pc' : Nat} {ls : Array Slot} {st : List Value} {i : Int} {v : Int32} (hd : decode c.code pc = .ok (.iconst i, 1)) (hp : pc + 1 = pc') (hv : Int32.ofInt i = v) (K : Go p e below P T (mkF m pc' ls (.int v :: st))) : Go p e below P T (mkF m pc ls (st)) := by
  subst hp
  subst hv; exact K.st fun t q => XS.iconst W.here W.hx rfl hd  q
theorem g_bipush (W : Wd p l e R s m args below meth c Z a0 EL own F T h k n) {pc pc' : Nat} {ls : Array Slot} {st : List Value} {i : Int} {v : Int32} (hd : decode c.code pc = .ok (.bipush i, 2)) (hp : pc + 2 = pc') (hv : (Int8.ofInt i).toInt32 = v) (K : Go p e below P T (mkF m pc' ls (.int v :: st))) : Go p e below P T (mkF m pc ls (st)) := by
  subst hp
  subst hv; exact K.st fun t q => XS.bipush W.here W.hx rfl hd  q
theorem g_sipush (W : Wd p l e R s m args below meth c Z a0 EL own F T h k n) {pc pc' : Nat} {ls : Array Slot} {st : List Value} {i : Int} {v : Int32} (hd : decode c.code pc = .ok (.sipush i, 3)) (hp : pc + 3 = pc') (hv : (Int16.ofInt i).toInt32 = v) (K : Go p e below P T (mkF m pc' ls (.int v :: st))) : Go p e below P T (mkF m pc ls (st)) := by
  subst hp
  subst hv; exact K.st fun t q => XS.sipush W.here W.hx rfl hd  q
theorem g_aconst_null (W : Wd p l e R s m args below meth c Z a0 EL own F T h k n) {pc pc' : Nat} {ls : Array Slot} {st : List Value}  (hd : decode c.code pc = .ok (.aconst_null, 1)) (hp : pc + 1 = pc')  (K : Go p e below P T (mkF m pc' ls (.null :: st))) : Go p e below P T (mkF m pc ls (st)) := by
  subst hp
  exact K.st fun t q => XS.aconstNull W.here W.hx rfl hd  q
theorem g_lconst (W : Wd p l e R s m args below meth c Z a0 EL own F T h k n) {pc pc' : Nat} {ls : Array Slot} {st : List Value} {i : Fin 2} {v : Int64} (hd : decode c.code pc = .ok (.lconst i, 1)) (hp : pc + 1 = pc') (hv : Int64.ofNat i = v) (K : Go p e below P T (mkF m pc' ls (.long v :: st))) : Go p e below P T (mkF m pc ls (st)) := by
  subst hp
  subst hv; exact K.st fun t q => XT.lconst W.here W.hx rfl hd  q
theorem g_iadd (W : Wd p l e R s m args below meth c Z a0 EL own F T h k n) {pc pc' : Nat} {ls : Array Slot} {st : List Value} {x y : Int32} (hd : decode c.code pc = .ok (.iadd, 1)) (hp : pc + 1 = pc')  (K : Go p e below P T (mkF m pc' ls (.int (x + y) :: st))) : Go p e below P T (mkF m pc ls (.int y :: .int x :: st)) := by
  subst hp
  exact K.st fun t q => XS.iadd W.here W.hx rfl hd rfl q
theorem g_isub (W : Wd p l e R s m args below meth c Z a0 EL own F T h k n) {pc pc' : Nat} {ls : Array Slot} {st : List Value} {x y : Int32} (hd : decode c.code pc = .ok (.isub, 1)) (hp : pc + 1 = pc')  (K : Go p e below P T (mkF m pc' ls (.int (x - y) :: st))) : Go p e below P T (mkF m pc ls (.int y :: .int x :: st)) := by
  subst hp
  exact K.st fun t q => XS.isub W.here W.hx rfl hd rfl q
theorem g_imul (W : Wd p l e R s m args below meth c Z a0 EL own F T h k n) {pc pc' : Nat} {ls : Array Slot} {st : List Value} {x y : Int32} (hd : decode c.code pc = .ok (.imul, 1)) (hp : pc + 1 = pc')  (K : Go p e below P T (mkF m pc' ls (.int (x * y) :: st))) : Go p e below P T (mkF m pc ls (.int y :: .int x :: st)) := by
  subst hp
  exact K.st fun t q => XS.imul W.here W.hx rfl hd rfl q
theorem g_iand (W : Wd p l e R s m args below meth c Z a0 EL own F T h k n) {pc pc' : Nat} {ls : Array Slot} {st : List Value} {x y : Int32} (hd : decode c.code pc = .ok (.iand, 1)) (hp : pc + 1 = pc')  (K : Go p e below P T (mkF m pc' ls (.int (x &&& y) :: st))) : Go p e below P T (mkF m pc ls (.int y :: .int x :: st)) := by
  subst hp
  exact K.st fun t q => XS.iand W.here W.hx rfl hd rfl q
theorem g_ior (W : Wd p l e R s m args below meth c Z a0 EL own F T h k n) {pc pc' : Nat} {ls : Array Slot} {st : List Value} {x y : Int32} (hd : decode c.code pc = .ok (.ior, 1)) (hp : pc + 1 = pc')  (K : Go p e below P T (mkF m pc' ls (.int (x ||| y) :: st))) : Go p e below P T (mkF m pc ls (.int y :: .int x :: st)) := by
  subst hp
  exact K.st fun t q => XT.ior W.here W.hx rfl hd rfl q
theorem g_ixor (W : Wd p l e R s m args below meth c Z a0 EL own F T h k n) {pc pc' : Nat} {ls : Array Slot} {st : List Value} {x y : Int32} (hd : decode c.code pc = .ok (.ixor, 1)) (hp : pc + 1 = pc')  (K : Go p e below P T (mkF m pc' ls (.int (x ^^^ y) :: st))) : Go p e below P T (mkF m pc ls (.int y :: .int x :: st)) := by
  subst hp
  exact K.st fun t q => XT.ixor W.here W.hx rfl hd rfl q
theorem g_ishl (W : Wd p l e R s m args below meth c Z a0 EL own F T h k n) {pc pc' : Nat} {ls : Array Slot} {st : List Value} {x y : Int32} (hd : decode c.code pc = .ok (.ishl, 1)) (hp : pc + 1 = pc')  (K : Go p e below P T (mkF m pc' ls (.int (x <<< (y &&& 31)) :: st))) : Go p e below P T (mkF m pc ls (.int y :: .int x :: st)) := by
  subst hp
  exact K.st fun t q => XT.ishl W.here W.hx rfl hd rfl q
theorem g_ishr (W : Wd p l e R s m args below meth c Z a0 EL own F T h k n) {pc pc' : Nat} {ls : Array Slot} {st : List Value} {x y : Int32} (hd : decode c.code pc = .ok (.ishr, 1)) (hp : pc + 1 = pc')  (K : Go p e below P T (mkF m pc' ls (.int (x >>> (y &&& 31)) :: st))) : Go p e below P T (mkF m pc ls (.int y :: .int x :: st)) := by
  subst hp
  exact K.st fun t q => XT.ishr W.here W.hx rfl hd rfl q
theorem g_iushr (W : Wd p l e R s m args below meth c Z a0 EL own F T h k n) {pc pc' : Nat} {ls : Array Slot} {st : List Value} {x y : Int32} (hd : decode c.code pc = .ok (.iushr, 1)) (hp : pc + 1 = pc')  (K : Go p e below P T (mkF m pc' ls (.int (XT.ushr x y) :: st))) : Go p e below P T (mkF m pc ls (.int y :: .int x :: st)) := by
  subst hp
  exact K.st fun t q => XT.iushr W.here W.hx rfl hd rfl q
theorem g_ladd (W : Wd p l e R s m args below meth c Z a0 EL own F T h k n) {pc pc' : Nat} {ls : Array Slot} {st : List Value} {x y : Int64} (hd : decode c.code pc = .ok (.ladd, 1)) (hp : pc + 1 = pc')  (K : Go p e below P T (mkF m pc' ls (.long (x + y) :: st))) : Go p e below P T (mkF m pc ls (.long y :: .long x :: st)) := by
  subst hp
  exact K.st fun t q => XT.ladd W.here W.hx rfl hd rfl q
theorem g_lsub (W : Wd p l e R s m args below meth c Z a0 EL own F T h k n) {pc pc' : Nat} {ls : Array Slot} {st : List Value} {x y : Int64} (hd : decode c.code pc = .ok (.lsub, 1)) (hp : pc + 1 = pc')  (K : Go p e below P T (mkF m pc' ls (.long (x - y) :: st))) : Go p e below P T (mkF m pc ls (.long y :: .long x :: st)) := by
  subst hp
  exact K.st fun t q => XT.lsub W.here W.hx rfl hd rfl q
theorem g_lmul (W : Wd p l e R s m args below meth c Z a0 EL own F T h k n) {pc pc' : Nat} {ls : Array Slot} {st : List Value} {x y : Int64} (hd : decode c.code pc = .ok (.lmul, 1)) (hp : pc + 1 = pc')  (K : Go p e below P T (mkF m pc' ls (.long (x * y) :: st))) : Go p e below P T (mkF m pc ls (.long y :: .long x :: st)) := by
  subst hp
  exact K.st fun t q => XT.lmul W.here W.hx rfl hd rfl q
theorem g_land (W : Wd p l e R s m args below meth c Z a0 EL own F T h k n) {pc pc' : Nat} {ls : Array Slot} {st : List Value} {x y : Int64} (hd : decode c.code pc = .ok (.land, 1)) (hp : pc + 1 = pc')  (K : Go p e below P T (mkF m pc' ls (.long (x &&& y) :: st))) : Go p e below P T (mkF m pc ls (.long y :: .long x :: st)) := by
  subst hp
  exact K.st fun t q => XT.land W.here W.hx rfl hd rfl q
theorem g_lor (W : Wd p l e R s m args below meth c Z a0 EL own F T h k n) {pc pc' : Nat} {ls : Array Slot} {st : List Value} {x y : Int64} (hd : decode c.code pc = .ok (.lor, 1)) (hp : pc + 1 = pc')  (K : Go p e below P T (mkF m pc' ls (.long (x ||| y) :: st))) : Go p e below P T (mkF m pc ls (.long y :: .long x :: st)) := by
  subst hp
  exact K.st fun t q => XT.lor W.here W.hx rfl hd rfl q
theorem g_lxor (W : Wd p l e R s m args below meth c Z a0 EL own F T h k n) {pc pc' : Nat} {ls : Array Slot} {st : List Value} {x y : Int64} (hd : decode c.code pc = .ok (.lxor, 1)) (hp : pc + 1 = pc')  (K : Go p e below P T (mkF m pc' ls (.long (x ^^^ y) :: st))) : Go p e below P T (mkF m pc ls (.long y :: .long x :: st)) := by
  subst hp
  exact K.st fun t q => XT.lxor W.here W.hx rfl hd rfl q
theorem g_lshl (W : Wd p l e R s m args below meth c Z a0 EL own F T h k n) {pc pc' : Nat} {ls : Array Slot} {st : List Value} {x : Int64} {y : Int32} (hd : decode c.code pc = .ok (.lshl, 1)) (hp : pc + 1 = pc')  (K : Go p e below P T (mkF m pc' ls (.long (x <<< (y.toInt64 &&& 63)) :: st))) : Go p e below P T (mkF m pc ls (.int y :: .long x :: st)) := by
  subst hp
  exact K.st fun t q => XT.lshl W.here W.hx rfl hd rfl q
theorem g_lshr (W : Wd p l e R s m args below meth c Z a0 EL own F T h k n) {pc pc' : Nat} {ls : Array Slot} {st : List Value} {x : Int64} {y : Int32} (hd : decode c.code pc = .ok (.lshr, 1)) (hp : pc + 1 = pc')  (K : Go p e below P T (mkF m pc' ls (.long (x >>> (y.toInt64 &&& 63)) :: st))) : Go p e below P T (mkF m pc ls (.int y :: .long x :: st)) := by
  subst hp
  exact K.st fun t q => XT.lshr W.here W.hx rfl hd rfl q
theorem g_lushr (W : Wd p l e R s m args below meth c Z a0 EL own F T h k n) {pc pc' : Nat} {ls : Array Slot} {st : List Value} {x : Int64} {y : Int32} (hd : decode c.code pc = .ok (.lushr, 1)) (hp : pc + 1 = pc')  (K : Go p e below P T (mkF m pc' ls (.long (XT.ushrL x y) :: st))) : Go p e below P T (mkF m pc ls (.int y :: .long x :: st)) := by
  subst hp
  exact K.st fun t q => XT.lushr W.here W.hx rfl hd rfl q
theorem g_idiv (W : Wd p l e R s m args below meth c Z a0 EL own F T h k n) {pc pc' : Nat} {ls : Array Slot} {st : List Value} {x y : Int32} (hd : decode c.code pc = .ok (.idiv, 1)) (hp : pc + 1 = pc') (hy : y ≠ 0) (K : Go p e below P T (mkF m pc' ls (.int (x / y) :: st))) : Go p e below P T (mkF m pc ls (.int y :: .int x :: st)) := by
  subst hp
  exact K.st fun t q => XS.idiv W.here W.hx rfl hd rfl hy q
theorem g_ldiv (W : Wd p l e R s m args below meth c Z a0 EL own F T h k n) {pc pc' : Nat} {ls : Array Slot} {st : List Value} {x y : Int64} (hd : decode c.code pc = .ok (.ldiv, 1)) (hp : pc + 1 = pc') (hy : y ≠ 0) (K : Go p e below P T (mkF m pc' ls (.long (x / y) :: st))) : Go p e below P T (mkF m pc ls (.long y :: .long x :: st)) := by
  subst hp
  exact K.st fun t q => XT.ldiv W.here W.hx rfl hd rfl hy q
theorem g_irem (W : Wd p l e R s m args below meth c Z a0 EL own F T h k n) {pc pc' : Nat} {ls : Array Slot} {st : List Value} {x y : Int32} (hd : decode c.code pc = .ok (.irem, 1)) (hp : pc + 1 = pc') (hy : y ≠ 0) (K : Go p e below P T (mkF m pc' ls (.int (x % y) :: st))) : Go p e below P T (mkF m pc ls (.int y :: .int x :: st)) := by
  subst hp
  exact K.st fun t q => XS.irem W.here W.hx rfl hd rfl hy (by rw [irem_eq_mod x y]; exact q)
theorem g_lrem (W : Wd p l e R s m args below meth c Z a0 EL own F T h k n) {pc pc' : Nat} {ls : Array Slot} {st : List Value} {x y : Int64} (hd : decode c.code pc = .ok (.lrem, 1)) (hp : pc + 1 = pc') (hy : y ≠ 0) (K : Go p e below P T (mkF m pc' ls (.long (x % y) :: st))) : Go p e below P T (mkF m pc ls (.long y :: .long x :: st)) := by
  subst hp
  exact K.st fun t q => XT.lrem W.here W.hx rfl hd rfl hy (by rw [lrem_mod x y]; exact q)
theorem g_i2l (W : Wd p l e R s m args below meth c Z a0 EL own F T h k n) {pc pc' : Nat} {ls : Array Slot} {st : List Value} {x : Int32} (hd : decode c.code pc = .ok (.i2l, 1)) (hp : pc + 1 = pc')  (K : Go p e below P T (mkF m pc' ls (.long (x.toInt64) :: st))) : Go p e below P T (mkF m pc ls (.int x :: st)) := by
  subst hp
  exact K.st fun t q => XT.i2l W.here W.hx rfl hd rfl q
theorem g_i2b (W : Wd p l e R s m args below meth c Z a0 EL own F T h k n) {pc pc' : Nat} {ls : Array Slot} {st : List Value} {x : Int32} (hd : decode c.code pc = .ok (.i2b, 1)) (hp : pc + 1 = pc')  (K : Go p e below P T (mkF m pc' ls (.int (x.toInt8.toInt32) :: st))) : Go p e below P T (mkF m pc ls (.int x :: st)) := by
  subst hp
  exact K.st fun t q => XT.i2b W.here W.hx rfl hd rfl q
theorem g_i2c (W : Wd p l e R s m args below meth c Z a0 EL own F T h k n) {pc pc' : Nat} {ls : Array Slot} {st : List Value} {x : Int32} (hd : decode c.code pc = .ok (.i2c, 1)) (hp : pc + 1 = pc')  (K : Go p e below P T (mkF m pc' ls (.int (x.toUInt32.toUInt16.toUInt32.toInt32) :: st))) : Go p e below P T (mkF m pc ls (.int x :: st)) := by
  subst hp
  exact K.st fun t q => XT.i2c W.here W.hx rfl hd rfl q
theorem g_i2s (W : Wd p l e R s m args below meth c Z a0 EL own F T h k n) {pc pc' : Nat} {ls : Array Slot} {st : List Value} {x : Int32} (hd : decode c.code pc = .ok (.i2s, 1)) (hp : pc + 1 = pc')  (K : Go p e below P T (mkF m pc' ls (.int (x.toInt16.toInt32) :: st))) : Go p e below P T (mkF m pc ls (.int x :: st)) := by
  subst hp
  exact K.st fun t q => XT.i2s W.here W.hx rfl hd rfl q
theorem g_l2i (W : Wd p l e R s m args below meth c Z a0 EL own F T h k n) {pc pc' : Nat} {ls : Array Slot} {st : List Value} {x : Int64} (hd : decode c.code pc = .ok (.l2i, 1)) (hp : pc + 1 = pc')  (K : Go p e below P T (mkF m pc' ls (.int (x.toInt32) :: st))) : Go p e below P T (mkF m pc ls (.long x :: st)) := by
  subst hp
  exact K.st fun t q => XT.l2i W.here W.hx rfl hd rfl q
theorem g_ineg (W : Wd p l e R s m args below meth c Z a0 EL own F T h k n) {pc pc' : Nat} {ls : Array Slot} {st : List Value} {x : Int32} (hd : decode c.code pc = .ok (.ineg, 1)) (hp : pc + 1 = pc')  (K : Go p e below P T (mkF m pc' ls (.int (-x) :: st))) : Go p e below P T (mkF m pc ls (.int x :: st)) := by
  subst hp
  exact K.st fun t q => XS.ineg W.here W.hx rfl hd rfl q
theorem g_lcmp (W : Wd p l e R s m args below meth c Z a0 EL own F T h k n) {pc pc' : Nat} {ls : Array Slot} {st : List Value} {x y : Int64} (hd : decode c.code pc = .ok (.lcmp, 1)) (hp : pc + 1 = pc')  (K : Go p e below P T (mkF m pc' ls (.int (XT.cmpL x y) :: st))) : Go p e below P T (mkF m pc ls (.long y :: .long x :: st)) := by
  subst hp
  exact K.st fun t q => XT.lcmp W.here W.hx rfl hd rfl q
theorem g_iinc (W : Wd p l e R s m args below meth c Z a0 EL own F T h k n) {pc pc' : Nat} {ls : Array Slot} {st : List Value} {i : Nat} {cst : Int} {x : Int32} {ls' : Array Slot} (hd : decode c.code pc = .ok (.iinc i cst, 3)) (hp : pc + 3 = pc') (hl : ls[i]? = some (.val (.int x))) (hl' : storeLocals ls i (.int (x + Int32.ofInt cst)) = some ls') (K : Go p e below P T (mkF m pc' ls' (st))) : Go p e below P T (mkF m pc ls (st)) := by
  subst hp
  exact K.st fun t q => XS.iinc W.here W.hx rfl hd hl hl' q
theorem g_dup (W : Wd p l e R s m args below meth c Z a0 EL own F T h k n) {pc pc' : Nat} {ls : Array Slot} {st : List Value} {x : Value} (hd : decode c.code pc = .ok (.dup, 1)) (hp : pc + 1 = pc') (hc : x.category = 1) (K : Go p e below P T (mkF m pc' ls (x :: x :: st))) : Go p e below P T (mkF m pc ls (x :: st)) := by
  subst hp
  exact K.st fun t q => XS.dup W.here W.hx rfl hd rfl hc q
theorem g_pop (W : Wd p l e R s m args below meth c Z a0 EL own F T h k n) {pc pc' : Nat} {ls : Array Slot} {st : List Value} {x : Value} (hd : decode c.code pc = .ok (.pop, 1)) (hp : pc + 1 = pc') (hc : x.category = 1) (K : Go p e below P T (mkF m pc' ls (st))) : Go p e below P T (mkF m pc ls (x :: st)) := by
  subst hp
  exact K.st fun t q => XT.pop W.here W.hx rfl hd rfl hc q
theorem g_dup_x1 (W : Wd p l e R s m args below meth c Z a0 EL own F T h k n) {pc pc' : Nat} {ls : Array Slot} {st : List Value} {x y : Value} (hd : decode c.code pc = .ok (.dup_x1, 1)) (hp : pc + 1 = pc') (hc : x.category = 1) (hc' : y.category = 1) (K : Go p e below P T (mkF m pc' ls (x :: y :: x :: st))) : Go p e below P T (mkF m pc ls (x :: y :: st)) := by
  subst hp
  exact K.st fun t q => XT.dupX1 W.here W.hx rfl hd rfl hc hc' q
theorem g_dup2 (W : Wd p l e R s m args below meth c Z a0 EL own F T h k n) {pc pc' : Nat} {ls : Array Slot} {st : List Value} {x y : Value} (hd : decode c.code pc = .ok (.dup2, 1)) (hp : pc + 1 = pc') (hc : x.category = 1) (hc' : y.category = 1) (K : Go p e below P T (mkF m pc' ls (x :: y :: x :: y :: st))) : Go p e below P T (mkF m pc ls (x :: y :: st)) := by
  subst hp
  exact K.st fun t q => XT.dup2 W.here W.hx rfl hd rfl hc hc' q
theorem g_dup2L (W : Wd p l e R s m args below meth c Z a0 EL own F T h k n) {pc pc' : Nat} {ls : Array Slot} {st : List Value} {x : Int64} (hd : decode c.code pc = .ok (.dup2, 1)) (hp : pc + 1 = pc')  (K : Go p e below P T (mkF m pc' ls (.long x :: .long x :: st))) : Go p e below P T (mkF m pc ls (.long x :: st)) := by
  subst hp
  exact K.st fun t q => XT.dup2L W.here W.hx rfl hd rfl q
theorem g_goto (W : Wd p l e R s m args below meth c Z a0 EL own F T h k n) {pc pc' : Nat} {ls : Array Slot} {st : List Value} {o : Int} (hd : decode c.code pc = .ok (.goto o, 3)) (ho : 0 ≤ (pc : Int) + o) (hp : ((pc : Int) + o).toNat = pc') (K : Go p e below P T (mkF m pc' ls st)) : Go p e below P T (mkF m pc ls st) :=
  K.st fun t q => XS.goto W.here W.hx rfl rfl hd ho hp q
theorem g_icmpeqY (W : Wd p l e R s m args below meth c Z a0 EL own F T h k n) {pc pc1 pc2 : Nat} {ls : Array Slot} {st : List Value} {x y : Int32} {o : Int} (hd : decode c.code pc = .ok (.if_icmp .eq o, 3)) (ho : 0 ≤ (pc : Int) + o) (hp1 : ((pc : Int) + o).toNat = pc1) (hp2 : pc + 3 = pc2) (hc : x = y) (K : Go p e below P T (mkF m pc1 ls st)) : Go p e below P T (mkF m pc ls (.int y :: .int x :: st)) :=
  K.st fun t q => XS.icmpYes W.here W.hx rfl rfl hd rfl (teq hc).1 ho hp1 q
theorem g_icmpeqN (W : Wd p l e R s m args below meth c Z a0 EL own F T h k n) {pc pc1 pc2 : Nat} {ls : Array Slot} {st : List Value} {x y : Int32} {o : Int} (hd : decode c.code pc = .ok (.if_icmp .eq o, 3)) (ho : 0 ≤ (pc : Int) + o) (hp1 : ((pc : Int) + o).toNat = pc1) (hp2 : pc + 3 = pc2) (hc : ¬ x = y) (K : Go p e below P T (mkF m pc2 ls st)) : Go p e below P T (mkF m pc ls (.int y :: .int x :: st)) := by
  subst hp2
  exact K.st fun t q => XS.icmpNo W.here W.hx rfl hd rfl (feq hc).1 q
theorem g_icmpeq (W : Wd p l e R s m args below meth c Z a0 EL own F T h k n) {pc pc1 pc2 : Nat} {ls : Array Slot} {st : List Value} {x y : Int32} {o : Int} (hd : decode c.code pc = .ok (.if_icmp .eq o, 3)) (ho : 0 ≤ (pc : Int) + o) (hp1 : ((pc : Int) + o).toNat = pc1) (hp2 : pc + 3 = pc2) (K1 : x = y → Go p e below P T (mkF m pc1 ls st)) (K2 : ¬ x = y → Go p e below P T (mkF m pc2 ls st)) : Go p e below P T (mkF m pc ls (.int y :: .int x :: st)) := by
  by_cases hc : x = y
  · exact g_icmpeqY W hd ho hp1 hp2 hc (K1 hc)
  · exact g_icmpeqN W hd ho hp1 hp2 (by first | exact hc | exact Decidable.not_not.mp hc) (K2 (by first | exact hc | exact Decidable.not_not.mp hc))
theorem g_ifeqY (W : Wd p l e R s m args below meth c Z a0 EL own F T h k n) {pc pc1 pc2 : Nat} {ls : Array Slot} {st : List Value} {x : Int32} {o : Int} (hd : decode c.code pc = .ok (.ifCond .eq o, 3)) (ho : 0 ≤ (pc : Int) + o) (hp1 : ((pc : Int) + o).toNat = pc1) (hp2 : pc + 3 = pc2) (hc : x = 0) (K : Go p e below P T (mkF m pc1 ls st)) : Go p e below P T (mkF m pc ls (.int x :: st)) :=
  K.st fun t q => XS.ifYes W.here W.hx rfl rfl hd rfl (by rw [if0]; exact (teq hc).1) ho hp1 q
theorem g_ifeqN (W : Wd p l e R s m args below meth c Z a0 EL own F T h k n) {pc pc1 pc2 : Nat} {ls : Array Slot} {st : List Value} {x : Int32} {o : Int} (hd : decode c.code pc = .ok (.ifCond .eq o, 3)) (ho : 0 ≤ (pc : Int) + o) (hp1 : ((pc : Int) + o).toNat = pc1) (hp2 : pc + 3 = pc2) (hc : ¬ x = 0) (K : Go p e below P T (mkF m pc2 ls st)) : Go p e below P T (mkF m pc ls (.int x :: st)) := by
  subst hp2
  exact K.st fun t q => XS.ifNo W.here W.hx rfl hd rfl (by rw [if0]; exact (feq hc).1) q
theorem g_ifeq (W : Wd p l e R s m args below meth c Z a0 EL own F T h k n) {pc pc1 pc2 : Nat} {ls : Array Slot} {st : List Value} {x : Int32} {o : Int} (hd : decode c.code pc = .ok (.ifCond .eq o, 3)) (ho : 0 ≤ (pc : Int) + o) (hp1 : ((pc : Int) + o).toNat = pc1) (hp2 : pc + 3 = pc2) (K1 : x = 0 → Go p e below P T (mkF m pc1 ls st)) (K2 : ¬ x = 0 → Go p e below P T (mkF m pc2 ls st)) : Go p e below P T (mkF m pc ls (.int x :: st)) := by
  by_cases hc : x = 0
  · exact g_ifeqY W hd ho hp1 hp2 hc (K1 hc)
  · exact g_ifeqN W hd ho hp1 hp2 (by first | exact hc | exact Decidable.not_not.mp hc) (K2 (by first | exact hc | exact Decidable.not_not.mp hc))
theorem g_icmpneY (W : Wd p l e R s m args below meth c Z a0 EL own F T h k n) {pc pc1 pc2 : Nat} {ls : Array Slot} {st : List Value} {x y : Int32} {o : Int} (hd : decode c.code pc = .ok (.if_icmp .ne o, 3)) (ho : 0 ≤ (pc : Int) + o) (hp1 : ((pc : Int) + o).toNat = pc1) (hp2 : pc + 3 = pc2) (hc : ¬ x = y) (K : Go p e below P T (mkF m pc1 ls st)) : Go p e below P T (mkF m pc ls (.int y :: .int x :: st)) :=
  K.st fun t q => XS.icmpYes W.here W.hx rfl rfl hd rfl (feq hc).2 ho hp1 q
theorem g_icmpneN (W : Wd p l e R s m args below meth c Z a0 EL own F T h k n) {pc pc1 pc2 : Nat} {ls : Array Slot} {st : List Value} {x y : Int32} {o : Int} (hd : decode c.code pc = .ok (.if_icmp .ne o, 3)) (ho : 0 ≤ (pc : Int) + o) (hp1 : ((pc : Int) + o).toNat = pc1) (hp2 : pc + 3 = pc2) (hc : x = y) (K : Go p e below P T (mkF m pc2 ls st)) : Go p e below P T (mkF m pc ls (.int y :: .int x :: st)) := by
  subst hp2
  exact K.st fun t q => XS.icmpNo W.here W.hx rfl hd rfl (teq hc).2 q
theorem g_icmpne (W : Wd p l e R s m args below meth c Z a0 EL own F T h k n) {pc pc1 pc2 : Nat} {ls : Array Slot} {st : List Value} {x y : Int32} {o : Int} (hd : decode c.code pc = .ok (.if_icmp .ne o, 3)) (ho : 0 ≤ (pc : Int) + o) (hp1 : ((pc : Int) + o).toNat = pc1) (hp2 : pc + 3 = pc2) (K1 : ¬ x = y → Go p e below P T (mkF m pc1 ls st)) (K2 : x = y → Go p e below P T (mkF m pc2 ls st)) : Go p e below P T (mkF m pc ls (.int y :: .int x :: st)) := by
  by_cases hc : ¬ x = y
  · exact g_icmpneY W hd ho hp1 hp2 hc (K1 hc)
  · exact g_icmpneN W hd ho hp1 hp2 (by first | exact hc | exact Decidable.not_not.mp hc) (K2 (by first | exact hc | exact Decidable.not_not.mp hc))
theorem g_ifneY (W : Wd p l e R s m args below meth c Z a0 EL own F T h k n) {pc pc1 pc2 : Nat} {ls : Array Slot} {st : List Value} {x : Int32} {o : Int} (hd : decode c.code pc = .ok (.ifCond .ne o, 3)) (ho : 0 ≤ (pc : Int) + o) (hp1 : ((pc : Int) + o).toNat = pc1) (hp2 : pc + 3 = pc2) (hc : ¬ x = 0) (K : Go p e below P T (mkF m pc1 ls st)) : Go p e below P T (mkF m pc ls (.int x :: st)) :=
  K.st fun t q => XS.ifYes W.here W.hx rfl rfl hd rfl (by rw [if0]; exact (feq hc).2) ho hp1 q
theorem g_ifneN (W : Wd p l e R s m args below meth c Z a0 EL own F T h k n) {pc pc1 pc2 : Nat} {ls : Array Slot} {st : List Value} {x : Int32} {o : Int} (hd : decode c.code pc = .ok (.ifCond .ne o, 3)) (ho : 0 ≤ (pc : Int) + o) (hp1 : ((pc : Int) + o).toNat = pc1) (hp2 : pc + 3 = pc2) (hc : x = 0) (K : Go p e below P T (mkF m pc2 ls st)) : Go p e below P T (mkF m pc ls (.int x :: st)) := by
  subst hp2
  exact K.st fun t q => XS.ifNo W.here W.hx rfl hd rfl (by rw [if0]; exact (teq hc).2) q
theorem g_ifne (W : Wd p l e R s m args below meth c Z a0 EL own F T h k n) {pc pc1 pc2 : Nat} {ls : Array Slot} {st : List Value} {x : Int32} {o : Int} (hd : decode c.code pc = .ok (.ifCond .ne o, 3)) (ho : 0 ≤ (pc : Int) + o) (hp1 : ((pc : Int) + o).toNat = pc1) (hp2 : pc + 3 = pc2) (K1 : ¬ x = 0 → Go p e below P T (mkF m pc1 ls st)) (K2 : x = 0 → Go p e below P T (mkF m pc2 ls st)) : Go p e below P T (mkF m pc ls (.int x :: st)) := by
  by_cases hc : ¬ x = 0
  · exact g_ifneY W hd ho hp1 hp2 hc (K1 hc)
  · exact g_ifneN W hd ho hp1 hp2 (by first | exact hc | exact Decidable.not_not.mp hc) (K2 (by first | exact hc | exact Decidable.not_not.mp hc))
theorem g_icmpltY (W : Wd p l e R s m args below meth c Z a0 EL own F T h k n) {pc pc1 pc2 : Nat} {ls : Array Slot} {st : List Value} {x y : Int32} {o : Int} (hd : decode c.code pc = .ok (.if_icmp .lt o, 3)) (ho : 0 ≤ (pc : Int) + o) (hp1 : ((pc : Int) + o).toNat = pc1) (hp2 : pc + 3 = pc2) (hc : x < y) (K : Go p e below P T (mkF m pc1 ls st)) : Go p e below P T (mkF m pc ls (.int y :: .int x :: st)) :=
  K.st fun t q => XS.icmpYes W.here W.hx rfl rfl hd rfl (tlt hc).1 ho hp1 q
theorem g_icmpltN (W : Wd p l e R s m args below meth c Z a0 EL own F T h k n) {pc pc1 pc2 : Nat} {ls : Array Slot} {st : List Value} {x y : Int32} {o : Int} (hd : decode c.code pc = .ok (.if_icmp .lt o, 3)) (ho : 0 ≤ (pc : Int) + o) (hp1 : ((pc : Int) + o).toNat = pc1) (hp2 : pc + 3 = pc2) (hc : ¬ x < y) (K : Go p e below P T (mkF m pc2 ls st)) : Go p e below P T (mkF m pc ls (.int y :: .int x :: st)) := by
  subst hp2
  exact K.st fun t q => XS.icmpNo W.here W.hx rfl hd rfl (flt hc).1 q
theorem g_icmplt (W : Wd p l e R s m args below meth c Z a0 EL own F T h k n) {pc pc1 pc2 : Nat} {ls : Array Slot} {st : List Value} {x y : Int32} {o : Int} (hd : decode c.code pc = .ok (.if_icmp .lt o, 3)) (ho : 0 ≤ (pc : Int) + o) (hp1 : ((pc : Int) + o).toNat = pc1) (hp2 : pc + 3 = pc2) (K1 : x < y → Go p e below P T (mkF m pc1 ls st)) (K2 : ¬ x < y → Go p e below P T (mkF m pc2 ls st)) : Go p e below P T (mkF m pc ls (.int y :: .int x :: st)) := by
  by_cases hc : x < y
  · exact g_icmpltY W hd ho hp1 hp2 hc (K1 hc)
  · exact g_icmpltN W hd ho hp1 hp2 (by first | exact hc | exact Decidable.not_not.mp hc) (K2 (by first | exact hc | exact Decidable.not_not.mp hc))
theorem g_ifltY (W : Wd p l e R s m args below meth c Z a0 EL own F T h k n) {pc pc1 pc2 : Nat} {ls : Array Slot} {st : List Value} {x : Int32} {o : Int} (hd : decode c.code pc = .ok (.ifCond .lt o, 3)) (ho : 0 ≤ (pc : Int) + o) (hp1 : ((pc : Int) + o).toNat = pc1) (hp2 : pc + 3 = pc2) (hc : x < 0) (K : Go p e below P T (mkF m pc1 ls st)) : Go p e below P T (mkF m pc ls (.int x :: st)) :=
  K.st fun t q => XS.ifYes W.here W.hx rfl rfl hd rfl (by rw [if0]; exact (tlt hc).1) ho hp1 q
theorem g_ifltN (W : Wd p l e R s m args below meth c Z a0 EL own F T h k n) {pc pc1 pc2 : Nat} {ls : Array Slot} {st : List Value} {x : Int32} {o : Int} (hd : decode c.code pc = .ok (.ifCond .lt o, 3)) (ho : 0 ≤ (pc : Int) + o) (hp1 : ((pc : Int) + o).toNat = pc1) (hp2 : pc + 3 = pc2) (hc : ¬ x < 0) (K : Go p e below P T (mkF m pc2 ls st)) : Go p e below P T (mkF m pc ls (.int x :: st)) := by
  subst hp2
  exact K.st fun t q => XS.ifNo W.here W.hx rfl hd rfl (by rw [if0]; exact (flt hc).1) q
theorem g_iflt (W : Wd p l e R s m args below meth c Z a0 EL own F T h k n) {pc pc1 pc2 : Nat} {ls : Array Slot} {st : List Value} {x : Int32} {o : Int} (hd : decode c.code pc = .ok (.ifCond .lt o, 3)) (ho : 0 ≤ (pc : Int) + o) (hp1 : ((pc : Int) + o).toNat = pc1) (hp2 : pc + 3 = pc2) (K1 : x < 0 → Go p e below P T (mkF m pc1 ls st)) (K2 : ¬ x < 0 → Go p e below P T (mkF m pc2 ls st)) : Go p e below P T (mkF m pc ls (.int x :: st)) := by
  by_cases hc : x < 0
  · exact g_ifltY W hd ho hp1 hp2 hc (K1 hc)
  · exact g_ifltN W hd ho hp1 hp2 (by first | exact hc | exact Decidable.not_not.mp hc) (K2 (by first | exact hc | exact Decidable.not_not.mp hc))
theorem g_icmpgeY (W : Wd p l e R s m args below meth c Z a0 EL own F T h k n) {pc pc1 pc2 : Nat} {ls : Array Slot} {st : List Value} {x y : Int32} {o : Int} (hd : decode c.code pc = .ok (.if_icmp .ge o, 3)) (ho : 0 ≤ (pc : Int) + o) (hp1 : ((pc : Int) + o).toNat = pc1) (hp2 : pc + 3 = pc2) (hc : ¬ x < y) (K : Go p e below P T (mkF m pc1 ls st)) : Go p e below P T (mkF m pc ls (.int y :: .int x :: st)) :=
  K.st fun t q => XS.icmpYes W.here W.hx rfl rfl hd rfl (flt hc).2.1 ho hp1 q
theorem g_icmpgeN (W : Wd p l e R s m args below meth c Z a0 EL own F T h k n) {pc pc1 pc2 : Nat} {ls : Array Slot} {st : List Value} {x y : Int32} {o : Int} (hd : decode c.code pc = .ok (.if_icmp .ge o, 3)) (ho : 0 ≤ (pc : Int) + o) (hp1 : ((pc : Int) + o).toNat = pc1) (hp2 : pc + 3 = pc2) (hc : x < y) (K : Go p e below P T (mkF m pc2 ls st)) : Go p e below P T (mkF m pc ls (.int y :: .int x :: st)) := by
  subst hp2
  exact K.st fun t q => XS.icmpNo W.here W.hx rfl hd rfl (tlt hc).2.1 q
theorem g_icmpge (W : Wd p l e R s m args below meth c Z a0 EL own F T h k n) {pc pc1 pc2 : Nat} {ls : Array Slot} {st : List Value} {x y : Int32} {o : Int} (hd : decode c.code pc = .ok (.if_icmp .ge o, 3)) (ho : 0 ≤ (pc : Int) + o) (hp1 : ((pc : Int) + o).toNat = pc1) (hp2 : pc + 3 = pc2) (K1 : ¬ x < y → Go p e below P T (mkF m pc1 ls st)) (K2 : x < y → Go p e below P T (mkF m pc2 ls st)) : Go p e below P T (mkF m pc ls (.int y :: .int x :: st)) := by
  by_cases hc : ¬ x < y
  · exact g_icmpgeY W hd ho hp1 hp2 hc (K1 hc)
  · exact g_icmpgeN W hd ho hp1 hp2 (by first | exact hc | exact Decidable.not_not.mp hc) (K2 (by first | exact hc | exact Decidable.not_not.mp hc))
theorem g_ifgeY (W : Wd p l e R s m args below meth c Z a0 EL own F T h k n) {pc pc1 pc2 : Nat} {ls : Array Slot} {st : List Value} {x : Int32} {o : Int} (hd : decode c.code pc = .ok (.ifCond .ge o, 3)) (ho : 0 ≤ (pc : Int) + o) (hp1 : ((pc : Int) + o).toNat = pc1) (hp2 : pc + 3 = pc2) (hc : ¬ x < 0) (K : Go p e below P T (mkF m pc1 ls st)) : Go p e below P T (mkF m pc ls (.int x :: st)) :=
  K.st fun t q => XS.ifYes W.here W.hx rfl rfl hd rfl (by rw [if0]; exact (flt hc).2.1) ho hp1 q
theorem g_ifgeN (W : Wd p l e R s m args below meth c Z a0 EL own F T h k n) {pc pc1 pc2 : Nat} {ls : Array Slot} {st : List Value} {x : Int32} {o : Int} (hd : decode c.code pc = .ok (.ifCond .ge o, 3)) (ho : 0 ≤ (pc : Int) + o) (hp1 : ((pc : Int) + o).toNat = pc1) (hp2 : pc + 3 = pc2) (hc : x < 0) (K : Go p e below P T (mkF m pc2 ls st)) : Go p e below P T (mkF m pc ls (.int x :: st)) := by
  subst hp2
  exact K.st fun t q => XS.ifNo W.here W.hx rfl hd rfl (by rw [if0]; exact (tlt hc).2.1) q
theorem g_ifge (W : Wd p l e R s m args below meth c Z a0 EL own F T h k n) {pc pc1 pc2 : Nat} {ls : Array Slot} {st : List Value} {x : Int32} {o : Int} (hd : decode c.code pc = .ok (.ifCond .ge o, 3)) (ho : 0 ≤ (pc : Int) + o) (hp1 : ((pc : Int) + o).toNat = pc1) (hp2 : pc + 3 = pc2) (K1 : ¬ x < 0 → Go p e below P T (mkF m pc1 ls st)) (K2 : x < 0 → Go p e below P T (mkF m pc2 ls st)) : Go p e below P T (mkF m pc ls (.int x :: st)) := by
  by_cases hc : ¬ x < 0
  · exact g_ifgeY W hd ho hp1 hp2 hc (K1 hc)
  · exact g_ifgeN W hd ho hp1 hp2 (by first | exact hc | exact Decidable.not_not.mp hc) (K2 (by first | exact hc | exact Decidable.not_not.mp hc))
theorem g_icmpgtY (W : Wd p l e R s m args below meth c Z a0 EL own F T h k n) {pc pc1 pc2 : Nat} {ls : Array Slot} {st : List Value} {x y : Int32} {o : Int} (hd : decode c.code pc = .ok (.if_icmp .gt o, 3)) (ho : 0 ≤ (pc : Int) + o) (hp1 : ((pc : Int) + o).toNat = pc1) (hp2 : pc + 3 = pc2) (hc : y < x) (K : Go p e below P T (mkF m pc1 ls st)) : Go p e below P T (mkF m pc ls (.int y :: .int x :: st)) :=
  K.st fun t q => XS.icmpYes W.here W.hx rfl rfl hd rfl (tlt hc).2.2.1 ho hp1 q
theorem g_icmpgtN (W : Wd p l e R s m args below meth c Z a0 EL own F T h k n) {pc pc1 pc2 : Nat} {ls : Array Slot} {st : List Value} {x y : Int32} {o : Int} (hd : decode c.code pc = .ok (.if_icmp .gt o, 3)) (ho : 0 ≤ (pc : Int) + o) (hp1 : ((pc : Int) + o).toNat = pc1) (hp2 : pc + 3 = pc2) (hc : ¬ y < x) (K : Go p e below P T (mkF m pc2 ls st)) : Go p e below P T (mkF m pc ls (.int y :: .int x :: st)) := by
  subst hp2
  exact K.st fun t q => XS.icmpNo W.here W.hx rfl hd rfl (flt hc).2.2.1 q
theorem g_icmpgt (W : Wd p l e R s m args below meth c Z a0 EL own F T h k n) {pc pc1 pc2 : Nat} {ls : Array Slot} {st : List Value} {x y : Int32} {o : Int} (hd : decode c.code pc = .ok (.if_icmp .gt o, 3)) (ho : 0 ≤ (pc : Int) + o) (hp1 : ((pc : Int) + o).toNat = pc1) (hp2 : pc + 3 = pc2) (K1 : y < x → Go p e below P T (mkF m pc1 ls st)) (K2 : ¬ y < x → Go p e below P T (mkF m pc2 ls st)) : Go p e below P T (mkF m pc ls (.int y :: .int x :: st)) := by
  by_cases hc : y < x
  · exact g_icmpgtY W hd ho hp1 hp2 hc (K1 hc)
  · exact g_icmpgtN W hd ho hp1 hp2 (by first | exact hc | exact Decidable.not_not.mp hc) (K2 (by first | exact hc | exact Decidable.not_not.mp hc))
theorem g_ifgtY (W : Wd p l e R s m args below meth c Z a0 EL own F T h k n) {pc pc1 pc2 : Nat} {ls : Array Slot} {st : List Value} {x : Int32} {o : Int} (hd : decode c.code pc = .ok (.ifCond .gt o, 3)) (ho : 0 ≤ (pc : Int) + o) (hp1 : ((pc : Int) + o).toNat = pc1) (hp2 : pc + 3 = pc2) (hc : 0 < x) (K : Go p e below P T (mkF m pc1 ls st)) : Go p e below P T (mkF m pc ls (.int x :: st)) :=
  K.st fun t q => XS.ifYes W.here W.hx rfl rfl hd rfl (by rw [if0]; exact (tlt hc).2.2.1) ho hp1 q
theorem g_ifgtN (W : Wd p l e R s m args below meth c Z a0 EL own F T h k n) {pc pc1 pc2 : Nat} {ls : Array Slot} {st : List Value} {x : Int32} {o : Int} (hd : decode c.code pc = .ok (.ifCond .gt o, 3)) (ho : 0 ≤ (pc : Int) + o) (hp1 : ((pc : Int) + o).toNat = pc1) (hp2 : pc + 3 = pc2) (hc : ¬ 0 < x) (K : Go p e below P T (mkF m pc2 ls st)) : Go p e below P T (mkF m pc ls (.int x :: st)) := by
  subst hp2
  exact K.st fun t q => XS.ifNo W.here W.hx rfl hd rfl (by rw [if0]; exact (flt hc).2.2.1) q
theorem g_ifgt (W : Wd p l e R s m args below meth c Z a0 EL own F T h k n) {pc pc1 pc2 : Nat} {ls : Array Slot} {st : List Value} {x : Int32} {o : Int} (hd : decode c.code pc = .ok (.ifCond .gt o, 3)) (ho : 0 ≤ (pc : Int) + o) (hp1 : ((pc : Int) + o).toNat = pc1) (hp2 : pc + 3 = pc2) (K1 : 0 < x → Go p e below P T (mkF m pc1 ls st)) (K2 : ¬ 0 < x → Go p e below P T (mkF m pc2 ls st)) : Go p e below P T (mkF m pc ls (.int x :: st)) := by
  by_cases hc : 0 < x
  · exact g_ifgtY W hd ho hp1 hp2 hc (K1 hc)
  · exact g_ifgtN W hd ho hp1 hp2 (by first | exact hc | exact Decidable.not_not.mp hc) (K2 (by first | exact hc | exact Decidable.not_not.mp hc))
theorem g_icmpleY (W : Wd p l e R s m args below meth c Z a0 EL own F T h k n) {pc pc1 pc2 : Nat} {ls : Array Slot} {st : List Value} {x y : Int32} {o : Int} (hd : decode c.code pc = .ok (.if_icmp .le o, 3)) (ho : 0 ≤ (pc : Int) + o) (hp1 : ((pc : Int) + o).toNat = pc1) (hp2 : pc + 3 = pc2) (hc : ¬ y < x) (K : Go p e below P T (mkF m pc1 ls st)) : Go p e below P T (mkF m pc ls (.int y :: .int x :: st)) :=
  K.st fun t q => XS.icmpYes W.here W.hx rfl rfl hd rfl (flt hc).2.2.2 ho hp1 q
theorem g_icmpleN (W : Wd p l e R s m args below meth c Z a0 EL own F T h k n) {pc pc1 pc2 : Nat} {ls : Array Slot} {st : List Value} {x y : Int32} {o : Int} (hd : decode c.code pc = .ok (.if_icmp .le o, 3)) (ho : 0 ≤ (pc : Int) + o) (hp1 : ((pc : Int) + o).toNat = pc1) (hp2 : pc + 3 = pc2) (hc : y < x) (K : Go p e below P T (mkF m pc2 ls st)) : Go p e below P T (mkF m pc ls (.int y :: .int x :: st)) := by
  subst hp2
  exact K.st fun t q => XS.icmpNo W.here W.hx rfl hd rfl (tlt hc).2.2.2 q
theorem g_icmple (W : Wd p l e R s m args below meth c Z a0 EL own F T h k n) {pc pc1 pc2 : Nat} {ls : Array Slot} {st : List Value} {x y : Int32} {o : Int} (hd : decode c.code pc = .ok (.if_icmp .le o, 3)) (ho : 0 ≤ (pc : Int) + o) (hp1 : ((pc : Int) + o).toNat = pc1) (hp2 : pc + 3 = pc2) (K1 : ¬ y < x → Go p e below P T (mkF m pc1 ls st)) (K2 : y < x → Go p e below P T (mkF m pc2 ls st)) : Go p e below P T (mkF m pc ls (.int y :: .int x :: st)) := by
  by_cases hc : ¬ y < x
  · exact g_icmpleY W hd ho hp1 hp2 hc (K1 hc)
  · exact g_icmpleN W hd ho hp1 hp2 (by first | exact hc | exact Decidable.not_not.mp hc) (K2 (by first | exact hc | exact Decidable.not_not.mp hc))
theorem g_ifleY (W : Wd p l e R s m args below meth c Z a0 EL own F T h k n) {pc pc1 pc2 : Nat} {ls : Array Slot} {st : List Value} {x : Int32} {o : Int} (hd : decode c.code pc = .ok (.ifCond .le o, 3)) (ho : 0 ≤ (pc : Int) + o) (hp1 : ((pc : Int) + o).toNat = pc1) (hp2 : pc + 3 = pc2) (hc : ¬ 0 < x) (K : Go p e below P T (mkF m pc1 ls st)) : Go p e below P T (mkF m pc ls (.int x :: st)) :=
  K.st fun t q => XS.ifYes W.here W.hx rfl rfl hd rfl (by rw [if0]; exact (flt hc).2.2.2) ho hp1 q
theorem g_ifleN (W : Wd p l e R s m args below meth c Z a0 EL own F T h k n) {pc pc1 pc2 : Nat} {ls : Array Slot} {st : List Value} {x : Int32} {o : Int} (hd : decode c.code pc = .ok (.ifCond .le o, 3)) (ho : 0 ≤ (pc : Int) + o) (hp1 : ((pc : Int) + o).toNat = pc1) (hp2 : pc + 3 = pc2) (hc : 0 < x) (K : Go p e below P T (mkF m pc2 ls st)) : Go p e below P T (mkF m pc ls (.int x :: st)) := by
  subst hp2
  exact K.st fun t q => XS.ifNo W.here W.hx rfl hd rfl (by rw [if0]; exact (tlt hc).2.2.2) q
theorem g_ifle (W : Wd p l e R s m args below meth c Z a0 EL own F T h k n) {pc pc1 pc2 : Nat} {ls : Array Slot} {st : List Value} {x : Int32} {o : Int} (hd : decode c.code pc = .ok (.ifCond .le o, 3)) (ho : 0 ≤ (pc : Int) + o) (hp1 : ((pc : Int) + o).toNat = pc1) (hp2 : pc + 3 = pc2) (K1 : ¬ 0 < x → Go p e below P T (mkF m pc1 ls st)) (K2 : 0 < x → Go p e below P T (mkF m pc2 ls st)) : Go p e below P T (mkF m pc ls (.int x :: st)) := by
  by_cases hc : ¬ 0 < x
  · exact g_ifleY W hd ho hp1 hp2 hc (K1 hc)
  · exact g_ifleN W hd ho hp1 hp2 (by first | exact hc | exact Decidable.not_not.mp hc) (K2 (by first | exact hc | exact Decidable.not_not.mp hc))
theorem g_ifnullY (W : Wd p l e R s m args below meth c Z a0 EL own F T h k n) {pc pc1 pc2 : Nat} {ls : Array Slot} {st : List Value} {o : Int} (hd : decode c.code pc = .ok (.ifnull o, 3)) (ho : 0 ≤ (pc : Int) + o) (hp1 : ((pc : Int) + o).toNat = pc1) (hp2 : pc + 3 = pc2) (K : Go p e below P T (mkF m pc1 ls st)) : Go p e below P T (mkF m pc ls (.null :: st)) :=
  K.st fun t q => XS.ifnullYes W.here W.hx rfl rfl hd rfl ho hp1 q
theorem g_ifnullN (W : Wd p l e R s m args below meth c Z a0 EL own F T h k n) {pc pc1 pc2 : Nat} {ls : Array Slot} {st : List Value} {o : Int} {b : Addr} (hd : decode c.code pc = .ok (.ifnull o, 3)) (ho : 0 ≤ (pc : Int) + o) (hp1 : ((pc : Int) + o).toNat = pc1) (hp2 : pc + 3 = pc2) (K : Go p e below P T (mkF m pc2 ls st)) : Go p e below P T (mkF m pc ls (.ref b :: st)) := by
  subst hp2
  exact K.st fun t q => XS.ifnullNo W.here W.hx rfl hd rfl q
theorem g_ifnonnullY (W : Wd p l e R s m args below meth c Z a0 EL own F T h k n) {pc pc1 pc2 : Nat} {ls : Array Slot} {st : List Value} {o : Int} {b : Addr} (hd : decode c.code pc = .ok (.ifnonnull o, 3)) (ho : 0 ≤ (pc : Int) + o) (hp1 : ((pc : Int) + o).toNat = pc1) (hp2 : pc + 3 = pc2) (K : Go p e below P T (mkF m pc1 ls st)) : Go p e below P T (mkF m pc ls (.ref b :: st)) :=
  K.st fun t q => XT.ifnonnullYes W.here W.hx rfl rfl hd rfl ho hp1 q
theorem g_ifnonnullN (W : Wd p l e R s m args below meth c Z a0 EL own F T h k n) {pc pc1 pc2 : Nat} {ls : Array Slot} {st : List Value} {o : Int} (hd : decode c.code pc = .ok (.ifnonnull o, 3)) (ho : 0 ≤ (pc : Int) + o) (hp1 : ((pc : Int) + o).toNat = pc1) (hp2 : pc + 3 = pc2) (K : Go p e below P T (mkF m pc2 ls st)) : Go p e below P T (mkF m pc ls (.null :: st)) := by
  subst hp2
  exact K.st fun t q => XT.ifnonnullNo W.here W.hx rfl hd rfl q
theorem g_acmpeqY (W : Wd p l e R s m args below meth c Z a0 EL own F T h k n) {pc pc1 pc2 : Nat} {ls : Array Slot} {st : List Value} {o : Int} {x y : Value} (hd : decode c.code pc = .ok (.if_acmp .eq o, 3)) (ho : 0 ≤ (pc : Int) + o) (hp1 : ((pc : Int) + o).toNat = pc1) (hp2 : pc + 3 = pc2) (h1 : x.isRef = true) (h2 : y.isRef = true) (hc : x = y) (K : Go p e below P T (mkF m pc1 ls st)) : Go p e below P T (mkF m pc ls (y :: x :: st)) := by
  obtain ⟨w1, w2, w3, w4, vm0, k0, locs, X, r⟩ := W
  exact K.st fun t q => acmp X w1 rfl h1 h2 (same := true) rfl hd rfl (by simp [hc]) ho (by simp [acV, hp1]) q
theorem g_acmpeqN (W : Wd p l e R s m args below meth c Z a0 EL own F T h k n) {pc pc1 pc2 : Nat} {ls : Array Slot} {st : List Value} {o : Int} {x y : Value} (hd : decode c.code pc = .ok (.if_acmp .eq o, 3)) (ho : 0 ≤ (pc : Int) + o) (hp1 : ((pc : Int) + o).toNat = pc1) (hp2 : pc + 3 = pc2) (h1 : x.isRef = true) (h2 : y.isRef = true) (hc : ¬ x = y) (K : Go p e below P T (mkF m pc2 ls st)) : Go p e below P T (mkF m pc ls (y :: x :: st)) := by
  obtain ⟨w1, w2, w3, w4, vm0, k0, locs, X, r⟩ := W
  exact K.st fun t q => acmp X w1 rfl h1 h2 (same := false) rfl hd rfl (by simp [hc]) ho (by simp [acV, hp2]) q
theorem g_acmpeq (W : Wd p l e R s m args below meth c Z a0 EL own F T h k n) {pc pc1 pc2 : Nat} {ls : Array Slot} {st : List Value} {o : Int} {x y : Value} (hd : decode c.code pc = .ok (.if_acmp .eq o, 3)) (ho : 0 ≤ (pc : Int) + o) (hp1 : ((pc : Int) + o).toNat = pc1) (hp2 : pc + 3 = pc2) (h1 : x.isRef = true) (h2 : y.isRef = true) (K1 : x = y → Go p e below P T (mkF m pc1 ls st)) (K2 : ¬ x = y → Go p e below P T (mkF m pc2 ls st)) : Go p e below P T (mkF m pc ls (y :: x :: st)) := by
  by_cases hc : x = y
  · exact g_acmpeqY W hd ho hp1 hp2 h1 h2 hc (K1 hc)
  · exact g_acmpeqN W hd ho hp1 hp2 h1 h2 (by first | exact hc | exact Decidable.not_not.mp hc) (K2 (by first | exact hc | exact Decidable.not_not.mp hc))
theorem g_acmpneY (W : Wd p l e R s m args below meth c Z a0 EL own F T h k n) {pc pc1 pc2 : Nat} {ls : Array Slot} {st : List Value} {o : Int} {x y : Value} (hd : decode c.code pc = .ok (.if_acmp .ne o, 3)) (ho : 0 ≤ (pc : Int) + o) (hp1 : ((pc : Int) + o).toNat = pc1) (hp2 : pc + 3 = pc2) (h1 : x.isRef = true) (h2 : y.isRef = true) (hc : ¬ x = y) (K : Go p e below P T (mkF m pc1 ls st)) : Go p e below P T (mkF m pc ls (y :: x :: st)) := by
  obtain ⟨w1, w2, w3, w4, vm0, k0, locs, X, r⟩ := W
  exact K.st fun t q => acmp X w1 rfl h1 h2 (same := false) rfl hd rfl (by simp [hc]) ho (by simp [acV, hp1]) q
theorem g_acmpneN (W : Wd p l e R s m args below meth c Z a0 EL own F T h k n) {pc pc1 pc2 : Nat} {ls : Array Slot} {st : List Value} {o : Int} {x y : Value} (hd : decode c.code pc = .ok (.if_acmp .ne o, 3)) (ho : 0 ≤ (pc : Int) + o) (hp1 : ((pc : Int) + o).toNat = pc1) (hp2 : pc + 3 = pc2) (h1 : x.isRef = true) (h2 : y.isRef = true) (hc : x = y) (K : Go p e below P T (mkF m pc2 ls st)) : Go p e below P T (mkF m pc ls (y :: x :: st)) := by
  obtain ⟨w1, w2, w3, w4, vm0, k0, locs, X, r⟩ := W
  exact K.st fun t q => acmp X w1 rfl h1 h2 (same := true) rfl hd rfl (by simp [hc]) ho (by simp [acV, hp2]) q
theorem g_acmpne (W : Wd p l e R s m args below meth c Z a0 EL own F T h k n) {pc pc1 pc2 : Nat} {ls : Array Slot} {st : List Value} {o : Int} {x y : Value} (hd : decode c.code pc = .ok (.if_acmp .ne o, 3)) (ho : 0 ≤ (pc : Int) + o) (hp1 : ((pc : Int) + o).toNat = pc1) (hp2 : pc + 3 = pc2) (h1 : x.isRef = true) (h2 : y.isRef = true) (K1 : ¬ x = y → Go p e below P T (mkF m pc1 ls st)) (K2 : x = y → Go p e below P T (mkF m pc2 ls st)) : Go p e below P T (mkF m pc ls (y :: x :: st)) := by
  by_cases hc : ¬ x = y
  · exact g_acmpneY W hd ho hp1 hp2 h1 h2 hc (K1 hc)
  · exact g_acmpneN W hd ho hp1 hp2 h1 h2 (by first | exact hc | exact Decidable.not_not.mp hc) (K2 (by first | exact hc | exact Decidable.not_not.mp hc))
theorem g_icmpeqB (W : Wd p l e R s m args below meth c Z a0 EL own F T h k n) {pc pc1 pc2 pc3 pcJ : Nat} {ls : Array Slot} {st : List Value} {x y : Int32} {o o2 i1 i2 : Int} {v1 v2 : Int32} (hd : decode c.code pc = .ok (.if_icmp .eq o, 3)) (ho : 0 ≤ (pc : Int) + o) (hp1 : ((pc : Int) + o).toNat = pc1) (hp2 : pc + 3 = pc2) (hd1 : decode c.code pc2 = .ok (.iconst i1, 1)) (hp3 : pc2 + 1 = pc3) (hd2 : decode c.code pc3 = .ok (.goto o2, 3)) (ho2 : 0 ≤ (pc3 : Int) + o2) (hpJ : ((pc3 : Int) + o2).toNat = pcJ) (hd3 : decode c.code pc1 = .ok (.iconst i2, 1)) (hpJ2 : pc1 + 1 = pcJ) (hv1 : Int32.ofInt i1 = v1) (hv2 : Int32.ofInt i2 = v2) (K : Go p e below P T (mkF m pcJ ls (.int (if x = y then v2 else v1) :: st))) : Go p e below P T (mkF m pc ls (.int y :: .int x :: st)) := by
  refine g_icmpeq W hd ho hp1 hp2 (fun q => ?_) (fun q => ?_)
  · refine g_iconst W hd3 hpJ2 hv2 ?_
    have e : (if x = y then v2 else v1) = v2 := by simp [q]
    rw [e] at K
    exact K
  · refine g_iconst W hd1 hp3 hv1 (g_goto W hd2 ho2 hpJ ?_)
    have e : (if x = y then v2 else v1) = v1 := by simp [q]
    rw [e] at K
    exact K
theorem g_ifeqB (W : Wd p l e R s m args below meth c Z a0 EL own F T h k n) {pc pc1 pc2 pc3 pcJ : Nat} {ls : Array Slot} {st : List Value} {x : Int32} {o o2 i1 i2 : Int} {v1 v2 : Int32} (hd : decode c.code pc = .ok (.ifCond .eq o, 3)) (ho : 0 ≤ (pc : Int) + o) (hp1 : ((pc : Int) + o).toNat = pc1) (hp2 : pc + 3 = pc2) (hd1 : decode c.code pc2 = .ok (.iconst i1, 1)) (hp3 : pc2 + 1 = pc3) (hd2 : decode c.code pc3 = .ok (.goto o2, 3)) (ho2 : 0 ≤ (pc3 : Int) + o2) (hpJ : ((pc3 : Int) + o2).toNat = pcJ) (hd3 : decode c.code pc1 = .ok (.iconst i2, 1)) (hpJ2 : pc1 + 1 = pcJ) (hv1 : Int32.ofInt i1 = v1) (hv2 : Int32.ofInt i2 = v2) (K : Go p e below P T (mkF m pcJ ls (.int (if x = 0 then v2 else v1) :: st))) : Go p e below P T (mkF m pc ls (.int x :: st)) := by
  refine g_ifeq W hd ho hp1 hp2 (fun q => ?_) (fun q => ?_)
  · refine g_iconst W hd3 hpJ2 hv2 ?_
    have e : (if x = 0 then v2 else v1) = v2 := by simp [q]
    rw [e] at K
    exact K
  · refine g_iconst W hd1 hp3 hv1 (g_goto W hd2 ho2 hpJ ?_)
    have e : (if x = 0 then v2 else v1) = v1 := by simp [q]
    rw [e] at K
    exact K
theorem g_icmpneB (W : Wd p l e R s m args below meth c Z a0 EL own F T h k n) {pc pc1 pc2 pc3 pcJ : Nat} {ls : Array Slot} {st : List Value} {x y : Int32} {o o2 i1 i2 : Int} {v1 v2 : Int32} (hd : decode c.code pc = .ok (.if_icmp .ne o, 3)) (ho : 0 ≤ (pc : Int) + o) (hp1 : ((pc : Int) + o).toNat = pc1) (hp2 : pc + 3 = pc2) (hd1 : decode c.code pc2 = .ok (.iconst i1, 1)) (hp3 : pc2 + 1 = pc3) (hd2 : decode c.code pc3 = .ok (.goto o2, 3)) (ho2 : 0 ≤ (pc3 : Int) + o2) (hpJ : ((pc3 : Int) + o2).toNat = pcJ) (hd3 : decode c.code pc1 = .ok (.iconst i2, 1)) (hpJ2 : pc1 + 1 = pcJ) (hv1 : Int32.ofInt i1 = v1) (hv2 : Int32.ofInt i2 = v2) (K : Go p e below P T (mkF m pcJ ls (.int (if ¬ x = y then v2 else v1) :: st))) : Go p e below P T (mkF m pc ls (.int y :: .int x :: st)) := by
  refine g_icmpne W hd ho hp1 hp2 (fun q => ?_) (fun q => ?_)
  · refine g_iconst W hd3 hpJ2 hv2 ?_
    have e : (if ¬ x = y then v2 else v1) = v2 := by simp [q]
    rw [e] at K
    exact K
  · refine g_iconst W hd1 hp3 hv1 (g_goto W hd2 ho2 hpJ ?_)
    have e : (if ¬ x = y then v2 else v1) = v1 := by simp [q]
    rw [e] at K
    exact K
theorem g_ifneB (W : Wd p l e R s m args below meth c Z a0 EL own F T h k n) {pc pc1 pc2 pc3 pcJ : Nat} {ls : Array Slot} {st : List Value} {x : Int32} {o o2 i1 i2 : Int} {v1 v2 : Int32} (hd : decode c.code pc = .ok (.ifCond .ne o, 3)) (ho : 0 ≤ (pc : Int) + o) (hp1 : ((pc : Int) + o).toNat = pc1) (hp2 : pc + 3 = pc2) (hd1 : decode c.code pc2 = .ok (.iconst i1, 1)) (hp3 : pc2 + 1 = pc3) (hd2 : decode c.code pc3 = .ok (.goto o2, 3)) (ho2 : 0 ≤ (pc3 : Int) + o2) (hpJ : ((pc3 : Int) + o2).toNat = pcJ) (hd3 : decode c.code pc1 = .ok (.iconst i2, 1)) (hpJ2 : pc1 + 1 = pcJ) (hv1 : Int32.ofInt i1 = v1) (hv2 : Int32.ofInt i2 = v2) (K : Go p e below P T (mkF m pcJ ls (.int (if ¬ x = 0 then v2 else v1) :: st))) : Go p e below P T (mkF m pc ls (.int x :: st)) := by
  refine g_ifne W hd ho hp1 hp2 (fun q => ?_) (fun q => ?_)
  · refine g_iconst W hd3 hpJ2 hv2 ?_
    have e : (if ¬ x = 0 then v2 else v1) = v2 := by simp [q]
    rw [e] at K
    exact K
  · refine g_iconst W hd1 hp3 hv1 (g_goto W hd2 ho2 hpJ ?_)
    have e : (if ¬ x = 0 then v2 else v1) = v1 := by simp [q]
    rw [e] at K
    exact K
theorem g_icmpltB (W : Wd p l e R s m args below meth c Z a0 EL own F T h k n) {pc pc1 pc2 pc3 pcJ : Nat} {ls : Array Slot} {st : List Value} {x y : Int32} {o o2 i1 i2 : Int} {v1 v2 : Int32} (hd : decode c.code pc = .ok (.if_icmp .lt o, 3)) (ho : 0 ≤ (pc : Int) + o) (hp1 : ((pc : Int) + o).toNat = pc1) (hp2 : pc + 3 = pc2) (hd1 : decode c.code pc2 = .ok (.iconst i1, 1)) (hp3 : pc2 + 1 = pc3) (hd2 : decode c.code pc3 = .ok (.goto o2, 3)) (ho2 : 0 ≤ (pc3 : Int) + o2) (hpJ : ((pc3 : Int) + o2).toNat = pcJ) (hd3 : decode c.code pc1 = .ok (.iconst i2, 1)) (hpJ2 : pc1 + 1 = pcJ) (hv1 : Int32.ofInt i1 = v1) (hv2 : Int32.ofInt i2 = v2) (K : Go p e below P T (mkF m pcJ ls (.int (if x < y then v2 else v1) :: st))) : Go p e below P T (mkF m pc ls (.int y :: .int x :: st)) := by
  refine g_icmplt W hd ho hp1 hp2 (fun q => ?_) (fun q => ?_)
  · refine g_iconst W hd3 hpJ2 hv2 ?_
    have e : (if x < y then v2 else v1) = v2 := by simp [q]
    rw [e] at K
    exact K
  · refine g_iconst W hd1 hp3 hv1 (g_goto W hd2 ho2 hpJ ?_)
    have e : (if x < y then v2 else v1) = v1 := by simp [q]
    rw [e] at K
    exact K
theorem g_ifltB (W : Wd p l e R s m args below meth c Z a0 EL own F T h k n) {pc pc1 pc2 pc3 pcJ : Nat} {ls : Array Slot} {st : List Value} {x : Int32} {o o2 i1 i2 : Int} {v1 v2 : Int32} (hd : decode c.code pc = .ok (.ifCond .lt o, 3)) (ho : 0 ≤ (pc : Int) + o) (hp1 : ((pc : Int) + o).toNat = pc1) (hp2 : pc + 3 = pc2) (hd1 : decode c.code pc2 = .ok (.iconst i1, 1)) (hp3 : pc2 + 1 = pc3) (hd2 : decode c.code pc3 = .ok (.goto o2, 3)) (ho2 : 0 ≤ (pc3 : Int) + o2) (hpJ : ((pc3 : Int) + o2).toNat = pcJ) (hd3 : decode c.code pc1 = .ok (.iconst i2, 1)) (hpJ2 : pc1 + 1 = pcJ) (hv1 : Int32.ofInt i1 = v1) (hv2 : Int32.ofInt i2 = v2) (K : Go p e below P T (mkF m pcJ ls (.int (if x < 0 then v2 else v1) :: st))) : Go p e below P T (mkF m pc ls (.int x :: st)) := by
  refine g_iflt W hd ho hp1 hp2 (fun q => ?_) (fun q => ?_)
  · refine g_iconst W hd3 hpJ2 hv2 ?_
    have e : (if x < 0 then v2 else v1) = v2 := by simp [q]
    rw [e] at K
    exact K
  · refine g_iconst W hd1 hp3 hv1 (g_goto W hd2 ho2 hpJ ?_)
    have e : (if x < 0 then v2 else v1) = v1 := by simp [q]
    rw [e] at K
    exact K
theorem g_icmpgeB (W : Wd p l e R s m args below meth c Z a0 EL own F T h k n) {pc pc1 pc2 pc3 pcJ : Nat} {ls : Array Slot} {st : List Value} {x y : Int32} {o o2 i1 i2 : Int} {v1 v2 : Int32} (hd : decode c.code pc = .ok (.if_icmp .ge o, 3)) (ho : 0 ≤ (pc : Int) + o) (hp1 : ((pc : Int) + o).toNat = pc1) (hp2 : pc + 3 = pc2) (hd1 : decode c.code pc2 = .ok (.iconst i1, 1)) (hp3 : pc2 + 1 = pc3) (hd2 : decode c.code pc3 = .ok (.goto o2, 3)) (ho2 : 0 ≤ (pc3 : Int) + o2) (hpJ : ((pc3 : Int) + o2).toNat = pcJ) (hd3 : decode c.code pc1 = .ok (.iconst i2, 1)) (hpJ2 : pc1 + 1 = pcJ) (hv1 : Int32.ofInt i1 = v1) (hv2 : Int32.ofInt i2 = v2) (K : Go p e below P T (mkF m pcJ ls (.int (if ¬ x < y then v2 else v1) :: st))) : Go p e below P T (mkF m pc ls (.int y :: .int x :: st)) := by
  refine g_icmpge W hd ho hp1 hp2 (fun q => ?_) (fun q => ?_)
  · refine g_iconst W hd3 hpJ2 hv2 ?_
    have e : (if ¬ x < y then v2 else v1) = v2 := by simp [q]
    rw [e] at K
    exact K
  · refine g_iconst W hd1 hp3 hv1 (g_goto W hd2 ho2 hpJ ?_)
    have e : (if ¬ x < y then v2 else v1) = v1 := by simp [q]
    rw [e] at K
    exact K
theorem g_ifgeB (W : Wd p l e R s m args below meth c Z a0 EL own F T h k n) {pc pc1 pc2 pc3 pcJ : Nat} {ls : Array Slot} {st : List Value} {x : Int32} {o o2 i1 i2 : Int} {v1 v2 : Int32} (hd : decode c.code pc = .ok (.ifCond .ge o, 3)) (ho : 0 ≤ (pc : Int) + o) (hp1 : ((pc : Int) + o).toNat = pc1) (hp2 : pc + 3 = pc2) (hd1 : decode c.code pc2 = .ok (.iconst i1, 1)) (hp3 : pc2 + 1 = pc3) (hd2 : decode c.code pc3 = .ok (.goto o2, 3)) (ho2 : 0 ≤ (pc3 : Int) + o2) (hpJ : ((pc3 : Int) + o2).toNat = pcJ) (hd3 : decode c.code pc1 = .ok (.iconst i2, 1)) (hpJ2 : pc1 + 1 = pcJ) (hv1 : Int32.ofInt i1 = v1) (hv2 : Int32.ofInt i2 = v2) (K : Go p e below P T (mkF m pcJ ls (.int (if ¬ x < 0 then v2 else v1) :: st))) : Go p e below P T (mkF m pc ls (.int x :: st)) := by
  refine g_ifge W hd ho hp1 hp2 (fun q => ?_) (fun q => ?_)
  · refine g_iconst W hd3 hpJ2 hv2 ?_
    have e : (if ¬ x < 0 then v2 else v1) = v2 := by simp [q]
    rw [e] at K
    exact K
  · refine g_iconst W hd1 hp3 hv1 (g_goto W hd2 ho2 hpJ ?_)
    have e : (if ¬ x < 0 then v2 else v1) = v1 := by simp [q]
    rw [e] at K
    exact K
theorem g_icmpgtB (W : Wd p l e R s m args below meth c Z a0 EL own F T h k n) {pc pc1 pc2 pc3 pcJ : Nat} {ls : Array Slot} {st : List Value} {x y : Int32} {o o2 i1 i2 : Int} {v1 v2 : Int32} (hd : decode c.code pc = .ok (.if_icmp .gt o, 3)) (ho : 0 ≤ (pc : Int) + o) (hp1 : ((pc : Int) + o).toNat = pc1) (hp2 : pc + 3 = pc2) (hd1 : decode c.code pc2 = .ok (.iconst i1, 1)) (hp3 : pc2 + 1 = pc3) (hd2 : decode c.code pc3 = .ok (.goto o2, 3)) (ho2 : 0 ≤ (pc3 : Int) + o2) (hpJ : ((pc3 : Int) + o2).toNat = pcJ) (hd3 : decode c.code pc1 = .ok (.iconst i2, 1)) (hpJ2 : pc1 + 1 = pcJ) (hv1 : Int32.ofInt i1 = v1) (hv2 : Int32.ofInt i2 = v2) (K : Go p e below P T (mkF m pcJ ls (.int (if y < x then v2 else v1) :: st))) : Go p e below P T (mkF m pc ls (.int y :: .int x :: st)) := by
  refine g_icmpgt W hd ho hp1 hp2 (fun q => ?_) (fun q => ?_)
  · refine g_iconst W hd3 hpJ2 hv2 ?_
    have e : (if y < x then v2 else v1) = v2 := by simp [q]
    rw [e] at K
    exact K
  · refine g_iconst W hd1 hp3 hv1 (g_goto W hd2 ho2 hpJ ?_)
    have e : (if y < x then v2 else v1) = v1 := by simp [q]
    rw [e] at K
    exact K
theorem g_ifgtB (W : Wd p l e R s m args below meth c Z a0 EL own F T h k n) {pc pc1 pc2 pc3 pcJ : Nat} {ls : Array Slot} {st : List Value} {x : Int32} {o o2 i1 i2 : Int} {v1 v2 : Int32} (hd : decode c.code pc = .ok (.ifCond .gt o, 3)) (ho : 0 ≤ (pc : Int) + o) (hp1 : ((pc : Int) + o).toNat = pc1) (hp2 : pc + 3 = pc2) (hd1 : decode c.code pc2 = .ok (.iconst i1, 1)) (hp3 : pc2 + 1 = pc3) (hd2 : decode c.code pc3 = .ok (.goto o2, 3)) (ho2 : 0 ≤ (pc3 : Int) + o2) (hpJ : ((pc3 : Int) + o2).toNat = pcJ) (hd3 : decode c.code pc1 = .ok (.iconst i2, 1)) (hpJ2 : pc1 + 1 = pcJ) (hv1 : Int32.ofInt i1 = v1) (hv2 : Int32.ofInt i2 = v2) (K : Go p e below P T (mkF m pcJ ls (.int (if 0 < x then v2 else v1) :: st))) : Go p e below P T (mkF m pc ls (.int x :: st)) := by
  refine g_ifgt W hd ho hp1 hp2 (fun q => ?_) (fun q => ?_)
  · refine g_iconst W hd3 hpJ2 hv2 ?_
    have e : (if 0 < x then v2 else v1) = v2 := by simp [q]
    rw [e] at K
    exact K
  · refine g_iconst W hd1 hp3 hv1 (g_goto W hd2 ho2 hpJ ?_)
    have e : (if 0 < x then v2 else v1) = v1 := by simp [q]
    rw [e] at K
    exact K
theorem g_icmpleB (W : Wd p l e R s m args below meth c Z a0 EL own F T h k n) {pc pc1 pc2 pc3 pcJ : Nat} {ls : Array Slot} {st : List Value} {x y : Int32} {o o2 i1 i2 : Int} {v1 v2 : Int32} (hd : decode c.code pc = .ok (.if_icmp .le o, 3)) (ho : 0 ≤ (pc : Int) + o) (hp1 : ((pc : Int) + o).toNat = pc1) (hp2 : pc + 3 = pc2) (hd1 : decode c.code pc2 = .ok (.iconst i1, 1)) (hp3 : pc2 + 1 = pc3) (hd2 : decode c.code pc3 = .ok (.goto o2, 3)) (ho2 : 0 ≤ (pc3 : Int) + o2) (hpJ : ((pc3 : Int) + o2).toNat = pcJ) (hd3 : decode c.code pc1 = .ok (.iconst i2, 1)) (hpJ2 : pc1 + 1 = pcJ) (hv1 : Int32.ofInt i1 = v1) (hv2 : Int32.ofInt i2 = v2) (K : Go p e below P T (mkF m pcJ ls (.int (if ¬ y < x then v2 else v1) :: st))) : Go p e below P T (mkF m pc ls (.int y :: .int x :: st)) := by
  refine g_icmple W hd ho hp1 hp2 (fun q => ?_) (fun q => ?_)
  · refine g_iconst W hd3 hpJ2 hv2 ?_
    have e : (if ¬ y < x then v2 else v1) = v2 := by simp [q]
    rw [e] at K
    exact K
  · refine g_iconst W hd1 hp3 hv1 (g_goto W hd2 ho2 hpJ ?_)
    have e : (if ¬ y < x then v2 else v1) = v1 := by simp [q]
    rw [e] at K
    exact K
theorem g_ifleB (W : Wd p l e R s m args below meth c Z a0 EL own F T h k n) {pc pc1 pc2 pc3 pcJ : Nat} {ls : Array Slot} {st : List Value} {x : Int32} {o o2 i1 i2 : Int} {v1 v2 : Int32} (hd : decode c.code pc = .ok (.ifCond .le o, 3)) (ho : 0 ≤ (pc : Int) + o) (hp1 : ((pc : Int) + o).toNat = pc1) (hp2 : pc + 3 = pc2) (hd1 : decode c.code pc2 = .ok (.iconst i1, 1)) (hp3 : pc2 + 1 = pc3) (hd2 : decode c.code pc3 = .ok (.goto o2, 3)) (ho2 : 0 ≤ (pc3 : Int) + o2) (hpJ : ((pc3 : Int) + o2).toNat = pcJ) (hd3 : decode c.code pc1 = .ok (.iconst i2, 1)) (hpJ2 : pc1 + 1 = pcJ) (hv1 : Int32.ofInt i1 = v1) (hv2 : Int32.ofInt i2 = v2) (K : Go p e below P T (mkF m pcJ ls (.int (if ¬ 0 < x then v2 else v1) :: st))) : Go p e below P T (mkF m pc ls (.int x :: st)) := by
  refine g_ifle W hd ho hp1 hp2 (fun q => ?_) (fun q => ?_)
  · refine g_iconst W hd3 hpJ2 hv2 ?_
    have e : (if ¬ 0 < x then v2 else v1) = v2 := by simp [q]
    rw [e] at K
    exact K
  · refine g_iconst W hd1 hp3 hv1 (g_goto W hd2 ho2 hpJ ?_)
    have e : (if ¬ 0 < x then v2 else v1) = v1 := by simp [q]
    rw [e] at K
    exact K
theorem g_acmpeqB (W : Wd p l e R s m args below meth c Z a0 EL own F T h k n) {pc pc1 pc2 pc3 pcJ : Nat} {ls : Array Slot} {st : List Value} {x y : Value} {o o2 i1 i2 : Int} {v1 v2 : Int32} (hd : decode c.code pc = .ok (.if_acmp .eq o, 3)) (ho : 0 ≤ (pc : Int) + o) (hp1 : ((pc : Int) + o).toNat = pc1) (hp2 : pc + 3 = pc2) (hd1 : decode c.code pc2 = .ok (.iconst i1, 1)) (hp3 : pc2 + 1 = pc3) (hd2 : decode c.code pc3 = .ok (.goto o2, 3)) (ho2 : 0 ≤ (pc3 : Int) + o2) (hpJ : ((pc3 : Int) + o2).toNat = pcJ) (hd3 : decode c.code pc1 = .ok (.iconst i2, 1)) (hpJ2 : pc1 + 1 = pcJ) (hv1 : Int32.ofInt i1 = v1) (hv2 : Int32.ofInt i2 = v2) (h1 : x.isRef = true) (h2 : y.isRef = true) (K : Go p e below P T (mkF m pcJ ls (.int (if x = y then v2 else v1) :: st))) : Go p e below P T (mkF m pc ls (y :: x :: st)) := by
  refine g_acmpeq W hd ho hp1 hp2 h1 h2 (fun q => ?_) (fun q => ?_)
  · refine g_iconst W hd3 hpJ2 hv2 ?_
    have e : (if x = y then v2 else v1) = v2 := by simp [q]
    rw [e] at K
    exact K
  · refine g_iconst W hd1 hp3 hv1 (g_goto W hd2 ho2 hpJ ?_)
    have e : (if x = y then v2 else v1) = v1 := by simp [q]
    rw [e] at K
    exact K
theorem g_acmpneB (W : Wd p l e R s m args below meth c Z a0 EL own F T h k n) {pc pc1 pc2 pc3 pcJ : Nat} {ls : Array Slot} {st : List Value} {x y : Value} {o o2 i1 i2 : Int} {v1 v2 : Int32} (hd : decode c.code pc = .ok (.if_acmp .ne o, 3)) (ho : 0 ≤ (pc : Int) + o) (hp1 : ((pc : Int) + o).toNat = pc1) (hp2 : pc + 3 = pc2) (hd1 : decode c.code pc2 = .ok (.iconst i1, 1)) (hp3 : pc2 + 1 = pc3) (hd2 : decode c.code pc3 = .ok (.goto o2, 3)) (ho2 : 0 ≤ (pc3 : Int) + o2) (hpJ : ((pc3 : Int) + o2).toNat = pcJ) (hd3 : decode c.code pc1 = .ok (.iconst i2, 1)) (hpJ2 : pc1 + 1 = pcJ) (hv1 : Int32.ofInt i1 = v1) (hv2 : Int32.ofInt i2 = v2) (h1 : x.isRef = true) (h2 : y.isRef = true) (K : Go p e below P T (mkF m pcJ ls (.int (if ¬ x = y then v2 else v1) :: st))) : Go p e below P T (mkF m pc ls (y :: x :: st)) := by
  refine g_acmpne W hd ho hp1 hp2 h1 h2 (fun q => ?_) (fun q => ?_)
  · refine g_iconst W hd3 hpJ2 hv2 ?_
    have e : (if ¬ x = y then v2 else v1) = v2 := by simp [q]
    rw [e] at K
    exact K
  · refine g_iconst W hd1 hp3 hv1 (g_goto W hd2 ho2 hpJ ?_)
    have e : (if ¬ x = y then v2 else v1) = v1 := by simp [q]
    rw [e] at K
    exact K
theorem g_istoreS (W : Wd p l e R s m args below meth c Z a0 EL own F T h k n) {pc pc' : Nat} {ls ls' : Array Slot} {st : List Value} {i : Nat} {v : Int32} {o : Slot} (hd : decode c.code pc = .ok (.istore i, 2)) (hp : pc + 2 = pc') (ho : ls[i]? = some o) (hone : One o) (hl : ls.setIfInBounds i (.val (.int v)) = ls') (K : Go p e below P T (mkF m pc' ls' st)) : Go p e below P T (mkF m pc ls (.int v :: st)) := by
  subst hp hl
  exact K.st fun t q => XS.istoreS W.here W.hx rfl hd rfl ho hone q
theorem g_istoreNS (W : Wd p l e R s m args below meth c Z a0 EL own F T h k n) {pc pc' : Nat} {ls ls' : Array Slot} {st : List Value} {i : Fin 4} {v : Int32} {o : Slot} (hd : decode c.code pc = .ok (.istore_n i, 1)) (hp : pc + 1 = pc') (ho : ls[i.val]? = some o) (hone : One o) (hl : ls.setIfInBounds i.val (.val (.int v)) = ls') (K : Go p e below P T (mkF m pc' ls' st)) : Go p e below P T (mkF m pc ls (.int v :: st)) := by
  subst hp hl
  exact K.st fun t q => XS.istoreNS W.here W.hx rfl hd rfl ho hone q
theorem g_astoreS (W : Wd p l e R s m args below meth c Z a0 EL own F T h k n) {pc pc' : Nat} {ls ls' : Array Slot} {st : List Value} {i : Nat} {v : Value} {o : Slot} (hd : decode c.code pc = .ok (.astore i, 2)) (hp : pc + 2 = pc') (hv : v.isRef = true) (hc : v.category = 1) (ho : ls[i]? = some o) (hone : One o) (hl : ls.setIfInBounds i (.val v) = ls') (K : Go p e below P T (mkF m pc' ls' st)) : Go p e below P T (mkF m pc ls (v :: st)) := by
  subst hp hl
  exact K.st fun t q => XS.astoreS W.here W.hx rfl hd rfl hv hc ho hone q
theorem g_ldcI (W : Wd p l e R s m args below meth c Z a0 EL own F T h k n) {pc pc' : Nat} {ls : Array Slot} {st : List Value} {index : Nat} {v : Int32} (w : (Jvm.Cond.constant own index v).before a0 Z = true) (hd : decode c.code pc = .ok (.ldc index, 2)) (hp : pc + 2 = pc') (K : Go p e below P T (mkF m pc' ls (.int v :: st))) : Go p e below P T (mkF m pc ls st) := by
  subst hp
  obtain ⟨w1, w2, w3, w4, vm0, k0, locs, X, hZ, hown, r⟩ := W
  exact K.st fun t q => X.ldcI w1 (own := own) hown (mv hZ w) rfl hd q
theorem g_ldc2 (W : Wd p l e R s m args below meth c Z a0 EL own F T h k n) {pc pc' : Nat} {ls : Array Slot} {st : List Value} {index : Nat} {v : Int64} (w : (Jvm.Cond.constantLong own index v).before a0 Z = true) (hd : decode c.code pc = .ok (.ldc2_w index, 3)) (hp : pc + 3 = pc') (K : Go p e below P T (mkF m pc' ls (.long v :: st))) : Go p e below P T (mkF m pc ls st) := by
  subst hp
  obtain ⟨w1, w2, w3, w4, vm0, k0, locs, X, hZ, hown, r⟩ := W
  exact K.st fun t q => X.ldc2Long w1 (own := own) hown (mv hZ w) (g := mkF m pc ls st) rfl hd t q
theorem g_retF (W : Wd p l e R s m args below meth c Z a0 EL own F T h k n) {pc : Nat} {ls : Array Slot} {st : List Value} {v : Value} {t : FieldType} {i : Instr} {Q : Option Value → Heap → List Addr → Prop} {k' n' : Nat} (hd : decode c.code pc = .ok (i, 1)) (hret : meth.sig.returnType = some t) (hn : narrow t v = v)
    (hi : (i = .ireturn ∧ (t = .int ∨ t = .boolean ∨ t = .byte ∨ t = .char ∨ t = .short) ∧ ∃ z, v = .int z) ∨ (i = .lreturn ∧ t = .long ∧ ∃ z, v = .long z) ∨ (i = .dreturn ∧ t = .double ∧ ∃ z, v = .double z) ∨ (i = .freturn ∧ t = .float ∧ ∃ z, v = .float z) ∨ (i = .areturn ∧ t.isReference = true ∧ v.isRef = true))
    (hk : k ≤ k') (hs : n ≤ n') {FF : List Addr} (hFF : ∀ x ∈ FF, x ∈ F) (q : Q (some v) h FF) : Go p e below (Endp Z EL s Q k' n') T (mkF m pc ls (v :: st)) :=
  have hx := W.hx
  W.leave hk hs (fun h => by rw [hret] at h; cases h) hFF q fun X hr => retOut X hx hret hn hi hd hr
theorem g_ret (W : Wd p l e R s m args below meth c Z a0 EL own F T h k n) {pc : Nat} {ls : Array Slot} {st : List Value} {v : Value} {t : FieldType} {i : Instr} {Q : Option Value → Heap → List Addr → Prop} {k' n' : Nat} (hd : decode c.code pc = .ok (i, 1)) (hret : meth.sig.returnType = some t) (hn : narrow t v = v)
    (hi : (i = .ireturn ∧ (t = .int ∨ t = .boolean ∨ t = .byte ∨ t = .char ∨ t = .short) ∧ ∃ z, v = .int z) ∨ (i = .lreturn ∧ t = .long ∧ ∃ z, v = .long z) ∨ (i = .dreturn ∧ t = .double ∧ ∃ z, v = .double z) ∨ (i = .freturn ∧ t = .float ∧ ∃ z, v = .float z) ∨ (i = .areturn ∧ t.isReference = true ∧ v.isRef = true))
    (hk : k ≤ k') (hs : n ≤ n') (q : Q (some v) h []) : Go p e below (Endp Z EL s Q k' n') T (mkF m pc ls (v :: st)) :=
  g_retF W hd hret hn hi hk hs (FF := []) (fun x q => nomatch q) q
theorem g_reti (W : Wd p l e R s m args below meth c Z a0 EL own F T h k n) {pc : Nat} {ls : Array Slot} {st : List Value} {v : Int32} {Q : Option Value → Heap → List Addr → Prop} {k' n' : Nat} (hd : decode c.code pc = .ok (.ireturn, 1)) (hret : meth.sig.returnType = some .int) (hk : k ≤ k') (hs : n ≤ n') (q : Q (some (.int v)) h []) : Go p e below (Endp Z EL s Q k' n') T (mkF m pc ls (.int v :: st)) :=
  g_ret W hd hret rfl (Or.inl ⟨rfl, Or.inl rfl, v, rfl⟩) hk hs q
theorem g_retz (W : Wd p l e R s m args below meth c Z a0 EL own F T h k n) {pc : Nat} {ls : Array Slot} {st : List Value} {v : Int32} {Q : Option Value → Heap → List Addr → Prop} {k' n' : Nat} (hd : decode c.code pc = .ok (.ireturn, 1)) (hret : meth.sig.returnType = some .boolean) (hv : v = 0 ∨ v = 1) (hk : k ≤ k') (hs : n ≤ n') (q : Q (some (.int v)) h []) : Go p e below (Endp Z EL s Q k' n') T (mkF m pc ls (.int v :: st)) :=
  g_ret W hd hret (by rcases hv with rfl | rfl <;> rfl) (Or.inl ⟨rfl, Or.inr (Or.inl rfl), v, rfl⟩) hk hs q
theorem g_retc (W : Wd p l e R s m args below meth c Z a0 EL own F T h k n) {pc : Nat} {ls : Array Slot} {st : List Value} {v : Int32} {Q : Option Value → Heap → List Addr → Prop} {k' n' : Nat} (hd : decode c.code pc = .ok (.ireturn, 1)) (hret : meth.sig.returnType = some .char) (hv : narrow .char (.int v) = .int v) (hk : k ≤ k') (hs : n ≤ n') (q : Q (some (.int v)) h []) : Go p e below (Endp Z EL s Q k' n') T (mkF m pc ls (.int v :: st)) :=
  g_ret W hd hret hv (Or.inl ⟨rfl, Or.inr (Or.inr (Or.inr (Or.inl rfl))), v, rfl⟩) hk hs q
theorem g_areturn (W : Wd p l e R s m args below meth c Z a0 EL own F T h k n) {pc : Nat} {ls : Array Slot} {st : List Value} {v : Value} {t : FieldType} {Q : Option Value → Heap → List Addr → Prop} {k' n' : Nat} (hd : decode c.code pc = .ok (.areturn, 1)) (hret : meth.sig.returnType = some t) (ht : t.isReference = true) (hv : v.isRef = true) (hk : k ≤ k') (hs : n ≤ n') (q : Q (some v) h []) : Go p e below (Endp Z EL s Q k' n') T (mkF m pc ls (v :: st)) :=
  g_ret W hd hret (by rcases ref_cases hv with rfl | ⟨z, rfl⟩ <;> cases t <;> first | rfl | cases ht) (Or.inr (Or.inr (Or.inr (Or.inr ⟨rfl, ht, hv⟩)))) hk hs q
theorem g_return (W : Wd p l e R s m args below meth c Z a0 EL own F T h k n) {pc : Nat} {ls : Array Slot} {Q : Option Value → Heap → List Addr → Prop} {k' n' : Nat} (hd : decode c.code pc = .ok (.return_, 1)) (hret : meth.sig.returnType = none) (hk : k ≤ k') (hs : n ≤ n') (q : Q none h []) : Go p e below (Endp Z EL s Q k' n') T (mkF m pc ls []) :=
  have hx := W.hx
  W.leave hk hs (fun _ => rfl) (FF := []) (fun x q => nomatch q) q fun X hr => X.returnOut hx hret hd hr
theorem g_returnF (W : Wd p l e R s m args below meth c Z a0 EL own F T h k n) {pc : Nat} {ls : Array Slot} {Q : Option Value → Heap → List Addr → Prop} {k' n' : Nat} (hd : decode c.code pc = .ok (.return_, 1)) (hret : meth.sig.returnType = none) (hk : k ≤ k') (hs : n ≤ n') {FF : List Addr} (hFF : ∀ x ∈ FF, x ∈ F) (q : Q none h FF) : Go p e below (Endp Z EL s Q k' n') T (mkF m pc ls []) :=
  have hx := W.hx
  W.leave hk hs (fun _ => rfl) hFF q fun X hr => X.returnOut hx hret hd hr
theorem g_areturnF (W : Wd p l e R s m args below meth c Z a0 EL own F T h k n) {pc : Nat} {ls : Array Slot} {st : List Value} {v : Value} {t : FieldType} {Q : Option Value → Heap → List Addr → Prop} {k' n' : Nat} (hd : decode c.code pc = .ok (.areturn, 1)) (hret : meth.sig.returnType = some t) (ht : t.isReference = true) (hv : v.isRef = true) (hk : k ≤ k') (hs : n ≤ n') {FF : List Addr} (hFF : ∀ x ∈ FF, x ∈ F) (q : Q (some v) h FF) : Go p e below (Endp Z EL s Q k' n') T (mkF m pc ls (v :: st)) :=
  g_retF W hd hret (by rcases ref_cases hv with rfl | ⟨z, rfl⟩ <;> cases t <;> first | rfl | cases ht) (Or.inr (Or.inr (Or.inr (Or.inr ⟨rfl, ht, hv⟩)))) hk hs hFF q
end OwnB
/-! own kit, part C: heap steps and calls -/
section OwnC
variable {p : Program} {l : Launch} {e : Env} {R : Room} {s : State} {m : MethodId} {args : Array Value} {below : List Frame} {meth : Method} {c : Code} {T T' : State} {h h' : Heap} {Z : State} {a0 : Array Value} {EL : List (String × Nat)} {own : String} {k n : Nat} {P : Outcome → State → Prop} {F : List Addr}
theorem g_getfield (W : Wd p l e R s m args below meth c Z a0 EL own F T h k n) {pc pc' : Nat} {ls : Array Slot} {st : List Value} {R0 O nm d host : String} {index : Nat} (w : (Jvm.Cond.fieldLink own index R0 nm d).before a0 Z = true ∨ (Jvm.Cond.fieldLinkNest own index R0 nm d host).before a0 Z = true) (via : Via Z R0 O nm d) {a : Addr} {v : Value} (Fl : Fld Z h a O nm d v)
    (hd : decode c.code pc = .ok (.getfield index, 3)) (hp : pc + 3 = pc') (K : ∀ T', Wd p l e R s m args below meth c Z a0 EL own F T' h k n → Go p e below P T' (mkF m pc' ls (v :: st))) : Go p e below P T (mkF m pc ls (.ref a :: st)) := by
  subst hp
  exact W.grow (fun X hZ hown eT => getF X W.hx hZ hown w via eT Fl rfl rfl hd) (ext_refl h) K
theorem g_getstatic (W : Wd p l e R s m args below meth c Z a0 EL own F T h k n) {pc pc' : Nat} {ls : Array Slot} {st : List Value} {R0 O nm d host : String} {index : Nat} (w : (Jvm.Cond.fieldLink own index R0 nm d).before a0 Z = true ∨ (Jvm.Cond.fieldLinkNest own index R0 nm d host).before a0 Z = true) (via : Via Z R0 O nm d) {v : Value} (Fl : Sta Z h O nm d v)
    (hd : decode c.code pc = .ok (.getstatic index, 3)) (hp : pc + 3 = pc') (K : ∀ T', Wd p l e R s m args below meth c Z a0 EL own F T' h k n → Go p e below P T' (mkF m pc' ls (v :: st))) : Go p e below P T (mkF m pc ls st) := by
  subst hp
  exact W.grow (fun X hZ hown eT => getS2 X W.hx hZ hown w via eT Fl rfl hd) (ext_refl h) K
theorem g_putfield (W : Wd p l e R s m args below meth c Z a0 EL own F T h k n) {pc pc' : Nat} {ls : Array Slot} {st : List Value} {R0 O nm d host C : String} {index kk : Nat} {ty : FieldType} (w : (Jvm.Cond.fieldLink own index R0 nm d).before a0 Z = true ∨ (Jvm.Cond.fieldLinkNest own index R0 nm d host).before a0 Z = true) (via : Via Z R0 O nm d) {a : Addr} {v old : Value} (Fl : Fld Z h a O nm d old) (E : Exa Z h a C)
    (L : (Jvm.Cond.lays C O nm d).before a0 Z = true ∨ ((Jvm.Cond.laysFinal C O nm d).before a0 Z = true ∧ own = O ∧ meth.name = "<init>")) (wi : (Jvm.Cond.instantiable C kk).before a0 Z = true) (hty : parseFieldDescriptor d = some ty) (hn : narrow ty v = v) (hf : fits ty v = true) (q : Wok Z F h a)
    (hd : decode c.code pc = .ok (.putfield index, 3)) (hp : pc + 3 = pc') (K : ∀ T' h', Wd p l e R s m args below meth c Z a0 EL own F T' h' k n → Wr h h' a (Jvm.RoadKit.slotOf Z O nm d) v → Go p e below P T' (mkF m pc' ls st)) : Go p e below P T (mkF m pc ls (v :: .ref a :: st)) := by
  subst hp
  exact W.write q (fun X hZ hown eT => putF X W.hx hZ hown w via eT Fl E L wi hty hn hf rfl rfl hd) K
/-- a step that makes one cell: it is one of the walk's own -/
theorem Wd.make (W : Wd p l e R s m args below meth c Z a0 EL own F T h k n) {k' n' : Nat} {g g' : JFrame} {B : Heap → Prop}
    (st : ∀ {vm0 : Vm} {locs : List Loc}, Stand p l e R (s.setVm vm0) m args below meth c T locs k n → Z.Warmed39 vm0 → vm0.findClass own = some m.cls → T.heap = h →
      ∃ T' h', Stand p l e R (s.setVm vm0) m args below meth c T' locs k' n' ∧ T'.heap = h' ∧ Ext h h' ∧ h.size < h'.size ∧ B h' ∧ ∀ target, Steps p.tables e below (T'.setTop g') target → Steps p.tables e below (T.setTop g) target)
    (K : ∀ T' h', Wd p l e R s m args below meth c Z a0 EL own (h.size :: F) T' h' k' n' → Ext h h' → B h' → Go p e below P T' g') : Go p e below P T g := by
  obtain ⟨w1, w2, w3, w4, vm0, k0, locs, X, hZ, hown, eT, hS, hk, hC, hN, hH, hF⟩ := W
  obtain ⟨T', h', X', eT', E, hlt, hB, st⟩ := st X hZ hown eT
  refine (K T' h' ⟨w1, ext_trans w2 E, w3, w4, vm0, k0, locs, X', hZ, hown, eT', hS, Nat.le_trans hk E.1, hC.trans (CHr.ext E hC.1), hN, hH, fun x q => ?_⟩ E hB).st st
  rcases List.mem_cons.mp q with rfl | q
  · exact ⟨hlt, Safe.ext E hC.1 (Safe.new (Nat.le_refl _))⟩
  · exact ⟨Nat.lt_of_lt_of_le (hF x q).1 E.1, Safe.ext E hC.1 (hF x q).2⟩
theorem g_new (W : Wd p l e R s m args below meth c Z a0 EL own F T h k n) {pc pc' : Nat} {ls : Array Slot} {st : List Value} {C : String} {index nn : Nat} (w : (Jvm.Cond.classLink own index C).before a0 Z = true) (wi : (Jvm.Cond.instantiable C nn).before a0 Z = true) (wz : (Jvm.Cond.initialized C).before a0 Z = true)
    (hd : decode c.code pc = .ok (.new index, 3)) (hp : pc + 3 = pc') (hc : k + 1 ≤ R.cells) (hl : n + nn ≤ R.slots)
    (K : ∀ x T' h', h.size ≤ x → Wd p l e R s m args below meth c Z a0 EL own (x :: F) T' h' (k + 1) (n + nn) → Ext h h' → (Exa Z h' x C ∧ ∀ {O nm d : String} {ty : FieldType}, Laid Z a0 C O nm d → parseFieldDescriptor d = some ty → Fld Z h' x O nm d (defaultValue ty)) → Go p e below P T' (mkF m pc' ls (.ref x :: st))) : Go p e below P T (mkF m pc ls st) := by
  subst hp
  refine W.make (B := fun h' => Exa Z h' h.size C ∧ ∀ {O nm d : String} {ty : FieldType}, Laid Z a0 C O nm d → parseFieldDescriptor d = some ty → Fld Z h' h.size O nm d (defaultValue ty)) (fun X hZ hown eT => ?_) (fun T' h' => K h.size T' h' (Nat.le_refl _))
  obtain ⟨T', h', X', e1, E, A, D, -, st⟩ := newO X W.hx hZ hown w wi wz eT (g := mkF m pc ls st) rfl hd hc hl
  exact ⟨T', h', X', e1, E, A.lt, ⟨A, D⟩, st⟩
/-- an array whose components are these -/
def Ali (Z : State) (h : Heap) (a : Addr) (ty : FieldType) (vs : List Value) : Prop := ∃ cell : Cell, Arr Z h a cell ty ∧ cell.slots.toList = vs ∧ vs.length < 2 ^ 31
theorem Ali.lt {a : Addr} {ty : FieldType} {vs : List Value} (A : Ali Z h a ty vs) : a < h.size := by obtain ⟨c, q, -⟩ := A; exact q.lt
theorem Ali.ext {a : Addr} {ty : FieldType} {vs : List Value} (E : Ext h h') (A : Ali Z h a ty vs) : Ali Z h' a ty vs := by obtain ⟨c, q, r⟩ := A; exact ⟨c, q.ext E, r⟩
theorem Ali.keep {a : Addr} {ty : FieldType} {vs : List Value} {ws : List Addr} (K : Keep h h' ws) (q : a ∉ ws) (A : Ali Z h a ty vs) : Ali Z h' a ty vs := by obtain ⟨c, r, t⟩ := A; exact ⟨c, ⟨K.2.1 _ _ r.1 q, r.2⟩, t⟩
theorem Ali.wok {a : Addr} {ty : FieldType} {vs : List Value} (A : Ali Z h a ty vs) (ht : ty ≠ .byte) (q : Z.heap.size ≤ a) : Wok Z F h a := by obtain ⟨c, r, -⟩ := A; exact ⟨q, Or.inr (Or.inr ⟨c, ty, r, ht⟩)⟩
theorem g_newarray (W : Wd p l e R s m args below meth c Z a0 EL own F T h k n) {pc pc' : Nat} {ls : Array Slot} {st : List Value} {aty : ArrayType} {ty : FieldType} (ht : newarray.typeOf aty = ty) {z : Int32} {i : Nat} (hz : ¬ z < 0) (hi : z.toNatClampNeg = i) (w : (Jvm.Cond.arrayClass ty).before a0 Z = true)
    (hd : decode c.code pc = .ok (.newarray aty, 2)) (hp : pc + 2 = pc') {cap : Nat} (hcap : i ≤ cap) (hb : cap * 8 ≤ 536870912) (hc : k + 1 ≤ R.cells) (hl : n + cap ≤ R.slots)
    (K : ∀ x T' h', h.size ≤ x → Wd p l e R s m args below meth c Z a0 EL own (x :: F) T' h' (k + 1) (n + cap) → Ext h h' → Ali Z h' x ty (List.replicate i (defaultValue ty)) → Go p e below P T' (mkF m pc' ls (.ref x :: st))) : Go p e below P T (mkF m pc ls (.int z :: st)) := by
  subst hp ht
  refine W.make (B := fun h' => Ali Z h' h.size (newarray.typeOf aty) (List.replicate i (defaultValue (newarray.typeOf aty)))) (fun X hZ hown eT => ?_) (fun T' h' => K h.size T' h' (Nat.le_refl _))
  obtain ⟨T', h', cA, X', e1, E, A, st⟩ := newP X W.hx hZ w eT (g := mkF m pc ls (.int z :: st)) rfl hd rfl hz (by rw [hi]; exact hcap) hb hc hl
  refine ⟨T', h', X', e1, E, A.lt, ⟨_, A, by simp [newA, hi], ?_⟩, st⟩
  rw [List.length_replicate]
  have := (back32 hz).2
  omega
theorem Ali.get {a : Addr} {ty : FieldType} {vs : List Value} (A : Ali Z h a ty vs) : ∃ cell : Cell, Arr Z h a cell ty ∧ cell.slots.size = vs.length ∧ ∀ i : Nat, cell.slots[i]? = vs[i]? := by
  obtain ⟨c, A, rfl, -⟩ := A
  exact ⟨c, A, by simp, fun i => by simp⟩
theorem Ali.set {a : Addr} {ty : FieldType} {vs : List Value} {i : Nat} {v : Value} (A : Ali Z h a ty vs) (W : Wr h h' a i v) : Ali Z h' a ty (vs.set i v) := by
  obtain ⟨c, A, rfl, q⟩ := A
  exact ⟨_, A.same W, by simp [Cell.setSlot], by simpa using q⟩
theorem g_castore (W : Wd p l e R s m args below meth c Z a0 EL own F T h k n) {pc pc' : Nat} {ls : Array Slot} {st : List Value} {a : Addr} {cs : List Int32} (A : Ali Z h a .char (cs.map Value.int)) (q : Z.heap.size ≤ a) {j x : Int32} {i : Nat} (hj : ¬ j < 0) (hi : j.toNatClampNeg = i) (hlt : i < cs.length) (hx0 : ¬ x < 0) (hx1 : ¬ 65535 < x)
    (hd : decode c.code pc = .ok (.castore, 1)) (hp : pc + 1 = pc')
    (K : ∀ T' h', Wd p l e R s m args below meth c Z a0 EL own F T' h' k n → Keep h h' [a] → Ali Z h' a .char ((cs.set i x).map Value.int) → Go p e below P T' (mkF m pc' ls st)) : Go p e below P T (mkF m pc ls (.int x :: .int j :: .ref a :: st)) := by
  subst hp
  obtain ⟨cell, A1, hsz, -⟩ := A.get
  have hn : nar .char x = x := by
    have := c_i2c x
    apply Int32.toInt_inj.mp
    have r := rng32 x
    rw [Int32.lt_iff_toInt_lt] at hx0 hx1
    have e0 : (0 : Int32).toInt = 0 := rfl
    have e1 : (65535 : Int32).toInt = 65535 := rfl
    show x.toUInt32.toUInt16.toUInt32.toInt32.toInt = x.toInt
    omega
  refine W.write (a := a) (sl := i) (v := .int x) (A.wok (by decide) q) (fun X hZ hown eT => ?_) (fun T' h' W' Wr1 => K T' h' W' (Keep.of_wr Wr1) (by rw [List.map_set]; exact A.set Wr1))
  obtain ⟨T', h', X', e1, W1, st⟩ := stC X W.hx hZ eT A1 (j := j) (x := x) (by rw [hsz, hi]; simp only [List.length_map]; exact fun r => r.elim hj (by omega)) (g := mkF m pc ls (.int x :: .int j :: .ref a :: st)) rfl rfl hd
  rw [hi] at X' W1
  rw [hn] at W1
  exact ⟨T', h', X', e1, W1, st⟩
theorem g_caload (W : Wd p l e R s m args below meth c Z a0 EL own F T h k n) {pc pc' : Nat} {ls : Array Slot} {st : List Value} {a : Addr} {cs : List Int32} (A : Ali Z h a .char (cs.map Value.int)) {j : Int32} {i : Nat} (hj : ¬ j < 0) (hi : j.toNatClampNeg = i) (hlt : i < cs.length)
    (hd : decode c.code pc = .ok (.caload, 1)) (hp : pc + 1 = pc') (K : Go p e below P T (mkF m pc' ls (.int (cs.getD i 0) :: st))) : Go p e below P T (mkF m pc ls (.int j :: .ref a :: st)) := by
  subst hp
  obtain ⟨cell, A1, hsz, hget⟩ := A.get
  obtain ⟨w1, w2, w3, w4, vm0, k0, locs, X, hZ, hown, rfl, r⟩ := W
  refine K.st fun t q => X.caload w1 A1.1 (State.isArrayOf_alike (s := Z) hZ.alike A1.2.1) A1.2.2 (j := j) (by rw [hsz, hi]; simp only [List.length_map]; exact fun r => r.elim hj (by omega)) (v := .int (cs.getD i 0)) (by rw [hi, hget]; simp [hlt]) (g := mkF m pc ls (.int j :: .ref a :: st)) rfl rfl hd t q
theorem g_arraylength (W : Wd p l e R s m args below meth c Z a0 EL own F T h k n) {pc pc' : Nat} {ls : Array Slot} {st : List Value} {a : Addr} {ty : FieldType} {vs : List Value} (A : Ali Z h a ty vs) {z : Int32} (hz : Int32.ofNat vs.length = z)
    (hd : decode c.code pc = .ok (.arraylength, 1)) (hp : pc + 1 = pc') (K : Go p e below P T (mkF m pc' ls (.int z :: st))) : Go p e below P T (mkF m pc ls (.ref a :: st)) := by
  subst hp hz
  obtain ⟨cell, A1, hsz, hget⟩ := A.get
  obtain ⟨w1, w2, w3, w4, vm0, k0, locs, X, hZ, hown, rfl, r⟩ := W
  refine K.st fun t q => X.arraylength w1 A1.1 (State.isArrayOf_alike (s := Z) hZ.alike A1.2.1) (g := mkF m pc ls (.ref a :: st)) rfl rfl hd t (by rw [hsz]; exact q)
theorem g_initO (W : Wd p l e R s m args below meth c Z a0 EL own F T h k n) {pc pc' : Nat} {ls : Array Slot} {st : List Value} {a : Addr} {index : Nat} (w1 : (Jvm.Cond.methodLink own index Lib.objectInit).before a0 Z = true) (w2 : (Jvm.Cond.instanceMethod Lib.objectInit).before a0 Z = true) (w3 : (Jvm.Cond.code Lib.objectInit ⟨#[0xb1]⟩ 1 none).before a0 Z = true) (hsz : ls.size = c.maxLocals)
    (hd : decode c.code pc = .ok (.invokespecial index, 3)) (hp : pc + 3 = pc') (hf : 1 ≤ R.frames) {Wn : Nat} (hW : (st.map fun v => v.category).sum ≤ Wn) (hl : Wn + 12 ≤ R.locals) (K : ∀ T', Wd p l e R s m args below meth c Z a0 EL own F T' h k n → Go p e below P T' (mkF m pc' ls st)) : Go p e below P T (mkF m pc ls (.ref a :: st)) := by
  subst hp
  exact W.grow (fun X hZ hown eT => initO X W.hx hZ hown w1 w2 w3 eT (g := mkF m pc ls (.ref a :: st)) rfl hsz rfl hd hf (by simpa using hW) hl) (ext_refl h) K
/-! calls by contract -/
theorem Met.back {F' : List Addr} {y : MethodName} {bytes : ByteArray} {maxL : Nat} {ret : Option FieldType} {rm : Room} {as' : Array Value} {Q : Option Value → Heap → List Addr → Prop} (hM : Met l Z EL F' y bytes maxL ret rm as' h Q) {vm0 : Vm} {len Wn : Nat}
    (hZ : Z.Warmed39 vm0) (wc : (Jvm.Cond.code y bytes maxL ret).before a0 Z = true) (wz : (Jvm.Cond.initialized y.cls).before a0 Z = true) (hf : rm.frames + 1 ≤ R.frames) (hl : Wn + (maxL + 11) + rm.locals ≤ R.locals) (hEL : EW Z a0 EL) (H : CHv Z EL vm0 h) (hF : ∀ x ∈ F', x < h.size ∧ Safe Z EL vm0 h x) :
    BackS l R p e below (s.setVm vm0) args y len Wn (fun A a => a = as' ∧ A.U.heap = h ∧ A.cells + rm.cells ≤ R.cells ∧ A.slots + rm.slots ≤ R.slots)
      (fun A _ v B => ∃ L FF, (Q v B.U.heap FF ∧ Fr Z.heap.size L ∧ Ext Z.heap B.U.heap ∧ ∀ x ∈ FF, x < B.U.heap.size ∧ Safe Z EL B.U.vm B.U.heap x) ∧ B.locs = A.locs ++ L ∧ B.cells = A.cells + rm.cells ∧ B.slots = A.slots + rm.slots ∧ CHr Z EL vm0 h B.U.vm B.U.heap ∧ (EL = [] → (s.setVm vm0).WarmedH B.U.vm)) :=
  BackS.of_freeW (bytes := bytes) (maxL := maxL) (ret := ret) (E := fun _ first o t L k n => k = rm.cells ∧ n = rm.slots ∧ (∃ v FF, o = .returned v ∧ Q v t.heap FF ∧ Fr Z.heap.size L ∧ Ext Z.heap t.heap ∧ ∀ x ∈ FF, x < t.heap.size ∧ Safe Z EL t.vm t.heap x) ∧ CHr Z EL first.vm first.heap t.vm t.heap ∧ (EL = [] → first.WarmedH t.vm)) hM hf hl
    (fun m meth c A a Y hp => have hU : Z.Warmed39 A.U.vm := wtrans (s := s.setVm vm0) hZ Y.warmed
      ⟨by show (Jvm.Cond.and _ .tt).before a A.U = true; rw [Cond.before_and, mv hU wc]; rfl, mv hU wc, mv hU wz, hp.2.2.1, hp.2.2.2⟩)
    (fun m meth c A a g mk Y hp => ⟨hp.1, wtrans (s := s.setVm vm0) hZ Y.warmed, hp.2.1, (CHv.at Y hZ hEL H).1, fun x q => ⟨(hF x q).1, (CHv.at Y hZ hEL H).safe (hF x q).1 (hF x q).2⟩⟩) (fun _ _ _ _ _ _ _ _ _ => trivial)
    (fun _ _ _ _ ⟨v, L, FF, h1, h2, h3, h4, h5⟩ => ⟨L, _, _, h4, rfl, rfl, ⟨v, FF, h1, h2⟩, h3, h5⟩)
    (fun m meth c A a g mk v t L k n Y hp _ _ ⟨e1, e2, ⟨v', FF, e3, e4⟩, e5, e6⟩ => by
      cases e3; subst e1 e2
      refine ⟨L, FF, e4, rfl, rfl, rfl, (CHv.at Y hZ hEL H).trans ?_, fun z => State.WarmedH.trans (t := A.U) Y.warmed (e6 z)⟩
      rw [← hp.2.1]; exact e5)
theorem wd_after (w1 : p.tables.exec = Jvm.exec) (w3 : EW Z a0 EL) (w4 : meth.locks = false) {vm0 : Vm} {k0 : Nat} {locs L : List Loc} {B : Pt} (hZ : Z.Warmed39 vm0) (hown : vm0.findClass own = some m.cls) (hS : s.Since vm0 k0) (hk : k0 ≤ h.size) (hC : CHr Z EL s.vm s.heap vm0 h) (hN : Fr Z.heap.size locs)
    (hF : ∀ x ∈ F, x < h.size ∧ Safe Z EL vm0 h x) (X' : Stand p l e R ((s.setVm vm0).setVm B.U.vm) m args below meth c B.U B.locs B.cells B.slots) (hS' : (s.setVm vm0).Since B.U.vm B.U.heap.size) (hg : h.size ≤ B.U.heap.size) (hNL : Fr Z.heap.size L) (hO : Ext Z.heap B.U.heap) (hl : B.locs = locs ++ L)
    (hc' : CHr Z EL vm0 h B.U.vm B.U.heap) (hH : EL = [] → s.WarmedH vm0) (hH' : EL = [] → (s.setVm vm0).WarmedH B.U.vm) {FF : List Addr} (hFF : ∀ x ∈ FF, x < B.U.heap.size ∧ Safe Z EL B.U.vm B.U.heap x) : Wd p l e R s m args below meth c Z a0 EL own (FF ++ F) B.U B.U.heap B.cells B.slots :=
  ⟨w1, hO, w3, w4, B.U.vm, B.U.heap.size, B.locs, X', State.Warmed39.trans (t := s.setVm vm0) hZ hS'.1, (hS'.1.alike.findClass _ _).trans hown, rfl, hS.trans hS' (Nat.le_trans hk hg), Nat.le_refl _, hC.trans hc', hl ▸ hN.app hNL, fun z => State.WarmedH.trans (t := s.setVm vm0) (hH z) (hH' z), fun x q => (List.mem_append.mp q).elim (hFF x) fun q => ⟨Nat.lt_of_lt_of_le (hF x q).1 hg, hc'.safe (hF x q).1 (hF x q).2⟩⟩
/-- a value comes back -/
def Ret (Q : Value → Heap → Prop) (v : Option Value) (h : Heap) (_ : List Addr) : Prop := ∃ w, v = some w ∧ Q w h
def RetF (Q : Value → Heap → List Addr → Prop) (v : Option Value) (h : Heap) (FF : List Addr) : Prop := ∃ w, v = some w ∧ Q w h FF
def VoidF (Q : Heap → List Addr → Prop) (v : Option Value) (h : Heap) (FF : List Addr) : Prop := v = none ∧ Q h FF
def Void (Q : Heap → Prop) (v : Option Value) (h : Heap) (_ : List Addr) : Prop := v = none ∧ Q h
theorem g_callSO (W : Wd p l e R s m args below meth c Z a0 EL own F T h k n) {F' : List Addr} {y : MethodName} {bytes : ByteArray} {maxL : Nat} {ret : Option FieldType} {rm : Room} {as' : Array Value} {Q : Option Value → Heap → List Addr → Prop} (hM : Met l Z EL F' y bytes maxL ret rm as' h Q) (hF' : ∀ x ∈ F', x ∈ F) {index : Nat}
    (v1 : (Jvm.Cond.methodLink own index y).before a0 Z = true) (v2 : (Jvm.Cond.static y).before a0 Z = true) (v3 : (Jvm.Cond.initialized y.cls).before a0 Z = true) (v4 : (Jvm.Cond.code y bytes maxL ret).before a0 Z = true) (hy : y.cls ≠ "java/lang/invoke/MethodHandle" ∧ y.cls ≠ "java/lang/invoke/VarHandle")
    {ps : List FieldType} {rt : Option FieldType} (pd : parseMethodDescriptor y.desc = some ⟨ps, rt⟩) {argsL : List Value} (has : argsL.toArray = as') (hal : argsL.length = ps.length) {pc pc' : Nat} {ls : Array Slot} {st rest : List Value} (hst : st = argsL.reverse ++ rest) (hsz : ls.size = c.maxLocals)
    (hd : decode c.code pc = .ok (.invokestatic index, 3)) (hp : pc + 3 = pc') {Wn : Nat} (hW : (rest.map fun v => v.category).sum ≤ Wn) (hf : rm.frames + 1 ≤ R.frames) (hl : Wn + (maxL + 11) + rm.locals ≤ R.locals) (hc : k + rm.cells ≤ R.cells) (hs : n + rm.slots ≤ R.slots)
    (K : ∀ v T' h' FF, Wd p l e R s m args below meth c Z a0 EL own (FF ++ F) T' h' (k + rm.cells) (n + rm.slots) → h.size ≤ h'.size → Q v h' FF → Go p e below P T' (mkF m pc' ls (v.toList ++ rest))) : Go p e below P T (mkF m pc ls st) := by
  subst hp hst has
  obtain ⟨w1, w2, w3, w4, vm0, k0, locs, X, hZ, hown, eT, hS, hk, hC, hN, hH, hF⟩ := W
  obtain ⟨v, vm1, B, hw1, X', hS', hg, ⟨L, FF, ⟨q1, q2, q3, q4⟩, r1, r2, r3, r4, r5⟩, st⟩ := callSS X w1 (own := own) hown (mvT (s := s.setVm vm0) hZ v1) (mvT (s := s.setVm vm0) hZ v2) (mvT (s := s.setVm vm0) hZ v3) (mvT (s := s.setVm vm0) hZ v4) hy (Met.back hM hZ v4 v3 hf hl w3 hC.1 (fun x q => hF x (hF' x q))) (g := mkF m pc ls (argsL.reverse ++ rest)) rfl hsz (argsL := argsL) (rest := rest) (lenOf pd hal) rfl (by simpa using hW) hd (fun _ _ => ⟨rfl, eT, hc, hs⟩)
  rw [eT] at hg
  have W' := wd_after (B := B) w1 w3 w4 hZ hown hS hk hC hN hF X' hS' hg q2 q3 r1 r4 hH r5 q4
  simp only [Pt.cells, Pt.slots] at W' r2 r3
  rw [r2, r3] at W'
  exact (K v B.U _ FF W' hg q1).tr st
theorem g_callS (W : Wd p l e R s m args below meth c Z a0 EL own F T h k n) {F' : List Addr} {y : MethodName} {bytes : ByteArray} {maxL : Nat} {ret : Option FieldType} {rm : Room} {as' : Array Value} {Q : Value → Heap → Prop} (hM : Met l Z EL F' y bytes maxL ret rm as' h (Ret Q)) (hF' : ∀ x ∈ F', x ∈ F) {index : Nat}
    (v1 : (Jvm.Cond.methodLink own index y).before a0 Z = true) (v2 : (Jvm.Cond.static y).before a0 Z = true) (v3 : (Jvm.Cond.initialized y.cls).before a0 Z = true) (v4 : (Jvm.Cond.code y bytes maxL ret).before a0 Z = true) (hy : y.cls ≠ "java/lang/invoke/MethodHandle" ∧ y.cls ≠ "java/lang/invoke/VarHandle")
    {ps : List FieldType} {rt : Option FieldType} (pd : parseMethodDescriptor y.desc = some ⟨ps, rt⟩) {argsL : List Value} (has : argsL.toArray = as') (hal : argsL.length = ps.length) {pc pc' : Nat} {ls : Array Slot} {st rest : List Value} (hst : st = argsL.reverse ++ rest) (hsz : ls.size = c.maxLocals)
    (hd : decode c.code pc = .ok (.invokestatic index, 3)) (hp : pc + 3 = pc') {Wn : Nat} (hW : (rest.map fun v => v.category).sum ≤ Wn) (hf : rm.frames + 1 ≤ R.frames) (hl : Wn + (maxL + 11) + rm.locals ≤ R.locals) (hc : k + rm.cells ≤ R.cells) (hs : n + rm.slots ≤ R.slots)
    (K : ∀ v T' h', Wd p l e R s m args below meth c Z a0 EL own F T' h' (k + rm.cells) (n + rm.slots) → h.size ≤ h'.size → Q v h' → Go p e below P T' (mkF m pc' ls (v :: rest))) : Go p e below P T (mkF m pc ls st) :=
  g_callSO W hM hF' v1 v2 v3 v4 hy pd has hal hst hsz hd hp hW hf hl hc hs fun v T' h' FF W' hg q => by
    obtain ⟨w, rfl, q⟩ := q
    exact K w T' h' (W'.drop fun x z => List.mem_append.mpr (Or.inr z)) hg q
theorem g_callSF (W : Wd p l e R s m args below meth c Z a0 EL own F T h k n) {F' : List Addr} {y : MethodName} {bytes : ByteArray} {maxL : Nat} {ret : Option FieldType} {rm : Room} {as' : Array Value} {Q : Value → Heap → List Addr → Prop} (hM : Met l Z EL F' y bytes maxL ret rm as' h (RetF Q)) (hF' : ∀ x ∈ F', x ∈ F) {index : Nat}
    (v1 : (Jvm.Cond.methodLink own index y).before a0 Z = true) (v2 : (Jvm.Cond.static y).before a0 Z = true) (v3 : (Jvm.Cond.initialized y.cls).before a0 Z = true) (v4 : (Jvm.Cond.code y bytes maxL ret).before a0 Z = true) (hy : y.cls ≠ "java/lang/invoke/MethodHandle" ∧ y.cls ≠ "java/lang/invoke/VarHandle")
    {ps : List FieldType} {rt : Option FieldType} (pd : parseMethodDescriptor y.desc = some ⟨ps, rt⟩) {argsL : List Value} (has : argsL.toArray = as') (hal : argsL.length = ps.length) {pc pc' : Nat} {ls : Array Slot} {st rest : List Value} (hst : st = argsL.reverse ++ rest) (hsz : ls.size = c.maxLocals)
    (hd : decode c.code pc = .ok (.invokestatic index, 3)) (hp : pc + 3 = pc') {Wn : Nat} (hW : (rest.map fun v => v.category).sum ≤ Wn) (hf : rm.frames + 1 ≤ R.frames) (hl : Wn + (maxL + 11) + rm.locals ≤ R.locals) (hc : k + rm.cells ≤ R.cells) (hs : n + rm.slots ≤ R.slots)
    (K : ∀ v T' h' FF, Wd p l e R s m args below meth c Z a0 EL own (FF ++ F) T' h' (k + rm.cells) (n + rm.slots) → h.size ≤ h'.size → Q v h' FF → Go p e below P T' (mkF m pc' ls (v :: rest))) : Go p e below P T (mkF m pc ls st) :=
  g_callSO W hM hF' v1 v2 v3 v4 hy pd has hal hst hsz hd hp hW hf hl hc hs fun v T' h' FF W' hg q => by
    obtain ⟨w, rfl, q⟩ := q
    exact K w T' h' FF W' hg q
theorem g_specF (W : Wd p l e R s m args below meth c Z a0 EL own F T h k n) {F' : List Addr} {y : MethodName} {bytes : ByteArray} {maxL : Nat} {rm : Room} {as' : Array Value} {Q : Heap → List Addr → Prop} (hM : Met l Z EL F' y bytes maxL none rm as' h (VoidF Q)) (hF' : ∀ x ∈ F', x ∈ F) {index : Nat} (hy1 : y.name = "<init>")
    (v1 : (Jvm.Cond.methodLink own index y).before a0 Z = true) (v2 : (Jvm.Cond.instanceMethod y).before a0 Z = true) (v3 : (Jvm.Cond.initialized y.cls).before a0 Z = true) (v4 : (Jvm.Cond.code y bytes maxL none).before a0 Z = true) (hy : y.cls ≠ "java/lang/invoke/MethodHandle" ∧ y.cls ≠ "java/lang/invoke/VarHandle")
    {ps : List FieldType} {rt : Option FieldType} (pd : parseMethodDescriptor y.desc = some ⟨ps, rt⟩) {a : Addr} {argsL : List Value} (has : (.ref a :: argsL).toArray = as') (hal : argsL.length = ps.length) {pc pc' : Nat} {ls : Array Slot} {st rest : List Value} (hst : st = argsL.reverse ++ .ref a :: rest) (hsz : ls.size = c.maxLocals)
    (hd : decode c.code pc = .ok (.invokespecial index, 3)) (hp : pc + 3 = pc') {Wn : Nat} (hW : (rest.map fun v => v.category).sum ≤ Wn) (hf : rm.frames + 1 ≤ R.frames) (hl : Wn + (maxL + 11) + rm.locals ≤ R.locals) (hc : k + rm.cells ≤ R.cells) (hs : n + rm.slots ≤ R.slots)
    (K : ∀ T' h' FF, Wd p l e R s m args below meth c Z a0 EL own (FF ++ F) T' h' (k + rm.cells) (n + rm.slots) → h.size ≤ h'.size → Q h' FF → Go p e below P T' (mkF m pc' ls rest)) : Go p e below P T (mkF m pc ls st) := by
  subst hp hst has
  obtain ⟨w1, w2, w3, w4, vm0, k0, locs, X, hZ, hown, eT, hS, hk, hC, hN, hH, hF⟩ := W
  obtain ⟨v, vm1, B, hw1, X', hS', hg, ⟨L, FF, ⟨q1, q2, q3, q4⟩, r1, r2, r3, r4, r5⟩, st⟩ := X.specialBackS w1 (own := own) hy1 hown (mvT (s := s.setVm vm0) hZ v1) (mvT (s := s.setVm vm0) hZ v2) (mvT (s := s.setVm vm0) hZ v4) hy (Met.back hM hZ v4 v3 hf hl w3 hC.1 (fun x q => hF x (hF' x q))) (g := mkF m pc ls (argsL.reverse ++ .ref a :: rest)) rfl hsz (Steps.refl _) (a := a) (argsL := argsL) (rest := rest) (lenOf pd hal) rfl (by simpa using hW) hd (fun _ _ => ⟨rfl, eT, hc, hs⟩)
  rw [eT] at hg
  have W' := wd_after (B := B) w1 w3 w4 hZ hown hS hk hC hN hF X' hS' hg q2 q3 r1 r4 hH r5 q4
  simp only [Pt.cells, Pt.slots] at W' r2 r3
  rw [r2, r3] at W'
  obtain ⟨rfl, q1⟩ := q1
  exact (K B.U _ FF W' hg q1).tr st
theorem g_spec (W : Wd p l e R s m args below meth c Z a0 EL own F T h k n) {F' : List Addr} {y : MethodName} {bytes : ByteArray} {maxL : Nat} {rm : Room} {as' : Array Value} {Q : Heap → Prop} (hM : Met l Z EL F' y bytes maxL none rm as' h (Void Q)) (hF' : ∀ x ∈ F', x ∈ F) {index : Nat} (hy1 : y.name = "<init>")
    (v1 : (Jvm.Cond.methodLink own index y).before a0 Z = true) (v2 : (Jvm.Cond.instanceMethod y).before a0 Z = true) (v3 : (Jvm.Cond.initialized y.cls).before a0 Z = true) (v4 : (Jvm.Cond.code y bytes maxL none).before a0 Z = true) (hy : y.cls ≠ "java/lang/invoke/MethodHandle" ∧ y.cls ≠ "java/lang/invoke/VarHandle")
    {ps : List FieldType} {rt : Option FieldType} (pd : parseMethodDescriptor y.desc = some ⟨ps, rt⟩) {a : Addr} {argsL : List Value} (has : (.ref a :: argsL).toArray = as') (hal : argsL.length = ps.length) {pc pc' : Nat} {ls : Array Slot} {st rest : List Value} (hst : st = argsL.reverse ++ .ref a :: rest) (hsz : ls.size = c.maxLocals)
    (hd : decode c.code pc = .ok (.invokespecial index, 3)) (hp : pc + 3 = pc') {Wn : Nat} (hW : (rest.map fun v => v.category).sum ≤ Wn) (hf : rm.frames + 1 ≤ R.frames) (hl : Wn + (maxL + 11) + rm.locals ≤ R.locals) (hc : k + rm.cells ≤ R.cells) (hs : n + rm.slots ≤ R.slots)
    (K : ∀ T' h', Wd p l e R s m args below meth c Z a0 EL own F T' h' (k + rm.cells) (n + rm.slots) → h.size ≤ h'.size → Q h' → Go p e below P T' (mkF m pc' ls rest)) : Go p e below P T (mkF m pc ls st) :=
  g_specF (Q := fun h _ => Q h) W hM hF' hy1 v1 v2 v3 v4 hy pd has hal hst hsz hd hp hW hf hl hc hs fun T' h' FF W' hg q => K T' h' (W'.drop fun x z => List.mem_append.mpr (Or.inr z)) hg q
theorem g_virtO (W : Wd p l e R s m args below meth c Z a0 EL own F T h k n) {F' : List Addr} {y z : MethodName} {C : String} {bytes : ByteArray} {maxL : Nat} {ret : Option FieldType} {rm : Room} {as' : Array Value} {Q : Option Value → Heap → List Addr → Prop} (hM : Met l Z EL F' z bytes maxL ret rm as' h Q) (hF' : ∀ x ∈ F', x ∈ F) (hyz : z = y) {index : Nat}
    (v1 : (Jvm.Cond.methodLink own index y).before a0 Z = true) (v2 : (Jvm.Cond.declares y).before a0 Z = true) (v5 : (Jvm.Cond.selects C y z).before a0 Z = true) (v6 : (Jvm.Cond.instanceMethod z).before a0 Z = true) (v3 : (Jvm.Cond.initialized z.cls).before a0 Z = true) (v4 : (Jvm.Cond.code z bytes maxL ret).before a0 Z = true) (hy : y.cls ≠ "java/lang/invoke/MethodHandle" ∧ y.cls ≠ "java/lang/invoke/VarHandle")
    {ps : List FieldType} {rt : Option FieldType} (pd : parseMethodDescriptor y.desc = some ⟨ps, rt⟩) {a : Addr} (E : Exa Z h a C) {argsL : List Value} (has : (.ref a :: argsL).toArray = as') (hal : argsL.length = ps.length) {pc pc' : Nat} {ls : Array Slot} {st rest : List Value} (hst : st = argsL.reverse ++ .ref a :: rest) (hsz : ls.size = c.maxLocals)
    (hd : decode c.code pc = .ok (.invokevirtual index, 3)) (hp : pc + 3 = pc') {Wn : Nat} (hW : (rest.map fun v => v.category).sum ≤ Wn) (hf : rm.frames + 1 ≤ R.frames) (hl : Wn + (maxL + 11) + rm.locals ≤ R.locals) (hc : k + rm.cells ≤ R.cells) (hs : n + rm.slots ≤ R.slots)
    (K : ∀ v T' h' FF, Wd p l e R s m args below meth c Z a0 EL own (FF ++ F) T' h' (k + rm.cells) (n + rm.slots) → h.size ≤ h'.size → Q v h' FF → Go p e below P T' (mkF m pc' ls (v.toList ++ rest))) : Go p e below P T (mkF m pc ls st) := by
  subst hp hst has hyz
  obtain ⟨w1, w2, w3, w4, vm0, k0, locs, X, hZ, hown, eT, hS, hk, hC, hN, hH, hF⟩ := W
  obtain ⟨cq, kq, qa, qb, qc⟩ := isOf (s := s.setVm vm0) hZ eT E
  obtain ⟨v, vm1, B, hw1, X', hS', hg, ⟨L, FF, ⟨q1, q2, q3, q4⟩, r1, r2, r3, r4, r5⟩, st⟩ := X.virtualBackS w1 (own := own) (y := z) (z := z) hown (mvT (s := s.setVm vm0) hZ v1) (mvT (s := s.setVm vm0) hZ v2) (notFace_of_selects (args := #[]) (mvT (s := s.setVm vm0) hZ v5)) (mvT (s := s.setVm vm0) hZ v5) (mvT (s := s.setVm vm0) hZ v6) hy (Met.back hM hZ v4 v3 hf hl w3 hC.1 (fun x q => hF x (hF' x q))) qa qc (g := mkF m pc ls (argsL.reverse ++ .ref a :: rest)) rfl hsz (Steps.refl _) (argsL := argsL) (rest := rest) (lenOf pd hal) rfl (by simpa using hW) hd (fun _ _ => ⟨rfl, eT, hc, hs⟩)
  rw [eT] at hg
  have W' := wd_after (B := B) w1 w3 w4 hZ hown hS hk hC hN hF X' hS' hg q2 q3 r1 r4 hH r5 q4
  simp only [Pt.cells, Pt.slots] at W' r2 r3
  rw [r2, r3] at W'
  exact (K v B.U _ FF W' hg q1).tr st
theorem g_virt (W : Wd p l e R s m args below meth c Z a0 EL own F T h k n) {F' : List Addr} {y z : MethodName} {C : String} {bytes : ByteArray} {maxL : Nat} {ret : Option FieldType} {rm : Room} {as' : Array Value} {Q : Value → Heap → Prop} (hM : Met l Z EL F' z bytes maxL ret rm as' h (Ret Q)) (hF' : ∀ x ∈ F', x ∈ F) (hyz : z = y) {index : Nat}
    (v1 : (Jvm.Cond.methodLink own index y).before a0 Z = true) (v2 : (Jvm.Cond.declares y).before a0 Z = true) (v5 : (Jvm.Cond.selects C y z).before a0 Z = true) (v6 : (Jvm.Cond.instanceMethod z).before a0 Z = true) (v3 : (Jvm.Cond.initialized z.cls).before a0 Z = true) (v4 : (Jvm.Cond.code z bytes maxL ret).before a0 Z = true) (hy : y.cls ≠ "java/lang/invoke/MethodHandle" ∧ y.cls ≠ "java/lang/invoke/VarHandle")
    {ps : List FieldType} {rt : Option FieldType} (pd : parseMethodDescriptor y.desc = some ⟨ps, rt⟩) {a : Addr} (E : Exa Z h a C) {argsL : List Value} (has : (.ref a :: argsL).toArray = as') (hal : argsL.length = ps.length) {pc pc' : Nat} {ls : Array Slot} {st rest : List Value} (hst : st = argsL.reverse ++ .ref a :: rest) (hsz : ls.size = c.maxLocals)
    (hd : decode c.code pc = .ok (.invokevirtual index, 3)) (hp : pc + 3 = pc') {Wn : Nat} (hW : (rest.map fun v => v.category).sum ≤ Wn) (hf : rm.frames + 1 ≤ R.frames) (hl : Wn + (maxL + 11) + rm.locals ≤ R.locals) (hc : k + rm.cells ≤ R.cells) (hs : n + rm.slots ≤ R.slots)
    (K : ∀ v T' h', Wd p l e R s m args below meth c Z a0 EL own F T' h' (k + rm.cells) (n + rm.slots) → h.size ≤ h'.size → Q v h' → Go p e below P T' (mkF m pc' ls (v :: rest))) : Go p e below P T (mkF m pc ls st) :=
  g_virtO W hM hF' hyz v1 v2 v5 v6 v3 v4 hy pd E has hal hst hsz hd hp hW hf hl hc hs fun v T' h' FF W' hg q => by
    obtain ⟨w, rfl, q⟩ := q
    exact K w T' h' (W'.drop fun x z => List.mem_append.mpr (Or.inr z)) hg q
theorem g_virtF (W : Wd p l e R s m args below meth c Z a0 EL own F T h k n) {F' : List Addr} {y z : MethodName} {C : String} {bytes : ByteArray} {maxL : Nat} {ret : Option FieldType} {rm : Room} {as' : Array Value} {Q : Value → Heap → List Addr → Prop} (hM : Met l Z EL F' z bytes maxL ret rm as' h (RetF Q)) (hF' : ∀ x ∈ F', x ∈ F) (hyz : z = y) {index : Nat}
    (v1 : (Jvm.Cond.methodLink own index y).before a0 Z = true) (v2 : (Jvm.Cond.declares y).before a0 Z = true) (v5 : (Jvm.Cond.selects C y z).before a0 Z = true) (v6 : (Jvm.Cond.instanceMethod z).before a0 Z = true) (v3 : (Jvm.Cond.initialized z.cls).before a0 Z = true) (v4 : (Jvm.Cond.code z bytes maxL ret).before a0 Z = true) (hy : y.cls ≠ "java/lang/invoke/MethodHandle" ∧ y.cls ≠ "java/lang/invoke/VarHandle")
    {ps : List FieldType} {rt : Option FieldType} (pd : parseMethodDescriptor y.desc = some ⟨ps, rt⟩) {a : Addr} (E : Exa Z h a C) {argsL : List Value} (has : (.ref a :: argsL).toArray = as') (hal : argsL.length = ps.length) {pc pc' : Nat} {ls : Array Slot} {st rest : List Value} (hst : st = argsL.reverse ++ .ref a :: rest) (hsz : ls.size = c.maxLocals)
    (hd : decode c.code pc = .ok (.invokevirtual index, 3)) (hp : pc + 3 = pc') {Wn : Nat} (hW : (rest.map fun v => v.category).sum ≤ Wn) (hf : rm.frames + 1 ≤ R.frames) (hl : Wn + (maxL + 11) + rm.locals ≤ R.locals) (hc : k + rm.cells ≤ R.cells) (hs : n + rm.slots ≤ R.slots)
    (K : ∀ v T' h' FF, Wd p l e R s m args below meth c Z a0 EL own (FF ++ F) T' h' (k + rm.cells) (n + rm.slots) → h.size ≤ h'.size → Q v h' FF → Go p e below P T' (mkF m pc' ls (v :: rest))) : Go p e below P T (mkF m pc ls st) :=
  g_virtO W hM hF' hyz v1 v2 v5 v6 v3 v4 hy pd E has hal hst hsz hd hp hW hf hl hc hs fun v T' h' FF W' hg q => by
    obtain ⟨w, rfl, q⟩ := q
    exact K w T' h' FF W' hg q
end OwnC
/-! own kit, part D: Strings of Latin-1 chars -/
section OwnD
variable {p : Program} {l : Launch} {e : Env} {R : Room} {s : State} {m : MethodId} {args : Array Value} {below : List Frame} {meth : Method} {c : Code} {T T' : State} {h h' : Heap} {Z : State} {a0 : Array Value} {EL : List (String × Nat)} {own : String} {k n : Nat} {P : Outcome → State → Prop} {F : List Addr}
theorem own_n32 {n : Nat} (q : n < 2 ^ 31) : (Int32.ofNat n).toNatClampNeg = n := by
  have e : (Int32.ofNat n).toInt = n := Int32.toInt_ofNat_small q
  simp [Int32.toNatClampNeg, e]
theorem own_n0 {n : Nat} (q : n < 2 ^ 31) : ¬ Int32.ofNat n < 0 := by
  rw [Int32.lt_iff_toInt_lt, Int32.toInt_ofNat_small q]
  have e0 : (0 : Int32).toInt = 0 := rfl
  omega
/-- the low byte, signed -/
def lo (x : Int32) : Int32 := x.toInt8.toInt32
def Latin (cs : List Int32) : Prop := ∀ c ∈ cs, ¬ c < 0 ∧ ¬ (255 : Int32) < c
def Str (Z : State) (h : Heap) (a : Addr) (cs : List Int32) : Prop :=
  Exa Z h a "java/lang/String" ∧ Fld Z h a "java/lang/String" "coder" "B" (.int 0) ∧ (∃ t, Fld Z h a "java/lang/String" "value" "[B" (.ref t) ∧ Ali Z h t .byte ((cs.map lo).map Value.int)) ∧ Latin cs ∧ cs.length ≤ 4000
theorem Ali.of_arv {a : Addr} {kk : ClassId} {ty : FieldType} {z : Int32} {vs : List Value} {d : Value} (A : Arv Z h a kk ty z vs d) (hl : z.toNatClampNeg = vs.length) : Ali Z h a ty vs := by
  obtain ⟨c, A, -, S, hz, H, -⟩ := A
  refine ⟨c, A, ?_, ?_⟩
  · apply List.ext_getElem?
    intro i
    rw [Array.getElem?_toList]
    rcases Nat.lt_or_ge i vs.length with q | q
    · rw [H i (by omega)]; simp [q]
    · rw [List.getElem?_eq_none q, Array.getElem?_eq_none (by omega)]
  · have := (back32 hz).2; omega
theorem Ali.arv {a : Addr} {ty : FieldType} {vs : List Value} {d : Value} {z : Int32} (A : Ali Z h a ty vs) (hf : ∀ v ∈ vs, fits ty v = true) (hz : z = Int32.ofNat vs.length) : ∃ kk, Arv Z h a kk ty z vs d := by
  obtain ⟨c, A, rfl, q⟩ := A
  subst hz
  simp only [Array.length_toList] at q hf
  refine ⟨c.cls, c, A, rfl, by rw [Array.length_toList, own_n32 q], by rw [Array.length_toList]; exact own_n0 q, fun i hi => by simp [hi], fun i hi => ?_⟩
  have e : c.slots.toList.getD i d = c.slots[i] := by simp [hi]
  rw [e]
  exact hf _ (by simp)
theorem fits_lo (x : Int32) : fits .byte (.int (lo x)) = true := fits_nar_byte x
theorem Latin.lit {cs : List Int32} (q : Latin cs) : ∀ c ∈ cs, ¬ c < 0 ∧ ¬ (65535 : Int32) < c := fun c hc => ⟨(q c hc).1, fun r => (q c hc).2 (by
  rw [Int32.lt_iff_toInt_lt] at r ⊢
  have e0 : (255 : Int32).toInt = 255 := rfl
  have e1 : (65535 : Int32).toInt = 65535 := rfl
  omega)⟩
theorem Latin.nil : Latin [] := fun _ q => nomatch q
theorem Latin.cons {x : Int32} {cs : List Int32} (q0 : ¬ x < 0) (q1 : ¬ 255 < x) (r : Latin cs) : Latin (x :: cs) := fun c hc => (List.mem_cons.mp hc).elim (fun e => e ▸ ⟨q0, q1⟩) (r c)
theorem fits_chr {x : Int32} (q0 : ¬ x < 0) (q1 : ¬ 65535 < x) : fits .char (.int x) = true := by
  simp only [fits, Bool.and_eq_true, decide_eq_true_eq]
  exact ⟨Int32.not_lt.mp q0, Int32.not_lt.mp q1⟩
theorem Str.ext {a : Addr} {cs : List Int32} (E : Ext h h') (S : Str Z h a cs) : Str Z h' a cs := by
  obtain ⟨s1, s2, ⟨t, s3, s4⟩, r⟩ := S
  exact ⟨s1.ext E, s2.ext E, ⟨t, s3.ext E, s4.ext E⟩, r⟩
theorem Str.lt {a : Addr} {cs : List Int32} (S : Str Z h a cs) : a < h.size := S.1.lt
theorem arr_neT {a b : Addr} {t1 t2 : FieldType} {c1 c2 : Cell} (A : Arr Z h a c1 t1) (B : Arr Z h b c2 t2) (q : t1 ≠ t2) : a ≠ b := fun e => by
  subst e
  cases A.1.symm.trans B.1
  obtain ⟨-, k1, a1, comp1, a2⟩ := A.2.1
  obtain ⟨-, k2, b1, comp2, b2⟩ := B.2.1
  cases a1.symm.trans b1
  rw [a2] at b2
  injection b2 with _ r
  exact q r
theorem Ali.wr {a b : Addr} {ty : FieldType} {vs : List Value} {sl : Nat} {v : Value} (W : Wr h h' b sl v) (q : a ≠ b) (A : Ali Z h a ty vs) : Ali Z h' a ty vs := by obtain ⟨c, r, t⟩ := A; exact ⟨c, r.other W q, t⟩
theorem Ali.neE {x a : Addr} {ty : FieldType} {vs : List Value} {C : String} {nn : Nat} (A : Ali Z h a ty vs) (E : Exa Z h x C) (wi : (Jvm.Cond.instantiable C nn).before a0 Z = true) : a ≠ x := by obtain ⟨c, r, -⟩ := A; exact (ne_arr E wi r).symm
theorem Ali.neA {a b : Addr} {t1 t2 : FieldType} {vs us : List Value} (A : Ali Z h a t1 vs) (B : Ali Z h b t2 us) (q : t1 ≠ t2) : a ≠ b := by obtain ⟨c, r, -⟩ := A; obtain ⟨d, u, -⟩ := B; exact arr_neT r u q
theorem lo_lo (x : Int32) : lo (lo x) = lo x := by
  show x.toInt8.toInt32.toInt8.toInt32 = x.toInt8.toInt32
  rw [Int8.toInt8_toInt32]
theorem g_bastore (W : Wd p l e R s m args below meth c Z a0 EL own F T h k n) {pc pc' : Nat} {ls : Array Slot} {st : List Value} {a : Addr} {bs : List Int32} (A : Ali Z h a .byte (bs.map Value.int)) (q : Z.heap.size ≤ a) (hF : a ∈ F) {j x : Int32} {i : Nat} (hj : ¬ j < 0) (hi : j.toNatClampNeg = i) (hlt : i < bs.length)
    (hd : decode c.code pc = .ok (.bastore, 1)) (hp : pc + 1 = pc')
    (K : ∀ T' h', Wd p l e R s m args below meth c Z a0 EL own F T' h' k n → Keep h h' [a] → Ali Z h' a .byte ((bs.set i (lo x)).map Value.int) → Go p e below P T' (mkF m pc' ls st)) : Go p e below P T (mkF m pc ls (.int x :: .int j :: .ref a :: st)) := by
  subst hp
  obtain ⟨cell, A1, hsz, -⟩ := A.get
  refine W.write (a := a) (sl := i) (v := .int (lo x)) ⟨q, Or.inl hF⟩ (fun X hZ hown eT => ?_) (fun T' h' W' Wr1 => K T' h' W' (Keep.of_wr Wr1) (by rw [List.map_set]; exact A.set Wr1))
  obtain ⟨T', h', X', e1, W1, st⟩ := stB X W.hx hZ eT A1 (j := j) (x := x) (by rw [hsz, hi]; simp only [List.length_map]; exact fun r => r.elim hj (by omega)) (g := mkF m pc ls (.int x :: .int j :: .ref a :: st)) rfl rfl hd
  rw [hi] at X' W1
  exact ⟨T', h', X', e1, W1, st⟩
/-- a place that is no part of a String: an array of another kind, or an object of another class -/
def NoStr (Z : State) (a0 : Array Value) (h : Heap) (x : Addr) : Prop := (∃ C nn, Exa Z h x C ∧ C ≠ "java/lang/String" ∧ (Jvm.Cond.instantiable C nn).before a0 Z = true) ∨ ∃ cl ty, Arr Z h x cl ty ∧ ty ≠ .byte
theorem Ali.noStr {x : Addr} {ty : FieldType} {vs : List Value} (A : Ali Z h x ty vs) (ht : ty ≠ .byte) : NoStr Z a0 h x := by obtain ⟨c, r, -⟩ := A; exact Or.inr ⟨c, ty, r, ht⟩
theorem Str.keep {a x : Addr} {cs : List Int32} (wi : (Jvm.Cond.instantiable "java/lang/String" 4).before a0 Z = true) (S : Str Z h a cs) (K : Keep h h' [x]) (q : NoStr Z a0 h x) : Str Z h' a cs := by
  obtain ⟨s1, s2, ⟨t, s3, ⟨ct, s4, s5⟩⟩, r⟩ := S
  have n1 : a ∉ [x] := ninS (by
    rcases q with ⟨C, nn, q1, q2, q3⟩ | ⟨cl, ty, q1, q2⟩
    · exact Exa.ne s1 q1 (Ne.symm q2)
    · exact ne_arr s1 wi q1) nin0
  have n2 : t ∉ [x] := ninS (by
    rcases q with ⟨C, nn, q1, q2, q3⟩ | ⟨cl, ty, q1, q2⟩
    · exact (ne_arr q1 q3 s4).symm
    · exact arr_neT s4 q1 (Ne.symm q2)) nin0
  exact ⟨s1.keep K, s2.keep K n1, ⟨t, s3.keep K n1, Ali.keep K n2 ⟨ct, s4, s5⟩⟩, r⟩
theorem own_new {b : Addr} {h : Heap} (q : h.size ≤ b) : ∀ x ∈ [b], x ∈ ([] : List Addr) ∨ h.size ≤ x := fun x r => Or.inr (by cases List.mem_singleton.mp r; exact q)
/-- ldc of a String constant -/
theorem g_ldcS (W : Wd p l e R s m args below meth c Z a0 EL own F T h k n) {pc pc' : Nat} {ls : Array Slot} {st : List Value} {index : Nat} {text : String} {cs : List Int32} (w : (Jvm.Cond.stringLink own index text).before a0 Z = true) (wS : ∀ a ∈ Bundle.stringAtoms, a.before a0 Z = true) (hmem : (own, index) ∈ EL)
    (ht : (∀ c ∈ text.toList, c.toNat < 256) ∧ text.toList.map (fun c => Value.int (Jvm.Lit.byteI c.toNat.toUInt16)) = (cs.map lo).map Value.int) (hL : Latin cs) (hlen : cs.length ≤ 4000) {nn : Nat} (hn : 4 * text.toList.length ≤ nn) (hbig : nn ≤ 536870912)
    (hd : decode c.code pc = .ok (.ldc index, 2)) (hp : pc + 2 = pc') (hc : k + 2 ≤ R.cells) (hl : n + (nn + 4) ≤ R.slots)
    (K : ∀ a T' h', Wd p l e R s m args below meth c Z a0 EL own F T' h' (k + 2) (n + (nn + 4)) → Ext h h' → Str Z h' a cs → Go p e below P T' (mkF m pc' ls (.ref a :: st))) : Go p e below P T (mkF m pc ls st) := by
  subst hp
  obtain ⟨w1, w2, w3, w4, vm0, k0, locs, X, hZ, hown, eT, hS, hk, hC, hN, hH, hF⟩ := W
  have hz : (Int32.ofNat cs.length).toNatClampNeg = ((cs.map lo).map Value.int).length := by rw [own_n32 (by omega)]; simp
  obtain ⟨a, T', h', k1, b, kb, X', eT', E, hS', hk1, hZ', hown', q1, q2, q3, q4, -, -, hC', -, -, st⟩ := ldcCH X w1 hZ hown w wS eT hS hk w3 hmem hC.1 ht (own_n0 (by omega)) hz (g := mkF m pc ls st) rfl hd hn hbig hc hl
  exact (K a T' h' ⟨w1, ext_trans w2 E, w3, w4, T'.vm, k1, locs, X', hZ', hown', eT', hS', hk1, hC.trans hC', hN, fun z => (by rw [z] at hmem; cases hmem), fun x q => ⟨Nat.lt_of_lt_of_le (hF x q).1 E.1, hC'.safe (hF x q).1 (hF x q).2⟩⟩ E ⟨q1, q2, ⟨b, q3, Ali.of_arv q4 hz⟩, hL, hlen⟩).st st
/-- a step over the same tables that keeps all but some cells of the walk's own -/
theorem wd_kept (w1 : p.tables.exec = Jvm.exec) (w2 : Ext Z.heap h) (w3 : EW Z a0 EL) (w4 : meth.locks = false) {vm0 : Vm} {k0 : Nat} {locs L : List Loc} {B : Pt} (hZ : Z.Warmed39 vm0) (hown : vm0.findClass own = some m.cls) (hS : s.Since vm0 k0) (hk : k0 ≤ h.size) (hC : CHr Z EL s.vm s.heap vm0 h) (hN : Fr Z.heap.size locs) (hH : EL = [] → s.WarmedH vm0)
    (hF : ∀ x ∈ F, x < h.size ∧ Safe Z EL vm0 h x) (X' : Stand p l e R (s.setVm vm0) m args below meth c B.U B.locs B.cells B.slots) {ws : List Addr} (Kp : Keep h B.U.heap ws) (q : ∀ x ∈ ws, Wok Z F h x) (hNL : Fr Z.heap.size L) (hl : B.locs = locs ++ L) :
    Wd p l e R s m args below meth c Z a0 EL own F B.U B.U.heap B.cells B.slots := by
  have hs : ∀ x ∈ ws, Safe Z EL vm0 h x := fun x hx => Wd.safeOf hZ.alike hF (q x hx)
  exact ⟨w1, ext_old_keep w2 Kp (fun x hx => (q x hx).1), w3, w4, vm0, k0, B.locs, X', hZ, hown, rfl, hS, Nat.le_trans hk Kp.1, hC.trans (CHr.keep Kp hs hC.1), hl ▸ hN.app hNL, hH, fun x r => ⟨Nat.lt_of_lt_of_le (hF x r).1 Kp.1, Safe.keep Kp hs hC.1 (hF x r).2⟩⟩
/-- a String as `new` left it -/
def NewS (Z : State) (F : List Addr) (h : Heap) (x : Addr) : Prop := Z.heap.size ≤ x ∧ x ∈ F ∧ Exa Z h x "java/lang/String" ∧ (∃ v, Fld Z h x "java/lang/String" "value" "[B" v) ∧ ∃ v, Fld Z h x "java/lang/String" "coder" "B" v
theorem NewS.ext {x : Addr} (E : Ext h h') (S : NewS Z F h x) : NewS Z F h' x := by
  obtain ⟨s1, s2, s3, ⟨v, s4⟩, ⟨u, s5⟩⟩ := S
  exact ⟨s1, s2, s3.ext E, ⟨v, s4.ext E⟩, ⟨u, s5.ext E⟩⟩
theorem NewS.mem {x : Addr} {F' : List Addr} (q : ∀ x ∈ F, x ∈ F') (S : NewS Z F h x) : NewS Z F' h x := ⟨S.1, q _ S.2.1, S.2.2⟩
theorem NewS.keep {x b : Addr} (S : NewS Z F h x) (K : Keep h h' [b]) (q : x ≠ b) : NewS Z F h' x := by
  obtain ⟨s1, s2, s3, ⟨v, s4⟩, ⟨u, s5⟩⟩ := S
  exact ⟨s1, s2, s3.keep K, ⟨v, s4.keep K (ninS q nin0)⟩, ⟨u, s5.keep K (ninS q nin0)⟩⟩
theorem NewS.keepA {x b : Addr} {ty : FieldType} {vs : List Value} (wi : (Jvm.Cond.instantiable "java/lang/String" 4).before a0 Z = true) (S : NewS Z F h x) (K : Keep h h' [b]) (A : Ali Z h b ty vs) : NewS Z F h' x := by
  obtain ⟨c, A, -⟩ := A
  exact S.keep K (ne_arr S.2.2.1 wi A)
theorem NewS.one {x : Addr} {F' : List Addr} (S : NewS Z (x :: F') h x) : NewS Z [x] h x := ⟨S.1, List.mem_singleton.mpr rfl, S.2.2⟩
theorem g_newS (W : Wd p l e R s m args below meth c Z a0 EL own F T h k n) {pc pc' : Nat} {ls : Array Slot} {st : List Value} {index : Nat} (w : (Jvm.Cond.classLink own index "java/lang/String").before a0 Z = true) (wi : (Jvm.Cond.instantiable "java/lang/String" 4).before a0 Z = true) (wz : (Jvm.Cond.initialized "java/lang/String").before a0 Z = true)
    (wv : (Jvm.Cond.laysFinal "java/lang/String" "java/lang/String" "value" "[B").before a0 Z = true) (wc : (Jvm.Cond.laysFinal "java/lang/String" "java/lang/String" "coder" "B").before a0 Z = true)
    (hd : decode c.code pc = .ok (.new index, 3)) (hp : pc + 3 = pc') (hc : k + 1 ≤ R.cells) (hl : n + 4 ≤ R.slots)
    (K : ∀ x T' h', h.size ≤ x → Wd p l e R s m args below meth c Z a0 EL own (x :: F) T' h' (k + 1) (n + 4) → Ext h h' → NewS Z (x :: F) h' x → Go p e below P T' (mkF m pc' ls (.ref x :: st))) : Go p e below P T (mkF m pc ls st) := by
  have hO := W.old
  exact g_new W w wi wz hd hp hc hl fun x T' h' hx W' E B => K x T' h' hx W' E ⟨Nat.le_trans hO.1 hx, List.mem_cons_self .., B.1, ⟨_, B.2 (Or.inr wv) (ty := .array .byte) (by decide)⟩, ⟨_, B.2 (Or.inr wc) (ty := .byte) (by decide)⟩⟩
theorem g_baload (W : Wd p l e R s m args below meth c Z a0 EL own F T h k n) {pc pc' : Nat} {ls : Array Slot} {st : List Value} {a : Addr} {cs : List Int32} (A : Ali Z h a .byte (cs.map Value.int)) {j : Int32} {i : Nat} (hj : ¬ j < 0) (hi : j.toNatClampNeg = i) (hlt : i < cs.length)
    (hd : decode c.code pc = .ok (.baload, 1)) (hp : pc + 1 = pc') (K : Go p e below P T (mkF m pc' ls (.int (cs.getD i 0) :: st))) : Go p e below P T (mkF m pc ls (.int j :: .ref a :: st)) := by
  subst hp
  obtain ⟨cell, A1, hsz, hget⟩ := A.get
  obtain ⟨w1, w2, w3, w4, vm0, k0, locs, X, hZ, hown, rfl, r⟩ := W
  refine K.st fun t q => X.baloadBytes w1 A1.1 (State.isArrayOf_alike (s := Z) hZ.alike A1.2.1) A1.2.2 (j := j) (by rw [hsz, hi]; simp only [List.length_map]; exact fun r => r.elim hj (by omega)) (v := .int (cs.getD i 0)) (by rw [hi, hget]; simp [hlt]) (g := mkF m pc ls (.int j :: .ref a :: st)) rfl rfl hd t q
theorem g_instNull (W : Wd p l e R s m args below meth c Z a0 EL own F T h k n) {pc pc' : Nat} {ls : Array Slot} {st : List Value} {index : Nat} (hd : decode c.code pc = .ok (.instanceof index, 3)) (hp : pc + 3 = pc') (K : Go p e below P T (mkF m pc' ls (.int 0 :: st))) : Go p e below P T (mkF m pc ls (.null :: st)) := by
  subst hp
  obtain ⟨w1, w2, w3, w4, vm0, k0, locs, X, r⟩ := W
  exact K.st fun t q => X.instanceofNull w1 (g := mkF m pc ls (.null :: st)) rfl (rest := st) rfl hd t q
theorem g_checkcast (W : Wd p l e R s m args below meth c Z a0 EL own F T h k n) {pc pc' : Nat} {ls : Array Slot} {st : List Value} {index : Nat} {C : String} (w : (Jvm.Cond.classLink own index C).before a0 Z = true) {a : Addr} (I : Ins Z h a C true) (hd : decode c.code pc = .ok (.checkcast index, 3)) (hp : pc + 3 = pc')
    (K : ∀ T', Wd p l e R s m args below meth c Z a0 EL own F T' h k n → Go p e below P T' (mkF m pc' ls (.ref a :: st))) : Go p e below P T (mkF m pc ls (.ref a :: st)) := by
  subst hp
  exact W.grow (fun X hZ hown eT => castY X W.hx hZ hown w eT I (g := mkF m pc ls (.ref a :: st)) rfl rfl hd) (ext_refl h) K
end OwnD
/-! own kit, part E: String's own methods at a call, over the pasted laws of laws/STRINGS -/
section OwnE
variable {p : Program} {l : Launch} {e : Env} {R : Room} {s : State} {m : MethodId} {args : Array Value} {below : List Frame} {meth : Method} {c : Code} {T T' : State} {h h' : Heap} {Z : State} {a0 : Array Value} {EL : List (String × Nat)} {own : String} {k n : Nat} {P : Outcome → State → Prop} {F : List Addr}
/-- compact strings are on -/
def Cst (Z : State) : Prop := ∃ z : Int32, Sta Z Z.heap "java/lang/String" "COMPACT_STRINGS" "Z" (.int z) ∧ ¬ z = 0
def Fst (Z : State) : Prop := ∃ fm : Value, Sta Z Z.heap "jdk/internal/util/Preconditions" "SIOOBE_FORMATTER" "Ljava/util/function/BiFunction;" fm ∧ fm.isRef = true
theorem Str.cod {a : Addr} {cs : List Int32} (S : Str Z h a cs) : ∃ t kb, Fld Z h a "java/lang/String" "value" "[B" (.ref t) ∧ Arv Z h t kb .byte (Int32.ofNat cs.length) ((cs.map StrChars.lo8).map Value.int) (.int 0) ∧ StrChars.Road.CodA cs 0 (Int32.ofNat cs.length) ((cs.map StrChars.lo8).map Value.int) := by
  obtain ⟨s1, s2, ⟨t, s3, s4⟩, s5, s6⟩ := S
  obtain ⟨kb, A⟩ := s4.arv (d := .int 0) (z := Int32.ofNat cs.length) (fun v hv => by
    simp only [List.mem_map] at hv
    obtain ⟨b, ⟨x, -, rfl⟩, rfl⟩ := hv
    exact fits_lo x) (by simp)
  exact ⟨t, kb, s3, A, StrChars.Road.codOf rfl fun c hc => (s5 c hc).2⟩
theorem g_len (W : Wd p l e R s m args below meth c Z a0 EL own F T h k n) (hw : ∀ d ∈ tables_1, d.before a0 Z = true) (cst : Cst Z) {a : Addr} {cs : List Int32} (S : Str Z h a cs) {index : Nat} (v1 : (Jvm.Cond.methodLink own index (⟨"java/lang/String", "length", "()I"⟩ : MethodName)).before a0 Z = true)
    {pc pc' : Nat} {ls : Array Slot} {rest : List Value} (hsz : ls.size = c.maxLocals) (hd : decode c.code pc = .ok (.invokevirtual index, 3)) (hp : pc + 3 = pc') {Wn : Nat} (hW : (rest.map fun v => v.category).sum ≤ Wn) (hf : 2 ≤ R.frames) (hl : Wn + 25 ≤ R.locals) (hc : k ≤ R.cells) (hs : n ≤ R.slots) {z : Int32} (hz : Int32.ofNat cs.length = z)
    (K : ∀ T', Wd p l e R s m args below meth c Z a0 EL own F T' h k n → Go p e below P T' (mkF m pc' ls (.int z :: rest))) : Go p e below P T (mkF m pc ls (.ref a :: rest)) := by
  subst hp hz
  obtain ⟨zc, Sc, hzc⟩ := cst
  have wl : ∀ d ∈ StrChars.Road.wordsLen, d.before a0 Z = true := fun d hd => hw d ((by decide +kernel : ∀ d ∈ StrChars.Road.wordsLen, d ∈ tables_1) d hd)
  have wi : (Jvm.Cond.instantiable "java/lang/String" 4).before a0 Z = true := hw _ (by decide +kernel)
  obtain ⟨t, kb, q1, q2, q3⟩ := S.cod
  obtain ⟨w1, w2, w3, w4, vm0, k0, locs, X, hZ, hown, rfl, hS, hk, hC, hN, hH, hF⟩ := W
  obtain ⟨cq, kq, qa, qb, qc⟩ := isOf (s := s.setVm vm0) hZ rfl S.1
  obtain ⟨v, vm1, B, hw1, X', ⟨L, ⟨rfl, rfl, e1⟩, r1, r2, r3⟩, st⟩ := X.virtualBack w1 (own := own) (y := (⟨"java/lang/String", "length", "()I"⟩ : MethodName)) (z := (⟨"java/lang/String", "length", "()I"⟩ : MethodName)) hown (mvT (s := s.setVm vm0) hZ v1) (mvT (s := s.setVm vm0) hZ (hw _ (by decide +kernel))) (notFace_of_selects (C := "java/lang/String") (y := (⟨"java/lang/String", "length", "()I"⟩ : MethodName)) (args := #[]) (mvT (s := s.setVm vm0) hZ (hw _ (by decide +kernel)))) (mvT (s := s.setVm vm0) hZ (hw _ (by decide +kernel))) (mvT (s := s.setVm vm0) hZ (hw _ (by decide +kernel))) (by decide)
    (StrChars.Road.lenW (s := s.setVm vm0) hZ wl wi S.1 q1 S.2.1 q2 q3 S.2.2.2.1.lit (Sc.ext w2) hzc S.2.2.2.2 hf hl) qa qc (g := mkF m pc ls (.ref a :: rest)) rfl hsz (Steps.refl _) (argsL := []) (rest := rest) (lenOf (by decide : parseMethodDescriptor "()I" = some ⟨[], some .int⟩) rfl) rfl (by simpa using hW) hd (fun _ _ => ⟨rfl, rfl, hc, hs⟩)
  have W' := wd_kept (B := B) (ws := []) (L := []) w1 w2 w3 w4 hZ hown hS hk hC hN hH hF X' (by rw [e1]; exact Keep.refl _ _) (fun x q => nomatch q) (Fr.nil _) (by simpa using r1)
  simp only [Pt.cells, Pt.slots, Pt.U, Nat.add_zero] at W' r2 r3 e1
  rw [r2, r3, e1] at W'
  exact (K B.U W').tr st
theorem g_charAt (W : Wd p l e R s m args below meth c Z a0 EL own F T h k n) (hw : ∀ d ∈ tables_1, d.before a0 Z = true) (cst : Cst Z) (fst : Fst Z) {a : Addr} {cs : List Int32} (S : Str Z h a cs) {index : Nat} (v1 : (Jvm.Cond.methodLink own index (⟨"java/lang/String", "charAt", "(I)C"⟩ : MethodName)).before a0 Z = true)
    {pc pc' : Nat} {ls : Array Slot} {rest : List Value} (hsz : ls.size = c.maxLocals) (hd : decode c.code pc = .ok (.invokevirtual index, 3)) (hp : pc + 3 = pc') {Wn : Nat} (hW : (rest.map fun v => v.category).sum ≤ Wn) (hf : 4 ≤ R.frames) (hl : Wn + 53 ≤ R.locals) (hc : k ≤ R.cells) (hs : n ≤ R.slots) {j : Int32} {i : Nat} (hj : j = Int32.ofNat i) (hi : i < cs.length)
    (K : ∀ T', Wd p l e R s m args below meth c Z a0 EL own F T' h k n → Go p e below P T' (mkF m pc' ls (.int (cs.getD i 0) :: rest))) : Go p e below P T (mkF m pc ls (.int j :: .ref a :: rest)) := by
  subst hp
  obtain ⟨zc, Sc, hzc⟩ := cst
  obtain ⟨fm, Sf, rf⟩ := fst
  have wl : ∀ d ∈ StrChars.Road.wordsChN, d.before a0 Z = true := fun d hd => hw d ((by decide +kernel : ∀ d ∈ StrChars.Road.wordsChN, d ∈ tables_1) d hd)
  have wi : (Jvm.Cond.instantiable "java/lang/String" 4).before a0 Z = true := hw _ (by decide +kernel)
  obtain ⟨t, kb, q1, q2, q3⟩ := S.cod
  obtain ⟨w1, w2, w3, w4, vm0, k0, locs, X, hZ, hown, rfl, hS, hk, hC, hN, hH, hF⟩ := W
  obtain ⟨cq, kq, qa, qb, qc⟩ := isOf (s := s.setVm vm0) hZ rfl S.1
  obtain ⟨v, vm1, B, hw1, X', ⟨L, ⟨rfl, rfl, e1⟩, r1, r2, r3⟩, st⟩ := X.virtualBack w1 (own := own) (y := (⟨"java/lang/String", "charAt", "(I)C"⟩ : MethodName)) (z := (⟨"java/lang/String", "charAt", "(I)C"⟩ : MethodName)) hown (mvT (s := s.setVm vm0) hZ v1) (mvT (s := s.setVm vm0) hZ (hw _ (by decide +kernel))) (notFace_of_selects (C := "java/lang/String") (y := (⟨"java/lang/String", "charAt", "(I)C"⟩ : MethodName)) (args := #[]) (mvT (s := s.setVm vm0) hZ (hw _ (by decide +kernel)))) (mvT (s := s.setVm vm0) hZ (hw _ (by decide +kernel))) (mvT (s := s.setVm vm0) hZ (hw _ (by decide +kernel))) (by decide)
    (StrChars.Road.chN (s := s.setVm vm0) hZ wl wi S.1 q1 S.2.1 q2 q3 S.2.2.2.1.lit (Sc.ext w2) hzc (Sf.ext w2) rf S.2.2.2.2 hi hj hf hl) qa qc (g := mkF m pc ls (.int j :: .ref a :: rest)) rfl hsz (Steps.refl _) (argsL := [.int j]) (rest := rest) (lenOf (by decide : parseMethodDescriptor "(I)C" = some ⟨[.int], some .char⟩) rfl) rfl (by simpa using hW) hd (fun _ _ => ⟨rfl, rfl, hc, hs⟩)
  have W' := wd_kept (B := B) (ws := []) (L := []) w1 w2 w3 w4 hZ hown hS hk hC hN hH hF X' (by rw [e1]; exact Keep.refl _ _) (fun x q => nomatch q) (Fr.nil _) (by simpa using r1)
  simp only [Pt.cells, Pt.slots, Pt.U, Nat.add_zero] at W' r2 r3 e1
  rw [r2, r3, e1] at W'
  exact (K B.U W').tr st
theorem g_equals (W : Wd p l e R s m args below meth c Z a0 EL own F T h k n) (hw : ∀ d ∈ tables_1, d.before a0 Z = true) (cst : Cst Z) {a b : Addr} {cs ds : List Int32} (S : Str Z h a cs) (S' : Str Z h b ds) {index : Nat} (v1 : (Jvm.Cond.methodLink own index (⟨"java/lang/String", "equals", "(Ljava/lang/Object;)Z"⟩ : MethodName)).before a0 Z = true)
    {pc pc' : Nat} {ls : Array Slot} {rest : List Value} (hsz : ls.size = c.maxLocals) (hd : decode c.code pc = .ok (.invokevirtual index, 3)) (hp : pc + 3 = pc') {Wn : Nat} (hW : (rest.map fun v => v.category).sum ≤ Wn) (hf : 2 ≤ R.frames) (hl : Wn + 28 ≤ R.locals) (hc : k ≤ R.cells) (hs : n ≤ R.slots)
    (K : ∀ T', Wd p l e R s m args below meth c Z a0 EL own F T' h k n → Go p e below P T' (mkF m pc' ls (.int (if cs = ds then 1 else 0) :: rest))) : Go p e below P T (mkF m pc ls (.ref b :: .ref a :: rest)) := by
  subst hp
  obtain ⟨zc, Sc, hzc⟩ := cst
  have wl : ∀ d ∈ StrChars.Road.wordsEq, d.before a0 Z = true := fun d hd => hw d ((by decide +kernel : ∀ d ∈ StrChars.Road.wordsEq, d ∈ tables_1) d hd)
  have wi : (Jvm.Cond.instantiable "java/lang/String" 4).before a0 Z = true := hw _ (by decide +kernel)
  obtain ⟨t, kb, q1, q2, q3⟩ := S.cod
  obtain ⟨t', kb', q1', q2', q3'⟩ := S'.cod
  obtain ⟨w1, w2, w3, w4, vm0, k0, locs, X, hZ, hown, rfl, hS, hk, hC, hN, hH, hF⟩ := W
  obtain ⟨cq, kq, qa, qb, qc⟩ := isOf (s := s.setVm vm0) hZ rfl S.1
  obtain ⟨v, vm1, B, hw1, X', ⟨L, ⟨hv, rfl, e1⟩, r1, r2, r3⟩, st⟩ := X.virtualBack w1 (own := own) (y := (⟨"java/lang/String", "equals", "(Ljava/lang/Object;)Z"⟩ : MethodName)) (z := (⟨"java/lang/String", "equals", "(Ljava/lang/Object;)Z"⟩ : MethodName)) hown (mvT (s := s.setVm vm0) hZ v1) (mvT (s := s.setVm vm0) hZ (hw _ (by decide +kernel))) (notFace_of_selects (C := "java/lang/String") (y := (⟨"java/lang/String", "equals", "(Ljava/lang/Object;)Z"⟩ : MethodName)) (args := #[]) (mvT (s := s.setVm vm0) hZ (hw _ (by decide +kernel)))) (mvT (s := s.setVm vm0) hZ (hw _ (by decide +kernel))) (mvT (s := s.setVm vm0) hZ (hw _ (by decide +kernel))) (by decide)
    (StrChars.Road.eqW (s := s.setVm vm0) hZ wl wi S.1 q1 S.2.1 q2 q3 S.2.2.2.1.lit S.2.2.2.2 S'.1 q1' S'.2.1 q2' q3' S'.2.2.2.1.lit S'.2.2.2.2 (Sc.ext w2) hzc hf hl) qa qc (g := mkF m pc ls (.ref b :: .ref a :: rest)) rfl hsz (Steps.refl _) (argsL := [.ref b]) (rest := rest) (lenOf (by decide : parseMethodDescriptor "(Ljava/lang/Object;)Z" = some ⟨[.object "java/lang/Object"], some .boolean⟩) rfl) rfl (by simpa using hW) hd (fun _ _ => ⟨rfl, rfl, hc, hs⟩)
  have hv' : v = some (.int (if cs = ds then 1 else 0)) := by
    rcases hv with ⟨rfl, q⟩ | ⟨rfl, q⟩
    · simp [q]
    · simp [q]
  subst hv'
  have W' := wd_kept (B := B) (ws := []) (L := []) w1 w2 w3 w4 hZ hown hS hk hC hN hH hF X' (by rw [e1]; exact Keep.refl _ _) (fun x q => nomatch q) (Fr.nil _) (by simpa using r1)
  simp only [Pt.cells, Pt.slots, Pt.U, Nat.add_zero] at W' r2 r3 e1
  rw [r2, r3, e1] at W'
  exact (K B.U W').tr st
theorem g_initS (W : Wd p l e R s m args below meth c Z a0 EL own F T h k n) (hw : ∀ d ∈ tables_1, d.before a0 Z = true) (cst : Cst Z) {x b : Addr} {cs : List Int32} (S : NewS Z F h x) (A : Ali Z h b .char (cs.map Value.int)) (hL : Latin cs) (l0 : 0 < cs.length) (l1 : cs.length ≤ 4000) {index : Nat}
    (v1 : (Jvm.Cond.methodLink own index (⟨"java/lang/String", "<init>", "([C)V"⟩ : MethodName)).before a0 Z = true)
    {pc pc' : Nat} {ls : Array Slot} {rest : List Value} (hsz : ls.size = c.maxLocals) (hd : decode c.code pc = .ok (.invokespecial index, 3)) (hp : pc + 3 = pc') {Wn : Nat} (hW : (rest.map fun v => v.category).sum ≤ Wn) (hf : 4 ≤ R.frames) (hl : Wn + 65 ≤ R.locals) (hc : k + 1 ≤ R.cells) {nn : Nat} (hnn : cs.length ≤ nn) (hs : n + nn ≤ R.slots)
    (K : ∀ T' h', Wd p l e R s m args below meth c Z a0 EL own F T' h' (k + 1) (n + nn) → Keep h h' [x] → Str Z h' x cs → Go p e below P T' (mkF m pc' ls rest)) : Go p e below P T (mkF m pc ls (.ref b :: .ref x :: rest)) := by
  subst hp
  obtain ⟨zc, Sc, hzc⟩ := cst
  have wl : ∀ d ∈ StrChars.Road.words, d.before a0 Z = true := fun d hd => hw d ((by decide +kernel : ∀ d ∈ StrChars.Road.words, d ∈ tables_1) d hd)
  have wi : (Jvm.Cond.instantiable "java/lang/String" 4).before a0 Z = true := hw _ (by decide +kernel)
  have wcode : (Jvm.Cond.code (⟨"java/lang/String", "<init>", "([C)V"⟩ : MethodName) StrChars.New1.yB 2 none).before a0 Z = true := hw _ (by decide +kernel)
  obtain ⟨s1, s2, s3, ⟨v0, s4⟩, ⟨u0, s5⟩⟩ := S
  obtain ⟨kC, A1⟩ := A.arv (d := .int 0) (z := Int32.ofNat cs.length) (fun v hv => by
    obtain ⟨y, hy, rfl⟩ := List.mem_map.mp hv
    exact fits_chr (hL.lit y hy).1 (hL.lit y hy).2) (by simp)
  obtain ⟨w1, w2, w3, w4, vm0, k0, locs, X, hZ, hown, rfl, hS, hk, hC, hN, hH, hF⟩ := W
  obtain ⟨v, vm1, B, hw1, X', ⟨L, ⟨rfl, f1, f2, f3, f4, t, kb, -, -, -, f5, f6⟩, r1, r2, r3⟩, st⟩ := X.specialBack w1 (own := own) (y := (⟨"java/lang/String", "<init>", "([C)V"⟩ : MethodName)) rfl hown (mvT (s := s.setVm vm0) hZ v1) (mvT (s := s.setVm vm0) hZ (hw _ (by decide +kernel))) (mvT (s := s.setVm vm0) hZ wcode) (by decide)
    (StrChars.Road.backV (s := s.setVm vm0) hZ wl wi s1 w2.1 s3 s4 s5 A1 (Sc.ext w2) hzc rfl rfl l0 l1 hL rfl hf hl) (g := mkF m pc ls (.ref b :: .ref x :: rest)) rfl hsz (Steps.refl _) (a := x) (argsL := [.ref b]) (rest := rest) (lenOf (by decide : parseMethodDescriptor "([C)V" = some ⟨[.array .char], none⟩) rfl) rfl (by simpa using hW) hd (fun _ _ => ⟨rfl, rfl, hc, Nat.le_trans (Nat.add_le_add_left hnn _) hs⟩)
  have W' := wd_kept (B := B) (ws := [x]) (L := L) w1 w2 w3 w4 hZ hown hS hk hC hN hH hF X' f2 (fun y q => by cases List.mem_singleton.mp q; exact ⟨s1, Or.inl s2⟩) f1 r1
  simp only [Pt.cells, Pt.slots, Pt.U] at W' r2 r3
  rw [r2, r3] at W'
  refine (K B.U _ (W'.more (Nat.le_refl _) (Nat.add_le_add_left hnn _)) f2 ⟨f3, f4, ⟨t, f5, Ali.of_arv (vs := (cs.map lo).map Value.int) f6 ?_⟩, hL, l1⟩).tr st
  rw [own_n32 (by omega)]
  simp
end OwnE
/-! own kit, part F: small facts -/
section OwnF
variable {p : Program} {e : Env} {below : List Frame} {P : Outcome → State → Prop} {T : State} {Z : State} {a0 : Array Value}
theorem Go.cast {g g' : JFrame} (q : g = g') (K : Go p e below P T g') : Go p e below P T g := q ▸ K
/-- a char below 256 -/
def Lc (x : Int32) : Prop := ¬ x < 0 ∧ ¬ (255 : Int32) < x
theorem Lc.w {x : Int32} (q : Lc x) : ¬ (65535 : Int32) < x := ((Latin.cons q.1 q.2 Latin.nil).lit x (List.mem_cons_self ..)).2
theorem Lc.mask (x : Int32) : Lc (x &&& 255) := by
  have q := c_and x 255 (by decide)
  have e1 : (255 : Int32).toInt = 255 := rfl
  have e0 : (0 : Int32).toInt = 0 := rfl
  constructor
  · rw [Int32.lt_iff_toInt_lt]; omega
  · rw [Int32.lt_iff_toInt_lt]; omega
theorem nar_char {x : Int32} (h0 : ¬ x < 0) (h1 : ¬ 65535 < x) : x.toUInt32.toUInt16.toUInt32.toInt32 = x := by
  have := c_i2c x
  apply Int32.toInt_inj.mp
  rw [Int32.lt_iff_toInt_lt] at h0 h1
  have e0 : (0 : Int32).toInt = 0 := rfl
  have e1 : (65535 : Int32).toInt = 65535 := rfl
  omega
theorem Lc.i2c {x : Int32} (q : Lc x) : x.toUInt32.toUInt16.toUInt32.toInt32 = x := nar_char q.1 q.w
theorem Lc.nar {x : Int32} (q : Lc x) : narrow .char (.int x) = .int x := by
  show Value.int (Jvm.RoadKit.nar .char x) = _
  rw [show Jvm.RoadKit.nar .char x = x from q.i2c]
theorem Lc.l2i (y : Int64) : Lc (y &&& 255).toInt32 := by
  have a := c_maskL y 255 8 (by decide) (by decide)
  have b := c_l2i (y &&& 255)
  have r := rng32 (y &&& 255).toInt32
  have e0 : (0 : Int32).toInt = 0 := rfl
  have e1 : (255 : Int32).toInt = 255 := rfl
  constructor
  · rw [Int32.lt_iff_toInt_lt]; omega
  · rw [Int32.lt_iff_toInt_lt]; omega
theorem lt_nat {i : Int32} {n : Nat} (h0 : ¬ i < 0) (hn : n < 2 ^ 31) (h : i < Int32.ofNat n) : i.toNatClampNeg < n := by
  rw [Int32.lt_iff_toInt_lt] at h h0
  rw [Int32.toInt_ofNat_small hn] at h
  have e0 : (0 : Int32).toInt = 0 := rfl
  simp only [Int32.toNatClampNeg]
  omega
theorem eq_nat {i : Int32} (h0 : ¬ i < 0) : i = Int32.ofNat i.toNatClampNeg := (back32 h0).1.symm
theorem Lc.zero : Lc 0 := ⟨by decide, by decide⟩
theorem Latin.get {cs : List Int32} (q : Latin cs) (i : Nat) : Lc (cs.getD i 0) := by
  rcases Nat.lt_or_ge i cs.length with h | h
  · have e : cs.getD i 0 = cs[i] := by simp [h]
    rw [e]; exact q _ (List.getElem_mem _)
  · have e : cs.getD i 0 = 0 := by simp [List.getElem?_eq_none h]
    rw [e]; exact Lc.zero
theorem Latin.set {cs : List Int32} (q : Latin cs) (i : Nat) {x : Int32} (hx : Lc x) : Latin (cs.set i x) := fun c hc => by
  rcases List.mem_or_eq_of_mem_set hc with h | rfl
  · exact q c h
  · exact hx
theorem Latin.con {x : Int32} {cs : List Int32} (q : Lc x) (r : Latin cs) : Latin (x :: cs) := Latin.cons q.1 q.2 r
theorem own_wS (hw : ∀ d ∈ tables_1, d.before a0 Z = true) : ∀ a ∈ Bundle.stringAtoms, a.before a0 Z = true := fun d hd => hw d ((by decide +kernel : ∀ d ∈ Bundle.stringAtoms, d ∈ tables_1) d hd)
theorem and3 (x : Int32) : x &&& 3 = 0 ∨ x &&& 3 = 1 ∨ x &&& 3 = 2 ∨ x &&& 3 = 3 := by
  have q := c_and x 3 (by decide)
  have e3 : (3 : Int32).toInt = 3 := rfl
  have e2 : (2 : Int32).toInt = 2 := rfl
  have e1 : (1 : Int32).toInt = 1 := rfl
  have e0 : (0 : Int32).toInt = 0 := rfl
  simp only [← Int32.toInt_inj]
  omega
end OwnF
/-! own kit, part G: arrays of references, what a case says of a String or an array of the start -/
section OwnG
variable {p : Program} {l : Launch} {e : Env} {R : Room} {s : State} {m : MethodId} {args : Array Value} {below : List Frame} {meth : Method} {c : Code} {T T' : State} {h h' : Heap} {Z : State} {a0 : Array Value} {EL : List (String × Nat)} {own : String} {k n : Nat} {P : Outcome → State → Prop} {F : List Addr}
theorem g_aaload (W : Wd p l e R s m args below meth c Z a0 EL own F T h k n) {pc pc' : Nat} {ls : Array Slot} {st : List Value} {a : Addr} {ty : FieldType} {vs : List Value} (A : Ali Z h a ty vs) (ht : ty.isReference = true) {j : Int32} {i : Nat} (hj : ¬ j < 0) (hi : j.toNatClampNeg = i) {v : Value} (hv : vs[i]? = some v)
    (hd : decode c.code pc = .ok (.aaload, 1)) (hp : pc + 1 = pc') (K : Go p e below P T (mkF m pc' ls (v :: st))) : Go p e below P T (mkF m pc ls (.int j :: .ref a :: st)) := by
  subst hp
  obtain ⟨cell, A1, hsz, hget⟩ := A.get
  have hlt : i < vs.length := (List.getElem?_eq_some_iff.mp hv).1
  obtain ⟨w1, w2, w3, w4, vm0, k0, locs, X, hZ, hown, rfl, r⟩ := W
  refine K.st fun t q => X.aaload w1 A1.1 (State.isArrayOf_alike (s := Z) hZ.alike A1.2.1) ht A1.2.2 (j := j) (by rw [hsz, hi]; exact fun r => r.elim hj (by omega)) (v := v) (by rw [hi, hget]; exact hv) (g := mkF m pc ls (.int j :: .ref a :: st)) rfl rfl hd t q
theorem g_clone (W : Wd p l e R s m args below meth c Z a0 EL own F T h k n) {pc pc' : Nat} {ls : Array Slot} {st : List Value} {a : Addr} {ty : FieldType} {cl : Cell} (A : Arr Z h a cl ty) (FC : FitC Z cl) (hlen : cl.slots.size < 2 ^ 31) {ad : String} (E : Exa Z h a ad) {index : Nat}
    (w1 : (Jvm.Cond.methodLink own index ⟨ad, "clone", "()Ljava/lang/Object;"⟩).before a0 Z = true) (w2 : (Jvm.Cond.sameMethod ad "java/lang/Object" "clone" "()Ljava/lang/Object;").before a0 Z = true) (w3 : (Jvm.Cond.native ⟨"java/lang/Object", "clone", "()Ljava/lang/Object;"⟩).before a0 Z = true)
    (w4 : (Jvm.Cond.instanceMethod ⟨"java/lang/Object", "clone", "()Ljava/lang/Object;"⟩).before a0 Z = true) (w5 : (Jvm.Cond.selects ad ⟨ad, "clone", "()Ljava/lang/Object;"⟩ ⟨"java/lang/Object", "clone", "()Ljava/lang/Object;"⟩).before a0 Z = true) (w6 : (Jvm.Cond.castable ad "java/lang/Cloneable").before a0 Z = true)
    (hsz : ls.size = c.maxLocals) (hd : decode c.code pc = .ok (.invokevirtual index, 3)) (hp : pc + 3 = pc') (hf : 1 ≤ R.frames) {Wn : Nat} (hW : (st.map fun v => v.category).sum ≤ Wn) (hl : Wn + 14 ≤ R.locals) {cap : Nat} (hcap : cl.slots.size ≤ cap) (hc : k + 1 ≤ R.cells) (hs : n + cap ≤ R.slots)
    (K : ∀ x T' h', h.size ≤ x → Wd p l e R s m args below meth c Z a0 EL own (x :: F) T' h' (k + 1) (n + cap) → Ext h h' → (Ali Z h' x ty cl.slots.toList ∧ Exa Z h' x ad) → Go p e below P T' (mkF m pc' ls (.ref x :: st))) : Go p e below P T (mkF m pc ls (.ref a :: st)) := by
  subst hp
  refine W.make (B := fun h' => Ali Z h' h.size ty cl.slots.toList ∧ Exa Z h' h.size ad) (fun X hZ hown eT => ?_) (fun T' h' => K h.size T' h' (Nat.le_refl _))
  obtain ⟨T', h', X', e1, E1, A1, E2, st⟩ := cloneA X W.hx hZ hown w1 w2 w3 w4 w5 w6 eT A E FC (g := mkF m pc ls (.ref a :: st)) rfl hsz rfl hd hf (by simpa using hW) hl hcap hc hs
  exact ⟨T', h', X', e1, E1, A1.lt, ⟨⟨_, A1, rfl, by simpa using hlen⟩, E2⟩, st⟩
/-- what a case says of an array: its length, its components -/
theorem arr_at {t : Jvm.Term} {a : Addr} {ty : FieldType} {z : Int32} {n : Nat} {vs : Nat → Value} (ev : t.eval args s none [] s = some (.ref a)) (ha : (Jvm.Cond.arrayOf t ty).value args s none s [] = some true) (hl : (Jvm.Cond.eq (.length t) (.int z)).value args s none s [] = some true) (hz : Int32.ofNat n = z) (hn : n < 2 ^ 31)
    (he : ∀ i, i < n → (Jvm.Term.elem t (.int (Int32.ofNat i))).eval args s none [] s = some (vs i)) : ∃ cl, Arr s s.heap a cl ty ∧ cl.slots.toList = (List.range n).map vs ∧ cl.slots.size = n := by
  obtain ⟨cl, A⟩ := Arr.start ev ha
  have hat := Arr.fin (Vm.Alike.refl _) A
  have hlen := Cond.eq_int (Cond.before_iff.mpr hl) rfl
  have h31 := Jvm.Free.SBG.length_lt ev hat hlen
  have hsz : cl.slots.size = n := by
    have e : (Jvm.Term.length t).eval args s none [] s = some (.int (Int32.ofNat cl.slots.size)) := by simp [Jvm.Term.eval, ev, hat, h31]
    have h2 : Int32.ofNat cl.slots.size = Int32.ofNat n := by rw [hz]; simpa using Option.some.inj (e.symm.trans hlen)
    have := congrArg Int32.toInt h2
    rw [Int32.toInt_ofNat_small h31, Int32.toInt_ofNat_small hn] at this; omega
  refine ⟨cl, A, ?_, hsz⟩
  apply List.ext_getElem?
  intro i
  rw [Array.getElem?_toList]
  rcases Nat.lt_or_ge i n with q | q
  · have e1 := he i q
    rw [Jvm.Free.SBG.elem_at (ix := .int (Int32.ofNat i)) ev hat (by omega) h31 rfl] at e1
    rw [e1]; simp [q]
  · rw [Array.getElem?_eq_none (by omega), List.getElem?_eq_none (by simpa using q)]
/-- what a case says of a String: exactly a String, Latin-1, these bytes -/
theorem str_at {t : Jvm.Term} {a : Addr} {z : Int32} {cs bs : List Int32} (ev : t.eval args s none [] s = some (.ref a)) (hx : (Jvm.Cond.exactly t "java/lang/String").value args s none s [] = some true) (hc : (Jvm.Cond.eq (.field t "java/lang/String" "coder" "B") (.int 0)).value args s none s [] = some true)
    (ha : (Jvm.Cond.arrayOf (.field t "java/lang/String" "value" "[B") .byte).value args s none s [] = some true) (hl : (Jvm.Cond.eq (.length (.field t "java/lang/String" "value" "[B")) (.int z)).value args s none s [] = some true) (hz : Int32.ofNat bs.length = z) (hb : cs.map lo = bs) (hL : Latin cs) (h4 : cs.length ≤ 4000)
    (he : ∀ i, i < bs.length → (Jvm.Cond.eq (.elem (.field t "java/lang/String" "value" "[B") (.int (Int32.ofNat i))) (.int (bs.getD i 0))).value args s none s [] = some true) : Str s s.heap a cs := by
  subst hb
  obtain ⟨tv, ev2⟩ := arr_v ha
  have ec := Cond.eq_int (Cond.before_iff.mpr hc) rfl
  rw [fld_at ev] at ec
  have fv := ev2
  rw [fld_at ev] at fv
  obtain ⟨cl, A, hA, hsz⟩ := arr_at (vs := fun i => .int ((cs.map lo).getD i 0)) ev2 ha hl hz (by simp; omega) (fun i hi => Cond.eq_int (Cond.before_iff.mpr (he i hi)) rfl)
  refine ⟨Exa.start ev hx, Fld.start ec, ⟨tv, Fld.start fv, cl, A, ?_, by simp; omega⟩, hL, h4⟩
  rw [hA]
  apply List.ext_getElem?
  intro i
  rcases Nat.lt_or_ge i (cs.map lo).length with q | q
  · simp only [List.length_map] at q
    simp [q]
  · simp only [List.length_map] at q
    rw [List.getElem?_eq_none (by simpa using q), List.getElem?_eq_none (by simpa using q)]
/-- a component of the array is this static's object -/
theorem elem_ref {t i u : Jvm.Term} {q : Addr} (h : (Jvm.Cond.eq (.elem t i) u).value args s none s [] = some true) (hu : u.eval args s none [] s = some (.ref q)) : (Jvm.Term.elem t i).eval args s none [] s = some (.ref q) := by
  obtain ⟨x, y, e1, e2, -, k2⟩ := cmp_v (Or.inl h)
  cases e2.symm.trans hu
  have hx : x.isRef = true := by
    have : Value.isRef (.ref q) = true ∧ x.isRef = true := k2
    exact this.2
  have e := gotT (eq_R e1 hu hx rfl) h
  rw [e1, e]
end OwnG
theorem pnS : plainName "java/lang/String" = true := by first | (simp [plainName, overriddenIn]; done) | decide +kernel
abbrev LW : String := "com/example/crosskey/crosskey/core/ScopeOfPinLaw"
abbrev NK : String := "com/example/crosskey/crosskey/core/Scope"
abbrev NKd : String := "Lcom/example/crosskey/crosskey/core/Scope;"
abbrev NKa : String := "[Lcom/example/crosskey/crosskey/core/Scope;"
abbrev SD : String := "Ljava/lang/String;"
abbrev OD : String := "Ljava/lang/Object;"
abbrev EN : String := "value"
abbrev OPT : String := "java/util/Optional"
abbrev C0 : List Int32 := [97, 112, 112, 115, 58, 114, 101, 97, 100]
abbrev C1 : List Int32 := [97, 112, 112, 115, 58, 99, 114, 101, 97, 116, 101]
abbrev C2 : List Int32 := [97, 112, 112, 115, 58, 109, 97, 110, 97, 103, 101]
/-- the enum's constants, as the case says them; Optional.EMPTY -/
def Kn (Z : State) (va q0 q1 q2 e0 e1 e2 eo : Addr) : Prop := Sta Z Z.heap NK "$VALUES" NKa (.ref va) ∧ (∃ cl, Arr Z Z.heap va cl (.object NK) ∧ FitC Z cl ∧ cl.slots.toList = [.ref q0, .ref q1, .ref q2]) ∧ Exa Z Z.heap va NKa ∧ Sta Z Z.heap NK "APPS_READ" NKd (.ref q0) ∧ Sta Z Z.heap NK "APPS_CREATE" NKd (.ref q1) ∧ Sta Z Z.heap NK "APPS_MANAGE" NKd (.ref q2) ∧ Fld Z Z.heap q0 NK EN SD (.ref e0) ∧ Fld Z Z.heap q1 NK EN SD (.ref e1) ∧ Fld Z Z.heap q2 NK EN SD (.ref e2) ∧ Str Z Z.heap e0 C0 ∧ Str Z Z.heap e1 C1 ∧ Str Z Z.heap e2 C2 ∧ Exa Z Z.heap q0 NK ∧ Exa Z Z.heap q1 NK ∧ Exa Z Z.heap q2 NK ∧ Sta Z Z.heap OPT "EMPTY" "Ljava/util/Optional;" (.ref eo) ∧ Exa Z Z.heap eo OPT ∧ Fld Z Z.heap eo OPT "value" OD .null
def kres (q0 q1 q2 : Addr) (ss : List Int32) : Value := if ss = C0 then .ref q0 else if ss = C1 then .ref q1 else if ss = C2 then .ref q2 else .null
theorem pnNK : plainName "com/example/crosskey/crosskey/core/Scope" = true := by first | (simp [plainName, overriddenIn]; done) | decide +kernel
theorem pnLW : plainName "com/example/crosskey/crosskey/core/ScopeOfPinLaw" = true := by first | (simp [plainName, overriddenIn]; done) | decide +kernel
theorem pnOp : plainName "java/util/Optional" = true := by first | (simp [plainName, overriddenIn]; done) | decide +kernel
theorem pnOb : plainName "java/util/Objects" = true := by first | (simp [plainName, overriddenIn]; done) | decide +kernel
theorem va_0 : decode prog_21_method_1_code 0 = .ok (.getstatic 13, 3) := by decide +kernel
theorem va_3 : decode prog_21_method_1_code 3 = .ok (.invokevirtual 17, 3) := by decide +kernel
theorem va_6 : decode prog_21_method_1_code 6 = .ok (.checkcast 18, 3) := by decide +kernel
theorem va_9 : decode prog_21_method_1_code 9 = .ok (.areturn, 1) := by decide +kernel
theorem efVa (m : MethodId) : entryFrame m #[] 0 = mkF m 0 #[] [] := by first | (simp [entryFrame, mkF, argsToLocals, Value.category]; done) | rfl
set_option maxRecDepth 65536 in
set_option maxHeartbeats 8000000 in
theorem t_values (l : Launch) {Z : State} {a0 : Array Value} {EL : List (String × Nat)} (hw : ∀ d ∈ tables_1, d.before a0 Z = true) (hEL : EW Z a0 EL) {h : Heap} (hO : Ext Z.heap h) {va q0 q1 q2 e0 e1 e2 eo : Addr} (KN : Kn Z va q0 q1 q2 e0 e1 e2 eo) :
    Met l Z EL [] (⟨NK, "values", "()[Lcom/example/crosskey/crosskey/core/Scope;"⟩ : MethodName) prog_21_method_1_code 0 (some (.array (.object NK))) { frames := 1, cells := 1, slots := 3, locals := 14 } #[] h (Ret fun v h' => ∃ x, v = .ref x ∧ Ext h h' ∧ Ali Z h' x (.object NK) [.ref q0, .ref q1, .ref q2]) := by
  obtain ⟨sv, ⟨cl, Acl, FC, hcl⟩, Eva, s0, s1, s2, f0, f1, f2, S0, S1, S2, X0, X1, X2, so, Xo, fo⟩ := KN
  refine Met.intro pnNK hEL hO ?_
  intro p e s m below meth c T W hby hml hret hnm
  have D : ∀ {pc : Nat} {r}, decode prog_21_method_1_code pc = r → decode c.code pc = r := fun q => hb hby q
  refine Go.cast (efVa m) ?_
  refine g_getstatic W (pc' := 3) (host := "") (Or.inl (hw _ (List.mem_of_getElem? (i := 91) rfl))) Via.refl (sv.ext W.old) (D va_0) rfl (fun T W => ?_)
  have hsz : cl.slots.size = 3 := by rw [← Array.length_toList, hcl]; rfl
  refine g_clone W (pc' := 6) (Acl.ext W.old) (FC) (by rw [hsz]; decide) (Eva.ext W.old) (hw _ (List.mem_of_getElem? (i := 93) rfl)) (hw _ (List.mem_of_getElem? (i := 94) rfl)) (hw _ (List.mem_of_getElem? (i := 98) rfl)) (hw _ (List.mem_of_getElem? (i := 96) rfl)) (hw _ (List.mem_of_getElem? (i := 97) rfl)) (hw _ (List.mem_of_getElem? (i := 99) rfl)) (by rw [hml]; rfl) (D va_3) rfl (by decide) (Wn := 0) (Nat.le_refl _) (by decide) (cap := 3) (by rw [hsz]; exact Nat.le_refl _) (by decide) (by decide) (fun x T h1 hx W E B => ?_)
  rw [hcl] at B
  refine g_checkcast W (pc' := 9) (hw _ (List.mem_of_getElem? (i := 104) rfl)) (Ins.self B.2) (D va_6) rfl (fun T W => ?_)
  exact g_areturn W (D va_9) hret rfl rfl (by decide) (by decide) ⟨_, rfl, x, rfl, E, B.1⟩
theorem rn_0 : decode jdk_31_method_10_code 0 = .ok (.aload_n 0, 1) := by decide +kernel
theorem rn_1 : decode jdk_31_method_10_code 1 = .ok (.ifnonnull 11, 3) := by decide +kernel
theorem rn_4 : decode jdk_31_method_10_code 4 = .ok (.new 84, 3) := by decide +kernel
theorem rn_7 : decode jdk_31_method_10_code 7 = .ok (.dup, 1) := by decide +kernel
theorem rn_8 : decode jdk_31_method_10_code 8 = .ok (.invokespecial 86, 3) := by decide +kernel
theorem rn_11 : decode jdk_31_method_10_code 11 = .ok (.athrow, 1) := by decide +kernel
theorem rn_12 : decode jdk_31_method_10_code 12 = .ok (.aload_n 0, 1) := by decide +kernel
theorem rn_13 : decode jdk_31_method_10_code 13 = .ok (.areturn, 1) := by decide +kernel
theorem efRn (m : MethodId) (x0 : Addr) : entryFrame m #[.ref x0] 1 = mkF m 0 #[.val (.ref x0)] [] := by first | (simp [entryFrame, mkF, argsToLocals, Value.category, maxLocals]; done) | rfl
set_option maxRecDepth 65536 in
set_option maxHeartbeats 8000000 in
theorem t_rnn (l : Launch) {Z : State} {a0 : Array Value} {EL : List (String × Nat)} (hw : ∀ d ∈ tables_1, d.before a0 Z = true) (hEL : EW Z a0 EL) {h : Heap} (hO : Ext Z.heap h) {x : Addr} : Met l Z EL [] (⟨"java/util/Objects", "requireNonNull", "(Ljava/lang/Object;)Ljava/lang/Object;"⟩ : MethodName) jdk_31_method_10_code 1 (some (.object "java/lang/Object")) { frames := 0, cells := 0, slots := 0, locals := 0 } #[.ref x] h (Ret fun v h' => v = .ref x ∧ h = h') := by
  refine Met.intro pnOb hEL hO ?_
  intro p e s m below meth c T W hby hml hret hnm
  have D : ∀ {pc : Nat} {r}, decode jdk_31_method_10_code pc = r → decode c.code pc = r := fun q => hb hby q
  refine Go.cast (efRn m x) ?_
  refine g_aloadN W (pc' := 1) (D rn_0) rfl rfl (by first | rfl | assumption) ?_
  refine g_ifnonnullY W (pc1 := 12) (pc2 := 4) (D rn_1) (by decide) (by decide) rfl ?_
  refine g_aloadN W (pc' := 13) (D rn_12) rfl rfl (by first | rfl | assumption) ?_
  exact g_areturn W (D rn_13) hret rfl rfl (by decide) (by decide) ⟨_, rfl, rfl, rfl⟩
theorem oi_0 : decode jdk_32_method_2_code 0 = .ok (.aload_n 0, 1) := by decide +kernel
theorem oi_1 : decode jdk_32_method_2_code 1 = .ok (.invokespecial 7, 3) := by decide +kernel
theorem oi_4 : decode jdk_32_method_2_code 4 = .ok (.aload_n 0, 1) := by decide +kernel
theorem oi_5 : decode jdk_32_method_2_code 5 = .ok (.aload_n 1, 1) := by decide +kernel
theorem oi_6 : decode jdk_32_method_2_code 6 = .ok (.putfield 13, 3) := by decide +kernel
theorem oi_9 : decode jdk_32_method_2_code 9 = .ok (.return_, 1) := by decide +kernel
theorem efOi (m : MethodId) (x0 : Addr) (x1 : Addr) : entryFrame m #[.ref x0, .ref x1] 2 = mkF m 0 #[.val (.ref x0), .val (.ref x1)] [] := by first | (simp [entryFrame, mkF, argsToLocals, Value.category, maxLocals]; done) | rfl
set_option maxRecDepth 65536 in
set_option maxHeartbeats 8000000 in
theorem t_oinit (l : Launch) {Z : State} {a0 : Array Value} {EL : List (String × Nat)} (hw : ∀ d ∈ tables_1, d.before a0 Z = true) (hEL : EW Z a0 EL) {h : Heap} (hO : Ext Z.heap h) {x q : Addr} (hx : Z.heap.size ≤ x) (EX : Exa Z h x OPT) {u : Value} (f : Fld Z h x OPT "value" OD u) : Met l Z EL [] (⟨OPT, "<init>", "(Ljava/lang/Object;)V"⟩ : MethodName) jdk_32_method_2_code 2 none { frames := 1, cells := 0, slots := 0, locals := 12 } #[.ref x, .ref q] h (Void fun h' => Keep h h' [x] ∧ Fld Z h' x OPT "value" OD (.ref q)) := by
  refine Met.intro pnOp hEL hO ?_
  intro p e s m below meth c T W hby hml hret hnm
  have D : ∀ {pc : Nat} {r}, decode jdk_32_method_2_code pc = r → decode c.code pc = r := fun q => hb hby q
  refine Go.cast (efOi m x q) ?_
  refine g_aloadN W (pc' := 1) (D oi_0) rfl rfl (by first | rfl | assumption) ?_
  refine g_initO W (pc' := 4) (hw _ (List.mem_of_getElem? (i := 135) rfl)) (hw _ (List.mem_of_getElem? (i := 61) rfl)) (hw _ (List.mem_of_getElem? (i := 62) rfl)) (by rw [hml]; rfl) (D oi_1) rfl (by decide) (Wn := 0) (Nat.le_refl _) (by decide) (fun T W => ?_)
  refine g_aloadN W (pc' := 5) (D oi_4) rfl rfl (by first | rfl | assumption) ?_
  refine g_aloadN W (pc' := 6) (D oi_5) rfl rfl (by first | rfl | assumption) ?_
  refine g_putfield W (pc' := 9) (host := "") (Or.inl (hw _ (List.mem_of_getElem? (i := 119) rfl))) Via.refl (f) (EX) (Or.inr ⟨(hw _ (List.mem_of_getElem? (i := 120) rfl)), rfl, hnm⟩) (hw _ (List.mem_of_getElem? (i := 126) rfl)) (ty := (.object "java/lang/Object")) (by decide) rfl rfl (⟨hx, Or.inr (Or.inl ⟨OPT, EX, by decide, by decide⟩)⟩) (D oi_6) rfl (fun T h1 W W1 => ?_)
  exact g_return W (D oi_9) hret (by decide) (by decide) ⟨rfl, Keep.of_wr W1, f.same W1⟩
theorem oo_0 : decode jdk_32_method_3_code 0 = .ok (.new 2, 3) := by decide +kernel
theorem oo_3 : decode jdk_32_method_3_code 3 = .ok (.dup, 1) := by decide +kernel
theorem oo_4 : decode jdk_32_method_3_code 4 = .ok (.aload_n 0, 1) := by decide +kernel
theorem oo_5 : decode jdk_32_method_3_code 5 = .ok (.invokestatic 17, 3) := by decide +kernel
theorem oo_8 : decode jdk_32_method_3_code 8 = .ok (.invokespecial 23, 3) := by decide +kernel
theorem oo_11 : decode jdk_32_method_3_code 11 = .ok (.areturn, 1) := by decide +kernel
theorem efOo (m : MethodId) (x0 : Addr) : entryFrame m #[.ref x0] 1 = mkF m 0 #[.val (.ref x0)] [] := by first | (simp [entryFrame, mkF, argsToLocals, Value.category, maxLocals]; done) | rfl
set_option maxRecDepth 65536 in
set_option maxHeartbeats 8000000 in
theorem t_optOf (l : Launch) {Z : State} {a0 : Array Value} {EL : List (String × Nat)} (hw : ∀ d ∈ tables_1, d.before a0 Z = true) (hEL : EW Z a0 EL) {h : Heap} (hO : Ext Z.heap h) {q : Addr} : Met l Z EL [] (⟨OPT, "of", "(Ljava/lang/Object;)Ljava/util/Optional;"⟩ : MethodName) jdk_32_method_3_code 1 (some (.object OPT)) { frames := 2, cells := 1, slots := 1, locals := 26 } #[.ref q] h (Ret fun v h' => ∃ o, v = .ref o ∧ Ext h h' ∧ Exa Z h' o OPT ∧ Fld Z h' o OPT "value" OD (.ref q)) := by
  refine Met.intro pnOp hEL hO ?_
  intro p e s m below meth c T W hby hml hret hnm
  have D : ∀ {pc : Nat} {r}, decode jdk_32_method_3_code pc = r → decode c.code pc = r := fun q => hb hby q
  refine Go.cast (efOo m q) ?_
  refine g_new W (pc' := 3) (hw _ (List.mem_of_getElem? (i := 125) rfl)) (hw _ (List.mem_of_getElem? (i := 126) rfl)) (hw _ (List.mem_of_getElem? (i := 111) rfl)) (D oo_0) rfl (by decide) (by decide) (fun o T h1 ho W E1 B1 => ?_)
  have f0 := B1.2 (O := OPT) (nm := "value") (d := OD) (Or.inr (hw _ (List.mem_of_getElem? (i := 120) rfl))) (ty := .object "java/lang/Object") (by decide)
  refine g_dup W (pc' := 4) (D oo_3) rfl rfl ?_
  refine g_aloadN W (pc' := 5) (D oo_4) rfl rfl (by first | rfl | assumption) ?_
  refine g_callS W (t_rnn l hw hEL W.old (x := q)) (fun x q => nomatch q) (hw _ (List.mem_of_getElem? (i := 127) rfl)) (hw _ (List.mem_of_getElem? (i := 128) rfl)) (hw _ (List.mem_of_getElem? (i := 129) rfl)) (hw _ (List.mem_of_getElem? (i := 130) rfl)) (by decide) (by decide +kernel : parseMethodDescriptor "(Ljava/lang/Object;)Ljava/lang/Object;" = some ⟨[(.object "java/lang/Object")], some (.object "java/lang/Object")⟩) (argsL := [_]) rfl rfl (pc' := 8) rfl (by rw [hml]; rfl) (D oo_5) rfl (Wn := 2) (Nat.le_refl _) (by decide) (by decide) (by decide) (by decide) (fun v T h' W hg hQ => ?_)
  obtain ⟨rfl, rfl⟩ := hQ
  refine g_spec W (t_oinit l hw hEL W.old (q := q) (Nat.le_trans hO.1 ho) B1.1 f0) (fun x q => nomatch q) rfl (hw _ (List.mem_of_getElem? (i := 131) rfl)) (hw _ (List.mem_of_getElem? (i := 132) rfl)) (hw _ (List.mem_of_getElem? (i := 111) rfl)) (hw _ (List.mem_of_getElem? (i := 134) rfl)) (by decide) (by decide +kernel : parseMethodDescriptor "(Ljava/lang/Object;)V" = some ⟨[(.object "java/lang/Object")], none⟩) (argsL := [_]) rfl rfl (pc' := 11) rfl (by rw [hml]; rfl) (D oo_8) rfl (Wn := 1) (Nat.le_refl _) (by decide) (by decide) (by decide) (by decide) (fun T h2 W hg hQ => ?_)
  exact g_areturn W (D oo_11) hret rfl rfl (by decide) (by decide) ⟨_, rfl, o, rfl, keep_ext ((ext_keep E1 []).trans hQ.1 (own_new ho)), B1.1.keep hQ.1, hQ.2⟩
theorem oe_0 : decode jdk_32_method_1_code 0 = .ok (.getstatic 1, 3) := by decide +kernel
theorem oe_3 : decode jdk_32_method_1_code 3 = .ok (.astore_n 0, 1) := by decide +kernel
theorem oe_4 : decode jdk_32_method_1_code 4 = .ok (.aload_n 0, 1) := by decide +kernel
theorem oe_5 : decode jdk_32_method_1_code 5 = .ok (.areturn, 1) := by decide +kernel
theorem efOe (m : MethodId) : entryFrame m #[] 1 = mkF m 0 #[.unset] [] := by first | (simp [entryFrame, mkF, argsToLocals, Value.category]; done) | rfl
set_option maxRecDepth 65536 in
set_option maxHeartbeats 8000000 in
theorem t_empty (l : Launch) {Z : State} {a0 : Array Value} {EL : List (String × Nat)} (hw : ∀ d ∈ tables_1, d.before a0 Z = true) (hEL : EW Z a0 EL) {h : Heap} (hO : Ext Z.heap h) {va q0 q1 q2 e0 e1 e2 eo : Addr} (KN : Kn Z va q0 q1 q2 e0 e1 e2 eo) : Met l Z EL [] (⟨OPT, "empty", "()Ljava/util/Optional;"⟩ : MethodName) jdk_32_method_1_code 1 (some (.object OPT)) { frames := 0, cells := 0, slots := 0, locals := 0 } #[] h (Ret fun v h' => v = .ref eo ∧ h = h') := by
  obtain ⟨sv, ⟨cl, Acl, FC, hcl⟩, Eva, s0, s1, s2, f0, f1, f2, S0, S1, S2, X0, X1, X2, so, Xo, fo⟩ := KN
  refine Met.intro pnOp hEL hO ?_
  intro p e s m below meth c T W hby hml hret hnm
  have D : ∀ {pc : Nat} {r}, decode jdk_32_method_1_code pc = r → decode c.code pc = r := fun q => hb hby q
  refine Go.cast (efOe m) ?_
  refine g_getstatic W (pc' := 3) (host := "") (Or.inl (hw _ (List.mem_of_getElem? (i := 113) rfl))) Via.refl (so.ext W.old) (D oe_0) rfl (fun T W => ?_)
  refine g_astoreN W (pc' := 4) (D oe_3) rfl (by first | rfl | assumption) (ls' := #[_]) rfl ?_
  refine g_aloadN W (pc' := 5) (D oe_4) rfl rfl (by first | rfl | assumption) ?_
  exact g_areturn W (D oe_5) hret rfl rfl (by decide) (by decide) ⟨_, rfl, rfl, rfl⟩
theorem op_0 : decode jdk_32_method_6_code 0 = .ok (.aload_n 0, 1) := by decide +kernel
theorem op_1 : decode jdk_32_method_6_code 1 = .ok (.getfield 13, 3) := by decide +kernel
theorem op_4 : decode jdk_32_method_6_code 4 = .ok (.ifnull 7, 3) := by decide +kernel
theorem op_7 : decode jdk_32_method_6_code 7 = .ok (.iconst 1, 1) := by decide +kernel
theorem op_8 : decode jdk_32_method_6_code 8 = .ok (.goto 4, 3) := by decide +kernel
theorem op_11 : decode jdk_32_method_6_code 11 = .ok (.iconst 0, 1) := by decide +kernel
theorem op_12 : decode jdk_32_method_6_code 12 = .ok (.ireturn, 1) := by decide +kernel
theorem efOp (m : MethodId) (x0 : Addr) : entryFrame m #[.ref x0] 1 = mkF m 0 #[.val (.ref x0)] [] := by first | (simp [entryFrame, mkF, argsToLocals, Value.category, maxLocals]; done) | rfl
set_option maxRecDepth 65536 in
set_option maxHeartbeats 8000000 in
theorem t_isPresentN (l : Launch) {Z : State} {a0 : Array Value} {EL : List (String × Nat)} (hw : ∀ d ∈ tables_1, d.before a0 Z = true) (hEL : EW Z a0 EL) {h : Heap} (hO : Ext Z.heap h) {o q : Addr} (f : Fld Z h o OPT "value" OD .null) : Met l Z EL [] (⟨OPT, "isPresent", "()Z"⟩ : MethodName) jdk_32_method_6_code 1 (some .boolean) { frames := 0, cells := 0, slots := 0, locals := 0 } #[.ref o] h (Ret fun v h' => v = .int 0 ∧ h = h') := by
  refine Met.intro pnOp hEL hO ?_
  intro p e s m below meth c T W hby hml hret hnm
  have D : ∀ {pc : Nat} {r}, decode jdk_32_method_6_code pc = r → decode c.code pc = r := fun q => hb hby q
  refine Go.cast (efOp m o) ?_
  refine g_aloadN W (pc' := 1) (D op_0) rfl rfl (by first | rfl | assumption) ?_
  refine g_getfield W (pc' := 4) (host := "") (Or.inl (hw _ (List.mem_of_getElem? (i := 119) rfl))) Via.refl (f) (D op_1) rfl (fun T W => ?_)
  refine g_ifnullY W (pc1 := 11) (pc2 := 7) (D op_4) (by decide) (by decide) rfl ?_
  refine g_iconst W (pc' := 12) (D op_11) rfl (v := (0 : Int32)) (by decide) ?_
  exact g_retz W (D op_12) hret (Or.inl rfl) (by decide) (by decide) ⟨_, rfl, rfl, rfl⟩
set_option maxRecDepth 65536 in
set_option maxHeartbeats 8000000 in
theorem t_isPresent (l : Launch) {Z : State} {a0 : Array Value} {EL : List (String × Nat)} (hw : ∀ d ∈ tables_1, d.before a0 Z = true) (hEL : EW Z a0 EL) {h : Heap} (hO : Ext Z.heap h) {o q : Addr} (f : Fld Z h o OPT "value" OD (.ref q)) : Met l Z EL [] (⟨OPT, "isPresent", "()Z"⟩ : MethodName) jdk_32_method_6_code 1 (some .boolean) { frames := 0, cells := 0, slots := 0, locals := 0 } #[.ref o] h (Ret fun v h' => v = .int 1 ∧ h = h') := by
  refine Met.intro pnOp hEL hO ?_
  intro p e s m below meth c T W hby hml hret hnm
  have D : ∀ {pc : Nat} {r}, decode jdk_32_method_6_code pc = r → decode c.code pc = r := fun q => hb hby q
  refine Go.cast (efOp m o) ?_
  refine g_aloadN W (pc' := 1) (D op_0) rfl rfl (by first | rfl | assumption) ?_
  refine g_getfield W (pc' := 4) (host := "") (Or.inl (hw _ (List.mem_of_getElem? (i := 119) rfl))) Via.refl (f) (D op_1) rfl (fun T W => ?_)
  refine g_ifnullN W (pc1 := 11) (pc2 := 7) (D op_4) (by decide) (by decide) rfl ?_
  refine g_iconst W (pc' := 8) (D op_7) rfl (v := (1 : Int32)) (by decide) ?_
  refine g_goto W (pc' := 12) (D op_8) (by decide) (by decide) ?_
  exact g_retz W (D op_12) hret (Or.inr rfl) (by decide) (by decide) ⟨_, rfl, rfl, rfl⟩
theorem og_0 : decode jdk_32_method_5_code 0 = .ok (.aload_n 0, 1) := by decide +kernel
theorem og_1 : decode jdk_32_method_5_code 1 = .ok (.getfield 13, 3) := by decide +kernel
theorem og_4 : decode jdk_32_method_5_code 4 = .ok (.ifnonnull 13, 3) := by decide +kernel
theorem og_7 : decode jdk_32_method_5_code 7 = .ok (.new 26, 3) := by decide +kernel
theorem og_10 : decode jdk_32_method_5_code 10 = .ok (.dup, 1) := by decide +kernel
theorem og_11 : decode jdk_32_method_5_code 11 = .ok (.ldc 28, 2) := by decide +kernel
theorem og_13 : decode jdk_32_method_5_code 13 = .ok (.invokespecial 30, 3) := by decide +kernel
theorem og_16 : decode jdk_32_method_5_code 16 = .ok (.athrow, 1) := by decide +kernel
theorem og_17 : decode jdk_32_method_5_code 17 = .ok (.aload_n 0, 1) := by decide +kernel
theorem og_18 : decode jdk_32_method_5_code 18 = .ok (.getfield 13, 3) := by decide +kernel
theorem og_21 : decode jdk_32_method_5_code 21 = .ok (.areturn, 1) := by decide +kernel
theorem efOg (m : MethodId) (x0 : Addr) : entryFrame m #[.ref x0] 1 = mkF m 0 #[.val (.ref x0)] [] := by first | (simp [entryFrame, mkF, argsToLocals, Value.category, maxLocals]; done) | rfl
set_option maxRecDepth 65536 in
set_option maxHeartbeats 8000000 in
theorem t_get (l : Launch) {Z : State} {a0 : Array Value} {EL : List (String × Nat)} (hw : ∀ d ∈ tables_1, d.before a0 Z = true) (hEL : EW Z a0 EL) {h : Heap} (hO : Ext Z.heap h) {o q : Addr} (f : Fld Z h o OPT "value" OD (.ref q)) : Met l Z EL [] (⟨OPT, "get", "()Ljava/lang/Object;"⟩ : MethodName) jdk_32_method_5_code 1 (some (.object "java/lang/Object")) { frames := 0, cells := 0, slots := 0, locals := 0 } #[.ref o] h (Ret fun v h' => v = .ref q ∧ h = h') := by
  refine Met.intro pnOp hEL hO ?_
  intro p e s m below meth c T W hby hml hret hnm
  have D : ∀ {pc : Nat} {r}, decode jdk_32_method_5_code pc = r → decode c.code pc = r := fun q => hb hby q
  refine Go.cast (efOg m o) ?_
  refine g_aloadN W (pc' := 1) (D og_0) rfl rfl (by first | rfl | assumption) ?_
  refine g_getfield W (pc' := 4) (host := "") (Or.inl (hw _ (List.mem_of_getElem? (i := 119) rfl))) Via.refl (f) (D og_1) rfl (fun T W => ?_)
  refine g_ifnonnullY W (pc1 := 17) (pc2 := 7) (D og_4) (by decide) (by decide) rfl ?_
  refine g_aloadN W (pc' := 18) (D og_17) rfl rfl (by first | rfl | assumption) ?_
  refine g_getfield W (pc' := 21) (host := "") (Or.inl (hw _ (List.mem_of_getElem? (i := 119) rfl))) Via.refl (f) (D og_18) rfl (fun T W => ?_)
  exact g_areturn W (D og_21) hret rfl rfl (by decide) (by decide) ⟨_, rfl, rfl, rfl⟩
theorem sv_0 : decode prog_21_method_4_code 0 = .ok (.aload_n 0, 1) := by decide +kernel
theorem sv_1 : decode prog_21_method_4_code 1 = .ok (.getfield 32, 3) := by decide +kernel
theorem sv_4 : decode prog_21_method_4_code 4 = .ok (.areturn, 1) := by decide +kernel
theorem efSv (m : MethodId) (x0 : Addr) : entryFrame m #[.ref x0] 1 = mkF m 0 #[.val (.ref x0)] [] := by first | (simp [entryFrame, mkF, argsToLocals, Value.category, maxLocals]; done) | rfl
set_option maxRecDepth 65536 in
set_option maxHeartbeats 8000000 in
theorem t_value (l : Launch) {Z : State} {a0 : Array Value} {EL : List (String × Nat)} (hw : ∀ d ∈ tables_1, d.before a0 Z = true) (hEL : EW Z a0 EL) {h : Heap} (hO : Ext Z.heap h) {q t : Addr} (f : Fld Z h q NK EN SD (.ref t)) : Met l Z EL [] (⟨NK, "value", "()Ljava/lang/String;"⟩ : MethodName) prog_21_method_4_code 1 (some (.object "java/lang/String")) { frames := 0, cells := 0, slots := 0, locals := 0 } #[.ref q] h (Ret fun v h' => v = .ref t ∧ h = h') := by
  refine Met.intro pnNK hEL hO ?_
  intro p e s m below meth c T W hby hml hret hnm
  have D : ∀ {pc : Nat} {r}, decode prog_21_method_4_code pc = r → decode c.code pc = r := fun q => hb hby q
  refine Go.cast (efSv m q) ?_
  refine g_aloadN W (pc' := 1) (D sv_0) rfl rfl (by first | rfl | assumption) ?_
  refine g_getfield W (pc' := 4) (host := "") (Or.inl (hw _ (List.mem_of_getElem? (i := 106) rfl))) Via.refl (f) (D sv_1) rfl (fun T W => ?_)
  exact g_areturn W (D sv_4) hret rfl rfl (by decide) (by decide) ⟨_, rfl, rfl, rfl⟩
theorem of_0 : decode prog_21_method_6_code 0 = .ok (.invokestatic 39, 3) := by decide +kernel
theorem of_3 : decode prog_21_method_6_code 3 = .ok (.astore_n 1, 1) := by decide +kernel
theorem of_4 : decode prog_21_method_6_code 4 = .ok (.aload_n 1, 1) := by decide +kernel
theorem of_5 : decode prog_21_method_6_code 5 = .ok (.arraylength, 1) := by decide +kernel
theorem of_6 : decode prog_21_method_6_code 6 = .ok (.istore_n 2, 1) := by decide +kernel
theorem of_7 : decode prog_21_method_6_code 7 = .ok (.iconst 0, 1) := by decide +kernel
theorem of_8 : decode prog_21_method_6_code 8 = .ok (.istore_n 3, 1) := by decide +kernel
theorem of_9 : decode prog_21_method_6_code 9 = .ok (.iload_n 3, 1) := by decide +kernel
theorem of_10 : decode prog_21_method_6_code 10 = .ok (.iload_n 2, 1) := by decide +kernel
theorem of_11 : decode prog_21_method_6_code 11 = .ok (.if_icmp .ge 32, 3) := by decide +kernel
theorem of_14 : decode prog_21_method_6_code 14 = .ok (.aload_n 1, 1) := by decide +kernel
theorem of_15 : decode prog_21_method_6_code 15 = .ok (.iload_n 3, 1) := by decide +kernel
theorem of_16 : decode prog_21_method_6_code 16 = .ok (.aaload, 1) := by decide +kernel
theorem of_17 : decode prog_21_method_6_code 17 = .ok (.astore 4, 2) := by decide +kernel
theorem of_19 : decode prog_21_method_6_code 19 = .ok (.aload 4, 2) := by decide +kernel
theorem of_21 : decode prog_21_method_6_code 21 = .ok (.getfield 32, 3) := by decide +kernel
theorem of_24 : decode prog_21_method_6_code 24 = .ok (.aload_n 0, 1) := by decide +kernel
theorem of_25 : decode prog_21_method_6_code 25 = .ok (.invokevirtual 43, 3) := by decide +kernel
theorem of_28 : decode prog_21_method_6_code 28 = .ok (.ifCond .eq 9, 3) := by decide +kernel
theorem of_31 : decode prog_21_method_6_code 31 = .ok (.aload 4, 2) := by decide +kernel
theorem of_33 : decode prog_21_method_6_code 33 = .ok (.invokestatic 49, 3) := by decide +kernel
theorem of_36 : decode prog_21_method_6_code 36 = .ok (.areturn, 1) := by decide +kernel
theorem of_37 : decode prog_21_method_6_code 37 = .ok (.iinc 3 1, 3) := by decide +kernel
theorem of_40 : decode prog_21_method_6_code 40 = .ok (.goto (-31), 3) := by decide +kernel
theorem of_43 : decode prog_21_method_6_code 43 = .ok (.invokestatic 55, 3) := by decide +kernel
theorem of_46 : decode prog_21_method_6_code 46 = .ok (.areturn, 1) := by decide +kernel
theorem efOf (m : MethodId) (x0 : Addr) : entryFrame m #[.ref x0] 5 = mkF m 0 #[.val (.ref x0), .unset, .unset, .unset, .unset] [] := by first | (simp [entryFrame, mkF, argsToLocals, Value.category, maxLocals]; done) | rfl
set_option maxRecDepth 65536 in
set_option maxHeartbeats 8000000 in
theorem t_of (l : Launch) {Z : State} {a0 : Array Value} {EL : List (String × Nat)} (hw : ∀ d ∈ tables_1, d.before a0 Z = true) (hEL : EW Z a0 EL) (cst : Cst Z) {h : Heap} (hO : Ext Z.heap h) {va q0 q1 q2 e0 e1 e2 eo : Addr} (KN : Kn Z va q0 q1 q2 e0 e1 e2 eo) {a : Addr} {ss : List Int32} (S : Str Z h a ss) : Met l Z EL [] (⟨NK, "of", "(Ljava/lang/String;)Ljava/util/Optional;"⟩ : MethodName) prog_21_method_6_code 5 (some (.object OPT)) { frames := 3, cells := 2, slots := 10, locals := 38 } #[.ref a] h (Ret fun v h' => ∃ o, v = .ref o ∧ Ext h h' ∧ Exa Z h' o OPT ∧ Fld Z h' o OPT "value" OD (kres q0 q1 q2 ss)) := by
  refine Met.intro pnNK hEL hO ?_
  intro p e s m below meth c T W hby hml hret hnm
  have D : ∀ {pc : Nat} {r}, decode prog_21_method_6_code pc = r → decode c.code pc = r := fun q => hb hby q
  refine Go.cast (efOf m a) ?_
  refine g_callS W (t_values l hw hEL W.old KN) (fun x q => nomatch q) (hw _ (List.mem_of_getElem? (i := 88) rfl)) (hw _ (List.mem_of_getElem? (i := 89) rfl)) (hw _ (List.mem_of_getElem? (i := 86) rfl)) (hw _ (List.mem_of_getElem? (i := 90) rfl)) (by decide) (by decide +kernel : parseMethodDescriptor "()[Lcom/example/crosskey/crosskey/core/Scope;" = some ⟨[], some (.array (.object "com/example/crosskey/crosskey/core/Scope"))⟩) (argsL := []) rfl rfl (pc' := 3) rfl (by rw [hml]; rfl) (D of_0) rfl (Wn := 0) (Nat.le_refl _) (by decide) (by decide) (by decide) (by decide) (fun v T h1 W hg hQ => ?_)
  have KN0 := KN
  obtain ⟨sv, ⟨cl, Acl, FC, hcl⟩, Eva, s0, s1, s2, f0, f1, f2, S0, S1, S2, X0, X1, X2, so, Xo, fo⟩ := KN
  obtain ⟨xa, rfl, E1, Aa⟩ := hQ
  refine g_astoreN W (pc' := 4) (D of_3) rfl (by first | rfl | assumption) (ls' := #[_, _, _, _, _]) rfl ?_
  refine g_aloadN W (pc' := 5) (D of_4) rfl rfl (by first | rfl | assumption) ?_
  refine g_arraylength W (pc' := 6) (Aa) (z := (3 : Int32)) (rfl) (D of_5) rfl ?_
  refine g_istoreN W (pc' := 7) (D of_6) rfl (ls' := #[_, _, _, _, _]) rfl ?_
  refine g_iconst W (pc' := 8) (D of_7) rfl (v := (0 : Int32)) (by decide) ?_
  refine g_istoreN W (pc' := 9) (D of_8) rfl (ls' := #[_, _, _, _, _]) rfl ?_
  refine g_iloadN W (pc' := 10) (D of_9) rfl rfl ?_
  refine g_iloadN W (pc' := 11) (D of_10) rfl rfl ?_
  refine g_icmpgeN W (pc1 := 43) (pc2 := 14) (D of_11) (by decide) (by decide) rfl (by decide) ?_
  refine g_aloadN W (pc' := 15) (D of_14) rfl rfl (by first | rfl | assumption) ?_
  refine g_iloadN W (pc' := 16) (D of_15) rfl rfl ?_
  refine g_aaload W (pc' := 17) (Aa) rfl (i := 0) (by decide) (by decide) (v := .ref q0) rfl (D of_16) rfl ?_
  refine g_astore W (pc' := 19) (D of_17) rfl (by first | rfl | assumption) (ls' := #[_, _, _, _, _]) rfl ?_
  refine g_aload W (pc' := 21) (D of_19) rfl rfl (by first | rfl | assumption) ?_
  refine g_getfield W (pc' := 24) (host := "") (Or.inl (hw _ (List.mem_of_getElem? (i := 106) rfl))) Via.refl (f0.ext W.old) (D of_21) rfl (fun T W => ?_)
  refine g_aloadN W (pc' := 25) (D of_24) rfl rfl (by first | rfl | assumption) ?_
  refine g_equals W hw cst (S0.ext W.old) (S.ext E1) (hw _ (List.mem_of_getElem? (i := 108) rfl)) (pc' := 28) (by rw [hml]; rfl) (D of_25) rfl (Wn := 0) (Nat.le_refl _) (by decide) (by decide) (by decide) (by decide) (fun T W => ?_)
  by_cases k0 : C0 = ss
  · rw [if_pos k0]
    refine g_ifeqN W (pc1 := 37) (pc2 := 31) (D of_28) (by decide) (by decide) rfl (by decide) ?_
    refine g_aload W (pc' := 33) (D of_31) rfl rfl (by first | rfl | assumption) ?_
    refine g_callS W (t_optOf l hw hEL W.old (q := q0)) (fun x q => nomatch q) (hw _ (List.mem_of_getElem? (i := 122) rfl)) (hw _ (List.mem_of_getElem? (i := 123) rfl)) (hw _ (List.mem_of_getElem? (i := 111) rfl)) (hw _ (List.mem_of_getElem? (i := 124) rfl)) (by decide) (by decide +kernel : parseMethodDescriptor "(Ljava/lang/Object;)Ljava/util/Optional;" = some ⟨[(.object "java/lang/Object")], some (.object "java/util/Optional")⟩) (argsL := [_]) rfl rfl (pc' := 36) rfl (by rw [hml]; rfl) (D of_33) rfl (Wn := 0) (Nat.le_refl _) (by decide) (by decide) (by decide) (by decide) (fun v T h2 W hg hQ => ?_)
    obtain ⟨o, rfl, E2, Xo2, fo2⟩ := hQ
    have hk : kres q0 q1 q2 ss = .ref q0 := by unfold kres; rw [if_pos k0.symm]
    exact g_areturn W (D of_36) hret rfl rfl (by decide) (by decide) ⟨_, rfl, o, rfl, ext_trans E1 E2, Xo2, by rw [hk]; exact fo2⟩
  · rw [if_neg k0]
    refine g_ifeqY W (pc1 := 37) (pc2 := 31) (D of_28) (by decide) (by decide) rfl (rfl) ?_
    refine g_iinc W (pc' := 40) (D of_37) rfl rfl (ls' := #[_, _, _, _, _]) rfl ?_
    refine g_goto W (pc' := 9) (D of_40) (by decide) (by decide) ?_
    refine g_iloadN W (pc' := 10) (D of_9) rfl rfl ?_
    refine g_iloadN W (pc' := 11) (D of_10) rfl rfl ?_
    refine g_icmpgeN W (pc1 := 43) (pc2 := 14) (D of_11) (by decide) (by decide) rfl (by decide) ?_
    refine g_aloadN W (pc' := 15) (D of_14) rfl rfl (by first | rfl | assumption) ?_
    refine g_iloadN W (pc' := 16) (D of_15) rfl rfl ?_
    refine g_aaload W (pc' := 17) (Aa) rfl (i := 1) (by decide) (by decide) (v := .ref q1) rfl (D of_16) rfl ?_
    refine g_astore W (pc' := 19) (D of_17) rfl (by first | rfl | assumption) (ls' := #[_, _, _, _, _]) rfl ?_
    refine g_aload W (pc' := 21) (D of_19) rfl rfl (by first | rfl | assumption) ?_
    refine g_getfield W (pc' := 24) (host := "") (Or.inl (hw _ (List.mem_of_getElem? (i := 106) rfl))) Via.refl (f1.ext W.old) (D of_21) rfl (fun T W => ?_)
    refine g_aloadN W (pc' := 25) (D of_24) rfl rfl (by first | rfl | assumption) ?_
    refine g_equals W hw cst (S1.ext W.old) (S.ext E1) (hw _ (List.mem_of_getElem? (i := 108) rfl)) (pc' := 28) (by rw [hml]; rfl) (D of_25) rfl (Wn := 0) (Nat.le_refl _) (by decide) (by decide) (by decide) (by decide) (fun T W => ?_)
    by_cases k1 : C1 = ss
    · rw [if_pos k1]
      refine g_ifeqN W (pc1 := 37) (pc2 := 31) (D of_28) (by decide) (by decide) rfl (by decide) ?_
      refine g_aload W (pc' := 33) (D of_31) rfl rfl (by first | rfl | assumption) ?_
      refine g_callS W (t_optOf l hw hEL W.old (q := q1)) (fun x q => nomatch q) (hw _ (List.mem_of_getElem? (i := 122) rfl)) (hw _ (List.mem_of_getElem? (i := 123) rfl)) (hw _ (List.mem_of_getElem? (i := 111) rfl)) (hw _ (List.mem_of_getElem? (i := 124) rfl)) (by decide) (by decide +kernel : parseMethodDescriptor "(Ljava/lang/Object;)Ljava/util/Optional;" = some ⟨[(.object "java/lang/Object")], some (.object "java/util/Optional")⟩) (argsL := [_]) rfl rfl (pc' := 36) rfl (by rw [hml]; rfl) (D of_33) rfl (Wn := 0) (Nat.le_refl _) (by decide) (by decide) (by decide) (by decide) (fun v T h2 W hg hQ => ?_)
      obtain ⟨o, rfl, E2, Xo2, fo2⟩ := hQ
      have hk : kres q0 q1 q2 ss = .ref q1 := by unfold kres; rw [if_neg (Ne.symm k0), if_pos k1.symm]
      exact g_areturn W (D of_36) hret rfl rfl (by decide) (by decide) ⟨_, rfl, o, rfl, ext_trans E1 E2, Xo2, by rw [hk]; exact fo2⟩
    · rw [if_neg k1]
      refine g_ifeqY W (pc1 := 37) (pc2 := 31) (D of_28) (by decide) (by decide) rfl (rfl) ?_
      refine g_iinc W (pc' := 40) (D of_37) rfl rfl (ls' := #[_, _, _, _, _]) rfl ?_
      refine g_goto W (pc' := 9) (D of_40) (by decide) (by decide) ?_
      refine g_iloadN W (pc' := 10) (D of_9) rfl rfl ?_
      refine g_iloadN W (pc' := 11) (D of_10) rfl rfl ?_
      refine g_icmpgeN W (pc1 := 43) (pc2 := 14) (D of_11) (by decide) (by decide) rfl (by decide) ?_
      refine g_aloadN W (pc' := 15) (D of_14) rfl rfl (by first | rfl | assumption) ?_
      refine g_iloadN W (pc' := 16) (D of_15) rfl rfl ?_
      refine g_aaload W (pc' := 17) (Aa) rfl (i := 2) (by decide) (by decide) (v := .ref q2) rfl (D of_16) rfl ?_
      refine g_astore W (pc' := 19) (D of_17) rfl (by first | rfl | assumption) (ls' := #[_, _, _, _, _]) rfl ?_
      refine g_aload W (pc' := 21) (D of_19) rfl rfl (by first | rfl | assumption) ?_
      refine g_getfield W (pc' := 24) (host := "") (Or.inl (hw _ (List.mem_of_getElem? (i := 106) rfl))) Via.refl (f2.ext W.old) (D of_21) rfl (fun T W => ?_)
      refine g_aloadN W (pc' := 25) (D of_24) rfl rfl (by first | rfl | assumption) ?_
      refine g_equals W hw cst (S2.ext W.old) (S.ext E1) (hw _ (List.mem_of_getElem? (i := 108) rfl)) (pc' := 28) (by rw [hml]; rfl) (D of_25) rfl (Wn := 0) (Nat.le_refl _) (by decide) (by decide) (by decide) (by decide) (fun T W => ?_)
      by_cases k2 : C2 = ss
      · rw [if_pos k2]
        refine g_ifeqN W (pc1 := 37) (pc2 := 31) (D of_28) (by decide) (by decide) rfl (by decide) ?_
        refine g_aload W (pc' := 33) (D of_31) rfl rfl (by first | rfl | assumption) ?_
        refine g_callS W (t_optOf l hw hEL W.old (q := q2)) (fun x q => nomatch q) (hw _ (List.mem_of_getElem? (i := 122) rfl)) (hw _ (List.mem_of_getElem? (i := 123) rfl)) (hw _ (List.mem_of_getElem? (i := 111) rfl)) (hw _ (List.mem_of_getElem? (i := 124) rfl)) (by decide) (by decide +kernel : parseMethodDescriptor "(Ljava/lang/Object;)Ljava/util/Optional;" = some ⟨[(.object "java/lang/Object")], some (.object "java/util/Optional")⟩) (argsL := [_]) rfl rfl (pc' := 36) rfl (by rw [hml]; rfl) (D of_33) rfl (Wn := 0) (Nat.le_refl _) (by decide) (by decide) (by decide) (by decide) (fun v T h2 W hg hQ => ?_)
        obtain ⟨o, rfl, E2, Xo2, fo2⟩ := hQ
        have hk : kres q0 q1 q2 ss = .ref q2 := by unfold kres; rw [if_neg (Ne.symm k0), if_neg (Ne.symm k1), if_pos k2.symm]
        exact g_areturn W (D of_36) hret rfl rfl (by decide) (by decide) ⟨_, rfl, o, rfl, ext_trans E1 E2, Xo2, by rw [hk]; exact fo2⟩
      · rw [if_neg k2]
        refine g_ifeqY W (pc1 := 37) (pc2 := 31) (D of_28) (by decide) (by decide) rfl (rfl) ?_
        refine g_iinc W (pc' := 40) (D of_37) rfl rfl (ls' := #[_, _, _, _, _]) rfl ?_
        refine g_goto W (pc' := 9) (D of_40) (by decide) (by decide) ?_
        refine g_iloadN W (pc' := 10) (D of_9) rfl rfl ?_
        refine g_iloadN W (pc' := 11) (D of_10) rfl rfl ?_
        refine g_icmpgeY W (pc1 := 43) (pc2 := 14) (D of_11) (by decide) (by decide) rfl (by decide) ?_
        have hk : kres q0 q1 q2 ss = .null := by unfold kres; rw [if_neg (Ne.symm k0), if_neg (Ne.symm k1), if_neg (Ne.symm k2)]
        refine g_callS W (t_empty l hw hEL W.old KN0) (fun x q => nomatch q) (hw _ (List.mem_of_getElem? (i := 109) rfl)) (hw _ (List.mem_of_getElem? (i := 110) rfl)) (hw _ (List.mem_of_getElem? (i := 111) rfl)) (hw _ (List.mem_of_getElem? (i := 112) rfl)) (by decide) (by decide +kernel : parseMethodDescriptor "()Ljava/util/Optional;" = some ⟨[], some (.object "java/util/Optional")⟩) (argsL := []) rfl rfl (pc' := 46) rfl (by rw [hml]; rfl) (D of_43) rfl (Wn := 0) (Nat.le_refl _) (by decide) (by decide) (by decide) (by decide) (fun v T h2 W hg hQ => ?_)
        obtain ⟨rfl, rfl⟩ := hQ
        exact g_areturn W (D of_46) hret rfl rfl (by decide) (by decide) ⟨_, rfl, eo, rfl, E1, Xo.ext W.old, by rw [hk]; exact fo.ext W.old⟩
theorem gg_0 : decode method_2_code 0 = .ok (.iload_n 1, 1) := by decide +kernel
theorem gg_1 : decode method_2_code 1 = .ok (.iload_n 2, 1) := by decide +kernel
theorem gg_2 : decode method_2_code 2 = .ok (.if_icmp .ne 5, 3) := by decide +kernel
theorem gg_5 : decode method_2_code 5 = .ok (.iload_n 3, 1) := by decide +kernel
theorem gg_6 : decode method_2_code 6 = .ok (.ireturn, 1) := by decide +kernel
theorem gg_7 : decode method_2_code 7 = .ok (.iload_n 1, 1) := by decide +kernel
theorem gg_8 : decode method_2_code 8 = .ok (.aload_n 0, 1) := by decide +kernel
theorem gg_9 : decode method_2_code 9 = .ok (.invokevirtual 7, 3) := by decide +kernel
theorem gg_12 : decode method_2_code 12 = .ok (.if_icmp .ge 11, 3) := by decide +kernel
theorem gg_15 : decode method_2_code 15 = .ok (.aload_n 0, 1) := by decide +kernel
theorem gg_16 : decode method_2_code 16 = .ok (.iload_n 1, 1) := by decide +kernel
theorem gg_17 : decode method_2_code 17 = .ok (.invokevirtual 13, 3) := by decide +kernel
theorem gg_20 : decode method_2_code 20 = .ok (.goto 4, 3) := by decide +kernel
theorem gg_23 : decode method_2_code 23 = .ok (.iload_n 3, 1) := by decide +kernel
theorem gg_24 : decode method_2_code 24 = .ok (.ireturn, 1) := by decide +kernel
theorem efG (m : MethodId) (x0 : Addr) (x1 : Int32) (x2 : Int32) (x3 : Int32) : entryFrame m #[.ref x0, .int x1, .int x2, .int x3] 4 = mkF m 0 #[.val (.ref x0), .val (.int x1), .val (.int x2), .val (.int x3)] [] := by first | (simp [entryFrame, mkF, argsToLocals, Value.category, maxLocals]; done) | rfl
set_option maxRecDepth 65536 in
set_option maxHeartbeats 4000000 in
theorem t_g (l : Launch) {Z : State} {a0 : Array Value} {EL : List (String × Nat)} (hw : ∀ d ∈ tables_1, d.before a0 Z = true) (hEL : EW Z a0 EL) (cst : Cst Z) (fst : Fst Z) {h : Heap} (hO : Ext Z.heap h) {a : Addr} {cs : List Int32} (S : Str Z h a cs) {i pp ch : Int32} (hi : ¬ i < 0) (hc : Lc ch) :
    Met l Z EL [] (⟨LW, "g", "(Ljava/lang/String;IIC)C"⟩ : MethodName) method_2_code 4 (some .char) { frames := 4, cells := 0, slots := 0, locals := 53 } #[.ref a, .int i, .int pp, .int ch] h (Ret fun v h' => ∃ z, v = .int z ∧ Lc z ∧ h = h') := by
  refine Met.intro pnLW hEL hO ?_
  intro p e s m below meth c T W hby hml hret hnm
  have D : ∀ {pc : Nat} {r}, decode method_2_code pc = r → decode c.code pc = r := fun q => hb hby q
  refine Go.cast (efG m a i pp ch) ?_
  have h4 := S.2.2.2.2
  refine g_iloadN W (pc' := 1) (D gg_0) rfl rfl ?_
  refine g_iloadN W (pc' := 2) (D gg_1) rfl rfl ?_
  refine g_icmpne W (pc1 := 7) (pc2 := 5) (D gg_2) (by decide) (by decide) rfl (fun q0 => ?_) (fun q0 => ?_)
  · refine g_iloadN W (pc' := 8) (D gg_7) rfl rfl ?_
    refine g_aloadN W (pc' := 9) (D gg_8) rfl rfl (by first | rfl | assumption) ?_
    refine g_len W hw cst (S) (hw _ (List.mem_of_getElem? (i := 9) rfl)) (pc' := 12) (by rw [hml]; rfl) (D gg_9) rfl (Wn := 1) (Nat.le_refl _) (by decide) (by decide) (by decide) (by decide) (rfl) (fun T W => ?_)
    refine g_icmpge W (pc1 := 23) (pc2 := 15) (D gg_12) (by decide) (by decide) rfl (fun q => ?_) (fun q => ?_)
    · refine g_iloadN W (pc' := 24) (D gg_23) rfl rfl ?_
      exact g_retc W (D gg_24) hret hc.nar (by decide) (by decide) ⟨_, rfl, _, rfl, hc, rfl⟩
    · refine g_aloadN W (pc' := 16) (D gg_15) rfl rfl (by first | rfl | assumption) ?_
      refine g_iloadN W (pc' := 17) (D gg_16) rfl rfl ?_
      refine g_charAt W hw cst fst (S) (hw _ (List.mem_of_getElem? (i := 31) rfl)) (pc' := 20) (by rw [hml]; rfl) (D gg_17) rfl (Wn := 0) (Nat.le_refl _) (by decide) (by decide) (by decide) (by decide) (eq_nat hi) (lt_nat hi (by omega) q) (fun T W => ?_)
      refine g_goto W (pc' := 24) (D gg_20) (by decide) (by decide) ?_
      exact g_retc W (D gg_24) hret (S.2.2.2.1.get _).nar (by decide) (by decide) ⟨_, rfl, _, rfl, S.2.2.2.1.get _, rfl⟩
  · refine g_iloadN W (pc' := 6) (D gg_5) rfl rfl ?_
    exact g_retc W (D gg_6) hret hc.nar (by decide) (by decide) ⟨_, rfl, _, rfl, hc, rfl⟩
theorem mk_0 : decode method_3_code 0 = .ok (.iload_n 1, 1) := by decide +kernel
theorem mk_1 : decode method_3_code 1 = .ok (.bipush 8, 2) := by decide +kernel
theorem mk_3 : decode method_3_code 3 = .ok (.if_icmp .ne 99, 3) := by decide +kernel
theorem mk_6 : decode method_3_code 6 = .ok (.new 8, 3) := by decide +kernel
theorem mk_9 : decode method_3_code 9 = .ok (.dup, 1) := by decide +kernel
theorem mk_10 : decode method_3_code 10 = .ok (.bipush 8, 2) := by decide +kernel
theorem mk_12 : decode method_3_code 12 = .ok (.newarray .char, 2) := by decide +kernel
theorem mk_14 : decode method_3_code 14 = .ok (.dup, 1) := by decide +kernel
theorem mk_15 : decode method_3_code 15 = .ok (.iconst 0, 1) := by decide +kernel
theorem mk_16 : decode method_3_code 16 = .ok (.aload_n 0, 1) := by decide +kernel
theorem mk_17 : decode method_3_code 17 = .ok (.iconst 0, 1) := by decide +kernel
theorem mk_18 : decode method_3_code 18 = .ok (.iload_n 2, 1) := by decide +kernel
theorem mk_19 : decode method_3_code 19 = .ok (.iload_n 3, 1) := by decide +kernel
theorem mk_20 : decode method_3_code 20 = .ok (.invokestatic 17, 3) := by decide +kernel
theorem mk_23 : decode method_3_code 23 = .ok (.castore, 1) := by decide +kernel
theorem mk_24 : decode method_3_code 24 = .ok (.dup, 1) := by decide +kernel
theorem mk_25 : decode method_3_code 25 = .ok (.iconst 1, 1) := by decide +kernel
theorem mk_26 : decode method_3_code 26 = .ok (.aload_n 0, 1) := by decide +kernel
theorem mk_27 : decode method_3_code 27 = .ok (.iconst 1, 1) := by decide +kernel
theorem mk_28 : decode method_3_code 28 = .ok (.iload_n 2, 1) := by decide +kernel
theorem mk_29 : decode method_3_code 29 = .ok (.iload_n 3, 1) := by decide +kernel
theorem mk_30 : decode method_3_code 30 = .ok (.invokestatic 17, 3) := by decide +kernel
theorem mk_33 : decode method_3_code 33 = .ok (.castore, 1) := by decide +kernel
theorem mk_34 : decode method_3_code 34 = .ok (.dup, 1) := by decide +kernel
theorem mk_35 : decode method_3_code 35 = .ok (.iconst 2, 1) := by decide +kernel
theorem mk_36 : decode method_3_code 36 = .ok (.aload_n 0, 1) := by decide +kernel
theorem mk_37 : decode method_3_code 37 = .ok (.iconst 2, 1) := by decide +kernel
theorem mk_38 : decode method_3_code 38 = .ok (.iload_n 2, 1) := by decide +kernel
theorem mk_39 : decode method_3_code 39 = .ok (.iload_n 3, 1) := by decide +kernel
theorem mk_40 : decode method_3_code 40 = .ok (.invokestatic 17, 3) := by decide +kernel
theorem mk_43 : decode method_3_code 43 = .ok (.castore, 1) := by decide +kernel
theorem mk_44 : decode method_3_code 44 = .ok (.dup, 1) := by decide +kernel
theorem mk_45 : decode method_3_code 45 = .ok (.iconst 3, 1) := by decide +kernel
theorem mk_46 : decode method_3_code 46 = .ok (.aload_n 0, 1) := by decide +kernel
theorem mk_47 : decode method_3_code 47 = .ok (.iconst 3, 1) := by decide +kernel
theorem mk_48 : decode method_3_code 48 = .ok (.iload_n 2, 1) := by decide +kernel
theorem mk_49 : decode method_3_code 49 = .ok (.iload_n 3, 1) := by decide +kernel
theorem mk_50 : decode method_3_code 50 = .ok (.invokestatic 17, 3) := by decide +kernel
theorem mk_53 : decode method_3_code 53 = .ok (.castore, 1) := by decide +kernel
theorem mk_54 : decode method_3_code 54 = .ok (.dup, 1) := by decide +kernel
theorem mk_55 : decode method_3_code 55 = .ok (.iconst 4, 1) := by decide +kernel
theorem mk_56 : decode method_3_code 56 = .ok (.aload_n 0, 1) := by decide +kernel
theorem mk_57 : decode method_3_code 57 = .ok (.iconst 4, 1) := by decide +kernel
theorem mk_58 : decode method_3_code 58 = .ok (.iload_n 2, 1) := by decide +kernel
theorem mk_59 : decode method_3_code 59 = .ok (.iload_n 3, 1) := by decide +kernel
theorem mk_60 : decode method_3_code 60 = .ok (.invokestatic 17, 3) := by decide +kernel
theorem mk_63 : decode method_3_code 63 = .ok (.castore, 1) := by decide +kernel
theorem mk_64 : decode method_3_code 64 = .ok (.dup, 1) := by decide +kernel
theorem mk_65 : decode method_3_code 65 = .ok (.iconst 5, 1) := by decide +kernel
theorem mk_66 : decode method_3_code 66 = .ok (.aload_n 0, 1) := by decide +kernel
theorem mk_67 : decode method_3_code 67 = .ok (.iconst 5, 1) := by decide +kernel
theorem mk_68 : decode method_3_code 68 = .ok (.iload_n 2, 1) := by decide +kernel
theorem mk_69 : decode method_3_code 69 = .ok (.iload_n 3, 1) := by decide +kernel
theorem mk_70 : decode method_3_code 70 = .ok (.invokestatic 17, 3) := by decide +kernel
theorem mk_73 : decode method_3_code 73 = .ok (.castore, 1) := by decide +kernel
theorem mk_74 : decode method_3_code 74 = .ok (.dup, 1) := by decide +kernel
theorem mk_75 : decode method_3_code 75 = .ok (.bipush 6, 2) := by decide +kernel
theorem mk_77 : decode method_3_code 77 = .ok (.aload_n 0, 1) := by decide +kernel
theorem mk_78 : decode method_3_code 78 = .ok (.bipush 6, 2) := by decide +kernel
theorem mk_80 : decode method_3_code 80 = .ok (.iload_n 2, 1) := by decide +kernel
theorem mk_81 : decode method_3_code 81 = .ok (.iload_n 3, 1) := by decide +kernel
theorem mk_82 : decode method_3_code 82 = .ok (.invokestatic 17, 3) := by decide +kernel
theorem mk_85 : decode method_3_code 85 = .ok (.castore, 1) := by decide +kernel
theorem mk_86 : decode method_3_code 86 = .ok (.dup, 1) := by decide +kernel
theorem mk_87 : decode method_3_code 87 = .ok (.bipush 7, 2) := by decide +kernel
theorem mk_89 : decode method_3_code 89 = .ok (.aload_n 0, 1) := by decide +kernel
theorem mk_90 : decode method_3_code 90 = .ok (.bipush 7, 2) := by decide +kernel
theorem mk_92 : decode method_3_code 92 = .ok (.iload_n 2, 1) := by decide +kernel
theorem mk_93 : decode method_3_code 93 = .ok (.iload_n 3, 1) := by decide +kernel
theorem mk_94 : decode method_3_code 94 = .ok (.invokestatic 17, 3) := by decide +kernel
theorem mk_97 : decode method_3_code 97 = .ok (.castore, 1) := by decide +kernel
theorem mk_98 : decode method_3_code 98 = .ok (.invokespecial 23, 3) := by decide +kernel
theorem mk_101 : decode method_3_code 101 = .ok (.areturn, 1) := by decide +kernel
theorem mk_102 : decode method_3_code 102 = .ok (.iload_n 1, 1) := by decide +kernel
theorem mk_103 : decode method_3_code 103 = .ok (.bipush 9, 2) := by decide +kernel
theorem mk_105 : decode method_3_code 105 = .ok (.if_icmp .ne 111, 3) := by decide +kernel
theorem mk_108 : decode method_3_code 108 = .ok (.new 8, 3) := by decide +kernel
theorem mk_111 : decode method_3_code 111 = .ok (.dup, 1) := by decide +kernel
theorem mk_112 : decode method_3_code 112 = .ok (.bipush 9, 2) := by decide +kernel
theorem mk_114 : decode method_3_code 114 = .ok (.newarray .char, 2) := by decide +kernel
theorem mk_116 : decode method_3_code 116 = .ok (.dup, 1) := by decide +kernel
theorem mk_117 : decode method_3_code 117 = .ok (.iconst 0, 1) := by decide +kernel
theorem mk_118 : decode method_3_code 118 = .ok (.aload_n 0, 1) := by decide +kernel
theorem mk_119 : decode method_3_code 119 = .ok (.iconst 0, 1) := by decide +kernel
theorem mk_120 : decode method_3_code 120 = .ok (.iload_n 2, 1) := by decide +kernel
theorem mk_121 : decode method_3_code 121 = .ok (.iload_n 3, 1) := by decide +kernel
theorem mk_122 : decode method_3_code 122 = .ok (.invokestatic 17, 3) := by decide +kernel
theorem mk_125 : decode method_3_code 125 = .ok (.castore, 1) := by decide +kernel
theorem mk_126 : decode method_3_code 126 = .ok (.dup, 1) := by decide +kernel
theorem mk_127 : decode method_3_code 127 = .ok (.iconst 1, 1) := by decide +kernel
theorem mk_128 : decode method_3_code 128 = .ok (.aload_n 0, 1) := by decide +kernel
theorem mk_129 : decode method_3_code 129 = .ok (.iconst 1, 1) := by decide +kernel
theorem mk_130 : decode method_3_code 130 = .ok (.iload_n 2, 1) := by decide +kernel
theorem mk_131 : decode method_3_code 131 = .ok (.iload_n 3, 1) := by decide +kernel
theorem mk_132 : decode method_3_code 132 = .ok (.invokestatic 17, 3) := by decide +kernel
theorem mk_135 : decode method_3_code 135 = .ok (.castore, 1) := by decide +kernel
theorem mk_136 : decode method_3_code 136 = .ok (.dup, 1) := by decide +kernel
theorem mk_137 : decode method_3_code 137 = .ok (.iconst 2, 1) := by decide +kernel
theorem mk_138 : decode method_3_code 138 = .ok (.aload_n 0, 1) := by decide +kernel
theorem mk_139 : decode method_3_code 139 = .ok (.iconst 2, 1) := by decide +kernel
theorem mk_140 : decode method_3_code 140 = .ok (.iload_n 2, 1) := by decide +kernel
theorem mk_141 : decode method_3_code 141 = .ok (.iload_n 3, 1) := by decide +kernel
theorem mk_142 : decode method_3_code 142 = .ok (.invokestatic 17, 3) := by decide +kernel
theorem mk_145 : decode method_3_code 145 = .ok (.castore, 1) := by decide +kernel
theorem mk_146 : decode method_3_code 146 = .ok (.dup, 1) := by decide +kernel
theorem mk_147 : decode method_3_code 147 = .ok (.iconst 3, 1) := by decide +kernel
theorem mk_148 : decode method_3_code 148 = .ok (.aload_n 0, 1) := by decide +kernel
theorem mk_149 : decode method_3_code 149 = .ok (.iconst 3, 1) := by decide +kernel
theorem mk_150 : decode method_3_code 150 = .ok (.iload_n 2, 1) := by decide +kernel
theorem mk_151 : decode method_3_code 151 = .ok (.iload_n 3, 1) := by decide +kernel
theorem mk_152 : decode method_3_code 152 = .ok (.invokestatic 17, 3) := by decide +kernel
theorem mk_155 : decode method_3_code 155 = .ok (.castore, 1) := by decide +kernel
theorem mk_156 : decode method_3_code 156 = .ok (.dup, 1) := by decide +kernel
theorem mk_157 : decode method_3_code 157 = .ok (.iconst 4, 1) := by decide +kernel
theorem mk_158 : decode method_3_code 158 = .ok (.aload_n 0, 1) := by decide +kernel
theorem mk_159 : decode method_3_code 159 = .ok (.iconst 4, 1) := by decide +kernel
theorem mk_160 : decode method_3_code 160 = .ok (.iload_n 2, 1) := by decide +kernel
theorem mk_161 : decode method_3_code 161 = .ok (.iload_n 3, 1) := by decide +kernel
theorem mk_162 : decode method_3_code 162 = .ok (.invokestatic 17, 3) := by decide +kernel
theorem mk_165 : decode method_3_code 165 = .ok (.castore, 1) := by decide +kernel
theorem mk_166 : decode method_3_code 166 = .ok (.dup, 1) := by decide +kernel
theorem mk_167 : decode method_3_code 167 = .ok (.iconst 5, 1) := by decide +kernel
theorem mk_168 : decode method_3_code 168 = .ok (.aload_n 0, 1) := by decide +kernel
theorem mk_169 : decode method_3_code 169 = .ok (.iconst 5, 1) := by decide +kernel
theorem mk_170 : decode method_3_code 170 = .ok (.iload_n 2, 1) := by decide +kernel
theorem mk_171 : decode method_3_code 171 = .ok (.iload_n 3, 1) := by decide +kernel
theorem mk_172 : decode method_3_code 172 = .ok (.invokestatic 17, 3) := by decide +kernel
theorem mk_175 : decode method_3_code 175 = .ok (.castore, 1) := by decide +kernel
theorem mk_176 : decode method_3_code 176 = .ok (.dup, 1) := by decide +kernel
theorem mk_177 : decode method_3_code 177 = .ok (.bipush 6, 2) := by decide +kernel
theorem mk_179 : decode method_3_code 179 = .ok (.aload_n 0, 1) := by decide +kernel
theorem mk_180 : decode method_3_code 180 = .ok (.bipush 6, 2) := by decide +kernel
theorem mk_182 : decode method_3_code 182 = .ok (.iload_n 2, 1) := by decide +kernel
theorem mk_183 : decode method_3_code 183 = .ok (.iload_n 3, 1) := by decide +kernel
theorem mk_184 : decode method_3_code 184 = .ok (.invokestatic 17, 3) := by decide +kernel
theorem mk_187 : decode method_3_code 187 = .ok (.castore, 1) := by decide +kernel
theorem mk_188 : decode method_3_code 188 = .ok (.dup, 1) := by decide +kernel
theorem mk_189 : decode method_3_code 189 = .ok (.bipush 7, 2) := by decide +kernel
theorem mk_191 : decode method_3_code 191 = .ok (.aload_n 0, 1) := by decide +kernel
theorem mk_192 : decode method_3_code 192 = .ok (.bipush 7, 2) := by decide +kernel
theorem mk_194 : decode method_3_code 194 = .ok (.iload_n 2, 1) := by decide +kernel
theorem mk_195 : decode method_3_code 195 = .ok (.iload_n 3, 1) := by decide +kernel
theorem mk_196 : decode method_3_code 196 = .ok (.invokestatic 17, 3) := by decide +kernel
theorem mk_199 : decode method_3_code 199 = .ok (.castore, 1) := by decide +kernel
theorem mk_200 : decode method_3_code 200 = .ok (.dup, 1) := by decide +kernel
theorem mk_201 : decode method_3_code 201 = .ok (.bipush 8, 2) := by decide +kernel
theorem mk_203 : decode method_3_code 203 = .ok (.aload_n 0, 1) := by decide +kernel
theorem mk_204 : decode method_3_code 204 = .ok (.bipush 8, 2) := by decide +kernel
theorem mk_206 : decode method_3_code 206 = .ok (.iload_n 2, 1) := by decide +kernel
theorem mk_207 : decode method_3_code 207 = .ok (.iload_n 3, 1) := by decide +kernel
theorem mk_208 : decode method_3_code 208 = .ok (.invokestatic 17, 3) := by decide +kernel
theorem mk_211 : decode method_3_code 211 = .ok (.castore, 1) := by decide +kernel
theorem mk_212 : decode method_3_code 212 = .ok (.invokespecial 23, 3) := by decide +kernel
theorem mk_215 : decode method_3_code 215 = .ok (.areturn, 1) := by decide +kernel
theorem mk_216 : decode method_3_code 216 = .ok (.iload_n 1, 1) := by decide +kernel
theorem mk_217 : decode method_3_code 217 = .ok (.bipush 10, 2) := by decide +kernel
theorem mk_219 : decode method_3_code 219 = .ok (.if_icmp .ne 123, 3) := by decide +kernel
theorem mk_222 : decode method_3_code 222 = .ok (.new 8, 3) := by decide +kernel
theorem mk_225 : decode method_3_code 225 = .ok (.dup, 1) := by decide +kernel
theorem mk_226 : decode method_3_code 226 = .ok (.bipush 10, 2) := by decide +kernel
theorem mk_228 : decode method_3_code 228 = .ok (.newarray .char, 2) := by decide +kernel
theorem mk_230 : decode method_3_code 230 = .ok (.dup, 1) := by decide +kernel
theorem mk_231 : decode method_3_code 231 = .ok (.iconst 0, 1) := by decide +kernel
theorem mk_232 : decode method_3_code 232 = .ok (.aload_n 0, 1) := by decide +kernel
theorem mk_233 : decode method_3_code 233 = .ok (.iconst 0, 1) := by decide +kernel
theorem mk_234 : decode method_3_code 234 = .ok (.iload_n 2, 1) := by decide +kernel
theorem mk_235 : decode method_3_code 235 = .ok (.iload_n 3, 1) := by decide +kernel
theorem mk_236 : decode method_3_code 236 = .ok (.invokestatic 17, 3) := by decide +kernel
theorem mk_239 : decode method_3_code 239 = .ok (.castore, 1) := by decide +kernel
theorem mk_240 : decode method_3_code 240 = .ok (.dup, 1) := by decide +kernel
theorem mk_241 : decode method_3_code 241 = .ok (.iconst 1, 1) := by decide +kernel
theorem mk_242 : decode method_3_code 242 = .ok (.aload_n 0, 1) := by decide +kernel
theorem mk_243 : decode method_3_code 243 = .ok (.iconst 1, 1) := by decide +kernel
theorem mk_244 : decode method_3_code 244 = .ok (.iload_n 2, 1) := by decide +kernel
theorem mk_245 : decode method_3_code 245 = .ok (.iload_n 3, 1) := by decide +kernel
theorem mk_246 : decode method_3_code 246 = .ok (.invokestatic 17, 3) := by decide +kernel
theorem mk_249 : decode method_3_code 249 = .ok (.castore, 1) := by decide +kernel
theorem mk_250 : decode method_3_code 250 = .ok (.dup, 1) := by decide +kernel
theorem mk_251 : decode method_3_code 251 = .ok (.iconst 2, 1) := by decide +kernel
theorem mk_252 : decode method_3_code 252 = .ok (.aload_n 0, 1) := by decide +kernel
theorem mk_253 : decode method_3_code 253 = .ok (.iconst 2, 1) := by decide +kernel
theorem mk_254 : decode method_3_code 254 = .ok (.iload_n 2, 1) := by decide +kernel
theorem mk_255 : decode method_3_code 255 = .ok (.iload_n 3, 1) := by decide +kernel
theorem mk_256 : decode method_3_code 256 = .ok (.invokestatic 17, 3) := by decide +kernel
theorem mk_259 : decode method_3_code 259 = .ok (.castore, 1) := by decide +kernel
theorem mk_260 : decode method_3_code 260 = .ok (.dup, 1) := by decide +kernel
theorem mk_261 : decode method_3_code 261 = .ok (.iconst 3, 1) := by decide +kernel
theorem mk_262 : decode method_3_code 262 = .ok (.aload_n 0, 1) := by decide +kernel
theorem mk_263 : decode method_3_code 263 = .ok (.iconst 3, 1) := by decide +kernel
theorem mk_264 : decode method_3_code 264 = .ok (.iload_n 2, 1) := by decide +kernel
theorem mk_265 : decode method_3_code 265 = .ok (.iload_n 3, 1) := by decide +kernel
theorem mk_266 : decode method_3_code 266 = .ok (.invokestatic 17, 3) := by decide +kernel
theorem mk_269 : decode method_3_code 269 = .ok (.castore, 1) := by decide +kernel
theorem mk_270 : decode method_3_code 270 = .ok (.dup, 1) := by decide +kernel
theorem mk_271 : decode method_3_code 271 = .ok (.iconst 4, 1) := by decide +kernel
theorem mk_272 : decode method_3_code 272 = .ok (.aload_n 0, 1) := by decide +kernel
theorem mk_273 : decode method_3_code 273 = .ok (.iconst 4, 1) := by decide +kernel
theorem mk_274 : decode method_3_code 274 = .ok (.iload_n 2, 1) := by decide +kernel
theorem mk_275 : decode method_3_code 275 = .ok (.iload_n 3, 1) := by decide +kernel
theorem mk_276 : decode method_3_code 276 = .ok (.invokestatic 17, 3) := by decide +kernel
theorem mk_279 : decode method_3_code 279 = .ok (.castore, 1) := by decide +kernel
theorem mk_280 : decode method_3_code 280 = .ok (.dup, 1) := by decide +kernel
theorem mk_281 : decode method_3_code 281 = .ok (.iconst 5, 1) := by decide +kernel
theorem mk_282 : decode method_3_code 282 = .ok (.aload_n 0, 1) := by decide +kernel
theorem mk_283 : decode method_3_code 283 = .ok (.iconst 5, 1) := by decide +kernel
theorem mk_284 : decode method_3_code 284 = .ok (.iload_n 2, 1) := by decide +kernel
theorem mk_285 : decode method_3_code 285 = .ok (.iload_n 3, 1) := by decide +kernel
theorem mk_286 : decode method_3_code 286 = .ok (.invokestatic 17, 3) := by decide +kernel
theorem mk_289 : decode method_3_code 289 = .ok (.castore, 1) := by decide +kernel
theorem mk_290 : decode method_3_code 290 = .ok (.dup, 1) := by decide +kernel
theorem mk_291 : decode method_3_code 291 = .ok (.bipush 6, 2) := by decide +kernel
theorem mk_293 : decode method_3_code 293 = .ok (.aload_n 0, 1) := by decide +kernel
theorem mk_294 : decode method_3_code 294 = .ok (.bipush 6, 2) := by decide +kernel
theorem mk_296 : decode method_3_code 296 = .ok (.iload_n 2, 1) := by decide +kernel
theorem mk_297 : decode method_3_code 297 = .ok (.iload_n 3, 1) := by decide +kernel
theorem mk_298 : decode method_3_code 298 = .ok (.invokestatic 17, 3) := by decide +kernel
theorem mk_301 : decode method_3_code 301 = .ok (.castore, 1) := by decide +kernel
theorem mk_302 : decode method_3_code 302 = .ok (.dup, 1) := by decide +kernel
theorem mk_303 : decode method_3_code 303 = .ok (.bipush 7, 2) := by decide +kernel
theorem mk_305 : decode method_3_code 305 = .ok (.aload_n 0, 1) := by decide +kernel
theorem mk_306 : decode method_3_code 306 = .ok (.bipush 7, 2) := by decide +kernel
theorem mk_308 : decode method_3_code 308 = .ok (.iload_n 2, 1) := by decide +kernel
theorem mk_309 : decode method_3_code 309 = .ok (.iload_n 3, 1) := by decide +kernel
theorem mk_310 : decode method_3_code 310 = .ok (.invokestatic 17, 3) := by decide +kernel
theorem mk_313 : decode method_3_code 313 = .ok (.castore, 1) := by decide +kernel
theorem mk_314 : decode method_3_code 314 = .ok (.dup, 1) := by decide +kernel
theorem mk_315 : decode method_3_code 315 = .ok (.bipush 8, 2) := by decide +kernel
theorem mk_317 : decode method_3_code 317 = .ok (.aload_n 0, 1) := by decide +kernel
theorem mk_318 : decode method_3_code 318 = .ok (.bipush 8, 2) := by decide +kernel
theorem mk_320 : decode method_3_code 320 = .ok (.iload_n 2, 1) := by decide +kernel
theorem mk_321 : decode method_3_code 321 = .ok (.iload_n 3, 1) := by decide +kernel
theorem mk_322 : decode method_3_code 322 = .ok (.invokestatic 17, 3) := by decide +kernel
theorem mk_325 : decode method_3_code 325 = .ok (.castore, 1) := by decide +kernel
theorem mk_326 : decode method_3_code 326 = .ok (.dup, 1) := by decide +kernel
theorem mk_327 : decode method_3_code 327 = .ok (.bipush 9, 2) := by decide +kernel
theorem mk_329 : decode method_3_code 329 = .ok (.aload_n 0, 1) := by decide +kernel
theorem mk_330 : decode method_3_code 330 = .ok (.bipush 9, 2) := by decide +kernel
theorem mk_332 : decode method_3_code 332 = .ok (.iload_n 2, 1) := by decide +kernel
theorem mk_333 : decode method_3_code 333 = .ok (.iload_n 3, 1) := by decide +kernel
theorem mk_334 : decode method_3_code 334 = .ok (.invokestatic 17, 3) := by decide +kernel
theorem mk_337 : decode method_3_code 337 = .ok (.castore, 1) := by decide +kernel
theorem mk_338 : decode method_3_code 338 = .ok (.invokespecial 23, 3) := by decide +kernel
theorem mk_341 : decode method_3_code 341 = .ok (.areturn, 1) := by decide +kernel
theorem mk_342 : decode method_3_code 342 = .ok (.iload_n 1, 1) := by decide +kernel
theorem mk_343 : decode method_3_code 343 = .ok (.bipush 11, 2) := by decide +kernel
theorem mk_345 : decode method_3_code 345 = .ok (.if_icmp .ne 135, 3) := by decide +kernel
theorem mk_348 : decode method_3_code 348 = .ok (.new 8, 3) := by decide +kernel
theorem mk_351 : decode method_3_code 351 = .ok (.dup, 1) := by decide +kernel
theorem mk_352 : decode method_3_code 352 = .ok (.bipush 11, 2) := by decide +kernel
theorem mk_354 : decode method_3_code 354 = .ok (.newarray .char, 2) := by decide +kernel
theorem mk_356 : decode method_3_code 356 = .ok (.dup, 1) := by decide +kernel
theorem mk_357 : decode method_3_code 357 = .ok (.iconst 0, 1) := by decide +kernel
theorem mk_358 : decode method_3_code 358 = .ok (.aload_n 0, 1) := by decide +kernel
theorem mk_359 : decode method_3_code 359 = .ok (.iconst 0, 1) := by decide +kernel
theorem mk_360 : decode method_3_code 360 = .ok (.iload_n 2, 1) := by decide +kernel
theorem mk_361 : decode method_3_code 361 = .ok (.iload_n 3, 1) := by decide +kernel
theorem mk_362 : decode method_3_code 362 = .ok (.invokestatic 17, 3) := by decide +kernel
theorem mk_365 : decode method_3_code 365 = .ok (.castore, 1) := by decide +kernel
theorem mk_366 : decode method_3_code 366 = .ok (.dup, 1) := by decide +kernel
theorem mk_367 : decode method_3_code 367 = .ok (.iconst 1, 1) := by decide +kernel
theorem mk_368 : decode method_3_code 368 = .ok (.aload_n 0, 1) := by decide +kernel
theorem mk_369 : decode method_3_code 369 = .ok (.iconst 1, 1) := by decide +kernel
theorem mk_370 : decode method_3_code 370 = .ok (.iload_n 2, 1) := by decide +kernel
theorem mk_371 : decode method_3_code 371 = .ok (.iload_n 3, 1) := by decide +kernel
theorem mk_372 : decode method_3_code 372 = .ok (.invokestatic 17, 3) := by decide +kernel
theorem mk_375 : decode method_3_code 375 = .ok (.castore, 1) := by decide +kernel
theorem mk_376 : decode method_3_code 376 = .ok (.dup, 1) := by decide +kernel
theorem mk_377 : decode method_3_code 377 = .ok (.iconst 2, 1) := by decide +kernel
theorem mk_378 : decode method_3_code 378 = .ok (.aload_n 0, 1) := by decide +kernel
theorem mk_379 : decode method_3_code 379 = .ok (.iconst 2, 1) := by decide +kernel
theorem mk_380 : decode method_3_code 380 = .ok (.iload_n 2, 1) := by decide +kernel
theorem mk_381 : decode method_3_code 381 = .ok (.iload_n 3, 1) := by decide +kernel
theorem mk_382 : decode method_3_code 382 = .ok (.invokestatic 17, 3) := by decide +kernel
theorem mk_385 : decode method_3_code 385 = .ok (.castore, 1) := by decide +kernel
theorem mk_386 : decode method_3_code 386 = .ok (.dup, 1) := by decide +kernel
theorem mk_387 : decode method_3_code 387 = .ok (.iconst 3, 1) := by decide +kernel
theorem mk_388 : decode method_3_code 388 = .ok (.aload_n 0, 1) := by decide +kernel
theorem mk_389 : decode method_3_code 389 = .ok (.iconst 3, 1) := by decide +kernel
theorem mk_390 : decode method_3_code 390 = .ok (.iload_n 2, 1) := by decide +kernel
theorem mk_391 : decode method_3_code 391 = .ok (.iload_n 3, 1) := by decide +kernel
theorem mk_392 : decode method_3_code 392 = .ok (.invokestatic 17, 3) := by decide +kernel
theorem mk_395 : decode method_3_code 395 = .ok (.castore, 1) := by decide +kernel
theorem mk_396 : decode method_3_code 396 = .ok (.dup, 1) := by decide +kernel
theorem mk_397 : decode method_3_code 397 = .ok (.iconst 4, 1) := by decide +kernel
theorem mk_398 : decode method_3_code 398 = .ok (.aload_n 0, 1) := by decide +kernel
theorem mk_399 : decode method_3_code 399 = .ok (.iconst 4, 1) := by decide +kernel
theorem mk_400 : decode method_3_code 400 = .ok (.iload_n 2, 1) := by decide +kernel
theorem mk_401 : decode method_3_code 401 = .ok (.iload_n 3, 1) := by decide +kernel
theorem mk_402 : decode method_3_code 402 = .ok (.invokestatic 17, 3) := by decide +kernel
theorem mk_405 : decode method_3_code 405 = .ok (.castore, 1) := by decide +kernel
theorem mk_406 : decode method_3_code 406 = .ok (.dup, 1) := by decide +kernel
theorem mk_407 : decode method_3_code 407 = .ok (.iconst 5, 1) := by decide +kernel
theorem mk_408 : decode method_3_code 408 = .ok (.aload_n 0, 1) := by decide +kernel
theorem mk_409 : decode method_3_code 409 = .ok (.iconst 5, 1) := by decide +kernel
theorem mk_410 : decode method_3_code 410 = .ok (.iload_n 2, 1) := by decide +kernel
theorem mk_411 : decode method_3_code 411 = .ok (.iload_n 3, 1) := by decide +kernel
theorem mk_412 : decode method_3_code 412 = .ok (.invokestatic 17, 3) := by decide +kernel
theorem mk_415 : decode method_3_code 415 = .ok (.castore, 1) := by decide +kernel
theorem mk_416 : decode method_3_code 416 = .ok (.dup, 1) := by decide +kernel
theorem mk_417 : decode method_3_code 417 = .ok (.bipush 6, 2) := by decide +kernel
theorem mk_419 : decode method_3_code 419 = .ok (.aload_n 0, 1) := by decide +kernel
theorem mk_420 : decode method_3_code 420 = .ok (.bipush 6, 2) := by decide +kernel
theorem mk_422 : decode method_3_code 422 = .ok (.iload_n 2, 1) := by decide +kernel
theorem mk_423 : decode method_3_code 423 = .ok (.iload_n 3, 1) := by decide +kernel
theorem mk_424 : decode method_3_code 424 = .ok (.invokestatic 17, 3) := by decide +kernel
theorem mk_427 : decode method_3_code 427 = .ok (.castore, 1) := by decide +kernel
theorem mk_428 : decode method_3_code 428 = .ok (.dup, 1) := by decide +kernel
theorem mk_429 : decode method_3_code 429 = .ok (.bipush 7, 2) := by decide +kernel
theorem mk_431 : decode method_3_code 431 = .ok (.aload_n 0, 1) := by decide +kernel
theorem mk_432 : decode method_3_code 432 = .ok (.bipush 7, 2) := by decide +kernel
theorem mk_434 : decode method_3_code 434 = .ok (.iload_n 2, 1) := by decide +kernel
theorem mk_435 : decode method_3_code 435 = .ok (.iload_n 3, 1) := by decide +kernel
theorem mk_436 : decode method_3_code 436 = .ok (.invokestatic 17, 3) := by decide +kernel
theorem mk_439 : decode method_3_code 439 = .ok (.castore, 1) := by decide +kernel
theorem mk_440 : decode method_3_code 440 = .ok (.dup, 1) := by decide +kernel
theorem mk_441 : decode method_3_code 441 = .ok (.bipush 8, 2) := by decide +kernel
theorem mk_443 : decode method_3_code 443 = .ok (.aload_n 0, 1) := by decide +kernel
theorem mk_444 : decode method_3_code 444 = .ok (.bipush 8, 2) := by decide +kernel
theorem mk_446 : decode method_3_code 446 = .ok (.iload_n 2, 1) := by decide +kernel
theorem mk_447 : decode method_3_code 447 = .ok (.iload_n 3, 1) := by decide +kernel
theorem mk_448 : decode method_3_code 448 = .ok (.invokestatic 17, 3) := by decide +kernel
theorem mk_451 : decode method_3_code 451 = .ok (.castore, 1) := by decide +kernel
theorem mk_452 : decode method_3_code 452 = .ok (.dup, 1) := by decide +kernel
theorem mk_453 : decode method_3_code 453 = .ok (.bipush 9, 2) := by decide +kernel
theorem mk_455 : decode method_3_code 455 = .ok (.aload_n 0, 1) := by decide +kernel
theorem mk_456 : decode method_3_code 456 = .ok (.bipush 9, 2) := by decide +kernel
theorem mk_458 : decode method_3_code 458 = .ok (.iload_n 2, 1) := by decide +kernel
theorem mk_459 : decode method_3_code 459 = .ok (.iload_n 3, 1) := by decide +kernel
theorem mk_460 : decode method_3_code 460 = .ok (.invokestatic 17, 3) := by decide +kernel
theorem mk_463 : decode method_3_code 463 = .ok (.castore, 1) := by decide +kernel
theorem mk_464 : decode method_3_code 464 = .ok (.dup, 1) := by decide +kernel
theorem mk_465 : decode method_3_code 465 = .ok (.bipush 10, 2) := by decide +kernel
theorem mk_467 : decode method_3_code 467 = .ok (.aload_n 0, 1) := by decide +kernel
theorem mk_468 : decode method_3_code 468 = .ok (.bipush 10, 2) := by decide +kernel
theorem mk_470 : decode method_3_code 470 = .ok (.iload_n 2, 1) := by decide +kernel
theorem mk_471 : decode method_3_code 471 = .ok (.iload_n 3, 1) := by decide +kernel
theorem mk_472 : decode method_3_code 472 = .ok (.invokestatic 17, 3) := by decide +kernel
theorem mk_475 : decode method_3_code 475 = .ok (.castore, 1) := by decide +kernel
theorem mk_476 : decode method_3_code 476 = .ok (.invokespecial 23, 3) := by decide +kernel
theorem mk_479 : decode method_3_code 479 = .ok (.areturn, 1) := by decide +kernel
theorem mk_480 : decode method_3_code 480 = .ok (.iload_n 1, 1) := by decide +kernel
theorem mk_481 : decode method_3_code 481 = .ok (.bipush 12, 2) := by decide +kernel
theorem mk_483 : decode method_3_code 483 = .ok (.if_icmp .ne 147, 3) := by decide +kernel
theorem mk_486 : decode method_3_code 486 = .ok (.new 8, 3) := by decide +kernel
theorem mk_489 : decode method_3_code 489 = .ok (.dup, 1) := by decide +kernel
theorem mk_490 : decode method_3_code 490 = .ok (.bipush 12, 2) := by decide +kernel
theorem mk_492 : decode method_3_code 492 = .ok (.newarray .char, 2) := by decide +kernel
theorem mk_494 : decode method_3_code 494 = .ok (.dup, 1) := by decide +kernel
theorem mk_495 : decode method_3_code 495 = .ok (.iconst 0, 1) := by decide +kernel
theorem mk_496 : decode method_3_code 496 = .ok (.aload_n 0, 1) := by decide +kernel
theorem mk_497 : decode method_3_code 497 = .ok (.iconst 0, 1) := by decide +kernel
theorem mk_498 : decode method_3_code 498 = .ok (.iload_n 2, 1) := by decide +kernel
theorem mk_499 : decode method_3_code 499 = .ok (.iload_n 3, 1) := by decide +kernel
theorem mk_500 : decode method_3_code 500 = .ok (.invokestatic 17, 3) := by decide +kernel
theorem mk_503 : decode method_3_code 503 = .ok (.castore, 1) := by decide +kernel
theorem mk_504 : decode method_3_code 504 = .ok (.dup, 1) := by decide +kernel
theorem mk_505 : decode method_3_code 505 = .ok (.iconst 1, 1) := by decide +kernel
theorem mk_506 : decode method_3_code 506 = .ok (.aload_n 0, 1) := by decide +kernel
theorem mk_507 : decode method_3_code 507 = .ok (.iconst 1, 1) := by decide +kernel
theorem mk_508 : decode method_3_code 508 = .ok (.iload_n 2, 1) := by decide +kernel
theorem mk_509 : decode method_3_code 509 = .ok (.iload_n 3, 1) := by decide +kernel
theorem mk_510 : decode method_3_code 510 = .ok (.invokestatic 17, 3) := by decide +kernel
theorem mk_513 : decode method_3_code 513 = .ok (.castore, 1) := by decide +kernel
theorem mk_514 : decode method_3_code 514 = .ok (.dup, 1) := by decide +kernel
theorem mk_515 : decode method_3_code 515 = .ok (.iconst 2, 1) := by decide +kernel
theorem mk_516 : decode method_3_code 516 = .ok (.aload_n 0, 1) := by decide +kernel
theorem mk_517 : decode method_3_code 517 = .ok (.iconst 2, 1) := by decide +kernel
theorem mk_518 : decode method_3_code 518 = .ok (.iload_n 2, 1) := by decide +kernel
theorem mk_519 : decode method_3_code 519 = .ok (.iload_n 3, 1) := by decide +kernel
theorem mk_520 : decode method_3_code 520 = .ok (.invokestatic 17, 3) := by decide +kernel
theorem mk_523 : decode method_3_code 523 = .ok (.castore, 1) := by decide +kernel
theorem mk_524 : decode method_3_code 524 = .ok (.dup, 1) := by decide +kernel
theorem mk_525 : decode method_3_code 525 = .ok (.iconst 3, 1) := by decide +kernel
theorem mk_526 : decode method_3_code 526 = .ok (.aload_n 0, 1) := by decide +kernel
theorem mk_527 : decode method_3_code 527 = .ok (.iconst 3, 1) := by decide +kernel
theorem mk_528 : decode method_3_code 528 = .ok (.iload_n 2, 1) := by decide +kernel
theorem mk_529 : decode method_3_code 529 = .ok (.iload_n 3, 1) := by decide +kernel
theorem mk_530 : decode method_3_code 530 = .ok (.invokestatic 17, 3) := by decide +kernel
theorem mk_533 : decode method_3_code 533 = .ok (.castore, 1) := by decide +kernel
theorem mk_534 : decode method_3_code 534 = .ok (.dup, 1) := by decide +kernel
theorem mk_535 : decode method_3_code 535 = .ok (.iconst 4, 1) := by decide +kernel
theorem mk_536 : decode method_3_code 536 = .ok (.aload_n 0, 1) := by decide +kernel
theorem mk_537 : decode method_3_code 537 = .ok (.iconst 4, 1) := by decide +kernel
theorem mk_538 : decode method_3_code 538 = .ok (.iload_n 2, 1) := by decide +kernel
theorem mk_539 : decode method_3_code 539 = .ok (.iload_n 3, 1) := by decide +kernel
theorem mk_540 : decode method_3_code 540 = .ok (.invokestatic 17, 3) := by decide +kernel
theorem mk_543 : decode method_3_code 543 = .ok (.castore, 1) := by decide +kernel
theorem mk_544 : decode method_3_code 544 = .ok (.dup, 1) := by decide +kernel
theorem mk_545 : decode method_3_code 545 = .ok (.iconst 5, 1) := by decide +kernel
theorem mk_546 : decode method_3_code 546 = .ok (.aload_n 0, 1) := by decide +kernel
theorem mk_547 : decode method_3_code 547 = .ok (.iconst 5, 1) := by decide +kernel
theorem mk_548 : decode method_3_code 548 = .ok (.iload_n 2, 1) := by decide +kernel
theorem mk_549 : decode method_3_code 549 = .ok (.iload_n 3, 1) := by decide +kernel
theorem mk_550 : decode method_3_code 550 = .ok (.invokestatic 17, 3) := by decide +kernel
theorem mk_553 : decode method_3_code 553 = .ok (.castore, 1) := by decide +kernel
theorem mk_554 : decode method_3_code 554 = .ok (.dup, 1) := by decide +kernel
theorem mk_555 : decode method_3_code 555 = .ok (.bipush 6, 2) := by decide +kernel
theorem mk_557 : decode method_3_code 557 = .ok (.aload_n 0, 1) := by decide +kernel
theorem mk_558 : decode method_3_code 558 = .ok (.bipush 6, 2) := by decide +kernel
theorem mk_560 : decode method_3_code 560 = .ok (.iload_n 2, 1) := by decide +kernel
theorem mk_561 : decode method_3_code 561 = .ok (.iload_n 3, 1) := by decide +kernel
theorem mk_562 : decode method_3_code 562 = .ok (.invokestatic 17, 3) := by decide +kernel
theorem mk_565 : decode method_3_code 565 = .ok (.castore, 1) := by decide +kernel
theorem mk_566 : decode method_3_code 566 = .ok (.dup, 1) := by decide +kernel
theorem mk_567 : decode method_3_code 567 = .ok (.bipush 7, 2) := by decide +kernel
theorem mk_569 : decode method_3_code 569 = .ok (.aload_n 0, 1) := by decide +kernel
theorem mk_570 : decode method_3_code 570 = .ok (.bipush 7, 2) := by decide +kernel
theorem mk_572 : decode method_3_code 572 = .ok (.iload_n 2, 1) := by decide +kernel
theorem mk_573 : decode method_3_code 573 = .ok (.iload_n 3, 1) := by decide +kernel
theorem mk_574 : decode method_3_code 574 = .ok (.invokestatic 17, 3) := by decide +kernel
theorem mk_577 : decode method_3_code 577 = .ok (.castore, 1) := by decide +kernel
theorem mk_578 : decode method_3_code 578 = .ok (.dup, 1) := by decide +kernel
theorem mk_579 : decode method_3_code 579 = .ok (.bipush 8, 2) := by decide +kernel
theorem mk_581 : decode method_3_code 581 = .ok (.aload_n 0, 1) := by decide +kernel
theorem mk_582 : decode method_3_code 582 = .ok (.bipush 8, 2) := by decide +kernel
theorem mk_584 : decode method_3_code 584 = .ok (.iload_n 2, 1) := by decide +kernel
theorem mk_585 : decode method_3_code 585 = .ok (.iload_n 3, 1) := by decide +kernel
theorem mk_586 : decode method_3_code 586 = .ok (.invokestatic 17, 3) := by decide +kernel
theorem mk_589 : decode method_3_code 589 = .ok (.castore, 1) := by decide +kernel
theorem mk_590 : decode method_3_code 590 = .ok (.dup, 1) := by decide +kernel
theorem mk_591 : decode method_3_code 591 = .ok (.bipush 9, 2) := by decide +kernel
theorem mk_593 : decode method_3_code 593 = .ok (.aload_n 0, 1) := by decide +kernel
theorem mk_594 : decode method_3_code 594 = .ok (.bipush 9, 2) := by decide +kernel
theorem mk_596 : decode method_3_code 596 = .ok (.iload_n 2, 1) := by decide +kernel
theorem mk_597 : decode method_3_code 597 = .ok (.iload_n 3, 1) := by decide +kernel
theorem mk_598 : decode method_3_code 598 = .ok (.invokestatic 17, 3) := by decide +kernel
theorem mk_601 : decode method_3_code 601 = .ok (.castore, 1) := by decide +kernel
theorem mk_602 : decode method_3_code 602 = .ok (.dup, 1) := by decide +kernel
theorem mk_603 : decode method_3_code 603 = .ok (.bipush 10, 2) := by decide +kernel
theorem mk_605 : decode method_3_code 605 = .ok (.aload_n 0, 1) := by decide +kernel
theorem mk_606 : decode method_3_code 606 = .ok (.bipush 10, 2) := by decide +kernel
theorem mk_608 : decode method_3_code 608 = .ok (.iload_n 2, 1) := by decide +kernel
theorem mk_609 : decode method_3_code 609 = .ok (.iload_n 3, 1) := by decide +kernel
theorem mk_610 : decode method_3_code 610 = .ok (.invokestatic 17, 3) := by decide +kernel
theorem mk_613 : decode method_3_code 613 = .ok (.castore, 1) := by decide +kernel
theorem mk_614 : decode method_3_code 614 = .ok (.dup, 1) := by decide +kernel
theorem mk_615 : decode method_3_code 615 = .ok (.bipush 11, 2) := by decide +kernel
theorem mk_617 : decode method_3_code 617 = .ok (.aload_n 0, 1) := by decide +kernel
theorem mk_618 : decode method_3_code 618 = .ok (.bipush 11, 2) := by decide +kernel
theorem mk_620 : decode method_3_code 620 = .ok (.iload_n 2, 1) := by decide +kernel
theorem mk_621 : decode method_3_code 621 = .ok (.iload_n 3, 1) := by decide +kernel
theorem mk_622 : decode method_3_code 622 = .ok (.invokestatic 17, 3) := by decide +kernel
theorem mk_625 : decode method_3_code 625 = .ok (.castore, 1) := by decide +kernel
theorem mk_626 : decode method_3_code 626 = .ok (.invokespecial 23, 3) := by decide +kernel
theorem mk_629 : decode method_3_code 629 = .ok (.areturn, 1) := by decide +kernel
theorem mk_630 : decode method_3_code 630 = .ok (.aload_n 0, 1) := by decide +kernel
theorem mk_631 : decode method_3_code 631 = .ok (.areturn, 1) := by decide +kernel
theorem efM (m : MethodId) (x0 : Addr) (x1 : Int32) (x2 : Int32) (x3 : Int32) : entryFrame m #[.ref x0, .int x1, .int x2, .int x3] 4 = mkF m 0 #[.val (.ref x0), .val (.int x1), .val (.int x2), .val (.int x3)] [] := by first | (simp [entryFrame, mkF, argsToLocals, Value.category, maxLocals]; done) | rfl
set_option maxRecDepth 65536 in
set_option maxHeartbeats 8000000 in
theorem t_make (l : Launch) {Z : State} {a0 : Array Value} {EL : List (String × Nat)} (hw : ∀ d ∈ tables_1, d.before a0 Z = true) (hEL : EW Z a0 EL) (cst : Cst Z) (fst : Fst Z) {h : Heap} (hO : Ext Z.heap h) {a : Addr} {cs : List Int32} (Sb : Str Z h a cs) {len pp ch : Int32} (hc : Lc ch) :
    Met l Z EL [] (⟨LW, "make", "(Ljava/lang/String;IIC)Ljava/lang/String;"⟩ : MethodName) method_3_code 4 (some (.object "java/lang/String")) { frames := 5, cells := 3, slots := 40, locals := 73 } #[.ref a, .int len, .int pp, .int ch] h (Ret fun v h' => ∃ x ss, v = .ref x ∧ Ext h h' ∧ Str Z h' x ss) := by
  refine Met.intro pnLW hEL hO ?_
  intro p e s m below meth c T W hby hml hret hnm
  have D : ∀ {pc : Nat} {r}, decode method_3_code pc = r → decode c.code pc = r := fun q => hb hby q
  refine Go.cast (efM m a len pp ch) ?_
  have wi : (Jvm.Cond.instantiable "java/lang/String" 4).before a0 Z = true := (hw _ (List.mem_of_getElem? (i := 3) rfl))
  refine g_iloadN W (pc' := 1) (D mk_0) rfl rfl ?_
  refine g_bipush W (pc' := 3) (D mk_1) rfl (v := (8 : Int32)) (by decide) ?_
  refine g_icmpne W (pc1 := 102) (pc2 := 6) (D mk_3) (by decide) (by decide) rfl (fun b0 => ?_) (fun b0 => ?_)
  rotate_left
  · skip
    have hzh0 := W.old.1
    refine g_newS W (pc' := 9) (hw _ (List.mem_of_getElem? (i := 26) rfl)) wi (hw _ (List.mem_of_getElem? (i := 2) rfl)) (hw _ (List.mem_of_getElem? (i := 5) rfl)) (hw _ (List.mem_of_getElem? (i := 6) rfl)) (D mk_6) rfl (by decide) (by decide) (fun x T ga hx W E1 N => ?_)
    refine g_dup W (pc' := 10) (D mk_9) rfl rfl ?_
    refine g_bipush W (pc' := 12) (D mk_10) rfl (v := (8 : Int32)) (by decide) ?_
    refine g_newarray W (pc' := 14) (ty := .char) rfl (i := 8) (by decide) (by decide) (hw _ (List.mem_of_getElem? (i := 27) rfl)) (D mk_12) rfl (cap := 8) (by decide) (by decide) (by decide) (by decide) (fun b T gb hb0 W E2 A => ?_)
    replace N := (N.mem (fun y q => List.mem_cons_of_mem b q)).ext E2
    replace A : Ali Z gb b .char ((List.replicate 8 (0 : Int32)).map Value.int) := A
    have hbz : Z.heap.size ≤ b := Nat.le_trans hzh0 (Nat.le_trans E1.1 hb0)
    have hbx : h.size ≤ b := Nat.le_trans E1.1 hb0
    have KK : Keep h gb [] := ext_keep (ext_trans E1 E2) []
    replace Sb := (Sb.ext E1).ext E2
    refine g_dup W (pc' := 15) (D mk_14) rfl rfl ?_
    refine g_iconst W (pc' := 16) (D mk_15) rfl (v := (0 : Int32)) (by decide) ?_
    refine g_aloadN W (pc' := 17) (D mk_16) rfl rfl (by first | rfl | assumption) ?_
    refine g_iconst W (pc' := 18) (D mk_17) rfl (v := (0 : Int32)) (by decide) ?_
    refine g_iloadN W (pc' := 19) (D mk_18) rfl rfl ?_
    refine g_iloadN W (pc' := 20) (D mk_19) rfl rfl ?_
    refine g_callS W (t_g l hw hEL cst fst W.old Sb (i := 0) (pp := pp) (by decide) hc) (fun x q => nomatch q) (hw _ (List.mem_of_getElem? (i := 28) rfl)) (hw _ (List.mem_of_getElem? (i := 29) rfl)) (hw _ (List.mem_of_getElem? (i := 24) rfl)) (hw _ (List.mem_of_getElem? (i := 30) rfl)) (by decide) (by decide +kernel : parseMethodDescriptor "(Ljava/lang/String;IIC)C" = some ⟨[(.object "java/lang/String"), .int, .int, .char], some .char⟩) (argsL := [_, _, _, _]) rfl rfl (pc' := 23) rfl (by rw [hml]; rfl) (D mk_20) rfl (Wn := 5) (Nat.le_refl _) (by decide) (by decide) (by decide) (by decide) (fun v T h' W hg hQ => ?_)
    obtain ⟨z0, rfl, L0, rfl⟩ := hQ
    refine g_castore W (pc' := 24) (A) (hbz) (i := 0) (by decide) (by decide) (by simp) (L0.1) (L0.w) (D mk_23) rfl (fun T g0 W Kp A' => ?_)
    replace N := N.keepA wi Kp A
    replace KK := KK.trans Kp (own_new hbx)
    replace Sb := Sb.keep wi Kp (A.noStr (by decide))
    replace A := A'
    refine g_dup W (pc' := 25) (D mk_24) rfl rfl ?_
    refine g_iconst W (pc' := 26) (D mk_25) rfl (v := (1 : Int32)) (by decide) ?_
    refine g_aloadN W (pc' := 27) (D mk_26) rfl rfl (by first | rfl | assumption) ?_
    refine g_iconst W (pc' := 28) (D mk_27) rfl (v := (1 : Int32)) (by decide) ?_
    refine g_iloadN W (pc' := 29) (D mk_28) rfl rfl ?_
    refine g_iloadN W (pc' := 30) (D mk_29) rfl rfl ?_
    refine g_callS W (t_g l hw hEL cst fst W.old Sb (i := 1) (pp := pp) (by decide) hc) (fun x q => nomatch q) (hw _ (List.mem_of_getElem? (i := 28) rfl)) (hw _ (List.mem_of_getElem? (i := 29) rfl)) (hw _ (List.mem_of_getElem? (i := 24) rfl)) (hw _ (List.mem_of_getElem? (i := 30) rfl)) (by decide) (by decide +kernel : parseMethodDescriptor "(Ljava/lang/String;IIC)C" = some ⟨[(.object "java/lang/String"), .int, .int, .char], some .char⟩) (argsL := [_, _, _, _]) rfl rfl (pc' := 33) rfl (by rw [hml]; rfl) (D mk_30) rfl (Wn := 5) (Nat.le_refl _) (by decide) (by decide) (by decide) (by decide) (fun v T h' W hg hQ => ?_)
    obtain ⟨z1, rfl, L1, rfl⟩ := hQ
    refine g_castore W (pc' := 34) (A) (hbz) (i := 1) (by decide) (by decide) (by simp) (L1.1) (L1.w) (D mk_33) rfl (fun T g1 W Kp A' => ?_)
    replace N := N.keepA wi Kp A
    replace KK := KK.trans Kp (own_new hbx)
    replace Sb := Sb.keep wi Kp (A.noStr (by decide))
    replace A := A'
    refine g_dup W (pc' := 35) (D mk_34) rfl rfl ?_
    refine g_iconst W (pc' := 36) (D mk_35) rfl (v := (2 : Int32)) (by decide) ?_
    refine g_aloadN W (pc' := 37) (D mk_36) rfl rfl (by first | rfl | assumption) ?_
    refine g_iconst W (pc' := 38) (D mk_37) rfl (v := (2 : Int32)) (by decide) ?_
    refine g_iloadN W (pc' := 39) (D mk_38) rfl rfl ?_
    refine g_iloadN W (pc' := 40) (D mk_39) rfl rfl ?_
    refine g_callS W (t_g l hw hEL cst fst W.old Sb (i := 2) (pp := pp) (by decide) hc) (fun x q => nomatch q) (hw _ (List.mem_of_getElem? (i := 28) rfl)) (hw _ (List.mem_of_getElem? (i := 29) rfl)) (hw _ (List.mem_of_getElem? (i := 24) rfl)) (hw _ (List.mem_of_getElem? (i := 30) rfl)) (by decide) (by decide +kernel : parseMethodDescriptor "(Ljava/lang/String;IIC)C" = some ⟨[(.object "java/lang/String"), .int, .int, .char], some .char⟩) (argsL := [_, _, _, _]) rfl rfl (pc' := 43) rfl (by rw [hml]; rfl) (D mk_40) rfl (Wn := 5) (Nat.le_refl _) (by decide) (by decide) (by decide) (by decide) (fun v T h' W hg hQ => ?_)
    obtain ⟨z2, rfl, L2, rfl⟩ := hQ
    refine g_castore W (pc' := 44) (A) (hbz) (i := 2) (by decide) (by decide) (by simp) (L2.1) (L2.w) (D mk_43) rfl (fun T g2 W Kp A' => ?_)
    replace N := N.keepA wi Kp A
    replace KK := KK.trans Kp (own_new hbx)
    replace Sb := Sb.keep wi Kp (A.noStr (by decide))
    replace A := A'
    refine g_dup W (pc' := 45) (D mk_44) rfl rfl ?_
    refine g_iconst W (pc' := 46) (D mk_45) rfl (v := (3 : Int32)) (by decide) ?_
    refine g_aloadN W (pc' := 47) (D mk_46) rfl rfl (by first | rfl | assumption) ?_
    refine g_iconst W (pc' := 48) (D mk_47) rfl (v := (3 : Int32)) (by decide) ?_
    refine g_iloadN W (pc' := 49) (D mk_48) rfl rfl ?_
    refine g_iloadN W (pc' := 50) (D mk_49) rfl rfl ?_
    refine g_callS W (t_g l hw hEL cst fst W.old Sb (i := 3) (pp := pp) (by decide) hc) (fun x q => nomatch q) (hw _ (List.mem_of_getElem? (i := 28) rfl)) (hw _ (List.mem_of_getElem? (i := 29) rfl)) (hw _ (List.mem_of_getElem? (i := 24) rfl)) (hw _ (List.mem_of_getElem? (i := 30) rfl)) (by decide) (by decide +kernel : parseMethodDescriptor "(Ljava/lang/String;IIC)C" = some ⟨[(.object "java/lang/String"), .int, .int, .char], some .char⟩) (argsL := [_, _, _, _]) rfl rfl (pc' := 53) rfl (by rw [hml]; rfl) (D mk_50) rfl (Wn := 5) (Nat.le_refl _) (by decide) (by decide) (by decide) (by decide) (fun v T h' W hg hQ => ?_)
    obtain ⟨z3, rfl, L3, rfl⟩ := hQ
    refine g_castore W (pc' := 54) (A) (hbz) (i := 3) (by decide) (by decide) (by simp) (L3.1) (L3.w) (D mk_53) rfl (fun T g3 W Kp A' => ?_)
    replace N := N.keepA wi Kp A
    replace KK := KK.trans Kp (own_new hbx)
    replace Sb := Sb.keep wi Kp (A.noStr (by decide))
    replace A := A'
    refine g_dup W (pc' := 55) (D mk_54) rfl rfl ?_
    refine g_iconst W (pc' := 56) (D mk_55) rfl (v := (4 : Int32)) (by decide) ?_
    refine g_aloadN W (pc' := 57) (D mk_56) rfl rfl (by first | rfl | assumption) ?_
    refine g_iconst W (pc' := 58) (D mk_57) rfl (v := (4 : Int32)) (by decide) ?_
    refine g_iloadN W (pc' := 59) (D mk_58) rfl rfl ?_
    refine g_iloadN W (pc' := 60) (D mk_59) rfl rfl ?_
    refine g_callS W (t_g l hw hEL cst fst W.old Sb (i := 4) (pp := pp) (by decide) hc) (fun x q => nomatch q) (hw _ (List.mem_of_getElem? (i := 28) rfl)) (hw _ (List.mem_of_getElem? (i := 29) rfl)) (hw _ (List.mem_of_getElem? (i := 24) rfl)) (hw _ (List.mem_of_getElem? (i := 30) rfl)) (by decide) (by decide +kernel : parseMethodDescriptor "(Ljava/lang/String;IIC)C" = some ⟨[(.object "java/lang/String"), .int, .int, .char], some .char⟩) (argsL := [_, _, _, _]) rfl rfl (pc' := 63) rfl (by rw [hml]; rfl) (D mk_60) rfl (Wn := 5) (Nat.le_refl _) (by decide) (by decide) (by decide) (by decide) (fun v T h' W hg hQ => ?_)
    obtain ⟨z4, rfl, L4, rfl⟩ := hQ
    refine g_castore W (pc' := 64) (A) (hbz) (i := 4) (by decide) (by decide) (by simp) (L4.1) (L4.w) (D mk_63) rfl (fun T g4 W Kp A' => ?_)
    replace N := N.keepA wi Kp A
    replace KK := KK.trans Kp (own_new hbx)
    replace Sb := Sb.keep wi Kp (A.noStr (by decide))
    replace A := A'
    refine g_dup W (pc' := 65) (D mk_64) rfl rfl ?_
    refine g_iconst W (pc' := 66) (D mk_65) rfl (v := (5 : Int32)) (by decide) ?_
    refine g_aloadN W (pc' := 67) (D mk_66) rfl rfl (by first | rfl | assumption) ?_
    refine g_iconst W (pc' := 68) (D mk_67) rfl (v := (5 : Int32)) (by decide) ?_
    refine g_iloadN W (pc' := 69) (D mk_68) rfl rfl ?_
    refine g_iloadN W (pc' := 70) (D mk_69) rfl rfl ?_
    refine g_callS W (t_g l hw hEL cst fst W.old Sb (i := 5) (pp := pp) (by decide) hc) (fun x q => nomatch q) (hw _ (List.mem_of_getElem? (i := 28) rfl)) (hw _ (List.mem_of_getElem? (i := 29) rfl)) (hw _ (List.mem_of_getElem? (i := 24) rfl)) (hw _ (List.mem_of_getElem? (i := 30) rfl)) (by decide) (by decide +kernel : parseMethodDescriptor "(Ljava/lang/String;IIC)C" = some ⟨[(.object "java/lang/String"), .int, .int, .char], some .char⟩) (argsL := [_, _, _, _]) rfl rfl (pc' := 73) rfl (by rw [hml]; rfl) (D mk_70) rfl (Wn := 5) (Nat.le_refl _) (by decide) (by decide) (by decide) (by decide) (fun v T h' W hg hQ => ?_)
    obtain ⟨z5, rfl, L5, rfl⟩ := hQ
    refine g_castore W (pc' := 74) (A) (hbz) (i := 5) (by decide) (by decide) (by simp) (L5.1) (L5.w) (D mk_73) rfl (fun T g5 W Kp A' => ?_)
    replace N := N.keepA wi Kp A
    replace KK := KK.trans Kp (own_new hbx)
    replace Sb := Sb.keep wi Kp (A.noStr (by decide))
    replace A := A'
    refine g_dup W (pc' := 75) (D mk_74) rfl rfl ?_
    refine g_bipush W (pc' := 77) (D mk_75) rfl (v := (6 : Int32)) (by decide) ?_
    refine g_aloadN W (pc' := 78) (D mk_77) rfl rfl (by first | rfl | assumption) ?_
    refine g_bipush W (pc' := 80) (D mk_78) rfl (v := (6 : Int32)) (by decide) ?_
    refine g_iloadN W (pc' := 81) (D mk_80) rfl rfl ?_
    refine g_iloadN W (pc' := 82) (D mk_81) rfl rfl ?_
    refine g_callS W (t_g l hw hEL cst fst W.old Sb (i := 6) (pp := pp) (by decide) hc) (fun x q => nomatch q) (hw _ (List.mem_of_getElem? (i := 28) rfl)) (hw _ (List.mem_of_getElem? (i := 29) rfl)) (hw _ (List.mem_of_getElem? (i := 24) rfl)) (hw _ (List.mem_of_getElem? (i := 30) rfl)) (by decide) (by decide +kernel : parseMethodDescriptor "(Ljava/lang/String;IIC)C" = some ⟨[(.object "java/lang/String"), .int, .int, .char], some .char⟩) (argsL := [_, _, _, _]) rfl rfl (pc' := 85) rfl (by rw [hml]; rfl) (D mk_82) rfl (Wn := 5) (Nat.le_refl _) (by decide) (by decide) (by decide) (by decide) (fun v T h' W hg hQ => ?_)
    obtain ⟨z6, rfl, L6, rfl⟩ := hQ
    refine g_castore W (pc' := 86) (A) (hbz) (i := 6) (by decide) (by decide) (by simp) (L6.1) (L6.w) (D mk_85) rfl (fun T g6 W Kp A' => ?_)
    replace N := N.keepA wi Kp A
    replace KK := KK.trans Kp (own_new hbx)
    replace Sb := Sb.keep wi Kp (A.noStr (by decide))
    replace A := A'
    refine g_dup W (pc' := 87) (D mk_86) rfl rfl ?_
    refine g_bipush W (pc' := 89) (D mk_87) rfl (v := (7 : Int32)) (by decide) ?_
    refine g_aloadN W (pc' := 90) (D mk_89) rfl rfl (by first | rfl | assumption) ?_
    refine g_bipush W (pc' := 92) (D mk_90) rfl (v := (7 : Int32)) (by decide) ?_
    refine g_iloadN W (pc' := 93) (D mk_92) rfl rfl ?_
    refine g_iloadN W (pc' := 94) (D mk_93) rfl rfl ?_
    refine g_callS W (t_g l hw hEL cst fst W.old Sb (i := 7) (pp := pp) (by decide) hc) (fun x q => nomatch q) (hw _ (List.mem_of_getElem? (i := 28) rfl)) (hw _ (List.mem_of_getElem? (i := 29) rfl)) (hw _ (List.mem_of_getElem? (i := 24) rfl)) (hw _ (List.mem_of_getElem? (i := 30) rfl)) (by decide) (by decide +kernel : parseMethodDescriptor "(Ljava/lang/String;IIC)C" = some ⟨[(.object "java/lang/String"), .int, .int, .char], some .char⟩) (argsL := [_, _, _, _]) rfl rfl (pc' := 97) rfl (by rw [hml]; rfl) (D mk_94) rfl (Wn := 5) (Nat.le_refl _) (by decide) (by decide) (by decide) (by decide) (fun v T h' W hg hQ => ?_)
    obtain ⟨z7, rfl, L7, rfl⟩ := hQ
    refine g_castore W (pc' := 98) (A) (hbz) (i := 7) (by decide) (by decide) (by simp) (L7.1) (L7.w) (D mk_97) rfl (fun T g7 W Kp A' => ?_)
    replace N := N.keepA wi Kp A
    replace KK := KK.trans Kp (own_new hbx)
    replace Sb := Sb.keep wi Kp (A.noStr (by decide))
    replace A := A'
    replace A : Ali Z _ b .char (([z0, z1, z2, z3, z4, z5, z6, z7] : List Int32).map Value.int) := A
    refine g_initS W hw cst (N) (A) (Latin.con L0 (Latin.con L1 (Latin.con L2 (Latin.con L3 (Latin.con L4 (Latin.con L5 (Latin.con L6 (Latin.con L7 Latin.nil)))))))) (by show 0 < 8; decide) (by show 8 ≤ 4000; decide) (hw _ (List.mem_of_getElem? (i := 53) rfl)) (pc' := 101) (by rw [hml]; rfl) (D mk_98) rfl (Wn := 1) (Nat.le_refl _) (by decide) (by decide) (by decide) (nn := 8) (Nat.le_refl _) (by decide) (fun T gz W Kp S => ?_)
    replace KK := KK.trans Kp (own_new hx)
    exact g_areturn W (D mk_101) hret rfl rfl (by decide) (by decide) ⟨_, rfl, x, _, rfl, keep_ext KK, S⟩
  · skip
    refine g_iloadN W (pc' := 103) (D mk_102) rfl rfl ?_
    refine g_bipush W (pc' := 105) (D mk_103) rfl (v := (9 : Int32)) (by decide) ?_
    refine g_icmpne W (pc1 := 216) (pc2 := 108) (D mk_105) (by decide) (by decide) rfl (fun b1 => ?_) (fun b1 => ?_)
    rotate_left
    · skip
      have hzh0 := W.old.1
      refine g_newS W (pc' := 111) (hw _ (List.mem_of_getElem? (i := 26) rfl)) wi (hw _ (List.mem_of_getElem? (i := 2) rfl)) (hw _ (List.mem_of_getElem? (i := 5) rfl)) (hw _ (List.mem_of_getElem? (i := 6) rfl)) (D mk_108) rfl (by decide) (by decide) (fun x T ga hx W E1 N => ?_)
      refine g_dup W (pc' := 112) (D mk_111) rfl rfl ?_
      refine g_bipush W (pc' := 114) (D mk_112) rfl (v := (9 : Int32)) (by decide) ?_
      refine g_newarray W (pc' := 116) (ty := .char) rfl (i := 9) (by decide) (by decide) (hw _ (List.mem_of_getElem? (i := 27) rfl)) (D mk_114) rfl (cap := 9) (by decide) (by decide) (by decide) (by decide) (fun b T gb hb0 W E2 A => ?_)
      replace N := (N.mem (fun y q => List.mem_cons_of_mem b q)).ext E2
      replace A : Ali Z gb b .char ((List.replicate 9 (0 : Int32)).map Value.int) := A
      have hbz : Z.heap.size ≤ b := Nat.le_trans hzh0 (Nat.le_trans E1.1 hb0)
      have hbx : h.size ≤ b := Nat.le_trans E1.1 hb0
      have KK : Keep h gb [] := ext_keep (ext_trans E1 E2) []
      replace Sb := (Sb.ext E1).ext E2
      refine g_dup W (pc' := 117) (D mk_116) rfl rfl ?_
      refine g_iconst W (pc' := 118) (D mk_117) rfl (v := (0 : Int32)) (by decide) ?_
      refine g_aloadN W (pc' := 119) (D mk_118) rfl rfl (by first | rfl | assumption) ?_
      refine g_iconst W (pc' := 120) (D mk_119) rfl (v := (0 : Int32)) (by decide) ?_
      refine g_iloadN W (pc' := 121) (D mk_120) rfl rfl ?_
      refine g_iloadN W (pc' := 122) (D mk_121) rfl rfl ?_
      refine g_callS W (t_g l hw hEL cst fst W.old Sb (i := 0) (pp := pp) (by decide) hc) (fun x q => nomatch q) (hw _ (List.mem_of_getElem? (i := 28) rfl)) (hw _ (List.mem_of_getElem? (i := 29) rfl)) (hw _ (List.mem_of_getElem? (i := 24) rfl)) (hw _ (List.mem_of_getElem? (i := 30) rfl)) (by decide) (by decide +kernel : parseMethodDescriptor "(Ljava/lang/String;IIC)C" = some ⟨[(.object "java/lang/String"), .int, .int, .char], some .char⟩) (argsL := [_, _, _, _]) rfl rfl (pc' := 125) rfl (by rw [hml]; rfl) (D mk_122) rfl (Wn := 5) (Nat.le_refl _) (by decide) (by decide) (by decide) (by decide) (fun v T h' W hg hQ => ?_)
      obtain ⟨z0, rfl, L0, rfl⟩ := hQ
      refine g_castore W (pc' := 126) (A) (hbz) (i := 0) (by decide) (by decide) (by simp) (L0.1) (L0.w) (D mk_125) rfl (fun T g0 W Kp A' => ?_)
      replace N := N.keepA wi Kp A
      replace KK := KK.trans Kp (own_new hbx)
      replace Sb := Sb.keep wi Kp (A.noStr (by decide))
      replace A := A'
      refine g_dup W (pc' := 127) (D mk_126) rfl rfl ?_
      refine g_iconst W (pc' := 128) (D mk_127) rfl (v := (1 : Int32)) (by decide) ?_
      refine g_aloadN W (pc' := 129) (D mk_128) rfl rfl (by first | rfl | assumption) ?_
      refine g_iconst W (pc' := 130) (D mk_129) rfl (v := (1 : Int32)) (by decide) ?_
      refine g_iloadN W (pc' := 131) (D mk_130) rfl rfl ?_
      refine g_iloadN W (pc' := 132) (D mk_131) rfl rfl ?_
      refine g_callS W (t_g l hw hEL cst fst W.old Sb (i := 1) (pp := pp) (by decide) hc) (fun x q => nomatch q) (hw _ (List.mem_of_getElem? (i := 28) rfl)) (hw _ (List.mem_of_getElem? (i := 29) rfl)) (hw _ (List.mem_of_getElem? (i := 24) rfl)) (hw _ (List.mem_of_getElem? (i := 30) rfl)) (by decide) (by decide +kernel : parseMethodDescriptor "(Ljava/lang/String;IIC)C" = some ⟨[(.object "java/lang/String"), .int, .int, .char], some .char⟩) (argsL := [_, _, _, _]) rfl rfl (pc' := 135) rfl (by rw [hml]; rfl) (D mk_132) rfl (Wn := 5) (Nat.le_refl _) (by decide) (by decide) (by decide) (by decide) (fun v T h' W hg hQ => ?_)
      obtain ⟨z1, rfl, L1, rfl⟩ := hQ
      refine g_castore W (pc' := 136) (A) (hbz) (i := 1) (by decide) (by decide) (by simp) (L1.1) (L1.w) (D mk_135) rfl (fun T g1 W Kp A' => ?_)
      replace N := N.keepA wi Kp A
      replace KK := KK.trans Kp (own_new hbx)
      replace Sb := Sb.keep wi Kp (A.noStr (by decide))
      replace A := A'
      refine g_dup W (pc' := 137) (D mk_136) rfl rfl ?_
      refine g_iconst W (pc' := 138) (D mk_137) rfl (v := (2 : Int32)) (by decide) ?_
      refine g_aloadN W (pc' := 139) (D mk_138) rfl rfl (by first | rfl | assumption) ?_
      refine g_iconst W (pc' := 140) (D mk_139) rfl (v := (2 : Int32)) (by decide) ?_
      refine g_iloadN W (pc' := 141) (D mk_140) rfl rfl ?_
      refine g_iloadN W (pc' := 142) (D mk_141) rfl rfl ?_
      refine g_callS W (t_g l hw hEL cst fst W.old Sb (i := 2) (pp := pp) (by decide) hc) (fun x q => nomatch q) (hw _ (List.mem_of_getElem? (i := 28) rfl)) (hw _ (List.mem_of_getElem? (i := 29) rfl)) (hw _ (List.mem_of_getElem? (i := 24) rfl)) (hw _ (List.mem_of_getElem? (i := 30) rfl)) (by decide) (by decide +kernel : parseMethodDescriptor "(Ljava/lang/String;IIC)C" = some ⟨[(.object "java/lang/String"), .int, .int, .char], some .char⟩) (argsL := [_, _, _, _]) rfl rfl (pc' := 145) rfl (by rw [hml]; rfl) (D mk_142) rfl (Wn := 5) (Nat.le_refl _) (by decide) (by decide) (by decide) (by decide) (fun v T h' W hg hQ => ?_)
      obtain ⟨z2, rfl, L2, rfl⟩ := hQ
      refine g_castore W (pc' := 146) (A) (hbz) (i := 2) (by decide) (by decide) (by simp) (L2.1) (L2.w) (D mk_145) rfl (fun T g2 W Kp A' => ?_)
      replace N := N.keepA wi Kp A
      replace KK := KK.trans Kp (own_new hbx)
      replace Sb := Sb.keep wi Kp (A.noStr (by decide))
      replace A := A'
      refine g_dup W (pc' := 147) (D mk_146) rfl rfl ?_
      refine g_iconst W (pc' := 148) (D mk_147) rfl (v := (3 : Int32)) (by decide) ?_
      refine g_aloadN W (pc' := 149) (D mk_148) rfl rfl (by first | rfl | assumption) ?_
      refine g_iconst W (pc' := 150) (D mk_149) rfl (v := (3 : Int32)) (by decide) ?_
      refine g_iloadN W (pc' := 151) (D mk_150) rfl rfl ?_
      refine g_iloadN W (pc' := 152) (D mk_151) rfl rfl ?_
      refine g_callS W (t_g l hw hEL cst fst W.old Sb (i := 3) (pp := pp) (by decide) hc) (fun x q => nomatch q) (hw _ (List.mem_of_getElem? (i := 28) rfl)) (hw _ (List.mem_of_getElem? (i := 29) rfl)) (hw _ (List.mem_of_getElem? (i := 24) rfl)) (hw _ (List.mem_of_getElem? (i := 30) rfl)) (by decide) (by decide +kernel : parseMethodDescriptor "(Ljava/lang/String;IIC)C" = some ⟨[(.object "java/lang/String"), .int, .int, .char], some .char⟩) (argsL := [_, _, _, _]) rfl rfl (pc' := 155) rfl (by rw [hml]; rfl) (D mk_152) rfl (Wn := 5) (Nat.le_refl _) (by decide) (by decide) (by decide) (by decide) (fun v T h' W hg hQ => ?_)
      obtain ⟨z3, rfl, L3, rfl⟩ := hQ
      refine g_castore W (pc' := 156) (A) (hbz) (i := 3) (by decide) (by decide) (by simp) (L3.1) (L3.w) (D mk_155) rfl (fun T g3 W Kp A' => ?_)
      replace N := N.keepA wi Kp A
      replace KK := KK.trans Kp (own_new hbx)
      replace Sb := Sb.keep wi Kp (A.noStr (by decide))
      replace A := A'
      refine g_dup W (pc' := 157) (D mk_156) rfl rfl ?_
      refine g_iconst W (pc' := 158) (D mk_157) rfl (v := (4 : Int32)) (by decide) ?_
      refine g_aloadN W (pc' := 159) (D mk_158) rfl rfl (by first | rfl | assumption) ?_
      refine g_iconst W (pc' := 160) (D mk_159) rfl (v := (4 : Int32)) (by decide) ?_
      refine g_iloadN W (pc' := 161) (D mk_160) rfl rfl ?_
      refine g_iloadN W (pc' := 162) (D mk_161) rfl rfl ?_
      refine g_callS W (t_g l hw hEL cst fst W.old Sb (i := 4) (pp := pp) (by decide) hc) (fun x q => nomatch q) (hw _ (List.mem_of_getElem? (i := 28) rfl)) (hw _ (List.mem_of_getElem? (i := 29) rfl)) (hw _ (List.mem_of_getElem? (i := 24) rfl)) (hw _ (List.mem_of_getElem? (i := 30) rfl)) (by decide) (by decide +kernel : parseMethodDescriptor "(Ljava/lang/String;IIC)C" = some ⟨[(.object "java/lang/String"), .int, .int, .char], some .char⟩) (argsL := [_, _, _, _]) rfl rfl (pc' := 165) rfl (by rw [hml]; rfl) (D mk_162) rfl (Wn := 5) (Nat.le_refl _) (by decide) (by decide) (by decide) (by decide) (fun v T h' W hg hQ => ?_)
      obtain ⟨z4, rfl, L4, rfl⟩ := hQ
      refine g_castore W (pc' := 166) (A) (hbz) (i := 4) (by decide) (by decide) (by simp) (L4.1) (L4.w) (D mk_165) rfl (fun T g4 W Kp A' => ?_)
      replace N := N.keepA wi Kp A
      replace KK := KK.trans Kp (own_new hbx)
      replace Sb := Sb.keep wi Kp (A.noStr (by decide))
      replace A := A'
      refine g_dup W (pc' := 167) (D mk_166) rfl rfl ?_
      refine g_iconst W (pc' := 168) (D mk_167) rfl (v := (5 : Int32)) (by decide) ?_
      refine g_aloadN W (pc' := 169) (D mk_168) rfl rfl (by first | rfl | assumption) ?_
      refine g_iconst W (pc' := 170) (D mk_169) rfl (v := (5 : Int32)) (by decide) ?_
      refine g_iloadN W (pc' := 171) (D mk_170) rfl rfl ?_
      refine g_iloadN W (pc' := 172) (D mk_171) rfl rfl ?_
      refine g_callS W (t_g l hw hEL cst fst W.old Sb (i := 5) (pp := pp) (by decide) hc) (fun x q => nomatch q) (hw _ (List.mem_of_getElem? (i := 28) rfl)) (hw _ (List.mem_of_getElem? (i := 29) rfl)) (hw _ (List.mem_of_getElem? (i := 24) rfl)) (hw _ (List.mem_of_getElem? (i := 30) rfl)) (by decide) (by decide +kernel : parseMethodDescriptor "(Ljava/lang/String;IIC)C" = some ⟨[(.object "java/lang/String"), .int, .int, .char], some .char⟩) (argsL := [_, _, _, _]) rfl rfl (pc' := 175) rfl (by rw [hml]; rfl) (D mk_172) rfl (Wn := 5) (Nat.le_refl _) (by decide) (by decide) (by decide) (by decide) (fun v T h' W hg hQ => ?_)
      obtain ⟨z5, rfl, L5, rfl⟩ := hQ
      refine g_castore W (pc' := 176) (A) (hbz) (i := 5) (by decide) (by decide) (by simp) (L5.1) (L5.w) (D mk_175) rfl (fun T g5 W Kp A' => ?_)
      replace N := N.keepA wi Kp A
      replace KK := KK.trans Kp (own_new hbx)
      replace Sb := Sb.keep wi Kp (A.noStr (by decide))
      replace A := A'
      refine g_dup W (pc' := 177) (D mk_176) rfl rfl ?_
      refine g_bipush W (pc' := 179) (D mk_177) rfl (v := (6 : Int32)) (by decide) ?_
      refine g_aloadN W (pc' := 180) (D mk_179) rfl rfl (by first | rfl | assumption) ?_
      refine g_bipush W (pc' := 182) (D mk_180) rfl (v := (6 : Int32)) (by decide) ?_
      refine g_iloadN W (pc' := 183) (D mk_182) rfl rfl ?_
      refine g_iloadN W (pc' := 184) (D mk_183) rfl rfl ?_
      refine g_callS W (t_g l hw hEL cst fst W.old Sb (i := 6) (pp := pp) (by decide) hc) (fun x q => nomatch q) (hw _ (List.mem_of_getElem? (i := 28) rfl)) (hw _ (List.mem_of_getElem? (i := 29) rfl)) (hw _ (List.mem_of_getElem? (i := 24) rfl)) (hw _ (List.mem_of_getElem? (i := 30) rfl)) (by decide) (by decide +kernel : parseMethodDescriptor "(Ljava/lang/String;IIC)C" = some ⟨[(.object "java/lang/String"), .int, .int, .char], some .char⟩) (argsL := [_, _, _, _]) rfl rfl (pc' := 187) rfl (by rw [hml]; rfl) (D mk_184) rfl (Wn := 5) (Nat.le_refl _) (by decide) (by decide) (by decide) (by decide) (fun v T h' W hg hQ => ?_)
      obtain ⟨z6, rfl, L6, rfl⟩ := hQ
      refine g_castore W (pc' := 188) (A) (hbz) (i := 6) (by decide) (by decide) (by simp) (L6.1) (L6.w) (D mk_187) rfl (fun T g6 W Kp A' => ?_)
      replace N := N.keepA wi Kp A
      replace KK := KK.trans Kp (own_new hbx)
      replace Sb := Sb.keep wi Kp (A.noStr (by decide))
      replace A := A'
      refine g_dup W (pc' := 189) (D mk_188) rfl rfl ?_
      refine g_bipush W (pc' := 191) (D mk_189) rfl (v := (7 : Int32)) (by decide) ?_
      refine g_aloadN W (pc' := 192) (D mk_191) rfl rfl (by first | rfl | assumption) ?_
      refine g_bipush W (pc' := 194) (D mk_192) rfl (v := (7 : Int32)) (by decide) ?_
      refine g_iloadN W (pc' := 195) (D mk_194) rfl rfl ?_
      refine g_iloadN W (pc' := 196) (D mk_195) rfl rfl ?_
      refine g_callS W (t_g l hw hEL cst fst W.old Sb (i := 7) (pp := pp) (by decide) hc) (fun x q => nomatch q) (hw _ (List.mem_of_getElem? (i := 28) rfl)) (hw _ (List.mem_of_getElem? (i := 29) rfl)) (hw _ (List.mem_of_getElem? (i := 24) rfl)) (hw _ (List.mem_of_getElem? (i := 30) rfl)) (by decide) (by decide +kernel : parseMethodDescriptor "(Ljava/lang/String;IIC)C" = some ⟨[(.object "java/lang/String"), .int, .int, .char], some .char⟩) (argsL := [_, _, _, _]) rfl rfl (pc' := 199) rfl (by rw [hml]; rfl) (D mk_196) rfl (Wn := 5) (Nat.le_refl _) (by decide) (by decide) (by decide) (by decide) (fun v T h' W hg hQ => ?_)
      obtain ⟨z7, rfl, L7, rfl⟩ := hQ
      refine g_castore W (pc' := 200) (A) (hbz) (i := 7) (by decide) (by decide) (by simp) (L7.1) (L7.w) (D mk_199) rfl (fun T g7 W Kp A' => ?_)
      replace N := N.keepA wi Kp A
      replace KK := KK.trans Kp (own_new hbx)
      replace Sb := Sb.keep wi Kp (A.noStr (by decide))
      replace A := A'
      refine g_dup W (pc' := 201) (D mk_200) rfl rfl ?_
      refine g_bipush W (pc' := 203) (D mk_201) rfl (v := (8 : Int32)) (by decide) ?_
      refine g_aloadN W (pc' := 204) (D mk_203) rfl rfl (by first | rfl | assumption) ?_
      refine g_bipush W (pc' := 206) (D mk_204) rfl (v := (8 : Int32)) (by decide) ?_
      refine g_iloadN W (pc' := 207) (D mk_206) rfl rfl ?_
      refine g_iloadN W (pc' := 208) (D mk_207) rfl rfl ?_
      refine g_callS W (t_g l hw hEL cst fst W.old Sb (i := 8) (pp := pp) (by decide) hc) (fun x q => nomatch q) (hw _ (List.mem_of_getElem? (i := 28) rfl)) (hw _ (List.mem_of_getElem? (i := 29) rfl)) (hw _ (List.mem_of_getElem? (i := 24) rfl)) (hw _ (List.mem_of_getElem? (i := 30) rfl)) (by decide) (by decide +kernel : parseMethodDescriptor "(Ljava/lang/String;IIC)C" = some ⟨[(.object "java/lang/String"), .int, .int, .char], some .char⟩) (argsL := [_, _, _, _]) rfl rfl (pc' := 211) rfl (by rw [hml]; rfl) (D mk_208) rfl (Wn := 5) (Nat.le_refl _) (by decide) (by decide) (by decide) (by decide) (fun v T h' W hg hQ => ?_)
      obtain ⟨z8, rfl, L8, rfl⟩ := hQ
      refine g_castore W (pc' := 212) (A) (hbz) (i := 8) (by decide) (by decide) (by simp) (L8.1) (L8.w) (D mk_211) rfl (fun T g8 W Kp A' => ?_)
      replace N := N.keepA wi Kp A
      replace KK := KK.trans Kp (own_new hbx)
      replace Sb := Sb.keep wi Kp (A.noStr (by decide))
      replace A := A'
      replace A : Ali Z _ b .char (([z0, z1, z2, z3, z4, z5, z6, z7, z8] : List Int32).map Value.int) := A
      refine g_initS W hw cst (N) (A) (Latin.con L0 (Latin.con L1 (Latin.con L2 (Latin.con L3 (Latin.con L4 (Latin.con L5 (Latin.con L6 (Latin.con L7 (Latin.con L8 Latin.nil))))))))) (by show 0 < 9; decide) (by show 9 ≤ 4000; decide) (hw _ (List.mem_of_getElem? (i := 53) rfl)) (pc' := 215) (by rw [hml]; rfl) (D mk_212) rfl (Wn := 1) (Nat.le_refl _) (by decide) (by decide) (by decide) (nn := 9) (Nat.le_refl _) (by decide) (fun T gz W Kp S => ?_)
      replace KK := KK.trans Kp (own_new hx)
      exact g_areturn W (D mk_215) hret rfl rfl (by decide) (by decide) ⟨_, rfl, x, _, rfl, keep_ext KK, S⟩
    · skip
      refine g_iloadN W (pc' := 217) (D mk_216) rfl rfl ?_
      refine g_bipush W (pc' := 219) (D mk_217) rfl (v := (10 : Int32)) (by decide) ?_
      refine g_icmpne W (pc1 := 342) (pc2 := 222) (D mk_219) (by decide) (by decide) rfl (fun b2 => ?_) (fun b2 => ?_)
      rotate_left
      · skip
        have hzh0 := W.old.1
        refine g_newS W (pc' := 225) (hw _ (List.mem_of_getElem? (i := 26) rfl)) wi (hw _ (List.mem_of_getElem? (i := 2) rfl)) (hw _ (List.mem_of_getElem? (i := 5) rfl)) (hw _ (List.mem_of_getElem? (i := 6) rfl)) (D mk_222) rfl (by decide) (by decide) (fun x T ga hx W E1 N => ?_)
        refine g_dup W (pc' := 226) (D mk_225) rfl rfl ?_
        refine g_bipush W (pc' := 228) (D mk_226) rfl (v := (10 : Int32)) (by decide) ?_
        refine g_newarray W (pc' := 230) (ty := .char) rfl (i := 10) (by decide) (by decide) (hw _ (List.mem_of_getElem? (i := 27) rfl)) (D mk_228) rfl (cap := 10) (by decide) (by decide) (by decide) (by decide) (fun b T gb hb0 W E2 A => ?_)
        replace N := (N.mem (fun y q => List.mem_cons_of_mem b q)).ext E2
        replace A : Ali Z gb b .char ((List.replicate 10 (0 : Int32)).map Value.int) := A
        have hbz : Z.heap.size ≤ b := Nat.le_trans hzh0 (Nat.le_trans E1.1 hb0)
        have hbx : h.size ≤ b := Nat.le_trans E1.1 hb0
        have KK : Keep h gb [] := ext_keep (ext_trans E1 E2) []
        replace Sb := (Sb.ext E1).ext E2
        refine g_dup W (pc' := 231) (D mk_230) rfl rfl ?_
        refine g_iconst W (pc' := 232) (D mk_231) rfl (v := (0 : Int32)) (by decide) ?_
        refine g_aloadN W (pc' := 233) (D mk_232) rfl rfl (by first | rfl | assumption) ?_
        refine g_iconst W (pc' := 234) (D mk_233) rfl (v := (0 : Int32)) (by decide) ?_
        refine g_iloadN W (pc' := 235) (D mk_234) rfl rfl ?_
        refine g_iloadN W (pc' := 236) (D mk_235) rfl rfl ?_
        refine g_callS W (t_g l hw hEL cst fst W.old Sb (i := 0) (pp := pp) (by decide) hc) (fun x q => nomatch q) (hw _ (List.mem_of_getElem? (i := 28) rfl)) (hw _ (List.mem_of_getElem? (i := 29) rfl)) (hw _ (List.mem_of_getElem? (i := 24) rfl)) (hw _ (List.mem_of_getElem? (i := 30) rfl)) (by decide) (by decide +kernel : parseMethodDescriptor "(Ljava/lang/String;IIC)C" = some ⟨[(.object "java/lang/String"), .int, .int, .char], some .char⟩) (argsL := [_, _, _, _]) rfl rfl (pc' := 239) rfl (by rw [hml]; rfl) (D mk_236) rfl (Wn := 5) (Nat.le_refl _) (by decide) (by decide) (by decide) (by decide) (fun v T h' W hg hQ => ?_)
        obtain ⟨z0, rfl, L0, rfl⟩ := hQ
        refine g_castore W (pc' := 240) (A) (hbz) (i := 0) (by decide) (by decide) (by simp) (L0.1) (L0.w) (D mk_239) rfl (fun T g0 W Kp A' => ?_)
        replace N := N.keepA wi Kp A
        replace KK := KK.trans Kp (own_new hbx)
        replace Sb := Sb.keep wi Kp (A.noStr (by decide))
        replace A := A'
        refine g_dup W (pc' := 241) (D mk_240) rfl rfl ?_
        refine g_iconst W (pc' := 242) (D mk_241) rfl (v := (1 : Int32)) (by decide) ?_
        refine g_aloadN W (pc' := 243) (D mk_242) rfl rfl (by first | rfl | assumption) ?_
        refine g_iconst W (pc' := 244) (D mk_243) rfl (v := (1 : Int32)) (by decide) ?_
        refine g_iloadN W (pc' := 245) (D mk_244) rfl rfl ?_
        refine g_iloadN W (pc' := 246) (D mk_245) rfl rfl ?_
        refine g_callS W (t_g l hw hEL cst fst W.old Sb (i := 1) (pp := pp) (by decide) hc) (fun x q => nomatch q) (hw _ (List.mem_of_getElem? (i := 28) rfl)) (hw _ (List.mem_of_getElem? (i := 29) rfl)) (hw _ (List.mem_of_getElem? (i := 24) rfl)) (hw _ (List.mem_of_getElem? (i := 30) rfl)) (by decide) (by decide +kernel : parseMethodDescriptor "(Ljava/lang/String;IIC)C" = some ⟨[(.object "java/lang/String"), .int, .int, .char], some .char⟩) (argsL := [_, _, _, _]) rfl rfl (pc' := 249) rfl (by rw [hml]; rfl) (D mk_246) rfl (Wn := 5) (Nat.le_refl _) (by decide) (by decide) (by decide) (by decide) (fun v T h' W hg hQ => ?_)
        obtain ⟨z1, rfl, L1, rfl⟩ := hQ
        refine g_castore W (pc' := 250) (A) (hbz) (i := 1) (by decide) (by decide) (by simp) (L1.1) (L1.w) (D mk_249) rfl (fun T g1 W Kp A' => ?_)
        replace N := N.keepA wi Kp A
        replace KK := KK.trans Kp (own_new hbx)
        replace Sb := Sb.keep wi Kp (A.noStr (by decide))
        replace A := A'
        refine g_dup W (pc' := 251) (D mk_250) rfl rfl ?_
        refine g_iconst W (pc' := 252) (D mk_251) rfl (v := (2 : Int32)) (by decide) ?_
        refine g_aloadN W (pc' := 253) (D mk_252) rfl rfl (by first | rfl | assumption) ?_
        refine g_iconst W (pc' := 254) (D mk_253) rfl (v := (2 : Int32)) (by decide) ?_
        refine g_iloadN W (pc' := 255) (D mk_254) rfl rfl ?_
        refine g_iloadN W (pc' := 256) (D mk_255) rfl rfl ?_
        refine g_callS W (t_g l hw hEL cst fst W.old Sb (i := 2) (pp := pp) (by decide) hc) (fun x q => nomatch q) (hw _ (List.mem_of_getElem? (i := 28) rfl)) (hw _ (List.mem_of_getElem? (i := 29) rfl)) (hw _ (List.mem_of_getElem? (i := 24) rfl)) (hw _ (List.mem_of_getElem? (i := 30) rfl)) (by decide) (by decide +kernel : parseMethodDescriptor "(Ljava/lang/String;IIC)C" = some ⟨[(.object "java/lang/String"), .int, .int, .char], some .char⟩) (argsL := [_, _, _, _]) rfl rfl (pc' := 259) rfl (by rw [hml]; rfl) (D mk_256) rfl (Wn := 5) (Nat.le_refl _) (by decide) (by decide) (by decide) (by decide) (fun v T h' W hg hQ => ?_)
        obtain ⟨z2, rfl, L2, rfl⟩ := hQ
        refine g_castore W (pc' := 260) (A) (hbz) (i := 2) (by decide) (by decide) (by simp) (L2.1) (L2.w) (D mk_259) rfl (fun T g2 W Kp A' => ?_)
        replace N := N.keepA wi Kp A
        replace KK := KK.trans Kp (own_new hbx)
        replace Sb := Sb.keep wi Kp (A.noStr (by decide))
        replace A := A'
        refine g_dup W (pc' := 261) (D mk_260) rfl rfl ?_
        refine g_iconst W (pc' := 262) (D mk_261) rfl (v := (3 : Int32)) (by decide) ?_
        refine g_aloadN W (pc' := 263) (D mk_262) rfl rfl (by first | rfl | assumption) ?_
        refine g_iconst W (pc' := 264) (D mk_263) rfl (v := (3 : Int32)) (by decide) ?_
        refine g_iloadN W (pc' := 265) (D mk_264) rfl rfl ?_
        refine g_iloadN W (pc' := 266) (D mk_265) rfl rfl ?_
        refine g_callS W (t_g l hw hEL cst fst W.old Sb (i := 3) (pp := pp) (by decide) hc) (fun x q => nomatch q) (hw _ (List.mem_of_getElem? (i := 28) rfl)) (hw _ (List.mem_of_getElem? (i := 29) rfl)) (hw _ (List.mem_of_getElem? (i := 24) rfl)) (hw _ (List.mem_of_getElem? (i := 30) rfl)) (by decide) (by decide +kernel : parseMethodDescriptor "(Ljava/lang/String;IIC)C" = some ⟨[(.object "java/lang/String"), .int, .int, .char], some .char⟩) (argsL := [_, _, _, _]) rfl rfl (pc' := 269) rfl (by rw [hml]; rfl) (D mk_266) rfl (Wn := 5) (Nat.le_refl _) (by decide) (by decide) (by decide) (by decide) (fun v T h' W hg hQ => ?_)
        obtain ⟨z3, rfl, L3, rfl⟩ := hQ
        refine g_castore W (pc' := 270) (A) (hbz) (i := 3) (by decide) (by decide) (by simp) (L3.1) (L3.w) (D mk_269) rfl (fun T g3 W Kp A' => ?_)
        replace N := N.keepA wi Kp A
        replace KK := KK.trans Kp (own_new hbx)
        replace Sb := Sb.keep wi Kp (A.noStr (by decide))
        replace A := A'
        refine g_dup W (pc' := 271) (D mk_270) rfl rfl ?_
        refine g_iconst W (pc' := 272) (D mk_271) rfl (v := (4 : Int32)) (by decide) ?_
        refine g_aloadN W (pc' := 273) (D mk_272) rfl rfl (by first | rfl | assumption) ?_
        refine g_iconst W (pc' := 274) (D mk_273) rfl (v := (4 : Int32)) (by decide) ?_
        refine g_iloadN W (pc' := 275) (D mk_274) rfl rfl ?_
        refine g_iloadN W (pc' := 276) (D mk_275) rfl rfl ?_
        refine g_callS W (t_g l hw hEL cst fst W.old Sb (i := 4) (pp := pp) (by decide) hc) (fun x q => nomatch q) (hw _ (List.mem_of_getElem? (i := 28) rfl)) (hw _ (List.mem_of_getElem? (i := 29) rfl)) (hw _ (List.mem_of_getElem? (i := 24) rfl)) (hw _ (List.mem_of_getElem? (i := 30) rfl)) (by decide) (by decide +kernel : parseMethodDescriptor "(Ljava/lang/String;IIC)C" = some ⟨[(.object "java/lang/String"), .int, .int, .char], some .char⟩) (argsL := [_, _, _, _]) rfl rfl (pc' := 279) rfl (by rw [hml]; rfl) (D mk_276) rfl (Wn := 5) (Nat.le_refl _) (by decide) (by decide) (by decide) (by decide) (fun v T h' W hg hQ => ?_)
        obtain ⟨z4, rfl, L4, rfl⟩ := hQ
        refine g_castore W (pc' := 280) (A) (hbz) (i := 4) (by decide) (by decide) (by simp) (L4.1) (L4.w) (D mk_279) rfl (fun T g4 W Kp A' => ?_)
        replace N := N.keepA wi Kp A
        replace KK := KK.trans Kp (own_new hbx)
        replace Sb := Sb.keep wi Kp (A.noStr (by decide))
        replace A := A'
        refine g_dup W (pc' := 281) (D mk_280) rfl rfl ?_
        refine g_iconst W (pc' := 282) (D mk_281) rfl (v := (5 : Int32)) (by decide) ?_
        refine g_aloadN W (pc' := 283) (D mk_282) rfl rfl (by first | rfl | assumption) ?_
        refine g_iconst W (pc' := 284) (D mk_283) rfl (v := (5 : Int32)) (by decide) ?_
        refine g_iloadN W (pc' := 285) (D mk_284) rfl rfl ?_
        refine g_iloadN W (pc' := 286) (D mk_285) rfl rfl ?_
        refine g_callS W (t_g l hw hEL cst fst W.old Sb (i := 5) (pp := pp) (by decide) hc) (fun x q => nomatch q) (hw _ (List.mem_of_getElem? (i := 28) rfl)) (hw _ (List.mem_of_getElem? (i := 29) rfl)) (hw _ (List.mem_of_getElem? (i := 24) rfl)) (hw _ (List.mem_of_getElem? (i := 30) rfl)) (by decide) (by decide +kernel : parseMethodDescriptor "(Ljava/lang/String;IIC)C" = some ⟨[(.object "java/lang/String"), .int, .int, .char], some .char⟩) (argsL := [_, _, _, _]) rfl rfl (pc' := 289) rfl (by rw [hml]; rfl) (D mk_286) rfl (Wn := 5) (Nat.le_refl _) (by decide) (by decide) (by decide) (by decide) (fun v T h' W hg hQ => ?_)
        obtain ⟨z5, rfl, L5, rfl⟩ := hQ
        refine g_castore W (pc' := 290) (A) (hbz) (i := 5) (by decide) (by decide) (by simp) (L5.1) (L5.w) (D mk_289) rfl (fun T g5 W Kp A' => ?_)
        replace N := N.keepA wi Kp A
        replace KK := KK.trans Kp (own_new hbx)
        replace Sb := Sb.keep wi Kp (A.noStr (by decide))
        replace A := A'
        refine g_dup W (pc' := 291) (D mk_290) rfl rfl ?_
        refine g_bipush W (pc' := 293) (D mk_291) rfl (v := (6 : Int32)) (by decide) ?_
        refine g_aloadN W (pc' := 294) (D mk_293) rfl rfl (by first | rfl | assumption) ?_
        refine g_bipush W (pc' := 296) (D mk_294) rfl (v := (6 : Int32)) (by decide) ?_
        refine g_iloadN W (pc' := 297) (D mk_296) rfl rfl ?_
        refine g_iloadN W (pc' := 298) (D mk_297) rfl rfl ?_
        refine g_callS W (t_g l hw hEL cst fst W.old Sb (i := 6) (pp := pp) (by decide) hc) (fun x q => nomatch q) (hw _ (List.mem_of_getElem? (i := 28) rfl)) (hw _ (List.mem_of_getElem? (i := 29) rfl)) (hw _ (List.mem_of_getElem? (i := 24) rfl)) (hw _ (List.mem_of_getElem? (i := 30) rfl)) (by decide) (by decide +kernel : parseMethodDescriptor "(Ljava/lang/String;IIC)C" = some ⟨[(.object "java/lang/String"), .int, .int, .char], some .char⟩) (argsL := [_, _, _, _]) rfl rfl (pc' := 301) rfl (by rw [hml]; rfl) (D mk_298) rfl (Wn := 5) (Nat.le_refl _) (by decide) (by decide) (by decide) (by decide) (fun v T h' W hg hQ => ?_)
        obtain ⟨z6, rfl, L6, rfl⟩ := hQ
        refine g_castore W (pc' := 302) (A) (hbz) (i := 6) (by decide) (by decide) (by simp) (L6.1) (L6.w) (D mk_301) rfl (fun T g6 W Kp A' => ?_)
        replace N := N.keepA wi Kp A
        replace KK := KK.trans Kp (own_new hbx)
        replace Sb := Sb.keep wi Kp (A.noStr (by decide))
        replace A := A'
        refine g_dup W (pc' := 303) (D mk_302) rfl rfl ?_
        refine g_bipush W (pc' := 305) (D mk_303) rfl (v := (7 : Int32)) (by decide) ?_
        refine g_aloadN W (pc' := 306) (D mk_305) rfl rfl (by first | rfl | assumption) ?_
        refine g_bipush W (pc' := 308) (D mk_306) rfl (v := (7 : Int32)) (by decide) ?_
        refine g_iloadN W (pc' := 309) (D mk_308) rfl rfl ?_
        refine g_iloadN W (pc' := 310) (D mk_309) rfl rfl ?_
        refine g_callS W (t_g l hw hEL cst fst W.old Sb (i := 7) (pp := pp) (by decide) hc) (fun x q => nomatch q) (hw _ (List.mem_of_getElem? (i := 28) rfl)) (hw _ (List.mem_of_getElem? (i := 29) rfl)) (hw _ (List.mem_of_getElem? (i := 24) rfl)) (hw _ (List.mem_of_getElem? (i := 30) rfl)) (by decide) (by decide +kernel : parseMethodDescriptor "(Ljava/lang/String;IIC)C" = some ⟨[(.object "java/lang/String"), .int, .int, .char], some .char⟩) (argsL := [_, _, _, _]) rfl rfl (pc' := 313) rfl (by rw [hml]; rfl) (D mk_310) rfl (Wn := 5) (Nat.le_refl _) (by decide) (by decide) (by decide) (by decide) (fun v T h' W hg hQ => ?_)
        obtain ⟨z7, rfl, L7, rfl⟩ := hQ
        refine g_castore W (pc' := 314) (A) (hbz) (i := 7) (by decide) (by decide) (by simp) (L7.1) (L7.w) (D mk_313) rfl (fun T g7 W Kp A' => ?_)
        replace N := N.keepA wi Kp A
        replace KK := KK.trans Kp (own_new hbx)
        replace Sb := Sb.keep wi Kp (A.noStr (by decide))
        replace A := A'
        refine g_dup W (pc' := 315) (D mk_314) rfl rfl ?_
        refine g_bipush W (pc' := 317) (D mk_315) rfl (v := (8 : Int32)) (by decide) ?_
        refine g_aloadN W (pc' := 318) (D mk_317) rfl rfl (by first | rfl | assumption) ?_
        refine g_bipush W (pc' := 320) (D mk_318) rfl (v := (8 : Int32)) (by decide) ?_
        refine g_iloadN W (pc' := 321) (D mk_320) rfl rfl ?_
        refine g_iloadN W (pc' := 322) (D mk_321) rfl rfl ?_
        refine g_callS W (t_g l hw hEL cst fst W.old Sb (i := 8) (pp := pp) (by decide) hc) (fun x q => nomatch q) (hw _ (List.mem_of_getElem? (i := 28) rfl)) (hw _ (List.mem_of_getElem? (i := 29) rfl)) (hw _ (List.mem_of_getElem? (i := 24) rfl)) (hw _ (List.mem_of_getElem? (i := 30) rfl)) (by decide) (by decide +kernel : parseMethodDescriptor "(Ljava/lang/String;IIC)C" = some ⟨[(.object "java/lang/String"), .int, .int, .char], some .char⟩) (argsL := [_, _, _, _]) rfl rfl (pc' := 325) rfl (by rw [hml]; rfl) (D mk_322) rfl (Wn := 5) (Nat.le_refl _) (by decide) (by decide) (by decide) (by decide) (fun v T h' W hg hQ => ?_)
        obtain ⟨z8, rfl, L8, rfl⟩ := hQ
        refine g_castore W (pc' := 326) (A) (hbz) (i := 8) (by decide) (by decide) (by simp) (L8.1) (L8.w) (D mk_325) rfl (fun T g8 W Kp A' => ?_)
        replace N := N.keepA wi Kp A
        replace KK := KK.trans Kp (own_new hbx)
        replace Sb := Sb.keep wi Kp (A.noStr (by decide))
        replace A := A'
        refine g_dup W (pc' := 327) (D mk_326) rfl rfl ?_
        refine g_bipush W (pc' := 329) (D mk_327) rfl (v := (9 : Int32)) (by decide) ?_
        refine g_aloadN W (pc' := 330) (D mk_329) rfl rfl (by first | rfl | assumption) ?_
        refine g_bipush W (pc' := 332) (D mk_330) rfl (v := (9 : Int32)) (by decide) ?_
        refine g_iloadN W (pc' := 333) (D mk_332) rfl rfl ?_
        refine g_iloadN W (pc' := 334) (D mk_333) rfl rfl ?_
        refine g_callS W (t_g l hw hEL cst fst W.old Sb (i := 9) (pp := pp) (by decide) hc) (fun x q => nomatch q) (hw _ (List.mem_of_getElem? (i := 28) rfl)) (hw _ (List.mem_of_getElem? (i := 29) rfl)) (hw _ (List.mem_of_getElem? (i := 24) rfl)) (hw _ (List.mem_of_getElem? (i := 30) rfl)) (by decide) (by decide +kernel : parseMethodDescriptor "(Ljava/lang/String;IIC)C" = some ⟨[(.object "java/lang/String"), .int, .int, .char], some .char⟩) (argsL := [_, _, _, _]) rfl rfl (pc' := 337) rfl (by rw [hml]; rfl) (D mk_334) rfl (Wn := 5) (Nat.le_refl _) (by decide) (by decide) (by decide) (by decide) (fun v T h' W hg hQ => ?_)
        obtain ⟨z9, rfl, L9, rfl⟩ := hQ
        refine g_castore W (pc' := 338) (A) (hbz) (i := 9) (by decide) (by decide) (by simp) (L9.1) (L9.w) (D mk_337) rfl (fun T g9 W Kp A' => ?_)
        replace N := N.keepA wi Kp A
        replace KK := KK.trans Kp (own_new hbx)
        replace Sb := Sb.keep wi Kp (A.noStr (by decide))
        replace A := A'
        replace A : Ali Z _ b .char (([z0, z1, z2, z3, z4, z5, z6, z7, z8, z9] : List Int32).map Value.int) := A
        refine g_initS W hw cst (N) (A) (Latin.con L0 (Latin.con L1 (Latin.con L2 (Latin.con L3 (Latin.con L4 (Latin.con L5 (Latin.con L6 (Latin.con L7 (Latin.con L8 (Latin.con L9 Latin.nil)))))))))) (by show 0 < 10; decide) (by show 10 ≤ 4000; decide) (hw _ (List.mem_of_getElem? (i := 53) rfl)) (pc' := 341) (by rw [hml]; rfl) (D mk_338) rfl (Wn := 1) (Nat.le_refl _) (by decide) (by decide) (by decide) (nn := 10) (Nat.le_refl _) (by decide) (fun T gz W Kp S => ?_)
        replace KK := KK.trans Kp (own_new hx)
        exact g_areturn W (D mk_341) hret rfl rfl (by decide) (by decide) ⟨_, rfl, x, _, rfl, keep_ext KK, S⟩
      · skip
        refine g_iloadN W (pc' := 343) (D mk_342) rfl rfl ?_
        refine g_bipush W (pc' := 345) (D mk_343) rfl (v := (11 : Int32)) (by decide) ?_
        refine g_icmpne W (pc1 := 480) (pc2 := 348) (D mk_345) (by decide) (by decide) rfl (fun b3 => ?_) (fun b3 => ?_)
        rotate_left
        · skip
          have hzh0 := W.old.1
          refine g_newS W (pc' := 351) (hw _ (List.mem_of_getElem? (i := 26) rfl)) wi (hw _ (List.mem_of_getElem? (i := 2) rfl)) (hw _ (List.mem_of_getElem? (i := 5) rfl)) (hw _ (List.mem_of_getElem? (i := 6) rfl)) (D mk_348) rfl (by decide) (by decide) (fun x T ga hx W E1 N => ?_)
          refine g_dup W (pc' := 352) (D mk_351) rfl rfl ?_
          refine g_bipush W (pc' := 354) (D mk_352) rfl (v := (11 : Int32)) (by decide) ?_
          refine g_newarray W (pc' := 356) (ty := .char) rfl (i := 11) (by decide) (by decide) (hw _ (List.mem_of_getElem? (i := 27) rfl)) (D mk_354) rfl (cap := 11) (by decide) (by decide) (by decide) (by decide) (fun b T gb hb0 W E2 A => ?_)
          replace N := (N.mem (fun y q => List.mem_cons_of_mem b q)).ext E2
          replace A : Ali Z gb b .char ((List.replicate 11 (0 : Int32)).map Value.int) := A
          have hbz : Z.heap.size ≤ b := Nat.le_trans hzh0 (Nat.le_trans E1.1 hb0)
          have hbx : h.size ≤ b := Nat.le_trans E1.1 hb0
          have KK : Keep h gb [] := ext_keep (ext_trans E1 E2) []
          replace Sb := (Sb.ext E1).ext E2
          refine g_dup W (pc' := 357) (D mk_356) rfl rfl ?_
          refine g_iconst W (pc' := 358) (D mk_357) rfl (v := (0 : Int32)) (by decide) ?_
          refine g_aloadN W (pc' := 359) (D mk_358) rfl rfl (by first | rfl | assumption) ?_
          refine g_iconst W (pc' := 360) (D mk_359) rfl (v := (0 : Int32)) (by decide) ?_
          refine g_iloadN W (pc' := 361) (D mk_360) rfl rfl ?_
          refine g_iloadN W (pc' := 362) (D mk_361) rfl rfl ?_
          refine g_callS W (t_g l hw hEL cst fst W.old Sb (i := 0) (pp := pp) (by decide) hc) (fun x q => nomatch q) (hw _ (List.mem_of_getElem? (i := 28) rfl)) (hw _ (List.mem_of_getElem? (i := 29) rfl)) (hw _ (List.mem_of_getElem? (i := 24) rfl)) (hw _ (List.mem_of_getElem? (i := 30) rfl)) (by decide) (by decide +kernel : parseMethodDescriptor "(Ljava/lang/String;IIC)C" = some ⟨[(.object "java/lang/String"), .int, .int, .char], some .char⟩) (argsL := [_, _, _, _]) rfl rfl (pc' := 365) rfl (by rw [hml]; rfl) (D mk_362) rfl (Wn := 5) (Nat.le_refl _) (by decide) (by decide) (by decide) (by decide) (fun v T h' W hg hQ => ?_)
          obtain ⟨z0, rfl, L0, rfl⟩ := hQ
          refine g_castore W (pc' := 366) (A) (hbz) (i := 0) (by decide) (by decide) (by simp) (L0.1) (L0.w) (D mk_365) rfl (fun T g0 W Kp A' => ?_)
          replace N := N.keepA wi Kp A
          replace KK := KK.trans Kp (own_new hbx)
          replace Sb := Sb.keep wi Kp (A.noStr (by decide))
          replace A := A'
          refine g_dup W (pc' := 367) (D mk_366) rfl rfl ?_
          refine g_iconst W (pc' := 368) (D mk_367) rfl (v := (1 : Int32)) (by decide) ?_
          refine g_aloadN W (pc' := 369) (D mk_368) rfl rfl (by first | rfl | assumption) ?_
          refine g_iconst W (pc' := 370) (D mk_369) rfl (v := (1 : Int32)) (by decide) ?_
          refine g_iloadN W (pc' := 371) (D mk_370) rfl rfl ?_
          refine g_iloadN W (pc' := 372) (D mk_371) rfl rfl ?_
          refine g_callS W (t_g l hw hEL cst fst W.old Sb (i := 1) (pp := pp) (by decide) hc) (fun x q => nomatch q) (hw _ (List.mem_of_getElem? (i := 28) rfl)) (hw _ (List.mem_of_getElem? (i := 29) rfl)) (hw _ (List.mem_of_getElem? (i := 24) rfl)) (hw _ (List.mem_of_getElem? (i := 30) rfl)) (by decide) (by decide +kernel : parseMethodDescriptor "(Ljava/lang/String;IIC)C" = some ⟨[(.object "java/lang/String"), .int, .int, .char], some .char⟩) (argsL := [_, _, _, _]) rfl rfl (pc' := 375) rfl (by rw [hml]; rfl) (D mk_372) rfl (Wn := 5) (Nat.le_refl _) (by decide) (by decide) (by decide) (by decide) (fun v T h' W hg hQ => ?_)
          obtain ⟨z1, rfl, L1, rfl⟩ := hQ
          refine g_castore W (pc' := 376) (A) (hbz) (i := 1) (by decide) (by decide) (by simp) (L1.1) (L1.w) (D mk_375) rfl (fun T g1 W Kp A' => ?_)
          replace N := N.keepA wi Kp A
          replace KK := KK.trans Kp (own_new hbx)
          replace Sb := Sb.keep wi Kp (A.noStr (by decide))
          replace A := A'
          refine g_dup W (pc' := 377) (D mk_376) rfl rfl ?_
          refine g_iconst W (pc' := 378) (D mk_377) rfl (v := (2 : Int32)) (by decide) ?_
          refine g_aloadN W (pc' := 379) (D mk_378) rfl rfl (by first | rfl | assumption) ?_
          refine g_iconst W (pc' := 380) (D mk_379) rfl (v := (2 : Int32)) (by decide) ?_
          refine g_iloadN W (pc' := 381) (D mk_380) rfl rfl ?_
          refine g_iloadN W (pc' := 382) (D mk_381) rfl rfl ?_
          refine g_callS W (t_g l hw hEL cst fst W.old Sb (i := 2) (pp := pp) (by decide) hc) (fun x q => nomatch q) (hw _ (List.mem_of_getElem? (i := 28) rfl)) (hw _ (List.mem_of_getElem? (i := 29) rfl)) (hw _ (List.mem_of_getElem? (i := 24) rfl)) (hw _ (List.mem_of_getElem? (i := 30) rfl)) (by decide) (by decide +kernel : parseMethodDescriptor "(Ljava/lang/String;IIC)C" = some ⟨[(.object "java/lang/String"), .int, .int, .char], some .char⟩) (argsL := [_, _, _, _]) rfl rfl (pc' := 385) rfl (by rw [hml]; rfl) (D mk_382) rfl (Wn := 5) (Nat.le_refl _) (by decide) (by decide) (by decide) (by decide) (fun v T h' W hg hQ => ?_)
          obtain ⟨z2, rfl, L2, rfl⟩ := hQ
          refine g_castore W (pc' := 386) (A) (hbz) (i := 2) (by decide) (by decide) (by simp) (L2.1) (L2.w) (D mk_385) rfl (fun T g2 W Kp A' => ?_)
          replace N := N.keepA wi Kp A
          replace KK := KK.trans Kp (own_new hbx)
          replace Sb := Sb.keep wi Kp (A.noStr (by decide))
          replace A := A'
          refine g_dup W (pc' := 387) (D mk_386) rfl rfl ?_
          refine g_iconst W (pc' := 388) (D mk_387) rfl (v := (3 : Int32)) (by decide) ?_
          refine g_aloadN W (pc' := 389) (D mk_388) rfl rfl (by first | rfl | assumption) ?_
          refine g_iconst W (pc' := 390) (D mk_389) rfl (v := (3 : Int32)) (by decide) ?_
          refine g_iloadN W (pc' := 391) (D mk_390) rfl rfl ?_
          refine g_iloadN W (pc' := 392) (D mk_391) rfl rfl ?_
          refine g_callS W (t_g l hw hEL cst fst W.old Sb (i := 3) (pp := pp) (by decide) hc) (fun x q => nomatch q) (hw _ (List.mem_of_getElem? (i := 28) rfl)) (hw _ (List.mem_of_getElem? (i := 29) rfl)) (hw _ (List.mem_of_getElem? (i := 24) rfl)) (hw _ (List.mem_of_getElem? (i := 30) rfl)) (by decide) (by decide +kernel : parseMethodDescriptor "(Ljava/lang/String;IIC)C" = some ⟨[(.object "java/lang/String"), .int, .int, .char], some .char⟩) (argsL := [_, _, _, _]) rfl rfl (pc' := 395) rfl (by rw [hml]; rfl) (D mk_392) rfl (Wn := 5) (Nat.le_refl _) (by decide) (by decide) (by decide) (by decide) (fun v T h' W hg hQ => ?_)
          obtain ⟨z3, rfl, L3, rfl⟩ := hQ
          refine g_castore W (pc' := 396) (A) (hbz) (i := 3) (by decide) (by decide) (by simp) (L3.1) (L3.w) (D mk_395) rfl (fun T g3 W Kp A' => ?_)
          replace N := N.keepA wi Kp A
          replace KK := KK.trans Kp (own_new hbx)
          replace Sb := Sb.keep wi Kp (A.noStr (by decide))
          replace A := A'
          refine g_dup W (pc' := 397) (D mk_396) rfl rfl ?_
          refine g_iconst W (pc' := 398) (D mk_397) rfl (v := (4 : Int32)) (by decide) ?_
          refine g_aloadN W (pc' := 399) (D mk_398) rfl rfl (by first | rfl | assumption) ?_
          refine g_iconst W (pc' := 400) (D mk_399) rfl (v := (4 : Int32)) (by decide) ?_
          refine g_iloadN W (pc' := 401) (D mk_400) rfl rfl ?_
          refine g_iloadN W (pc' := 402) (D mk_401) rfl rfl ?_
          refine g_callS W (t_g l hw hEL cst fst W.old Sb (i := 4) (pp := pp) (by decide) hc) (fun x q => nomatch q) (hw _ (List.mem_of_getElem? (i := 28) rfl)) (hw _ (List.mem_of_getElem? (i := 29) rfl)) (hw _ (List.mem_of_getElem? (i := 24) rfl)) (hw _ (List.mem_of_getElem? (i := 30) rfl)) (by decide) (by decide +kernel : parseMethodDescriptor "(Ljava/lang/String;IIC)C" = some ⟨[(.object "java/lang/String"), .int, .int, .char], some .char⟩) (argsL := [_, _, _, _]) rfl rfl (pc' := 405) rfl (by rw [hml]; rfl) (D mk_402) rfl (Wn := 5) (Nat.le_refl _) (by decide) (by decide) (by decide) (by decide) (fun v T h' W hg hQ => ?_)
          obtain ⟨z4, rfl, L4, rfl⟩ := hQ
          refine g_castore W (pc' := 406) (A) (hbz) (i := 4) (by decide) (by decide) (by simp) (L4.1) (L4.w) (D mk_405) rfl (fun T g4 W Kp A' => ?_)
          replace N := N.keepA wi Kp A
          replace KK := KK.trans Kp (own_new hbx)
          replace Sb := Sb.keep wi Kp (A.noStr (by decide))
          replace A := A'
          refine g_dup W (pc' := 407) (D mk_406) rfl rfl ?_
          refine g_iconst W (pc' := 408) (D mk_407) rfl (v := (5 : Int32)) (by decide) ?_
          refine g_aloadN W (pc' := 409) (D mk_408) rfl rfl (by first | rfl | assumption) ?_
          refine g_iconst W (pc' := 410) (D mk_409) rfl (v := (5 : Int32)) (by decide) ?_
          refine g_iloadN W (pc' := 411) (D mk_410) rfl rfl ?_
          refine g_iloadN W (pc' := 412) (D mk_411) rfl rfl ?_
          refine g_callS W (t_g l hw hEL cst fst W.old Sb (i := 5) (pp := pp) (by decide) hc) (fun x q => nomatch q) (hw _ (List.mem_of_getElem? (i := 28) rfl)) (hw _ (List.mem_of_getElem? (i := 29) rfl)) (hw _ (List.mem_of_getElem? (i := 24) rfl)) (hw _ (List.mem_of_getElem? (i := 30) rfl)) (by decide) (by decide +kernel : parseMethodDescriptor "(Ljava/lang/String;IIC)C" = some ⟨[(.object "java/lang/String"), .int, .int, .char], some .char⟩) (argsL := [_, _, _, _]) rfl rfl (pc' := 415) rfl (by rw [hml]; rfl) (D mk_412) rfl (Wn := 5) (Nat.le_refl _) (by decide) (by decide) (by decide) (by decide) (fun v T h' W hg hQ => ?_)
          obtain ⟨z5, rfl, L5, rfl⟩ := hQ
          refine g_castore W (pc' := 416) (A) (hbz) (i := 5) (by decide) (by decide) (by simp) (L5.1) (L5.w) (D mk_415) rfl (fun T g5 W Kp A' => ?_)
          replace N := N.keepA wi Kp A
          replace KK := KK.trans Kp (own_new hbx)
          replace Sb := Sb.keep wi Kp (A.noStr (by decide))
          replace A := A'
          refine g_dup W (pc' := 417) (D mk_416) rfl rfl ?_
          refine g_bipush W (pc' := 419) (D mk_417) rfl (v := (6 : Int32)) (by decide) ?_
          refine g_aloadN W (pc' := 420) (D mk_419) rfl rfl (by first | rfl | assumption) ?_
          refine g_bipush W (pc' := 422) (D mk_420) rfl (v := (6 : Int32)) (by decide) ?_
          refine g_iloadN W (pc' := 423) (D mk_422) rfl rfl ?_
          refine g_iloadN W (pc' := 424) (D mk_423) rfl rfl ?_
          refine g_callS W (t_g l hw hEL cst fst W.old Sb (i := 6) (pp := pp) (by decide) hc) (fun x q => nomatch q) (hw _ (List.mem_of_getElem? (i := 28) rfl)) (hw _ (List.mem_of_getElem? (i := 29) rfl)) (hw _ (List.mem_of_getElem? (i := 24) rfl)) (hw _ (List.mem_of_getElem? (i := 30) rfl)) (by decide) (by decide +kernel : parseMethodDescriptor "(Ljava/lang/String;IIC)C" = some ⟨[(.object "java/lang/String"), .int, .int, .char], some .char⟩) (argsL := [_, _, _, _]) rfl rfl (pc' := 427) rfl (by rw [hml]; rfl) (D mk_424) rfl (Wn := 5) (Nat.le_refl _) (by decide) (by decide) (by decide) (by decide) (fun v T h' W hg hQ => ?_)
          obtain ⟨z6, rfl, L6, rfl⟩ := hQ
          refine g_castore W (pc' := 428) (A) (hbz) (i := 6) (by decide) (by decide) (by simp) (L6.1) (L6.w) (D mk_427) rfl (fun T g6 W Kp A' => ?_)
          replace N := N.keepA wi Kp A
          replace KK := KK.trans Kp (own_new hbx)
          replace Sb := Sb.keep wi Kp (A.noStr (by decide))
          replace A := A'
          refine g_dup W (pc' := 429) (D mk_428) rfl rfl ?_
          refine g_bipush W (pc' := 431) (D mk_429) rfl (v := (7 : Int32)) (by decide) ?_
          refine g_aloadN W (pc' := 432) (D mk_431) rfl rfl (by first | rfl | assumption) ?_
          refine g_bipush W (pc' := 434) (D mk_432) rfl (v := (7 : Int32)) (by decide) ?_
          refine g_iloadN W (pc' := 435) (D mk_434) rfl rfl ?_
          refine g_iloadN W (pc' := 436) (D mk_435) rfl rfl ?_
          refine g_callS W (t_g l hw hEL cst fst W.old Sb (i := 7) (pp := pp) (by decide) hc) (fun x q => nomatch q) (hw _ (List.mem_of_getElem? (i := 28) rfl)) (hw _ (List.mem_of_getElem? (i := 29) rfl)) (hw _ (List.mem_of_getElem? (i := 24) rfl)) (hw _ (List.mem_of_getElem? (i := 30) rfl)) (by decide) (by decide +kernel : parseMethodDescriptor "(Ljava/lang/String;IIC)C" = some ⟨[(.object "java/lang/String"), .int, .int, .char], some .char⟩) (argsL := [_, _, _, _]) rfl rfl (pc' := 439) rfl (by rw [hml]; rfl) (D mk_436) rfl (Wn := 5) (Nat.le_refl _) (by decide) (by decide) (by decide) (by decide) (fun v T h' W hg hQ => ?_)
          obtain ⟨z7, rfl, L7, rfl⟩ := hQ
          refine g_castore W (pc' := 440) (A) (hbz) (i := 7) (by decide) (by decide) (by simp) (L7.1) (L7.w) (D mk_439) rfl (fun T g7 W Kp A' => ?_)
          replace N := N.keepA wi Kp A
          replace KK := KK.trans Kp (own_new hbx)
          replace Sb := Sb.keep wi Kp (A.noStr (by decide))
          replace A := A'
          refine g_dup W (pc' := 441) (D mk_440) rfl rfl ?_
          refine g_bipush W (pc' := 443) (D mk_441) rfl (v := (8 : Int32)) (by decide) ?_
          refine g_aloadN W (pc' := 444) (D mk_443) rfl rfl (by first | rfl | assumption) ?_
          refine g_bipush W (pc' := 446) (D mk_444) rfl (v := (8 : Int32)) (by decide) ?_
          refine g_iloadN W (pc' := 447) (D mk_446) rfl rfl ?_
          refine g_iloadN W (pc' := 448) (D mk_447) rfl rfl ?_
          refine g_callS W (t_g l hw hEL cst fst W.old Sb (i := 8) (pp := pp) (by decide) hc) (fun x q => nomatch q) (hw _ (List.mem_of_getElem? (i := 28) rfl)) (hw _ (List.mem_of_getElem? (i := 29) rfl)) (hw _ (List.mem_of_getElem? (i := 24) rfl)) (hw _ (List.mem_of_getElem? (i := 30) rfl)) (by decide) (by decide +kernel : parseMethodDescriptor "(Ljava/lang/String;IIC)C" = some ⟨[(.object "java/lang/String"), .int, .int, .char], some .char⟩) (argsL := [_, _, _, _]) rfl rfl (pc' := 451) rfl (by rw [hml]; rfl) (D mk_448) rfl (Wn := 5) (Nat.le_refl _) (by decide) (by decide) (by decide) (by decide) (fun v T h' W hg hQ => ?_)
          obtain ⟨z8, rfl, L8, rfl⟩ := hQ
          refine g_castore W (pc' := 452) (A) (hbz) (i := 8) (by decide) (by decide) (by simp) (L8.1) (L8.w) (D mk_451) rfl (fun T g8 W Kp A' => ?_)
          replace N := N.keepA wi Kp A
          replace KK := KK.trans Kp (own_new hbx)
          replace Sb := Sb.keep wi Kp (A.noStr (by decide))
          replace A := A'
          refine g_dup W (pc' := 453) (D mk_452) rfl rfl ?_
          refine g_bipush W (pc' := 455) (D mk_453) rfl (v := (9 : Int32)) (by decide) ?_
          refine g_aloadN W (pc' := 456) (D mk_455) rfl rfl (by first | rfl | assumption) ?_
          refine g_bipush W (pc' := 458) (D mk_456) rfl (v := (9 : Int32)) (by decide) ?_
          refine g_iloadN W (pc' := 459) (D mk_458) rfl rfl ?_
          refine g_iloadN W (pc' := 460) (D mk_459) rfl rfl ?_
          refine g_callS W (t_g l hw hEL cst fst W.old Sb (i := 9) (pp := pp) (by decide) hc) (fun x q => nomatch q) (hw _ (List.mem_of_getElem? (i := 28) rfl)) (hw _ (List.mem_of_getElem? (i := 29) rfl)) (hw _ (List.mem_of_getElem? (i := 24) rfl)) (hw _ (List.mem_of_getElem? (i := 30) rfl)) (by decide) (by decide +kernel : parseMethodDescriptor "(Ljava/lang/String;IIC)C" = some ⟨[(.object "java/lang/String"), .int, .int, .char], some .char⟩) (argsL := [_, _, _, _]) rfl rfl (pc' := 463) rfl (by rw [hml]; rfl) (D mk_460) rfl (Wn := 5) (Nat.le_refl _) (by decide) (by decide) (by decide) (by decide) (fun v T h' W hg hQ => ?_)
          obtain ⟨z9, rfl, L9, rfl⟩ := hQ
          refine g_castore W (pc' := 464) (A) (hbz) (i := 9) (by decide) (by decide) (by simp) (L9.1) (L9.w) (D mk_463) rfl (fun T g9 W Kp A' => ?_)
          replace N := N.keepA wi Kp A
          replace KK := KK.trans Kp (own_new hbx)
          replace Sb := Sb.keep wi Kp (A.noStr (by decide))
          replace A := A'
          refine g_dup W (pc' := 465) (D mk_464) rfl rfl ?_
          refine g_bipush W (pc' := 467) (D mk_465) rfl (v := (10 : Int32)) (by decide) ?_
          refine g_aloadN W (pc' := 468) (D mk_467) rfl rfl (by first | rfl | assumption) ?_
          refine g_bipush W (pc' := 470) (D mk_468) rfl (v := (10 : Int32)) (by decide) ?_
          refine g_iloadN W (pc' := 471) (D mk_470) rfl rfl ?_
          refine g_iloadN W (pc' := 472) (D mk_471) rfl rfl ?_
          refine g_callS W (t_g l hw hEL cst fst W.old Sb (i := 10) (pp := pp) (by decide) hc) (fun x q => nomatch q) (hw _ (List.mem_of_getElem? (i := 28) rfl)) (hw _ (List.mem_of_getElem? (i := 29) rfl)) (hw _ (List.mem_of_getElem? (i := 24) rfl)) (hw _ (List.mem_of_getElem? (i := 30) rfl)) (by decide) (by decide +kernel : parseMethodDescriptor "(Ljava/lang/String;IIC)C" = some ⟨[(.object "java/lang/String"), .int, .int, .char], some .char⟩) (argsL := [_, _, _, _]) rfl rfl (pc' := 475) rfl (by rw [hml]; rfl) (D mk_472) rfl (Wn := 5) (Nat.le_refl _) (by decide) (by decide) (by decide) (by decide) (fun v T h' W hg hQ => ?_)
          obtain ⟨z10, rfl, L10, rfl⟩ := hQ
          refine g_castore W (pc' := 476) (A) (hbz) (i := 10) (by decide) (by decide) (by simp) (L10.1) (L10.w) (D mk_475) rfl (fun T g10 W Kp A' => ?_)
          replace N := N.keepA wi Kp A
          replace KK := KK.trans Kp (own_new hbx)
          replace Sb := Sb.keep wi Kp (A.noStr (by decide))
          replace A := A'
          replace A : Ali Z _ b .char (([z0, z1, z2, z3, z4, z5, z6, z7, z8, z9, z10] : List Int32).map Value.int) := A
          refine g_initS W hw cst (N) (A) (Latin.con L0 (Latin.con L1 (Latin.con L2 (Latin.con L3 (Latin.con L4 (Latin.con L5 (Latin.con L6 (Latin.con L7 (Latin.con L8 (Latin.con L9 (Latin.con L10 Latin.nil))))))))))) (by show 0 < 11; decide) (by show 11 ≤ 4000; decide) (hw _ (List.mem_of_getElem? (i := 53) rfl)) (pc' := 479) (by rw [hml]; rfl) (D mk_476) rfl (Wn := 1) (Nat.le_refl _) (by decide) (by decide) (by decide) (nn := 11) (Nat.le_refl _) (by decide) (fun T gz W Kp S => ?_)
          replace KK := KK.trans Kp (own_new hx)
          exact g_areturn W (D mk_479) hret rfl rfl (by decide) (by decide) ⟨_, rfl, x, _, rfl, keep_ext KK, S⟩
        · skip
          refine g_iloadN W (pc' := 481) (D mk_480) rfl rfl ?_
          refine g_bipush W (pc' := 483) (D mk_481) rfl (v := (12 : Int32)) (by decide) ?_
          refine g_icmpne W (pc1 := 630) (pc2 := 486) (D mk_483) (by decide) (by decide) rfl (fun b4 => ?_) (fun b4 => ?_)
          rotate_left
          · skip
            have hzh0 := W.old.1
            refine g_newS W (pc' := 489) (hw _ (List.mem_of_getElem? (i := 26) rfl)) wi (hw _ (List.mem_of_getElem? (i := 2) rfl)) (hw _ (List.mem_of_getElem? (i := 5) rfl)) (hw _ (List.mem_of_getElem? (i := 6) rfl)) (D mk_486) rfl (by decide) (by decide) (fun x T ga hx W E1 N => ?_)
            refine g_dup W (pc' := 490) (D mk_489) rfl rfl ?_
            refine g_bipush W (pc' := 492) (D mk_490) rfl (v := (12 : Int32)) (by decide) ?_
            refine g_newarray W (pc' := 494) (ty := .char) rfl (i := 12) (by decide) (by decide) (hw _ (List.mem_of_getElem? (i := 27) rfl)) (D mk_492) rfl (cap := 12) (by decide) (by decide) (by decide) (by decide) (fun b T gb hb0 W E2 A => ?_)
            replace N := (N.mem (fun y q => List.mem_cons_of_mem b q)).ext E2
            replace A : Ali Z gb b .char ((List.replicate 12 (0 : Int32)).map Value.int) := A
            have hbz : Z.heap.size ≤ b := Nat.le_trans hzh0 (Nat.le_trans E1.1 hb0)
            have hbx : h.size ≤ b := Nat.le_trans E1.1 hb0
            have KK : Keep h gb [] := ext_keep (ext_trans E1 E2) []
            replace Sb := (Sb.ext E1).ext E2
            refine g_dup W (pc' := 495) (D mk_494) rfl rfl ?_
            refine g_iconst W (pc' := 496) (D mk_495) rfl (v := (0 : Int32)) (by decide) ?_
            refine g_aloadN W (pc' := 497) (D mk_496) rfl rfl (by first | rfl | assumption) ?_
            refine g_iconst W (pc' := 498) (D mk_497) rfl (v := (0 : Int32)) (by decide) ?_
            refine g_iloadN W (pc' := 499) (D mk_498) rfl rfl ?_
            refine g_iloadN W (pc' := 500) (D mk_499) rfl rfl ?_
            refine g_callS W (t_g l hw hEL cst fst W.old Sb (i := 0) (pp := pp) (by decide) hc) (fun x q => nomatch q) (hw _ (List.mem_of_getElem? (i := 28) rfl)) (hw _ (List.mem_of_getElem? (i := 29) rfl)) (hw _ (List.mem_of_getElem? (i := 24) rfl)) (hw _ (List.mem_of_getElem? (i := 30) rfl)) (by decide) (by decide +kernel : parseMethodDescriptor "(Ljava/lang/String;IIC)C" = some ⟨[(.object "java/lang/String"), .int, .int, .char], some .char⟩) (argsL := [_, _, _, _]) rfl rfl (pc' := 503) rfl (by rw [hml]; rfl) (D mk_500) rfl (Wn := 5) (Nat.le_refl _) (by decide) (by decide) (by decide) (by decide) (fun v T h' W hg hQ => ?_)
            obtain ⟨z0, rfl, L0, rfl⟩ := hQ
            refine g_castore W (pc' := 504) (A) (hbz) (i := 0) (by decide) (by decide) (by simp) (L0.1) (L0.w) (D mk_503) rfl (fun T g0 W Kp A' => ?_)
            replace N := N.keepA wi Kp A
            replace KK := KK.trans Kp (own_new hbx)
            replace Sb := Sb.keep wi Kp (A.noStr (by decide))
            replace A := A'
            refine g_dup W (pc' := 505) (D mk_504) rfl rfl ?_
            refine g_iconst W (pc' := 506) (D mk_505) rfl (v := (1 : Int32)) (by decide) ?_
            refine g_aloadN W (pc' := 507) (D mk_506) rfl rfl (by first | rfl | assumption) ?_
            refine g_iconst W (pc' := 508) (D mk_507) rfl (v := (1 : Int32)) (by decide) ?_
            refine g_iloadN W (pc' := 509) (D mk_508) rfl rfl ?_
            refine g_iloadN W (pc' := 510) (D mk_509) rfl rfl ?_
            refine g_callS W (t_g l hw hEL cst fst W.old Sb (i := 1) (pp := pp) (by decide) hc) (fun x q => nomatch q) (hw _ (List.mem_of_getElem? (i := 28) rfl)) (hw _ (List.mem_of_getElem? (i := 29) rfl)) (hw _ (List.mem_of_getElem? (i := 24) rfl)) (hw _ (List.mem_of_getElem? (i := 30) rfl)) (by decide) (by decide +kernel : parseMethodDescriptor "(Ljava/lang/String;IIC)C" = some ⟨[(.object "java/lang/String"), .int, .int, .char], some .char⟩) (argsL := [_, _, _, _]) rfl rfl (pc' := 513) rfl (by rw [hml]; rfl) (D mk_510) rfl (Wn := 5) (Nat.le_refl _) (by decide) (by decide) (by decide) (by decide) (fun v T h' W hg hQ => ?_)
            obtain ⟨z1, rfl, L1, rfl⟩ := hQ
            refine g_castore W (pc' := 514) (A) (hbz) (i := 1) (by decide) (by decide) (by simp) (L1.1) (L1.w) (D mk_513) rfl (fun T g1 W Kp A' => ?_)
            replace N := N.keepA wi Kp A
            replace KK := KK.trans Kp (own_new hbx)
            replace Sb := Sb.keep wi Kp (A.noStr (by decide))
            replace A := A'
            refine g_dup W (pc' := 515) (D mk_514) rfl rfl ?_
            refine g_iconst W (pc' := 516) (D mk_515) rfl (v := (2 : Int32)) (by decide) ?_
            refine g_aloadN W (pc' := 517) (D mk_516) rfl rfl (by first | rfl | assumption) ?_
            refine g_iconst W (pc' := 518) (D mk_517) rfl (v := (2 : Int32)) (by decide) ?_
            refine g_iloadN W (pc' := 519) (D mk_518) rfl rfl ?_
            refine g_iloadN W (pc' := 520) (D mk_519) rfl rfl ?_
            refine g_callS W (t_g l hw hEL cst fst W.old Sb (i := 2) (pp := pp) (by decide) hc) (fun x q => nomatch q) (hw _ (List.mem_of_getElem? (i := 28) rfl)) (hw _ (List.mem_of_getElem? (i := 29) rfl)) (hw _ (List.mem_of_getElem? (i := 24) rfl)) (hw _ (List.mem_of_getElem? (i := 30) rfl)) (by decide) (by decide +kernel : parseMethodDescriptor "(Ljava/lang/String;IIC)C" = some ⟨[(.object "java/lang/String"), .int, .int, .char], some .char⟩) (argsL := [_, _, _, _]) rfl rfl (pc' := 523) rfl (by rw [hml]; rfl) (D mk_520) rfl (Wn := 5) (Nat.le_refl _) (by decide) (by decide) (by decide) (by decide) (fun v T h' W hg hQ => ?_)
            obtain ⟨z2, rfl, L2, rfl⟩ := hQ
            refine g_castore W (pc' := 524) (A) (hbz) (i := 2) (by decide) (by decide) (by simp) (L2.1) (L2.w) (D mk_523) rfl (fun T g2 W Kp A' => ?_)
            replace N := N.keepA wi Kp A
            replace KK := KK.trans Kp (own_new hbx)
            replace Sb := Sb.keep wi Kp (A.noStr (by decide))
            replace A := A'
            refine g_dup W (pc' := 525) (D mk_524) rfl rfl ?_
            refine g_iconst W (pc' := 526) (D mk_525) rfl (v := (3 : Int32)) (by decide) ?_
            refine g_aloadN W (pc' := 527) (D mk_526) rfl rfl (by first | rfl | assumption) ?_
            refine g_iconst W (pc' := 528) (D mk_527) rfl (v := (3 : Int32)) (by decide) ?_
            refine g_iloadN W (pc' := 529) (D mk_528) rfl rfl ?_
            refine g_iloadN W (pc' := 530) (D mk_529) rfl rfl ?_
            refine g_callS W (t_g l hw hEL cst fst W.old Sb (i := 3) (pp := pp) (by decide) hc) (fun x q => nomatch q) (hw _ (List.mem_of_getElem? (i := 28) rfl)) (hw _ (List.mem_of_getElem? (i := 29) rfl)) (hw _ (List.mem_of_getElem? (i := 24) rfl)) (hw _ (List.mem_of_getElem? (i := 30) rfl)) (by decide) (by decide +kernel : parseMethodDescriptor "(Ljava/lang/String;IIC)C" = some ⟨[(.object "java/lang/String"), .int, .int, .char], some .char⟩) (argsL := [_, _, _, _]) rfl rfl (pc' := 533) rfl (by rw [hml]; rfl) (D mk_530) rfl (Wn := 5) (Nat.le_refl _) (by decide) (by decide) (by decide) (by decide) (fun v T h' W hg hQ => ?_)
            obtain ⟨z3, rfl, L3, rfl⟩ := hQ
            refine g_castore W (pc' := 534) (A) (hbz) (i := 3) (by decide) (by decide) (by simp) (L3.1) (L3.w) (D mk_533) rfl (fun T g3 W Kp A' => ?_)
            replace N := N.keepA wi Kp A
            replace KK := KK.trans Kp (own_new hbx)
            replace Sb := Sb.keep wi Kp (A.noStr (by decide))
            replace A := A'
            refine g_dup W (pc' := 535) (D mk_534) rfl rfl ?_
            refine g_iconst W (pc' := 536) (D mk_535) rfl (v := (4 : Int32)) (by decide) ?_
            refine g_aloadN W (pc' := 537) (D mk_536) rfl rfl (by first | rfl | assumption) ?_
            refine g_iconst W (pc' := 538) (D mk_537) rfl (v := (4 : Int32)) (by decide) ?_
            refine g_iloadN W (pc' := 539) (D mk_538) rfl rfl ?_
            refine g_iloadN W (pc' := 540) (D mk_539) rfl rfl ?_
            refine g_callS W (t_g l hw hEL cst fst W.old Sb (i := 4) (pp := pp) (by decide) hc) (fun x q => nomatch q) (hw _ (List.mem_of_getElem? (i := 28) rfl)) (hw _ (List.mem_of_getElem? (i := 29) rfl)) (hw _ (List.mem_of_getElem? (i := 24) rfl)) (hw _ (List.mem_of_getElem? (i := 30) rfl)) (by decide) (by decide +kernel : parseMethodDescriptor "(Ljava/lang/String;IIC)C" = some ⟨[(.object "java/lang/String"), .int, .int, .char], some .char⟩) (argsL := [_, _, _, _]) rfl rfl (pc' := 543) rfl (by rw [hml]; rfl) (D mk_540) rfl (Wn := 5) (Nat.le_refl _) (by decide) (by decide) (by decide) (by decide) (fun v T h' W hg hQ => ?_)
            obtain ⟨z4, rfl, L4, rfl⟩ := hQ
            refine g_castore W (pc' := 544) (A) (hbz) (i := 4) (by decide) (by decide) (by simp) (L4.1) (L4.w) (D mk_543) rfl (fun T g4 W Kp A' => ?_)
            replace N := N.keepA wi Kp A
            replace KK := KK.trans Kp (own_new hbx)
            replace Sb := Sb.keep wi Kp (A.noStr (by decide))
            replace A := A'
            refine g_dup W (pc' := 545) (D mk_544) rfl rfl ?_
            refine g_iconst W (pc' := 546) (D mk_545) rfl (v := (5 : Int32)) (by decide) ?_
            refine g_aloadN W (pc' := 547) (D mk_546) rfl rfl (by first | rfl | assumption) ?_
            refine g_iconst W (pc' := 548) (D mk_547) rfl (v := (5 : Int32)) (by decide) ?_
            refine g_iloadN W (pc' := 549) (D mk_548) rfl rfl ?_
            refine g_iloadN W (pc' := 550) (D mk_549) rfl rfl ?_
            refine g_callS W (t_g l hw hEL cst fst W.old Sb (i := 5) (pp := pp) (by decide) hc) (fun x q => nomatch q) (hw _ (List.mem_of_getElem? (i := 28) rfl)) (hw _ (List.mem_of_getElem? (i := 29) rfl)) (hw _ (List.mem_of_getElem? (i := 24) rfl)) (hw _ (List.mem_of_getElem? (i := 30) rfl)) (by decide) (by decide +kernel : parseMethodDescriptor "(Ljava/lang/String;IIC)C" = some ⟨[(.object "java/lang/String"), .int, .int, .char], some .char⟩) (argsL := [_, _, _, _]) rfl rfl (pc' := 553) rfl (by rw [hml]; rfl) (D mk_550) rfl (Wn := 5) (Nat.le_refl _) (by decide) (by decide) (by decide) (by decide) (fun v T h' W hg hQ => ?_)
            obtain ⟨z5, rfl, L5, rfl⟩ := hQ
            refine g_castore W (pc' := 554) (A) (hbz) (i := 5) (by decide) (by decide) (by simp) (L5.1) (L5.w) (D mk_553) rfl (fun T g5 W Kp A' => ?_)
            replace N := N.keepA wi Kp A
            replace KK := KK.trans Kp (own_new hbx)
            replace Sb := Sb.keep wi Kp (A.noStr (by decide))
            replace A := A'
            refine g_dup W (pc' := 555) (D mk_554) rfl rfl ?_
            refine g_bipush W (pc' := 557) (D mk_555) rfl (v := (6 : Int32)) (by decide) ?_
            refine g_aloadN W (pc' := 558) (D mk_557) rfl rfl (by first | rfl | assumption) ?_
            refine g_bipush W (pc' := 560) (D mk_558) rfl (v := (6 : Int32)) (by decide) ?_
            refine g_iloadN W (pc' := 561) (D mk_560) rfl rfl ?_
            refine g_iloadN W (pc' := 562) (D mk_561) rfl rfl ?_
            refine g_callS W (t_g l hw hEL cst fst W.old Sb (i := 6) (pp := pp) (by decide) hc) (fun x q => nomatch q) (hw _ (List.mem_of_getElem? (i := 28) rfl)) (hw _ (List.mem_of_getElem? (i := 29) rfl)) (hw _ (List.mem_of_getElem? (i := 24) rfl)) (hw _ (List.mem_of_getElem? (i := 30) rfl)) (by decide) (by decide +kernel : parseMethodDescriptor "(Ljava/lang/String;IIC)C" = some ⟨[(.object "java/lang/String"), .int, .int, .char], some .char⟩) (argsL := [_, _, _, _]) rfl rfl (pc' := 565) rfl (by rw [hml]; rfl) (D mk_562) rfl (Wn := 5) (Nat.le_refl _) (by decide) (by decide) (by decide) (by decide) (fun v T h' W hg hQ => ?_)
            obtain ⟨z6, rfl, L6, rfl⟩ := hQ
            refine g_castore W (pc' := 566) (A) (hbz) (i := 6) (by decide) (by decide) (by simp) (L6.1) (L6.w) (D mk_565) rfl (fun T g6 W Kp A' => ?_)
            replace N := N.keepA wi Kp A
            replace KK := KK.trans Kp (own_new hbx)
            replace Sb := Sb.keep wi Kp (A.noStr (by decide))
            replace A := A'
            refine g_dup W (pc' := 567) (D mk_566) rfl rfl ?_
            refine g_bipush W (pc' := 569) (D mk_567) rfl (v := (7 : Int32)) (by decide) ?_
            refine g_aloadN W (pc' := 570) (D mk_569) rfl rfl (by first | rfl | assumption) ?_
            refine g_bipush W (pc' := 572) (D mk_570) rfl (v := (7 : Int32)) (by decide) ?_
            refine g_iloadN W (pc' := 573) (D mk_572) rfl rfl ?_
            refine g_iloadN W (pc' := 574) (D mk_573) rfl rfl ?_
            refine g_callS W (t_g l hw hEL cst fst W.old Sb (i := 7) (pp := pp) (by decide) hc) (fun x q => nomatch q) (hw _ (List.mem_of_getElem? (i := 28) rfl)) (hw _ (List.mem_of_getElem? (i := 29) rfl)) (hw _ (List.mem_of_getElem? (i := 24) rfl)) (hw _ (List.mem_of_getElem? (i := 30) rfl)) (by decide) (by decide +kernel : parseMethodDescriptor "(Ljava/lang/String;IIC)C" = some ⟨[(.object "java/lang/String"), .int, .int, .char], some .char⟩) (argsL := [_, _, _, _]) rfl rfl (pc' := 577) rfl (by rw [hml]; rfl) (D mk_574) rfl (Wn := 5) (Nat.le_refl _) (by decide) (by decide) (by decide) (by decide) (fun v T h' W hg hQ => ?_)
            obtain ⟨z7, rfl, L7, rfl⟩ := hQ
            refine g_castore W (pc' := 578) (A) (hbz) (i := 7) (by decide) (by decide) (by simp) (L7.1) (L7.w) (D mk_577) rfl (fun T g7 W Kp A' => ?_)
            replace N := N.keepA wi Kp A
            replace KK := KK.trans Kp (own_new hbx)
            replace Sb := Sb.keep wi Kp (A.noStr (by decide))
            replace A := A'
            refine g_dup W (pc' := 579) (D mk_578) rfl rfl ?_
            refine g_bipush W (pc' := 581) (D mk_579) rfl (v := (8 : Int32)) (by decide) ?_
            refine g_aloadN W (pc' := 582) (D mk_581) rfl rfl (by first | rfl | assumption) ?_
            refine g_bipush W (pc' := 584) (D mk_582) rfl (v := (8 : Int32)) (by decide) ?_
            refine g_iloadN W (pc' := 585) (D mk_584) rfl rfl ?_
            refine g_iloadN W (pc' := 586) (D mk_585) rfl rfl ?_
            refine g_callS W (t_g l hw hEL cst fst W.old Sb (i := 8) (pp := pp) (by decide) hc) (fun x q => nomatch q) (hw _ (List.mem_of_getElem? (i := 28) rfl)) (hw _ (List.mem_of_getElem? (i := 29) rfl)) (hw _ (List.mem_of_getElem? (i := 24) rfl)) (hw _ (List.mem_of_getElem? (i := 30) rfl)) (by decide) (by decide +kernel : parseMethodDescriptor "(Ljava/lang/String;IIC)C" = some ⟨[(.object "java/lang/String"), .int, .int, .char], some .char⟩) (argsL := [_, _, _, _]) rfl rfl (pc' := 589) rfl (by rw [hml]; rfl) (D mk_586) rfl (Wn := 5) (Nat.le_refl _) (by decide) (by decide) (by decide) (by decide) (fun v T h' W hg hQ => ?_)
            obtain ⟨z8, rfl, L8, rfl⟩ := hQ
            refine g_castore W (pc' := 590) (A) (hbz) (i := 8) (by decide) (by decide) (by simp) (L8.1) (L8.w) (D mk_589) rfl (fun T g8 W Kp A' => ?_)
            replace N := N.keepA wi Kp A
            replace KK := KK.trans Kp (own_new hbx)
            replace Sb := Sb.keep wi Kp (A.noStr (by decide))
            replace A := A'
            refine g_dup W (pc' := 591) (D mk_590) rfl rfl ?_
            refine g_bipush W (pc' := 593) (D mk_591) rfl (v := (9 : Int32)) (by decide) ?_
            refine g_aloadN W (pc' := 594) (D mk_593) rfl rfl (by first | rfl | assumption) ?_
            refine g_bipush W (pc' := 596) (D mk_594) rfl (v := (9 : Int32)) (by decide) ?_
            refine g_iloadN W (pc' := 597) (D mk_596) rfl rfl ?_
            refine g_iloadN W (pc' := 598) (D mk_597) rfl rfl ?_
            refine g_callS W (t_g l hw hEL cst fst W.old Sb (i := 9) (pp := pp) (by decide) hc) (fun x q => nomatch q) (hw _ (List.mem_of_getElem? (i := 28) rfl)) (hw _ (List.mem_of_getElem? (i := 29) rfl)) (hw _ (List.mem_of_getElem? (i := 24) rfl)) (hw _ (List.mem_of_getElem? (i := 30) rfl)) (by decide) (by decide +kernel : parseMethodDescriptor "(Ljava/lang/String;IIC)C" = some ⟨[(.object "java/lang/String"), .int, .int, .char], some .char⟩) (argsL := [_, _, _, _]) rfl rfl (pc' := 601) rfl (by rw [hml]; rfl) (D mk_598) rfl (Wn := 5) (Nat.le_refl _) (by decide) (by decide) (by decide) (by decide) (fun v T h' W hg hQ => ?_)
            obtain ⟨z9, rfl, L9, rfl⟩ := hQ
            refine g_castore W (pc' := 602) (A) (hbz) (i := 9) (by decide) (by decide) (by simp) (L9.1) (L9.w) (D mk_601) rfl (fun T g9 W Kp A' => ?_)
            replace N := N.keepA wi Kp A
            replace KK := KK.trans Kp (own_new hbx)
            replace Sb := Sb.keep wi Kp (A.noStr (by decide))
            replace A := A'
            refine g_dup W (pc' := 603) (D mk_602) rfl rfl ?_
            refine g_bipush W (pc' := 605) (D mk_603) rfl (v := (10 : Int32)) (by decide) ?_
            refine g_aloadN W (pc' := 606) (D mk_605) rfl rfl (by first | rfl | assumption) ?_
            refine g_bipush W (pc' := 608) (D mk_606) rfl (v := (10 : Int32)) (by decide) ?_
            refine g_iloadN W (pc' := 609) (D mk_608) rfl rfl ?_
            refine g_iloadN W (pc' := 610) (D mk_609) rfl rfl ?_
            refine g_callS W (t_g l hw hEL cst fst W.old Sb (i := 10) (pp := pp) (by decide) hc) (fun x q => nomatch q) (hw _ (List.mem_of_getElem? (i := 28) rfl)) (hw _ (List.mem_of_getElem? (i := 29) rfl)) (hw _ (List.mem_of_getElem? (i := 24) rfl)) (hw _ (List.mem_of_getElem? (i := 30) rfl)) (by decide) (by decide +kernel : parseMethodDescriptor "(Ljava/lang/String;IIC)C" = some ⟨[(.object "java/lang/String"), .int, .int, .char], some .char⟩) (argsL := [_, _, _, _]) rfl rfl (pc' := 613) rfl (by rw [hml]; rfl) (D mk_610) rfl (Wn := 5) (Nat.le_refl _) (by decide) (by decide) (by decide) (by decide) (fun v T h' W hg hQ => ?_)
            obtain ⟨z10, rfl, L10, rfl⟩ := hQ
            refine g_castore W (pc' := 614) (A) (hbz) (i := 10) (by decide) (by decide) (by simp) (L10.1) (L10.w) (D mk_613) rfl (fun T g10 W Kp A' => ?_)
            replace N := N.keepA wi Kp A
            replace KK := KK.trans Kp (own_new hbx)
            replace Sb := Sb.keep wi Kp (A.noStr (by decide))
            replace A := A'
            refine g_dup W (pc' := 615) (D mk_614) rfl rfl ?_
            refine g_bipush W (pc' := 617) (D mk_615) rfl (v := (11 : Int32)) (by decide) ?_
            refine g_aloadN W (pc' := 618) (D mk_617) rfl rfl (by first | rfl | assumption) ?_
            refine g_bipush W (pc' := 620) (D mk_618) rfl (v := (11 : Int32)) (by decide) ?_
            refine g_iloadN W (pc' := 621) (D mk_620) rfl rfl ?_
            refine g_iloadN W (pc' := 622) (D mk_621) rfl rfl ?_
            refine g_callS W (t_g l hw hEL cst fst W.old Sb (i := 11) (pp := pp) (by decide) hc) (fun x q => nomatch q) (hw _ (List.mem_of_getElem? (i := 28) rfl)) (hw _ (List.mem_of_getElem? (i := 29) rfl)) (hw _ (List.mem_of_getElem? (i := 24) rfl)) (hw _ (List.mem_of_getElem? (i := 30) rfl)) (by decide) (by decide +kernel : parseMethodDescriptor "(Ljava/lang/String;IIC)C" = some ⟨[(.object "java/lang/String"), .int, .int, .char], some .char⟩) (argsL := [_, _, _, _]) rfl rfl (pc' := 625) rfl (by rw [hml]; rfl) (D mk_622) rfl (Wn := 5) (Nat.le_refl _) (by decide) (by decide) (by decide) (by decide) (fun v T h' W hg hQ => ?_)
            obtain ⟨z11, rfl, L11, rfl⟩ := hQ
            refine g_castore W (pc' := 626) (A) (hbz) (i := 11) (by decide) (by decide) (by simp) (L11.1) (L11.w) (D mk_625) rfl (fun T g11 W Kp A' => ?_)
            replace N := N.keepA wi Kp A
            replace KK := KK.trans Kp (own_new hbx)
            replace Sb := Sb.keep wi Kp (A.noStr (by decide))
            replace A := A'
            replace A : Ali Z _ b .char (([z0, z1, z2, z3, z4, z5, z6, z7, z8, z9, z10, z11] : List Int32).map Value.int) := A
            refine g_initS W hw cst (N) (A) (Latin.con L0 (Latin.con L1 (Latin.con L2 (Latin.con L3 (Latin.con L4 (Latin.con L5 (Latin.con L6 (Latin.con L7 (Latin.con L8 (Latin.con L9 (Latin.con L10 (Latin.con L11 Latin.nil)))))))))))) (by show 0 < 12; decide) (by show 12 ≤ 4000; decide) (hw _ (List.mem_of_getElem? (i := 53) rfl)) (pc' := 629) (by rw [hml]; rfl) (D mk_626) rfl (Wn := 1) (Nat.le_refl _) (by decide) (by decide) (by decide) (nn := 12) (Nat.le_refl _) (by decide) (fun T gz W Kp S => ?_)
            replace KK := KK.trans Kp (own_new hx)
            exact g_areturn W (D mk_629) hret rfl rfl (by decide) (by decide) ⟨_, rfl, x, _, rfl, keep_ext KK, S⟩
          · skip
            refine g_aloadN W (pc' := 631) (D mk_630) rfl rfl (by first | rfl | assumption) ?_
            exact g_areturn W (D mk_631) hret rfl rfl (by decide) (by decide) ⟨_, rfl, a, cs, rfl, ext_refl _, Sb⟩
theorem efL (m : MethodId) (x0 : Int32) (x1 : Int32) (x2 : Int32) (x3 : Int32) : entryFrame m #[.int x0, .int x1, .int x2, .int x3] maxLocals = mkF m 0 #[.val (.int x0), .val (.int x1), .val (.int x2), .val (.int x3), .unset, .unset, .unset, .unset, .unset, .unset, .unset, .unset, .unset, .unset, .unset] [] := by first | (simp [entryFrame, mkF, argsToLocals, Value.category, maxLocals]; done) | rfl
abbrev GL (Z : State) (p : Program) (e : Env) (s : State) (below : List Frame) (T : State) (g : JFrame) : Prop := Go p e below (Endp Z consts_1 s (Ret fun v _ => v = .int 1) room_1.cells room_1.slots) T g
abbrev WL (l : Launch) (Z : State) (a0 : Array Value) (p : Program) (e : Env) (s : State) (m : MethodId) (below : List Frame) (meth : Method) (c : Code) (A : Array Value) (F : List Addr) (T : State) (h : Heap) (k n : Nat) : Prop := Wd p l e room_1 s m A below meth c Z a0 consts_1 LW F T h k n
theorem ofNat_ne0 {k : Nat} (h1 : 1 ≤ k) (h2 : k ≤ 4000) : Int32.ofNat k ≠ 0 := by
  rw [Ne, ← Int32.toInt_inj, Int32.toInt_ofNat_small (by omega)]
  have e0 : (0 : Int32).toInt = 0 := rfl
  omega
set_option maxRecDepth 65536 in
set_option maxHeartbeats 8000000 in
theorem t_law (l : Launch) {Z : State} {a0 : Array Value} (hw : ∀ d ∈ tables_1, d.before a0 Z = true) (cst : Cst Z) (fst : Fst Z) (hEL : EW Z a0 consts_1) {va q0 q1 q2 e0 e1 e2 eo : Addr} (KN : Kn Z va q0 q1 q2 e0 e1 e2 eo) (sel mode pos ch : Int32) :
    MetW tables_1 l Z consts_1 [] x code maxLocals ret room_1 #[.int sel, .int mode, .int pos, .int ch] Z.heap (Ret fun v _ => v = .int 1) := by
  have hO : Ext Z.heap Z.heap := ext_refl _
  have KN0 := KN
  obtain ⟨sv, ⟨cl, Acl, FC, hcl⟩, Eva, s0, s1, s2, f0, f1, f2, S0, S1, S2, X0, X1, X2, so, Xo, fo⟩ := KN
  refine Met.intro pnLW hEL hO ?_
  intro p e s m below meth c T W hby hml hret hnm
  have D : ∀ {pc : Nat} {r}, decode code pc = r → decode c.code pc = r := fun q => hb hby q
  refine Go.cast (efL m sel mode pos ch) ?_
  have wS := own_wS hw
  refine g_iloadN W (pc' := 1) (D at_0) rfl rfl ?_
  refine g_ldcI W (pc' := 3) (hw _ (List.mem_of_getElem? (i := 0) rfl)) (D at_1) rfl ?_
  refine g_iand W (pc' := 4) (D at_3) rfl ?_
  refine g_iconst W (pc' := 5) (D at_4) rfl (v := (3 : Int32)) (by decide) ?_
  refine g_irem W (pc' := 6) (D at_5) rfl (by first | decide | assumption) ?_
  refine g_istore W (pc' := 8) (D at_6) rfl (ls' := #[_, _, _, _, _, _, _, _, _, _, _, _, _, _, _]) rfl ?_
  refine g_iload W (pc' := 10) (D at_8) rfl rfl ?_
  obtain ⟨kk, hkk⟩ : ∃ z : Int32, z = (sel &&& 2147483647) % 3 := ⟨_, rfl⟩
  rw [← hkk]
  have J31 : ∀ (t : Addr) (T : State) (h : Heap) (tl : List Int32), 1 ≤ tl.length → tl.length ≤ 20 → Str Z h t tl → WL l Z a0 p e s m below meth c #[.int sel, .int mode, .int pos, .int ch] [] T h 2 48 → GL Z p e s below T (mkF m 31 #[.val (.int sel), .val (.int mode), .val (.int pos), .val (.int ch), .val (.int kk), .unset, .unset, .unset, .unset, .unset, .unset, .unset, .unset, .unset, .unset] [.ref t]) := by
    intro t T h tl hl1 hl2 Sb W
    refine g_astore W (pc' := 33) (D at_31) rfl (by first | rfl | assumption) (ls' := #[_, _, _, _, _, _, _, _, _, _, _, _, _, _, _]) rfl ?_
    refine g_aload W (pc' := 35) (D at_33) rfl rfl (by first | rfl | assumption) ?_
    refine g_len W hw cst (Sb) (hw _ (List.mem_of_getElem? (i := 9) rfl)) (pc' := 38) (by rw [hml]; rfl) (D at_35) rfl (Wn := 0) (Nat.le_refl _) (by decide) (by decide) (by decide) (by decide) (rfl) (fun T W => ?_)
    obtain ⟨ln, hln⟩ : ∃ z : Int32, z = Int32.ofNat tl.length := ⟨_, rfl⟩
    have hn0 : ln ≠ 0 := by rw [hln]; exact ofNat_ne0 hl1 (by omega)
    rw [← hln]
    refine g_istore W (pc' := 40) (D at_38) rfl (ls' := #[_, _, _, _, _, _, _, _, _, _, _, _, _, _, _]) rfl ?_
    refine g_iloadN W (pc' := 41) (D at_40) rfl rfl ?_
    refine g_sipush W (pc' := 44) (D at_41) rfl (v := (255 : Int32)) (by decide) ?_
    refine g_iand W (pc' := 45) (D at_44) rfl ?_
    refine g_i2c W (pc' := 46) (D at_45) rfl ?_
    rw [i2c_mask]
    have Lch := Lc.mask ch
    obtain ⟨cc, hcc⟩ : ∃ z : Int32, z = ch &&& 255 := ⟨_, rfl⟩
    rw [← hcc] at Lch
    rw [← hcc]
    obtain ⟨mm, hmm⟩ : ∃ z : Int32, z = mode &&& 3 := ⟨_, rfl⟩
    refine g_istore W (pc' := 48) (D at_46) rfl (ls' := #[_, _, _, _, _, _, _, _, _, _, _, _, _, _, _]) rfl ?_
    refine g_iloadN W (pc' := 49) (D at_48) rfl rfl ?_
    refine g_iconst W (pc' := 50) (D at_49) rfl (v := (3 : Int32)) (by decide) ?_
    refine g_iand W (pc' := 51) (D at_50) rfl ?_
    rw [← hmm]
    refine g_istore W (pc' := 53) (D at_51) rfl (ls' := #[_, _, _, _, _, _, _, _, _, _, _, _, _, _, _]) rfl ?_
    refine g_iload W (pc' := 55) (D at_53) rfl rfl ?_
    refine g_iconst W (pc' := 56) (D at_55) rfl (v := (2 : Int32)) (by decide) ?_
    have J111 : ∀ n pp : Int32, GL Z p e s below T (mkF m 111 #[.val (.int sel), .val (.int mode), .val (.int pos), .val (.int ch), .val (.int kk), .val (.ref t), .val (.int ln), .val (.int cc), .val (.int mm), .val (.int n), .unset, .unset, .unset, .unset, .unset] [.int pp]) := by
      intro n pp
      refine g_istore W (pc' := 113) (D at_111) rfl (ls' := #[_, _, _, _, _, _, _, _, _, _, _, _, _, _, _]) rfl ?_
      refine g_aload W (pc' := 115) (D at_113) rfl rfl (by first | rfl | assumption) ?_
      refine g_iload W (pc' := 117) (D at_115) rfl rfl ?_
      refine g_iload W (pc' := 119) (D at_117) rfl rfl ?_
      refine g_iload W (pc' := 121) (D at_119) rfl rfl ?_
      refine g_callS W (t_make l hw hEL cst fst W.old Sb Lch) (fun x q => nomatch q) (hw _ (List.mem_of_getElem? (i := 22) rfl)) (hw _ (List.mem_of_getElem? (i := 23) rfl)) (hw _ (List.mem_of_getElem? (i := 24) rfl)) (hw _ (List.mem_of_getElem? (i := 25) rfl)) (by decide) (by decide +kernel : parseMethodDescriptor "(Ljava/lang/String;IIC)Ljava/lang/String;" = some ⟨[(.object "java/lang/String"), .int, .int, .char], some (.object "java/lang/String")⟩) (argsL := [_, _, _, _]) rfl rfl (pc' := 124) rfl (by rw [hml]; rfl) (D at_121) rfl (Wn := 0) (Nat.le_refl _) (by decide) (by decide) (by decide) (by decide) (fun v T g2 W hg hQ => ?_)
      obtain ⟨y, ss, rfl, E2, S⟩ := hQ
      refine g_astore W (pc' := 126) (D at_124) rfl (by first | rfl | assumption) (ls' := #[_, _, _, _, _, _, _, _, _, _, _, _, _, _, _]) rfl ?_
      refine g_aconst_null W (pc' := 127) (D at_126) rfl ?_
      refine g_astore W (pc' := 129) (D at_127) rfl (by first | rfl | assumption) (ls' := #[_, _, _, _, _, _, _, _, _, _, _, _, _, _, _]) rfl ?_
      refine g_aload W (pc' := 131) (D at_129) rfl rfl (by first | rfl | assumption) ?_
      refine g_ldcS W (pc' := 133) (text := "apps:read") (cs := [97, 112, 112, 115, 58, 114, 101, 97, 100]) (hw _ (List.mem_of_getElem? (i := 1) rfl)) wS (by decide) (by decide +kernel) (by unfold Latin; decide) (by decide) (nn := 36) (by decide) (by decide) (D at_131) rfl (by decide) (by decide) (fun b0 T g3 W E1 T1 => ?_)
      replace S := S.ext E1
      refine g_equals W hw cst (S) (T1) (hw _ (List.mem_of_getElem? (i := 73) rfl)) (pc' := 136) (by rw [hml]; rfl) (D at_133) rfl (Wn := 0) (Nat.le_refl _) (by decide) (by decide) (by decide) (by decide) (fun T W => ?_)
      by_cases k0 : ss = C0
      · rw [if_pos k0]
        have hk : kres q0 q1 q2 ss = .ref q0 := by unfold kres; rw [if_pos k0]
        refine g_ifeqN W (pc1 := 147) (pc2 := 139) (D at_136) (by decide) (by decide) rfl (by decide) ?_
        refine g_getstatic W (pc' := 142) (host := "") (Or.inl (hw _ (List.mem_of_getElem? (i := 148) rfl))) Via.refl (s0.ext W.old) (D at_139) rfl (fun T W => ?_)
        refine g_astore W (pc' := 144) (D at_142) rfl (by first | rfl | assumption) (ls' := #[_, _, _, _, _, _, _, _, _, _, _, _, _, _, _]) rfl ?_
        refine g_goto W (pc' := 180) (D at_144) (by decide) (by decide) ?_
        refine g_aload W (pc' := 182) (D at_180) rfl rfl (by first | rfl | assumption) ?_
        refine g_callS W (t_of l hw hEL cst W.old KN0 S) (fun x q => nomatch q) (hw _ (List.mem_of_getElem? (i := 84) rfl)) (hw _ (List.mem_of_getElem? (i := 85) rfl)) (hw _ (List.mem_of_getElem? (i := 86) rfl)) (hw _ (List.mem_of_getElem? (i := 87) rfl)) (by decide) (by decide +kernel : parseMethodDescriptor "(Ljava/lang/String;)Ljava/util/Optional;" = some ⟨[(.object "java/lang/String")], some (.object "java/util/Optional")⟩) (argsL := [_]) rfl rfl (pc' := 185) rfl (by rw [hml]; rfl) (D at_182) rfl (Wn := 0) (Nat.le_refl _) (by decide) (by decide) (by decide) (by decide) (fun v T g9 W hg hQ => ?_)
        obtain ⟨o, rfl, E9, Xo9, fo9⟩ := hQ
        rw [hk] at fo9
        refine g_astore W (pc' := 187) (D at_185) rfl (by first | rfl | assumption) (ls' := #[_, _, _, _, _, _, _, _, _, _, _, _, _, _, _]) rfl ?_
        refine g_aload W (pc' := 189) (D at_187) rfl rfl (by first | rfl | assumption) ?_
        refine g_ifnonnullY W (pc1 := 206) (pc2 := 192) (D at_189) (by decide) (by decide) rfl ?_
        refine g_aload W (pc' := 208) (D at_206) rfl rfl (by first | rfl | assumption) ?_
        refine g_virt W (t_isPresent l hw hEL W.old fo9) (fun x q => nomatch q) rfl (hw _ (List.mem_of_getElem? (i := 114) rfl)) (hw _ (List.mem_of_getElem? (i := 115) rfl)) (hw _ (List.mem_of_getElem? (i := 117) rfl)) (hw _ (List.mem_of_getElem? (i := 116) rfl)) (hw _ (List.mem_of_getElem? (i := 111) rfl)) (hw _ (List.mem_of_getElem? (i := 118) rfl)) (by decide) (by decide +kernel : parseMethodDescriptor "()Z" = some ⟨[], some .boolean⟩) (Xo9) (argsL := []) rfl rfl (pc' := 211) rfl (by rw [hml]; rfl) (D at_208) rfl (Wn := 0) (Nat.le_refl _) (by decide) (by decide) (by decide) (by decide) (fun v T h' W hg hQ => ?_)
        obtain ⟨rfl, rfl⟩ := hQ
        refine g_ifneY W (pc1 := 216) (pc2 := 214) (D at_211) (by decide) (by decide) rfl (by decide) ?_
        refine g_aload W (pc' := 218) (D at_216) rfl rfl (by first | rfl | assumption) ?_
        refine g_virt W (t_get l hw hEL W.old fo9) (fun x q => nomatch q) rfl (hw _ (List.mem_of_getElem? (i := 136) rfl)) (hw _ (List.mem_of_getElem? (i := 137) rfl)) (hw _ (List.mem_of_getElem? (i := 139) rfl)) (hw _ (List.mem_of_getElem? (i := 138) rfl)) (hw _ (List.mem_of_getElem? (i := 111) rfl)) (hw _ (List.mem_of_getElem? (i := 140) rfl)) (by decide) (by decide +kernel : parseMethodDescriptor "()Ljava/lang/Object;" = some ⟨[], some (.object "java/lang/Object")⟩) (Xo9) (argsL := []) rfl rfl (pc' := 221) rfl (by rw [hml]; rfl) (D at_218) rfl (Wn := 0) (Nat.le_refl _) (by decide) (by decide) (by decide) (by decide) (fun v T h' W hg hQ => ?_)
        obtain ⟨rfl, rfl⟩ := hQ
        refine g_checkcast W (pc' := 224) (hw _ (List.mem_of_getElem? (i := 141) rfl)) (Ins.self (X0.ext W.old)) (D at_221) rfl (fun T W => ?_)
        refine g_astore W (pc' := 226) (D at_224) rfl (by first | rfl | assumption) (ls' := #[_, _, _, _, _, _, _, _, _, _, _, _, _, _, _]) rfl ?_
        refine g_aload W (pc' := 228) (D at_226) rfl rfl (by first | rfl | assumption) ?_
        refine g_aload W (pc' := 230) (D at_228) rfl rfl (by first | rfl | assumption) ?_
        refine g_acmpneN W (pc1 := 250) (pc2 := 233) (D at_230) (by decide) (by decide) rfl (by first | rfl | assumption) (by first | rfl | assumption) (rfl) ?_
        refine g_aload W (pc' := 235) (D at_233) rfl rfl (by first | rfl | assumption) ?_
        refine g_virt W (t_value l hw hEL W.old (f0.ext W.old)) (fun x q => nomatch q) rfl (hw _ (List.mem_of_getElem? (i := 143) rfl)) (hw _ (List.mem_of_getElem? (i := 144) rfl)) (hw _ (List.mem_of_getElem? (i := 146) rfl)) (hw _ (List.mem_of_getElem? (i := 145) rfl)) (hw _ (List.mem_of_getElem? (i := 86) rfl)) (hw _ (List.mem_of_getElem? (i := 147) rfl)) (by decide) (by decide +kernel : parseMethodDescriptor "()Ljava/lang/String;" = some ⟨[], some (.object "java/lang/String")⟩) (X0.ext W.old) (argsL := []) rfl rfl (pc' := 238) rfl (by rw [hml]; rfl) (D at_235) rfl (Wn := 0) (Nat.le_refl _) (by decide) (by decide) (by decide) (by decide) (fun v T h' W hg hQ => ?_)
        obtain ⟨rfl, rfl⟩ := hQ
        refine g_aload W (pc' := 240) (D at_238) rfl rfl (by first | rfl | assumption) ?_
        refine g_equals W hw cst (S0.ext W.old) (S.ext E9) (hw _ (List.mem_of_getElem? (i := 73) rfl)) (pc' := 243) (by rw [hml]; rfl) (D at_240) rfl (Wn := 0) (Nat.le_refl _) (by decide) (by decide) (by decide) (by decide) (fun T W => ?_)
        rw [if_pos k0.symm]
        refine g_ifeqB W (pc1 := 250) (pc2 := 246) (pc3 := 247) (pcJ := 251) (D at_243) (by decide) (by decide) rfl (D at_246) rfl (D at_247) (by decide) (by decide) (D at_250) rfl (v1 := (1 : Int32)) (v2 := (0 : Int32)) (by decide) (by decide) ?_
        rw [if_neg (by decide)]
        exact g_retz W (D at_251) hret (Or.inr rfl) (by decide) (by decide) ⟨_, rfl, rfl⟩
      · rw [if_neg k0]
        refine g_ifeqY W (pc1 := 147) (pc2 := 139) (D at_136) (by decide) (by decide) rfl (rfl) ?_
        refine g_aload W (pc' := 149) (D at_147) rfl rfl (by first | rfl | assumption) ?_
        refine g_ldcS W (pc' := 151) (text := "apps:create") (cs := [97, 112, 112, 115, 58, 99, 114, 101, 97, 116, 101]) (hw _ (List.mem_of_getElem? (i := 82) rfl)) wS (by decide) (by decide +kernel) (by unfold Latin; decide) (by decide) (nn := 44) (by decide) (by decide) (D at_149) rfl (by decide) (by decide) (fun b1 T g4 W E1 T1 => ?_)
        replace S := S.ext E1
        refine g_equals W hw cst (S) (T1) (hw _ (List.mem_of_getElem? (i := 73) rfl)) (pc' := 154) (by rw [hml]; rfl) (D at_151) rfl (Wn := 0) (Nat.le_refl _) (by decide) (by decide) (by decide) (by decide) (fun T W => ?_)
        by_cases k1 : ss = C1
        · rw [if_pos k1]
          have hk : kres q0 q1 q2 ss = .ref q1 := by unfold kres; rw [if_neg k0, if_pos k1]
          refine g_ifeqN W (pc1 := 165) (pc2 := 157) (D at_154) (by decide) (by decide) rfl (by decide) ?_
          refine g_getstatic W (pc' := 160) (host := "") (Or.inl (hw _ (List.mem_of_getElem? (i := 121) rfl))) Via.refl (s1.ext W.old) (D at_157) rfl (fun T W => ?_)
          refine g_astore W (pc' := 162) (D at_160) rfl (by first | rfl | assumption) (ls' := #[_, _, _, _, _, _, _, _, _, _, _, _, _, _, _]) rfl ?_
          refine g_goto W (pc' := 180) (D at_162) (by decide) (by decide) ?_
          refine g_aload W (pc' := 182) (D at_180) rfl rfl (by first | rfl | assumption) ?_
          refine g_callS W (t_of l hw hEL cst W.old KN0 S) (fun x q => nomatch q) (hw _ (List.mem_of_getElem? (i := 84) rfl)) (hw _ (List.mem_of_getElem? (i := 85) rfl)) (hw _ (List.mem_of_getElem? (i := 86) rfl)) (hw _ (List.mem_of_getElem? (i := 87) rfl)) (by decide) (by decide +kernel : parseMethodDescriptor "(Ljava/lang/String;)Ljava/util/Optional;" = some ⟨[(.object "java/lang/String")], some (.object "java/util/Optional")⟩) (argsL := [_]) rfl rfl (pc' := 185) rfl (by rw [hml]; rfl) (D at_182) rfl (Wn := 0) (Nat.le_refl _) (by decide) (by decide) (by decide) (by decide) (fun v T g9 W hg hQ => ?_)
          obtain ⟨o, rfl, E9, Xo9, fo9⟩ := hQ
          rw [hk] at fo9
          refine g_astore W (pc' := 187) (D at_185) rfl (by first | rfl | assumption) (ls' := #[_, _, _, _, _, _, _, _, _, _, _, _, _, _, _]) rfl ?_
          refine g_aload W (pc' := 189) (D at_187) rfl rfl (by first | rfl | assumption) ?_
          refine g_ifnonnullY W (pc1 := 206) (pc2 := 192) (D at_189) (by decide) (by decide) rfl ?_
          refine g_aload W (pc' := 208) (D at_206) rfl rfl (by first | rfl | assumption) ?_
          refine g_virt W (t_isPresent l hw hEL W.old fo9) (fun x q => nomatch q) rfl (hw _ (List.mem_of_getElem? (i := 114) rfl)) (hw _ (List.mem_of_getElem? (i := 115) rfl)) (hw _ (List.mem_of_getElem? (i := 117) rfl)) (hw _ (List.mem_of_getElem? (i := 116) rfl)) (hw _ (List.mem_of_getElem? (i := 111) rfl)) (hw _ (List.mem_of_getElem? (i := 118) rfl)) (by decide) (by decide +kernel : parseMethodDescriptor "()Z" = some ⟨[], some .boolean⟩) (Xo9) (argsL := []) rfl rfl (pc' := 211) rfl (by rw [hml]; rfl) (D at_208) rfl (Wn := 0) (Nat.le_refl _) (by decide) (by decide) (by decide) (by decide) (fun v T h' W hg hQ => ?_)
          obtain ⟨rfl, rfl⟩ := hQ
          refine g_ifneY W (pc1 := 216) (pc2 := 214) (D at_211) (by decide) (by decide) rfl (by decide) ?_
          refine g_aload W (pc' := 218) (D at_216) rfl rfl (by first | rfl | assumption) ?_
          refine g_virt W (t_get l hw hEL W.old fo9) (fun x q => nomatch q) rfl (hw _ (List.mem_of_getElem? (i := 136) rfl)) (hw _ (List.mem_of_getElem? (i := 137) rfl)) (hw _ (List.mem_of_getElem? (i := 139) rfl)) (hw _ (List.mem_of_getElem? (i := 138) rfl)) (hw _ (List.mem_of_getElem? (i := 111) rfl)) (hw _ (List.mem_of_getElem? (i := 140) rfl)) (by decide) (by decide +kernel : parseMethodDescriptor "()Ljava/lang/Object;" = some ⟨[], some (.object "java/lang/Object")⟩) (Xo9) (argsL := []) rfl rfl (pc' := 221) rfl (by rw [hml]; rfl) (D at_218) rfl (Wn := 0) (Nat.le_refl _) (by decide) (by decide) (by decide) (by decide) (fun v T h' W hg hQ => ?_)
          obtain ⟨rfl, rfl⟩ := hQ
          refine g_checkcast W (pc' := 224) (hw _ (List.mem_of_getElem? (i := 141) rfl)) (Ins.self (X1.ext W.old)) (D at_221) rfl (fun T W => ?_)
          refine g_astore W (pc' := 226) (D at_224) rfl (by first | rfl | assumption) (ls' := #[_, _, _, _, _, _, _, _, _, _, _, _, _, _, _]) rfl ?_
          refine g_aload W (pc' := 228) (D at_226) rfl rfl (by first | rfl | assumption) ?_
          refine g_aload W (pc' := 230) (D at_228) rfl rfl (by first | rfl | assumption) ?_
          refine g_acmpneN W (pc1 := 250) (pc2 := 233) (D at_230) (by decide) (by decide) rfl (by first | rfl | assumption) (by first | rfl | assumption) (rfl) ?_
          refine g_aload W (pc' := 235) (D at_233) rfl rfl (by first | rfl | assumption) ?_
          refine g_virt W (t_value l hw hEL W.old (f1.ext W.old)) (fun x q => nomatch q) rfl (hw _ (List.mem_of_getElem? (i := 143) rfl)) (hw _ (List.mem_of_getElem? (i := 144) rfl)) (hw _ (List.mem_of_getElem? (i := 146) rfl)) (hw _ (List.mem_of_getElem? (i := 145) rfl)) (hw _ (List.mem_of_getElem? (i := 86) rfl)) (hw _ (List.mem_of_getElem? (i := 147) rfl)) (by decide) (by decide +kernel : parseMethodDescriptor "()Ljava/lang/String;" = some ⟨[], some (.object "java/lang/String")⟩) (X1.ext W.old) (argsL := []) rfl rfl (pc' := 238) rfl (by rw [hml]; rfl) (D at_235) rfl (Wn := 0) (Nat.le_refl _) (by decide) (by decide) (by decide) (by decide) (fun v T h' W hg hQ => ?_)
          obtain ⟨rfl, rfl⟩ := hQ
          refine g_aload W (pc' := 240) (D at_238) rfl rfl (by first | rfl | assumption) ?_
          refine g_equals W hw cst (S1.ext W.old) (S.ext E9) (hw _ (List.mem_of_getElem? (i := 73) rfl)) (pc' := 243) (by rw [hml]; rfl) (D at_240) rfl (Wn := 0) (Nat.le_refl _) (by decide) (by decide) (by decide) (by decide) (fun T W => ?_)
          rw [if_pos k1.symm]
          refine g_ifeqB W (pc1 := 250) (pc2 := 246) (pc3 := 247) (pcJ := 251) (D at_243) (by decide) (by decide) rfl (D at_246) rfl (D at_247) (by decide) (by decide) (D at_250) rfl (v1 := (1 : Int32)) (v2 := (0 : Int32)) (by decide) (by decide) ?_
          rw [if_neg (by decide)]
          exact g_retz W (D at_251) hret (Or.inr rfl) (by decide) (by decide) ⟨_, rfl, rfl⟩
        · rw [if_neg k1]
          refine g_ifeqY W (pc1 := 165) (pc2 := 157) (D at_154) (by decide) (by decide) rfl (rfl) ?_
          refine g_aload W (pc' := 167) (D at_165) rfl rfl (by first | rfl | assumption) ?_
          refine g_ldcS W (pc' := 169) (text := "apps:manage") (cs := [97, 112, 112, 115, 58, 109, 97, 110, 97, 103, 101]) (hw _ (List.mem_of_getElem? (i := 83) rfl)) wS (by decide) (by decide +kernel) (by unfold Latin; decide) (by decide) (nn := 44) (by decide) (by decide) (D at_167) rfl (by decide) (by decide) (fun b2 T g5 W E1 T1 => ?_)
          replace S := S.ext E1
          refine g_equals W hw cst (S) (T1) (hw _ (List.mem_of_getElem? (i := 73) rfl)) (pc' := 172) (by rw [hml]; rfl) (D at_169) rfl (Wn := 0) (Nat.le_refl _) (by decide) (by decide) (by decide) (by decide) (fun T W => ?_)
          by_cases k2 : ss = C2
          · rw [if_pos k2]
            have hk : kres q0 q1 q2 ss = .ref q2 := by unfold kres; rw [if_neg k0, if_neg k1, if_pos k2]
            refine g_ifeqN W (pc1 := 180) (pc2 := 175) (D at_172) (by decide) (by decide) rfl (by decide) ?_
            refine g_getstatic W (pc' := 178) (host := "") (Or.inl (hw _ (List.mem_of_getElem? (i := 149) rfl))) Via.refl (s2.ext W.old) (D at_175) rfl (fun T W => ?_)
            refine g_astore W (pc' := 180) (D at_178) rfl (by first | rfl | assumption) (ls' := #[_, _, _, _, _, _, _, _, _, _, _, _, _, _, _]) rfl ?_
            refine g_aload W (pc' := 182) (D at_180) rfl rfl (by first | rfl | assumption) ?_
            refine g_callS W (t_of l hw hEL cst W.old KN0 S) (fun x q => nomatch q) (hw _ (List.mem_of_getElem? (i := 84) rfl)) (hw _ (List.mem_of_getElem? (i := 85) rfl)) (hw _ (List.mem_of_getElem? (i := 86) rfl)) (hw _ (List.mem_of_getElem? (i := 87) rfl)) (by decide) (by decide +kernel : parseMethodDescriptor "(Ljava/lang/String;)Ljava/util/Optional;" = some ⟨[(.object "java/lang/String")], some (.object "java/util/Optional")⟩) (argsL := [_]) rfl rfl (pc' := 185) rfl (by rw [hml]; rfl) (D at_182) rfl (Wn := 0) (Nat.le_refl _) (by decide) (by decide) (by decide) (by decide) (fun v T g9 W hg hQ => ?_)
            obtain ⟨o, rfl, E9, Xo9, fo9⟩ := hQ
            rw [hk] at fo9
            refine g_astore W (pc' := 187) (D at_185) rfl (by first | rfl | assumption) (ls' := #[_, _, _, _, _, _, _, _, _, _, _, _, _, _, _]) rfl ?_
            refine g_aload W (pc' := 189) (D at_187) rfl rfl (by first | rfl | assumption) ?_
            refine g_ifnonnullY W (pc1 := 206) (pc2 := 192) (D at_189) (by decide) (by decide) rfl ?_
            refine g_aload W (pc' := 208) (D at_206) rfl rfl (by first | rfl | assumption) ?_
            refine g_virt W (t_isPresent l hw hEL W.old fo9) (fun x q => nomatch q) rfl (hw _ (List.mem_of_getElem? (i := 114) rfl)) (hw _ (List.mem_of_getElem? (i := 115) rfl)) (hw _ (List.mem_of_getElem? (i := 117) rfl)) (hw _ (List.mem_of_getElem? (i := 116) rfl)) (hw _ (List.mem_of_getElem? (i := 111) rfl)) (hw _ (List.mem_of_getElem? (i := 118) rfl)) (by decide) (by decide +kernel : parseMethodDescriptor "()Z" = some ⟨[], some .boolean⟩) (Xo9) (argsL := []) rfl rfl (pc' := 211) rfl (by rw [hml]; rfl) (D at_208) rfl (Wn := 0) (Nat.le_refl _) (by decide) (by decide) (by decide) (by decide) (fun v T h' W hg hQ => ?_)
            obtain ⟨rfl, rfl⟩ := hQ
            refine g_ifneY W (pc1 := 216) (pc2 := 214) (D at_211) (by decide) (by decide) rfl (by decide) ?_
            refine g_aload W (pc' := 218) (D at_216) rfl rfl (by first | rfl | assumption) ?_
            refine g_virt W (t_get l hw hEL W.old fo9) (fun x q => nomatch q) rfl (hw _ (List.mem_of_getElem? (i := 136) rfl)) (hw _ (List.mem_of_getElem? (i := 137) rfl)) (hw _ (List.mem_of_getElem? (i := 139) rfl)) (hw _ (List.mem_of_getElem? (i := 138) rfl)) (hw _ (List.mem_of_getElem? (i := 111) rfl)) (hw _ (List.mem_of_getElem? (i := 140) rfl)) (by decide) (by decide +kernel : parseMethodDescriptor "()Ljava/lang/Object;" = some ⟨[], some (.object "java/lang/Object")⟩) (Xo9) (argsL := []) rfl rfl (pc' := 221) rfl (by rw [hml]; rfl) (D at_218) rfl (Wn := 0) (Nat.le_refl _) (by decide) (by decide) (by decide) (by decide) (fun v T h' W hg hQ => ?_)
            obtain ⟨rfl, rfl⟩ := hQ
            refine g_checkcast W (pc' := 224) (hw _ (List.mem_of_getElem? (i := 141) rfl)) (Ins.self (X2.ext W.old)) (D at_221) rfl (fun T W => ?_)
            refine g_astore W (pc' := 226) (D at_224) rfl (by first | rfl | assumption) (ls' := #[_, _, _, _, _, _, _, _, _, _, _, _, _, _, _]) rfl ?_
            refine g_aload W (pc' := 228) (D at_226) rfl rfl (by first | rfl | assumption) ?_
            refine g_aload W (pc' := 230) (D at_228) rfl rfl (by first | rfl | assumption) ?_
            refine g_acmpneN W (pc1 := 250) (pc2 := 233) (D at_230) (by decide) (by decide) rfl (by first | rfl | assumption) (by first | rfl | assumption) (rfl) ?_
            refine g_aload W (pc' := 235) (D at_233) rfl rfl (by first | rfl | assumption) ?_
            refine g_virt W (t_value l hw hEL W.old (f2.ext W.old)) (fun x q => nomatch q) rfl (hw _ (List.mem_of_getElem? (i := 143) rfl)) (hw _ (List.mem_of_getElem? (i := 144) rfl)) (hw _ (List.mem_of_getElem? (i := 146) rfl)) (hw _ (List.mem_of_getElem? (i := 145) rfl)) (hw _ (List.mem_of_getElem? (i := 86) rfl)) (hw _ (List.mem_of_getElem? (i := 147) rfl)) (by decide) (by decide +kernel : parseMethodDescriptor "()Ljava/lang/String;" = some ⟨[], some (.object "java/lang/String")⟩) (X2.ext W.old) (argsL := []) rfl rfl (pc' := 238) rfl (by rw [hml]; rfl) (D at_235) rfl (Wn := 0) (Nat.le_refl _) (by decide) (by decide) (by decide) (by decide) (fun v T h' W hg hQ => ?_)
            obtain ⟨rfl, rfl⟩ := hQ
            refine g_aload W (pc' := 240) (D at_238) rfl rfl (by first | rfl | assumption) ?_
            refine g_equals W hw cst (S2.ext W.old) (S.ext E9) (hw _ (List.mem_of_getElem? (i := 73) rfl)) (pc' := 243) (by rw [hml]; rfl) (D at_240) rfl (Wn := 0) (Nat.le_refl _) (by decide) (by decide) (by decide) (by decide) (fun T W => ?_)
            rw [if_pos k2.symm]
            refine g_ifeqB W (pc1 := 250) (pc2 := 246) (pc3 := 247) (pcJ := 251) (D at_243) (by decide) (by decide) rfl (D at_246) rfl (D at_247) (by decide) (by decide) (D at_250) rfl (v1 := (1 : Int32)) (v2 := (0 : Int32)) (by decide) (by decide) ?_
            rw [if_neg (by decide)]
            exact g_retz W (D at_251) hret (Or.inr rfl) (by decide) (by decide) ⟨_, rfl, rfl⟩
          · rw [if_neg k2]
            refine g_ifeqY W (pc1 := 180) (pc2 := 175) (D at_172) (by decide) (by decide) rfl (rfl) ?_
            have hk : kres q0 q1 q2 ss = .null := by unfold kres; rw [if_neg k0, if_neg k1, if_neg k2]
            refine g_aload W (pc' := 182) (D at_180) rfl rfl (by first | rfl | assumption) ?_
            refine g_callS W (t_of l hw hEL cst W.old KN0 S) (fun x q => nomatch q) (hw _ (List.mem_of_getElem? (i := 84) rfl)) (hw _ (List.mem_of_getElem? (i := 85) rfl)) (hw _ (List.mem_of_getElem? (i := 86) rfl)) (hw _ (List.mem_of_getElem? (i := 87) rfl)) (by decide) (by decide +kernel : parseMethodDescriptor "(Ljava/lang/String;)Ljava/util/Optional;" = some ⟨[(.object "java/lang/String")], some (.object "java/util/Optional")⟩) (argsL := [_]) rfl rfl (pc' := 185) rfl (by rw [hml]; rfl) (D at_182) rfl (Wn := 0) (Nat.le_refl _) (by decide) (by decide) (by decide) (by decide) (fun v T g9 W hg hQ => ?_)
            obtain ⟨o, rfl, E9, Xo9, fo9⟩ := hQ
            rw [hk] at fo9
            refine g_astore W (pc' := 187) (D at_185) rfl (by first | rfl | assumption) (ls' := #[_, _, _, _, _, _, _, _, _, _, _, _, _, _, _]) rfl ?_
            refine g_aload W (pc' := 189) (D at_187) rfl rfl (by first | rfl | assumption) ?_
            refine g_ifnonnullN W (pc1 := 206) (pc2 := 192) (D at_189) (by decide) (by decide) rfl ?_
            refine g_aload W (pc' := 194) (D at_192) rfl rfl (by first | rfl | assumption) ?_
            refine g_virt W (t_isPresentN l hw hEL W.old (q := 0) fo9) (fun x q => nomatch q) rfl (hw _ (List.mem_of_getElem? (i := 114) rfl)) (hw _ (List.mem_of_getElem? (i := 115) rfl)) (hw _ (List.mem_of_getElem? (i := 117) rfl)) (hw _ (List.mem_of_getElem? (i := 116) rfl)) (hw _ (List.mem_of_getElem? (i := 111) rfl)) (hw _ (List.mem_of_getElem? (i := 118) rfl)) (by decide) (by decide +kernel : parseMethodDescriptor "()Z" = some ⟨[], some .boolean⟩) (Xo9) (argsL := []) rfl rfl (pc' := 197) rfl (by rw [hml]; rfl) (D at_194) rfl (Wn := 0) (Nat.le_refl _) (by decide) (by decide) (by decide) (by decide) (fun v T h' W hg hQ => ?_)
            obtain ⟨rfl, rfl⟩ := hQ
            refine g_ifneB W (pc1 := 204) (pc2 := 200) (pc3 := 201) (pcJ := 205) (D at_197) (by decide) (by decide) rfl (D at_200) rfl (D at_201) (by decide) (by decide) (D at_204) rfl (v1 := (1 : Int32)) (v2 := (0 : Int32)) (by decide) (by decide) ?_
            rw [if_neg (by decide)]
            exact g_retz W (D at_205) hret (Or.inr rfl) (by decide) (by decide) ⟨_, rfl, rfl⟩
    have J81 : ∀ n : Int32, GL Z p e s below T (mkF m 81 #[.val (.int sel), .val (.int mode), .val (.int pos), .val (.int ch), .val (.int kk), .val (.ref t), .val (.int ln), .val (.int cc), .val (.int mm), .unset, .unset, .unset, .unset, .unset, .unset] [.int n]) := by
      intro n
      refine g_istore W (pc' := 83) (D at_81) rfl (ls' := #[_, _, _, _, _, _, _, _, _, _, _, _, _, _, _]) rfl ?_
      refine g_iload W (pc' := 85) (D at_83) rfl rfl ?_
      refine g_iconst W (pc' := 86) (D at_85) rfl (v := (1 : Int32)) (by decide) ?_
      refine g_icmpne W (pc1 := 99) (pc2 := 89) (D at_86) (by decide) (by decide) rfl (fun b1 => ?_) (fun b1 => ?_)
      · refine g_iload W (pc' := 101) (D at_99) rfl rfl ?_
        refine g_iconst W (pc' := 102) (D at_101) rfl (v := (3 : Int32)) (by decide) ?_
        refine g_icmpne W (pc1 := 110) (pc2 := 105) (D at_102) (by decide) (by decide) rfl (fun b2 => ?_) (fun b2 => ?_)
        · refine g_iconst W (pc' := 111) (D at_110) rfl (v := (-1 : Int32)) (by decide) ?_
          exact J111 _ _
        · refine g_iload W (pc' := 107) (D at_105) rfl rfl ?_
          refine g_goto W (pc' := 111) (D at_107) (by decide) (by decide) ?_
          exact J111 _ _
      · refine g_iloadN W (pc' := 90) (D at_89) rfl rfl ?_
        refine g_ldcI W (pc' := 92) (hw _ (List.mem_of_getElem? (i := 0) rfl)) (D at_90) rfl ?_
        refine g_iand W (pc' := 93) (D at_92) rfl ?_
        refine g_iload W (pc' := 95) (D at_93) rfl rfl ?_
        refine g_irem W (pc' := 96) (D at_95) rfl (by first | decide | assumption) ?_
        refine g_goto W (pc' := 111) (D at_96) (by decide) (by decide) ?_
        exact J111 _ _
    refine g_icmpne W (pc1 := 66) (pc2 := 59) (D at_56) (by decide) (by decide) rfl (fun b1 => ?_) (fun b1 => ?_)
    · refine g_iload W (pc' := 68) (D at_66) rfl rfl ?_
      refine g_iconst W (pc' := 69) (D at_68) rfl (v := (3 : Int32)) (by decide) ?_
      refine g_icmpne W (pc1 := 79) (pc2 := 72) (D at_69) (by decide) (by decide) rfl (fun b2 => ?_) (fun b2 => ?_)
      · refine g_iload W (pc' := 81) (D at_79) rfl rfl ?_
        exact J81 _
      · refine g_iload W (pc' := 74) (D at_72) rfl rfl ?_
        refine g_iconst W (pc' := 75) (D at_74) rfl (v := (1 : Int32)) (by decide) ?_
        refine g_iadd W (pc' := 76) (D at_75) rfl ?_
        refine g_goto W (pc' := 81) (D at_76) (by decide) (by decide) ?_
        exact J81 _
    · refine g_iload W (pc' := 61) (D at_59) rfl rfl ?_
      refine g_iconst W (pc' := 62) (D at_61) rfl (v := (1 : Int32)) (by decide) ?_
      refine g_isub W (pc' := 63) (D at_62) rfl ?_
      refine g_goto W (pc' := 81) (D at_63) (by decide) (by decide) ?_
      exact J81 _
  refine g_ifne W (pc1 := 18) (pc2 := 13) (D at_10) (by decide) (by decide) rfl (fun b0 => ?_) (fun b0 => ?_)
  · refine g_iload W (pc' := 20) (D at_18) rfl rfl ?_
    refine g_iconst W (pc' := 21) (D at_20) rfl (v := (1 : Int32)) (by decide) ?_
    refine g_icmpne W (pc1 := 29) (pc2 := 24) (D at_21) (by decide) (by decide) rfl (fun b1 => ?_) (fun b1 => ?_)
    · refine g_ldcS W (pc' := 31) (text := "apps:manage") (cs := [97, 112, 112, 115, 58, 109, 97, 110, 97, 103, 101]) (hw _ (List.mem_of_getElem? (i := 83) rfl)) wS (by decide) (by decide +kernel) (by unfold Latin; decide) (by decide) (nn := 44) (by decide) (by decide) (D at_29) rfl (by decide) (by decide) (fun t T h W E S => ?_)
      exact J31 t T h _ (by decide) (by decide) S (W.more (by decide) (by decide))
    · refine g_ldcS W (pc' := 26) (text := "apps:create") (cs := [97, 112, 112, 115, 58, 99, 114, 101, 97, 116, 101]) (hw _ (List.mem_of_getElem? (i := 82) rfl)) wS (by decide) (by decide +kernel) (by unfold Latin; decide) (by decide) (nn := 44) (by decide) (by decide) (D at_24) rfl (by decide) (by decide) (fun t T h W E S => ?_)
      refine g_goto W (pc' := 31) (D at_26) (by decide) (by decide) ?_
      exact J31 t T h _ (by decide) (by decide) S (W.more (by decide) (by decide))
  · refine g_ldcS W (pc' := 15) (text := "apps:read") (cs := [97, 112, 112, 115, 58, 114, 101, 97, 100]) (hw _ (List.mem_of_getElem? (i := 1) rfl)) wS (by decide) (by decide +kernel) (by unfold Latin; decide) (by decide) (nn := 36) (by decide) (by decide) (D at_13) rfl (by decide) (by decide) (fun t T h W E S => ?_)
    refine g_goto W (pc' := 31) (D at_15) (by decide) (by decide) ?_
    exact J31 t T h _ (by decide) (by decide) S (W.more (by decide) (by decide))
set_option maxRecDepth 65536 in
set_option maxHeartbeats 4000000 in
theorem comes_1 {Post : Tables → Env → Array Value → State → Outcome → State → Prop} (hpost : ∀ tb e args s v u, (limb_1_1.after args s (.returned v) u = true ∧ limb_1_2.after args s (.returned v) u = true ∧ True) → ReturnedEndW s (.returned v) u (Jvm.fieldLocs frame_1_writes args s ++ Jvm.arrayLocs frame_1_arrays args s ++ Jvm.staticLocs frame_1_statics s) room_1.cells room_1.slots → Post tb e args s (.returned v) u) :
    ArmFor flags0 classFile x code maxLocals ret World_1 tables_1 room_1 Calls_1 rest_1 Pre_1 Post := by
  intro l hfl _ _ p e ha hc hk s m args below hf hA hF happ hP
  obtain ⟨hcalls, hrest, hpre⟩ := hP
  obtain ⟨-, -, -, hnamed, -, -, -, hat⟩ := (Spec.applies_iff hf).mp happ
  obtain ⟨hg, hn⟩ := and_e (Cond.before_iff.mp (show (Jvm.Cond.and given_1 narrow_1).before args s = true from hpre))
  obtain ⟨hz, u0⟩ := and_e hg
  obtain ⟨g0, u1⟩ := and_e u0
  obtain ⟨g1, u2⟩ := and_e u1
  obtain ⟨g2, u3⟩ := and_e u2
  obtain ⟨w0, w1, w2, w3, rfl⟩ : ∃ w0 w1 w2 w3 : Value, args = #[w0, w1, w2, w3] := by
    have hs : args.size = 4 := by simpa [Cond.value, given_1] using hz
    obtain ⟨L⟩ := args
    match L, hs with
    | [w0, w1, w2, w3], _ => exact ⟨w0, w1, w2, w3, rfl⟩
  have hw := fun d (hd : d ∈ tables_1) => atoms_spec (ws := Jvm.Cond.code x code maxLocals ret :: tables_1) hat d (List.mem_cons_of_mem _ hd)
  obtain ⟨hsets, hown0⟩ := atoms_of _ (rest_1_c_eq ▸ (show rest_1_c.before _ s = true from hrest))
  obtain ⟨i0, e0⟩ := is_v g0
  obtain rfl : w0 = (.int i0) := Option.some.inj e0
  obtain ⟨i1, e1⟩ := is_v g1
  obtain rfl : w1 = (.int i1) := Option.some.inj e1
  obtain ⟨i2, e2⟩ := is_v g2
  obtain rfl : w2 = (.int i2) := Option.some.inj e2
  obtain ⟨i3, e3⟩ := is_v u3
  obtain rfl : w3 = (.int i3) := Option.some.inj e3
  have hcw := hsets _ (List.mem_of_getElem? (i := 2) rfl)
  have n5 := not_v (Cond.before_iff.mp hcw)
  obtain ⟨zc, ez⟩ := is_v (Cond.before_iff.mp (hsets _ (List.mem_of_getElem? (i := 1) rfl)))
  have cst : Cst s := ⟨zc, Sta.start ez (Or.inl (hsets _ (List.mem_of_getElem? (i := 0) rfl))), gotF (Cond.eq_ints ez (Term.int_eval (0))) n5⟩
  obtain ⟨vf, ef, rf⟩ := isR_v (Cond.before_iff.mp (hsets _ (List.mem_of_getElem? (i := 8) rfl)))
  have fst : Fst s := ⟨vf, Sta.start ef (Or.inl (hsets _ (List.mem_of_getElem? (i := 7) rfl))), rf⟩
  have hEL : EW s #[.int i0, .int i1, .int i2, .int i3] consts_1 := (EW.cons (hw _ (List.mem_of_getElem? (i := 1) rfl)) (by decide +kernel) (EW.cons (hw _ (List.mem_of_getElem? (i := 82) rfl)) (by decide +kernel) (EW.cons (hw _ (List.mem_of_getElem? (i := 83) rfl)) (by decide +kernel) EW.nil)))
  have hCH : CHv s consts_1 s.vm s.heap := CHv.start hEL (fun q hq => hcalls.1 q hq) hcw (hw _ (List.mem_of_getElem? (i := 4) rfl)) (hw _ (List.mem_of_getElem? (i := 3) rfl))
  obtain ⟨m0, r0⟩ := and_e hn
  obtain ⟨m1, r1⟩ := and_e r0
  obtain ⟨m2, r2⟩ := and_e r1
  obtain ⟨m3, r3⟩ := and_e r2
  obtain ⟨m4, r4⟩ := and_e r3
  obtain ⟨m5, r5⟩ := and_e r4
  obtain ⟨m6, r6⟩ := and_e r5
  obtain ⟨m7, r7⟩ := and_e r6
  obtain ⟨m8, r8⟩ := and_e r7
  obtain ⟨m9, r9⟩ := and_e r8
  obtain ⟨m10, r10⟩ := and_e r9
  obtain ⟨m11, r11⟩ := and_e r10
  obtain ⟨m12, r12⟩ := and_e r11
  obtain ⟨m13, r13⟩ := and_e r12
  obtain ⟨m14, r14⟩ := and_e r13
  obtain ⟨m15, r15⟩ := and_e r14
  obtain ⟨m16, r16⟩ := and_e r15
  obtain ⟨m17, r17⟩ := and_e r16
  obtain ⟨m18, r18⟩ := and_e r17
  obtain ⟨m19, r19⟩ := and_e r18
  obtain ⟨m20, r20⟩ := and_e r19
  obtain ⟨m21, r21⟩ := and_e r20
  obtain ⟨m22, r22⟩ := and_e r21
  obtain ⟨m23, r23⟩ := and_e r22
  obtain ⟨m24, r24⟩ := and_e r23
  obtain ⟨m25, r25⟩ := and_e r24
  obtain ⟨m26, r26⟩ := and_e r25
  obtain ⟨m27, r27⟩ := and_e r26
  obtain ⟨m28, r28⟩ := and_e r27
  obtain ⟨m29, r29⟩ := and_e r28
  obtain ⟨m30, r30⟩ := and_e r29
  obtain ⟨m31, r31⟩ := and_e r30
  obtain ⟨m32, r32⟩ := and_e r31
  obtain ⟨m33, r33⟩ := and_e r32
  obtain ⟨m34, r34⟩ := and_e r33
  obtain ⟨m35, r35⟩ := and_e r34
  obtain ⟨m36, r36⟩ := and_e r35
  obtain ⟨m37, r37⟩ := and_e r36
  obtain ⟨m38, r38⟩ := and_e r37
  obtain ⟨m39, r39⟩ := and_e r38
  obtain ⟨m40, r40⟩ := and_e r39
  obtain ⟨m41, r41⟩ := and_e r40
  obtain ⟨m42, r42⟩ := and_e r41
  obtain ⟨m43, r43⟩ := and_e r42
  obtain ⟨m44, r44⟩ := and_e r43
  obtain ⟨m45, r45⟩ := and_e r44
  obtain ⟨m46, r46⟩ := and_e r45
  obtain ⟨m47, r47⟩ := and_e r46
  obtain ⟨m48, r48⟩ := and_e r47
  obtain ⟨m49, r49⟩ := and_e r48
  obtain ⟨m50, r50⟩ := and_e r49
  have m51 := r50
  have hfit : Fit s := fun {y c} hc i hi => by
    obtain ⟨ha, rfl⟩ := Array.getElem?_eq_some_iff.mp hc
    have q := List.all_eq_true.mp ((Array.all_eq_true_iff_forall_mem.mp hF) _ (Array.getElem_mem ha)) i (List.mem_range.mpr hi)
    simpa [Array.getElem?_eq_getElem hi] using q
  obtain ⟨q0, ev0⟩ := exa_v m3
  have X0 := Exa.start ev0 m3
  have s0 := Sta.start ev0 (Or.inr ⟨(hw _ (List.mem_of_getElem? (i := 86) rfl)), (hw _ (List.mem_of_getElem? (i := 100) rfl))⟩)
  obtain ⟨e0', fe0⟩ := exa_v m9
  have f0 : Fld s s.heap q0 NK EN SD (.ref e0') := Fld.start (by rw [fld_at ev0] at fe0; exact fe0)
  have S0 : Str s s.heap e0' C0 := str_at (bs := C0) fe0 m9 m10 m11 m12 (by decide) (by decide) (by unfold Latin; decide) (by decide) (fun i hi => match i, hi with | 0, _ => m21 | 1, _ => m22 | 2, _ => m23 | 3, _ => m24 | 4, _ => m25 | 5, _ => m26 | 6, _ => m27 | 7, _ => m28 | 8, _ => m29)
  obtain ⟨q1, ev1⟩ := exa_v m5
  have X1 := Exa.start ev1 m5
  have s1 := Sta.start ev1 (Or.inr ⟨(hw _ (List.mem_of_getElem? (i := 86) rfl)), (hw _ (List.mem_of_getElem? (i := 101) rfl))⟩)
  obtain ⟨e1', fe1⟩ := exa_v m13
  have f1 : Fld s s.heap q1 NK EN SD (.ref e1') := Fld.start (by rw [fld_at ev1] at fe1; exact fe1)
  have S1 : Str s s.heap e1' C1 := str_at (bs := C1) fe1 m13 m14 m15 m16 (by decide) (by decide) (by unfold Latin; decide) (by decide) (fun i hi => match i, hi with | 0, _ => m30 | 1, _ => m31 | 2, _ => m32 | 3, _ => m33 | 4, _ => m34 | 5, _ => m35 | 6, _ => m36 | 7, _ => m37 | 8, _ => m38 | 9, _ => m39 | 10, _ => m40)
  obtain ⟨q2, ev2⟩ := exa_v m7
  have X2 := Exa.start ev2 m7
  have s2 := Sta.start ev2 (Or.inr ⟨(hw _ (List.mem_of_getElem? (i := 86) rfl)), (hw _ (List.mem_of_getElem? (i := 102) rfl))⟩)
  obtain ⟨e2', fe2⟩ := exa_v m17
  have f2 : Fld s s.heap q2 NK EN SD (.ref e2') := Fld.start (by rw [fld_at ev2] at fe2; exact fe2)
  have S2 : Str s s.heap e2' C2 := str_at (bs := C2) fe2 m17 m18 m19 m20 (by decide) (by decide) (by unfold Latin; decide) (by decide) (fun i hi => match i, hi with | 0, _ => m41 | 1, _ => m42 | 2, _ => m43 | 3, _ => m44 | 4, _ => m45 | 5, _ => m46 | 6, _ => m47 | 7, _ => m48 | 8, _ => m49 | 9, _ => m50 | 10, _ => m51)
  obtain ⟨va, eva⟩ := arr_v m0
  have sv := Sta.start eva (Or.inr ⟨(hw _ (List.mem_of_getElem? (i := 86) rfl)), (hw _ (List.mem_of_getElem? (i := 92) rfl))⟩)
  obtain ⟨cl, Acl, hcl, -⟩ := arr_at (n := 3) (vs := fun i => ([.ref q0, .ref q1, .ref q2] : List Value).getD i .null) eva m0 m2 (by decide) (by decide) (fun i hi => match i, hi with | 0, _ => elem_ref m4 ev0 | 1, _ => elem_ref m6 ev1 | 2, _ => elem_ref m8 ev2)
  have o11 := Cond.before_iff.mp (hsets _ (List.mem_of_getElem? (i := 11) rfl))
  obtain ⟨eo, eeo⟩ := exa_v o11
  have so := Sta.start eeo (Or.inl (hsets _ (List.mem_of_getElem? (i := 10) rfl)))
  have Xo := Exa.start eeo o11
  have fo : Fld s s.heap eo OPT "value" OD .null := Fld.start (by have z := null_v (Cond.before_iff.mp (hsets _ (List.mem_of_getElem? (i := 12) rfl))); rw [fld_at eeo] at z; exact z)
  have KN : Kn s va q0 q1 q2 e0' e1' e2' eo := ⟨sv, ⟨cl, Acl, FitC.start hfit Acl, hcl⟩, Exa.start eva m1, s0, s1, s2, f0, f1, f2, S0, S1, S2, X0, X1, X2, so, Xo, fo⟩
  obtain ⟨n, o, h1, h2, h3, v, L, FF, rfl, ⟨⟨w, rfl, rfl⟩, N, hE, hFF⟩, hC, hq, hH⟩ := t_law l hw cst fst hEL KN i0 i1 i2 i3 p e ha hc hk s m _ below hf ((Spec.applies_iff_loose hf).mp happ).1 ⟨rfl, State.Warmed39.refl s, rfl, hCH, fun x q => nomatch q⟩ trivial
  refine ⟨n, _, h1, h2, h3, hpost _ _ _ _ _ _ ⟨Cond.after_iff.mpr rfl, Cond.after_iff.mpr (eq_i res_at (Term.int_eval (1)) rfl), trivial⟩ ⟨hq.1, hq.2.1, hq.2.2.1, hq.2.2.2.sift fun y hy => Or.inr (N y hy)⟩⟩
theorem main_1_1 : Claimed_1_1 := comes_1 fun _ _ _ _ _ _ h hF => ⟨h.1, hF⟩
theorem main_1_2 : Claimed_1_2 := comes_1 fun _ _ _ _ _ _ h hF => ⟨h.2.1, hF⟩
end Jvm.Pilot.@@N@@
namespace Jvm.Pilot.@@N@@
open Jvm Jvm.ClassFile Sem Op Lib Jvm.Free Jvm.Stand Jvm.Pilot.@@N@@.Jvm.D
/-! MADE BY PROGRAM (witnessworld.py) out of the Statement's table words and the real class files: 24 classes; the members and pool entries that the words name. The judged class is class 1, her method 3. -/
namespace start1
open Jvm.ClassFile
def u (s : String) : CpInfo := .utf8 (stringToUtf16 s)
/-- a pool by its gaps: so many unusable entries, then the entry; so many at the end -/
def gap : Nat → List CpInfo → List CpInfo
  | 0, r => r
  | n + 1, r => .unusable :: gap n r
def poolList (es : List (Nat × CpInfo)) (last : Nat) : List CpInfo := es.foldr (fun e r => gap e.1 (e.2 :: r)) (gap last [])
def pool (es : List (Nat × CpInfo)) (last : Nat) : Array CpInfo := ⟨poolList es last⟩
def fileOf (pool : Array CpInfo) (this : Nat) (attrs : Array Attribute := #[]) (ms : Array MethodInfo := #[]) (fl : Nat := 33) (sup : Nat := 0) (ifs : Array Nat := #[]) (fds : Array FieldInfo := #[]) : ClassFile where
  minorVersion := 0
  majorVersion := 65
  constantPool := pool
  accessFlags := fl
  thisClass := this
  superClass := sup
  interfaces := ifs
  fields := fds
  methods := ms
  attributes := attrs
def plain (name : String) (sup : Option ClassId) : Class where
  name := name
  kind := .ordinary
  loader := none
  accessFlags := 33
  super := sup
  interfaces := #[]
  cf := none
  fields := #[]
  methods := #[]
  instanceTypes := #[]
  staticTypes := #[]
  resolved := #[]
  callSites := []
  init := .initialized
  statics := none
  mirror := none

def pool0 : Array CpInfo := pool [(5, u "<init>"), (0, u "()V"), (1, .class_ 10), (1, u "java/lang/Object"), (85, u "clone"), (0, u "()Ljava/lang/Object;")] 26

def k0c0 : Code := { maxStack := 0, maxLocals := 1, code := object_method_1_code, exceptionTable := #[], attributes := #[] }
def k0m0 : Method := { name := "<init>", desc := "()V", sig := { parameters := [], returnType := none }, accessFlags := 1, code := some k0c0 }
def k0m1 : Method := { name := "clone", desc := "()Ljava/lang/Object;", sig := { parameters := [], returnType := some (.object "java/lang/Object") }, accessFlags := 260, code := none }
/-- java/lang/Object -/
def k0 : Class := { plain "java/lang/Object" none with
  accessFlags := 33
  interfaces := #[]
  cf := some (fileOf pool0 8 #[] #[{ accessFlags := 1, nameIndex := 5, descriptorIndex := 6, attributes := #[] }, { accessFlags := 260, nameIndex := 96, descriptorIndex := 97, attributes := #[] }] 33 0 #[] #[])
  fields := #[]
  methods := #[k0m0, k0m1]
  instanceTypes := #[]
  staticTypes := #[]
  resolved := Array.replicate 124 none
  statics := none }

def pool1 : Array CpInfo := pool [(2, .class_ 4), (1, u "java/lang/Object"), (0, u "<init>"), (0, u "()V"), (0, .methodref 8 9), (0, .class_ 10), (0, .nameAndType 11 12), (0, u "java/lang/String"), (0, u "length"), (0, u "()I"), (0, .methodref 8 14), (0, .nameAndType 15 16), (0, u "charAt"), (0, u "(I)C"), (0, .methodref 18 19), (0, .class_ 20), (0, .nameAndType 21 22), (0, u "com/example/crosskey/crosskey/core/ScopeOfPinLaw"), (0, u "g"), (0, u "(Ljava/lang/String;IIC)C"), (0, .methodref 8 24), (0, .nameAndType 5 25), (0, u "([C)V"), (0, .integer 2147483647), (0, .string 28), (0, u "apps:read"), (0, .string 30), (0, u "apps:create"), (0, .string 32), (0, u "apps:manage"), (0, .methodref 18 34), (0, .nameAndType 35 36), (0, u "make"), (0, u "(Ljava/lang/String;IIC)Ljava/lang/String;"), (0, .methodref 8 38), (0, .nameAndType 39 40), (0, u "equals"), (0, u "(Ljava/lang/Object;)Z"), (0, .fieldref 42 43), (0, .class_ 44), (0, .nameAndType 45 46), (0, u "com/example/crosskey/crosskey/core/Scope"), (0, u "APPS_READ"), (0, u "Lcom/example/crosskey/crosskey/core/Scope;"), (0, .fieldref 42 48), (0, .nameAndType 49 46), (0, u "APPS_CREATE"), (0, .fieldref 42 51), (0, .nameAndType 52 46), (0, u "APPS_MANAGE"), (0, .methodref 42 54), (0, .nameAndType 55 56), (0, u "of"), (0, u "(Ljava/lang/String;)Ljava/util/Optional;"), (0, .methodref 58 59), (0, .class_ 60), (0, .nameAndType 61 62), (0, u "java/util/Optional"), (0, u "isPresent"), (0, u "()Z"), (0, .methodref 58 64), (0, .nameAndType 65 66), (0, u "get"), (0, u "()Ljava/lang/Object;"), (0, .methodref 42 68), (0, .nameAndType 69 70), (0, u "value"), (0, u "()Ljava/lang/String;"), (3, u "law"), (0, u "(IIII)Z")] 2

def k1m0 : Method := { name := "<init>", desc := "()V", sig := { parameters := [], returnType := none }, accessFlags := 1, code := none }
def k1c1 : Code := { maxStack := 2, maxLocals := 4, code := method_2_code, exceptionTable := #[], attributes := #[] }
def k1m1 : Method := { name := "g", desc := "(Ljava/lang/String;IIC)C", sig := { parameters := [(.object "java/lang/String"), .int, .int, .char], returnType := some .char }, accessFlags := 10, code := some k1c1 }
def k1c2 : Code := { maxStack := 9, maxLocals := 4, code := method_3_code, exceptionTable := #[], attributes := #[] }
def k1m2 : Method := { name := "make", desc := "(Ljava/lang/String;IIC)Ljava/lang/String;", sig := { parameters := [(.object "java/lang/String"), .int, .int, .char], returnType := some (.object "java/lang/String") }, accessFlags := 10, code := some k1c2 }
def k1c3 : Code := { maxStack := 4, maxLocals := 15, code := code, exceptionTable := #[], attributes := #[] }
def k1m3 : Method := { name := "law", desc := "(IIII)Z", sig := { parameters := [.int, .int, .int, .int], returnType := some .boolean }, accessFlags := 9, code := some k1c3 }
/-- com/example/crosskey/crosskey/core/ScopeOfPinLaw -/
def k1 : Class := { plain "com/example/crosskey/crosskey/core/ScopeOfPinLaw" (some 0) with
  accessFlags := 49
  interfaces := #[]
  cf := some (fileOf pool1 18 #[] #[{ accessFlags := 1, nameIndex := 5, descriptorIndex := 6, attributes := #[] }, { accessFlags := 10, nameIndex := 21, descriptorIndex := 22, attributes := #[] }, { accessFlags := 10, nameIndex := 35, descriptorIndex := 36, attributes := #[] }, { accessFlags := 9, nameIndex := 74, descriptorIndex := 75, attributes := #[] }] 49 2 #[] #[])
  fields := #[]
  methods := #[k1m0, k1m1, k1m2, k1m3]
  instanceTypes := #[]
  staticTypes := #[]
  resolved := Array.replicate 78 none
  statics := none }

def pool2 : Array CpInfo := pool [(1, .class_ 2), (0, u "java/io/Serializable"), (0, .class_ 4), (0, u "java/lang/Object")] 2

/-- java/io/Serializable -/
def k2 : Class := { plain "java/io/Serializable" (some 0) with
  accessFlags := 1537
  interfaces := #[]
  cf := some (fileOf pool2 1 #[] #[] 1537 3 #[] #[])
  fields := #[]
  methods := #[]
  instanceTypes := #[]
  staticTypes := #[]
  resolved := Array.replicate 7 none
  statics := none }

def pool3 : Array CpInfo := pool [(1, .class_ 2), (0, u "java/lang/Comparable"), (0, .class_ 4), (0, u "java/lang/Object")] 7

/-- java/lang/Comparable -/
def k3 : Class := { plain "java/lang/Comparable" (some 0) with
  accessFlags := 1537
  interfaces := #[]
  cf := some (fileOf pool3 1 #[] #[] 1537 3 #[] #[])
  fields := #[]
  methods := #[]
  instanceTypes := #[]
  staticTypes := #[]
  resolved := Array.replicate 12 none
  statics := none }

def pool4 : Array CpInfo := pool [(2, .class_ 4), (1, u "java/lang/CharSequence"), (42, .class_ 48), (0, u "java/lang/CharSequence$1CodePointIterator"), (10, .class_ 60), (0, u "java/lang/CharSequence$1CharIterator"), (5, .class_ 67), (0, u "java/lang/Object")] 63

/-- java/lang/CharSequence -/
def k4 : Class := { plain "java/lang/CharSequence" (some 0) with
  accessFlags := 1537
  interfaces := #[]
  cf := some (fileOf pool4 2 #[.nestMembers #[47, 59]] #[] 1537 66 #[] #[])
  fields := #[]
  methods := #[]
  instanceTypes := #[]
  staticTypes := #[]
  resolved := Array.replicate 131 none
  statics := none }

def pool5 : Array CpInfo := pool [(1, .class_ 2), (0, u "java/lang/constant/Constable"), (0, .class_ 4), (0, u "java/lang/Object")] 6

/-- java/lang/constant/Constable -/
def k5 : Class := { plain "java/lang/constant/Constable" (some 0) with
  accessFlags := 1537
  interfaces := #[]
  cf := some (fileOf pool5 1 #[] #[] 1537 3 #[] #[])
  fields := #[]
  methods := #[]
  instanceTypes := #[]
  staticTypes := #[]
  resolved := Array.replicate 11 none
  statics := none }

def pool6 : Array CpInfo := pool [(1, .class_ 2), (0, u "java/lang/constant/ConstantDesc"), (0, .class_ 4), (0, u "java/lang/Object")] 32

/-- java/lang/constant/ConstantDesc -/
def k6 : Class := { plain "java/lang/constant/ConstantDesc" (some 0) with
  accessFlags := 1537
  interfaces := #[]
  cf := some (fileOf pool6 1 #[] #[] 1537 3 #[] #[])
  fields := #[]
  methods := #[]
  instanceTypes := #[]
  staticTypes := #[]
  resolved := Array.replicate 37 none
  statics := none }

def pool7 : Array CpInfo := pool [(1, .methodref 2 3), (0, .class_ 4), (0, .nameAndType 5 6), (0, u "java/lang/Object"), (0, u "<init>"), (0, u "()V"), (2, .fieldref 10 11), (0, .class_ 12), (0, .nameAndType 13 14), (0, u "java/lang/String"), (0, u "value"), (0, u "[B"), (0, .fieldref 10 16), (0, .nameAndType 17 18), (0, u "coder"), (0, u "B"), (2, u "hash"), (0, u "I"), (2, u "hashIsZero"), (0, u "Z"), (0, .methodref 10 28), (0, .nameAndType 5 29), (0, u "([CIILjava/lang/Void;)V"), (8, .fieldref 10 39), (0, .nameAndType 40 26), (0, u "COMPACT_STRINGS"), (1, .class_ 44), (1, u "java/lang/StringUTF16"), (0, u "compress"), (1, .methodref 42 48), (0, .nameAndType 49 50), (0, u "coderFromArrayLen"), (0, u "([BI)B"), (56, .class_ 109), (1, u "java/lang/StringLatin1"), (32, u "()Z"), (34, .methodref 42 178), (0, .nameAndType 45 179), (0, u "([CII)[B"), (154, u "()I"), (0, .methodref 10 336), (0, .nameAndType 17 337), (0, u "()B"), (25, u "([BI)C"), (27, u "(II)V"), (35, u "(I)C"), (64, .methodref 10 493), (0, .nameAndType 494 142), (0, u "isLatin1"), (0, .methodref 107 496), (0, .nameAndType 497 363), (0, u "charAt"), (3, u "checkIndex"), (5, u "length"), (33, .methodref 107 542), (0, .nameAndType 543 544), (0, u "equals"), (0, u "([B[B)Z"), (28, u "(Ljava/lang/Object;)Z"), (1, .class_ 576), (0, u "java/lang/CharSequence"), (22, u "CASE_INSENSITIVE_ORDER"), (0, u "Ljava/util/Comparator;"), (409, u "([C)V"), (42, .fieldref 1054 1055), (0, .class_ 1056), (0, .nameAndType 1057 1058), (0, u "jdk/internal/util/Preconditions"), (0, u "SIOOBE_FORMATTER"), (0, u "Ljava/util/function/BiFunction;"), (0, .methodref 1054 1060), (0, .nameAndType 501 1061), (0, u "(IILjava/util/function/BiFunction;)I"), (39, u "serialPersistentFields"), (0, u "[Ljava/io/ObjectStreamField;"), (0, .class_ 1104), (0, u "java/lang/String$CaseInsensitiveComparator"), (1, .class_ 1107), (0, u "java/io/Serializable"), (0, .class_ 1109), (0, u "java/lang/Comparable"), (0, .class_ 1111), (0, u "java/lang/constant/Constable"), (0, .class_ 1113), (0, u "java/lang/constant/ConstantDesc"), (2, u "serialVersionUID"), (0, u "J"), (3, u "REPL"), (0, u "C"), (2, u "LATIN1"), (1, u "UTF16")] 323

def k7m0 : Method := { name := "<init>", desc := "()V", sig := { parameters := [], returnType := none }, accessFlags := 1, code := none }
def k7c1 : Code := { maxStack := 5, maxLocals := 2, code := jdk_42_method_3_code, exceptionTable := #[], attributes := #[] }
def k7m1 : Method := { name := "<init>", desc := "([C)V", sig := { parameters := [(.array .char)], returnType := none }, accessFlags := 1, code := some k7c1 }
def k7c2 : Code := { maxStack := 2, maxLocals := 1, code := jdk_42_method_54_code, exceptionTable := #[], attributes := #[] }
def k7m2 : Method := { name := "length", desc := "()I", sig := { parameters := [], returnType := some .int }, accessFlags := 1, code := some k7c2 }
def k7c3 : Code := { maxStack := 2, maxLocals := 2, code := jdk_42_method_56_code, exceptionTable := #[], attributes := #[] }
def k7m3 : Method := { name := "charAt", desc := "(I)C", sig := { parameters := [.int], returnType := some .char }, accessFlags := 1, code := some k7c3 }
def k7c4 : Code := { maxStack := 2, maxLocals := 3, code := jdk_42_method_66_code, exceptionTable := #[], attributes := #[] }
def k7m4 : Method := { name := "equals", desc := "(Ljava/lang/Object;)Z", sig := { parameters := [(.object "java/lang/Object")], returnType := some .boolean }, accessFlags := 1, code := some k7c4 }
def k7c5 : Code := { maxStack := 4, maxLocals := 6, code := jdk_42_method_149_code, exceptionTable := #[], attributes := #[] }
def k7m5 : Method := { name := "<init>", desc := "([CIILjava/lang/Void;)V", sig := { parameters := [(.array .char), .int, .int, (.object "java/lang/Void")], returnType := none }, accessFlags := 2, code := some k7c5 }
def k7c6 : Code := { maxStack := 1, maxLocals := 1, code := jdk_42_method_152_code, exceptionTable := #[], attributes := #[] }
def k7m6 : Method := { name := "coder", desc := "()B", sig := { parameters := [], returnType := some .byte }, accessFlags := 0, code := some k7c6 }
def k7c7 : Code := { maxStack := 1, maxLocals := 1, code := jdk_42_method_154_code, exceptionTable := #[], attributes := #[] }
def k7m7 : Method := { name := "isLatin1", desc := "()Z", sig := { parameters := [], returnType := some .boolean }, accessFlags := 0, code := some k7c7 }
def k7c8 : Code := { maxStack := 3, maxLocals := 2, code := jdk_42_method_155_code, exceptionTable := #[], attributes := #[] }
def k7m8 : Method := { name := "checkIndex", desc := "(II)V", sig := { parameters := [.int, .int], returnType := none }, accessFlags := 8, code := some k7c8 }
/-- java/lang/String -/
def k7 : Class := { plain "java/lang/String" (some 0) with
  accessFlags := 49
  interfaces := #[2, 3, 4, 5, 6]
  cf := some (fileOf pool7 10 #[.nestMembers #[1103]] #[{ accessFlags := 1, nameIndex := 5, descriptorIndex := 6, attributes := #[] }, { accessFlags := 1, nameIndex := 5, descriptorIndex := 1010, attributes := #[] }, { accessFlags := 1, nameIndex := 507, descriptorIndex := 334, attributes := #[] }, { accessFlags := 1, nameIndex := 497, descriptorIndex := 427, attributes := #[] }, { accessFlags := 1, nameIndex := 543, descriptorIndex := 573, attributes := #[] }, { accessFlags := 2, nameIndex := 5, descriptorIndex := 29, attributes := #[] }, { accessFlags := 0, nameIndex := 17, descriptorIndex := 337, attributes := #[] }, { accessFlags := 0, nameIndex := 494, descriptorIndex := 142, attributes := #[] }, { accessFlags := 8, nameIndex := 501, descriptorIndex := 391, attributes := #[] }] 49 2 #[1106, 1108, 575, 1110, 1112] #[{ accessFlags := 18, nameIndex := 13, descriptorIndex := 14, attributes := #[] }, { accessFlags := 18, nameIndex := 17, descriptorIndex := 18, attributes := #[] }, { accessFlags := 2, nameIndex := 21, descriptorIndex := 22, attributes := #[] }, { accessFlags := 2, nameIndex := 25, descriptorIndex := 26, attributes := #[] }, { accessFlags := 26, nameIndex := 1116, descriptorIndex := 1117, attributes := #[] }, { accessFlags := 24, nameIndex := 40, descriptorIndex := 26, attributes := #[] }, { accessFlags := 26, nameIndex := 1101, descriptorIndex := 1102, attributes := #[] }, { accessFlags := 26, nameIndex := 1121, descriptorIndex := 1122, attributes := #[] }, { accessFlags := 25, nameIndex := 599, descriptorIndex := 600, attributes := #[] }, { accessFlags := 24, nameIndex := 1125, descriptorIndex := 18, attributes := #[] }, { accessFlags := 24, nameIndex := 1127, descriptorIndex := 18, attributes := #[] }])
  fields := #[{ name := "value", type := (.array .byte), accessFlags := 18, slot := 0, constantValue := 0 }, { name := "coder", type := .byte, accessFlags := 18, slot := 1, constantValue := 0 }, { name := "hash", type := .int, accessFlags := 2, slot := 2, constantValue := 0 }, { name := "hashIsZero", type := .boolean, accessFlags := 2, slot := 3, constantValue := 0 }, { name := "serialVersionUID", type := .long, accessFlags := 26, slot := 0, constantValue := 0 }, { name := "COMPACT_STRINGS", type := .boolean, accessFlags := 24, slot := 1, constantValue := 0 }, { name := "serialPersistentFields", type := (.array (.object "java/io/ObjectStreamField")), accessFlags := 26, slot := 2, constantValue := 0 }, { name := "REPL", type := .char, accessFlags := 26, slot := 3, constantValue := 0 }, { name := "CASE_INSENSITIVE_ORDER", type := (.object "java/util/Comparator"), accessFlags := 25, slot := 4, constantValue := 0 }, { name := "LATIN1", type := .byte, accessFlags := 24, slot := 5, constantValue := 0 }, { name := "UTF16", type := .byte, accessFlags := 24, slot := 6, constantValue := 0 }]
  methods := #[k7m0, k7m1, k7m2, k7m3, k7m4, k7m5, k7m6, k7m7, k7m8]
  instanceTypes := #[(.array .byte), .byte, .int, .boolean]
  staticTypes := #[.long, .boolean, (.array (.object "java/io/ObjectStreamField")), .char, (.object "java/util/Comparator"), .byte, .byte]
  resolved := Array.replicate 1451 none
  statics := some 0 }

def pool8 : Array CpInfo := pool [(1, .class_ 2), (0, u "java/lang/String"), (1, .class_ 6), (1, u "java/lang/Object"), (0, u "<init>"), (0, u "()V"), (0, .methodref 1 10), (0, .nameAndType 11 12), (0, u "checkIndex"), (0, u "(II)V"), (1, .class_ 16), (1, u "java/lang/StringLatin1"), (36, u "([BI)C"), (67, u "$assertionsDisabled"), (0, u "Z"), (98, .class_ 223), (1, u "java/lang/StringLatin1$LinesSpliterator"), (28, u "charAt"), (28, u "equals"), (0, u "([B[B)Z"), (107, .class_ 391), (0, u "java/lang/StringLatin1$CharsSpliterator")] 3

def k8m0 : Method := { name := "<init>", desc := "()V", sig := { parameters := [], returnType := none }, accessFlags := 0, code := none }
def k8c1 : Code := { maxStack := 2, maxLocals := 2, code := jdk_43_method_2_code, exceptionTable := #[], attributes := #[] }
def k8m1 : Method := { name := "charAt", desc := "([BI)C", sig := { parameters := [(.array .byte), .int], returnType := some .char }, accessFlags := 9, code := some k8c1 }
def k8c2 : Code := { maxStack := 3, maxLocals := 3, code := jdk_43_method_13_code, exceptionTable := #[], attributes := #[] }
def k8m2 : Method := { name := "equals", desc := "([B[B)Z", sig := { parameters := [(.array .byte), (.array .byte)], returnType := some .boolean }, accessFlags := 9, code := some k8c2 }
/-- java/lang/StringLatin1 -/
def k8 : Class := { plain "java/lang/StringLatin1" (some 0) with
  accessFlags := 48
  interfaces := #[]
  cf := some (fileOf pool8 14 #[.nestMembers #[390, 221]] #[{ accessFlags := 0, nameIndex := 7, descriptorIndex := 8, attributes := #[] }, { accessFlags := 9, nameIndex := 252, descriptorIndex := 53, attributes := #[] }, { accessFlags := 9, nameIndex := 281, descriptorIndex := 282, attributes := #[] }] 48 4 #[] #[{ accessFlags := 4120, nameIndex := 121, descriptorIndex := 122, attributes := #[] }])
  fields := #[{ name := "$assertionsDisabled", type := .boolean, accessFlags := 4120, slot := 0, constantValue := 0 }]
  methods := #[k8m0, k8m1, k8m2]
  instanceTypes := #[]
  staticTypes := #[.boolean]
  resolved := Array.replicate 395 none
  statics := none }

def pool9 : Array CpInfo := pool [(2, .class_ 4), (1, u "java/lang/Object"), (0, u "<init>"), (0, u "()V"), (17, .class_ 26), (1, u "jdk/internal/util/Preconditions"), (6, u "checkIndex"), (21, .class_ 56), (0, u "jdk/internal/util/Preconditions$4"), (57, .class_ 115), (0, u "jdk/internal/util/Preconditions$1"), (7, u "SIOOBE_FORMATTER"), (0, u "Ljava/util/function/BiFunction;"), (0, .class_ 126), (0, u "jdk/internal/util/Preconditions$2"), (3, u "AIOOBE_FORMATTER"), (0, .class_ 132), (0, u "jdk/internal/util/Preconditions$3"), (3, u "IOOBE_FORMATTER"), (41, u "(IILjava/util/function/BiFunction;)I")] 15

def k9m0 : Method := { name := "<init>", desc := "()V", sig := { parameters := [], returnType := none }, accessFlags := 1, code := none }
def k9c1 : Code := { maxStack := 3, maxLocals := 3, code := jdk_41_method_11_code, exceptionTable := #[], attributes := #[] }
def k9m1 : Method := { name := "checkIndex", desc := "(IILjava/util/function/BiFunction;)I", sig := { parameters := [.int, .int, (.object "java/util/function/BiFunction")], returnType := some .int }, accessFlags := 9, code := some k9c1 }
/-- jdk/internal/util/Preconditions -/
def k9 : Class := { plain "jdk/internal/util/Preconditions" (some 0) with
  accessFlags := 33
  interfaces := #[]
  cf := some (fileOf pool9 24 #[.nestMembers #[55, 131, 125, 114]] #[{ accessFlags := 1, nameIndex := 5, descriptorIndex := 6, attributes := #[] }, { accessFlags := 9, nameIndex := 33, descriptorIndex := 178, attributes := #[] }] 33 2 #[] #[{ accessFlags := 25, nameIndex := 123, descriptorIndex := 124, attributes := #[] }, { accessFlags := 25, nameIndex := 130, descriptorIndex := 124, attributes := #[] }, { accessFlags := 25, nameIndex := 136, descriptorIndex := 124, attributes := #[] }])
  fields := #[{ name := "SIOOBE_FORMATTER", type := (.object "java/util/function/BiFunction"), accessFlags := 25, slot := 0, constantValue := 0 }, { name := "AIOOBE_FORMATTER", type := (.object "java/util/function/BiFunction"), accessFlags := 25, slot := 1, constantValue := 0 }, { name := "IOOBE_FORMATTER", type := (.object "java/util/function/BiFunction"), accessFlags := 25, slot := 2, constantValue := 0 }]
  methods := #[k9m0, k9m1]
  instanceTypes := #[]
  staticTypes := #[(.object "java/util/function/BiFunction"), (.object "java/util/function/BiFunction"), (.object "java/util/function/BiFunction")]
  resolved := Array.replicate 194 none
  statics := some 1 }

def pool10 : Array CpInfo := pool [(6, .class_ 8), (1, u "java/lang/Object"), (0, u "<init>"), (0, u "()V"), (1, .class_ 14), (1, u "java/lang/StringUTF16"), (31, u "$assertionsDisabled"), (0, u "Z"), (13, u "HI_BYTE_SHIFT"), (0, u "I"), (2, u "LO_BYTE_SHIFT"), (49, .methodref 12 116), (0, .nameAndType 117 118), (0, u "compress"), (0, u "([CI[BII)I"), (3, u "([CII)[B"), (138, u "coderFromArrayLen"), (0, u "([BI)B"), (106, .class_ 371), (1, u "java/lang/StringUTF16$LinesSpliterator"), (58, u "MAX_LENGTH"), (196, .class_ 628), (0, u "java/lang/StringUTF16$CodePointsSpliterator"), (0, .class_ 630), (0, u "java/lang/StringUTF16$CharsSpliterator")] 4

def k10m0 : Method := { name := "<init>", desc := "()V", sig := { parameters := [], returnType := none }, accessFlags := 0, code := none }
def k10c1 : Code := { maxStack := 2, maxLocals := 2, code := jdk_52_method_15_code, exceptionTable := #[], attributes := #[] }
def k10m1 : Method := { name := "coderFromArrayLen", desc := "([BI)B", sig := { parameters := [(.array .byte), .int], returnType := some .byte }, accessFlags := 8, code := some k10c1 }
def k10c2 : Code := { maxStack := 5, maxLocals := 6, code := jdk_52_method_16_code, exceptionTable := #[], attributes := #[] }
def k10m2 : Method := { name := "compress", desc := "([CII)[B", sig := { parameters := [(.array .char), .int, .int], returnType := some (.array .byte) }, accessFlags := 9, code := some k10c2 }
def k10c3 : Code := { maxStack := 3, maxLocals := 7, code := jdk_52_method_21_code, exceptionTable := #[], attributes := #[] }
def k10m3 : Method := { name := "compress", desc := "([CI[BII)I", sig := { parameters := [(.array .char), .int, (.array .byte), .int, .int], returnType := some .int }, accessFlags := 9, code := some k10c3 }
/-- java/lang/StringUTF16 -/
def k10 : Class := { plain "java/lang/StringUTF16" (some 0) with
  accessFlags := 48
  interfaces := #[]
  cf := some (fileOf pool10 12 #[.nestMembers #[627, 629, 369]] #[{ accessFlags := 0, nameIndex := 9, descriptorIndex := 10, attributes := #[] }, { accessFlags := 8, nameIndex := 261, descriptorIndex := 262, attributes := #[] }, { accessFlags := 9, nameIndex := 117, descriptorIndex := 122, attributes := #[] }, { accessFlags := 9, nameIndex := 117, descriptorIndex := 118, attributes := #[] }] 48 6 #[] #[{ accessFlags := 26, nameIndex := 61, descriptorIndex := 62, attributes := #[] }, { accessFlags := 26, nameIndex := 65, descriptorIndex := 62, attributes := #[] }, { accessFlags := 24, nameIndex := 430, descriptorIndex := 62, attributes := #[] }, { accessFlags := 4120, nameIndex := 46, descriptorIndex := 47, attributes := #[] }])
  fields := #[{ name := "HI_BYTE_SHIFT", type := .int, accessFlags := 26, slot := 0, constantValue := 0 }, { name := "LO_BYTE_SHIFT", type := .int, accessFlags := 26, slot := 1, constantValue := 0 }, { name := "MAX_LENGTH", type := .int, accessFlags := 24, slot := 2, constantValue := 0 }, { name := "$assertionsDisabled", type := .boolean, accessFlags := 4120, slot := 3, constantValue := 0 }]
  methods := #[k10m0, k10m1, k10m2, k10m3]
  instanceTypes := #[]
  staticTypes := #[.int, .int, .int, .boolean]
  resolved := Array.replicate 635 none
  statics := none }

def pool11 : Array CpInfo := pool [(2, .class_ 4), (1, u "java/lang/Enum"), (0, u "name"), (0, u "Ljava/lang/String;"), (2, u "ordinal"), (0, u "I"), (1, .class_ 14), (1, u "java/lang/Object"), (4, u "hash"), (86, .class_ 108), (1, u "java/lang/Enum$EnumDesc"), (2, .class_ 112), (0, u "java/lang/constant/Constable"), (0, .class_ 114), (0, u "java/lang/Comparable"), (0, .class_ 116), (0, u "java/io/Serializable")] 87

/-- java/lang/Enum -/
def k11 : Class := { plain "java/lang/Enum" (some 0) with
  accessFlags := 1057
  interfaces := #[5, 3, 2]
  cf := some (fileOf pool11 2 #[.nestMembers #[106]] #[] 1057 12 #[111, 113, 115] #[{ accessFlags := 18, nameIndex := 5, descriptorIndex := 6, attributes := #[] }, { accessFlags := 18, nameIndex := 9, descriptorIndex := 10, attributes := #[] }, { accessFlags := 2, nameIndex := 19, descriptorIndex := 10, attributes := #[] }])
  fields := #[{ name := "name", type := (.object "java/lang/String"), accessFlags := 18, slot := 0, constantValue := 0 }, { name := "ordinal", type := .int, accessFlags := 18, slot := 1, constantValue := 0 }, { name := "hash", type := .int, accessFlags := 2, slot := 2, constantValue := 0 }]
  methods := #[]
  instanceTypes := #[(.object "java/lang/String"), .int, .int]
  staticTypes := #[]
  resolved := Array.replicate 204 none
  statics := none }

def pool12 : Array CpInfo := pool [(1, .class_ 2), (0, u "com/example/crosskey/crosskey/core/Scope"), (2, u "APPS_READ"), (0, u "Lcom/example/crosskey/crosskey/core/Scope;"), (2, u "APPS_CREATE"), (2, u "APPS_MANAGE"), (0, .fieldref 1 14), (0, .nameAndType 15 16), (0, u "$VALUES"), (0, u "[Lcom/example/crosskey/crosskey/core/Scope;"), (0, .methodref 18 19), (0, .class_ 16), (0, .nameAndType 20 21), (0, u "clone"), (0, u "()Ljava/lang/Object;"), (1, .class_ 25), (1, u "java/lang/Enum"), (6, .fieldref 1 33), (0, .nameAndType 34 35), (0, u "value"), (0, u "Ljava/lang/String;"), (2, u "description"), (0, .methodref 1 40), (0, .nameAndType 41 42), (0, u "values"), (0, u "()[Lcom/example/crosskey/crosskey/core/Scope;"), (0, .methodref 44 45), (0, .class_ 46), (0, .nameAndType 47 48), (0, u "java/lang/String"), (0, u "equals"), (0, u "(Ljava/lang/Object;)Z"), (0, .methodref 50 51), (0, .class_ 52), (0, .nameAndType 53 54), (0, u "java/util/Optional"), (0, u "of"), (0, u "(Ljava/lang/Object;)Ljava/util/Optional;"), (0, .methodref 50 56), (0, .nameAndType 57 58), (0, u "empty"), (0, u "()Ljava/util/Optional;"), (27, u "()Ljava/lang/String;"), (0, u "(Ljava/lang/String;)Ljava/util/Optional;")] 7

def k12c0 : Code := { maxStack := 1, maxLocals := 0, code := prog_21_method_1_code, exceptionTable := #[], attributes := #[] }
def k12m0 : Method := { name := "values", desc := "()[Lcom/example/crosskey/crosskey/core/Scope;", sig := { parameters := [], returnType := some (.array (.object "com/example/crosskey/crosskey/core/Scope")) }, accessFlags := 9, code := some k12c0 }
def k12c1 : Code := { maxStack := 1, maxLocals := 1, code := prog_21_method_4_code, exceptionTable := #[], attributes := #[] }
def k12m1 : Method := { name := "value", desc := "()Ljava/lang/String;", sig := { parameters := [], returnType := some (.object "java/lang/String") }, accessFlags := 1, code := some k12c1 }
def k12c2 : Code := { maxStack := 2, maxLocals := 5, code := prog_21_method_6_code, exceptionTable := #[], attributes := #[] }
def k12m2 : Method := { name := "of", desc := "(Ljava/lang/String;)Ljava/util/Optional;", sig := { parameters := [(.object "java/lang/String")], returnType := some (.object "java/util/Optional") }, accessFlags := 9, code := some k12c2 }
/-- com/example/crosskey/crosskey/core/Scope -/
def k12 : Class := { plain "com/example/crosskey/crosskey/core/Scope" (some 11) with
  accessFlags := 16433
  interfaces := #[]
  cf := some (fileOf pool12 1 #[] #[{ accessFlags := 9, nameIndex := 41, descriptorIndex := 42, attributes := #[] }, { accessFlags := 1, nameIndex := 34, descriptorIndex := 86, attributes := #[] }, { accessFlags := 9, nameIndex := 53, descriptorIndex := 87, attributes := #[] }] 16433 23 #[] #[{ accessFlags := 16409, nameIndex := 5, descriptorIndex := 6, attributes := #[] }, { accessFlags := 16409, nameIndex := 9, descriptorIndex := 6, attributes := #[] }, { accessFlags := 16409, nameIndex := 12, descriptorIndex := 6, attributes := #[] }, { accessFlags := 18, nameIndex := 34, descriptorIndex := 35, attributes := #[] }, { accessFlags := 18, nameIndex := 38, descriptorIndex := 35, attributes := #[] }, { accessFlags := 4122, nameIndex := 15, descriptorIndex := 16, attributes := #[] }])
  fields := #[{ name := "APPS_READ", type := (.object "com/example/crosskey/crosskey/core/Scope"), accessFlags := 16409, slot := 0, constantValue := 0 }, { name := "APPS_CREATE", type := (.object "com/example/crosskey/crosskey/core/Scope"), accessFlags := 16409, slot := 1, constantValue := 0 }, { name := "APPS_MANAGE", type := (.object "com/example/crosskey/crosskey/core/Scope"), accessFlags := 16409, slot := 2, constantValue := 0 }, { name := "value", type := (.object "java/lang/String"), accessFlags := 18, slot := 3, constantValue := 0 }, { name := "description", type := (.object "java/lang/String"), accessFlags := 18, slot := 4, constantValue := 0 }, { name := "$VALUES", type := (.array (.object "com/example/crosskey/crosskey/core/Scope")), accessFlags := 4122, slot := 3, constantValue := 0 }]
  methods := #[k12m0, k12m1, k12m2]
  instanceTypes := #[(.object "java/lang/String"), .int, .int, (.object "java/lang/String"), (.object "java/lang/String")]
  staticTypes := #[(.object "com/example/crosskey/crosskey/core/Scope"), (.object "com/example/crosskey/crosskey/core/Scope"), (.object "com/example/crosskey/crosskey/core/Scope"), (.array (.object "com/example/crosskey/crosskey/core/Scope"))]
  resolved := Array.replicate 95 none
  statics := some 2 }

def pool13 : Array CpInfo := pool [(1, .class_ 2), (0, u "java/lang/Cloneable"), (0, .class_ 4), (0, u "java/lang/Object")] 2

/-- java/lang/Cloneable -/
def k13 : Class := { plain "java/lang/Cloneable" (some 0) with
  accessFlags := 1537
  interfaces := #[]
  cf := some (fileOf pool13 1 #[] #[] 1537 3 #[] #[])
  fields := #[]
  methods := #[]
  instanceTypes := #[]
  staticTypes := #[]
  resolved := Array.replicate 7 none
  statics := none }

def pool14 : Array CpInfo := pool [(1, .fieldref 2 3), (0, .class_ 4), (0, .nameAndType 5 6), (0, u "java/util/Optional"), (0, u "EMPTY"), (0, u "Ljava/util/Optional;"), (0, .methodref 8 9), (0, .class_ 10), (0, .nameAndType 11 12), (0, u "java/lang/Object"), (0, u "<init>"), (0, u "()V"), (0, .fieldref 2 14), (0, .nameAndType 15 16), (0, u "value"), (0, u "Ljava/lang/Object;"), (0, .methodref 18 19), (0, .class_ 20), (0, .nameAndType 21 22), (0, u "java/util/Objects"), (0, u "requireNonNull"), (0, u "(Ljava/lang/Object;)Ljava/lang/Object;"), (0, .methodref 2 24), (0, .nameAndType 11 25), (0, u "(Ljava/lang/Object;)V"), (20, u "()Z"), (8, u "empty"), (0, u "()Ljava/util/Optional;"), (8, u "(Ljava/lang/Object;)Ljava/util/Optional;"), (2, u "isPresent"), (4, u "get"), (0, u "()Ljava/lang/Object;"), (7, u "of")] 104

def k14c0 : Code := { maxStack := 1, maxLocals := 1, code := jdk_32_method_1_code, exceptionTable := #[], attributes := #[] }
def k14m0 : Method := { name := "empty", desc := "()Ljava/util/Optional;", sig := { parameters := [], returnType := some (.object "java/util/Optional") }, accessFlags := 9, code := some k14c0 }
def k14c1 : Code := { maxStack := 2, maxLocals := 2, code := jdk_32_method_2_code, exceptionTable := #[], attributes := #[] }
def k14m1 : Method := { name := "<init>", desc := "(Ljava/lang/Object;)V", sig := { parameters := [(.object "java/lang/Object")], returnType := none }, accessFlags := 2, code := some k14c1 }
def k14c2 : Code := { maxStack := 3, maxLocals := 1, code := jdk_32_method_3_code, exceptionTable := #[], attributes := #[] }
def k14m2 : Method := { name := "of", desc := "(Ljava/lang/Object;)Ljava/util/Optional;", sig := { parameters := [(.object "java/lang/Object")], returnType := some (.object "java/util/Optional") }, accessFlags := 9, code := some k14c2 }
def k14c3 : Code := { maxStack := 3, maxLocals := 1, code := jdk_32_method_5_code, exceptionTable := #[], attributes := #[] }
def k14m3 : Method := { name := "get", desc := "()Ljava/lang/Object;", sig := { parameters := [], returnType := some (.object "java/lang/Object") }, accessFlags := 1, code := some k14c3 }
def k14c4 : Code := { maxStack := 1, maxLocals := 1, code := jdk_32_method_6_code, exceptionTable := #[], attributes := #[] }
def k14m4 : Method := { name := "isPresent", desc := "()Z", sig := { parameters := [], returnType := some .boolean }, accessFlags := 1, code := some k14c4 }
/-- java/util/Optional -/
def k14 : Class := { plain "java/util/Optional" (some 0) with
  accessFlags := 49
  interfaces := #[]
  cf := some (fileOf pool14 2 #[] #[{ accessFlags := 9, nameIndex := 55, descriptorIndex := 56, attributes := #[] }, { accessFlags := 2, nameIndex := 11, descriptorIndex := 25, attributes := #[] }, { accessFlags := 9, nameIndex := 82, descriptorIndex := 65, attributes := #[] }, { accessFlags := 1, nameIndex := 73, descriptorIndex := 74, attributes := #[] }, { accessFlags := 1, nameIndex := 68, descriptorIndex := 46, attributes := #[] }] 49 8 #[] #[{ accessFlags := 26, nameIndex := 5, descriptorIndex := 6, attributes := #[] }, { accessFlags := 18, nameIndex := 15, descriptorIndex := 16, attributes := #[] }])
  fields := #[{ name := "EMPTY", type := (.object "java/util/Optional"), accessFlags := 26, slot := 0, constantValue := 0 }, { name := "value", type := (.object "java/lang/Object"), accessFlags := 18, slot := 0, constantValue := 0 }]
  methods := #[k14m0, k14m1, k14m2, k14m3, k14m4]
  instanceTypes := #[(.object "java/lang/Object")]
  staticTypes := #[(.object "java/util/Optional")]
  resolved := Array.replicate 187 none
  statics := some 3 }

def pool15 : Array CpInfo := pool [(2, .class_ 4), (1, u "java/lang/Object"), (0, u "<init>"), (0, u "()V"), (35, .class_ 44), (1, u "java/util/Objects"), (0, u "requireNonNull"), (0, u "(Ljava/lang/Object;)Ljava/lang/Object;")] 137

def k15m0 : Method := { name := "<init>", desc := "()V", sig := { parameters := [], returnType := none }, accessFlags := 2, code := none }
def k15c1 : Code := { maxStack := 2, maxLocals := 1, code := jdk_31_method_10_code, exceptionTable := #[], attributes := #[] }
def k15m1 : Method := { name := "requireNonNull", desc := "(Ljava/lang/Object;)Ljava/lang/Object;", sig := { parameters := [(.object "java/lang/Object")], returnType := some (.object "java/lang/Object") }, accessFlags := 9, code := some k15c1 }
/-- java/util/Objects -/
def k15 : Class := { plain "java/util/Objects" (some 0) with
  accessFlags := 49
  interfaces := #[]
  cf := some (fileOf pool15 42 #[] #[{ accessFlags := 2, nameIndex := 5, descriptorIndex := 6, attributes := #[] }, { accessFlags := 9, nameIndex := 45, descriptorIndex := 46, attributes := #[] }] 49 2 #[] #[])
  fields := #[]
  methods := #[k15m0, k15m1]
  instanceTypes := #[]
  staticTypes := #[]
  resolved := Array.replicate 184 none
  statics := none }

def pool16 : Array CpInfo := pool [(9, u "<init>"), (6, .class_ 18), (1, u "java/lang/Object"), (0, u "()V"), (1, .class_ 23), (1, u "jdk/internal/util/ArraysSupport"), (0, u "LOG2_ARRAY_LONG_INDEX_SCALE"), (0, u "I"), (2, u "U"), (0, u "Ljdk/internal/misc/Unsafe;"), (8, u "BIG_ENDIAN"), (0, u "Z"), (8, u "LOG2_BYTE_BIT_SIZE"), (4, u "LOG2_ARRAY_INT_INDEX_SCALE"), (54, u "JLA"), (0, u "Ljdk/internal/access/JavaLangAccess;"), (11, u "LOG2_ARRAY_BOOLEAN_INDEX_SCALE"), (9, u "LOG2_ARRAY_BYTE_INDEX_SCALE"), (5, u "LOG2_ARRAY_CHAR_INDEX_SCALE"), (5, u "LOG2_ARRAY_SHORT_INDEX_SCALE"), (18, u "LOG2_ARRAY_FLOAT_INDEX_SCALE"), (24, u "LOG2_ARRAY_DOUBLE_INDEX_SCALE"), (89, u "T_BOOLEAN"), (2, u "T_CHAR"), (1, u "T_FLOAT"), (1, u "T_DOUBLE"), (1, u "T_BYTE"), (1, u "T_SHORT"), (1, u "T_INT"), (1, u "T_LONG"), (1, u "SOFT_MAX_ARRAY_LENGTH")] 83

def k16m0 : Method := { name := "<init>", desc := "()V", sig := { parameters := [], returnType := none }, accessFlags := 2, code := none }
/-- jdk/internal/util/ArraysSupport -/
def k16 : Class := { plain "jdk/internal/util/ArraysSupport" (some 0) with
  accessFlags := 33
  interfaces := #[]
  cf := some (fileOf pool16 21 #[] #[{ accessFlags := 2, nameIndex := 9, descriptorIndex := 19, attributes := #[] }] 33 16 #[] #[{ accessFlags := 24, nameIndex := 28, descriptorIndex := 29, attributes := #[] }, { accessFlags := 26, nameIndex := 38, descriptorIndex := 39, attributes := #[] }, { accessFlags := 25, nameIndex := 121, descriptorIndex := 25, attributes := #[] }, { accessFlags := 25, nameIndex := 131, descriptorIndex := 25, attributes := #[] }, { accessFlags := 25, nameIndex := 137, descriptorIndex := 25, attributes := #[] }, { accessFlags := 25, nameIndex := 143, descriptorIndex := 25, attributes := #[] }, { accessFlags := 25, nameIndex := 53, descriptorIndex := 25, attributes := #[] }, { accessFlags := 25, nameIndex := 24, descriptorIndex := 25, attributes := #[] }, { accessFlags := 25, nameIndex := 162, descriptorIndex := 25, attributes := #[] }, { accessFlags := 25, nameIndex := 187, descriptorIndex := 25, attributes := #[] }, { accessFlags := 26, nameIndex := 48, descriptorIndex := 25, attributes := #[] }, { accessFlags := 25, nameIndex := 277, descriptorIndex := 25, attributes := #[] }, { accessFlags := 25, nameIndex := 280, descriptorIndex := 25, attributes := #[] }, { accessFlags := 25, nameIndex := 282, descriptorIndex := 25, attributes := #[] }, { accessFlags := 25, nameIndex := 284, descriptorIndex := 25, attributes := #[] }, { accessFlags := 25, nameIndex := 286, descriptorIndex := 25, attributes := #[] }, { accessFlags := 25, nameIndex := 288, descriptorIndex := 25, attributes := #[] }, { accessFlags := 25, nameIndex := 290, descriptorIndex := 25, attributes := #[] }, { accessFlags := 25, nameIndex := 292, descriptorIndex := 25, attributes := #[] }, { accessFlags := 26, nameIndex := 108, descriptorIndex := 109, attributes := #[] }, { accessFlags := 25, nameIndex := 294, descriptorIndex := 25, attributes := #[] }])
  fields := #[{ name := "U", type := (.object "jdk/internal/misc/Unsafe"), accessFlags := 24, slot := 0, constantValue := 0 }, { name := "BIG_ENDIAN", type := .boolean, accessFlags := 26, slot := 1, constantValue := 0 }, { name := "LOG2_ARRAY_BOOLEAN_INDEX_SCALE", type := .int, accessFlags := 25, slot := 2, constantValue := 0 }, { name := "LOG2_ARRAY_BYTE_INDEX_SCALE", type := .int, accessFlags := 25, slot := 3, constantValue := 0 }, { name := "LOG2_ARRAY_CHAR_INDEX_SCALE", type := .int, accessFlags := 25, slot := 4, constantValue := 0 }, { name := "LOG2_ARRAY_SHORT_INDEX_SCALE", type := .int, accessFlags := 25, slot := 5, constantValue := 0 }, { name := "LOG2_ARRAY_INT_INDEX_SCALE", type := .int, accessFlags := 25, slot := 6, constantValue := 0 }, { name := "LOG2_ARRAY_LONG_INDEX_SCALE", type := .int, accessFlags := 25, slot := 7, constantValue := 0 }, { name := "LOG2_ARRAY_FLOAT_INDEX_SCALE", type := .int, accessFlags := 25, slot := 8, constantValue := 0 }, { name := "LOG2_ARRAY_DOUBLE_INDEX_SCALE", type := .int, accessFlags := 25, slot := 9, constantValue := 0 }, { name := "LOG2_BYTE_BIT_SIZE", type := .int, accessFlags := 26, slot := 10, constantValue := 0 }, { name := "T_BOOLEAN", type := .int, accessFlags := 25, slot := 11, constantValue := 0 }, { name := "T_CHAR", type := .int, accessFlags := 25, slot := 12, constantValue := 0 }, { name := "T_FLOAT", type := .int, accessFlags := 25, slot := 13, constantValue := 0 }, { name := "T_DOUBLE", type := .int, accessFlags := 25, slot := 14, constantValue := 0 }, { name := "T_BYTE", type := .int, accessFlags := 25, slot := 15, constantValue := 0 }, { name := "T_SHORT", type := .int, accessFlags := 25, slot := 16, constantValue := 0 }, { name := "T_INT", type := .int, accessFlags := 25, slot := 17, constantValue := 0 }, { name := "T_LONG", type := .int, accessFlags := 25, slot := 18, constantValue := 0 }, { name := "JLA", type := (.object "jdk/internal/access/JavaLangAccess"), accessFlags := 26, slot := 19, constantValue := 0 }, { name := "SOFT_MAX_ARRAY_LENGTH", type := .int, accessFlags := 25, slot := 20, constantValue := 0 }]
  methods := #[k16m0]
  instanceTypes := #[]
  staticTypes := #[(.object "jdk/internal/misc/Unsafe"), .boolean, .int, .int, .int, .int, .int, .int, .int, .int, .int, .int, .int, .int, .int, .int, .int, .int, .int, (.object "jdk/internal/access/JavaLangAccess"), .int]
  resolved := Array.replicate 378 none
  statics := none }

/-- the primitive byte -/
def k17 : Class := { plain "byte" none with kind := .primitive 'B', accessFlags := 0x411 }
/-- [B -/
def k18 : Class := { plain "[B" (some 0) with kind := .array 17 .byte, interfaces := #[13, 2], accessFlags := 1041 }

/-- the primitive char -/
def k19 : Class := { plain "char" none with kind := .primitive 'C', accessFlags := 0x411 }
/-- [C -/
def k20 : Class := { plain "[C" (some 0) with kind := .array 19 .char, interfaces := #[13, 2], accessFlags := 1041 }

/-- the primitive int -/
def k21 : Class := { plain "int" none with kind := .primitive 'I', accessFlags := 0x411 }
/-- [I -/
def k22 : Class := { plain "[I" (some 0) with kind := .array 21 .int, interfaces := #[13, 2], accessFlags := 1041 }

/-- [Lcom/example/crosskey/crosskey/core/Scope; -/
def k23 : Class := { plain "[Lcom/example/crosskey/crosskey/core/Scope;" (some 0) with kind := .array 12 (.object "com/example/crosskey/crosskey/core/Scope"), interfaces := #[13, 2], accessFlags := 1041 }

def heap : Heap := #[{ cls := 7, slots := #[.long 0, .int 1, .null, .int 0, .null, .int 0, .int 0], vm := .statics 7 },
  { cls := 9, slots := #[.null, .null, .null], vm := .statics 9 },
  { cls := 12, slots := #[.ref 7, .ref 10, .ref 13, .ref 4], vm := .statics 12 },
  { cls := 14, slots := #[.ref 14], vm := .statics 14 },
  { cls := 23, slots := #[.ref 7, .ref 10, .ref 13], vm := .none },
  { cls := 18, slots := #[.int 97, .int 112, .int 112, .int 115, .int 58, .int 114, .int 101, .int 97, .int 100], vm := .none },
  { cls := 7, slots := #[.ref 5, .int 0, .int 0, .int 0], vm := .none },
  { cls := 12, slots := #[.null, .int 0, .int 0, .ref 6, .null], vm := .none },
  { cls := 18, slots := #[.int 97, .int 112, .int 112, .int 115, .int 58, .int 99, .int 114, .int 101, .int 97, .int 116, .int 101], vm := .none },
  { cls := 7, slots := #[.ref 8, .int 0, .int 0, .int 0], vm := .none },
  { cls := 12, slots := #[.null, .int 1, .int 0, .ref 9, .null], vm := .none },
  { cls := 18, slots := #[.int 97, .int 112, .int 112, .int 115, .int 58, .int 109, .int 97, .int 110, .int 97, .int 103, .int 101], vm := .none },
  { cls := 7, slots := #[.ref 11, .int 0, .int 0, .int 0], vm := .none },
  { cls := 12, slots := #[.null, .int 2, .int 0, .ref 12, .null], vm := .none },
  { cls := 14, slots := #[.null], vm := .none }]
def classes : Array Class := #[k0, k1, k2, k3, k4, k5, k6, k7, k8, k9, k10, k11, k12, k13, k14, k15, k16, k17, k18, k19, k20, k21, k22, k23]
def interned : List (Array UInt16 × Addr) := []
def slotsUsed : Nat := 77
def theMethod : MethodId := ⟨1, 3⟩
def args0 : Array Value := #[.int 5, .int 5, .int 5, .int 5]
def aboutOver (below : List Frame) : State where
  vm := { classes := classes, interned := interned.toArray }
  heap := heap
  slotsUsed := slotsUsed
  threads := #[{ frames := .invoking theMethod args0 :: below }]
def below0 : List Frame := [.native { method := ⟨0, 0⟩, args := #[] }]
def about1 : State := aboutOver below0
def p0 : Program := .bare "" "" ""
def e0 : Env := launch0.env 0 0 0
theorem w_frames : about1.frames = Frame.invoking theMethod args0 :: below0 := rfl
set_option maxRecDepth 65536 in
theorem w_args : argsFit about1.vm theMethod args0 = true := by decide +kernel
set_option maxRecDepth 65536 in
theorem w_heap : heapFits about1 = true := by decide +kernel
set_option maxRecDepth 65536 in
theorem w_runnable : about1.curStatus? = some .runnable := by decide +kernel
set_option maxRecDepth 65536 in
theorem w_alone : about1.alone = true := by decide +kernel
set_option maxRecDepth 65536 in
theorem w_named : about1.methodNamed? x = some theMethod := by decide +kernel
set_option maxRecDepth 65536 in
theorem w_hears : about1.hears theMethod below0 = true := by decide +kernel
set_option maxRecDepth 65536 in
theorem w_ripe : about1.ripe theMethod args0 below0 = true := by decide +kernel
theorem w_running : about1.status = .running := rfl
set_option maxRecDepth 65536 in
theorem w_room : about1.hasRoom e0.platform room_1 = true :=
  launch0.hasRoom_least _ room_1 (by decide +kernel) (by decide +kernel) (by decide +kernel) (by decide +kernel) (by decide +kernel) (by decide +kernel)
theorem allAtoms_all (ts : List Jvm.Cond) (a : Array Jvm.Value) (st : Jvm.State) : (allAtoms ts).before a st = ts.all (fun c => c.before a st) := by
  induction ts with
  | nil => rfl
  | cons c t ih =>
    show (Jvm.Cond.and c (allAtoms t)).before a st = _
    rw [Jvm.Cond.before_and, ih, List.all_cons]
def words1 : List Jvm.Cond := Jvm.Cond.code x code maxLocals ret :: tables_1
/-- a 'code' word, met by the world's own term for the bytes: nothing is compared byte by byte -/
theorem code_word {y : MethodName} {bytes : ByteArray} {mx : Nat} {rt : Option FieldType} {a : Array Value} {s : State} {m : MethodId} {meth : Method} {c : Code} (h1 : s.methodNamed? y = some m) (h2 : s.vm.method? m = some meth) (h3 : meth.code = some c) (h4 : c.code = bytes)
    (h5 : (c.maxLocals == mx && c.exceptionTable.isEmpty && decide (c.maxStack ≤ mostOperands) && decide (meth.sig.returnType = rt) && !meth.locks && decide (parseMethodDescriptor y.desc = some meth.sig)) = true) : (Jvm.Cond.code y bytes mx rt).before a s = true := by
  simp only [Bool.and_eq_true, beq_iff_eq, Bool.not_eq_true', decide_eq_true_eq] at h5
  obtain ⟨⟨⟨⟨⟨g1, g2⟩, g3⟩, g4⟩, g5⟩, g6⟩ := h5
  simp [Cond.before, Cond.holds, Cond.value, h1, h2, h3, h4, g1, g2, g3, g4, g5, g6]
def isCode : Jvm.Cond → Bool
  | .code _ _ _ _ => true
  | _ => false
theorem all_split {L : List Jvm.Cond} {P : Jvm.Cond → Bool} (h1 : L.all (fun c => isCode c || P c) = true) (h2 : ∀ c ∈ L.filter isCode, P c = true) : L.all P = true := by
  refine List.all_eq_true.mpr fun c hc => ?_
  have h := List.all_eq_true.mp h1 c hc
  rcases Bool.eq_false_or_eq_true (isCode c) with hi | hi
  · exact h2 c (List.mem_filter.mpr ⟨hc, hi⟩)
  · simpa [hi] using h
set_option maxRecDepth 65536 in
theorem w_c0 : (Jvm.Cond.code x code maxLocals ret).before args0 about1 = true := code_word (m := ⟨1, 3⟩) (meth := k1m3) (c := k1c3) (by decide +kernel) rfl rfl rfl (by decide +kernel)
set_option maxRecDepth 65536 in
theorem w_c1 : (Jvm.Cond.code ({ cls := "java/lang/String", name := "length", desc := "()I" } : Jvm.MethodName) jdk_42_method_54_code (1 : Nat) (Option.some Jvm.ClassFile.FieldType.int)).before args0 about1 = true := code_word (m := ⟨7, 2⟩) (meth := k7m2) (c := k7c2) (by decide +kernel) rfl rfl rfl (by decide +kernel)
set_option maxRecDepth 65536 in
theorem w_c2 : (Jvm.Cond.code ({ cls := "java/lang/String", name := "coder", desc := "()B" } : Jvm.MethodName) jdk_42_method_152_code (1 : Nat) (Option.some Jvm.ClassFile.FieldType.byte)).before args0 about1 = true := code_word (m := ⟨7, 6⟩) (meth := k7m6) (c := k7c6) (by decide +kernel) rfl rfl rfl (by decide +kernel)
set_option maxRecDepth 65536 in
theorem w_c3 : (Jvm.Cond.code ({ cls := "com/example/crosskey/crosskey/core/ScopeOfPinLaw", name := "make", desc := "(Ljava/lang/String;IIC)Ljava/lang/String;" } : Jvm.MethodName) method_3_code (4 : Nat) (Option.some (Jvm.ClassFile.FieldType.object "java/lang/String"))).before args0 about1 = true := code_word (m := ⟨1, 2⟩) (meth := k1m2) (c := k1c2) (by decide +kernel) rfl rfl rfl (by decide +kernel)
set_option maxRecDepth 65536 in
theorem w_c4 : (Jvm.Cond.code ({ cls := "com/example/crosskey/crosskey/core/ScopeOfPinLaw", name := "g", desc := "(Ljava/lang/String;IIC)C" } : Jvm.MethodName) method_2_code (4 : Nat) (Option.some Jvm.ClassFile.FieldType.char)).before args0 about1 = true := code_word (m := ⟨1, 1⟩) (meth := k1m1) (c := k1c1) (by decide +kernel) rfl rfl rfl (by decide +kernel)
set_option maxRecDepth 65536 in
theorem w_c5 : (Jvm.Cond.code ({ cls := "java/lang/String", name := "charAt", desc := "(I)C" } : Jvm.MethodName) jdk_42_method_56_code (2 : Nat) (Option.some Jvm.ClassFile.FieldType.char)).before args0 about1 = true := code_word (m := ⟨7, 3⟩) (meth := k7m3) (c := k7c3) (by decide +kernel) rfl rfl rfl (by decide +kernel)
set_option maxRecDepth 65536 in
theorem w_c6 : (Jvm.Cond.code ({ cls := "java/lang/String", name := "isLatin1", desc := "()Z" } : Jvm.MethodName) jdk_42_method_154_code (1 : Nat) (Option.some Jvm.ClassFile.FieldType.boolean)).before args0 about1 = true := code_word (m := ⟨7, 7⟩) (meth := k7m7) (c := k7c7) (by decide +kernel) rfl rfl rfl (by decide +kernel)
set_option maxRecDepth 65536 in
theorem w_c7 : (Jvm.Cond.code ({ cls := "java/lang/StringLatin1", name := "charAt", desc := "([BI)C" } : Jvm.MethodName) jdk_43_method_2_code (2 : Nat) (Option.some Jvm.ClassFile.FieldType.char)).before args0 about1 = true := code_word (m := ⟨8, 1⟩) (meth := k8m1) (c := k8c1) (by decide +kernel) rfl rfl rfl (by decide +kernel)
set_option maxRecDepth 65536 in
theorem w_c8 : (Jvm.Cond.code ({ cls := "java/lang/String", name := "checkIndex", desc := "(II)V" } : Jvm.MethodName) jdk_42_method_155_code (2 : Nat) (Option.none : Option Jvm.ClassFile.FieldType)).before args0 about1 = true := code_word (m := ⟨7, 8⟩) (meth := k7m8) (c := k7c8) (by decide +kernel) rfl rfl rfl (by decide +kernel)
set_option maxRecDepth 65536 in
theorem w_c9 : (Jvm.Cond.code ({ cls := "jdk/internal/util/Preconditions", name := "checkIndex", desc := "(IILjava/util/function/BiFunction;)I" } : Jvm.MethodName) jdk_41_method_11_code (3 : Nat) (Option.some Jvm.ClassFile.FieldType.int)).before args0 about1 = true := code_word (m := ⟨9, 1⟩) (meth := k9m1) (c := k9c1) (by decide +kernel) rfl rfl rfl (by decide +kernel)
set_option maxRecDepth 65536 in
theorem w_c10 : (Jvm.Cond.code ({ cls := "java/lang/String", name := "<init>", desc := "([C)V" } : Jvm.MethodName) jdk_42_method_3_code (2 : Nat) (Option.none : Option Jvm.ClassFile.FieldType)).before args0 about1 = true := code_word (m := ⟨7, 1⟩) (meth := k7m1) (c := k7c1) (by decide +kernel) rfl rfl rfl (by decide +kernel)
set_option maxRecDepth 65536 in
theorem w_c11 : (Jvm.Cond.code ({ cls := "java/lang/String", name := "<init>", desc := "([CIILjava/lang/Void;)V" } : Jvm.MethodName) jdk_42_method_149_code (6 : Nat) (Option.none : Option Jvm.ClassFile.FieldType)).before args0 about1 = true := code_word (m := ⟨7, 5⟩) (meth := k7m5) (c := k7c5) (by decide +kernel) rfl rfl rfl (by decide +kernel)
set_option maxRecDepth 65536 in
theorem w_c12 : (Jvm.Cond.code ({ cls := "java/lang/Object", name := "<init>", desc := "()V" } : Jvm.MethodName) object_method_1_code (1 : Nat) (Option.none : Option Jvm.ClassFile.FieldType)).before args0 about1 = true := code_word (m := ⟨0, 0⟩) (meth := k0m0) (c := k0c0) (by decide +kernel) rfl rfl rfl (by decide +kernel)
set_option maxRecDepth 65536 in
theorem w_c13 : (Jvm.Cond.code ({ cls := "java/lang/StringUTF16", name := "compress", desc := "([CII)[B" } : Jvm.MethodName) jdk_52_method_16_code (6 : Nat) (Option.some (Jvm.ClassFile.FieldType.array Jvm.ClassFile.FieldType.byte))).before args0 about1 = true := code_word (m := ⟨10, 2⟩) (meth := k10m2) (c := k10c2) (by decide +kernel) rfl rfl rfl (by decide +kernel)
set_option maxRecDepth 65536 in
theorem w_c14 : (Jvm.Cond.code ({ cls := "java/lang/StringUTF16", name := "compress", desc := "([CI[BII)I" } : Jvm.MethodName) jdk_52_method_21_code (7 : Nat) (Option.some Jvm.ClassFile.FieldType.int)).before args0 about1 = true := code_word (m := ⟨10, 3⟩) (meth := k10m3) (c := k10c3) (by decide +kernel) rfl rfl rfl (by decide +kernel)
set_option maxRecDepth 65536 in
theorem w_c15 : (Jvm.Cond.code ({ cls := "java/lang/StringUTF16", name := "coderFromArrayLen", desc := "([BI)B" } : Jvm.MethodName) jdk_52_method_15_code (2 : Nat) (Option.some Jvm.ClassFile.FieldType.byte)).before args0 about1 = true := code_word (m := ⟨10, 1⟩) (meth := k10m1) (c := k10c1) (by decide +kernel) rfl rfl rfl (by decide +kernel)
set_option maxRecDepth 65536 in
theorem w_c16 : (Jvm.Cond.code ({ cls := "java/lang/String", name := "equals", desc := "(Ljava/lang/Object;)Z" } : Jvm.MethodName) jdk_42_method_66_code (3 : Nat) (Option.some Jvm.ClassFile.FieldType.boolean)).before args0 about1 = true := code_word (m := ⟨7, 4⟩) (meth := k7m4) (c := k7c4) (by decide +kernel) rfl rfl rfl (by decide +kernel)
set_option maxRecDepth 65536 in
theorem w_c17 : (Jvm.Cond.code ({ cls := "java/lang/StringLatin1", name := "equals", desc := "([B[B)Z" } : Jvm.MethodName) jdk_43_method_13_code (3 : Nat) (Option.some Jvm.ClassFile.FieldType.boolean)).before args0 about1 = true := code_word (m := ⟨8, 2⟩) (meth := k8m2) (c := k8c2) (by decide +kernel) rfl rfl rfl (by decide +kernel)
set_option maxRecDepth 65536 in
theorem w_c18 : (Jvm.Cond.code ({ cls := "com/example/crosskey/crosskey/core/Scope", name := "of", desc := "(Ljava/lang/String;)Ljava/util/Optional;" } : Jvm.MethodName) prog_21_method_6_code (5 : Nat) (Option.some (Jvm.ClassFile.FieldType.object "java/util/Optional"))).before args0 about1 = true := code_word (m := ⟨12, 2⟩) (meth := k12m2) (c := k12c2) (by decide +kernel) rfl rfl rfl (by decide +kernel)
set_option maxRecDepth 65536 in
theorem w_c19 : (Jvm.Cond.code ({ cls := "com/example/crosskey/crosskey/core/Scope", name := "values", desc := "()[Lcom/example/crosskey/crosskey/core/Scope;" } : Jvm.MethodName) prog_21_method_1_code (0 : Nat) (Option.some (Jvm.ClassFile.FieldType.array (Jvm.ClassFile.FieldType.object "com/example/crosskey/crosskey/core/Scope")))).before args0 about1 = true := code_word (m := ⟨12, 0⟩) (meth := k12m0) (c := k12c0) (by decide +kernel) rfl rfl rfl (by decide +kernel)
set_option maxRecDepth 65536 in
theorem w_c20 : (Jvm.Cond.code ({ cls := "java/util/Optional", name := "empty", desc := "()Ljava/util/Optional;" } : Jvm.MethodName) jdk_32_method_1_code (1 : Nat) (Option.some (Jvm.ClassFile.FieldType.object "java/util/Optional"))).before args0 about1 = true := code_word (m := ⟨14, 0⟩) (meth := k14m0) (c := k14c0) (by decide +kernel) rfl rfl rfl (by decide +kernel)
set_option maxRecDepth 65536 in
theorem w_c21 : (Jvm.Cond.code ({ cls := "java/util/Optional", name := "isPresent", desc := "()Z" } : Jvm.MethodName) jdk_32_method_6_code (1 : Nat) (Option.some Jvm.ClassFile.FieldType.boolean)).before args0 about1 = true := code_word (m := ⟨14, 4⟩) (meth := k14m4) (c := k14c4) (by decide +kernel) rfl rfl rfl (by decide +kernel)
set_option maxRecDepth 65536 in
theorem w_c22 : (Jvm.Cond.code ({ cls := "java/util/Optional", name := "of", desc := "(Ljava/lang/Object;)Ljava/util/Optional;" } : Jvm.MethodName) jdk_32_method_3_code (1 : Nat) (Option.some (Jvm.ClassFile.FieldType.object "java/util/Optional"))).before args0 about1 = true := code_word (m := ⟨14, 2⟩) (meth := k14m2) (c := k14c2) (by decide +kernel) rfl rfl rfl (by decide +kernel)
set_option maxRecDepth 65536 in
theorem w_c23 : (Jvm.Cond.code ({ cls := "java/util/Objects", name := "requireNonNull", desc := "(Ljava/lang/Object;)Ljava/lang/Object;" } : Jvm.MethodName) jdk_31_method_10_code (1 : Nat) (Option.some (Jvm.ClassFile.FieldType.object "java/lang/Object"))).before args0 about1 = true := code_word (m := ⟨15, 1⟩) (meth := k15m1) (c := k15c1) (by decide +kernel) rfl rfl rfl (by decide +kernel)
set_option maxRecDepth 65536 in
theorem w_c24 : (Jvm.Cond.code ({ cls := "java/util/Optional", name := "<init>", desc := "(Ljava/lang/Object;)V" } : Jvm.MethodName) jdk_32_method_2_code (2 : Nat) (Option.none : Option Jvm.ClassFile.FieldType)).before args0 about1 = true := code_word (m := ⟨14, 1⟩) (meth := k14m1) (c := k14c1) (by decide +kernel) rfl rfl rfl (by decide +kernel)
set_option maxRecDepth 65536 in
theorem w_c25 : (Jvm.Cond.code ({ cls := "java/util/Optional", name := "get", desc := "()Ljava/lang/Object;" } : Jvm.MethodName) jdk_32_method_5_code (1 : Nat) (Option.some (Jvm.ClassFile.FieldType.object "java/lang/Object"))).before args0 about1 = true := code_word (m := ⟨14, 3⟩) (meth := k14m3) (c := k14c3) (by decide +kernel) rfl rfl rfl (by decide +kernel)
set_option maxRecDepth 65536 in
theorem w_c26 : (Jvm.Cond.code ({ cls := "com/example/crosskey/crosskey/core/Scope", name := "value", desc := "()Ljava/lang/String;" } : Jvm.MethodName) prog_21_method_4_code (1 : Nat) (Option.some (Jvm.ClassFile.FieldType.object "java/lang/String"))).before args0 about1 = true := code_word (m := ⟨12, 1⟩) (meth := k12m1) (c := k12c1) (by decide +kernel) rfl rfl rfl (by decide +kernel)
def codes1 : List Jvm.Cond := [Jvm.Cond.code x code maxLocals ret, Jvm.Cond.code ({ cls := "java/lang/String", name := "length", desc := "()I" } : Jvm.MethodName) jdk_42_method_54_code (1 : Nat) (Option.some Jvm.ClassFile.FieldType.int), Jvm.Cond.code ({ cls := "java/lang/String", name := "coder", desc := "()B" } : Jvm.MethodName) jdk_42_method_152_code (1 : Nat) (Option.some Jvm.ClassFile.FieldType.byte), Jvm.Cond.code ({ cls := "com/example/crosskey/crosskey/core/ScopeOfPinLaw", name := "make", desc := "(Ljava/lang/String;IIC)Ljava/lang/String;" } : Jvm.MethodName) method_3_code (4 : Nat) (Option.some (Jvm.ClassFile.FieldType.object "java/lang/String")), Jvm.Cond.code ({ cls := "com/example/crosskey/crosskey/core/ScopeOfPinLaw", name := "g", desc := "(Ljava/lang/String;IIC)C" } : Jvm.MethodName) method_2_code (4 : Nat) (Option.some Jvm.ClassFile.FieldType.char), Jvm.Cond.code ({ cls := "java/lang/String", name := "charAt", desc := "(I)C" } : Jvm.MethodName) jdk_42_method_56_code (2 : Nat) (Option.some Jvm.ClassFile.FieldType.char), Jvm.Cond.code ({ cls := "java/lang/String", name := "isLatin1", desc := "()Z" } : Jvm.MethodName) jdk_42_method_154_code (1 : Nat) (Option.some Jvm.ClassFile.FieldType.boolean), Jvm.Cond.code ({ cls := "java/lang/StringLatin1", name := "charAt", desc := "([BI)C" } : Jvm.MethodName) jdk_43_method_2_code (2 : Nat) (Option.some Jvm.ClassFile.FieldType.char), Jvm.Cond.code ({ cls := "java/lang/String", name := "checkIndex", desc := "(II)V" } : Jvm.MethodName) jdk_42_method_155_code (2 : Nat) (Option.none : Option Jvm.ClassFile.FieldType), Jvm.Cond.code ({ cls := "jdk/internal/util/Preconditions", name := "checkIndex", desc := "(IILjava/util/function/BiFunction;)I" } : Jvm.MethodName) jdk_41_method_11_code (3 : Nat) (Option.some Jvm.ClassFile.FieldType.int), Jvm.Cond.code ({ cls := "java/lang/String", name := "<init>", desc := "([C)V" } : Jvm.MethodName) jdk_42_method_3_code (2 : Nat) (Option.none : Option Jvm.ClassFile.FieldType), Jvm.Cond.code ({ cls := "java/lang/String", name := "<init>", desc := "([CIILjava/lang/Void;)V" } : Jvm.MethodName) jdk_42_method_149_code (6 : Nat) (Option.none : Option Jvm.ClassFile.FieldType), Jvm.Cond.code ({ cls := "java/lang/Object", name := "<init>", desc := "()V" } : Jvm.MethodName) object_method_1_code (1 : Nat) (Option.none : Option Jvm.ClassFile.FieldType), Jvm.Cond.code ({ cls := "java/lang/StringUTF16", name := "compress", desc := "([CII)[B" } : Jvm.MethodName) jdk_52_method_16_code (6 : Nat) (Option.some (Jvm.ClassFile.FieldType.array Jvm.ClassFile.FieldType.byte)), Jvm.Cond.code ({ cls := "java/lang/StringUTF16", name := "compress", desc := "([CI[BII)I" } : Jvm.MethodName) jdk_52_method_21_code (7 : Nat) (Option.some Jvm.ClassFile.FieldType.int), Jvm.Cond.code ({ cls := "java/lang/StringUTF16", name := "coderFromArrayLen", desc := "([BI)B" } : Jvm.MethodName) jdk_52_method_15_code (2 : Nat) (Option.some Jvm.ClassFile.FieldType.byte), Jvm.Cond.code ({ cls := "java/lang/String", name := "equals", desc := "(Ljava/lang/Object;)Z" } : Jvm.MethodName) jdk_42_method_66_code (3 : Nat) (Option.some Jvm.ClassFile.FieldType.boolean), Jvm.Cond.code ({ cls := "java/lang/StringLatin1", name := "equals", desc := "([B[B)Z" } : Jvm.MethodName) jdk_43_method_13_code (3 : Nat) (Option.some Jvm.ClassFile.FieldType.boolean), Jvm.Cond.code ({ cls := "com/example/crosskey/crosskey/core/Scope", name := "of", desc := "(Ljava/lang/String;)Ljava/util/Optional;" } : Jvm.MethodName) prog_21_method_6_code (5 : Nat) (Option.some (Jvm.ClassFile.FieldType.object "java/util/Optional")), Jvm.Cond.code ({ cls := "com/example/crosskey/crosskey/core/Scope", name := "values", desc := "()[Lcom/example/crosskey/crosskey/core/Scope;" } : Jvm.MethodName) prog_21_method_1_code (0 : Nat) (Option.some (Jvm.ClassFile.FieldType.array (Jvm.ClassFile.FieldType.object "com/example/crosskey/crosskey/core/Scope"))), Jvm.Cond.code ({ cls := "java/util/Optional", name := "empty", desc := "()Ljava/util/Optional;" } : Jvm.MethodName) jdk_32_method_1_code (1 : Nat) (Option.some (Jvm.ClassFile.FieldType.object "java/util/Optional")), Jvm.Cond.code ({ cls := "java/util/Optional", name := "isPresent", desc := "()Z" } : Jvm.MethodName) jdk_32_method_6_code (1 : Nat) (Option.some Jvm.ClassFile.FieldType.boolean), Jvm.Cond.code ({ cls := "java/util/Optional", name := "of", desc := "(Ljava/lang/Object;)Ljava/util/Optional;" } : Jvm.MethodName) jdk_32_method_3_code (1 : Nat) (Option.some (Jvm.ClassFile.FieldType.object "java/util/Optional")), Jvm.Cond.code ({ cls := "java/util/Objects", name := "requireNonNull", desc := "(Ljava/lang/Object;)Ljava/lang/Object;" } : Jvm.MethodName) jdk_31_method_10_code (1 : Nat) (Option.some (Jvm.ClassFile.FieldType.object "java/lang/Object")), Jvm.Cond.code ({ cls := "java/util/Optional", name := "<init>", desc := "(Ljava/lang/Object;)V" } : Jvm.MethodName) jdk_32_method_2_code (2 : Nat) (Option.none : Option Jvm.ClassFile.FieldType), Jvm.Cond.code ({ cls := "java/util/Optional", name := "get", desc := "()Ljava/lang/Object;" } : Jvm.MethodName) jdk_32_method_5_code (1 : Nat) (Option.some (Jvm.ClassFile.FieldType.object "java/lang/Object")), Jvm.Cond.code ({ cls := "com/example/crosskey/crosskey/core/Scope", name := "value", desc := "()Ljava/lang/String;" } : Jvm.MethodName) prog_21_method_4_code (1 : Nat) (Option.some (Jvm.ClassFile.FieldType.object "java/lang/String"))]
set_option maxRecDepth 65536 in
theorem codes_eq : words1.filter isCode = codes1 := rfl
theorem w_codes : ∀ c ∈ words1.filter isCode, c.before args0 about1 = true := by
  rw [codes_eq]
  intro c hc
  simp only [codes1, List.mem_cons, List.not_mem_nil, or_false] at hc
  rcases hc with rfl | rfl | rfl | rfl | rfl | rfl | rfl | rfl | rfl | rfl | rfl | rfl | rfl | rfl | rfl | rfl | rfl | rfl | rfl | rfl | rfl | rfl | rfl | rfl | rfl | rfl | rfl
  · exact w_c0
  · exact w_c1
  · exact w_c2
  · exact w_c3
  · exact w_c4
  · exact w_c5
  · exact w_c6
  · exact w_c7
  · exact w_c8
  · exact w_c9
  · exact w_c10
  · exact w_c11
  · exact w_c12
  · exact w_c13
  · exact w_c14
  · exact w_c15
  · exact w_c16
  · exact w_c17
  · exact w_c18
  · exact w_c19
  · exact w_c20
  · exact w_c21
  · exact w_c22
  · exact w_c23
  · exact w_c24
  · exact w_c25
  · exact w_c26
set_option maxRecDepth 65536 in
theorem w_t1 : (words1.take 24).all (fun c => isCode c || c.before args0 about1) = true := by decide +kernel
set_option maxRecDepth 65536 in
theorem w_t2 : ((words1.drop 24).take 24).all (fun c => isCode c || c.before args0 about1) = true := by decide +kernel
set_option maxRecDepth 65536 in
theorem w_t3 : (((words1.drop 24).drop 24).take 24).all (fun c => isCode c || c.before args0 about1) = true := by decide +kernel
set_option maxRecDepth 65536 in
theorem w_t4 : ((((words1.drop 24).drop 24).drop 24).take 24).all (fun c => isCode c || c.before args0 about1) = true := by decide +kernel
set_option maxRecDepth 65536 in
theorem w_t5 : (((((words1.drop 24).drop 24).drop 24).drop 24).take 24).all (fun c => isCode c || c.before args0 about1) = true := by decide +kernel
set_option maxRecDepth 65536 in
theorem w_t6 : ((((((words1.drop 24).drop 24).drop 24).drop 24).drop 24).take 24).all (fun c => isCode c || c.before args0 about1) = true := by decide +kernel
set_option maxRecDepth 65536 in
theorem w_t7 : ((((((words1.drop 24).drop 24).drop 24).drop 24).drop 24).drop 24).all (fun c => isCode c || c.before args0 about1) = true := by decide +kernel
theorem w_tables : (allAtoms (Jvm.Cond.code x code maxLocals ret :: tables_1)).before args0 about1 = true := by
  rw [allAtoms_all]
  show words1.all (fun c => c.before args0 about1) = true
  refine all_split ?_ w_codes
  rw [← List.take_append_drop 24 words1, List.all_append, w_t1, ← List.take_append_drop 24 (words1.drop 24), List.all_append, w_t2, ← List.take_append_drop 24 ((words1.drop 24).drop 24), List.all_append, w_t3, ← List.take_append_drop 24 (((words1.drop 24).drop 24).drop 24), List.all_append, w_t4, ← List.take_append_drop 24 ((((words1.drop 24).drop 24).drop 24).drop 24), List.all_append, w_t5, ← List.take_append_drop 24 (((((words1.drop 24).drop 24).drop 24).drop 24).drop 24), List.all_append, w_t6, w_t7]
  rfl
set_option maxRecDepth 65536 in
theorem w_rest : rest_1_c.before args0 about1 = true := by decide +kernel
set_option maxRecDepth 65536 in
theorem w_case : (Jvm.Cond.and given_1 narrow_1).before args0 about1 = true := by decide +kernel
set_option maxRecDepth 65536 in
theorem w_consts : constsHeld consts_1 about1 := Jvm.Lit.constsHeldB_iff.mp (by decide +kernel)
theorem w_applies : (headSpec (Jvm.Cond.code x code maxLocals ret :: tables_1) room_1).applies x e0.platform about1 = true :=
  (Spec.applies_iff w_frames).mpr ⟨w_running, w_runnable, w_alone, w_named, w_hears, w_ripe, w_room, w_tables⟩
theorem atStart : AtStart classFile x code maxLocals ret World_1 tables_1 room_1 Calls_1 rest_1 Pre_1 launch0 p0 e0 about1 theMethod args0 below0 :=
  ⟨lists_1, trivial, launch0.admits_env _ _ _, launch0.least_env, fairChoices_fair.cas, fairChoices_fair.clock, w_frames, w_args, w_heap, w_applies, ⟨w_consts, trivial⟩, w_rest, w_case⟩
end start1
theorem witness_1 : WitnessClaimed_1 := ⟨start1.p0, start1.e0, start1.about1, start1.theMethod, start1.args0, start1.below0, start1.atStart⟩
end Jvm.Pilot.@@N@@
