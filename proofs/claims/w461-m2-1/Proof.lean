import JvmDerived
import JvmDerived.Pilot.@@N@@Statement
import JvmDerived.Pilot.@@N@@Code
set_option linter.unusedVariables false
set_option linter.unusedSimpArgs false
/- laws to paste: Road.backV, Road.codOf, Road.lenW, Road.chN, Road.empW (cut by pick.py; bodies as the Statement names them) -/
namespace Jvm.Pilot.@@N@@
namespace StrChars
open Jvm Sem ClassFile Op Lib Jvm.Stand Jvm.Free.XT Jvm.Free.ALB Jvm.Free.JM Jvm.Free
open Jvm.Lib.Cold (StaticIs)
/-- a char array whose places are chars -/
def Ch (a : Addr) (A : Cell) (U : State) : Prop := Arr .char a A U ∧ Typed .char A
theorem Ch.mv {a : Addr} {A : Cell} {U U' : State} (h : Ch a A U) (hal : U.vm.Alike U'.vm) (hh : U'.heap = U.heap) : Ch a A U' := ⟨h.1.mv hal hh, h.2⟩
theorem Ch.keep {a : Addr} {A : Cell} {U U' : State} (h : Ch a A U) (hal : U.vm.Alike U'.vm) (hk : U'.heap[a]? = some A) : Ch a A U' := ⟨h.1.keep hal hk, h.2⟩
/-- what place i of a char[]'s cell holds -/
def cv (A : Cell) (i : Nat) : Int32 := match A.slots[i]? with | some (.int x) => x | _ => 0
theorem Ch.get {a : Addr} {A : Cell} {U : State} (h : Ch a A U) {i : Nat} (hi : i < A.slots.size) : A.slots[i]? = some (.int (cv A i)) := by
  have e := Array.getElem?_eq_getElem hi
  have f := h.2 i _ e
  unfold cv; rw [e]
  generalize A.slots[i] = v at f
  cases v <;> simp [fits] at f ⊢
/-- the byte that i2b leaves of a char -/
def lo8 (x : Int32) : Int32 := x.toInt8.toInt32
theorem fits_lo8 (y : Int32) : fits .byte (.int (lo8 y)) = true := by
  have h1 := y.toInt8.le_toInt
  have h2 := y.toInt8.toInt_lt
  simp only [lo8, fits, Bool.and_eq_true, decide_eq_true_eq, Int32.le_iff_toInt_le, Int8.toInt_toInt32, show (-128 : Int32).toInt = -128 from by decide, show (127 : Int32).toInt = 127 from by decide]
  omega
/-- A' is A but that each place j of lo .. hi - 1 holds f j -/
def Laid (A A' : Cell) (lo hi : Nat) (f : Nat → Value) : Prop := A'.cls = A.cls ∧ A'.vm = A.vm ∧ A'.slots.size = A.slots.size ∧ ∀ i, A'.slots[i]? = if lo ≤ i ∧ i < hi then some (f i) else A.slots[i]?
theorem Laid.zero (A : Cell) (lo : Nat) (f : Nat → Value) : Laid A A lo (lo + 0) f := ⟨rfl, rfl, rfl, fun i => by rw [if_neg (by omega)]⟩
theorem Laid.step {A Ak : Cell} {lo k : Nat} {f : Nat → Value} {v : Value} (h : Laid A Ak lo k f) (hlo : lo ≤ k) (hk : k < Ak.slots.size) (hv : v = f k) : Laid A (Ak.setSlot k v) lo (k + 1) f := by
  refine ⟨h.1, h.2.1, by simpa [Cell.setSlot] using h.2.2.1, fun i => ?_⟩
  by_cases e : k = i
  · subst e; rw [Cell.slots_setSlot_self v hk, if_pos (by omega), hv]
  · rw [Cell.slots_setSlot_ne v e, h.2.2.2 i]
    by_cases q : lo ≤ i ∧ i < k
    · rw [if_pos q, if_pos (by omega)]
    · rw [if_neg q, if_neg (by omega)]
def U16 : String := "java/lang/StringUTF16"
namespace Cmp5
def yN : MethodName := ⟨"java/lang/StringUTF16", "compress", "([CI[BII)I"⟩
abbrev yB : ByteArray := jdk_52_method_21_code
theorem d0 : decode yB 0 = .ok (.iconst 0, 1) := by decide +kernel
theorem d1 : decode yB 1 = .ok (.istore 5, 2) := by decide +kernel
theorem d3 : decode yB 3 = .ok (.iload 5, 2) := by decide +kernel
theorem d5 : decode yB 5 = .ok (.iload 4, 2) := by decide +kernel
theorem d7 : decode yB 7 = .ok (.if_icmp (.ge) 37, 3) := by decide +kernel
theorem d10 : decode yB 10 = .ok (.aload_n 0, 1) := by decide +kernel
theorem d11 : decode yB 11 = .ok (.iload_n 1, 1) := by decide +kernel
theorem d12 : decode yB 12 = .ok (.caload, 1) := by decide +kernel
theorem d13 : decode yB 13 = .ok (.istore 6, 2) := by decide +kernel
theorem d15 : decode yB 15 = .ok (.iload 6, 2) := by decide +kernel
theorem d17 : decode yB 17 = .ok (.sipush 255, 3) := by decide +kernel
theorem d20 : decode yB 20 = .ok (.if_icmp (.le) 6, 3) := by decide +kernel
theorem d26 : decode yB 26 = .ok (.aload_n 2, 1) := by decide +kernel
theorem d27 : decode yB 27 = .ok (.iload_n 3, 1) := by decide +kernel
theorem d28 : decode yB 28 = .ok (.iload 6, 2) := by decide +kernel
theorem d30 : decode yB 30 = .ok (.i2b, 1) := by decide +kernel
theorem d31 : decode yB 31 = .ok (.bastore, 1) := by decide +kernel
theorem d32 : decode yB 32 = .ok (.iinc 1 1, 3) := by decide +kernel
theorem d35 : decode yB 35 = .ok (.iinc 3 1, 3) := by decide +kernel
theorem d38 : decode yB 38 = .ok (.iinc 5 1, 3) := by decide +kernel
theorem d41 : decode yB 41 = .ok (.goto (-38), 3) := by decide +kernel
theorem d44 : decode yB 44 = .ok (.iload 4, 2) := by decide +kernel
theorem d46 : decode yB 46 = .ok (.ireturn, 1) := by decide +kernel
def site : List Cond := []
def tab : Cond := tabOf yN yB 7 (some .int) site
def P (b : Addr) (A : Cell) (d : Addr) (B : Cell) (o q len : Nat) (args : Array Value) (s : State) : Prop := args = #[.ref b, .int (Int32.ofNat o), .ref d, .int (Int32.ofNat q), .int (Int32.ofNat len)] ∧ Ch b A s ∧ Arr .byte d B s ∧ b ≠ d ∧ o + len ≤ A.slots.size ∧ q + len ≤ B.slots.size ∧ ∀ i, i < len → ¬ 255 < cv A (o + i)
def E (b : Addr) (A : Cell) (d : Addr) (B : Cell) (o q len : Nat) (r : Option Value) (s u : State) : Prop := r = some (.int (Int32.ofNat len)) ∧ ∃ B', Put d B' s u ∧ Laid B B' q (q + len) (fun j => Value.int (lo8 (cv A (o + (j - q)))))
/-- no char of the range above 255: len; the places written hold each char's low byte -/
theorem law (l : Launch) (b : Addr) (A : Cell) (d : Addr) (B : Cell) (o q len : Nat) : Law l yN 5 5 0 0 yB 7 (some .int) site (P b A d B o q len) (E b A d B o q len) (copyLocs d q len) 0 0 := by
  refine Law.of_walk (plainFor_of_name (by decide +kernel)) (by decide +kernel) (by decide +kernel) (by decide) (fun _ _ h => by rw [h.1]; rfl) (fun _ U U' hal hh h => ⟨h.1, h.2.1.mv hal hh, h.2.2.1.mv hal hh, h.2.2.2⟩) (fun r U U' V V' h1 hal h2 h => ⟨h.1, h.2.elim fun B' q => ⟨B', q.1.mv h1 h2, q.2⟩⟩) ?_
  intro p e s m args below meth c s₁ X0 hexec hbytes hml hret hlk hnm hown hh0 W hP
  obtain ⟨rfl, hA, hB, hne, l1, l2, hp⟩ := hP
  have c1 : Steps p.tables e below (s₁.setTop (entryFrame m #[.ref b, .int (Int32.ofNat o), .ref d, .int (Int32.ofNat q), .int (Int32.ofNat len)] 7)) (s₁.setTop (mkF m 0 #[.val (.ref b), .val (.int (Int32.ofNat o)), .val (.ref d), .val (.int (Int32.ofNat q)), .val (.int (Int32.ofNat len)), .unset, .unset] [])) := entry rfl
  have hA0 := hA.1.mv X0.warmed.alike hh0
  have hB0 := hB.mv X0.warmed.alike hh0
  have a31 := hA.1.2.2.2
  have c2 : Steps p.tables e below (s₁.setTop (entryFrame m #[.ref b, .int (Int32.ofNat o), .ref d, .int (Int32.ofNat q), .int (Int32.ofNat len)] 7)) (s₁.setTop (mkF m 3 #[.val (.ref b), .val (.int (Int32.ofNat o)), .val (.ref d), .val (.int (Int32.ofNat q)), .val (.int (Int32.ofNat len)), .val (.int 0), .unset] [])) := c1.trans (by
    refine iconstV X0.here hexec rfl 0 (hb hbytes d0) (by decide) ?_
    refine XS.istore X0.here hexec rfl (hb hbytes d1) rfl rfl ?_
    exact Steps.refl _)
  have loop : ∀ (r i : Nat), i + r = len → ∀ (z : Slot), (z = .unset ∨ ∃ w, z = .val w ∧ w.category = 1) → ∀ (Tl : State) (Bk : Cell), Stand p l e { frames := 0, locals := 0, cells := 0, slots := 0 } s m #[.ref b, .int (Int32.ofNat o), .ref d, .int (Int32.ofNat q), .int (Int32.ofNat len)] below meth c Tl ([] ++ copyLocs d q i) 0 0 → Put d Bk s₁ Tl → Laid B Bk q (q + i) (fun j => Value.int (lo8 (cv A (o + (j - q))))) →
      Steps p.tables e below (s₁.setTop (entryFrame m #[.ref b, .int (Int32.ofNat o), .ref d, .int (Int32.ofNat q), .int (Int32.ofNat len)] 7)) (Tl.setTop (mkF m 3 #[.val (.ref b), .val (.int (Int32.ofNat (o + i))), .val (.ref d), .val (.int (Int32.ofNat (q + i))), .val (.int (Int32.ofNat len)), .val (.int (Int32.ofNat i)), z] [])) → ∃ (T' : State) (B' : Cell) (z' : Slot), Stand p l e { frames := 0, locals := 0, cells := 0, slots := 0 } s m #[.ref b, .int (Int32.ofNat o), .ref d, .int (Int32.ofNat q), .int (Int32.ofNat len)] below meth c T' ([] ++ copyLocs d q len) 0 0 ∧ Put d B' s₁ T' ∧ Laid B B' q (q + len) (fun j => Value.int (lo8 (cv A (o + (j - q))))) ∧
      Steps p.tables e below (s₁.setTop (entryFrame m #[.ref b, .int (Int32.ofNat o), .ref d, .int (Int32.ofNat q), .int (Int32.ofNat len)] 7)) (T'.setTop (mkF m 3 #[.val (.ref b), .val (.int (Int32.ofNat (o + len))), .val (.ref d), .val (.int (Int32.ofNat (q + len))), .val (.int (Int32.ofNat len)), .val (.int (Int32.ofNat len)), z'] [])) := by
    intro r
    induction r with
    | zero =>
      intro i hi z hz Tl Bk Xl pl fl cl
      have hil : i = len := by omega
      rw [hil] at Xl fl cl
      exact ⟨Tl, Bk, z, Xl, pl, fl, cl⟩
    | succ r ih =>
      intro i hi z hz Tl Bk Xl pl fl cl
      have all := X0.warmed.alike.symm.trans Xl.warmed.alike
      have hAl := hA0.keep all (pl.other hne hA0.1)
      have hBk := hB0.like all pl.1 fl.1 fl.2.1 fl.2.2.1
      have hlt : q + i < Bk.slots.size := by rw [fl.2.2.1]; omega
      have c3 : Steps p.tables e below (s₁.setTop (entryFrame m #[.ref b, .int (Int32.ofNat o), .ref d, .int (Int32.ofNat q), .int (Int32.ofNat len)] 7)) (Tl.setTop (mkF m 12 #[.val (.ref b), .val (.int (Int32.ofNat (o + i))), .val (.ref d), .val (.int (Int32.ofNat (q + i))), .val (.int (Int32.ofNat len)), .val (.int (Int32.ofNat i)), z] [.int (Int32.ofNat (o + i)), .ref b])) := cl.trans (by
        refine XS.iload Xl.here hexec rfl (hb hbytes d3) rfl ?_
        refine XS.iload Xl.here hexec rfl (hb hbytes d5) rfl ?_
        refine XS.icmpNo Xl.here hexec rfl (hb hbytes d7) rfl (ii_ge_f (lt32 (by omega) (by omega))) ?_
        refine XS.aloadN Xl.here hexec rfl (hb hbytes d10) rfl rfl ?_
        refine XS.iloadN Xl.here hexec rfl (hb hbytes d11) rfl ?_
        exact Steps.refl _)
      have c4 : Steps p.tables e below (s₁.setTop (entryFrame m #[.ref b, .int (Int32.ofNat o), .ref d, .int (Int32.ofNat q), .int (Int32.ofNat len)] 7)) (Tl.setTop (mkF m 13 #[.val (.ref b), .val (.int (Int32.ofNat (o + i))), .val (.ref d), .val (.int (Int32.ofNat (q + i))), .val (.int (Int32.ofNat len)), .val (.int (Int32.ofNat i)), z] [.int (cv A (o + i))])) := c3.trans (by
        refine Xl.aget hexec hAl rfl (hA.get (i := o + i) (by omega)) rfl rfl (hb hbytes d12) ?_
        exact Steps.refl _)
      have c5 : Steps p.tables e below (s₁.setTop (entryFrame m #[.ref b, .int (Int32.ofNat o), .ref d, .int (Int32.ofNat q), .int (Int32.ofNat len)] 7)) (Tl.setTop (mkF m 15 #[.val (.ref b), .val (.int (Int32.ofNat (o + i))), .val (.ref d), .val (.int (Int32.ofNat (q + i))), .val (.int (Int32.ofNat len)), .val (.int (Int32.ofNat i)), .val (.int (cv A (o + i)))] [])) := c4.trans (by
        refine XS.istoreS Xl.here hexec rfl (hb hbytes d13) rfl rfl hz ?_
        exact Steps.refl _)
      have c6 : Steps p.tables e below (s₁.setTop (entryFrame m #[.ref b, .int (Int32.ofNat o), .ref d, .int (Int32.ofNat q), .int (Int32.ofNat len)] 7)) (Tl.setTop (mkF m 31 #[.val (.ref b), .val (.int (Int32.ofNat (o + i))), .val (.ref d), .val (.int (Int32.ofNat (q + i))), .val (.int (Int32.ofNat len)), .val (.int (Int32.ofNat i)), .val (.int (cv A (o + i)))] [.int (lo8 (cv A (o + i))), .int (Int32.ofNat (q + i)), .ref d])) := c5.trans (by
        refine XS.iload Xl.here hexec rfl (hb hbytes d15) rfl ?_
        refine sipushV Xl.here hexec rfl 255 (hb hbytes d17) (by decide) ?_
        refine XS.icmpYes Xl.here hexec rfl (pc0 := 20) rfl (hb hbytes d20) rfl (ii_le_t (hp i (by omega))) (by decide) rfl ?_
        refine XS.aloadN Xl.here hexec rfl (hb hbytes d26) rfl rfl ?_
        refine XS.iloadN Xl.here hexec rfl (hb hbytes d27) rfl ?_
        refine XS.iload Xl.here hexec rfl (hb hbytes d28) rfl ?_
        refine i2b Xl.here hexec rfl (hb hbytes d30) rfl ?_
        exact Steps.refl _)
      obtain ⟨T7, X7, p7, st7⟩ := Xl.aput hexec hBk rfl hlt rfl (fits_lo8 (cv A (o + i))) (g := (mkF m 31 #[.val (.ref b), .val (.int (Int32.ofNat (o + i))), .val (.ref d), .val (.int (Int32.ofNat (q + i))), .val (.int (Int32.ofNat len)), .val (.int (Int32.ofNat i)), .val (.int (cv A (o + i)))] [.int (lo8 (cv A (o + i))), .int (Int32.ofNat (q + i)), .ref d])) rfl (rest := []) rfl (hb hbytes d31)
      have c8 : Steps p.tables e below (s₁.setTop (entryFrame m #[.ref b, .int (Int32.ofNat o), .ref d, .int (Int32.ofNat q), .int (Int32.ofNat len)] 7)) (T7.setTop (mkF m 32 #[.val (.ref b), .val (.int (Int32.ofNat (o + i))), .val (.ref d), .val (.int (Int32.ofNat (q + i))), .val (.int (Int32.ofNat len)), .val (.int (Int32.ofNat i)), .val (.int (cv A (o + i)))] [])) := c6.trans (st7 _ (Steps.refl _))
      have c9 : Steps p.tables e below (s₁.setTop (entryFrame m #[.ref b, .int (Int32.ofNat o), .ref d, .int (Int32.ofNat q), .int (Int32.ofNat len)] 7)) (T7.setTop (mkF m 3 #[.val (.ref b), .val (.int (Int32.ofNat (o + i) + 1)), .val (.ref d), .val (.int (Int32.ofNat (q + i) + 1)), .val (.int (Int32.ofNat len)), .val (.int (Int32.ofNat i + 1)), .val (.int (cv A (o + i)))] [])) := c8.trans (by
        refine iincV X7.here hexec rfl 1 (hb hbytes d32) (by decide) rfl rfl ?_
        refine iincV X7.here hexec rfl 1 (hb hbytes d35) (by decide) rfl rfl ?_
        refine iincV X7.here hexec rfl 1 (hb hbytes d38) (by decide) rfl rfl ?_
        refine XS.goto X7.here hexec rfl (pc0 := 41) rfl (hb hbytes d41) (by decide) rfl ?_
        exact Steps.refl _)
      have c10 : Steps p.tables e below (s₁.setTop (entryFrame m #[.ref b, .int (Int32.ofNat o), .ref d, .int (Int32.ofNat q), .int (Int32.ofNat len)] 7)) (T7.setTop (mkF m 3 #[.val (.ref b), .val (.int (Int32.ofNat (o + (i + 1)))), .val (.ref d), .val (.int (Int32.ofNat (q + (i + 1)))), .val (.int (Int32.ofNat len)), .val (.int (Int32.ofNat (i + 1))), .val (.int (cv A (o + i)))] [])) := by
        have := c9
        rw [succ32, succ32, succ32] at this
        exact this
      exact ih (i + 1) (by omega) _ (Or.inr ⟨_, rfl, rfl⟩) T7 _ (by rw [copyLocs_step, ← List.append_assoc]; exact X7) (pl.trans p7) (fl.step (by omega) hlt (by simp)) c10
  obtain ⟨T9, B9, z9, X9, p9, f9, g9⟩ := loop len 0 (by omega) .unset (Or.inl rfl) s₁ B (by simpa [copyLocs] using X0) ⟨hB0.1, fun _ _ => rfl, rfl⟩ (Laid.zero _ _ _) c2
  have c11 : Steps p.tables e below (s₁.setTop (entryFrame m #[.ref b, .int (Int32.ofNat o), .ref d, .int (Int32.ofNat q), .int (Int32.ofNat len)] 7)) (T9.setTop (mkF m 46 #[.val (.ref b), .val (.int (Int32.ofNat (o + len))), .val (.ref d), .val (.int (Int32.ofNat (q + len))), .val (.int (Int32.ofNat len)), .val (.int (Int32.ofNat len)), z9] [.int (Int32.ofNat len)])) := g9.trans (by
    refine XS.iload X9.here hexec rfl (hb hbytes d3) rfl ?_
    refine XS.iload X9.here hexec rfl (hb hbytes d5) rfl ?_
    refine XS.icmpYes X9.here hexec rfl (pc0 := 7) rfl (hb hbytes d7) rfl (ii_ge_t (nlt32 (by omega) (Nat.le_refl _))) (by decide) rfl ?_
    refine XS.iload X9.here hexec rfl (hb hbytes d44) rfl ?_
    exact Steps.refl _)
  exact ⟨T9, some (.int (Int32.ofNat len)), _, _, _, X9, by simp, rfl, rfl, (fun h => by cases h), ⟨rfl, B9, p9.from hh0, f9⟩, fun fs hl => c11.trans (X9.ireturnOut hexec hret rfl (Or.inl rfl) (hb hbytes d46) hl)⟩
end Cmp5
namespace Cmp3
def yN : MethodName := ⟨"java/lang/StringUTF16", "compress", "([CII)[B"⟩
abbrev yB : ByteArray := jdk_52_method_16_code
theorem d0 : decode yB 0 = .ok (.iload_n 2, 1) := by decide +kernel
theorem d1 : decode yB 1 = .ok (.newarray .byte, 2) := by decide +kernel
theorem d3 : decode yB 3 = .ok (.astore_n 3, 1) := by decide +kernel
theorem d4 : decode yB 4 = .ok (.aload_n 0, 1) := by decide +kernel
theorem d5 : decode yB 5 = .ok (.iload_n 1, 1) := by decide +kernel
theorem d6 : decode yB 6 = .ok (.aload_n 3, 1) := by decide +kernel
theorem d7 : decode yB 7 = .ok (.iconst 0, 1) := by decide +kernel
theorem d8 : decode yB 8 = .ok (.iload_n 2, 1) := by decide +kernel
theorem d9 : decode yB 9 = .ok (.invokestatic 115, 3) := by decide +kernel
theorem d12 : decode yB 12 = .ok (.istore 4, 2) := by decide +kernel
theorem d14 : decode yB 14 = .ok (.iload 4, 2) := by decide +kernel
theorem d16 : decode yB 16 = .ok (.iload_n 2, 1) := by decide +kernel
theorem d17 : decode yB 17 = .ok (.if_icmp (.eq) 40, 3) := by decide +kernel
theorem d57 : decode yB 57 = .ok (.aload_n 3, 1) := by decide +kernel
theorem d58 : decode yB 58 = .ok (.areturn, 1) := by decide +kernel
def site : List Cond := [.arrayClass .byte, Cmp5.tab] ++ staticW U16 115 Cmp5.yN
def tab : Cond := tabOf yN yB 6 (some (.array .byte)) site
def P (b : Addr) (A : Cell) (o len : Nat) (args : Array Value) (s : State) : Prop := args = #[.ref b, .int (Int32.ofNat o), .int (Int32.ofNat len)] ∧ Ch b A s ∧ o + len ≤ A.slots.size ∧ len ≤ 536870912 ∧ ∀ i, i < len → ¬ 255 < cv A (o + i)
def E (b : Addr) (A : Cell) (o len : Nat) (r : Option Value) (s u : State) : Prop := NewArr .byte "[B" len (fun j => .int (lo8 (cv A (o + j)))) r s u ∧ u.heap.size = s.heap.size + 1
/-- no char of the range above 255: a new byte[] of their low bytes -/
theorem law (l : Launch) (b : Addr) (A : Cell) (o len : Nat) : Law l yN 3 3 1 18 yB 6 (some (.array .byte)) site (P b A o len) (E b A o len) [] 1 len := by
  refine Law.of_walk (plainFor_of_name (by decide +kernel)) (by decide +kernel) (by decide +kernel) (by decide) (fun _ _ h => by rw [h.1]; rfl) (fun _ U U' hal hh h => ⟨h.1, h.2.1.mv hal hh, h.2.2⟩) (fun r U U' V V' h1 hal h2 h => ⟨NewArr.mv r U U' V V' h1 hal h2 h.1, by rw [h1, h2]; exact h.2⟩) ?_
  intro p e s m args below meth c s₁ X0 hexec hbytes hml hret hlk hnm hown hh0 W hP
  obtain ⟨rfl, hA, l1, l2, hp⟩ := hP
  have a31 := hA.1.2.2.2
  have c1 : Steps p.tables e below (s₁.setTop (entryFrame m #[.ref b, .int (Int32.ofNat o), .int (Int32.ofNat len)] 6)) (s₁.setTop (mkF m 0 #[.val (.ref b), .val (.int (Int32.ofNat o)), .val (.int (Int32.ofNat len)), .unset, .unset, .unset] [])) := entry rfl
  have c2 : Steps p.tables e below (s₁.setTop (entryFrame m #[.ref b, .int (Int32.ofNat o), .int (Int32.ofNat len)] 6)) (s₁.setTop (mkF m 1 #[.val (.ref b), .val (.int (Int32.ofNat o)), .val (.int (Int32.ofNat len)), .unset, .unset, .unset] [.int (Int32.ofNat len)])) := c1.trans (by
    refine XS.iloadN X0.here hexec rfl (hb hbytes d0) rfl ?_
    exact Steps.refl _)
  obtain ⟨T3, B3, X3, ba3, bs3, bv3, bh3, bf3, st3⟩ := X0.anew hexec (atype := .byte) (wk W (.arrayClass .byte)) rfl (by show len * 1 ≤ _; omega) (by omega) (g := (mkF m 1 #[.val (.ref b), .val (.int (Int32.ofNat o)), .val (.int (Int32.ofNat len)), .unset, .unset, .unset] [.int (Int32.ofNat len)])) rfl (hb hbytes d1) (rest := []) rfl (Nat.le_refl _) (by show 0 + len ≤ len; omega)
  rw [hh0] at ba3 st3
  have kp3 : XT.Kept s T3 := (XT.Kept.of_eq hh0).push bh3
  have hA3 := hA.keep X3.warmed.alike (kp3 _ _ hA.1.1)
  have hne : b ≠ s.heap.size := hA.1.ne
  have c4 : Steps p.tables e below (s₁.setTop (entryFrame m #[.ref b, .int (Int32.ofNat o), .int (Int32.ofNat len)] 6)) (T3.setTop (mkF m 3 #[.val (.ref b), .val (.int (Int32.ofNat o)), .val (.int (Int32.ofNat len)), .unset, .unset, .unset] [.ref s.heap.size])) := c2.trans (st3 _ (Steps.refl _))
  have c5 : Steps p.tables e below (s₁.setTop (entryFrame m #[.ref b, .int (Int32.ofNat o), .int (Int32.ofNat len)] 6)) (T3.setTop (mkF m 9 #[.val (.ref b), .val (.int (Int32.ofNat o)), .val (.int (Int32.ofNat len)), .val (.ref s.heap.size), .unset, .unset] [.int (Int32.ofNat len), .int 0, .ref s.heap.size, .int (Int32.ofNat o), .ref b])) := c4.trans (by
    refine XS.astoreN X3.here hexec rfl (hb hbytes d3) rfl rfl rfl ?_
    refine XS.aloadN X3.here hexec rfl (hb hbytes d4) rfl rfl ?_
    refine XS.iloadN X3.here hexec rfl (hb hbytes d5) rfl ?_
    refine XS.aloadN X3.here hexec rfl (hb hbytes d6) rfl rfl ?_
    refine iconstV X3.here hexec rfl 0 (hb hbytes d7) (by decide) ?_
    refine XS.iloadN X3.here hexec rfl (hb hbytes d8) rfl ?_
    exact Steps.refl _)
  obtain ⟨v6, T6, X6, E6, g6⟩ := X3.callS hexec (Cmp5.law l b A s.heap.size B3 o 0 len) hown (wks W (staticW U16 115 Cmp5.yN)) (wk W Cmp5.tab) (W := 0) (Nat.le_of_ble_eq_true rfl) (Nat.le_of_ble_eq_true rfl) (Nat.le_refl _) (by show 0 + len + 0 ≤ len; omega) (g := (mkF m 9 #[.val (.ref b), .val (.int (Int32.ofNat o)), .val (.int (Int32.ofNat len)), .val (.ref s.heap.size), .unset, .unset] [.int (Int32.ofNat len), .int (Int32.ofNat 0), .ref s.heap.size, .int (Int32.ofNat o), .ref b])) rfl (by rw [hml]; rfl) c5 (argsL := [.ref b, .int (Int32.ofNat o), .ref s.heap.size, .int (Int32.ofNat 0), .int (Int32.ofNat len)]) (rest := []) rfl rfl (by show 2 * 0 + 0 ≤ _; decide) (hb hbytes d9) (⟨rfl, hA3, ba3, hne, l1, by rw [bs3]; simp, hp⟩)
  obtain ⟨rfl, B6, p6, f6⟩ := E6
  have c7 : Steps p.tables e below (s₁.setTop (entryFrame m #[.ref b, .int (Int32.ofNat o), .int (Int32.ofNat len)] 6)) (T6.setTop (mkF m 12 #[.val (.ref b), .val (.int (Int32.ofNat o)), .val (.int (Int32.ofNat len)), .val (.ref s.heap.size), .unset, .unset] [.int (Int32.ofNat len)])) := g6
  have c8 : Steps p.tables e below (s₁.setTop (entryFrame m #[.ref b, .int (Int32.ofNat o), .int (Int32.ofNat len)] 6)) (T6.setTop (mkF m 58 #[.val (.ref b), .val (.int (Int32.ofNat o)), .val (.int (Int32.ofNat len)), .val (.ref s.heap.size), .val (.int (Int32.ofNat len)), .unset] [.ref s.heap.size])) := c7.trans (by
    refine XS.istore X6.here hexec rfl (hb hbytes d12) rfl rfl ?_
    refine XS.iload X6.here hexec rfl (hb hbytes d14) rfl ?_
    refine XS.iloadN X6.here hexec rfl (hb hbytes d16) rfl ?_
    refine XS.icmpYes X6.here hexec rfl (pc0 := 17) rfl (hb hbytes d17) rfl (ii_eq_t rfl) (by decide) rfl ?_
    refine XS.aloadN X6.here hexec rfl (hb hbytes d57) rfl rfl ?_
    exact Steps.refl _)
  have X8 := X6.wide (L' := []) (cells' := 1) (slots' := len) (fun x hx hlt => by
    simp only [List.nil_append, copyLocs, List.mem_map, List.mem_range] at hx
    obtain ⟨i, -, rfl⟩ := hx
    exact absurd hlt (Nat.lt_irrefl _)) (Nat.le_refl _) (by omega)
  exact ⟨T6, some (.ref s.heap.size), _, _, _, X8, rfl, rfl, rfl, (fun h => by cases h), ⟨⟨rfl, B6, ba3.like (X3.warmed.alike.symm.trans X6.warmed.alike) p6.1 f6.1 f6.2.1 f6.2.2.1, f6.2.1.trans bv3, by rw [X6.warmed.alike.findClass, f6.1]; exact bf3, by rw [f6.2.2.1, bs3]; simp, fun j hj => by rw [f6.2.2.2 j, if_pos (by omega)]; rfl, kp3.put p6 (Nat.le_refl _)⟩, by rw [p6.2.2, bh3, hh0]; simp⟩, fun fs hl => c8.trans (X8.areturnOut hexec rfl hret rfl (hb hbytes d58) hl)⟩
end Cmp3
namespace CodL
def yN : MethodName := ⟨"java/lang/StringUTF16", "coderFromArrayLen", "([BI)B"⟩
abbrev yB : ByteArray := jdk_52_method_15_code
theorem d0 : decode yB 0 = .ok (.iload_n 1, 1) := by decide +kernel
theorem d1 : decode yB 1 = .ok (.aload_n 0, 1) := by decide +kernel
theorem d2 : decode yB 2 = .ok (.arraylength, 1) := by decide +kernel
theorem d3 : decode yB 3 = .ok (.isub, 1) := by decide +kernel
theorem d4 : decode yB 4 = .ok (.bipush 31, 2) := by decide +kernel
theorem d6 : decode yB 6 = .ok (.iushr, 1) := by decide +kernel
theorem d7 : decode yB 7 = .ok (.i2b, 1) := by decide +kernel
theorem d8 : decode yB 8 = .ok (.ireturn, 1) := by decide +kernel
def site : List Cond := []
def tab : Cond := tabOf yN yB 2 (some .byte) site
def P (d : Addr) (B : Cell) (args : Array Value) (s : State) : Prop := args = #[.ref d, .int (Int32.ofNat B.slots.size)] ∧ Arr .byte d B s
def E (r : Option Value) (s u : State) : Prop := XT.PureE (some (.int 0)) r s u
/-- an array as long as the number of chars: LATIN1 -/
theorem law (l : Launch) (d : Addr) (B : Cell) : Law l yN 2 2 0 0 yB 2 (some .byte) site (P d B) E [] 0 0 := by
  refine Law.of_walk (plainFor_of_name (by decide +kernel)) (by decide +kernel) (by decide +kernel) (by decide) (fun _ _ h => by rw [h.1]; rfl) (fun _ U U' hal hh h => ⟨h.1, h.2.mv hal hh⟩) (fun r U U' V V' h1 hal h2 h => XT.PureE.mv r U U' V V' h1 hal h2 h) ?_
  intro p e s m args below meth c s₁ X0 hexec hbytes hml hret hlk hnm hown hh0 W hP
  obtain ⟨rfl, hB⟩ := hP
  have hB0 := hB.mv X0.warmed.alike hh0
  have c1 : Steps p.tables e below (s₁.setTop (entryFrame m #[.ref d, .int (Int32.ofNat B.slots.size)] 2)) (s₁.setTop (mkF m 0 #[.val (.ref d), .val (.int (Int32.ofNat B.slots.size))] [])) := entry rfl
  have c2 : Steps p.tables e below (s₁.setTop (entryFrame m #[.ref d, .int (Int32.ofNat B.slots.size)] 2)) (s₁.setTop (mkF m 2 #[.val (.ref d), .val (.int (Int32.ofNat B.slots.size))] [.ref d, .int (Int32.ofNat B.slots.size)])) := c1.trans (by
    refine XS.iloadN X0.here hexec rfl (hb hbytes d0) rfl ?_
    refine XS.aloadN X0.here hexec rfl (hb hbytes d1) rfl rfl ?_
    exact Steps.refl _)
  have c3 : Steps p.tables e below (s₁.setTop (entryFrame m #[.ref d, .int (Int32.ofNat B.slots.size)] 2)) (s₁.setTop (mkF m 8 #[.val (.ref d), .val (.int (Int32.ofNat B.slots.size))] [.int (lo8 (ushr (Int32.ofNat B.slots.size - Int32.ofNat B.slots.size) 31))])) := c2.trans (by
    refine X0.alen hexec hB0 rfl rfl (hb hbytes d2) ?_
    refine XS.isub X0.here hexec rfl (hb hbytes d3) rfl ?_
    refine bipushV X0.here hexec rfl 31 (hb hbytes d4) (by decide) ?_
    refine iushr X0.here hexec rfl (hb hbytes d6) rfl ?_
    refine i2b X0.here hexec rfl (hb hbytes d7) rfl ?_
    exact Steps.refl _)
  have e0 : lo8 (ushr (Int32.ofNat B.slots.size - Int32.ofNat B.slots.size) 31) = 0 := by rw [Int32.sub_self]; decide
  rw [e0] at c3
  exact ⟨s₁, some (.int 0), _, _, _, X0, rfl, rfl, rfl, (fun h => by cases h), ⟨rfl, hh0⟩, fun fs hl => c3.trans (X0.ireturnOut hexec hret rfl (Or.inr (Or.inr (Or.inl rfl))) (hb hbytes d8) hl)⟩
end CodL
/-- the String at a is Latin-1 over a new byte[] (the heap's one new cell): the low bytes of the len chars of A from o on; every cell but a is kept -/
def Got (a : Addr) (D : Cell) (fV fC : Field) (A : Cell) (o len : Nat) (r : Option Value) (s u : State) : Prop := r = none ∧ ∃ D' V : Cell, Blank "java/lang/String" a D' u ∧ Same D D' [fV.slot, fC.slot] ∧ D'.slots[fV.slot]? = some (.ref s.heap.size) ∧ D'.slots[fC.slot]? = some (.int 0) ∧ Arr .byte s.heap.size V u ∧ V.vm = .none ∧ u.vm.findClass "[B" = some V.cls ∧ V.slots.size = len ∧ (∀ j, j < len → V.slots[j]? = some (.int (lo8 (cv A (o + j))))) ∧ (∀ (y : Addr) (c : Cell), y ≠ a → s.heap[y]? = some c → u.heap[y]? = some c) ∧ u.heap.size = s.heap.size + 1
theorem Got.mv {a : Addr} {D A : Cell} {fV fC : Field} {o len : Nat} : ∀ r (U U' V V' : State), U'.heap = U.heap → V.vm.Alike V'.vm → V'.heap = V.heap → Got a D fV fC A o len r U V → Got a D fV fC A o len r U' V' :=
  fun r U U' V V' h1 hal h2 ⟨e0, D', X, a1, a2, a3, a4, a5, a6, a7, a8, a9, a10, a11⟩ => ⟨e0, D', X, a1.mv hal h2, a2, by rw [h1]; exact a3, a4, by rw [h1]; exact a5.mv hal h2, a6, by rw [hal.findClass]; exact a7, a8, a9, by rw [h1, h2]; exact a10, by rw [h1, h2]; exact a11⟩
namespace New4
def yN : MethodName := ⟨"java/lang/String", "<init>", "([CIILjava/lang/Void;)V"⟩
abbrev yB : ByteArray := jdk_42_method_149_code
theorem d0 : decode yB 0 = .ok (.aload_n 0, 1) := by decide +kernel
theorem d1 : decode yB 1 = .ok (.invokespecial 1, 3) := by decide +kernel
theorem d4 : decode yB 4 = .ok (.iload_n 3, 1) := by decide +kernel
theorem d5 : decode yB 5 = .ok (.ifCond (.ne) 22, 3) := by decide +kernel
theorem d27 : decode yB 27 = .ok (.getstatic 38, 3) := by decide +kernel
theorem d30 : decode yB 30 = .ok (.ifCond (.eq) 28, 3) := by decide +kernel
theorem d33 : decode yB 33 = .ok (.aload_n 1, 1) := by decide +kernel
theorem d34 : decode yB 34 = .ok (.iload_n 2, 1) := by decide +kernel
theorem d35 : decode yB 35 = .ok (.iload_n 3, 1) := by decide +kernel
theorem d36 : decode yB 36 = .ok (.invokestatic 177, 3) := by decide +kernel
theorem d39 : decode yB 39 = .ok (.astore 5, 2) := by decide +kernel
theorem d41 : decode yB 41 = .ok (.aload_n 0, 1) := by decide +kernel
theorem d42 : decode yB 42 = .ok (.aload 5, 2) := by decide +kernel
theorem d44 : decode yB 44 = .ok (.iload_n 3, 1) := by decide +kernel
theorem d45 : decode yB 45 = .ok (.invokestatic 47, 3) := by decide +kernel
theorem d48 : decode yB 48 = .ok (.putfield 15, 3) := by decide +kernel
theorem d51 : decode yB 51 = .ok (.aload_n 0, 1) := by decide +kernel
theorem d52 : decode yB 52 = .ok (.aload 5, 2) := by decide +kernel
theorem d54 : decode yB 54 = .ok (.putfield 9, 3) := by decide +kernel
theorem d57 : decode yB 57 = .ok (.return_, 1) := by decide +kernel
def site : List Cond := [.fieldLink "java/lang/String" 38 "java/lang/String" "COMPACT_STRINGS" "Z", Cmp3.tab, CodL.tab, .laysFinal "java/lang/String" "java/lang/String" "value" "[B", .fieldLink "java/lang/String" 9 "java/lang/String" "value" "[B", .laysFinal "java/lang/String" "java/lang/String" "coder" "B", .fieldLink "java/lang/String" 15 "java/lang/String" "coder" "B"] ++ objW "java/lang/String" 1 ++ staticW "java/lang/String" 177 Cmp3.yN ++ staticW "java/lang/String" 47 CodL.yN
def tab : Cond := tabOf yN yB 6 none site
def P (a : Addr) (D : Cell) (fV fC : Field) (b : Addr) (A : Cell) (z : Int32) (o len : Nat) (args : Array Value) (s : State) : Prop := args = #[.ref a, .ref b, .int (Int32.ofNat o), .int (Int32.ofNat len), .null] ∧ Blank "java/lang/String" a D s ∧ Found "java/lang/String" "value" "[B" fV s ∧ Found "java/lang/String" "coder" "B" fC s ∧ Ch b A s ∧ StaticIs s "java/lang/String" "COMPACT_STRINGS" "Z" (.int z) ∧ ¬ z = 0 ∧ 0 < len ∧ o + len ≤ A.slots.size ∧ len ≤ 536870912 ∧ ∀ i, i < len → ¬ 255 < cv A (o + i)
def E (a : Addr) (D : Cell) (fV fC : Field) (A : Cell) (o len : Nat) (r : Option Value) (s u : State) : Prop := Got a D fV fC A o len r s u
/-- len > 0, no char of the range above 255: a Latin-1 String of their low bytes -/
theorem law (l : Launch) (a : Addr) (D : Cell) (fV fC : Field) (b : Addr) (A : Cell) (z : Int32) (o len : Nat) : Law l yN 5 4 2 35 yB 6 none site (P a D fV fC b A z o len) (E a D fV fC A o len) [⟨a, fC.slot⟩, ⟨a, fV.slot⟩] 1 len := by
  refine Law.of_walk (plainFor_of_name (by decide +kernel)) (by decide +kernel) (by decide +kernel) (by decide) (fun _ _ h => by rw [h.1]; rfl) (fun _ U U' hal hh h => ⟨h.1, h.2.1.mv hal hh, h.2.2.1.al hal, h.2.2.2.1.al hal, h.2.2.2.2.1.mv hal hh, h.2.2.2.2.2.1.there hal hh, h.2.2.2.2.2.2⟩) (fun r U U' V V' h1 hal h2 h => Got.mv r U U' V V' h1 hal h2 h) ?_
  intro p e s m args below meth c s₁ X0 hexec hbytes hml hret hlk hnm hown hh0 W hP
  obtain ⟨rfl, hB, f1, f2, hA, s1, hz, l0, l1, l2, hp⟩ := hP
  have a31 := hA.1.2.2.2
  have c1 : Steps p.tables e below (s₁.setTop (entryFrame m #[.ref a, .ref b, .int (Int32.ofNat o), .int (Int32.ofNat len), .null] 6)) (s₁.setTop (mkF m 0 #[.val (.ref a), .val (.ref b), .val (.int (Int32.ofNat o)), .val (.int (Int32.ofNat len)), .val .null, .unset] [])) := entry rfl
  have c2 : Steps p.tables e below (s₁.setTop (entryFrame m #[.ref a, .ref b, .int (Int32.ofNat o), .int (Int32.ofNat len), .null] 6)) (s₁.setTop (mkF m 1 #[.val (.ref a), .val (.ref b), .val (.int (Int32.ofNat o)), .val (.int (Int32.ofNat len)), .val .null, .unset] [.ref a])) := c1.trans (by
    refine XS.aloadN X0.here hexec rfl (hb hbytes d0) rfl rfl ?_
    exact Steps.refl _)
  obtain ⟨T3, X3, q3, st3⟩ := X0.oinit hexec hown (wks W (objW "java/lang/String" 1)) (g := (mkF m 1 #[.val (.ref a), .val (.ref b), .val (.int (Int32.ofNat o)), .val (.int (Int32.ofNat len)), .val .null, .unset] [.ref a])) rfl (by rw [hml]; rfl) (rest := []) rfl (hb hbytes d1) (W := 0) (by show 2 * 0 + 0 ≤ _; decide) (Nat.le_of_ble_eq_true rfl) (Nat.le_of_ble_eq_true rfl)
  have hh3 := q3.trans hh0
  have c4 : Steps p.tables e below (s₁.setTop (entryFrame m #[.ref a, .ref b, .int (Int32.ofNat o), .int (Int32.ofNat len), .null] 6)) (T3.setTop (mkF m 27 #[.val (.ref a), .val (.ref b), .val (.int (Int32.ofNat o)), .val (.int (Int32.ofNat len)), .val .null, .unset] [])) := (c2.trans (st3 _ (Steps.refl _))).trans (by
    refine XS.iloadN X3.here hexec rfl (hb hbytes d4) rfl ?_
    refine XS.ifYes X3.here hexec rfl (pc0 := 5) rfl (hb hbytes d5) rfl (i0_ne_t (nz32 (by omega) l0)) (by decide) rfl ?_
    exact Steps.refl _)
  obtain ⟨T5, X5, q5, st5⟩ := X3.sget hexec hown (wk W (.fieldLink "java/lang/String" 38 "java/lang/String" "COMPACT_STRINGS" "Z")) s1 (fun _ _ h => by rw [hh3]; exact h) (g := (mkF m 27 #[.val (.ref a), .val (.ref b), .val (.int (Int32.ofNat o)), .val (.int (Int32.ofNat len)), .val .null, .unset] [])) rfl (hb hbytes d27)
  have hh5 := q5.trans hh3
  have c6 : Steps p.tables e below (s₁.setTop (entryFrame m #[.ref a, .ref b, .int (Int32.ofNat o), .int (Int32.ofNat len), .null] 6)) (T5.setTop (mkF m 30 #[.val (.ref a), .val (.ref b), .val (.int (Int32.ofNat o)), .val (.int (Int32.ofNat len)), .val .null, .unset] [.int z])) := c4.trans (st5 _ (Steps.refl _))
  have c7 : Steps p.tables e below (s₁.setTop (entryFrame m #[.ref a, .ref b, .int (Int32.ofNat o), .int (Int32.ofNat len), .null] 6)) (T5.setTop (mkF m 36 #[.val (.ref a), .val (.ref b), .val (.int (Int32.ofNat o)), .val (.int (Int32.ofNat len)), .val .null, .unset] [.int (Int32.ofNat len), .int (Int32.ofNat o), .ref b])) := c6.trans (by
    refine XS.ifNo X5.here hexec rfl (hb hbytes d30) rfl (i0_eq_f hz) ?_
    refine XS.aloadN X5.here hexec rfl (hb hbytes d33) rfl rfl ?_
    refine XS.iloadN X5.here hexec rfl (hb hbytes d34) rfl ?_
    refine XS.iloadN X5.here hexec rfl (hb hbytes d35) rfl ?_
    exact Steps.refl _)
  obtain ⟨v8, T8, X8, E8, g8⟩ := X5.callS hexec (Cmp3.law l b A o len) hown (wks W (staticW "java/lang/String" 177 Cmp3.yN)) (wk W Cmp3.tab) (W := 0) (Nat.le_of_ble_eq_true rfl) (Nat.le_of_ble_eq_true rfl) (Nat.le_refl _) (by show 0 + len ≤ len; omega) (g := (mkF m 36 #[.val (.ref a), .val (.ref b), .val (.int (Int32.ofNat o)), .val (.int (Int32.ofNat len)), .val .null, .unset] [.int (Int32.ofNat len), .int (Int32.ofNat o), .ref b])) rfl (by rw [hml]; rfl) c7 (argsL := [.ref b, .int (Int32.ofNat o), .int (Int32.ofNat len)]) (rest := []) rfl rfl (by show 2 * 0 + 0 ≤ _; decide) (hb hbytes d36) (⟨rfl, hA.mv X5.warmed.alike hh5, l1, l2, hp⟩)
  obtain ⟨e8, z8⟩ := E8
  obtain ⟨rfl, N, n1, n2, n3, n4, n5, n6⟩ := NewArr.mv _ T5 s _ _ hh5.symm (Vm.Alike.refl _) rfl e8
  rw [hh5] at z8
  have hB1 := hB.keep X8.warmed.alike (n6 _ _ hB.1)
  have hne : s.heap.size ≠ a := (Nat.ne_of_lt (Array.getElem?_eq_some_iff.mp hB.1).1).symm
  have c9 : Steps p.tables e below (s₁.setTop (entryFrame m #[.ref a, .ref b, .int (Int32.ofNat o), .int (Int32.ofNat len), .null] 6)) (T8.setTop (mkF m 39 #[.val (.ref a), .val (.ref b), .val (.int (Int32.ofNat o)), .val (.int (Int32.ofNat len)), .val .null, .unset] [.ref s.heap.size])) := g8
  have c10 : Steps p.tables e below (s₁.setTop (entryFrame m #[.ref a, .ref b, .int (Int32.ofNat o), .int (Int32.ofNat len), .null] 6)) (T8.setTop (mkF m 45 #[.val (.ref a), .val (.ref b), .val (.int (Int32.ofNat o)), .val (.int (Int32.ofNat len)), .val .null, .val (.ref s.heap.size)] [.int (Int32.ofNat N.slots.size), .ref s.heap.size, .ref a])) := by
    have hc : Steps p.tables e below (s₁.setTop (entryFrame m #[.ref a, .ref b, .int (Int32.ofNat o), .int (Int32.ofNat len), .null] 6)) (T8.setTop (mkF m 45 #[.val (.ref a), .val (.ref b), .val (.int (Int32.ofNat o)), .val (.int (Int32.ofNat len)), .val .null, .val (.ref s.heap.size)] [.int (Int32.ofNat len), .ref s.heap.size, .ref a])) := c9.trans (by
      refine XS.astore X8.here hexec rfl (hb hbytes d39) rfl rfl rfl ?_
      refine XS.aloadN X8.here hexec rfl (hb hbytes d41) rfl rfl ?_
      refine XS.aload X8.here hexec rfl (hb hbytes d42) rfl rfl ?_
      refine XS.iloadN X8.here hexec rfl (hb hbytes d44) rfl ?_
      exact Steps.refl _)
    rw [n4]; exact hc
  obtain ⟨v11, T11, X11, E11, g11⟩ := X8.callS hexec (CodL.law l s.heap.size N) hown (wks W (staticW "java/lang/String" 47 CodL.yN)) (wk W CodL.tab) (W := 1) (Nat.le_of_ble_eq_true rfl) (Nat.le_of_ble_eq_true rfl) (Nat.le_refl _) (by show 0 + len + 0 ≤ len; omega) (g := (mkF m 45 #[.val (.ref a), .val (.ref b), .val (.int (Int32.ofNat o)), .val (.int (Int32.ofNat len)), .val .null, .val (.ref s.heap.size)] [.int (Int32.ofNat N.slots.size), .ref s.heap.size, .ref a])) rfl (by rw [hml]; rfl) c10 (argsL := [.ref s.heap.size, .int (Int32.ofNat N.slots.size)]) (rest := [.ref a]) rfl rfl (by show 2 * 0 + (1 + 0) ≤ _; decide) (hb hbytes d45) (⟨rfl, n1⟩)
  obtain ⟨rfl, q11⟩ := E11
  have hB11 := hB1.mv (X8.warmed.alike.symm.trans X11.warmed.alike) q11
  have c12 : Steps p.tables e below (s₁.setTop (entryFrame m #[.ref a, .ref b, .int (Int32.ofNat o), .int (Int32.ofNat len), .null] 6)) (T11.setTop (mkF m 48 #[.val (.ref a), .val (.ref b), .val (.int (Int32.ofNat o)), .val (.int (Int32.ofNat len)), .val .null, .val (.ref s.heap.size)] [.int 0, .ref a])) := g11
  obtain ⟨T13, X13, p13, bl13, sl13, st13⟩ := X11.finit hexec hown (wk W (.fieldLink "java/lang/String" 15 "java/lang/String" "coder" "B")) (Or.inr ⟨_, (wk W (.laysFinal "java/lang/String" "java/lang/String" "coder" "B"))⟩) (Or.inl ⟨rfl, hnm⟩) f2 (Or.inl rfl) hB11 (t := .byte) (by decide +kernel) rfl (g := (mkF m 48 #[.val (.ref a), .val (.ref b), .val (.int (Int32.ofNat o)), .val (.int (Int32.ofNat len)), .val .null, .val (.ref s.heap.size)] [.int 0, .ref a])) rfl (rest := []) rfl (hb hbytes d48)
  have c14 : Steps p.tables e below (s₁.setTop (entryFrame m #[.ref a, .ref b, .int (Int32.ofNat o), .int (Int32.ofNat len), .null] 6)) (T13.setTop (mkF m 54 #[.val (.ref a), .val (.ref b), .val (.int (Int32.ofNat o)), .val (.int (Int32.ofNat len)), .val .null, .val (.ref s.heap.size)] [.ref s.heap.size, .ref a])) := (c12.trans (st13 _ (Steps.refl _))).trans (by
    refine XS.aloadN X13.here hexec rfl (hb hbytes d51) rfl rfl ?_
    refine XS.aload X13.here hexec rfl (hb hbytes d52) rfl rfl ?_
    exact Steps.refl _)
  obtain ⟨T15, X15, p15, bl15, sl15, st15⟩ := X13.finit hexec hown (wk W (.fieldLink "java/lang/String" 9 "java/lang/String" "value" "[B")) (Or.inr ⟨_, (wk W (.laysFinal "java/lang/String" "java/lang/String" "value" "[B"))⟩) (Or.inl ⟨rfl, hnm⟩) f1 (Or.inl rfl) bl13 (t := (.array .byte)) (by decide +kernel) rfl (g := (mkF m 54 #[.val (.ref a), .val (.ref b), .val (.int (Int32.ofNat o)), .val (.int (Int32.ofNat len)), .val .null, .val (.ref s.heap.size)] [.ref s.heap.size, .ref a])) rfl (rest := []) rfl (hb hbytes d54)
  have c16 : Steps p.tables e below (s₁.setTop (entryFrame m #[.ref a, .ref b, .int (Int32.ofNat o), .int (Int32.ofNat len), .null] 6)) (T15.setTop (mkF m 57 #[.val (.ref a), .val (.ref b), .val (.int (Int32.ofNat o)), .val (.int (Int32.ofNat len)), .val .null, .val (.ref s.heap.size)] [])) := c14.trans (st15 _ (Steps.refl _))
  have ap := apart (Or.inr ⟨_, (wk W (.laysFinal "java/lang/String" "java/lang/String" "value" "[B"))⟩) (Or.inr ⟨_, (wk W (.laysFinal "java/lang/String" "java/lang/String" "coder" "B"))⟩) f1 f2 (t₁ := .array .byte) (t₂ := .byte) (by decide +kernel) (by decide +kernel) (by decide)
  have al := X8.warmed.alike.symm.trans X15.warmed.alike
  have n7 : T11.heap[s.heap.size]? = some N := by rw [q11]; exact n1.1
  exact ⟨T15, none, _, _, _, X15, by simp, rfl, by omega, (fun _ => rfl), ⟨rfl, _, N, bl15, ((Same.refl D _).set _ (by simp)).set _ (by simp), sl15, (Cell.slots_setSlot_ne _ ap).trans sl13, n1.keep al (p15.other hne (p13.other hne n7)), n2, by rw [al.findClass]; exact n3, n4, n5, fun y c h1 h2 => p15.other h1 (p13.other h1 (by rw [q11]; exact n6 y c h2)), by rw [p15.2.2, p13.2.2, q11]; exact z8⟩, fun fs hl => c16.trans (X15.returnOut hexec hret (hb hbytes d57) hl)⟩
end New4
namespace New1
def yN : MethodName := ⟨"java/lang/String", "<init>", "([C)V"⟩
abbrev yB : ByteArray := jdk_42_method_3_code
theorem d0 : decode yB 0 = .ok (.aload_n 0, 1) := by decide +kernel
theorem d1 : decode yB 1 = .ok (.aload_n 1, 1) := by decide +kernel
theorem d2 : decode yB 2 = .ok (.iconst 0, 1) := by decide +kernel
theorem d3 : decode yB 3 = .ok (.aload_n 1, 1) := by decide +kernel
theorem d4 : decode yB 4 = .ok (.arraylength, 1) := by decide +kernel
theorem d5 : decode yB 5 = .ok (.aconst_null, 1) := by decide +kernel
theorem d6 : decode yB 6 = .ok (.invokespecial 27, 3) := by decide +kernel
theorem d9 : decode yB 9 = .ok (.return_, 1) := by decide +kernel
def site : List Cond := [New4.tab] ++ initW "java/lang/String" 27 New4.yN
def tab : Cond := tabOf yN yB 2 none site
def P (a : Addr) (D : Cell) (fV fC : Field) (b : Addr) (A : Cell) (z : Int32) (args : Array Value) (s : State) : Prop := args = #[.ref a, .ref b] ∧ Blank "java/lang/String" a D s ∧ Found "java/lang/String" "value" "[B" fV s ∧ Found "java/lang/String" "coder" "B" fC s ∧ Ch b A s ∧ StaticIs s "java/lang/String" "COMPACT_STRINGS" "Z" (.int z) ∧ ¬ z = 0 ∧ 0 < A.slots.size ∧ A.slots.size ≤ 536870912 ∧ ∀ i, i < A.slots.size → ¬ 255 < cv A i
def E (a : Addr) (D : Cell) (fV fC : Field) (A : Cell) (r : Option Value) (s u : State) : Prop := Got a D fV fC A 0 A.slots.size r s u
/-- new String(chars), not empty, no char above 255: a Latin-1 String of their low bytes -/
theorem law (l : Launch) (a : Addr) (D : Cell) (fV fC : Field) (b : Addr) (A : Cell) (z : Int32) : Law l yN 2 1 3 52 yB 2 none site (P a D fV fC b A z) (E a D fV fC A) [⟨a, fC.slot⟩, ⟨a, fV.slot⟩] 1 A.slots.size := by
  refine Law.of_walk (plainFor_of_name (by decide +kernel)) (by decide +kernel) (by decide +kernel) (by decide) (fun _ _ h => by rw [h.1]; rfl) (fun _ U U' hal hh h => ⟨h.1, h.2.1.mv hal hh, h.2.2.1.al hal, h.2.2.2.1.al hal, h.2.2.2.2.1.mv hal hh, h.2.2.2.2.2.1.there hal hh, h.2.2.2.2.2.2⟩) (fun r U U' V V' h1 hal h2 h => Got.mv r U U' V V' h1 hal h2 h) ?_
  intro p e s m args below meth c s₁ X0 hexec hbytes hml hret hlk hnm hown hh0 W hP
  obtain ⟨rfl, hB, f1, f2, hA, s1, hz, l0, l2, hp⟩ := hP
  have c1 : Steps p.tables e below (s₁.setTop (entryFrame m #[.ref a, .ref b] 2)) (s₁.setTop (mkF m 0 #[.val (.ref a), .val (.ref b)] [])) := entry rfl
  have c2 : Steps p.tables e below (s₁.setTop (entryFrame m #[.ref a, .ref b] 2)) (s₁.setTop (mkF m 6 #[.val (.ref a), .val (.ref b)] [.null, .int (Int32.ofNat A.slots.size), .int 0, .ref b, .ref a])) := c1.trans (by
    refine XS.aloadN X0.here hexec rfl (hb hbytes d0) rfl rfl ?_
    refine XS.aloadN X0.here hexec rfl (hb hbytes d1) rfl rfl ?_
    refine iconstV X0.here hexec rfl 0 (hb hbytes d2) (by decide) ?_
    refine XS.aloadN X0.here hexec rfl (hb hbytes d3) rfl rfl ?_
    refine X0.alen hexec (hA.1.mv X0.warmed.alike hh0) rfl rfl (hb hbytes d4) ?_
    refine XS.aconstNull X0.here hexec rfl (hb hbytes d5) ?_
    exact Steps.refl _)
  obtain ⟨v3, T3, X3, E3, g3⟩ := X0.callN hexec (New4.law l a D fV fC b A z 0 A.slots.size) rfl hown (wks W (initW "java/lang/String" 27 New4.yN)) (W New4.tab (by simp only [site, List.mem_cons, List.mem_append, true_or, or_true])) (W := 0) (Nat.le_of_ble_eq_true rfl) (Nat.le_of_ble_eq_true rfl) (Nat.le_refl _) (by show 0 + A.slots.size ≤ A.slots.size; omega) (g := (mkF m 6 #[.val (.ref a), .val (.ref b)] [.null, .int (Int32.ofNat A.slots.size), .int (Int32.ofNat 0), .ref b, .ref a])) rfl (by rw [hml]; rfl) c2 (argsL := [.ref b, .int (Int32.ofNat 0), .int (Int32.ofNat A.slots.size), .null]) (rest := []) rfl rfl (by show 2 * 0 + 0 ≤ _; decide) (hb hbytes d6) (⟨rfl, hB.mv X0.warmed.alike hh0, f1.al X0.warmed.alike, f2.al X0.warmed.alike, hA.mv X0.warmed.alike hh0, s1.there X0.warmed.alike hh0, hz, l0, by omega, l2, fun i hi => by rw [Nat.zero_add]; exact hp i hi⟩)
  have e0 := Got.mv _ s₁ s _ _ hh0.symm (Vm.Alike.refl _) rfl E3
  obtain rfl := e0.1
  have c4 : Steps p.tables e below (s₁.setTop (entryFrame m #[.ref a, .ref b] 2)) (T3.setTop (mkF m 9 #[.val (.ref a), .val (.ref b)] [])) := g3
  exact ⟨T3, none, _, _, _, X3, by simp, rfl, by omega, (fun _ => rfl), e0, fun fs hl => c4.trans (X3.returnOut hexec hret (hb hbytes d9) hl)⟩
theorem pays {l : Launch} {R : Room} {p : Program} {e : Env} {below : List Frame} {s : State} {sargs : Array Value} {len W : Nat} (a : Addr) (D : Cell) (fV fC : Field) (b : Addr) (A : Cell) (z : Int32) (htab : tab.before sargs s = true) (hfr : 4 ≤ R.frames) (hlo : W + 65 ≤ R.locals) :
    Back l R p e below s sargs yN len W (fun A₁ a₁ => A₁.cells + 1 ≤ R.cells ∧ A₁.slots + A.slots.size ≤ R.slots ∧ P a D fV fC b A z a₁ A₁.U) (fun A₁ _ v₁ B₁ => E a D fV fC A v₁ A₁.U B₁.U ∧ B₁.locs = A₁.locs ++ [⟨a, fC.slot⟩, ⟨a, fV.slot⟩] ∧ B₁.cells = A₁.cells + 1 ∧ B₁.slots = A₁.slots + A.slots.size) :=
  (law l a D fV fC b A z).pays htab hfr (by omega)
end New1
/-- the byte, read back as charAt reads it, is the char -/
theorem lo8_mask {x : Int32} (h0 : ¬ x < 0) (h1 : ¬ 255 < x) : lo8 x &&& 255 = x := by
  have t : ∀ k : Fin 256, lo8 (Int32.ofNat k.val) &&& 255 = Int32.ofNat k.val := by decide +kernel
  rw [Int32.lt_iff_toInt_lt] at h0 h1
  have e0 : (0 : Int32).toInt = 0 := rfl
  have e1 : (255 : Int32).toInt = 255 := rfl
  obtain ⟨k, hk⟩ : ∃ k : Nat, x.toInt = k := ⟨x.toInt.toNat, by omega⟩
  have hx : x = Int32.ofNat k := Int32.toInt_inj.mp (by rw [hk, Int32.toInt_ofNat_small (by omega)])
  rw [hx]
  exact t ⟨k, by omega⟩
end StrChars
namespace StrChars.Road
open Jvm Sem ClassFile Op Lib Jvm.Stand Jvm.Free Jvm.Free.XT
open Jvm.Lib.Cold (StaticIs)
abbrev ST : String := "java/lang/String"
/-- every table word that New1's law asks, flat -/
abbrev words : List Jvm.Cond := [.code New1.yN New1.yB 2 none, .initialized ST, .methodLink ST 27 New4.yN, .instanceMethod New4.yN,
  .code New4.yN New4.yB 6 none, .fieldLink ST 38 ST "COMPACT_STRINGS" "Z", .laysFinal ST ST "value" "[B", .fieldLink ST 9 ST "value" "[B", .laysFinal ST ST "coder" "B", .fieldLink ST 15 ST "coder" "B",
  .methodLink ST 1 Lib.objectInit, .instanceMethod Lib.objectInit, .code Lib.objectInit ⟨#[0xb1]⟩ 1 none, .methodLink ST 177 Cmp3.yN, .static Cmp3.yN, .methodLink ST 47 CodL.yN, .static CodL.yN,
  .code Cmp3.yN Cmp3.yB 6 (some (.array .byte)), .initialized U16, .arrayClass .byte, .methodLink U16 115 Cmp5.yN, .static Cmp5.yN, .code Cmp5.yN Cmp5.yB 7 (some .int), .code CodL.yN CodL.yB 2 (some .byte)]
theorem tab_of {a : Array Value} {s : State} (h : ∀ w ∈ words, w.before a s = true) : New1.tab.before a s = true := by
  have h5 : Cmp5.tab.before a s = true := unparts (wk h (.code Cmp5.yN Cmp5.yB 7 (some .int))) (wks h (.initialized Cmp5.yN.cls :: Cmp5.site))
  have hc : CodL.tab.before a s = true := unparts (wk h (.code CodL.yN CodL.yB 2 (some .byte))) (wks h (.initialized CodL.yN.cls :: CodL.site))
  have q5 : ∀ w ∈ Cmp5.tab :: words, w.before a s = true := fun w hw => (List.mem_cons.mp hw).elim (fun e => e ▸ h5) (h w)
  have h3 : Cmp3.tab.before a s = true := unparts (wk q5 (.code Cmp3.yN Cmp3.yB 6 (some (.array .byte)))) (wks q5 (.initialized Cmp3.yN.cls :: Cmp3.site))
  have q3 : ∀ w ∈ Cmp3.tab :: CodL.tab :: words, w.before a s = true := fun w hw => (List.mem_cons.mp hw).elim (fun e => e ▸ h3) fun hw => (List.mem_cons.mp hw).elim (fun e => e ▸ hc) (h w)
  have h4 : New4.tab.before a s = true := unparts (wk q3 (.code New4.yN New4.yB 6 none)) (wks q3 (.initialized New4.yN.cls :: New4.site))
  have q4 : ∀ w ∈ New4.tab :: words, w.before a s = true := fun w hw => (List.mem_cons.mp hw).elim (fun e => e ▸ h4) (h w)
  exact unparts (wk q4 (.code New1.yN New1.yB 2 none)) (wks q4 (.initialized New1.yN.cls :: New1.site))
/-- the words ride from the start Z to the walk's own state -/
theorem moved {Z s : State} {a0 args : Array Value} (hZ : Z.Warmed39 s.vm) (hw : ∀ d ∈ words, d.before a0 Z = true) : ∀ d ∈ words, d.before args s = true := fun d hd => by
  have q := hw d hd
  have t : ∀ d ∈ words, d = .arrayClass .byte ∨ (d.onTables && d.keepsFace) = true := by decide +kernel
  rcases t d hd with rfl | t
  · exact RoadKit.mvA hZ q
  · exact RoadKit.mv hZ q t
/-- WHAT COMES BACK, over the tables of the start Z: h the heap at the call, h' behind it -/
def Q (Z : State) (x : Addr) (A : Cell) (h : Heap) (v : Option Value) (h' : Heap) (L : List Loc) : Prop := v = none ∧ (∀ y ∈ L, y.base = x) ∧ RoadKit.Keep h h' [x] ∧ h'.size = h.size + 1 ∧ RoadKit.Exa Z h' x ST ∧ RoadKit.Fld Z h' x ST "value" "[B" (.ref h.size) ∧ RoadKit.Fld Z h' x ST "coder" "B" (.int 0) ∧
  (∃ V : Cell, RoadKit.Arr Z h' h.size V .byte ∧ V.vm = .none ∧ Z.vm.findClass "[B" = some V.cls ∧ V.slots.size = A.slots.size ∧ ∀ j, j < A.slots.size → V.slots[j]? = some (.int (lo8 (cv A j)))) ∧
  ∀ (O n d : String) (w : Value), RoadKit.Fld Z h x O n d w → RoadKit.slotOf Z O n d ≠ RoadKit.slotOf Z ST "value" "[B" → RoadKit.slotOf Z O n d ≠ RoadKit.slotOf Z ST "coder" "B" → RoadKit.Fld Z h' x O n d w
/-- **new String(chars) AT A CALL, IN THE ROAD'S FORM**: for specialBack behind newO: x the fresh String, b the char[] with the cell A -/
theorem back {p : Program} {l : Launch} {e : Env} {R : Room} {s : State} {args : Array Value} {below : List Frame} {len W : Nat} {Z : State} {a0 : Array Value} {h : Heap} (hZ : Z.Warmed39 s.vm) (hw : ∀ d ∈ words, d.before a0 Z = true) {kI : Nat} (wi : (Jvm.Cond.instantiable ST kI).before a0 Z = true)
    {x b : Addr} {A : Cell} {z : Int32} {v0 c0 : Value} (E : RoadKit.Exa Z h x ST) (V : RoadKit.Fld Z h x ST "value" "[B" v0) (C : RoadKit.Fld Z h x ST "coder" "B" c0) (K : RoadKit.Arr Z h b A .char) (hty : Typed .char A) (S : RoadKit.Sta Z h ST "COMPACT_STRINGS" "Z" (.int z)) (hz : ¬ z = 0)
    (l0 : 0 < A.slots.size) (l2 : A.slots.size ≤ 536870912) (hp : ∀ i, i < A.slots.size → ¬ 255 < cv A i) (hfr : 4 ≤ R.frames) (hlo : W + 65 ≤ R.locals) :
    Back l R p e below s args New1.yN len W (fun P a => a = #[.ref x, .ref b] ∧ P.U.heap = h ∧ P.cells + 1 ≤ R.cells ∧ P.slots + A.slots.size ≤ R.slots)
      (fun P _ v B => ∃ L, Q Z x A h v B.U.heap L ∧ B.locs = P.locs ++ L ∧ B.cells = P.cells + 1 ∧ B.slots = P.slots + A.slots.size) := by
  intro m meth c P g ig mk a X hg hsize hdg hW hn hp'
  obtain ⟨rfl, rfl, r1, r2⟩ := hp'
  have al : Z.vm.Alike P.U.vm := hZ.alike.trans X.warmed.alike
  obtain ⟨D, cfV, kV, iV, fV, hD, gV, stV, knV, obV, asV, slV⟩ := id V
  obtain ⟨D', cfC, kC, iC, fC, hD', gC, stC, -, -, asC, slC⟩ := id C
  cases hD.symm.trans hD'
  obtain ⟨D2, kD, e1, e2, e3, e4, e5⟩ := id E
  cases hD.symm.trans e1
  obtain ⟨c2, k2, i1, i2, i3, -⟩ := Cond.instantiable_spec wi
  cases e2.symm.trans i1
  cases e3.symm.trans i2
  obtain ⟨kU, u1, u2⟩ := al.2.2 _ _ e3
  have hB : Blank ST x D P.U := ⟨hD, ⟨knV, fun q hq => by rw [hq] at obV; cases obV⟩, by rw [al.findClass]; exact e2, kU, u1, by rw [u2]; exact i3, by rw [u2]; exact e5 i3⟩
  have F1 : Found ST "value" "[B" fV P.U := ⟨SBG.found_only al ⟨cfV, kV, iV, gV⟩, stV⟩
  have F2 : Found ST "coder" "B" fC P.U := ⟨SBG.found_only al ⟨cfC, kC, iC, gC⟩, stC⟩
  have hA : Ch b A P.U := ⟨⟨K.1, State.isArrayOf_alike al K.2.1, K.2.2, by omega⟩, hty⟩
  have hS : StaticIs P.U ST "COMPACT_STRINGS" "Z" (.int z) := by
    obtain ⟨cfS, iS, kS, fS, st, cS, t1, t2, t3, t4, t5, t6, t7⟩ := S
    exact StaticIs.there (s := { Z with heap := P.U.heap }) ⟨cfS, iS, kS, fS, st, cS, t1, t2, t3, t4, t5, (fun q => by rw [q] at t6; cases t6), t7⟩ al rfl
  obtain ⟨v, B, X', ⟨⟨hv, E', V', q1, q2, q3, q4, q5, q6, q7, q8, q9, q10, q11⟩, hl, hc, hs⟩, st⟩ := New1.pays x D fV fC b A z (tab_of (moved hZ hw)) hfr hlo m meth c P g ig mk _ X hg hsize hdg hW hn ⟨r1, r2, rfl, hB, F1, F2, hA, hS, hz, l0, l2, hp⟩
  have al' : Z.vm.Alike B.U.vm := hZ.alike.trans X'.warmed.alike
  have hsz : E'.slots.size = D.slots.size := by
    obtain ⟨-, -, -, kB, w1, w2, w3⟩ := q1
    obtain ⟨kB', y1, y2⟩ := al'.2.2 _ _ e3
    rw [q2.2.1] at w1
    cases w1.symm.trans y1
    rw [w3, e5 i3, y2]
  refine ⟨v, B, X', ⟨_, ⟨hv, ?_, ⟨by omega, fun y cy hy hn' => q10 y cy (by simpa using hn') hy, fun y cy hy => ?_⟩, q11, ⟨E', _, q1.1, by rw [q2.2.1]; exact e2, by rw [q2.2.1]; exact e3, by rw [q2.1]; exact obV, fun _ => by rw [hsz]; exact e5 i3⟩,
    ⟨E', cfV, kV, iV, fV, q1.1, gV, stV, by rw [q2.1]; exact knV, by rw [q2.1]; exact obV, by rw [q2.2.1]; exact asV, q3⟩, ⟨E', cfC, kC, iC, fC, q1.1, gC, stC, by rw [q2.1]; exact knV, by rw [q2.1]; exact obV, by rw [q2.2.1]; exact asC, q4⟩,
    ⟨V', ⟨q5.1, State.isArrayOf_alike al'.symm q5.2.1, q5.2.2.1⟩, q6, by rw [← al'.findClass]; exact q7, q8, fun j hj => by have := q9 j hj; rwa [Nat.zero_add] at this⟩, fun O n d w F n1 n2 => ?_⟩, hl, hc, hs⟩, st⟩
  · intro y hy
    simp only [List.mem_cons, List.not_mem_nil, or_false] at hy
    rcases hy with rfl | rfl <;> rfl
  · by_cases q : y = x
    · subst q
      cases hD.symm.trans hy
      exact ⟨E', q1.1, q2.2.1, q2.1, hsz⟩
    · exact ⟨cy, q10 y cy q hy, rfl, rfl, rfl⟩
  · obtain ⟨D3, cf, k, i, f, g1, g2, g3, g4, g5, g6, g7⟩ := F
    cases hD.symm.trans g1
    simp only [RoadKit.slotOf, g2, gV, gC, Option.map_some, Option.getD_some] at n1 n2
    exact ⟨E', cf, k, i, f, q1.1, g2, g3, by rw [q2.1]; exact g4, by rw [q2.1]; exact g5, by rw [q2.2.1]; exact g6, by rw [q2.2.2 f.slot (by simp [n1, n2])]; exact g7⟩
end StrChars.Road
namespace StrChars.Road
open Jvm Sem ClassFile Op Lib Jvm.Stand Jvm.Free Jvm.Free.XT
/-- WHAT COMES BACK, the byte[] as a list of values -/
def QA (Z : State) (x : Addr) (zn : Int32) (cs : List Int32) (h : Heap) (v : Option Value) (h' : Heap) (L : List Loc) : Prop := v = none ∧ (∀ y ∈ L, y.base = x) ∧ RoadKit.Keep h h' [x] ∧ h'.size = h.size + 1 ∧ RoadKit.Exa Z h' x ST ∧ RoadKit.Fld Z h' x ST "value" "[B" (.ref h.size) ∧ RoadKit.Fld Z h' x ST "coder" "B" (.int 0) ∧
  (∃ kb, Z.vm.findClass "[B" = some kb ∧ RoadKit.Arv Z h' h.size kb .byte zn (cs.map fun c => .int (lo8 c)) (.int 0)) ∧
  ∀ (O n d : String) (w : Value), RoadKit.Fld Z h x O n d w → RoadKit.slotOf Z O n d ≠ RoadKit.slotOf Z ST "value" "[B" → RoadKit.slotOf Z O n d ≠ RoadKit.slotOf Z ST "coder" "B" → RoadKit.Fld Z h' x O n d w
/-- **new String(chars) AT A CALL, THE ARRAYS AS LISTS**: the char[] at b holds cs, not empty, no char above 255 -/
theorem backArv {p : Program} {l : Launch} {e : Env} {R : Room} {s : State} {args : Array Value} {below : List Frame} {len W : Nat} {Z : State} {a0 : Array Value} {h : Heap} (hZ : Z.Warmed39 s.vm) (hw : ∀ d ∈ words, d.before a0 Z = true) {kI : Nat} (wi : (Jvm.Cond.instantiable ST kI).before a0 Z = true)
    {x b : Addr} {k : ClassId} {zn z : Int32} {cs : List Int32} {dv v0 c0 : Value} (E : RoadKit.Exa Z h x ST) (V : RoadKit.Fld Z h x ST "value" "[B" v0) (C : RoadKit.Fld Z h x ST "coder" "B" c0) (K : RoadKit.Arv Z h b k .char zn (cs.map Value.int) dv) (S : RoadKit.Sta Z h ST "COMPACT_STRINGS" "Z" (.int z)) (hz : ¬ z = 0)
    (hlen : zn.toNatClampNeg = cs.length) (h0 : 0 < cs.length) (hbig : cs.length ≤ 536870912) (hall : ∀ c ∈ cs, ¬ 255 < c) (hfr : 4 ≤ R.frames) (hlo : W + 65 ≤ R.locals) :
    Back l R p e below s args New1.yN len W (fun P a => a = #[.ref x, .ref b] ∧ P.U.heap = h ∧ P.cells + 1 ≤ R.cells ∧ P.slots + cs.length ≤ R.slots)
      (fun P _ v B => ∃ L, QA Z x zn cs h v B.U.heap L ∧ B.locs = P.locs ++ L ∧ B.cells = P.cells + 1 ∧ B.slots = P.slots + cs.length) := by
  obtain ⟨A, K1, K2, K3, K4, K5, K6⟩ := K
  have e : A.slots.size = cs.length := K3.trans hlen
  have hat : ∀ (i : Nat) (hi : i < cs.length), A.slots[i]? = some (.int cs[i]) := fun i hi => by rw [K5 i (by omega)]; simp [List.getD_eq_getElem?_getD, hi]
  have hcv : ∀ (i : Nat) (hi : i < cs.length), cv A i = cs[i] := fun i hi => by unfold cv; rw [hat i hi]
  have hty : Typed .char A := fun i v hv => by
    have hi : i < A.slots.size := (Array.getElem?_eq_some_iff.mp hv).1
    have q := K5 i hi
    rw [hv] at q
    rw [Option.some.inj q]
    exact K6 i hi
  refine Back.mono (back hZ hw wi E V C K1 hty S hz (by omega) (by omega) (fun i hi => by rw [hcv i (by omega)]; exact hall _ (List.getElem_mem _)) hfr hlo) (fun P a hp => ⟨hp.1, hp.2.1, hp.2.2.1, by rw [e]; exact hp.2.2.2⟩) (fun P a v B hp hq => ?_)
  obtain ⟨L, ⟨q1, q2, q3, q4, q5, q6, q7, ⟨V', v1, v2, v3, v4, v5⟩, q9⟩, hl, hc, hs⟩ := hq
  refine ⟨L, ⟨q1, q2, q3, q4, q5, q6, q7, ⟨V'.cls, v3, V', v1, rfl, by rw [v4, e, hlen], K4, fun i hi => ?_, fun i hi => ?_⟩, q9⟩, hl, hc, by rw [hs, e]⟩
  · have hi' : i < cs.length := by omega
    rw [v5 i (by omega), hcv i hi']; simp [List.getD_eq_getElem?_getD, hi']
  · have hi' : i < cs.length := by omega
    simp only [List.getD_eq_getElem?_getD, List.getElem?_map, List.getElem?_eq_getElem hi', Option.map_some, Option.getD_some]
    exact fits_lo8 _
end StrChars.Road
namespace StrChars.Road
open Jvm Sem ClassFile Op Lib Jvm.Stand Jvm.Free Jvm.Free.XT
/-- WHAT COMES BACK, in the writer's own shape -/
def QV (Z : State) (x : Addr) (N : Int32) (bs : List Int32) (h : Heap) (n0 : Nat) (v : Option Value) (h' : Heap) (L : List Loc) : Prop := v = none ∧ RoadKit.Fr n0 L ∧ RoadKit.Keep h h' [x] ∧ RoadKit.Exa Z h' x ST ∧ RoadKit.Fld Z h' x ST "coder" "B" (.int 0) ∧
  ∃ (t : Addr) (kb : ClassId), n0 ≤ t ∧ h.size ≤ t ∧ ¬ t = x ∧ RoadKit.Fld Z h' x ST "value" "[B" (.ref t) ∧ RoadKit.Arv Z h' t kb .byte N (bs.map Value.int) (.int 0)
/-- **new String(chars) AT A CALL, FOR THE WRITER**: a char[] of n known ints, each 0 to 255 -/
theorem backV {p : Program} {l : Launch} {e : Env} {R : Room} {s : State} {args : Array Value} {below : List Frame} {len W : Nat} {Z : State} {a0 : Array Value} {h : Heap} (hZ : Z.Warmed39 s.vm) (hw : ∀ d ∈ words, d.before a0 Z = true) {kI : Nat} (wi : (Jvm.Cond.instantiable ST kI).before a0 Z = true)
    {x b : Addr} {kC : ClassId} {cs bs : List Int32} {d v0 c0 : Value} {z N : Int32} {n n0 : Nat} (hx0 : n0 ≤ x) (hh0 : n0 ≤ h.size) (E : RoadKit.Exa Z h x ST) (V : RoadKit.Fld Z h x ST "value" "[B" v0) (C : RoadKit.Fld Z h x ST "coder" "B" c0) (K : RoadKit.Arv Z h b kC .char N (cs.map Value.int) d) (S : RoadKit.Sta Z h ST "COMPACT_STRINGS" "Z" (.int z)) (hz : ¬ z = 0)
    (hn : cs.length = n) (hN : N = Int32.ofNat n) (l0 : 0 < n) (l2 : n ≤ 4000) (hp : ∀ c ∈ cs, ¬ c < 0 ∧ ¬ (255 : Int32) < c) (hb : bs = cs.map (fun c => c.toInt8.toInt32)) (hfr : 4 ≤ R.frames) (hlo : W + 65 ≤ R.locals) :
    Back l R p e below s args (⟨"java/lang/String", "<init>", "([C)V"⟩ : MethodName) len W (fun P a => a = #[.ref x, .ref b] ∧ P.U.heap = h ∧ P.cells + 1 ≤ R.cells ∧ P.slots + n ≤ R.slots)
      (fun P _ v B => ∃ L, QV Z x N bs h n0 v B.U.heap L ∧ B.locs = P.locs ++ L ∧ B.cells = P.cells + 1 ∧ B.slots = P.slots + n) := by
  subst hn hN hb
  refine Back.mono (backArv hZ hw wi E V C K S hz (n32 (by omega)) l0 (by omega) (fun c hc => (hp c hc).2) hfr hlo) (fun P a hp => hp) (fun P a v B hp hq => ?_)
  obtain ⟨L, ⟨q1, q2, q3, q4, q5, q6, q7, ⟨kb, v1, v2⟩, q9⟩, hl, hc, hs⟩ := hq
  exact ⟨L, ⟨q1, fun y hy => by rw [q2 y hy]; exact hx0, q3, q5, q7, h.size, kb, hh0, Nat.le_refl _, Nat.ne_of_gt E.lt, q6, by rw [List.map_map]; exact v2⟩, hl, hc, hs⟩
end StrChars.Road
namespace StrChars
open Jvm Sem ClassFile Op Lib Jvm.Stand Jvm.Free.XT Jvm.Free.ALB Jvm.Free.JM Jvm.Free
open Jvm.Lib.Cold (StaticIs)
def hi8 (x : Int32) : Int32 := lo8 (x >>> ((8 : Int32) &&& 31))
/-- what StringUTF16.getChar makes of two bytes -/
def pairCh (u v : Int32) : Int32 := (((u &&& 255) <<< ((0 : Int32) &&& 31)) ||| ((v &&& 255) <<< ((8 : Int32) &&& 31))).toUInt32.toUInt16.toUInt32.toInt32
theorem shr0 (c : Int32) : c >>> ((0 : Int32) &&& 31) = c := by
  have e : ((0 : Int32) &&& 31) = 0 := by decide
  rw [e]
  apply Int32.toBitVec_inj.mp
  rw [Int32.toBitVec_shiftRight]
  have e1 : ((0 : Int32).toBitVec.smod 32) = 0#32 := by decide
  rw [e1, BitVec.sshiftRight_eq']
  exact BitVec.sshiftRight_zero
theorem lo8_and (x : Int32) : (lo8 x &&& 255).toBitVec.toNat = x.toBitVec.toNat % 256 := by
  have h : (lo8 x).toBitVec = (x.toBitVec.signExtend 8).signExtend 32 := by rw [lo8, Int8.toBitVec_toInt32, Int32.toBitVec_toInt8]
  rw [Int32.toBitVec_and, BitVec.toNat_and, h]
  have e : ((x.toBitVec.signExtend 8).signExtend 32).toNat % 256 = x.toBitVec.toNat % 256 := by
    rw [BitVec.toNat_signExtend]
    have hlt := x.toBitVec.isLt
    simp only [BitVec.toNat_setWidth, BitVec.toNat_signExtend]
    split <;> split <;> omega
  rw [← e]
  exact Nat.and_two_pow_sub_one_eq_mod _ 8
theorem pair_says {c : Int32} (h0 : ¬ c < 0) (h1 : ¬ 65535 < c) : pairCh (lo8 c) (hi8 c) = c := by
  rw [Int32.lt_iff_toInt_lt] at h0 h1
  have e0 : (0 : Int32).toInt = 0 := rfl
  have e1 : (65535 : Int32).toInt = 65535 := rfl
  have hc : c.toInt = c.toBitVec.toNat := by
    have := c.toBitVec.isLt
    have e : c.toInt = c.toBitVec.toInt := rfl
    rw [e] at h0 h1
    rw [e]
    rw [BitVec.toInt_eq_toNat_cond] at h0 h1 ⊢
    split at h0 <;> split <;> omega
  have hn : c.toBitVec.toNat < 65536 := by omega
  have a1 := lo8_and c
  have a2 : (hi8 c &&& 255).toBitVec.toNat = c.toBitVec.toNat / 256 := by
    rw [hi8, lo8_and]
    have e : ((8 : Int32) &&& 31) = 8 := by decide
    rw [e, Int32.toBitVec_shiftRight]
    have e2 : ((8 : Int32).toBitVec.smod 32) = 8#32 := by decide
    rw [e2, BitVec.sshiftRight_eq', BitVec.toNat_sshiftRight_of_msb_false (by rw [BitVec.msb_eq_false_iff_two_mul_lt]; omega)]
    show c.toBitVec.toNat >>> 8 % 256 = _
    rw [Nat.shiftRight_eq_div_pow]
    omega
  unfold pairCh
  apply Int32.toBitVec_inj.mp
  apply BitVec.eq_of_toNat_eq
  have f0 : ((0 : Int32) &&& 31) = 0 := by decide
  have f8 : ((8 : Int32) &&& 31) = 8 := by decide
  rw [f0, f8]
  have g : (((lo8 c &&& 255) <<< (0 : Int32)) ||| ((hi8 c &&& 255) <<< (8 : Int32))).toBitVec.toNat = c.toBitVec.toNat := by
    rw [Int32.toBitVec_or, Int32.toBitVec_shiftLeft, Int32.toBitVec_shiftLeft]
    have s0 : ((0 : Int32).toBitVec.smod 32) = 0#32 := by decide
    have s8 : ((8 : Int32).toBitVec.smod 32) = 8#32 := by decide
    rw [s0, s8, BitVec.toNat_or]
    simp only [BitVec.shiftLeft_eq', BitVec.toNat_shiftLeft, a1, a2]
    show (c.toBitVec.toNat % 256) <<< 0 % 2 ^ 32 ||| (c.toBitVec.toNat / 256) <<< 8 % 2 ^ 32 = _
    rw [Nat.shiftLeft_zero, Nat.mod_eq_of_lt (show c.toBitVec.toNat % 256 < 2 ^ 32 by omega), Nat.mod_eq_of_lt (show (c.toBitVec.toNat / 256) <<< 8 < 2 ^ 32 by rw [Nat.shiftLeft_eq]; omega), Nat.or_comm, ← Nat.shiftLeft_add_eq_or_of_lt (by omega), Nat.shiftLeft_eq]
    omega
  show BitVec.toNat (((((lo8 c &&& 255) <<< (0 : Int32)) ||| ((hi8 c &&& 255) <<< (8 : Int32))).toBitVec.setWidth 16).setWidth 32) = _
  rw [BitVec.toNat_setWidth, BitVec.toNat_setWidth, g]
  omega
end StrChars
namespace StrChars
open Jvm Sem ClassFile Op Lib Jvm.Stand Jvm.Free.XT Jvm.Free.ALB Jvm.Free.JM Jvm.Free
open Jvm.Lib.Cold (StaticIs)
theorem shr1 {n : Nat} (h : 2 * n < 2 ^ 31) : Int32.ofNat (2 * n) >>> ((1 : Int32) &&& 31) = Int32.ofNat n := by
  have e : ((1 : Int32) &&& 31) = 1 := by decide
  rw [e]
  apply Int32.toBitVec_inj.mp
  rw [Int32.toBitVec_shiftRight]
  have e1 : ((1 : Int32).toBitVec.smod 32) = 1#32 := by decide
  have hm : (BitVec.ofNat 32 (2 * n)).toNat = 2 * n := by rw [BitVec.toNat_ofNat, Nat.mod_eq_of_lt (by omega)]
  rw [e1, BitVec.sshiftRight_eq']
  apply BitVec.eq_of_toNat_eq
  show ((BitVec.ofNat 32 (2 * n)).sshiftRight 1).toNat = (BitVec.ofNat 32 n).toNat
  rw [BitVec.toNat_sshiftRight_of_msb_false (by rw [BitVec.msb_eq_false_iff_two_mul_lt, hm]; omega), hm, BitVec.toNat_ofNat, Nat.shiftRight_eq_div_pow]
  omega
/-- charAt's cast of a byte read back -/
def chr8 (u : Int32) : Int32 := (u &&& 255).toUInt32.toUInt16.toUInt32.toInt32
theorem chr8_lo8 {c : Int32} (h0 : ¬ c < 0) (h1 : ¬ 255 < c) : chr8 (lo8 c) = c := by
  have t : ∀ k : Fin 256, (Int32.ofNat k.val).toUInt32.toUInt16.toUInt32.toInt32 = Int32.ofNat k.val := by decide +kernel
  unfold chr8
  rw [lo8_mask h0 h1]
  rw [Int32.lt_iff_toInt_lt] at h0 h1
  have e0 : (0 : Int32).toInt = 0 := rfl
  have e1 : (255 : Int32).toInt = 255 := rfl
  obtain ⟨k, hk⟩ : ∃ k : Nat, c.toInt = k := ⟨c.toInt.toNat, by omega⟩
  have hx : c = Int32.ofNat k := Int32.toInt_inj.mp (by rw [hk, Int32.toInt_ofNat_small (by omega)])
  rw [hx]
  exact t ⟨k, by omega⟩
theorem narrow_ch {c : Int32} (h0 : ¬ c < 0) (h1 : ¬ 65535 < c) : narrow .char (.int c) = .int c := by
  have q : narrow .char (.int (pairCh (lo8 c) (hi8 c))) = .int (pairCh (lo8 c) (hi8 c)) := narrow_c _
  rwa [pair_says h0 h1] at q
/-- the array's cell V codes the n chars f 0 .. f (n - 1) by the coder cd, as the JDK does: coder 1 just where some char is above 255 -/
def Cod (cd : Int32) (n : Nat) (f : Nat → Int32) (V : Cell) : Prop := (cd = 0 ∧ V.slots.size = n ∧ ∀ j, j < n → V.slots[j]? = some (.int (lo8 (f j))) ∧ ¬ 255 < f j) ∨ (cd = 1 ∧ V.slots.size = 2 * n ∧ (∀ j, j < n → V.slots[2 * j]? = some (.int (lo8 (f j))) ∧ V.slots[2 * j + 1]? = some (.int (hi8 (f j)))) ∧ ∃ j, j < n ∧ 255 < f j)
theorem Cod.cd {cd : Int32} {n : Nat} {f : Nat → Int32} {V : Cell} (h : Cod cd n f V) : cd = 0 ∨ cd = 1 := h.imp (fun q => q.1) fun q => q.1
theorem Cod.len {cd : Int32} {n : Nat} {f : Nat → Int32} {V : Cell} (h : Cod cd n f V) (hs : V.slots.size < 2 ^ 31) : Int32.ofNat V.slots.size >>> (cd &&& 31) = Int32.ofNat n := by
  rcases h with ⟨rfl, h, -⟩ | ⟨rfl, h, -⟩
  · rw [shr0, h]
  · rw [h, shr1 (by omega)]
/-- **x is a String of the n chars f 0 .. f (n - 1)**, Latin-1 or UTF-16; its array at t has the cell V -/
def Txt (x t : Addr) (V : Cell) (cd : Int32) (n : Nat) (f : Nat → Int32) (U : State) : Prop := Exact "java/lang/String" x U ∧ Has x "java/lang/String" "value" "[B" (.ref t) U ∧ Has x "java/lang/String" "coder" "B" (.int cd) U ∧ XT.Arr .byte t V U ∧ Cod cd n f V ∧ ∀ j, j < n → ¬ f j < 0 ∧ ¬ 65535 < f j
theorem Txt.mv {x t : Addr} {V : Cell} {cd : Int32} {n : Nat} {f : Nat → Int32} {U U' : State} (h : Txt x t V cd n f U) (hal : U.vm.Alike U'.vm) (hh : U'.heap = U.heap) : Txt x t V cd n f U' := ⟨h.1.mv hal hh, h.2.1.mv hal hh, h.2.2.1.mv hal hh, h.2.2.2.1.mv hal hh, h.2.2.2.2⟩
namespace Cdr
def yN : MethodName := ⟨"java/lang/String", "coder", "()B"⟩
abbrev yB : ByteArray := jdk_42_method_152_code
theorem d0 : decode yB 0 = .ok (.getstatic 38, 3) := by decide +kernel
theorem d3 : decode yB 3 = .ok (.ifCond (.eq) 10, 3) := by decide +kernel
theorem d6 : decode yB 6 = .ok (.aload_n 0, 1) := by decide +kernel
theorem d7 : decode yB 7 = .ok (.getfield 15, 3) := by decide +kernel
theorem d10 : decode yB 10 = .ok (.goto 4, 3) := by decide +kernel
theorem d14 : decode yB 14 = .ok (.ireturn, 1) := by decide +kernel
def site : List Cond := [.fieldLink "java/lang/String" 38 "java/lang/String" "COMPACT_STRINGS" "Z", .fieldLink "java/lang/String" 15 "java/lang/String" "coder" "B"]
def tab : Cond := tabOf yN yB 1 (some .byte) site
def P (x : Addr) (cd z : Int32) (args : Array Value) (s : State) : Prop := args = #[.ref x] ∧ Has x "java/lang/String" "coder" "B" (.int cd) s ∧ (cd = 0 ∨ cd = 1) ∧ StaticIs s "java/lang/String" "COMPACT_STRINGS" "Z" (.int z) ∧ ¬ z = 0
def E (cd : Int32) (r : Option Value) (s u : State) : Prop := XT.PureE (some (.int cd)) r s u
theorem law (l : Launch) (x : Addr) (cd z : Int32) : Law l yN 1 0 0 0 yB 1 (some .byte) site (P x cd z) (E cd) [] 0 0 := by
  refine Law.of_walk (plainFor_of_name (by decide +kernel)) (by decide +kernel) (by decide +kernel) (by decide) (fun _ _ h => by rw [h.1]; rfl) (fun _ U U' hal hh h => ⟨h.1, h.2.1.mv hal hh, h.2.2.1, h.2.2.2.1.there hal hh, h.2.2.2.2⟩) (fun r U U' V V' h1 hal h2 h => XT.PureE.mv r U U' V V' h1 hal h2 h) ?_
  intro p e s m args below meth c s₁ X0 hexec hbytes hml hret hlk hnm hown hh0 W hP
  obtain ⟨rfl, hx, hc, s1, hz⟩ := hP
  have c1 : Steps p.tables e below (s₁.setTop (entryFrame m #[.ref x] 1)) (s₁.setTop (mkF m 0 #[.val (.ref x)] [])) := entry rfl
  obtain ⟨T2, X2, q2, st2⟩ := X0.sget hexec hown (wk W (.fieldLink "java/lang/String" 38 "java/lang/String" "COMPACT_STRINGS" "Z")) s1 (fun _ _ h => by rw [hh0]; exact h) (g := (mkF m 0 #[.val (.ref x)] [])) rfl (hb hbytes d0)
  have hh2 := q2.trans hh0
  have c3 : Steps p.tables e below (s₁.setTop (entryFrame m #[.ref x] 1)) (T2.setTop (mkF m 7 #[.val (.ref x)] [.ref x])) := (c1.trans (st2 _ (Steps.refl _))).trans (by
    refine XS.ifNo X2.here hexec rfl (hb hbytes d3) rfl (i0_eq_f hz) ?_
    refine XS.aloadN X2.here hexec rfl (hb hbytes d6) rfl rfl ?_
    exact Steps.refl _)
  obtain ⟨T4, X4, q4, st4⟩ := X2.hget hexec hown (wk W (.fieldLink "java/lang/String" 15 "java/lang/String" "coder" "B")) (hx.mv X2.warmed.alike hh2) (g := (mkF m 7 #[.val (.ref x)] [.ref x])) rfl (rest := []) rfl (hb hbytes d7)
  have c5 : Steps p.tables e below (s₁.setTop (entryFrame m #[.ref x] 1)) (T4.setTop (mkF m 14 #[.val (.ref x)] [.int cd])) := (c3.trans (st4 _ (Steps.refl _))).trans (by
    refine XS.goto X4.here hexec rfl (pc0 := 10) rfl (hb hbytes d10) (by decide) rfl ?_
    exact Steps.refl _)
  exact ⟨T4, some (.int cd), _, _, _, X4, rfl, rfl, rfl, (fun h => by cases h), ⟨rfl, q4.trans hh2⟩, fun fs hl => c5.trans (X4.ireturnOut hexec hret (by rcases hc with rfl | rfl <;> rfl) (Or.inr (Or.inr (Or.inl rfl))) (hb hbytes d14) hl)⟩
end Cdr
namespace Len
def yN : MethodName := ⟨"java/lang/String", "length", "()I"⟩
abbrev yB : ByteArray := jdk_42_method_54_code
theorem d0 : decode yB 0 = .ok (.aload_n 0, 1) := by decide +kernel
theorem d1 : decode yB 1 = .ok (.getfield 9, 3) := by decide +kernel
theorem d4 : decode yB 4 = .ok (.arraylength, 1) := by decide +kernel
theorem d5 : decode yB 5 = .ok (.aload_n 0, 1) := by decide +kernel
theorem d6 : decode yB 6 = .ok (.invokevirtual 335, 3) := by decide +kernel
theorem d9 : decode yB 9 = .ok (.ishr, 1) := by decide +kernel
theorem d10 : decode yB 10 = .ok (.ireturn, 1) := by decide +kernel
def site : List Cond := [.fieldLink "java/lang/String" 9 "java/lang/String" "value" "[B", Cdr.tab] ++ virtW "java/lang/String" 335 "java/lang/String" Cdr.yN Cdr.yN
def tab : Cond := tabOf yN yB 1 (some .int) site
def P (x t : Addr) (V : Cell) (cd : Int32) (n : Nat) (f : Nat → Int32) (z : Int32) (args : Array Value) (s : State) : Prop := args = #[.ref x] ∧ Txt x t V cd n f s ∧ StaticIs s "java/lang/String" "COMPACT_STRINGS" "Z" (.int z) ∧ ¬ z = 0
def E (n : Nat) (r : Option Value) (s u : State) : Prop := XT.PureE (some (.int (Int32.ofNat n))) r s u
/-- length() of a String of n chars, in either coding -/
theorem law (l : Launch) (x t : Addr) (V : Cell) (cd : Int32) (n : Nat) (f : Nat → Int32) (z : Int32) : Law l yN 1 0 1 13 yB 1 (some .int) site (P x t V cd n f z) (E n) [] 0 0 := by
  refine Law.of_walk (plainFor_of_name (by decide +kernel)) (by decide +kernel) (by decide +kernel) (by decide) (fun _ _ h => by rw [h.1]; rfl) (fun _ U U' hal hh h => ⟨h.1, h.2.1.mv hal hh, h.2.2.1.there hal hh, h.2.2.2⟩) (fun r U U' V V' h1 hal h2 h => XT.PureE.mv r U U' V V' h1 hal h2 h) ?_
  intro p e s m args below meth c s₁ X0 hexec hbytes hml hret hlk hnm hown hh0 W hP
  obtain ⟨rfl, hx, s1, hz⟩ := hP
  have v31 := hx.2.2.2.1.2.2.2
  have c1 : Steps p.tables e below (s₁.setTop (entryFrame m #[.ref x] 1)) (s₁.setTop (mkF m 1 #[.val (.ref x)] [.ref x])) := Steps.trans (entry rfl) (by
    show Steps p.tables e below (s₁.setTop (mkF m 0 #[.val (.ref x)] [])) _
    refine XS.aloadN X0.here hexec rfl (hb hbytes d0) rfl rfl ?_
    exact Steps.refl _)
  obtain ⟨T2, X2, q2, st2⟩ := X0.hget hexec hown (wk W (.fieldLink "java/lang/String" 9 "java/lang/String" "value" "[B")) (hx.mv X0.warmed.alike hh0).2.1 (g := (mkF m 1 #[.val (.ref x)] [.ref x])) rfl (rest := []) rfl (hb hbytes d1)
  have hh2 := q2.trans hh0
  have hx2 := hx.mv X2.warmed.alike hh2
  have c3 : Steps p.tables e below (s₁.setTop (entryFrame m #[.ref x] 1)) (T2.setTop (mkF m 6 #[.val (.ref x)] [.ref x, .int (Int32.ofNat V.slots.size)])) := (c1.trans (st2 _ (Steps.refl _))).trans (by
    refine X2.alen hexec hx2.2.2.2.1 rfl rfl (hb hbytes d4) ?_
    refine XS.aloadN X2.here hexec rfl (hb hbytes d5) rfl rfl ?_
    exact Steps.refl _)
  obtain ⟨v4, T4, X4, E4, g4⟩ := X2.callV hexec (Cdr.law l x cd z) hown (wks W (virtW "java/lang/String" 335 "java/lang/String" Cdr.yN Cdr.yN)) rfl (by decide) (wk W Cdr.tab) (W := 1) (Nat.le_of_ble_eq_true rfl) (Nat.le_of_ble_eq_true rfl) (Nat.le_refl _) (Nat.le_refl _) (hx2.1.fc X2.warmed.alike) hx2.1.is (g := (mkF m 6 #[.val (.ref x)] [.ref x, .int (Int32.ofNat V.slots.size)])) rfl (by rw [hml]; rfl) c3 (argsL := []) (rest := [.int (Int32.ofNat V.slots.size)]) rfl rfl (by show 2 * 0 + (1 + 0) ≤ _; decide) (hb hbytes d6) (⟨rfl, hx2.2.2.1, hx.2.2.2.2.1.cd, s1.there X2.warmed.alike hh2, hz⟩)
  obtain ⟨rfl, q4⟩ := E4
  have c5 : Steps p.tables e below (s₁.setTop (entryFrame m #[.ref x] 1)) (T4.setTop (mkF m 10 #[.val (.ref x)] [.int (Int32.ofNat V.slots.size >>> (cd &&& 31))])) := Steps.trans g4 (by
    refine ishr X4.here hexec rfl (hb hbytes d9) rfl ?_
    exact Steps.refl _)
  rw [hx.2.2.2.2.1.len v31] at c5
  exact ⟨T4, some (.int (Int32.ofNat n)), _, _, _, X4, rfl, rfl, rfl, (fun h => by cases h), ⟨rfl, q4.trans hh2⟩, fun fs hl => c5.trans (X4.ireturnOut hexec hret rfl (Or.inl rfl) (hb hbytes d10) hl)⟩
theorem pays {l : Launch} {R : Room} {p : Program} {e : Env} {below : List Frame} {s : State} {sargs : Array Value} {len W : Nat} (x t : Addr) (V : Cell) (cd : Int32) (n : Nat) (f : Nat → Int32) (z : Int32) (htab : tab.before sargs s = true) (hfr : 2 ≤ R.frames) (hlo : W + 25 ≤ R.locals) :
    Back l R p e below s sargs yN len W (fun A₁ a₁ => A₁.cells + 0 ≤ R.cells ∧ A₁.slots + 0 ≤ R.slots ∧ P x t V cd n f z a₁ A₁.U) (fun A₁ _ v₁ B₁ => E n v₁ A₁.U B₁.U ∧ B₁.locs = A₁.locs ++ [] ∧ B₁.cells = A₁.cells + 0 ∧ B₁.slots = A₁.slots + 0) :=
  (law l x t V cd n f z).pays htab hfr (by omega)
end Len
namespace IsL
def yN : MethodName := ⟨"java/lang/String", "isLatin1", "()Z"⟩
abbrev yB : ByteArray := jdk_42_method_154_code
theorem d0 : decode yB 0 = .ok (.getstatic 38, 3) := by decide +kernel
theorem d3 : decode yB 3 = .ok (.ifCond (.eq) 14, 3) := by decide +kernel
theorem d6 : decode yB 6 = .ok (.aload_n 0, 1) := by decide +kernel
theorem d7 : decode yB 7 = .ok (.getfield 15, 3) := by decide +kernel
theorem d10 : decode yB 10 = .ok (.ifCond (.ne) 7, 3) := by decide +kernel
theorem d13 : decode yB 13 = .ok (.iconst 1, 1) := by decide +kernel
theorem d14 : decode yB 14 = .ok (.goto 4, 3) := by decide +kernel
theorem d17 : decode yB 17 = .ok (.iconst 0, 1) := by decide +kernel
theorem d18 : decode yB 18 = .ok (.ireturn, 1) := by decide +kernel
def site : List Cond := [.fieldLink "java/lang/String" 38 "java/lang/String" "COMPACT_STRINGS" "Z", .fieldLink "java/lang/String" 15 "java/lang/String" "coder" "B"]
def tab : Cond := tabOf yN yB 1 (some .boolean) site
def P (x : Addr) (cd z : Int32) (args : Array Value) (s : State) : Prop := args = #[.ref x] ∧ Has x "java/lang/String" "coder" "B" (.int cd) s ∧ (cd = 0 ∨ cd = 1) ∧ StaticIs s "java/lang/String" "COMPACT_STRINGS" "Z" (.int z) ∧ ¬ z = 0
def E (cd : Int32) (r : Option Value) (s u : State) : Prop := XT.PureE (some (.int (1 - cd))) r s u
theorem law (l : Launch) (x : Addr) (cd z : Int32) : Law l yN 1 0 0 0 yB 1 (some .boolean) site (P x cd z) (E cd) [] 0 0 := by
  refine Law.of_walk (plainFor_of_name (by decide +kernel)) (by decide +kernel) (by decide +kernel) (by decide) (fun _ _ h => by rw [h.1]; rfl) (fun _ U U' hal hh h => ⟨h.1, h.2.1.mv hal hh, h.2.2.1, h.2.2.2.1.there hal hh, h.2.2.2.2⟩) (fun r U U' V V' h1 hal h2 h => XT.PureE.mv r U U' V V' h1 hal h2 h) ?_
  intro p e s m args below meth c s₁ X0 hexec hbytes hml hret hlk hnm hown hh0 W hP
  obtain ⟨rfl, hx, hc, s1, hz⟩ := hP
  have c1 : Steps p.tables e below (s₁.setTop (entryFrame m #[.ref x] 1)) (s₁.setTop (mkF m 0 #[.val (.ref x)] [])) := entry rfl
  obtain ⟨T2, X2, q2, st2⟩ := X0.sget hexec hown (wk W (.fieldLink "java/lang/String" 38 "java/lang/String" "COMPACT_STRINGS" "Z")) s1 (fun _ _ h => by rw [hh0]; exact h) (g := (mkF m 0 #[.val (.ref x)] [])) rfl (hb hbytes d0)
  have hh2 := q2.trans hh0
  have c3 : Steps p.tables e below (s₁.setTop (entryFrame m #[.ref x] 1)) (T2.setTop (mkF m 7 #[.val (.ref x)] [.ref x])) := (c1.trans (st2 _ (Steps.refl _))).trans (by
    refine XS.ifNo X2.here hexec rfl (hb hbytes d3) rfl (i0_eq_f hz) ?_
    refine XS.aloadN X2.here hexec rfl (hb hbytes d6) rfl rfl ?_
    exact Steps.refl _)
  obtain ⟨T4, X4, q4, st4⟩ := X2.hget hexec hown (wk W (.fieldLink "java/lang/String" 15 "java/lang/String" "coder" "B")) (hx.mv X2.warmed.alike hh2) (g := (mkF m 7 #[.val (.ref x)] [.ref x])) rfl (rest := []) rfl (hb hbytes d7)
  have c5 : Steps p.tables e below (s₁.setTop (entryFrame m #[.ref x] 1)) (T4.setTop (mkF m 10 #[.val (.ref x)] [.int cd])) := c3.trans (st4 _ (Steps.refl _))
  have c6 : Steps p.tables e below (s₁.setTop (entryFrame m #[.ref x] 1)) (T4.setTop (mkF m 18 #[.val (.ref x)] [.int (1 - cd)])) := by
    rcases hc with rfl | rfl
    · exact c5.trans (by
        refine XS.ifNo X4.here hexec rfl (hb hbytes d10) rfl (i0_ne_f rfl) ?_
        refine iconstV X4.here hexec rfl 1 (hb hbytes d13) (by decide) ?_
        refine XS.goto X4.here hexec rfl (pc0 := 14) rfl (hb hbytes d14) (by decide) rfl ?_
        exact Steps.refl _)
    · exact c5.trans (by
        refine XS.ifYes X4.here hexec rfl (pc0 := 10) rfl (hb hbytes d10) rfl (i0_ne_t (by decide)) (by decide) rfl ?_
        refine iconstV X4.here hexec rfl 0 (hb hbytes d17) (by decide) ?_
        exact Steps.refl _)
  exact ⟨T4, some (.int (1 - cd)), _, _, _, X4, rfl, rfl, rfl, (fun h => by cases h), ⟨rfl, q4.trans hh2⟩, fun fs hl => c6.trans (X4.ireturnOut hexec hret (by rcases hc with rfl | rfl <;> rfl) (Or.inr (Or.inl rfl)) (hb hbytes d18) hl)⟩
end IsL
namespace LChA
def yN : MethodName := ⟨"java/lang/StringLatin1", "charAt", "([BI)C"⟩
abbrev yB : ByteArray := jdk_43_method_2_code
theorem d0 : decode yB 0 = .ok (.iload_n 1, 1) := by decide +kernel
theorem d1 : decode yB 1 = .ok (.aload_n 0, 1) := by decide +kernel
theorem d2 : decode yB 2 = .ok (.arraylength, 1) := by decide +kernel
theorem d3 : decode yB 3 = .ok (.invokestatic 9, 3) := by decide +kernel
theorem d6 : decode yB 6 = .ok (.aload_n 0, 1) := by decide +kernel
theorem d7 : decode yB 7 = .ok (.iload_n 1, 1) := by decide +kernel
theorem d8 : decode yB 8 = .ok (.baload, 1) := by decide +kernel
theorem d9 : decode yB 9 = .ok (.sipush 255, 3) := by decide +kernel
theorem d12 : decode yB 12 = .ok (.iand, 1) := by decide +kernel
theorem d13 : decode yB 13 = .ok (.i2c, 1) := by decide +kernel
theorem d14 : decode yB 14 = .ok (.ireturn, 1) := by decide +kernel
def site : List Cond := [JO.Str_checkIndex.tab] ++ staticW "java/lang/StringLatin1" 9 JO.Str_checkIndex.yN
def tab : Cond := tabOf yN yB 2 (some .char) site
def P (t : Addr) (V : Cell) (i : Nat) (u : Int32) (fm : Value) (args : Array Value) (s : State) : Prop := args = #[.ref t, .int (Int32.ofNat i)] ∧ XT.Arr .byte t V s ∧ V.slots[i]? = some (.int u) ∧ (StaticIs s "jdk/internal/util/Preconditions" "SIOOBE_FORMATTER" "Ljava/util/function/BiFunction;" fm ∧ fm.isRef = true)
def E (u : Int32) (r : Option Value) (s w : State) : Prop := XT.PureE (some (.int (chr8 u))) r s w
theorem law (l : Launch) (t : Addr) (V : Cell) (i : Nat) (u : Int32) (fm : Value) : Law l yN 2 2 2 27 yB 2 (some .char) site (P t V i u fm) (E u) [] 0 0 := by
  refine Law.of_walk (plainFor_of_name (by decide +kernel)) (by decide +kernel) (by decide +kernel) (by decide) (fun _ _ h => by rw [h.1]; rfl) (fun _ U U' hal hh h => ⟨h.1, h.2.1.mv hal hh, h.2.2.1, h.2.2.2.1.there hal hh, h.2.2.2.2⟩) (fun r U U' V V' h1 hal h2 h => XT.PureE.mv r U U' V V' h1 hal h2 h) ?_
  intro p e s m args below meth c s₁ X0 hexec hbytes hml hret hlk hnm hown hh0 W hP
  obtain ⟨rfl, hV, hu, s1, rf⟩ := hP
  have v31 := hV.2.2.2
  have hi : i < V.slots.size := (Array.getElem?_eq_some_iff.mp hu).1
  have c1 : Steps p.tables e below (s₁.setTop (entryFrame m #[.ref t, .int (Int32.ofNat i)] 2)) (s₁.setTop (mkF m 0 #[.val (.ref t), .val (.int (Int32.ofNat i))] [])) := entry rfl
  have c2 : Steps p.tables e below (s₁.setTop (entryFrame m #[.ref t, .int (Int32.ofNat i)] 2)) (s₁.setTop (mkF m 3 #[.val (.ref t), .val (.int (Int32.ofNat i))] [.int (Int32.ofNat V.slots.size), .int (Int32.ofNat i)])) := c1.trans (by
    refine XS.iloadN X0.here hexec rfl (hb hbytes d0) rfl ?_
    refine XS.aloadN X0.here hexec rfl (hb hbytes d1) rfl rfl ?_
    refine X0.alen hexec (hV.mv X0.warmed.alike hh0) rfl rfl (hb hbytes d2) ?_
    exact Steps.refl _)
  obtain ⟨v3, T3, X3, E3, g3⟩ := X0.callS hexec (JO.Str_checkIndex.law l (Int32.ofNat i) (Int32.ofNat V.slots.size) fm) hown (wks W (staticW "java/lang/StringLatin1" 9 JO.Str_checkIndex.yN)) (wk W JO.Str_checkIndex.tab) (W := 0) (Nat.le_of_ble_eq_true rfl) (Nat.le_of_ble_eq_true rfl) (Nat.le_refl _) (Nat.le_refl _) (g := (mkF m 3 #[.val (.ref t), .val (.int (Int32.ofNat i))] [.int (Int32.ofNat V.slots.size), .int (Int32.ofNat i)])) rfl (by rw [hml]; rfl) c2 (argsL := [.int (Int32.ofNat i), .int (Int32.ofNat V.slots.size)]) (rest := []) rfl rfl (by show 2 * 0 + 0 ≤ _; decide) (hb hbytes d3) (⟨rfl, rf, s1.there X0.warmed.alike hh0, Int32.ofNat_not_neg (by omega), lt32 v31 hi⟩)
  obtain ⟨rfl, q3⟩ := E3
  have hh3 := q3.trans hh0
  have c4 : Steps p.tables e below (s₁.setTop (entryFrame m #[.ref t, .int (Int32.ofNat i)] 2)) (T3.setTop (mkF m 14 #[.val (.ref t), .val (.int (Int32.ofNat i))] [.int (chr8 u)])) := Steps.trans g3 (by
    refine XS.aloadN X3.here hexec rfl (hb hbytes d6) rfl rfl ?_
    refine XS.iloadN X3.here hexec rfl (hb hbytes d7) rfl ?_
    refine X3.aget hexec (hV.mv X3.warmed.alike hh3) rfl hu rfl rfl (hb hbytes d8) ?_
    refine sipushV X3.here hexec rfl 255 (hb hbytes d9) (by decide) ?_
    refine XS.iand X3.here hexec rfl (hb hbytes d12) rfl ?_
    refine i2c X3.here hexec rfl (hb hbytes d13) rfl ?_
    exact Steps.refl _)
  exact ⟨T3, some (.int (chr8 u)), _, _, _, X3, rfl, rfl, rfl, (fun h => by cases h), ⟨rfl, hh3⟩, fun fs hl => c4.trans (X3.ireturnOut hexec hret (narrow_c _) (Or.inr (Or.inr (Or.inr (Or.inl rfl)))) (hb hbytes d14) hl)⟩
end LChA
end StrChars
namespace StrChars.Road
open Jvm Sem ClassFile Op Lib Jvm.Stand Jvm.Free Jvm.Free.XT
open Jvm.Lib.Cold (StaticIs)
theorem consq {a : Array Value} {s : State} {c : Jvm.Cond} {L : List Jvm.Cond} (h0 : c.before a s = true) (h : ∀ w ∈ L, w.before a s = true) : ∀ w ∈ c :: L, w.before a s = true := fun w hw => (List.mem_cons.mp hw).elim (fun e => e ▸ h0) (h w)
/-- the words of String.length(), either coding -/
abbrev wordsLen : List Jvm.Cond := [.code Len.yN Len.yB 1 (some .int), .initialized ST, .fieldLink ST 9 ST "value" "[B", .fieldLink ST 38 ST "COMPACT_STRINGS" "Z", .fieldLink ST 15 ST "coder" "B", .code Cdr.yN Cdr.yB 1 (some .byte), .methodLink ST 335 Cdr.yN, .declares Cdr.yN, .selects ST Cdr.yN Cdr.yN, .instanceMethod Cdr.yN]
theorem tabLen_of {a : Array Value} {s : State} (h : ∀ w ∈ wordsLen, w.before a s = true) : Len.tab.before a s = true := by
  have hc : Cdr.tab.before a s = true := unparts (wk h (.code Cdr.yN Cdr.yB 1 (some .byte))) (wks h (.initialized Cdr.yN.cls :: Cdr.site))
  have q := consq hc h
  exact unparts (wk q (.code Len.yN Len.yB 1 (some .int))) (wks q (.initialized Len.yN.cls :: Len.site))
theorem movedLen {Z s : State} {a0 args : Array Value} (hZ : Z.Warmed39 s.vm) (hw : ∀ d ∈ wordsLen, d.before a0 Z = true) : ∀ d ∈ wordsLen, d.before args s = true := fun d hd => by
  have q := hw d hd
  have t : ∀ d ∈ wordsLen, d = .arrayClass .byte ∨ (d.onTables && d.keepsFace) = true := by decide +kernel
  rcases t d hd with rfl | t
  · exact RoadKit.mvA hZ q
  · exact RoadKit.mv hZ q t
/-- the bytes of the chars cs, low before high -/
def wideBytes : List Int32 → List Value
  | [] => []
  | c :: cs => .int (lo8 c) :: .int (hi8 c) :: wideBytes cs
theorem wide_lo (d : Value) : ∀ (cs : List Int32) (j : Nat), j < cs.length → (wideBytes cs).getD (2 * j) d = .int (lo8 (cs.getD j 0))
  | [], j, h => absurd h (Nat.not_lt_zero j)
  | c :: cs, 0, _ => rfl
  | c :: cs, j + 1, h => by
    have q := wide_lo d cs j (by simpa using h)
    rw [show 2 * (j + 1) = 2 * j + 1 + 1 from by omega]
    simpa [wideBytes] using q
theorem wide_hi (d : Value) : ∀ (cs : List Int32) (j : Nat), j < cs.length → (wideBytes cs).getD (2 * j + 1) d = .int (hi8 (cs.getD j 0))
  | [], j, h => absurd h (Nat.not_lt_zero j)
  | c :: cs, 0, _ => rfl
  | c :: cs, j + 1, h => by
    have q := wide_hi d cs j (by simpa using h)
    rw [show 2 * (j + 1) + 1 = 2 * j + 1 + 1 + 1 from by omega]
    simpa [wideBytes] using q
theorem low_at (d : Value) (cs : List Int32) (j : Nat) (h : j < cs.length) : (cs.map fun c => Value.int (lo8 c)).getD j d = .int (lo8 (cs.getD j 0)) := by
  simp [List.getD_eq_getElem?_getD, h]
/-- an array of N2 bytes vs codes the chars cs by the coder cd -/
def CodA (cs : List Int32) (cd N2 : Int32) (vs : List Value) : Prop := (cd = 0 ∧ N2 = Int32.ofNat cs.length ∧ vs = (cs.map fun c => Value.int (lo8 c)) ∧ ∀ c ∈ cs, ¬ 255 < c) ∨ (cd = 1 ∧ N2 = Int32.ofNat (2 * cs.length) ∧ vs = wideBytes cs ∧ ∃ c ∈ cs, 255 < c)
theorem CodA.cod {cs : List Int32} {cd N2 : Int32} {vs : List Value} {V : Cell} (h : CodA cs cd N2 vs) (hn : 2 * cs.length < 2 ^ 31) (hs : V.slots.size = N2.toNatClampNeg) (hv : RoadKit.Has V vs (.int 0)) : Cod cd cs.length (fun j => cs.getD j 0) V := by
  rcases h with ⟨rfl, rfl, rfl, h⟩ | ⟨rfl, rfl, rfl, c, hc, hw⟩
  · rw [n32 (by omega)] at hs
    exact Or.inl ⟨rfl, hs, fun j hj => ⟨by rw [hv j (by omega), low_at _ _ _ hj], by
      have e : cs.getD j 0 = cs[j] := by simp [List.getD_eq_getElem?_getD, hj]
      show ¬ 255 < cs.getD j 0
      rw [e]; exact h _ (List.getElem_mem _)⟩⟩
  · rw [n32 (by omega)] at hs
    obtain ⟨j, hj, rfl⟩ := List.getElem_of_mem hc
    exact Or.inr ⟨rfl, hs, fun j hj => ⟨by rw [hv _ (by omega), wide_lo _ _ _ hj], by rw [hv _ (by omega), wide_hi _ _ _ hj]⟩, j, hj, by
      have e : cs.getD j 0 = cs[j] := by simp [List.getD_eq_getElem?_getD, hj]
      show 255 < cs.getD j 0
      rw [e]; exact hw⟩
/-- an object of exactly java/lang/String, its two fields found: as the laws ask it -/
theorem strObj {Z U : State} {a0 : Array Value} {kI : Nat} (wi : (Jvm.Cond.instantiable ST kI).before a0 Z = true) (al : Z.vm.Alike U.vm) {x : Addr} {v0 c0 : Value} (E : RoadKit.Exa Z U.heap x ST) (V : RoadKit.Fld Z U.heap x ST "value" "[B" v0) (C : RoadKit.Fld Z U.heap x ST "coder" "B" c0) :
    ∃ (D : Cell) (fV fC : Field), Blank ST x D U ∧ Found ST "value" "[B" fV U ∧ Found ST "coder" "B" fC U ∧ D.slots[fV.slot]? = some v0 ∧ D.slots[fC.slot]? = some c0 ∧ RoadKit.slotOf Z ST "value" "[B" = fV.slot ∧ RoadKit.slotOf Z ST "coder" "B" = fC.slot := by
  obtain ⟨D, cfV, kV, iV, fV, hD, gV, stV, knV, obV, asV, slV⟩ := V
  obtain ⟨D', cfC, kC, iC, fC, hD', gC, stC, -, -, asC, slC⟩ := C
  cases hD.symm.trans hD'
  obtain ⟨D2, kD, e1, e2, e3, e4, e5⟩ := E
  cases hD.symm.trans e1
  obtain ⟨c2, k2, i1, i2, i3, -⟩ := Cond.instantiable_spec wi
  cases e2.symm.trans i1
  cases e3.symm.trans i2
  obtain ⟨kU, u1, u2⟩ := al.2.2 _ _ e3
  exact ⟨D, fV, fC, ⟨hD, ⟨knV, fun q hq => by rw [hq] at obV; cases obV⟩, by rw [al.findClass]; exact e2, kU, u1, by rw [u2]; exact i3, by rw [u2]; exact e5 i3⟩, ⟨SBG.found_only al ⟨cfV, kV, iV, gV⟩, stV⟩, ⟨SBG.found_only al ⟨cfC, kC, iC, gC⟩, stC⟩, slV, slC, by simp [RoadKit.slotOf, gV], by simp [RoadKit.slotOf, gC]⟩
theorem sta_is {Z U : State} (al : Z.vm.Alike U.vm) {C n d : String} {v : Value} (S : RoadKit.Sta Z U.heap C n d v) : StaticIs U C n d v := by
  obtain ⟨cfS, iS, kS, fS, st, cS, t1, t2, t3, t4, t5, t6, t7⟩ := S
  exact StaticIs.there (s := { Z with heap := U.heap }) ⟨cfS, iS, kS, fS, st, cS, t1, t2, t3, t4, t5, (fun q => by rw [q] at t6; cases t6), t7⟩ al rfl
/-- **length() OF SUCH A STRING** -/
theorem lenW {p : Program} {l : Launch} {e : Env} {R : Room} {s : State} {args : Array Value} {below : List Frame} {len W : Nat} {Z : State} {a0 : Array Value} {h : Heap} (hZ : Z.Warmed39 s.vm) (hw : ∀ d ∈ wordsLen, d.before a0 Z = true) {kI : Nat} (wi : (Jvm.Cond.instantiable ST kI).before a0 Z = true)
    {x t : Addr} {kb : ClassId} {cs : List Int32} {cd N2 z : Int32} {vs : List Value} (E : RoadKit.Exa Z h x ST) (V : RoadKit.Fld Z h x ST "value" "[B" (.ref t)) (C : RoadKit.Fld Z h x ST "coder" "B" (.int cd)) (K : RoadKit.Arv Z h t kb .byte N2 vs (.int 0)) (hc : CodA cs cd N2 vs) (hb : ∀ c ∈ cs, ¬ c < 0 ∧ ¬ (65535 : Int32) < c)
    (S : RoadKit.Sta Z h ST "COMPACT_STRINGS" "Z" (.int z)) (hz : ¬ z = 0) (l2 : cs.length ≤ 4000) (hfr : 2 ≤ R.frames) (hlo : W + 25 ≤ R.locals) :
    Back l R p e below s args (⟨"java/lang/String", "length", "()I"⟩ : MethodName) len W (fun P a => a = #[.ref x] ∧ P.U.heap = h ∧ P.cells + 0 ≤ R.cells ∧ P.slots + 0 ≤ R.slots)
      (fun P _ v B => ∃ L, (v = some (.int (Int32.ofNat cs.length)) ∧ L = [] ∧ B.U.heap = h) ∧ B.locs = P.locs ++ L ∧ B.cells = P.cells + 0 ∧ B.slots = P.slots + 0) := by
  obtain ⟨A, K1, K2, K3, K4, K5, K6⟩ := K
  have hcod := hc.cod (by omega) K3 K5
  intro m meth c P g ig mk a X hg hsize hdg hW hn hp'
  obtain ⟨rfl, rfl, r1, r2⟩ := hp'
  have al : Z.vm.Alike P.U.vm := hZ.alike.trans X.warmed.alike
  obtain ⟨D, fV, fC, hB, F1, F2, g1, g2, -, -⟩ := strObj wi al E V C
  have hx : Txt x t A cd cs.length (fun j => cs.getD j 0) P.U := ⟨⟨_, hB.2.2.1, D, hB.1, rfl, by cases q : D.vm <;> first | rfl | exact absurd q (hB.2.1.2 _)⟩, Has.of hB F1 g1, Has.of hB F2 g2, ⟨K1.1, State.isArrayOf_alike al K1.2.1, K1.2.2, by rcases hcod with ⟨-, q, -⟩ | ⟨-, q, -⟩ <;> omega⟩, hcod, fun j hj => by
    have e : cs.getD j 0 = cs[j] := by simp [List.getD_eq_getElem?_getD, hj]
    show ¬ cs.getD j 0 < 0 ∧ ¬ 65535 < cs.getD j 0
    rw [e]; exact hb _ (List.getElem_mem _)⟩
  obtain ⟨v, B, X', ⟨⟨hv, hh⟩, hl, hk, hs⟩, st⟩ := Len.pays x t A cd cs.length (fun j => cs.getD j 0) z (tabLen_of (movedLen hZ hw)) hfr hlo m meth c P g ig mk _ X hg hsize hdg hW hn ⟨r1, r2, rfl, hx, sta_is al S, hz⟩
  exact ⟨v, B, X', ⟨[], ⟨hv, rfl, hh⟩, hl, hk, hs⟩, st⟩
end StrChars.Road
namespace StrChars
open Jvm Sem ClassFile Op Lib Jvm.Stand Jvm.Free.XT Jvm.Free.ALB Jvm.Free.JM Jvm.Free
open Jvm.Lib.Cold (StaticIs)
namespace Emp
def yN : MethodName := ⟨"java/lang/String", "isEmpty", "()Z"⟩
abbrev yB : ByteArray := jdk_42_method_55_code
theorem d0 : decode yB 0 = .ok (.aload_n 0, 1) := by decide +kernel
theorem d1 : decode yB 1 = .ok (.getfield 9, 3) := by decide +kernel
theorem d4 : decode yB 4 = .ok (.arraylength, 1) := by decide +kernel
theorem d5 : decode yB 5 = .ok (.ifCond (.ne) 7, 3) := by decide +kernel
theorem d8 : decode yB 8 = .ok (.iconst 1, 1) := by decide +kernel
theorem d9 : decode yB 9 = .ok (.goto 4, 3) := by decide +kernel
theorem d12 : decode yB 12 = .ok (.iconst 0, 1) := by decide +kernel
theorem d13 : decode yB 13 = .ok (.ireturn, 1) := by decide +kernel
def site : List Cond := [.fieldLink "java/lang/String" 9 "java/lang/String" "value" "[B"]
def tab : Cond := tabOf yN yB 1 (some .boolean) site
def P (x t : Addr) (V : Cell) (cd : Int32) (n : Nat) (f : Nat → Int32) (args : Array Value) (s : State) : Prop := args = #[.ref x] ∧ Txt x t V cd n f s
def E (n : Nat) (r : Option Value) (s u : State) : Prop := XT.PureE (some (.int (if n = 0 then 1 else 0))) r s u
/-- isEmpty() of a String of n chars -/
theorem law (l : Launch) (x t : Addr) (V : Cell) (cd : Int32) (n : Nat) (f : Nat → Int32) : Law l yN 1 0 0 0 yB 1 (some .boolean) site (P x t V cd n f) (E n) [] 0 0 := by
  refine Law.of_walk (plainFor_of_name (by decide +kernel)) (by decide +kernel) (by decide +kernel) (by decide) (fun _ _ h => by rw [h.1]; rfl) (fun _ U U' hal hh h => ⟨h.1, h.2.mv hal hh⟩) (fun r U U' V V' h1 hal h2 h => XT.PureE.mv r U U' V V' h1 hal h2 h) ?_
  intro p e s m args below meth c s₁ X0 hexec hbytes hml hret hlk hnm hown hh0 W hP
  obtain ⟨rfl, hx⟩ := hP
  have v31 := hx.2.2.2.1.2.2.2
  have c1 : Steps p.tables e below (s₁.setTop (entryFrame m #[.ref x] 1)) (s₁.setTop (mkF m 1 #[.val (.ref x)] [.ref x])) := Steps.trans (entry rfl) (by
    show Steps p.tables e below (s₁.setTop (mkF m 0 #[.val (.ref x)] [])) _
    refine XS.aloadN X0.here hexec rfl (hb hbytes d0) rfl rfl ?_
    exact Steps.refl _)
  obtain ⟨T2, X2, q2, st2⟩ := X0.hget hexec hown (wk W (.fieldLink "java/lang/String" 9 "java/lang/String" "value" "[B")) (hx.mv X0.warmed.alike hh0).2.1 (g := (mkF m 1 #[.val (.ref x)] [.ref x])) rfl (rest := []) rfl (hb hbytes d1)
  have hh2 := q2.trans hh0
  have hx2 := hx.mv X2.warmed.alike hh2
  have c3 : Steps p.tables e below (s₁.setTop (entryFrame m #[.ref x] 1)) (T2.setTop (mkF m 5 #[.val (.ref x)] [.int (Int32.ofNat V.slots.size)])) := (c1.trans (st2 _ (Steps.refl _))).trans (by
    refine X2.alen hexec hx2.2.2.2.1 rfl rfl (hb hbytes d4) ?_
    exact Steps.refl _)
  have hz : V.slots.size = 0 ↔ n = 0 := by
    rcases hx.2.2.2.2.1 with ⟨-, q, -⟩ | ⟨-, q, -⟩ <;> omega
  by_cases h0 : n = 0
  · have c4 : Steps p.tables e below (s₁.setTop (entryFrame m #[.ref x] 1)) (T2.setTop (mkF m 13 #[.val (.ref x)] [.int 1])) := c3.trans (by
      refine XS.ifNo X2.here hexec rfl (hb hbytes d5) rfl (i0_ne_f (by rw [hz.mpr h0]; rfl)) ?_
      refine iconstV X2.here hexec rfl 1 (hb hbytes d8) (by decide) ?_
      refine XS.goto X2.here hexec rfl (pc0 := 9) rfl (hb hbytes d9) (by decide) rfl ?_
      exact Steps.refl _)
    exact ⟨T2, some (.int 1), _, _, _, X2, rfl, rfl, rfl, (fun h => by cases h), ⟨by rw [if_pos h0], hh2⟩, fun fs hl => c4.trans (X2.ireturnOut hexec hret rfl (Or.inr (Or.inl rfl)) (hb hbytes d13) hl)⟩
  · have c4 : Steps p.tables e below (s₁.setTop (entryFrame m #[.ref x] 1)) (T2.setTop (mkF m 13 #[.val (.ref x)] [.int 0])) := c3.trans (by
      refine XS.ifYes X2.here hexec rfl (pc0 := 5) rfl (hb hbytes d5) rfl (i0_ne_t (nz32 v31 (by omega))) (by decide) rfl ?_
      refine iconstV X2.here hexec rfl 0 (hb hbytes d12) (by decide) ?_
      exact Steps.refl _)
    exact ⟨T2, some (.int 0), _, _, _, X2, rfl, rfl, rfl, (fun h => by cases h), ⟨by rw [if_neg h0], hh2⟩, fun fs hl => c4.trans (X2.ireturnOut hexec hret rfl (Or.inr (Or.inl rfl)) (hb hbytes d13) hl)⟩
theorem pays {l : Launch} {R : Room} {p : Program} {e : Env} {below : List Frame} {s : State} {sargs : Array Value} {len W : Nat} (x t : Addr) (V : Cell) (cd : Int32) (n : Nat) (f : Nat → Int32) (htab : tab.before sargs s = true) (hfr : 1 ≤ R.frames) (hlo : W + 12 ≤ R.locals) :
    Back l R p e below s sargs yN len W (fun A₁ a₁ => A₁.cells + 0 ≤ R.cells ∧ A₁.slots + 0 ≤ R.slots ∧ P x t V cd n f a₁ A₁.U) (fun A₁ _ v₁ B₁ => E n v₁ A₁.U B₁.U ∧ B₁.locs = A₁.locs ++ [] ∧ B₁.cells = A₁.cells + 0 ∧ B₁.slots = A₁.slots + 0) :=
  (law l x t V cd n f).pays htab hfr (by omega)
end Emp
end StrChars
namespace StrChars.Road
open Jvm Sem ClassFile Op Lib Jvm.Stand Jvm.Free Jvm.Free.XT
open Jvm.Lib.Cold (StaticIs)
/-- the words of String.isEmpty() -/
abbrev wordsEmp : List Jvm.Cond := [.code Emp.yN Emp.yB 1 (some .boolean), .initialized ST, .fieldLink ST 9 ST "value" "[B"]
theorem tabEmp_of {a : Array Value} {s : State} (h : ∀ w ∈ wordsEmp, w.before a s = true) : Emp.tab.before a s = true := unparts (wk h (.code Emp.yN Emp.yB 1 (some .boolean))) (wks h (.initialized Emp.yN.cls :: Emp.site))
theorem movedEmp {Z s : State} {a0 args : Array Value} (hZ : Z.Warmed39 s.vm) (hw : ∀ d ∈ wordsEmp, d.before a0 Z = true) : ∀ d ∈ wordsEmp, d.before args s = true := fun d hd => by
  have t : ∀ d ∈ wordsEmp, (d.onTables && d.keepsFace) = true := by decide +kernel
  exact RoadKit.mv hZ (hw d hd) (t d hd)
/-- the road's facts of a String, as the laws ask it -/
theorem txt_of {Z U : State} {a0 : Array Value} {kI : Nat} (wi : (Jvm.Cond.instantiable ST kI).before a0 Z = true) (al : Z.vm.Alike U.vm) {x t : Addr} {kb : ClassId} {cs : List Int32} {cd N2 : Int32} {vs : List Value} (E : RoadKit.Exa Z U.heap x ST) (V : RoadKit.Fld Z U.heap x ST "value" "[B" (.ref t)) (C : RoadKit.Fld Z U.heap x ST "coder" "B" (.int cd)) (K : RoadKit.Arv Z U.heap t kb .byte N2 vs (.int 0)) (hc : CodA cs cd N2 vs) (hb : ∀ c ∈ cs, ¬ c < 0 ∧ ¬ (65535 : Int32) < c) (l2 : cs.length ≤ 4000) :
    ∃ A, Txt x t A cd cs.length (fun j => cs.getD j 0) U := by
  obtain ⟨A, K1, K2, K3, K4, K5, K6⟩ := K
  have hcod := hc.cod (by omega) K3 K5
  obtain ⟨D, fV, fC, hB, F1, F2, g1, g2, -, -⟩ := strObj wi al E V C
  exact ⟨A, ⟨_, hB.2.2.1, D, hB.1, rfl, by cases q : D.vm <;> first | rfl | exact absurd q (hB.2.1.2 _)⟩, Has.of hB F1 g1, Has.of hB F2 g2, ⟨K1.1, State.isArrayOf_alike al K1.2.1, K1.2.2, by rcases hcod with ⟨-, q, -⟩ | ⟨-, q, -⟩ <;> omega⟩, hcod, fun j hj => by
    have e : cs.getD j 0 = cs[j] := by simp [List.getD_eq_getElem?_getD, hj]
    show ¬ cs.getD j 0 < 0 ∧ ¬ 65535 < cs.getD j 0
    rw [e]; exact hb _ (List.getElem_mem _)⟩
/-- **isEmpty() OF SUCH A STRING** -/
theorem empW {p : Program} {l : Launch} {e : Env} {R : Room} {s : State} {args : Array Value} {below : List Frame} {len W : Nat} {Z : State} {a0 : Array Value} {h : Heap} (hZ : Z.Warmed39 s.vm) (hw : ∀ d ∈ wordsEmp, d.before a0 Z = true) {kI : Nat} (wi : (Jvm.Cond.instantiable ST kI).before a0 Z = true)
    {x t : Addr} {kb : ClassId} {cs : List Int32} {cd N2 : Int32} {vs : List Value} (E : RoadKit.Exa Z h x ST) (V : RoadKit.Fld Z h x ST "value" "[B" (.ref t)) (C : RoadKit.Fld Z h x ST "coder" "B" (.int cd)) (K : RoadKit.Arv Z h t kb .byte N2 vs (.int 0)) (hc : CodA cs cd N2 vs) (hb : ∀ c ∈ cs, ¬ c < 0 ∧ ¬ (65535 : Int32) < c) (l2 : cs.length ≤ 4000) (hfr : 1 ≤ R.frames) (hlo : W + 12 ≤ R.locals) :
    Back l R p e below s args (⟨"java/lang/String", "isEmpty", "()Z"⟩ : MethodName) len W (fun P a => a = #[.ref x] ∧ P.U.heap = h ∧ P.cells + 0 ≤ R.cells ∧ P.slots + 0 ≤ R.slots)
      (fun P _ v B => ∃ L, (v = some (.int (if cs.length = 0 then 1 else 0)) ∧ L = [] ∧ B.U.heap = h) ∧ B.locs = P.locs ++ L ∧ B.cells = P.cells + 0 ∧ B.slots = P.slots + 0) := by
  intro m meth c P g ig mk a X hg hsize hdg hW hn hp'
  obtain ⟨rfl, rfl, r1, r2⟩ := hp'
  have al : Z.vm.Alike P.U.vm := hZ.alike.trans X.warmed.alike
  obtain ⟨A, hx⟩ := txt_of wi al E V C K hc hb l2
  obtain ⟨v, B, X', ⟨⟨hv, hh⟩, hl, hk, hs⟩, st⟩ := Emp.pays x t A cd cs.length (fun j => cs.getD j 0) (tabEmp_of (movedEmp hZ hw)) hfr hlo m meth c P g ig mk _ X hg hsize hdg hW hn ⟨r1, r2, rfl, hx⟩
  exact ⟨v, B, X', ⟨[], ⟨hv, rfl, hh⟩, hl, hk, hs⟩, st⟩
end StrChars.Road
namespace StrChars
open Jvm Sem ClassFile Op Lib Jvm.Stand Jvm.Free.XT Jvm.Free.ALB Jvm.Free.JM Jvm.Free
open Jvm.Lib.Cold (StaticIs)
namespace ChN
def yN : MethodName := ⟨"java/lang/String", "charAt", "(I)C"⟩
abbrev yB : ByteArray := jdk_42_method_56_code
theorem d0 : decode yB 0 = .ok (.aload_n 0, 1) := by decide +kernel
theorem d1 : decode yB 1 = .ok (.invokevirtual 492, 3) := by decide +kernel
theorem d4 : decode yB 4 = .ok (.ifCond (.eq) 12, 3) := by decide +kernel
theorem d7 : decode yB 7 = .ok (.aload_n 0, 1) := by decide +kernel
theorem d8 : decode yB 8 = .ok (.getfield 9, 3) := by decide +kernel
theorem d11 : decode yB 11 = .ok (.iload_n 1, 1) := by decide +kernel
theorem d12 : decode yB 12 = .ok (.invokestatic 495, 3) := by decide +kernel
theorem d15 : decode yB 15 = .ok (.ireturn, 1) := by decide +kernel
def site : List Cond := [.fieldLink "java/lang/String" 9 "java/lang/String" "value" "[B", IsL.tab, LChA.tab] ++ virtW "java/lang/String" 492 "java/lang/String" IsL.yN IsL.yN ++ staticW "java/lang/String" 495 LChA.yN
def tab : Cond := tabOf yN yB 2 (some .char) site
def P (x t : Addr) (V : Cell) (n : Nat) (f : Nat → Int32) (z : Int32) (fm : Value) (i : Nat) (args : Array Value) (s : State) : Prop := args = #[.ref x, .int (Int32.ofNat i)] ∧ Txt x t V 0 n f s ∧ i < n ∧ StaticIs s "java/lang/String" "COMPACT_STRINGS" "Z" (.int z) ∧ ¬ z = 0 ∧ StaticIs s "jdk/internal/util/Preconditions" "SIOOBE_FORMATTER" "Ljava/util/function/BiFunction;" fm ∧ fm.isRef = true
def E (f : Nat → Int32) (i : Nat) (r : Option Value) (s u : State) : Prop := XT.PureE (some (.int (f i))) r s u
/-- charAt(i) of a Latin-1 String of n chars, i < n: f i -/
theorem law (l : Launch) (x t : Addr) (V : Cell) (n : Nat) (f : Nat → Int32) (z : Int32) (fm : Value) (i : Nat) : Law l yN 2 1 3 40 yB 2 (some .char) site (P x t V n f z fm i) (E f i) [] 0 0 := by
  refine Law.of_walk (plainFor_of_name (by decide +kernel)) (by decide +kernel) (by decide +kernel) (by decide) (fun _ _ h => by rw [h.1]; rfl) (fun _ U U' hal hh h => ⟨h.1, h.2.1.mv hal hh, h.2.2.1, h.2.2.2.1.there hal hh, h.2.2.2.2.1, h.2.2.2.2.2.1.there hal hh, h.2.2.2.2.2.2⟩) (fun r U U' V V' h1 hal h2 h => XT.PureE.mv r U U' V V' h1 hal h2 h) ?_
  intro p e s m args below meth c s₁ X0 hexec hbytes hml hret hlk hnm hown hh0 W hP
  obtain ⟨rfl, hx, hi, s1, hz, s3, rf⟩ := hP
  have v31 := hx.2.2.2.1.2.2.2
  have hr := hx.2.2.2.2.2 i hi
  have hx0 := hx.mv X0.warmed.alike hh0
  have c1 : Steps p.tables e below (s₁.setTop (entryFrame m #[.ref x, .int (Int32.ofNat i)] 2)) (s₁.setTop (mkF m 1 #[.val (.ref x), .val (.int (Int32.ofNat i))] [.ref x])) := Steps.trans (entry rfl) (by
    show Steps p.tables e below (s₁.setTop (mkF m 0 #[.val (.ref x), .val (.int (Int32.ofNat i))] [])) _
    refine XS.aloadN X0.here hexec rfl (hb hbytes d0) rfl rfl ?_
    exact Steps.refl _)
  obtain ⟨v2, T2, X2, E2, g2⟩ := X0.callV hexec (IsL.law l x 0 z) hown (wks W (virtW "java/lang/String" 492 "java/lang/String" IsL.yN IsL.yN)) rfl (by decide) (wk W IsL.tab) (W := 0) (Nat.le_of_ble_eq_true rfl) (Nat.le_of_ble_eq_true rfl) (Nat.le_refl _) (Nat.le_refl _) (hx0.1.fc X0.warmed.alike) hx0.1.is (g := (mkF m 1 #[.val (.ref x), .val (.int (Int32.ofNat i))] [.ref x])) rfl (by rw [hml]; rfl) c1 (argsL := []) (rest := []) rfl rfl (by show 2 * 0 + 0 ≤ _; decide) (hb hbytes d1) (⟨rfl, hx0.2.2.1, hx.2.2.2.2.1.cd, s1.there X0.warmed.alike hh0, hz⟩)
  obtain ⟨rfl, q2⟩ := E2
  have hh2 := q2.trans hh0
  have hx2 := hx.mv X2.warmed.alike hh2
  obtain ⟨-, k1, k2⟩ | ⟨k0, -⟩ := hx.2.2.2.2.1
  · have c3 : Steps p.tables e below (s₁.setTop (entryFrame m #[.ref x, .int (Int32.ofNat i)] 2)) (T2.setTop (mkF m 8 #[.val (.ref x), .val (.int (Int32.ofNat i))] [.ref x])) := Steps.trans g2 (by
      refine XS.ifNo X2.here hexec rfl (hb hbytes d4) rfl (i0_eq_f (by decide)) ?_
      refine XS.aloadN X2.here hexec rfl (hb hbytes d7) rfl rfl ?_
      exact Steps.refl _)
    obtain ⟨T4, X4, q4, st4⟩ := X2.hget hexec hown (wk W (.fieldLink "java/lang/String" 9 "java/lang/String" "value" "[B")) hx2.2.1 (g := (mkF m 8 #[.val (.ref x), .val (.int (Int32.ofNat i))] [.ref x])) rfl (rest := []) rfl (hb hbytes d8)
    have hh4 := q4.trans hh2
    have c5 : Steps p.tables e below (s₁.setTop (entryFrame m #[.ref x, .int (Int32.ofNat i)] 2)) (T4.setTop (mkF m 12 #[.val (.ref x), .val (.int (Int32.ofNat i))] [.int (Int32.ofNat i), .ref t])) := (c3.trans (st4 _ (Steps.refl _))).trans (by
      refine XS.iloadN X4.here hexec rfl (hb hbytes d11) rfl ?_
      exact Steps.refl _)
    obtain ⟨v6, T6, X6, E6, g6⟩ := X4.callS hexec (LChA.law l t V i (lo8 (f i)) fm) hown (wks W (staticW "java/lang/String" 495 LChA.yN)) (wk W LChA.tab) (W := 0) (Nat.le_of_ble_eq_true rfl) (Nat.le_of_ble_eq_true rfl) (Nat.le_refl _) (Nat.le_refl _) (g := (mkF m 12 #[.val (.ref x), .val (.int (Int32.ofNat i))] [.int (Int32.ofNat i), .ref t])) rfl (by rw [hml]; rfl) c5 (argsL := [.ref t, .int (Int32.ofNat i)]) (rest := []) rfl rfl (by show 2 * 0 + 0 ≤ _; decide) (hb hbytes d12) (⟨rfl, hx.2.2.2.1.mv X4.warmed.alike hh4, (k2 i hi).1, s3.there X4.warmed.alike hh4, rf⟩)
    obtain ⟨rfl, q6⟩ := E6
    rw [chr8_lo8 hr.1 (k2 i hi).2] at g6
    exact ⟨T6, some (.int (f i)), _, _, _, X6, rfl, rfl, rfl, (fun h => by cases h), ⟨rfl, q6.trans hh4⟩, fun fs hl => Steps.trans g6 (X6.ireturnOut hexec hret (narrow_ch hr.1 hr.2) (Or.inr (Or.inr (Or.inr (Or.inl rfl)))) (hb hbytes d15) hl)⟩
  · exact absurd k0 (by decide)
theorem pays {l : Launch} {R : Room} {p : Program} {e : Env} {below : List Frame} {s : State} {sargs : Array Value} {len W : Nat} (x t : Addr) (V : Cell) (n : Nat) (f : Nat → Int32) (z : Int32) (fm : Value) (i : Nat) (htab : tab.before sargs s = true) (hfr : 4 ≤ R.frames) (hlo : W + 53 ≤ R.locals) :
    Back l R p e below s sargs yN len W (fun A₁ a₁ => A₁.cells + 0 ≤ R.cells ∧ A₁.slots + 0 ≤ R.slots ∧ P x t V n f z fm i a₁ A₁.U) (fun A₁ _ v₁ B₁ => E f i v₁ A₁.U B₁.U ∧ B₁.locs = A₁.locs ++ [] ∧ B₁.cells = A₁.cells + 0 ∧ B₁.slots = A₁.slots + 0) :=
  (law l x t V n f z fm i).pays htab hfr (by omega)
end ChN
end StrChars
namespace StrChars.Road
open Jvm Sem ClassFile Op Lib Jvm.Stand Jvm.Free Jvm.Free.XT
open Jvm.Lib.Cold (StaticIs)
/-- the words of String.charAt(int), the Latin-1 road alone -/
abbrev wordsChN : List Jvm.Cond := [.code ChN.yN ChN.yB 2 (some .char), .initialized ST, .fieldLink ST 9 ST "value" "[B", .fieldLink ST 38 ST "COMPACT_STRINGS" "Z", .fieldLink ST 15 ST "coder" "B", .code IsL.yN IsL.yB 1 (some .boolean), .methodLink ST 492 IsL.yN, .declares IsL.yN, .selects ST IsL.yN IsL.yN, .instanceMethod IsL.yN,
  .methodLink ST 495 LChA.yN, .static LChA.yN, .code LChA.yN LChA.yB 2 (some .char), .initialized "java/lang/StringLatin1", .methodLink "java/lang/StringLatin1" 9 JO.Str_checkIndex.yN, .static JO.Str_checkIndex.yN, .code JO.Str_checkIndex.yN JO.Str_checkIndex.yB 2 none,
  .fieldLink ST 1053 "jdk/internal/util/Preconditions" "SIOOBE_FORMATTER" "Ljava/util/function/BiFunction;", .methodLink ST 1059 JC.PreCheck.yN, .static JC.PreCheck.yN, .code JC.PreCheck.yN JC.PreCheck.yB 3 (some .int), .initialized "jdk/internal/util/Preconditions"]
theorem tabChN_of {a : Array Value} {s : State} (h : ∀ w ∈ wordsChN, w.before a s = true) : ChN.tab.before a s = true := by
  have hp : JC.PreCheck.tab.before a s = true := unparts (wk h (.code JC.PreCheck.yN JC.PreCheck.yB 3 (some .int))) (wks h (.initialized JC.PreCheck.yN.cls :: JC.PreCheck.site))
  have qk := consq hp h
  have hk : JO.Str_checkIndex.tab.before a s = true := unparts (wk qk (.code JO.Str_checkIndex.yN JO.Str_checkIndex.yB 2 none)) (wks qk (.initialized JO.Str_checkIndex.yN.cls :: JO.Str_checkIndex.site))
  have ql := consq hk h
  have hl : LChA.tab.before a s = true := unparts (wk ql (.code LChA.yN LChA.yB 2 (some .char))) (wks ql (.initialized LChA.yN.cls :: LChA.site))
  have hi : IsL.tab.before a s = true := unparts (wk h (.code IsL.yN IsL.yB 1 (some .boolean))) (wks h (.initialized IsL.yN.cls :: IsL.site))
  have q := consq hi (consq hl h)
  exact unparts (wk q (.code ChN.yN ChN.yB 2 (some .char))) (wks q (.initialized ChN.yN.cls :: ChN.site))
theorem movedChN {Z s : State} {a0 args : Array Value} (hZ : Z.Warmed39 s.vm) (hw : ∀ d ∈ wordsChN, d.before a0 Z = true) : ∀ d ∈ wordsChN, d.before args s = true := fun d hd => by
  have t : ∀ d ∈ wordsChN, (d.onTables && d.keepsFace) = true := by decide +kernel
  exact RoadKit.mv hZ (hw d hd) (t d hd)
/-- **charAt(i) OF A LATIN-1 STRING**, i < n: the char -/
theorem chN {p : Program} {l : Launch} {e : Env} {R : Room} {s : State} {args : Array Value} {below : List Frame} {len W : Nat} {Z : State} {a0 : Array Value} {h : Heap} (hZ : Z.Warmed39 s.vm) (hw : ∀ d ∈ wordsChN, d.before a0 Z = true) {kI : Nat} (wi : (Jvm.Cond.instantiable ST kI).before a0 Z = true)
    {x t : Addr} {kb : ClassId} {cs : List Int32} {N2 z : Int32} {vs : List Value} {fm : Value} {i : Nat} {j : Int32} (E : RoadKit.Exa Z h x ST) (V : RoadKit.Fld Z h x ST "value" "[B" (.ref t)) (C : RoadKit.Fld Z h x ST "coder" "B" (.int 0)) (K : RoadKit.Arv Z h t kb .byte N2 vs (.int 0)) (hc : CodA cs 0 N2 vs) (hb : ∀ c ∈ cs, ¬ c < 0 ∧ ¬ (65535 : Int32) < c)
    (S : RoadKit.Sta Z h ST "COMPACT_STRINGS" "Z" (.int z)) (hz : ¬ z = 0) (F : RoadKit.Sta Z h "jdk/internal/util/Preconditions" "SIOOBE_FORMATTER" "Ljava/util/function/BiFunction;" fm) (rf : fm.isRef = true) (l2 : cs.length ≤ 4000) (hi : i < cs.length) (hj : j = Int32.ofNat i) (hfr : 4 ≤ R.frames) (hlo : W + 53 ≤ R.locals) :
    Back l R p e below s args (⟨"java/lang/String", "charAt", "(I)C"⟩ : MethodName) len W (fun P a => a = #[.ref x, .int j] ∧ P.U.heap = h ∧ P.cells + 0 ≤ R.cells ∧ P.slots + 0 ≤ R.slots)
      (fun P _ v B => ∃ L, (v = some (.int (cs.getD i 0)) ∧ L = [] ∧ B.U.heap = h) ∧ B.locs = P.locs ++ L ∧ B.cells = P.cells + 0 ∧ B.slots = P.slots + 0) := by
  subst hj
  intro m meth c P g ig mk a X hg hsize hdg hW hn hp'
  obtain ⟨rfl, rfl, r1, r2⟩ := hp'
  have al : Z.vm.Alike P.U.vm := hZ.alike.trans X.warmed.alike
  obtain ⟨A, hx⟩ := txt_of wi al E V C K hc hb l2
  obtain ⟨v, B, X', ⟨⟨hv, hh⟩, hl, hk, hs⟩, st⟩ := ChN.pays x t A cs.length (fun j => cs.getD j 0) z fm i (tabChN_of (movedChN hZ hw)) hfr hlo m meth c P g ig mk _ X hg hsize hdg hW hn ⟨r1, r2, rfl, hx, hi, sta_is al S, hz, sta_is al F, rf⟩
  exact ⟨v, B, X', ⟨[], ⟨hv, rfl, hh⟩, hl, hk, hs⟩, st⟩
/-- what backV says of its String, as the contracts of this text ask it: cs's low bytes, coder 0 -/
theorem codOf {cs : List Int32} {n : Nat} (hn : cs.length = n) (hb : ∀ c ∈ cs, ¬ 255 < c) : CodA cs 0 (Int32.ofNat n) ((cs.map lo8).map Value.int) := Or.inl ⟨rfl, by rw [hn], by simp [List.map_map, Function.comp_def], hb⟩
end StrChars.Road
end Jvm.Pilot.@@N@@
namespace Jvm.RoadKit
open Sem ClassFile Op Lib Jvm.Stand Jvm.Free Jvm.LawKit
section New
variable {p : Program} {l : Launch} {e : Env} {R : Room} {s : State} {m : MethodId} {args : Array Value} {below : List Frame} {meth : Method} {c : Code} {T : State} {locs : List Loc} {cells slots : Nat}
theorem retI (X : Stand p l e R s m args below meth c T locs cells slots) (hx : p.tables.exec = Jvm.exec) {pc : Nat} {Ls : Array Slot} {z : Int32} {rest : List Value} (hret : meth.sig.returnType = some .int) (hd : decode c.code pc = .ok (.ireturn, 1)) {fs : List Frame}
    (hl : ∀ (f : JFrame) (acts : List Action), f.method = m → f.locked = none → f.entered = [] → (doReturn e (T.setTop f) acts (some (.int z))).1 = T.setFrames fs) : Steps p.tables e below (T.setTop (mkF m pc Ls (.int z :: rest))) (T.setFrames fs) := by
  have hm' : T.vm.method? m = some meth := X.method'
  have hn : narrow .int (.int z) = .int z := rfl
  show Steps p.tables e below (T.setTop { method := m, pc := pc, locals := Ls, stack := _ :: rest, locked := none }) _
  jvm_step X.here [X.here.top, hx, hd, hm', hret, hn]
  first | (intro acts; rw [hl _ acts rfl rfl rfl]) | rw [hl _ _ rfl rfl rfl]
  exact Steps.refl _
end New
end Jvm.RoadKit
namespace Jvm.Pilot.@@N@@
open Jvm Jvm.ClassFile Sem Op Lib Jvm.Free Jvm.Stand Jvm.LawKit Jvm.RoadKit Bundle Jvm.Pilot.@@N@@.Jvm.D
theorem own_w {a0 : Array Value} {Z : State} (hw : ∀ d ∈ tables_1, d.before a0 Z = true) (i : Nat) {d : Jvm.Cond} (h : tables_1[i]? = some d) : d.before a0 Z = true := hw d (List.mem_of_getElem? h)
abbrev HW (a0 : Array Value) (Z : State) : Prop := ∀ d ∈ tables_1, d.before a0 Z = true
abbrev rM (a b c d : Nat) : Room := { frames := a, cells := b, slots := c, locals := d }
abbrev vI (x : Int32) : Slot := .val (.int x)
abbrev vR (a : Addr) : Slot := .val (.ref a)
abbrev oM (l : Launch) (Z : State) (y : MethodName) (bytes : ByteArray) (ml : Nat) (ret : Option FieldType) (ws : List Jvm.Cond) (rm : Room) (as : Array Value) (h0 : Heap) (Q : Option Value → Heap → List Loc → Prop) : Prop := MetFree l y (head1 (Jvm.Cond.code y bytes ml ret :: ws) rm) (fun a U => a = as ∧ Z.Warmed39 U.vm ∧ U.heap = h0) (fun _ _ _ _ _ => True) (fun _ U o U' => ∃ v L, o = .returned v ∧ Q v U'.heap L ∧ FrameEnd U o U' L rm.cells rm.slots)
abbrev oS (p : Program) (e : Env) (below : List Frame) (T : State) (m : MethodId) (pc : Nat) (L : Array Slot) (S : List Value) (t : State) : Prop := Steps p.tables e below (T.setTop (mkF m pc L S)) t
theorem own_le {Z : State} {n0 : Nat} {h : Heap} (O : Old Z n0 h) : n0 ≤ h.size := O.1 ▸ O.2.1
def own_Q (r : Value) (h0 : Heap) (n0 : Nat) (v : Option Value) (h : Heap) (L : List Loc) : Prop := v = some r ∧ Fr n0 L ∧ h = h0
def own_Qn (h0 : Heap) (n0 : Nat) (v : Option Value) (h : Heap) (L : List Loc) : Prop := v = none ∧ Fr n0 L ∧ h = h0
def own_R (n0 : Nat) (v : Option Value) (h : Heap) (L : List Loc) : Prop := v = some (.int 1) ∧ Fr n0 L
theorem own_ne {args : Array Value} {s : State} {t u : Term} {K n d : String} {a b : Addr} {i j : Int32} (ht : t.eval args s none [] s = some (.ref a)) (hu : u.eval args s none [] s = some (.ref b))
    (h1 : (Jvm.Cond.eq (Term.field t K n d) (Term.int i)).value args s none s [] = some true) (h2 : (Jvm.Cond.eq (Term.field u K n d) (Term.int j)).value args s none s [] = some true) (hij : i ≠ j) : ¬ a = b := by
  intro e
  subst e
  obtain ⟨v, e1, e2⟩ := Cond.eq_worth h1
  obtain ⟨v', e3, e4⟩ := Cond.eq_worth h2
  rw [fld_at ht] at e1
  rw [fld_at hu] at e3
  have q1 : v = .int i := Option.some.inj (e2.symm.trans (Term.int_eval i))
  have q2 : v' = .int j := Option.some.inj (e4.symm.trans (Term.int_eval j))
  have q3 : v = v' := Option.some.inj (e1.symm.trans e3)
  rw [q1, q2] at q3
  exact hij (by injection q3)
theorem own_up (cs : List Int32) (h : ∀ c ∈ cs, ¬ c < 0 ∧ ¬ (255 : Int32) < c) : ∀ c ∈ cs, ¬ c < 0 ∧ ¬ (65535 : Int32) < c := fun c hc => ⟨(h c hc).1, fun q => (h c hc).2 (by rw [Int32.lt_iff_toInt_lt] at q ⊢; have e1 : (65535 : Int32).toInt = 65535 := rfl; have e2 : (255 : Int32).toInt = 255 := rfl; omega)⟩
theorem own_int {s : State} {vm1 : Vm} (h : s.WarmedH vm1) : vm1.interned = s.vm.interned := by rw [h.1]
theorem own_backI {p : Program} {l : Launch} {e : Env} {R : Room} {s : State} {args : Array Value} {below : List Frame} {Z : State} {a0 : Array Value} {h : Heap} {y : MethodName} {bytes : ByteArray} {maxL : Nat} {ret : Option FieldType} {rm : Room} {len W : Nat} {as' : Array Value} {Q : Option Value → Heap → List Loc → Prop}
    (hM : MetFree l y (head1 [Jvm.Cond.code y bytes maxL ret] rm) (fun a U => a = as' ∧ Z.Warmed39 U.vm ∧ U.heap = h ∧ U.vm.interned = Z.vm.interned) (fun _ _ _ _ _ => True) (fun _ U o U' => ∃ v L, o = .returned v ∧ Q v U'.heap L ∧ ReturnedEndW U o U' L rm.cells rm.slots))
    (hZ : Z.Warmed39 s.vm) (wc : (Jvm.Cond.code y bytes maxL ret).before a0 Z = true) (wz : (Jvm.Cond.initialized y.cls).before a0 Z = true) (hf : rm.frames + 1 ≤ R.frames) (hl : W + (maxL + 11) + rm.locals ≤ R.locals) :
    BackS l R p e below s args y len W (fun A a => a = as' ∧ A.U.heap = h ∧ A.cells + rm.cells ≤ R.cells ∧ A.slots + rm.slots ≤ R.slots ∧ A.U.vm.interned = Z.vm.interned)
      (fun A _ v B => ∃ L, Q v B.U.heap L ∧ B.locs = A.locs ++ L ∧ B.cells = A.cells + rm.cells ∧ B.slots = A.slots + rm.slots) := by
  refine BackS.of_freeW (bytes := bytes) (maxL := maxL) (ret := ret) (E := fun _ _ o t L k n => k = rm.cells ∧ n = rm.slots ∧ ∃ v, o = .returned v ∧ Q v t.heap L) hM hf hl ?_ ?_ ?_ ?_ ?_
  · intro m meth c A a Y hp
    have hU : Z.Warmed39 A.U.vm := wtrans hZ Y.warmed
    refine ⟨?_, mv hU wc, mv hU wz, hp.2.2.1, hp.2.2.2.1⟩
    show (Jvm.Cond.and _ .tt).before a A.U = true
    rw [Cond.before_and, mv hU wc]
    rfl
  · intro m meth c A a g mk Y hp
    exact ⟨hp.1, wtrans hZ Y.warmed, hp.2.1, hp.2.2.2.2⟩
  · intros
    trivial
  · rintro _ _ _ _ ⟨v, L, h1, h2, h3⟩
    exact ⟨L, _, _, h3, rfl, rfl, v, h1, h2⟩
  · rintro m meth c A a g mk v t L k n Y hp _ _ ⟨e1, e2, v', e3, e4⟩
    cases e3
    subst e1 e2
    exact ⟨L, e4, rfl, rfl, rfl⟩
def own_find : List Int32 → Int32 → Nat → Int32
  | [], _, _ => (-1 : Int32)
  | x :: xs, b, j => if x = b then Int32.ofNat j else own_find xs b (j + 1)
theorem own_shr0 (x : Int32) : (x >>> ((0 : Int32) &&& 31)) = x := by
  have e : ((0 : Int32) &&& 31) = 0 := by decide
  rw [e]
  simp
theorem own_ofNat {n : Nat} (h : n ≤ 4000) : (Int32.ofNat n).toInt = n := Int32.toInt_ofNat_of_lt (by omega)
theorem own_clamp {n : Nat} (h : n ≤ 4000) : (Int32.ofNat n).toNatClampNeg = n := by
  show (Int32.ofNat n).toInt.toNat = n
  rw [own_ofNat h]
  rfl
theorem own_succ (n : Nat) : Int32.ofNat n + (1 : Int32) = Int32.ofNat (n + 1) := by
  simp [Int32.ofNat_add]
theorem d15_0 : decode jdk_42_method_154_code 0 = .ok (.getstatic 38, 3) := by decide +kernel
theorem d15_3 : decode jdk_42_method_154_code 3 = .ok (.ifCond .eq 14, 3) := by decide +kernel
theorem d15_6 : decode jdk_42_method_154_code 6 = .ok (.aload_n 0, 1) := by decide +kernel
theorem d15_7 : decode jdk_42_method_154_code 7 = .ok (.getfield 15, 3) := by decide +kernel
theorem d15_10 : decode jdk_42_method_154_code 10 = .ok (.ifCond .ne 7, 3) := by decide +kernel
theorem d15_13 : decode jdk_42_method_154_code 13 = .ok (.iconst 1, 1) := by decide +kernel
theorem d15_14 : decode jdk_42_method_154_code 14 = .ok (.goto 4, 3) := by decide +kernel
theorem d15_18 : decode jdk_42_method_154_code 18 = .ok (.ireturn, 1) := by decide +kernel
theorem ef_15 (m : MethodId) (x0 : Addr) : entryFrame m #[(.ref x0)] 1 = mkF m 0 #[.val (.ref x0)] [] := by first | (simp [entryFrame, mkF, argsToLocals, Value.category]; done) | rfl
theorem pn_15 : plainName "java/lang/String" = true := by first | (simp [plainName, overriddenIn]; done) | decide +kernel
set_option maxRecDepth 65536 in
set_option maxHeartbeats 40000000 in
theorem rmLa (l : Launch) (Z : State) (a0 : Array Value) (hw : ∀ d ∈ tables_1, d.before a0 Z = true) (ws : List Jvm.Cond) (o0 : Addr) (zc : Int32) (h0 : Heap) (n0 : Nat) (O0 : Old Z n0 h0) (S_COMPACT_STRINGS : Sta Z Z.heap "java/lang/String" "COMPACT_STRINGS" "Z" (.int zc)) (hzc : ¬ zc = 0) (F_coder_o0 : Fld Z h0 o0 "java/lang/String" "coder" "B" (.int 0)) :
    oM l Z (⟨"java/lang/String", "isLatin1", "()Z"⟩ : MethodName) jdk_42_method_154_code 1 (some .boolean) ws ({ frames := 0, cells := 0, slots := 0, locals := 0 } : Room) #[(.ref o0)] h0 (own_Q (.int 1) h0 n0) := by
  refine MetFree.of_bodySF (plainFor_of_name pn_15) hisR ?_
  intro p e s m args below meth c s₁ Bd hml0 hP hK
  obtain ⟨rfl, hZ, hh⟩ := hP
  have hx := Bd.exec
  have hby := Bd.bytes
  have hml : c.maxLocals = 1 := hml0
  have hown : s.vm.findClass "java/lang/String" = some m.cls := findClass_of_methodNamed Bd.named
  have hnm := (name_of_methodNamed Bd.named Bd.method).1
  have X0 : Stand p l e ({ frames := 0, cells := 0, slots := 0, locals := 0 } : Room) s m #[(.ref o0)] below meth c s₁ [] 0 0 := Stand.of_body Bd
  have e0 : s₁.heap = h0 := by rw [← hh, Bd.state]; rfl
  have N0 := Fr.nil n0
  have pre0 : ∀ t, Steps p.tables e below (s₁.setTop (mkF m 0 #[.val (.ref o0)] [])) t → Steps p.tables e below (s₁.setTop (entryFrame m #[(.ref o0)] 1)) t := fun t k => castTop (ef_15 m o0) k
  obtain ⟨T1, X1, e1, st1⟩ := getS2 X0 hx hZ hown (host := "") (Or.inl (own_w hw 26 rfl)) Via.refl e0 (S_COMPACT_STRINGS.ext O0.2) (g := (mkF m 0 #[.val (.ref o0)] [])) rfl (hb hby d15_0)
  obtain ⟨T2, X2, e2, st2⟩ := getF X1 hx hZ hown (host := "") (Or.inl (own_w hw 38 rfl)) Via.refl e1 F_coder_o0 (g := (mkF m 7 #[.val (.ref o0)] [(.ref o0)])) rfl rfl (hb hby d15_7)
  obtain ⟨fs, hr, hrun, hended, hW, hsame⟩ := X2.leave (v := some (.int 1)) (fun h => by rw [Bd.returns] at h; cases h)
  refine ⟨_, _, pre0 _ ?_, hrun, hended, _, _, rfl, ?_, ⟨_, rfl⟩, hW, hsame.mono (by decide) (by decide)⟩
  · show oS p e below s₁ m 0 #[.val (.ref o0)] [] _
    refine st1 _ ?_
    show oS p e below T1 m 3 #[.val (.ref o0)] [(.int zc)] _
    refine XS.ifNo X1.here hx rfl (hb hby d15_3) rfl ((if0 _ _).trans (feq hzc).1) ?_
    show oS p e below T1 m 6 #[.val (.ref o0)] [] _
    refine XS.aloadN X1.here hx rfl (hb hby d15_6) rfl rfl ?_
    show oS p e below T1 m 7 #[.val (.ref o0)] [(.ref o0)] _
    refine st2 _ ?_
    show oS p e below T2 m 10 #[.val (.ref o0)] [(.int 0)] _
    refine XS.ifNo X2.here hx rfl (hb hby d15_10) rfl ((if0 _ _).trans (teq (by decide : (0 : Int32) = (0 : Int32))).2) ?_
    show oS p e below T2 m 13 #[.val (.ref o0)] [] _
    refine XS.iconst X2.here hx rfl (hb hby d15_13) ?_
    show oS p e below T2 m 14 #[.val (.ref o0)] [(.int 1)] _
    refine XS.goto X2.here hx rfl (pc0 := 14) (pc' := 18) rfl (hb hby d15_14) (by decide) (by decide) ?_
    show oS p e below T2 m 18 #[.val (.ref o0)] [(.int 1)] _
    exact retN X2 hx (t := .boolean) Bd.returns (by simp) (hb hby d15_18) hr
  · show own_Q (.int 1) h0 n0 _ T2.heap _
    rw [e2]
    exact ⟨rfl, N0, rfl⟩
theorem d13_0 : decode jdk_42_method_152_code 0 = .ok (.getstatic 38, 3) := by decide +kernel
theorem d13_3 : decode jdk_42_method_152_code 3 = .ok (.ifCond .eq 10, 3) := by decide +kernel
theorem d13_6 : decode jdk_42_method_152_code 6 = .ok (.aload_n 0, 1) := by decide +kernel
theorem d13_7 : decode jdk_42_method_152_code 7 = .ok (.getfield 15, 3) := by decide +kernel
theorem d13_10 : decode jdk_42_method_152_code 10 = .ok (.goto 4, 3) := by decide +kernel
theorem d13_14 : decode jdk_42_method_152_code 14 = .ok (.ireturn, 1) := by decide +kernel
theorem ef_13 (m : MethodId) (x0 : Addr) : entryFrame m #[(.ref x0)] 1 = mkF m 0 #[.val (.ref x0)] [] := by first | (simp [entryFrame, mkF, argsToLocals, Value.category]; done) | rfl
theorem pn_13 : plainName "java/lang/String" = true := by first | (simp [plainName, overriddenIn]; done) | decide +kernel
set_option maxRecDepth 65536 in
set_option maxHeartbeats 40000000 in
theorem rmCo (l : Launch) (Z : State) (a0 : Array Value) (hw : ∀ d ∈ tables_1, d.before a0 Z = true) (ws : List Jvm.Cond) (o0 : Addr) (zc : Int32) (h0 : Heap) (n0 : Nat) (O0 : Old Z n0 h0) (S_COMPACT_STRINGS : Sta Z Z.heap "java/lang/String" "COMPACT_STRINGS" "Z" (.int zc)) (hzc : ¬ zc = 0) (F_coder_o0 : Fld Z h0 o0 "java/lang/String" "coder" "B" (.int 0)) :
    oM l Z (⟨"java/lang/String", "coder", "()B"⟩ : MethodName) jdk_42_method_152_code 1 (some .byte) ws ({ frames := 0, cells := 0, slots := 0, locals := 0 } : Room) #[(.ref o0)] h0 (own_Q (.int 0) h0 n0) := by
  refine MetFree.of_bodySF (plainFor_of_name pn_13) hisR ?_
  intro p e s m args below meth c s₁ Bd hml0 hP hK
  obtain ⟨rfl, hZ, hh⟩ := hP
  have hx := Bd.exec
  have hby := Bd.bytes
  have hml : c.maxLocals = 1 := hml0
  have hown : s.vm.findClass "java/lang/String" = some m.cls := findClass_of_methodNamed Bd.named
  have hnm := (name_of_methodNamed Bd.named Bd.method).1
  have X0 : Stand p l e ({ frames := 0, cells := 0, slots := 0, locals := 0 } : Room) s m #[(.ref o0)] below meth c s₁ [] 0 0 := Stand.of_body Bd
  have e0 : s₁.heap = h0 := by rw [← hh, Bd.state]; rfl
  have N0 := Fr.nil n0
  have pre0 : ∀ t, Steps p.tables e below (s₁.setTop (mkF m 0 #[.val (.ref o0)] [])) t → Steps p.tables e below (s₁.setTop (entryFrame m #[(.ref o0)] 1)) t := fun t k => castTop (ef_13 m o0) k
  obtain ⟨T1, X1, e1, st1⟩ := getS2 X0 hx hZ hown (host := "") (Or.inl (own_w hw 26 rfl)) Via.refl e0 (S_COMPACT_STRINGS.ext O0.2) (g := (mkF m 0 #[.val (.ref o0)] [])) rfl (hb hby d13_0)
  obtain ⟨T2, X2, e2, st2⟩ := getF X1 hx hZ hown (host := "") (Or.inl (own_w hw 38 rfl)) Via.refl e1 F_coder_o0 (g := (mkF m 7 #[.val (.ref o0)] [(.ref o0)])) rfl rfl (hb hby d13_7)
  obtain ⟨fs, hr, hrun, hended, hW, hsame⟩ := X2.leave (v := some (.int 0)) (fun h => by rw [Bd.returns] at h; cases h)
  refine ⟨_, _, pre0 _ ?_, hrun, hended, _, _, rfl, ?_, ⟨_, rfl⟩, hW, hsame.mono (by decide) (by decide)⟩
  · show oS p e below s₁ m 0 #[.val (.ref o0)] [] _
    refine st1 _ ?_
    show oS p e below T1 m 3 #[.val (.ref o0)] [(.int zc)] _
    refine XS.ifNo X1.here hx rfl (hb hby d13_3) rfl ((if0 _ _).trans (feq hzc).1) ?_
    show oS p e below T1 m 6 #[.val (.ref o0)] [] _
    refine XS.aloadN X1.here hx rfl (hb hby d13_6) rfl rfl ?_
    show oS p e below T1 m 7 #[.val (.ref o0)] [(.ref o0)] _
    refine st2 _ ?_
    show oS p e below T2 m 10 #[.val (.ref o0)] [(.int 0)] _
    refine XS.goto X2.here hx rfl (pc0 := 10) (pc' := 14) rfl (hb hby d13_10) (by decide) (by decide) ?_
    show oS p e below T2 m 14 #[.val (.ref o0)] [(.int 0)] _
    exact retN X2 hx (t := .byte) Bd.returns (by simp) (hb hby d13_14) hr
  · show own_Q (.int 0) h0 n0 _ T2.heap _
    rw [e2]
    exact ⟨rfl, N0, rfl⟩
theorem d12_0 : decode jdk_42_method_54_code 0 = .ok (.aload_n 0, 1) := by decide +kernel
theorem d12_1 : decode jdk_42_method_54_code 1 = .ok (.getfield 9, 3) := by decide +kernel
theorem d12_4 : decode jdk_42_method_54_code 4 = .ok (.arraylength, 1) := by decide +kernel
theorem d12_5 : decode jdk_42_method_54_code 5 = .ok (.aload_n 0, 1) := by decide +kernel
theorem d12_6 : decode jdk_42_method_54_code 6 = .ok (.invokevirtual 335, 3) := by decide +kernel
theorem pd_0 : parseMethodDescriptor "()B" = some ⟨[], some .byte⟩ := by decide +kernel
theorem d12_9 : decode jdk_42_method_54_code 9 = .ok (.ishr, 1) := by decide +kernel
theorem d12_10 : decode jdk_42_method_54_code 10 = .ok (.ireturn, 1) := by decide +kernel
theorem ef_12 (m : MethodId) (x0 : Addr) : entryFrame m #[(.ref x0)] 1 = mkF m 0 #[.val (.ref x0)] [] := by first | (simp [entryFrame, mkF, argsToLocals, Value.category]; done) | rfl
theorem pn_12 : plainName "java/lang/String" = true := by first | (simp [plainName, overriddenIn]; done) | decide +kernel
set_option maxRecDepth 65536 in
set_option maxHeartbeats 40000000 in
theorem rmLe (l : Launch) (Z : State) (a0 : Array Value) (hw : ∀ d ∈ tables_1, d.before a0 Z = true) (ws : List Jvm.Cond) (o0 : Addr) (A : List Int32) (tA : Addr) (kA : ClassId) (zc : Int32) (h0 : Heap) (n0 : Nat) (O0 : Old Z n0 h0) (F_value_o0 : Fld Z h0 o0 "java/lang/String" "value" "[B" (.ref tA)) (F_coder_o0 : Fld Z h0 o0 "java/lang/String" "coder" "B" (.int 0)) (V_tA : Arv Z h0 tA kA .byte (Int32.ofNat A.length) (A.map Value.int) (.int 0)) (S_COMPACT_STRINGS : Sta Z Z.heap "java/lang/String" "COMPACT_STRINGS" "Z" (.int zc)) (hzc : ¬ zc = 0) (E_o0 : Exa Z h0 o0 "java/lang/String") :
    oM l Z (⟨"java/lang/String", "length", "()I"⟩ : MethodName) jdk_42_method_54_code 1 (some .int) ws ({ frames := 1, cells := 0, slots := 0, locals := 13 } : Room) #[(.ref o0)] h0 (own_Q (.int (Int32.ofNat A.length)) h0 n0) := by
  refine MetFree.of_bodySF (plainFor_of_name pn_12) hisR ?_
  intro p e s m args below meth c s₁ Bd hml0 hP hK
  obtain ⟨rfl, hZ, hh⟩ := hP
  have hx := Bd.exec
  have hby := Bd.bytes
  have hml : c.maxLocals = 1 := hml0
  have hown : s.vm.findClass "java/lang/String" = some m.cls := findClass_of_methodNamed Bd.named
  have hnm := (name_of_methodNamed Bd.named Bd.method).1
  have X0 : Stand p l e ({ frames := 1, cells := 0, slots := 0, locals := 13 } : Room) s m #[(.ref o0)] below meth c s₁ [] 0 0 := Stand.of_body Bd
  have e0 : s₁.heap = h0 := by rw [← hh, Bd.state]; rfl
  have N0 := Fr.nil n0
  have pre0 : ∀ t, Steps p.tables e below (s₁.setTop (mkF m 0 #[.val (.ref o0)] [])) t → Steps p.tables e below (s₁.setTop (entryFrame m #[(.ref o0)] 1)) t := fun t k => castTop (ef_12 m o0) k
  obtain ⟨T1, X1, e1, st1⟩ := getF X0 hx hZ hown (host := "") (Or.inl (own_w hw 40 rfl)) Via.refl e0 F_value_o0 (g := (mkF m 1 #[.val (.ref o0)] [(.ref o0)])) rfl rfl (hb hby d12_1)
  obtain ⟨cl2, Ar2, qa2, Sz2, Ng2, Hs2, Ft2⟩ := V_tA
  have V2o : Arv Z h0 tA kA .byte (Int32.ofNat A.length) (A.map Value.int) (.int 0) := ⟨cl2, Ar2, qa2, Sz2, Ng2, Hs2, Ft2⟩
  obtain ⟨cq3, kq3, q3a, q3b, q3c⟩ := isOf hZ e1 E_o0
  obtain ⟨_, _, ⟨T3, L3, k3, n3⟩, -, X3, ⟨Lc3, hQ3, l3, y3, z3⟩, st3⟩ := X1.virtualBack hx (y := (⟨"java/lang/String", "coder", "()B"⟩ : MethodName)) (z := (⟨"java/lang/String", "coder", "()B"⟩ : MethodName)) hown (mvT hZ (own_w hw 55 rfl)) (mvT hZ (own_w hw 56 rfl)) (notFace_of_selects (args := #[]) (mvT hZ (own_w hw 58 rfl))) (mvT hZ (own_w hw 58 rfl)) (mvT hZ (own_w hw 57 rfl)) (by decide) (backOf (W := 1) (rmCo l Z a0 hw [] o0 zc h0 n0 O0 S_COMPACT_STRINGS hzc F_coder_o0) hZ (own_w hw 59 rfl) (own_w hw 11 rfl) (by decide) (by decide)) q3a q3c (g := (mkF m 6 #[.val (.ref o0)] [(.ref o0), (.int (Int32.ofNat A.length))])) rfl (by rw [hml]; rfl) (Steps.refl _) (argsL := []) (rest := [(.int (Int32.ofNat A.length))]) (lenOf pd_0 rfl) rfl (by show 2 * 0 + _ ≤ _; exact Nat.le_of_eq rfl) (hb hby d12_6) (fun _ _ => ⟨rfl, e1, (by decide : 0 + 0 ≤ _), (by decide : 0 + 0 ≤ _)⟩)
  dsimp only [Pt.U, Pt.locs, Pt.cells, Pt.slots] at X3 l3 y3 z3 st3 hQ3
  subst l3 y3 z3
  obtain ⟨rfl, N3q, e3⟩ := hQ3
  have N3 := Fr.app N0 N3q
  obtain ⟨fs, hr, hrun, hended, hW, hsame⟩ := X3.leave (v := some (.int (Int32.ofNat A.length))) (fun h => by rw [Bd.returns] at h; cases h)
  refine ⟨_, _, pre0 _ ?_, hrun, hended, _, _, rfl, ?_, ⟨_, rfl⟩, hW, hsame.mono (by decide) (by decide)⟩
  · show oS p e below s₁ m 0 #[.val (.ref o0)] [] _
    refine XS.aloadN X0.here hx rfl (hb hby d12_0) rfl rfl ?_
    show oS p e below s₁ m 1 #[.val (.ref o0)] [(.ref o0)] _
    refine st1 _ ?_
    show oS p e below T1 m 4 #[.val (.ref o0)] [(.ref tA)] _
    refine X1.arraylength hx (by rw [e1]; exact Ar2.1) (State.isArrayOf_alike hZ.alike Ar2.2.1) (g := (mkF m 4 #[.val (.ref o0)] [(.ref tA)])) rfl rfl (hb hby d12_4) _ ?_
    rw [len_of Sz2 Ng2]
    show oS p e below T1 m 5 #[.val (.ref o0)] [(.int (Int32.ofNat A.length))] _
    refine XS.aloadN X1.here hx rfl (hb hby d12_5) rfl rfl ?_
    show oS p e below T1 m 6 #[.val (.ref o0)] [(.ref o0), (.int (Int32.ofNat A.length))] _
    refine st3.trans ?_
    show oS p e below T3 m 9 #[.val (.ref o0)] [(.int 0), (.int (Int32.ofNat A.length))] _
    refine XS.ishr X3.here hx rfl (hb hby d12_9) rfl ?_
    show oS p e below T3 m 10 #[.val (.ref o0)] [(.int ((Int32.ofNat A.length) >>> ((0 : Int32) &&& 31)))] _
    rw [own_shr0]
    show oS p e below T3 m 10 #[.val (.ref o0)] [(.int (Int32.ofNat A.length))] _
    exact retI X3 hx Bd.returns (hb hby d12_10) hr
  · show own_Q (.int (Int32.ofNat A.length)) h0 n0 _ T3.heap _
    rw [e3]
    exact ⟨rfl, N3, rfl⟩
theorem d23_0 : decode jdk_29_method_65_code 0 = .ok (.iload_n 0, 1) := by decide +kernel
theorem d23_1 : decode jdk_29_method_65_code 1 = .ok (.iload_n 1, 1) := by decide +kernel
theorem d23_2 : decode jdk_29_method_65_code 2 = .ok (.if_icmp .lt 7, 3) := by decide +kernel
theorem d23_5 : decode jdk_29_method_65_code 5 = .ok (.iload_n 0, 1) := by decide +kernel
theorem d23_6 : decode jdk_29_method_65_code 6 = .ok (.goto 4, 3) := by decide +kernel
theorem d23_10 : decode jdk_29_method_65_code 10 = .ok (.ireturn, 1) := by decide +kernel
theorem ef_23 (m : MethodId) (x0 : Int32) (x1 : Int32) : entryFrame m #[(.int x0), (.int x1)] 2 = mkF m 0 #[.val (.int x0), .val (.int x1)] [] := by first | (simp [entryFrame, mkF, argsToLocals, Value.category]; done) | rfl
set_option maxRecDepth 65536 in
set_option maxHeartbeats 40000000 in
theorem rmMax (l : Launch) (Z : State) (a0 : Array Value) (hw : ∀ d ∈ tables_1, d.before a0 Z = true) (ws : List Jvm.Cond)  (h0 : Heap) (n0 : Nat) (O0 : Old Z n0 h0) :
    oM l Z (⟨"java/lang/Math", "max", "(II)I"⟩ : MethodName) jdk_29_method_65_code 2 (some .int) ws ({ frames := 0, cells := 0, slots := 0, locals := 0 } : Room) #[(.int 0), (.int 0)] h0 (own_Q (.int 0) h0 n0) := by
  refine MetFree.of_bodySF (Jvm.Free.JP.mathPlain rfl (by decide +kernel)) hisR ?_
  intro p e s m args below meth c s₁ Bd hml0 hP hK
  obtain ⟨rfl, hZ, hh⟩ := hP
  have hx := Bd.exec
  have hby := Bd.bytes
  have hml : c.maxLocals = 2 := hml0
  have hown : s.vm.findClass "java/lang/Math" = some m.cls := findClass_of_methodNamed Bd.named
  have hnm := (name_of_methodNamed Bd.named Bd.method).1
  have X0 : Stand p l e ({ frames := 0, cells := 0, slots := 0, locals := 0 } : Room) s m #[(.int 0), (.int 0)] below meth c s₁ [] 0 0 := Stand.of_body Bd
  have e0 : s₁.heap = h0 := by rw [← hh, Bd.state]; rfl
  have N0 := Fr.nil n0
  have pre0 : ∀ t, Steps p.tables e below (s₁.setTop (mkF m 0 #[.val (.int 0), .val (.int 0)] [])) t → Steps p.tables e below (s₁.setTop (entryFrame m #[(.int 0), (.int 0)] 2)) t := fun t k => castTop (ef_23 m (0 : Int32) (0 : Int32)) k
  obtain ⟨fs, hr, hrun, hended, hW, hsame⟩ := X0.leave (v := some (.int 0)) (fun h => by rw [Bd.returns] at h; cases h)
  refine ⟨_, _, pre0 _ ?_, hrun, hended, _, _, rfl, ?_, ⟨_, rfl⟩, hW, hsame.mono (by decide) (by decide)⟩
  · show oS p e below s₁ m 0 #[.val (.int 0), .val (.int 0)] [] _
    refine XS.iloadN X0.here hx rfl (hb hby d23_0) rfl ?_
    show oS p e below s₁ m 1 #[.val (.int 0), .val (.int 0)] [(.int 0)] _
    refine XS.iloadN X0.here hx rfl (hb hby d23_1) rfl ?_
    show oS p e below s₁ m 2 #[.val (.int 0), .val (.int 0)] [(.int 0), (.int 0)] _
    refine XS.icmpNo X0.here hx rfl (hb hby d23_2) rfl (flt (by decide : ¬ ((0 : Int32) < (0 : Int32)))).1 ?_
    show oS p e below s₁ m 5 #[.val (.int 0), .val (.int 0)] [] _
    refine XS.iloadN X0.here hx rfl (hb hby d23_5) rfl ?_
    show oS p e below s₁ m 6 #[.val (.int 0), .val (.int 0)] [(.int 0)] _
    refine XS.goto X0.here hx rfl (pc0 := 6) (pc' := 10) rfl (hb hby d23_6) (by decide) (by decide) ?_
    show oS p e below s₁ m 10 #[.val (.int 0), .val (.int 0)] [(.int 0)] _
    exact retI X0 hx Bd.returns (hb hby d23_10) hr
  · show own_Q (.int 0) h0 n0 _ s₁.heap _
    rw [e0]
    exact ⟨rfl, N0, rfl⟩
theorem d24_0 : decode jdk_29_method_69_code 0 = .ok (.iload_n 0, 1) := by decide +kernel
theorem d24_1 : decode jdk_29_method_69_code 1 = .ok (.iload_n 1, 1) := by decide +kernel
theorem d24_2 : decode jdk_29_method_69_code 2 = .ok (.if_icmp .gt 7, 3) := by decide +kernel
theorem d24_5 : decode jdk_29_method_69_code 5 = .ok (.iload_n 0, 1) := by decide +kernel
theorem d24_6 : decode jdk_29_method_69_code 6 = .ok (.goto 4, 3) := by decide +kernel
theorem d24_10 : decode jdk_29_method_69_code 10 = .ok (.ireturn, 1) := by decide +kernel
theorem ef_24 (m : MethodId) (x0 : Int32) (x1 : Int32) : entryFrame m #[(.int x0), (.int x1)] 2 = mkF m 0 #[.val (.int x0), .val (.int x1)] [] := by first | (simp [entryFrame, mkF, argsToLocals, Value.category]; done) | rfl
set_option maxRecDepth 65536 in
set_option maxHeartbeats 40000000 in
theorem rmMin (l : Launch) (Z : State) (a0 : Array Value) (hw : ∀ d ∈ tables_1, d.before a0 Z = true) (ws : List Jvm.Cond) (p0 : Int32) (h0 : Heap) (n0 : Nat) (O0 : Old Z n0 h0) :
    oM l Z (⟨"java/lang/Math", "min", "(II)I"⟩ : MethodName) jdk_29_method_69_code 2 (some .int) ws ({ frames := 0, cells := 0, slots := 0, locals := 0 } : Room) #[(.int p0), (.int p0)] h0 (own_Q (.int p0) h0 n0) := by
  refine MetFree.of_bodySF (Jvm.Free.JP.mathPlain rfl (by decide +kernel)) hisR ?_
  intro p e s m args below meth c s₁ Bd hml0 hP hK
  obtain ⟨rfl, hZ, hh⟩ := hP
  have hx := Bd.exec
  have hby := Bd.bytes
  have hml : c.maxLocals = 2 := hml0
  have hown : s.vm.findClass "java/lang/Math" = some m.cls := findClass_of_methodNamed Bd.named
  have hnm := (name_of_methodNamed Bd.named Bd.method).1
  have X0 : Stand p l e ({ frames := 0, cells := 0, slots := 0, locals := 0 } : Room) s m #[(.int p0), (.int p0)] below meth c s₁ [] 0 0 := Stand.of_body Bd
  have e0 : s₁.heap = h0 := by rw [← hh, Bd.state]; rfl
  have N0 := Fr.nil n0
  have pre0 : ∀ t, Steps p.tables e below (s₁.setTop (mkF m 0 #[.val (.int p0), .val (.int p0)] [])) t → Steps p.tables e below (s₁.setTop (entryFrame m #[(.int p0), (.int p0)] 2)) t := fun t k => castTop (ef_24 m p0 p0) k
  obtain ⟨fs, hr, hrun, hended, hW, hsame⟩ := X0.leave (v := some (.int p0)) (fun h => by rw [Bd.returns] at h; cases h)
  refine ⟨_, _, pre0 _ ?_, hrun, hended, _, _, rfl, ?_, ⟨_, rfl⟩, hW, hsame.mono (by decide) (by decide)⟩
  · show oS p e below s₁ m 0 #[.val (.int p0), .val (.int p0)] [] _
    refine XS.iloadN X0.here hx rfl (hb hby d24_0) rfl ?_
    show oS p e below s₁ m 1 #[.val (.int p0), .val (.int p0)] [(.int p0)] _
    refine XS.iloadN X0.here hx rfl (hb hby d24_1) rfl ?_
    show oS p e below s₁ m 2 #[.val (.int p0), .val (.int p0)] [(.int p0), (.int p0)] _
    refine XS.icmpNo X0.here hx rfl (hb hby d24_2) rfl (flt Int32.lt_irrefl).2.2.1 ?_
    show oS p e below s₁ m 5 #[.val (.int p0), .val (.int p0)] [] _
    refine XS.iloadN X0.here hx rfl (hb hby d24_5) rfl ?_
    show oS p e below s₁ m 6 #[.val (.int p0), .val (.int p0)] [(.int p0)] _
    refine XS.goto X0.here hx rfl (pc0 := 6) (pc' := 10) rfl (hb hby d24_6) (by decide) (by decide) ?_
    show oS p e below s₁ m 10 #[.val (.int p0), .val (.int p0)] [(.int p0)] _
    exact retI X0 hx Bd.returns (hb hby d24_10) hr
  · show own_Q (.int p0) h0 n0 _ s₁.heap _
    rw [e0]
    exact ⟨rfl, N0, rfl⟩
theorem d22_0 : decode jdk_43_method_4_code 0 = .ok (.iload_n 0, 1) := by decide +kernel
theorem d22_1 : decode jdk_43_method_4_code 1 = .ok (.ifCond .lt 14, 3) := by decide +kernel
theorem d22_4 : decode jdk_43_method_4_code 4 = .ok (.iload_n 0, 1) := by decide +kernel
theorem d22_5 : decode jdk_43_method_4_code 5 = .ok (.sipush 255, 3) := by decide +kernel
theorem d22_8 : decode jdk_43_method_4_code 8 = .ok (.if_icmp .gt 7, 3) := by decide +kernel
theorem d22_11 : decode jdk_43_method_4_code 11 = .ok (.iconst 1, 1) := by decide +kernel
theorem d22_12 : decode jdk_43_method_4_code 12 = .ok (.goto 4, 3) := by decide +kernel
theorem d22_16 : decode jdk_43_method_4_code 16 = .ok (.ireturn, 1) := by decide +kernel
theorem ef_22 (m : MethodId) (x0 : Int32) : entryFrame m #[(.int x0)] 1 = mkF m 0 #[.val (.int x0)] [] := by first | (simp [entryFrame, mkF, argsToLocals, Value.category]; done) | rfl
theorem pn_22 : plainName "java/lang/StringLatin1" = true := by first | (simp [plainName, overriddenIn]; done) | decide +kernel
set_option maxRecDepth 65536 in
set_option maxHeartbeats 40000000 in
theorem rmCE (l : Launch) (Z : State) (a0 : Array Value) (hw : ∀ d ∈ tables_1, d.before a0 Z = true) (ws : List Jvm.Cond) (p0 : Int32) (h0 : Heap) (n0 : Nat) (O0 : Old Z n0 h0) (hc1 : ¬ (p0 < (0 : Int32))) (hc8 : ¬ ((255 : Int32) < p0)) :
    oM l Z (⟨"java/lang/StringLatin1", "canEncode", "(I)Z"⟩ : MethodName) jdk_43_method_4_code 1 (some .boolean) ws ({ frames := 0, cells := 0, slots := 0, locals := 0 } : Room) #[(.int p0)] h0 (own_Q (.int 1) h0 n0) := by
  refine MetFree.of_bodySF (plainFor_of_name pn_22) hisR ?_
  intro p e s m args below meth c s₁ Bd hml0 hP hK
  obtain ⟨rfl, hZ, hh⟩ := hP
  have hx := Bd.exec
  have hby := Bd.bytes
  have hml : c.maxLocals = 1 := hml0
  have hown : s.vm.findClass "java/lang/StringLatin1" = some m.cls := findClass_of_methodNamed Bd.named
  have hnm := (name_of_methodNamed Bd.named Bd.method).1
  have X0 : Stand p l e ({ frames := 0, cells := 0, slots := 0, locals := 0 } : Room) s m #[(.int p0)] below meth c s₁ [] 0 0 := Stand.of_body Bd
  have e0 : s₁.heap = h0 := by rw [← hh, Bd.state]; rfl
  have N0 := Fr.nil n0
  have pre0 : ∀ t, Steps p.tables e below (s₁.setTop (mkF m 0 #[.val (.int p0)] [])) t → Steps p.tables e below (s₁.setTop (entryFrame m #[(.int p0)] 1)) t := fun t k => castTop (ef_22 m p0) k
  obtain ⟨fs, hr, hrun, hended, hW, hsame⟩ := X0.leave (v := some (.int 1)) (fun h => by rw [Bd.returns] at h; cases h)
  refine ⟨_, _, pre0 _ ?_, hrun, hended, _, _, rfl, ?_, ⟨_, rfl⟩, hW, hsame.mono (by decide) (by decide)⟩
  · show oS p e below s₁ m 0 #[.val (.int p0)] [] _
    refine XS.iloadN X0.here hx rfl (hb hby d22_0) rfl ?_
    show oS p e below s₁ m 1 #[.val (.int p0)] [(.int p0)] _
    refine XS.ifNo X0.here hx rfl (hb hby d22_1) rfl ((if0 _ _).trans (flt hc1).1) ?_
    show oS p e below s₁ m 4 #[.val (.int p0)] [] _
    refine XS.iloadN X0.here hx rfl (hb hby d22_4) rfl ?_
    show oS p e below s₁ m 5 #[.val (.int p0)] [(.int p0)] _
    refine XS.sipush X0.here hx rfl (hb hby d22_5) ?_
    show oS p e below s₁ m 8 #[.val (.int p0)] [(.int 255), (.int p0)] _
    refine XS.icmpNo X0.here hx rfl (hb hby d22_8) rfl (flt hc8).2.2.1 ?_
    show oS p e below s₁ m 11 #[.val (.int p0)] [] _
    refine XS.iconst X0.here hx rfl (hb hby d22_11) ?_
    show oS p e below s₁ m 12 #[.val (.int p0)] [(.int 1)] _
    refine XS.goto X0.here hx rfl (pc0 := 12) (pc' := 16) rfl (hb hby d22_12) (by decide) (by decide) ?_
    show oS p e below s₁ m 16 #[.val (.int p0)] [(.int 1)] _
    exact retN X0 hx (t := .boolean) Bd.returns (by simp) (hb hby d22_16) hr
  · show own_Q (.int 1) h0 n0 _ s₁.heap _
    rw [e0]
    exact ⟨rfl, N0, rfl⟩
theorem d25_7 : decode jdk_43_method_23_code 7 = .ok (.iload 5, 2) := by decide +kernel
theorem d25_9 : decode jdk_43_method_23_code 9 = .ok (.iload_n 3, 1) := by decide +kernel
theorem d25_10 : decode jdk_43_method_23_code 10 = .ok (.if_icmp .ge 21, 3) := by decide +kernel
theorem d25_13 : decode jdk_43_method_23_code 13 = .ok (.aload_n 0, 1) := by decide +kernel
theorem d25_14 : decode jdk_43_method_23_code 14 = .ok (.iload 5, 2) := by decide +kernel
theorem d25_16 : decode jdk_43_method_23_code 16 = .ok (.baload, 1) := by decide +kernel
theorem d25_17 : decode jdk_43_method_23_code 17 = .ok (.iload 4, 2) := by decide +kernel
theorem d25_19 : decode jdk_43_method_23_code 19 = .ok (.if_icmp .ne 6, 3) := by decide +kernel
theorem d25_25 : decode jdk_43_method_23_code 25 = .ok (.iinc 5 1, 3) := by decide +kernel
theorem d25_28 : decode jdk_43_method_23_code 28 = .ok (.goto (-21), 3) := by decide +kernel
set_option maxRecDepth 65536 in
set_option maxHeartbeats 40000000 in
theorem ixT {p : Program} {l : Launch} {e : Env} {s : State} {m : MethodId} {args : Array Value} {below : List Frame} {meth : Method} {c : Code} {T0 : State} {locs : List Loc} {Z : State} {h0 : Heap} {o0 : Addr} {p1 p2 pb pj x : Int32} {A : List Int32} {kA : ClassId} (X0 : Stand p l e ({ frames := 0, cells := 0, slots := 0, locals := 0 } : Room) s m args below meth c T0 locs 0 0) (hx : p.tables.exec = Jvm.exec) (hZ : Z.Warmed39 s.vm) (hby : c.code = jdk_43_method_23_code) (e0 : T0.heap = h0) (V_o0 : Arv Z h0 o0 kA .byte (Int32.ofNat A.length) (A.map Value.int) (.int 0)) (hix : ¬ pj < 0 ∧ pj < (Int32.ofNat A.length)) (hval : (A.map Value.int).getD pj.toNatClampNeg (.int 0) = .int x) (hc19 : ¬ (x = pb)) :
    ∀ target, Steps p.tables e below (T0.setTop (mkF m 7 #[.val (.ref o0), .val (.int p1), .val (.int p2), .val (.int (Int32.ofNat A.length)), .val (.int pb), .val (.int (pj + (1 : Int32)))] [])) target → Steps p.tables e below (T0.setTop (mkF m 7 #[.val (.ref o0), .val (.int p1), .val (.int p2), .val (.int (Int32.ofNat A.length)), .val (.int pb), .val (.int pj)] [])) target := by
  intro target kt
  obtain ⟨cl1, Ar1, qa1, Sz1, Ng1, Hs1, Ft1⟩ := V_o0
  have hin1 := (inb_of (j := pj) Sz1 hix)
  have hat1 := Hs1.at (v := (.int x)) hin1 hval
  have V1o : Arv Z h0 o0 kA .byte (Int32.ofNat A.length) (A.map Value.int) (.int 0) := ⟨cl1, Ar1, qa1, Sz1, Ng1, Hs1, Ft1⟩
  show oS p e below T0 m 7 #[.val (.ref o0), .val (.int p1), .val (.int p2), .val (.int (Int32.ofNat A.length)), .val (.int pb), .val (.int pj)] [] _
  refine XS.iload X0.here hx rfl (hb hby d25_7) rfl ?_
  show oS p e below T0 m 9 #[.val (.ref o0), .val (.int p1), .val (.int p2), .val (.int (Int32.ofNat A.length)), .val (.int pb), .val (.int pj)] [(.int pj)] _
  refine XS.iloadN X0.here hx rfl (hb hby d25_9) rfl ?_
  show oS p e below T0 m 10 #[.val (.ref o0), .val (.int p1), .val (.int p2), .val (.int (Int32.ofNat A.length)), .val (.int pb), .val (.int pj)] [(.int (Int32.ofNat A.length)), (.int pj)] _
  refine XS.icmpNo X0.here hx rfl (hb hby d25_10) rfl (tlt hix.2).2.1 ?_
  show oS p e below T0 m 13 #[.val (.ref o0), .val (.int p1), .val (.int p2), .val (.int (Int32.ofNat A.length)), .val (.int pb), .val (.int pj)] [] _
  refine XS.aloadN X0.here hx rfl (hb hby d25_13) rfl rfl ?_
  show oS p e below T0 m 14 #[.val (.ref o0), .val (.int p1), .val (.int p2), .val (.int (Int32.ofNat A.length)), .val (.int pb), .val (.int pj)] [(.ref o0)] _
  refine XS.iload X0.here hx rfl (hb hby d25_14) rfl ?_
  show oS p e below T0 m 16 #[.val (.ref o0), .val (.int p1), .val (.int p2), .val (.int (Int32.ofNat A.length)), .val (.int pb), .val (.int pj)] [(.int pj), (.ref o0)] _
  refine X0.baloadBytes hx (j := pj) (v := (.int x)) (by rw [e0]; exact Ar1.1) (State.isArrayOf_alike hZ.alike Ar1.2.1) Ar1.2.2 hin1 hat1 (g := (mkF m 16 #[.val (.ref o0), .val (.int p1), .val (.int p2), .val (.int (Int32.ofNat A.length)), .val (.int pb), .val (.int pj)] [(.int pj), (.ref o0)])) rfl rfl (hb hby d25_16) _ ?_
  show oS p e below T0 m 17 #[.val (.ref o0), .val (.int p1), .val (.int p2), .val (.int (Int32.ofNat A.length)), .val (.int pb), .val (.int pj)] [(.int x)] _
  refine XS.iload X0.here hx rfl (hb hby d25_17) rfl ?_
  show oS p e below T0 m 19 #[.val (.ref o0), .val (.int p1), .val (.int p2), .val (.int (Int32.ofNat A.length)), .val (.int pb), .val (.int pj)] [(.int pb), (.int x)] _
  refine XS.icmpYes X0.here hx rfl (pc0 := 19) (pc' := 25) rfl (hb hby d25_19) rfl (feq hc19).2 (by decide) (by decide) ?_
  show oS p e below T0 m 25 #[.val (.ref o0), .val (.int p1), .val (.int p2), .val (.int (Int32.ofNat A.length)), .val (.int pb), .val (.int pj)] [] _
  refine XS.iinc X0.here hx rfl (hb hby d25_25) rfl (l' := #[.val (.ref o0), .val (.int p1), .val (.int p2), .val (.int (Int32.ofNat A.length)), .val (.int pb), .val (.int (pj + (1 : Int32)))]) rfl ?_
  show oS p e below T0 m 28 #[.val (.ref o0), .val (.int p1), .val (.int p2), .val (.int (Int32.ofNat A.length)), .val (.int pb), .val (.int (pj + (1 : Int32)))] [] _
  refine XS.goto X0.here hx rfl (pc0 := 28) (pc' := 7) rfl (hb hby d25_28) (by decide) (by decide) ?_
  show oS p e below T0 m 7 #[.val (.ref o0), .val (.int p1), .val (.int p2), .val (.int (Int32.ofNat A.length)), .val (.int pb), .val (.int (pj + (1 : Int32)))] [] _
  exact kt
set_option maxRecDepth 65536 in
set_option maxHeartbeats 40000000 in
theorem ixH {p : Program} {l : Launch} {e : Env} {s : State} {m : MethodId} {args : Array Value} {below : List Frame} {meth : Method} {c : Code} {T0 : State} {locs : List Loc} {Z : State} {h0 : Heap} {o0 : Addr} {p1 p2 pb pj x : Int32} {A : List Int32} {kA : ClassId} (X0 : Stand p l e ({ frames := 0, cells := 0, slots := 0, locals := 0 } : Room) s m args below meth c T0 locs 0 0) (hx : p.tables.exec = Jvm.exec) (hZ : Z.Warmed39 s.vm) (hby : c.code = jdk_43_method_23_code) (e0 : T0.heap = h0) (V_o0 : Arv Z h0 o0 kA .byte (Int32.ofNat A.length) (A.map Value.int) (.int 0)) (hix : ¬ pj < 0 ∧ pj < (Int32.ofNat A.length)) (hval : (A.map Value.int).getD pj.toNatClampNeg (.int 0) = .int x) (hc19 : x = pb) :
    ∀ target, Steps p.tables e below (T0.setTop (mkF m 22 #[.val (.ref o0), .val (.int p1), .val (.int p2), .val (.int (Int32.ofNat A.length)), .val (.int pb), .val (.int pj)] [])) target → Steps p.tables e below (T0.setTop (mkF m 7 #[.val (.ref o0), .val (.int p1), .val (.int p2), .val (.int (Int32.ofNat A.length)), .val (.int pb), .val (.int pj)] [])) target := by
  intro target kt
  obtain ⟨cl1, Ar1, qa1, Sz1, Ng1, Hs1, Ft1⟩ := V_o0
  have hin1 := (inb_of (j := pj) Sz1 hix)
  have hat1 := Hs1.at (v := (.int x)) hin1 hval
  have V1o : Arv Z h0 o0 kA .byte (Int32.ofNat A.length) (A.map Value.int) (.int 0) := ⟨cl1, Ar1, qa1, Sz1, Ng1, Hs1, Ft1⟩
  show oS p e below T0 m 7 #[.val (.ref o0), .val (.int p1), .val (.int p2), .val (.int (Int32.ofNat A.length)), .val (.int pb), .val (.int pj)] [] _
  refine XS.iload X0.here hx rfl (hb hby d25_7) rfl ?_
  show oS p e below T0 m 9 #[.val (.ref o0), .val (.int p1), .val (.int p2), .val (.int (Int32.ofNat A.length)), .val (.int pb), .val (.int pj)] [(.int pj)] _
  refine XS.iloadN X0.here hx rfl (hb hby d25_9) rfl ?_
  show oS p e below T0 m 10 #[.val (.ref o0), .val (.int p1), .val (.int p2), .val (.int (Int32.ofNat A.length)), .val (.int pb), .val (.int pj)] [(.int (Int32.ofNat A.length)), (.int pj)] _
  refine XS.icmpNo X0.here hx rfl (hb hby d25_10) rfl (tlt hix.2).2.1 ?_
  show oS p e below T0 m 13 #[.val (.ref o0), .val (.int p1), .val (.int p2), .val (.int (Int32.ofNat A.length)), .val (.int pb), .val (.int pj)] [] _
  refine XS.aloadN X0.here hx rfl (hb hby d25_13) rfl rfl ?_
  show oS p e below T0 m 14 #[.val (.ref o0), .val (.int p1), .val (.int p2), .val (.int (Int32.ofNat A.length)), .val (.int pb), .val (.int pj)] [(.ref o0)] _
  refine XS.iload X0.here hx rfl (hb hby d25_14) rfl ?_
  show oS p e below T0 m 16 #[.val (.ref o0), .val (.int p1), .val (.int p2), .val (.int (Int32.ofNat A.length)), .val (.int pb), .val (.int pj)] [(.int pj), (.ref o0)] _
  refine X0.baloadBytes hx (j := pj) (v := (.int x)) (by rw [e0]; exact Ar1.1) (State.isArrayOf_alike hZ.alike Ar1.2.1) Ar1.2.2 hin1 hat1 (g := (mkF m 16 #[.val (.ref o0), .val (.int p1), .val (.int p2), .val (.int (Int32.ofNat A.length)), .val (.int pb), .val (.int pj)] [(.int pj), (.ref o0)])) rfl rfl (hb hby d25_16) _ ?_
  show oS p e below T0 m 17 #[.val (.ref o0), .val (.int p1), .val (.int p2), .val (.int (Int32.ofNat A.length)), .val (.int pb), .val (.int pj)] [(.int x)] _
  refine XS.iload X0.here hx rfl (hb hby d25_17) rfl ?_
  show oS p e below T0 m 19 #[.val (.ref o0), .val (.int p1), .val (.int p2), .val (.int (Int32.ofNat A.length)), .val (.int pb), .val (.int pj)] [(.int pb), (.int x)] _
  refine XS.icmpNo X0.here hx rfl (hb hby d25_19) rfl (teq hc19).2 ?_
  show oS p e below T0 m 22 #[.val (.ref o0), .val (.int p1), .val (.int p2), .val (.int (Int32.ofNat A.length)), .val (.int pb), .val (.int pj)] [] _
  exact kt
set_option maxRecDepth 65536 in
set_option maxHeartbeats 40000000 in
theorem ixO {p : Program} {l : Launch} {e : Env} {s : State} {m : MethodId} {args : Array Value} {below : List Frame} {meth : Method} {c : Code} {T0 : State} {locs : List Loc} {Z : State} {h0 : Heap} {o0 : Addr} {p1 p2 pb pj x : Int32} {A : List Int32} {kA : ClassId} (X0 : Stand p l e ({ frames := 0, cells := 0, slots := 0, locals := 0 } : Room) s m args below meth c T0 locs 0 0) (hx : p.tables.exec = Jvm.exec) (hZ : Z.Warmed39 s.vm) (hby : c.code = jdk_43_method_23_code) (e0 : T0.heap = h0) (V_o0 : Arv Z h0 o0 kA .byte (Int32.ofNat A.length) (A.map Value.int) (.int 0)) (hc10 : ¬ (pj < (Int32.ofNat A.length))) :
    ∀ target, Steps p.tables e below (T0.setTop (mkF m 31 #[.val (.ref o0), .val (.int p1), .val (.int p2), .val (.int (Int32.ofNat A.length)), .val (.int pb), .val (.int pj)] [])) target → Steps p.tables e below (T0.setTop (mkF m 7 #[.val (.ref o0), .val (.int p1), .val (.int p2), .val (.int (Int32.ofNat A.length)), .val (.int pb), .val (.int pj)] [])) target := by
  intro target kt
  show oS p e below T0 m 7 #[.val (.ref o0), .val (.int p1), .val (.int p2), .val (.int (Int32.ofNat A.length)), .val (.int pb), .val (.int pj)] [] _
  refine XS.iload X0.here hx rfl (hb hby d25_7) rfl ?_
  show oS p e below T0 m 9 #[.val (.ref o0), .val (.int p1), .val (.int p2), .val (.int (Int32.ofNat A.length)), .val (.int pb), .val (.int pj)] [(.int pj)] _
  refine XS.iloadN X0.here hx rfl (hb hby d25_9) rfl ?_
  show oS p e below T0 m 10 #[.val (.ref o0), .val (.int p1), .val (.int p2), .val (.int (Int32.ofNat A.length)), .val (.int pb), .val (.int pj)] [(.int (Int32.ofNat A.length)), (.int pj)] _
  refine XS.icmpYes X0.here hx rfl (pc0 := 10) (pc' := 31) rfl (hb hby d25_10) rfl (flt hc10).2.1 (by decide) (by decide) ?_
  show oS p e below T0 m 31 #[.val (.ref o0), .val (.int p1), .val (.int p2), .val (.int (Int32.ofNat A.length)), .val (.int pb), .val (.int pj)] [] _
  exact kt
theorem own_ixLoop {p : Program} {l : Launch} {e : Env} {s : State} {m : MethodId} {args : Array Value} {below : List Frame} {meth : Method} {c : Code} {T0 : State} {locs : List Loc} {Z : State} {h0 : Heap} {o0 : Addr} {p1 p2 pb : Int32} {A : List Int32} {kA : ClassId} (X0 : Stand p l e ({ frames := 0, cells := 0, slots := 0, locals := 0 } : Room) s m args below meth c T0 locs 0 0) (hx : p.tables.exec = Jvm.exec) (hZ : Z.Warmed39 s.vm) (hby : c.code = jdk_43_method_23_code) (e0 : T0.heap = h0) (V_o0 : Arv Z h0 o0 kA .byte (Int32.ofNat A.length) (A.map Value.int) (.int 0)) (hA : A.length ≤ 4000) {target : State}
    (hit : ∀ r, own_find A pb 0 = r → Steps p.tables e below (T0.setTop (mkF m 22 #[.val (.ref o0), .val (.int p1), .val (.int p2), .val (.int (Int32.ofNat A.length)), .val (.int pb), .val (.int r)] [])) target) (out : own_find A pb 0 = (-1 : Int32) → Steps p.tables e below (T0.setTop (mkF m 31 #[.val (.ref o0), .val (.int p1), .val (.int p2), .val (.int (Int32.ofNat A.length)), .val (.int pb), .val (.int (Int32.ofNat A.length))] [])) target) :
    ∀ (L P : List Int32), A = P ++ L → own_find A pb 0 = own_find L pb P.length → Steps p.tables e below (T0.setTop (mkF m 7 #[.val (.ref o0), .val (.int p1), .val (.int p2), .val (.int (Int32.ofNat A.length)), .val (.int pb), .val (.int (Int32.ofNat P.length))] [])) target := by
  intro L
  induction L with
  | nil =>
    intro P hP hf
    rw [List.append_nil] at hP
    rw [← hP]
    exact ixO (x := 0) X0 hx hZ hby e0 V_o0 Int32.lt_irrefl _ (out hf)
  | cons x L ih =>
    intro P hP hf
    have hl : P.length < A.length := by rw [hP]; simp
    have hix : ¬ Int32.ofNat P.length < 0 ∧ Int32.ofNat P.length < Int32.ofNat A.length := by
      have z0 : (0 : Int32).toInt = 0 := by decide
      rw [Int32.lt_iff_toInt_lt, Int32.lt_iff_toInt_lt, own_ofNat (by omega), own_ofNat hA, z0]
      omega
    have hval : (A.map Value.int).getD (Int32.ofNat P.length).toNatClampNeg (.int 0) = .int x := by
      rw [own_clamp (by omega), hP]
      simp
    by_cases hq : x = pb
    · exact ixH X0 hx hZ hby e0 V_o0 hix hval hq _ (hit _ (by rw [hf]; simp [own_find, hq]))
    · refine ixT X0 hx hZ hby e0 V_o0 hix hval hq _ ?_
      have q := ih (P ++ [x]) (by rw [hP]; simp) (by rw [hf]; simp [own_find, hq])
      have hlen : (P ++ [x]).length = P.length + 1 := by simp
      rw [hlen, ← own_succ] at q
      exact q
theorem d25_0 : decode jdk_43_method_23_code 0 = .ok (.iload_n 1, 1) := by decide +kernel
theorem d25_1 : decode jdk_43_method_23_code 1 = .ok (.i2b, 1) := by decide +kernel
theorem d25_2 : decode jdk_43_method_23_code 2 = .ok (.istore 4, 2) := by decide +kernel
theorem d25_4 : decode jdk_43_method_23_code 4 = .ok (.iload_n 2, 1) := by decide +kernel
theorem d25_5 : decode jdk_43_method_23_code 5 = .ok (.istore 5, 2) := by decide +kernel
theorem d25_22 : decode jdk_43_method_23_code 22 = .ok (.iload 5, 2) := by decide +kernel
theorem d25_24 : decode jdk_43_method_23_code 24 = .ok (.ireturn, 1) := by decide +kernel
theorem d25_31 : decode jdk_43_method_23_code 31 = .ok (.iconst (-1), 1) := by decide +kernel
theorem d25_32 : decode jdk_43_method_23_code 32 = .ok (.ireturn, 1) := by decide +kernel
theorem ef_25 (m : MethodId) (x0 : Addr) (x1 : Int32) (x2 : Int32) (x3 : Int32) : entryFrame m #[(.ref x0), (.int x1), (.int x2), (.int x3)] 6 = mkF m 0 #[.val (.ref x0), .val (.int x1), .val (.int x2), .val (.int x3), .unset, .unset] [] := by first | (simp [entryFrame, mkF, argsToLocals, Value.category]; done) | rfl
theorem pn_25 : plainName "java/lang/StringLatin1" = true := by first | (simp [plainName, overriddenIn]; done) | decide +kernel
set_option maxRecDepth 65536 in
set_option maxHeartbeats 40000000 in
theorem rmIC (l : Launch) (Z : State) (a0 : Array Value) (hw : ∀ d ∈ tables_1, d.before a0 Z = true) (ws : List Jvm.Cond) (o0 : Addr) (p1 : Int32) (A : List Int32) (kA : ClassId) (h0 : Heap) (n0 : Nat) (O0 : Old Z n0 h0) (V_o0 : Arv Z h0 o0 kA .byte (Int32.ofNat A.length) (A.map Value.int) (.int 0)) (hA : A.length ≤ 4000) :
    oM l Z (⟨"java/lang/StringLatin1", "indexOfChar", "([BIII)I"⟩ : MethodName) jdk_43_method_23_code 6 (some .int) ws ({ frames := 0, cells := 0, slots := 0, locals := 0 } : Room) #[(.ref o0), (.int p1), (.int 0), (.int (Int32.ofNat A.length))] h0 (own_Q (.int (own_find A (p1.toInt8.toInt32) 0)) h0 n0) := by
  refine MetFree.of_bodySF (plainFor_of_name pn_25) hisR ?_
  intro p e s m args below meth c s₁ Bd hml0 hP hK
  obtain ⟨rfl, hZ, hh⟩ := hP
  have hx := Bd.exec
  have hby := Bd.bytes
  have hml : c.maxLocals = 6 := hml0
  have hown : s.vm.findClass "java/lang/StringLatin1" = some m.cls := findClass_of_methodNamed Bd.named
  have hnm := (name_of_methodNamed Bd.named Bd.method).1
  have X0 : Stand p l e ({ frames := 0, cells := 0, slots := 0, locals := 0 } : Room) s m #[(.ref o0), (.int p1), (.int 0), (.int (Int32.ofNat A.length))] below meth c s₁ [] 0 0 := Stand.of_body Bd
  have e0 : s₁.heap = h0 := by rw [← hh, Bd.state]; rfl
  have N0 := Fr.nil n0
  have pre0 : ∀ t, Steps p.tables e below (s₁.setTop (mkF m 0 #[.val (.ref o0), .val (.int p1), .val (.int 0), .val (.int (Int32.ofNat A.length)), .unset, .unset] [])) t → Steps p.tables e below (s₁.setTop (entryFrame m #[(.ref o0), (.int p1), (.int 0), (.int (Int32.ofNat A.length))] 6)) t := fun t k => castTop (ef_25 m o0 p1 (0 : Int32) (Int32.ofNat A.length)) k
  obtain ⟨fs, hr, hrun, hended, hW, hsame⟩ := X0.leave (v := some (.int (own_find A (p1.toInt8.toInt32) 0))) (fun h => by rw [Bd.returns] at h; cases h)
  refine ⟨_, _, pre0 _ ?_, hrun, hended, _, _, rfl, ?_, ⟨_, rfl⟩, hW, hsame.mono (by decide) (by decide)⟩
  · show oS p e below s₁ m 0 #[.val (.ref o0), .val (.int p1), .val (.int 0), .val (.int (Int32.ofNat A.length)), .unset, .unset] [] _
    refine XS.iloadN X0.here hx rfl (hb hby d25_0) rfl ?_
    show oS p e below s₁ m 1 #[.val (.ref o0), .val (.int p1), .val (.int 0), .val (.int (Int32.ofNat A.length)), .unset, .unset] [(.int p1)] _
    refine XS.i2b X0.here hx rfl (hb hby d25_1) rfl ?_
    show oS p e below s₁ m 2 #[.val (.ref o0), .val (.int p1), .val (.int 0), .val (.int (Int32.ofNat A.length)), .unset, .unset] [(.int (p1.toInt8.toInt32))] _
    refine XS.istore X0.here hx rfl (hb hby d25_2) rfl (l' := #[.val (.ref o0), .val (.int p1), .val (.int 0), .val (.int (Int32.ofNat A.length)), .val (.int (p1.toInt8.toInt32)), .unset]) rfl ?_
    show oS p e below s₁ m 4 #[.val (.ref o0), .val (.int p1), .val (.int 0), .val (.int (Int32.ofNat A.length)), .val (.int (p1.toInt8.toInt32)), .unset] [] _
    refine XS.iloadN X0.here hx rfl (hb hby d25_4) rfl ?_
    show oS p e below s₁ m 5 #[.val (.ref o0), .val (.int p1), .val (.int 0), .val (.int (Int32.ofNat A.length)), .val (.int (p1.toInt8.toInt32)), .unset] [(.int 0)] _
    refine XS.istore X0.here hx rfl (hb hby d25_5) rfl (l' := #[.val (.ref o0), .val (.int p1), .val (.int 0), .val (.int (Int32.ofNat A.length)), .val (.int (p1.toInt8.toInt32)), .val (.int 0)]) rfl ?_
    show oS p e below s₁ m 7 #[.val (.ref o0), .val (.int p1), .val (.int 0), .val (.int (Int32.ofNat A.length)), .val (.int (p1.toInt8.toInt32)), .val (.int 0)] [] _
    refine own_ixLoop X0 hx hZ hby e0 V_o0 hA (pb := p1.toInt8.toInt32) (fun r hq => ?_) (fun hq => ?_) A [] rfl rfl
    · subst hq
      show oS p e below s₁ m 22 #[.val (.ref o0), .val (.int p1), .val (.int 0), .val (.int (Int32.ofNat A.length)), .val (.int (p1.toInt8.toInt32)), .val (.int (own_find A (p1.toInt8.toInt32) 0))] [] _
      refine XS.iload X0.here hx rfl (hb hby d25_22) rfl ?_
      show oS p e below s₁ m 24 #[.val (.ref o0), .val (.int p1), .val (.int 0), .val (.int (Int32.ofNat A.length)), .val (.int (p1.toInt8.toInt32)), .val (.int (own_find A (p1.toInt8.toInt32) 0))] [(.int (own_find A (p1.toInt8.toInt32) 0))] _
      exact retI X0 hx Bd.returns (hb hby d25_24) hr
    · rw [hq] at hr
      show oS p e below s₁ m 31 #[.val (.ref o0), .val (.int p1), .val (.int 0), .val (.int (Int32.ofNat A.length)), .val (.int (p1.toInt8.toInt32)), .val (.int (Int32.ofNat A.length))] [] _
      refine XS.iconst X0.here hx rfl (hb hby d25_31) ?_
      show oS p e below s₁ m 32 #[.val (.ref o0), .val (.int p1), .val (.int 0), .val (.int (Int32.ofNat A.length)), .val (.int (p1.toInt8.toInt32)), .val (.int (Int32.ofNat A.length))] [(.int (-1 : Int32))] _
      exact retI X0 hx Bd.returns (hb hby d25_32) hr
  · show own_Q (.int (own_find A (p1.toInt8.toInt32) 0)) h0 n0 _ s₁.heap _
    rw [e0]
    exact ⟨rfl, N0, rfl⟩
theorem d21_0 : decode jdk_43_method_22_code 0 = .ok (.iload_n 1, 1) := by decide +kernel
theorem d21_1 : decode jdk_43_method_22_code 1 = .ok (.invokestatic 88, 3) := by decide +kernel
theorem pd_1 : parseMethodDescriptor "(I)Z" = some ⟨[.int], some .boolean⟩ := by decide +kernel
theorem d21_4 : decode jdk_43_method_22_code 4 = .ok (.ifCond .ne 5, 3) := by decide +kernel
theorem d21_9 : decode jdk_43_method_22_code 9 = .ok (.iload_n 2, 1) := by decide +kernel
theorem d21_10 : decode jdk_43_method_22_code 10 = .ok (.iconst 0, 1) := by decide +kernel
theorem d21_11 : decode jdk_43_method_22_code 11 = .ok (.invokestatic 92, 3) := by decide +kernel
theorem pd_2 : parseMethodDescriptor "(II)I" = some ⟨[.int, .int], some .int⟩ := by decide +kernel
theorem d21_14 : decode jdk_43_method_22_code 14 = .ok (.istore_n 2, 1) := by decide +kernel
theorem d21_15 : decode jdk_43_method_22_code 15 = .ok (.iload_n 3, 1) := by decide +kernel
theorem d21_16 : decode jdk_43_method_22_code 16 = .ok (.aload_n 0, 1) := by decide +kernel
theorem d21_17 : decode jdk_43_method_22_code 17 = .ok (.arraylength, 1) := by decide +kernel
theorem d21_18 : decode jdk_43_method_22_code 18 = .ok (.invokestatic 38, 3) := by decide +kernel
theorem d21_21 : decode jdk_43_method_22_code 21 = .ok (.istore_n 3, 1) := by decide +kernel
theorem d21_22 : decode jdk_43_method_22_code 22 = .ok (.iload_n 2, 1) := by decide +kernel
theorem d21_23 : decode jdk_43_method_22_code 23 = .ok (.iload_n 3, 1) := by decide +kernel
theorem d21_24 : decode jdk_43_method_22_code 24 = .ok (.if_icmp .lt 5, 3) := by decide +kernel
theorem d21_29 : decode jdk_43_method_22_code 29 = .ok (.aload_n 0, 1) := by decide +kernel
theorem d21_30 : decode jdk_43_method_22_code 30 = .ok (.iload_n 1, 1) := by decide +kernel
theorem d21_31 : decode jdk_43_method_22_code 31 = .ok (.iload_n 2, 1) := by decide +kernel
theorem d21_32 : decode jdk_43_method_22_code 32 = .ok (.iload_n 3, 1) := by decide +kernel
theorem d21_33 : decode jdk_43_method_22_code 33 = .ok (.invokestatic 95, 3) := by decide +kernel
theorem pd_3 : parseMethodDescriptor "([BIII)I" = some ⟨[(.array .byte), .int, .int, .int], some .int⟩ := by decide +kernel
theorem d21_36 : decode jdk_43_method_22_code 36 = .ok (.ireturn, 1) := by decide +kernel
theorem ef_21 (m : MethodId) (x0 : Addr) (x1 : Int32) (x2 : Int32) (x3 : Int32) : entryFrame m #[(.ref x0), (.int x1), (.int x2), (.int x3)] 4 = mkF m 0 #[.val (.ref x0), .val (.int x1), .val (.int x2), .val (.int x3)] [] := by first | (simp [entryFrame, mkF, argsToLocals, Value.category]; done) | rfl
theorem pn_21 : plainName "java/lang/StringLatin1" = true := by first | (simp [plainName, overriddenIn]; done) | decide +kernel
set_option maxRecDepth 65536 in
set_option maxHeartbeats 40000000 in
theorem rmI4 (l : Launch) (Z : State) (a0 : Array Value) (hw : ∀ d ∈ tables_1, d.before a0 Z = true) (ws : List Jvm.Cond) (o0 : Addr) (p1 : Int32) (A : List Int32) (kA : ClassId) (h0 : Heap) (n0 : Nat) (O0 : Old Z n0 h0) (V_o0 : Arv Z h0 o0 kA .byte (Int32.ofNat A.length) (A.map Value.int) (.int 0)) (hA : A.length ≤ 4000) (hpos : (0 : Int32) < (Int32.ofNat A.length)) (hp1 : ¬ p1 < (0 : Int32) ∧ ¬ (255 : Int32) < p1) :
    oM l Z (⟨"java/lang/StringLatin1", "indexOf", "([BIII)I"⟩ : MethodName) jdk_43_method_22_code 4 (some .int) ws ({ frames := 1, cells := 0, slots := 0, locals := 17 } : Room) #[(.ref o0), (.int p1), (.int 0), (.int (Int32.ofNat A.length))] h0 (own_Q (.int (own_find A (p1.toInt8.toInt32) 0)) h0 n0) := by
  refine MetFree.of_bodySF (plainFor_of_name pn_21) hisR ?_
  intro p e s m args below meth c s₁ Bd hml0 hP hK
  obtain ⟨rfl, hZ, hh⟩ := hP
  have hx := Bd.exec
  have hby := Bd.bytes
  have hml : c.maxLocals = 4 := hml0
  have hown : s.vm.findClass "java/lang/StringLatin1" = some m.cls := findClass_of_methodNamed Bd.named
  have hnm := (name_of_methodNamed Bd.named Bd.method).1
  have X0 : Stand p l e ({ frames := 1, cells := 0, slots := 0, locals := 17 } : Room) s m #[(.ref o0), (.int p1), (.int 0), (.int (Int32.ofNat A.length))] below meth c s₁ [] 0 0 := Stand.of_body Bd
  have e0 : s₁.heap = h0 := by rw [← hh, Bd.state]; rfl
  have N0 := Fr.nil n0
  have pre0 : ∀ t, Steps p.tables e below (s₁.setTop (mkF m 0 #[.val (.ref o0), .val (.int p1), .val (.int 0), .val (.int (Int32.ofNat A.length))] [])) t → Steps p.tables e below (s₁.setTop (entryFrame m #[(.ref o0), (.int p1), (.int 0), (.int (Int32.ofNat A.length))] 4)) t := fun t k => castTop (ef_21 m o0 p1 (0 : Int32) (Int32.ofNat A.length)) k
  obtain ⟨_, _, ⟨T1, L1, k1, n1⟩, -, X1, ⟨Lc1, hQ1, l1, y1, z1⟩, st1⟩ := Jvm.LawKit.callS X0 hx (y := (⟨"java/lang/StringLatin1", "canEncode", "(I)Z"⟩ : MethodName)) hown (mvT hZ (own_w hw 99 rfl)) (mvT hZ (own_w hw 100 rfl)) (mvT hZ (own_w hw 75 rfl)) (mvT hZ (own_w hw 101 rfl)) (by decide) (backOf (W := 0) (rmCE l Z a0 hw [] p1  h0 n0 O0 hp1.1 hp1.2) hZ (own_w hw 101 rfl) (own_w hw 75 rfl) (by decide) (by decide)) (g := (mkF m 1 #[.val (.ref o0), .val (.int p1), .val (.int 0), .val (.int (Int32.ofNat A.length))] [(.int p1)])) rfl (by rw [hml]; rfl) (argsL := [(.int p1)]) (rest := []) (lenOf pd_1 rfl) rfl (by show 2 * 0 + _ ≤ _; exact Nat.le_of_eq rfl) (hb hby d21_1) (fun _ _ => ⟨rfl, e0, (by decide : 0 + 0 ≤ _), (by decide : 0 + 0 ≤ _)⟩)
  dsimp only [Pt.U, Pt.locs, Pt.cells, Pt.slots] at X1 l1 y1 z1 st1 hQ1
  subst l1 y1 z1
  obtain ⟨rfl, N1q, e1⟩ := hQ1
  have N1 := Fr.app N0 N1q
  obtain ⟨_, _, ⟨T2, L2, k2, n2⟩, -, X2, ⟨Lc2, hQ2, l2, y2, z2⟩, st2⟩ := Jvm.LawKit.callS X1 hx (y := (⟨"java/lang/Math", "max", "(II)I"⟩ : MethodName)) hown (mvT hZ (own_w hw 102 rfl)) (mvT hZ (own_w hw 103 rfl)) (mvT hZ (own_w hw 104 rfl)) (mvT hZ (own_w hw 105 rfl)) (by decide) (backOf (W := 0) (rmMax l Z a0 hw []   h0 n0 O0 ) hZ (own_w hw 105 rfl) (own_w hw 104 rfl) (by decide) (by decide)) (g := (mkF m 11 #[.val (.ref o0), .val (.int p1), .val (.int 0), .val (.int (Int32.ofNat A.length))] [(.int 0), (.int 0)])) rfl (by rw [hml]; rfl) (argsL := [(.int 0), (.int 0)]) (rest := []) (lenOf pd_2 rfl) rfl (by show 2 * 0 + _ ≤ _; exact Nat.le_of_eq rfl) (hb hby d21_11) (fun _ _ => ⟨rfl, e1, (by decide : 0 + 0 ≤ _), (by decide : 0 + 0 ≤ _)⟩)
  dsimp only [Pt.U, Pt.locs, Pt.cells, Pt.slots] at X2 l2 y2 z2 st2 hQ2
  subst l2 y2 z2
  obtain ⟨rfl, N2q, e2⟩ := hQ2
  have N2 := Fr.app N1 N2q
  obtain ⟨cl3, Ar3, qa3, Sz3, Ng3, Hs3, Ft3⟩ := V_o0
  have V3o : Arv Z h0 o0 kA .byte (Int32.ofNat A.length) (A.map Value.int) (.int 0) := ⟨cl3, Ar3, qa3, Sz3, Ng3, Hs3, Ft3⟩
  obtain ⟨_, _, ⟨T4, L4, k4, n4⟩, -, X4, ⟨Lc4, hQ4, l4, y4, z4⟩, st4⟩ := Jvm.LawKit.callS X2 hx (y := (⟨"java/lang/Math", "min", "(II)I"⟩ : MethodName)) hown (mvT hZ (own_w hw 106 rfl)) (mvT hZ (own_w hw 107 rfl)) (mvT hZ (own_w hw 104 rfl)) (mvT hZ (own_w hw 108 rfl)) (by decide) (backOf (W := 0) (rmMin l Z a0 hw [] (Int32.ofNat A.length)  h0 n0 O0 ) hZ (own_w hw 108 rfl) (own_w hw 104 rfl) (by decide) (by decide)) (g := (mkF m 18 #[.val (.ref o0), .val (.int p1), .val (.int 0), .val (.int (Int32.ofNat A.length))] [(.int (Int32.ofNat A.length)), (.int (Int32.ofNat A.length))])) rfl (by rw [hml]; rfl) (argsL := [(.int (Int32.ofNat A.length)), (.int (Int32.ofNat A.length))]) (rest := []) (lenOf pd_2 rfl) rfl (by show 2 * 0 + _ ≤ _; exact Nat.le_of_eq rfl) (hb hby d21_18) (fun _ _ => ⟨rfl, e2, (by decide : 0 + 0 ≤ _), (by decide : 0 + 0 ≤ _)⟩)
  dsimp only [Pt.U, Pt.locs, Pt.cells, Pt.slots] at X4 l4 y4 z4 st4 hQ4
  subst l4 y4 z4
  obtain ⟨rfl, N4q, e4⟩ := hQ4
  have N4 := Fr.app N2 N4q
  obtain ⟨_, _, ⟨T5, L5, k5, n5⟩, -, X5, ⟨Lc5, hQ5, l5, y5, z5⟩, st5⟩ := Jvm.LawKit.callS X4 hx (y := (⟨"java/lang/StringLatin1", "indexOfChar", "([BIII)I"⟩ : MethodName)) hown (mvT hZ (own_w hw 109 rfl)) (mvT hZ (own_w hw 110 rfl)) (mvT hZ (own_w hw 75 rfl)) (mvT hZ (own_w hw 111 rfl)) (by decide) (backOf (W := 0) (rmIC l Z a0 hw [] o0 p1 A kA h0 n0 O0 V3o hA) hZ (own_w hw 111 rfl) (own_w hw 75 rfl) (by decide) (by decide)) (g := (mkF m 33 #[.val (.ref o0), .val (.int p1), .val (.int 0), .val (.int (Int32.ofNat A.length))] [(.int (Int32.ofNat A.length)), (.int 0), (.int p1), (.ref o0)])) rfl (by rw [hml]; rfl) (argsL := [(.ref o0), (.int p1), (.int 0), (.int (Int32.ofNat A.length))]) (rest := []) (lenOf pd_3 rfl) rfl (by show 2 * 0 + _ ≤ _; exact Nat.le_of_eq rfl) (hb hby d21_33) (fun _ _ => ⟨rfl, e4, (by decide : 0 + 0 ≤ _), (by decide : 0 + 0 ≤ _)⟩)
  dsimp only [Pt.U, Pt.locs, Pt.cells, Pt.slots] at X5 l5 y5 z5 st5 hQ5
  subst l5 y5 z5
  obtain ⟨rfl, N5q, e5⟩ := hQ5
  have N5 := Fr.app N4 N5q
  obtain ⟨fs, hr, hrun, hended, hW, hsame⟩ := X5.leave (v := some (.int (own_find A (p1.toInt8.toInt32) 0))) (fun h => by rw [Bd.returns] at h; cases h)
  refine ⟨_, _, pre0 _ ?_, hrun, hended, _, _, rfl, ?_, ⟨_, rfl⟩, hW, hsame.mono (by decide) (by decide)⟩
  · show oS p e below s₁ m 0 #[.val (.ref o0), .val (.int p1), .val (.int 0), .val (.int (Int32.ofNat A.length))] [] _
    refine XS.iloadN X0.here hx rfl (hb hby d21_0) rfl ?_
    show oS p e below s₁ m 1 #[.val (.ref o0), .val (.int p1), .val (.int 0), .val (.int (Int32.ofNat A.length))] [(.int p1)] _
    refine st1 _ ?_
    show oS p e below T1 m 4 #[.val (.ref o0), .val (.int p1), .val (.int 0), .val (.int (Int32.ofNat A.length))] [(.int 1)] _
    refine XS.ifYes X1.here hx rfl (pc0 := 4) (pc' := 9) rfl (hb hby d21_4) rfl ((if0 _ _).trans (feq (by decide : ¬ ((1 : Int32) = (0 : Int32)))).2) (by decide) (by decide) ?_
    show oS p e below T1 m 9 #[.val (.ref o0), .val (.int p1), .val (.int 0), .val (.int (Int32.ofNat A.length))] [] _
    refine XS.iloadN X1.here hx rfl (hb hby d21_9) rfl ?_
    show oS p e below T1 m 10 #[.val (.ref o0), .val (.int p1), .val (.int 0), .val (.int (Int32.ofNat A.length))] [(.int 0)] _
    refine XS.iconst X1.here hx rfl (hb hby d21_10) ?_
    show oS p e below T1 m 11 #[.val (.ref o0), .val (.int p1), .val (.int 0), .val (.int (Int32.ofNat A.length))] [(.int 0), (.int 0)] _
    refine st2 _ ?_
    show oS p e below T2 m 14 #[.val (.ref o0), .val (.int p1), .val (.int 0), .val (.int (Int32.ofNat A.length))] [(.int 0)] _
    refine XS.istoreN X2.here hx rfl (hb hby d21_14) rfl (l' := #[.val (.ref o0), .val (.int p1), .val (.int 0), .val (.int (Int32.ofNat A.length))]) rfl ?_
    show oS p e below T2 m 15 #[.val (.ref o0), .val (.int p1), .val (.int 0), .val (.int (Int32.ofNat A.length))] [] _
    refine XS.iloadN X2.here hx rfl (hb hby d21_15) rfl ?_
    show oS p e below T2 m 16 #[.val (.ref o0), .val (.int p1), .val (.int 0), .val (.int (Int32.ofNat A.length))] [(.int (Int32.ofNat A.length))] _
    refine XS.aloadN X2.here hx rfl (hb hby d21_16) rfl rfl ?_
    show oS p e below T2 m 17 #[.val (.ref o0), .val (.int p1), .val (.int 0), .val (.int (Int32.ofNat A.length))] [(.ref o0), (.int (Int32.ofNat A.length))] _
    refine X2.arraylength hx (by rw [e2]; exact Ar3.1) (State.isArrayOf_alike hZ.alike Ar3.2.1) (g := (mkF m 17 #[.val (.ref o0), .val (.int p1), .val (.int 0), .val (.int (Int32.ofNat A.length))] [(.ref o0), (.int (Int32.ofNat A.length))])) rfl rfl (hb hby d21_17) _ ?_
    rw [len_of Sz3 Ng3]
    show oS p e below T2 m 18 #[.val (.ref o0), .val (.int p1), .val (.int 0), .val (.int (Int32.ofNat A.length))] [(.int (Int32.ofNat A.length)), (.int (Int32.ofNat A.length))] _
    refine st4 _ ?_
    show oS p e below T4 m 21 #[.val (.ref o0), .val (.int p1), .val (.int 0), .val (.int (Int32.ofNat A.length))] [(.int (Int32.ofNat A.length))] _
    refine XS.istoreN X4.here hx rfl (hb hby d21_21) rfl (l' := #[.val (.ref o0), .val (.int p1), .val (.int 0), .val (.int (Int32.ofNat A.length))]) rfl ?_
    show oS p e below T4 m 22 #[.val (.ref o0), .val (.int p1), .val (.int 0), .val (.int (Int32.ofNat A.length))] [] _
    refine XS.iloadN X4.here hx rfl (hb hby d21_22) rfl ?_
    show oS p e below T4 m 23 #[.val (.ref o0), .val (.int p1), .val (.int 0), .val (.int (Int32.ofNat A.length))] [(.int 0)] _
    refine XS.iloadN X4.here hx rfl (hb hby d21_23) rfl ?_
    show oS p e below T4 m 24 #[.val (.ref o0), .val (.int p1), .val (.int 0), .val (.int (Int32.ofNat A.length))] [(.int (Int32.ofNat A.length)), (.int 0)] _
    refine XS.icmpYes X4.here hx rfl (pc0 := 24) (pc' := 29) rfl (hb hby d21_24) rfl (tlt hpos).1 (by decide) (by decide) ?_
    show oS p e below T4 m 29 #[.val (.ref o0), .val (.int p1), .val (.int 0), .val (.int (Int32.ofNat A.length))] [] _
    refine XS.aloadN X4.here hx rfl (hb hby d21_29) rfl rfl ?_
    show oS p e below T4 m 30 #[.val (.ref o0), .val (.int p1), .val (.int 0), .val (.int (Int32.ofNat A.length))] [(.ref o0)] _
    refine XS.iloadN X4.here hx rfl (hb hby d21_30) rfl ?_
    show oS p e below T4 m 31 #[.val (.ref o0), .val (.int p1), .val (.int 0), .val (.int (Int32.ofNat A.length))] [(.int p1), (.ref o0)] _
    refine XS.iloadN X4.here hx rfl (hb hby d21_31) rfl ?_
    show oS p e below T4 m 32 #[.val (.ref o0), .val (.int p1), .val (.int 0), .val (.int (Int32.ofNat A.length))] [(.int 0), (.int p1), (.ref o0)] _
    refine XS.iloadN X4.here hx rfl (hb hby d21_32) rfl ?_
    show oS p e below T4 m 33 #[.val (.ref o0), .val (.int p1), .val (.int 0), .val (.int (Int32.ofNat A.length))] [(.int (Int32.ofNat A.length)), (.int 0), (.int p1), (.ref o0)] _
    refine st5 _ ?_
    show oS p e below T5 m 36 #[.val (.ref o0), .val (.int p1), .val (.int 0), .val (.int (Int32.ofNat A.length))] [(.int (own_find A (p1.toInt8.toInt32) 0))] _
    exact retI X5 hx Bd.returns (hb hby d21_36) hr
  · show own_Q (.int (own_find A (p1.toInt8.toInt32) 0)) h0 n0 _ T5.heap _
    rw [e5]
    exact ⟨rfl, N5, rfl⟩
theorem d20_0 : decode jdk_42_method_80_code 0 = .ok (.aload_n 0, 1) := by decide +kernel
theorem d20_1 : decode jdk_42_method_80_code 1 = .ok (.invokevirtual 492, 3) := by decide +kernel
theorem pd_4 : parseMethodDescriptor "()Z" = some ⟨[], some .boolean⟩ := by decide +kernel
theorem d20_4 : decode jdk_42_method_80_code 4 = .ok (.ifCond .eq 19, 3) := by decide +kernel
theorem d20_7 : decode jdk_42_method_80_code 7 = .ok (.aload_n 0, 1) := by decide +kernel
theorem d20_8 : decode jdk_42_method_80_code 8 = .ok (.getfield 9, 3) := by decide +kernel
theorem d20_11 : decode jdk_42_method_80_code 11 = .ok (.iload_n 1, 1) := by decide +kernel
theorem d20_12 : decode jdk_42_method_80_code 12 = .ok (.iload_n 2, 1) := by decide +kernel
theorem d20_13 : decode jdk_42_method_80_code 13 = .ok (.aload_n 0, 1) := by decide +kernel
theorem d20_14 : decode jdk_42_method_80_code 14 = .ok (.invokevirtual 505, 3) := by decide +kernel
theorem pd_5 : parseMethodDescriptor "()I" = some ⟨[], some .int⟩ := by decide +kernel
theorem d20_17 : decode jdk_42_method_80_code 17 = .ok (.invokestatic 637, 3) := by decide +kernel
theorem d20_20 : decode jdk_42_method_80_code 20 = .ok (.goto 16, 3) := by decide +kernel
theorem d20_36 : decode jdk_42_method_80_code 36 = .ok (.ireturn, 1) := by decide +kernel
theorem ef_20 (m : MethodId) (x0 : Addr) (x1 : Int32) (x2 : Int32) : entryFrame m #[(.ref x0), (.int x1), (.int x2)] 3 = mkF m 0 #[.val (.ref x0), .val (.int x1), .val (.int x2)] [] := by first | (simp [entryFrame, mkF, argsToLocals, Value.category]; done) | rfl
theorem pn_20 : plainName "java/lang/String" = true := by first | (simp [plainName, overriddenIn]; done) | decide +kernel
set_option maxRecDepth 65536 in
set_option maxHeartbeats 40000000 in
theorem rmI3 (l : Launch) (Z : State) (a0 : Array Value) (hw : ∀ d ∈ tables_1, d.before a0 Z = true) (ws : List Jvm.Cond) (o0 : Addr) (p1 : Int32) (A : List Int32) (tA : Addr) (kA : ClassId) (zc : Int32) (h0 : Heap) (n0 : Nat) (O0 : Old Z n0 h0) (F_value_o0 : Fld Z h0 o0 "java/lang/String" "value" "[B" (.ref tA)) (F_coder_o0 : Fld Z h0 o0 "java/lang/String" "coder" "B" (.int 0)) (V_tA : Arv Z h0 tA kA .byte (Int32.ofNat A.length) (A.map Value.int) (.int 0)) (S_COMPACT_STRINGS : Sta Z Z.heap "java/lang/String" "COMPACT_STRINGS" "Z" (.int zc)) (hzc : ¬ zc = 0) (E_o0 : Exa Z h0 o0 "java/lang/String") (hA : A.length ≤ 4000) (hpos : (0 : Int32) < (Int32.ofNat A.length)) (hp1 : ¬ p1 < (0 : Int32) ∧ ¬ (255 : Int32) < p1) :
    oM l Z (⟨"java/lang/String", "indexOf", "(II)I"⟩ : MethodName) jdk_42_method_80_code 3 (some .int) ws ({ frames := 2, cells := 0, slots := 0, locals := 32 } : Room) #[(.ref o0), (.int p1), (.int 0)] h0 (own_Q (.int (own_find A (p1.toInt8.toInt32) 0)) h0 n0) := by
  refine MetFree.of_bodySF (plainFor_of_name pn_20) hisR ?_
  intro p e s m args below meth c s₁ Bd hml0 hP hK
  obtain ⟨rfl, hZ, hh⟩ := hP
  have hx := Bd.exec
  have hby := Bd.bytes
  have hml : c.maxLocals = 3 := hml0
  have hown : s.vm.findClass "java/lang/String" = some m.cls := findClass_of_methodNamed Bd.named
  have hnm := (name_of_methodNamed Bd.named Bd.method).1
  have X0 : Stand p l e ({ frames := 2, cells := 0, slots := 0, locals := 32 } : Room) s m #[(.ref o0), (.int p1), (.int 0)] below meth c s₁ [] 0 0 := Stand.of_body Bd
  have e0 : s₁.heap = h0 := by rw [← hh, Bd.state]; rfl
  have N0 := Fr.nil n0
  have pre0 : ∀ t, Steps p.tables e below (s₁.setTop (mkF m 0 #[.val (.ref o0), .val (.int p1), .val (.int 0)] [])) t → Steps p.tables e below (s₁.setTop (entryFrame m #[(.ref o0), (.int p1), (.int 0)] 3)) t := fun t k => castTop (ef_20 m o0 p1 (0 : Int32)) k
  obtain ⟨cq1, kq1, q1a, q1b, q1c⟩ := isOf hZ e0 E_o0
  obtain ⟨_, _, ⟨T1, L1, k1, n1⟩, -, X1, ⟨Lc1, hQ1, l1, y1, z1⟩, st1⟩ := X0.virtualBack hx (y := (⟨"java/lang/String", "isLatin1", "()Z"⟩ : MethodName)) (z := (⟨"java/lang/String", "isLatin1", "()Z"⟩ : MethodName)) hown (mvT hZ (own_w hw 68 rfl)) (mvT hZ (own_w hw 69 rfl)) (notFace_of_selects (args := #[]) (mvT hZ (own_w hw 71 rfl))) (mvT hZ (own_w hw 71 rfl)) (mvT hZ (own_w hw 70 rfl)) (by decide) (backOf (W := 0) (rmLa l Z a0 hw [] o0 zc h0 n0 O0 S_COMPACT_STRINGS hzc F_coder_o0) hZ (own_w hw 72 rfl) (own_w hw 11 rfl) (by decide) (by decide)) q1a q1c (g := (mkF m 1 #[.val (.ref o0), .val (.int p1), .val (.int 0)] [(.ref o0)])) rfl (by rw [hml]; rfl) (Steps.refl _) (argsL := []) (rest := []) (lenOf pd_4 rfl) rfl (by show 2 * 0 + _ ≤ _; exact Nat.le_of_eq rfl) (hb hby d20_1) (fun _ _ => ⟨rfl, e0, (by decide : 0 + 0 ≤ _), (by decide : 0 + 0 ≤ _)⟩)
  dsimp only [Pt.U, Pt.locs, Pt.cells, Pt.slots] at X1 l1 y1 z1 st1 hQ1
  subst l1 y1 z1
  obtain ⟨rfl, N1q, e1⟩ := hQ1
  have N1 := Fr.app N0 N1q
  obtain ⟨T2, X2, e2, st2⟩ := getF X1 hx hZ hown (host := "") (Or.inl (own_w hw 40 rfl)) Via.refl e1 F_value_o0 (g := (mkF m 8 #[.val (.ref o0), .val (.int p1), .val (.int 0)] [(.ref o0)])) rfl rfl (hb hby d20_8)
  obtain ⟨cq3, kq3, q3a, q3b, q3c⟩ := isOf hZ e2 E_o0
  obtain ⟨_, _, ⟨T3, L3, k3, n3⟩, -, X3, ⟨Lc3, hQ3, l3, y3, z3⟩, st3⟩ := X2.virtualBack hx (y := (⟨"java/lang/String", "length", "()I"⟩ : MethodName)) (z := (⟨"java/lang/String", "length", "()I"⟩ : MethodName)) hown (mvT hZ (own_w hw 95 rfl)) (mvT hZ (own_w hw 51 rfl)) (notFace_of_selects (args := #[]) (mvT hZ (own_w hw 53 rfl))) (mvT hZ (own_w hw 53 rfl)) (mvT hZ (own_w hw 52 rfl)) (by decide) (backOf (W := 3) (rmLe l Z a0 hw [] o0 A tA kA zc h0 n0 O0 F_value_o0 F_coder_o0 V_tA S_COMPACT_STRINGS hzc E_o0) hZ (own_w hw 54 rfl) (own_w hw 11 rfl) (by decide) (by decide)) q3a q3c (g := (mkF m 14 #[.val (.ref o0), .val (.int p1), .val (.int 0)] [(.ref o0), (.int 0), (.int p1), (.ref tA)])) rfl (by rw [hml]; rfl) (Steps.refl _) (argsL := []) (rest := [(.int 0), (.int p1), (.ref tA)]) (lenOf pd_5 rfl) rfl (by show 2 * 0 + _ ≤ _; exact Nat.le_of_eq rfl) (hb hby d20_14) (fun _ _ => ⟨rfl, e2, (by decide : 0 + 0 ≤ _), (by decide : 0 + 0 ≤ _)⟩)
  dsimp only [Pt.U, Pt.locs, Pt.cells, Pt.slots] at X3 l3 y3 z3 st3 hQ3
  subst l3 y3 z3
  obtain ⟨rfl, N3q, e3⟩ := hQ3
  have N3 := Fr.app N1 N3q
  obtain ⟨_, _, ⟨T4, L4, k4, n4⟩, -, X4, ⟨Lc4, hQ4, l4, y4, z4⟩, st4⟩ := Jvm.LawKit.callS X3 hx (y := (⟨"java/lang/StringLatin1", "indexOf", "([BIII)I"⟩ : MethodName)) hown (mvT hZ (own_w hw 96 rfl)) (mvT hZ (own_w hw 97 rfl)) (mvT hZ (own_w hw 75 rfl)) (mvT hZ (own_w hw 98 rfl)) (by decide) (backOf (W := 0) (rmI4 l Z a0 hw [] tA p1 A kA h0 n0 O0 V_tA hA hpos hp1) hZ (own_w hw 98 rfl) (own_w hw 75 rfl) (by decide) (by decide)) (g := (mkF m 17 #[.val (.ref o0), .val (.int p1), .val (.int 0)] [(.int (Int32.ofNat A.length)), (.int 0), (.int p1), (.ref tA)])) rfl (by rw [hml]; rfl) (argsL := [(.ref tA), (.int p1), (.int 0), (.int (Int32.ofNat A.length))]) (rest := []) (lenOf pd_3 rfl) rfl (by show 2 * 0 + _ ≤ _; exact Nat.le_of_eq rfl) (hb hby d20_17) (fun _ _ => ⟨rfl, e3, (by decide : 0 + 0 ≤ _), (by decide : 0 + 0 ≤ _)⟩)
  dsimp only [Pt.U, Pt.locs, Pt.cells, Pt.slots] at X4 l4 y4 z4 st4 hQ4
  subst l4 y4 z4
  obtain ⟨rfl, N4q, e4⟩ := hQ4
  have N4 := Fr.app N3 N4q
  obtain ⟨fs, hr, hrun, hended, hW, hsame⟩ := X4.leave (v := some (.int (own_find A (p1.toInt8.toInt32) 0))) (fun h => by rw [Bd.returns] at h; cases h)
  refine ⟨_, _, pre0 _ ?_, hrun, hended, _, _, rfl, ?_, ⟨_, rfl⟩, hW, hsame.mono (by decide) (by decide)⟩
  · show oS p e below s₁ m 0 #[.val (.ref o0), .val (.int p1), .val (.int 0)] [] _
    refine XS.aloadN X0.here hx rfl (hb hby d20_0) rfl rfl ?_
    show oS p e below s₁ m 1 #[.val (.ref o0), .val (.int p1), .val (.int 0)] [(.ref o0)] _
    refine st1.trans ?_
    show oS p e below T1 m 4 #[.val (.ref o0), .val (.int p1), .val (.int 0)] [(.int 1)] _
    refine XS.ifNo X1.here hx rfl (hb hby d20_4) rfl ((if0 _ _).trans (feq (by decide : ¬ ((1 : Int32) = (0 : Int32)))).1) ?_
    show oS p e below T1 m 7 #[.val (.ref o0), .val (.int p1), .val (.int 0)] [] _
    refine XS.aloadN X1.here hx rfl (hb hby d20_7) rfl rfl ?_
    show oS p e below T1 m 8 #[.val (.ref o0), .val (.int p1), .val (.int 0)] [(.ref o0)] _
    refine st2 _ ?_
    show oS p e below T2 m 11 #[.val (.ref o0), .val (.int p1), .val (.int 0)] [(.ref tA)] _
    refine XS.iloadN X2.here hx rfl (hb hby d20_11) rfl ?_
    show oS p e below T2 m 12 #[.val (.ref o0), .val (.int p1), .val (.int 0)] [(.int p1), (.ref tA)] _
    refine XS.iloadN X2.here hx rfl (hb hby d20_12) rfl ?_
    show oS p e below T2 m 13 #[.val (.ref o0), .val (.int p1), .val (.int 0)] [(.int 0), (.int p1), (.ref tA)] _
    refine XS.aloadN X2.here hx rfl (hb hby d20_13) rfl rfl ?_
    show oS p e below T2 m 14 #[.val (.ref o0), .val (.int p1), .val (.int 0)] [(.ref o0), (.int 0), (.int p1), (.ref tA)] _
    refine st3.trans ?_
    show oS p e below T3 m 17 #[.val (.ref o0), .val (.int p1), .val (.int 0)] [(.int (Int32.ofNat A.length)), (.int 0), (.int p1), (.ref tA)] _
    refine st4 _ ?_
    show oS p e below T4 m 20 #[.val (.ref o0), .val (.int p1), .val (.int 0)] [(.int (own_find A (p1.toInt8.toInt32) 0))] _
    refine XS.goto X4.here hx rfl (pc0 := 20) (pc' := 36) rfl (hb hby d20_20) (by decide) (by decide) ?_
    show oS p e below T4 m 36 #[.val (.ref o0), .val (.int p1), .val (.int 0)] [(.int (own_find A (p1.toInt8.toInt32) 0))] _
    exact retI X4 hx Bd.returns (hb hby d20_36) hr
  · show own_Q (.int (own_find A (p1.toInt8.toInt32) 0)) h0 n0 _ T4.heap _
    rw [e4]
    exact ⟨rfl, N4, rfl⟩
theorem d19_0 : decode jdk_42_method_79_code 0 = .ok (.aload_n 0, 1) := by decide +kernel
theorem d19_1 : decode jdk_42_method_79_code 1 = .ok (.iload_n 1, 1) := by decide +kernel
theorem d19_2 : decode jdk_42_method_79_code 2 = .ok (.iconst 0, 1) := by decide +kernel
theorem d19_3 : decode jdk_42_method_79_code 3 = .ok (.invokevirtual 633, 3) := by decide +kernel
theorem d19_6 : decode jdk_42_method_79_code 6 = .ok (.ireturn, 1) := by decide +kernel
theorem ef_19 (m : MethodId) (x0 : Addr) (x1 : Int32) : entryFrame m #[(.ref x0), (.int x1)] 2 = mkF m 0 #[.val (.ref x0), .val (.int x1)] [] := by first | (simp [entryFrame, mkF, argsToLocals, Value.category]; done) | rfl
theorem pn_19 : plainName "java/lang/String" = true := by first | (simp [plainName, overriddenIn]; done) | decide +kernel
set_option maxRecDepth 65536 in
set_option maxHeartbeats 40000000 in
theorem rmIx (l : Launch) (Z : State) (a0 : Array Value) (hw : ∀ d ∈ tables_1, d.before a0 Z = true) (ws : List Jvm.Cond) (o0 : Addr) (p1 : Int32) (A : List Int32) (tA : Addr) (kA : ClassId) (zc : Int32) (h0 : Heap) (n0 : Nat) (O0 : Old Z n0 h0) (F_value_o0 : Fld Z h0 o0 "java/lang/String" "value" "[B" (.ref tA)) (F_coder_o0 : Fld Z h0 o0 "java/lang/String" "coder" "B" (.int 0)) (V_tA : Arv Z h0 tA kA .byte (Int32.ofNat A.length) (A.map Value.int) (.int 0)) (S_COMPACT_STRINGS : Sta Z Z.heap "java/lang/String" "COMPACT_STRINGS" "Z" (.int zc)) (hzc : ¬ zc = 0) (E_o0 : Exa Z h0 o0 "java/lang/String") (hA : A.length ≤ 4000) (hpos : (0 : Int32) < (Int32.ofNat A.length)) (hp1 : ¬ p1 < (0 : Int32) ∧ ¬ (255 : Int32) < p1) :
    oM l Z (⟨"java/lang/String", "indexOf", "(I)I"⟩ : MethodName) jdk_42_method_79_code 2 (some .int) ws ({ frames := 3, cells := 0, slots := 0, locals := 46 } : Room) #[(.ref o0), (.int p1)] h0 (own_Q (.int (own_find A (p1.toInt8.toInt32) 0)) h0 n0) := by
  refine MetFree.of_bodySF (plainFor_of_name pn_19) hisR ?_
  intro p e s m args below meth c s₁ Bd hml0 hP hK
  obtain ⟨rfl, hZ, hh⟩ := hP
  have hx := Bd.exec
  have hby := Bd.bytes
  have hml : c.maxLocals = 2 := hml0
  have hown : s.vm.findClass "java/lang/String" = some m.cls := findClass_of_methodNamed Bd.named
  have hnm := (name_of_methodNamed Bd.named Bd.method).1
  have X0 : Stand p l e ({ frames := 3, cells := 0, slots := 0, locals := 46 } : Room) s m #[(.ref o0), (.int p1)] below meth c s₁ [] 0 0 := Stand.of_body Bd
  have e0 : s₁.heap = h0 := by rw [← hh, Bd.state]; rfl
  have N0 := Fr.nil n0
  have pre0 : ∀ t, Steps p.tables e below (s₁.setTop (mkF m 0 #[.val (.ref o0), .val (.int p1)] [])) t → Steps p.tables e below (s₁.setTop (entryFrame m #[(.ref o0), (.int p1)] 2)) t := fun t k => castTop (ef_19 m o0 p1) k
  obtain ⟨cq1, kq1, q1a, q1b, q1c⟩ := isOf hZ e0 E_o0
  obtain ⟨_, _, ⟨T1, L1, k1, n1⟩, -, X1, ⟨Lc1, hQ1, l1, y1, z1⟩, st1⟩ := X0.virtualBack hx (y := (⟨"java/lang/String", "indexOf", "(II)I"⟩ : MethodName)) (z := (⟨"java/lang/String", "indexOf", "(II)I"⟩ : MethodName)) hown (mvT hZ (own_w hw 90 rfl)) (mvT hZ (own_w hw 91 rfl)) (notFace_of_selects (args := #[]) (mvT hZ (own_w hw 93 rfl))) (mvT hZ (own_w hw 93 rfl)) (mvT hZ (own_w hw 92 rfl)) (by decide) (backOf (W := 0) (rmI3 l Z a0 hw [] o0 p1 A tA kA zc h0 n0 O0 F_value_o0 F_coder_o0 V_tA S_COMPACT_STRINGS hzc E_o0 hA hpos hp1) hZ (own_w hw 94 rfl) (own_w hw 11 rfl) (by decide) (by decide)) q1a q1c (g := (mkF m 3 #[.val (.ref o0), .val (.int p1)] [(.int 0), (.int p1), (.ref o0)])) rfl (by rw [hml]; rfl) (Steps.refl _) (argsL := [(.int p1), (.int 0)]) (rest := []) (lenOf pd_2 rfl) rfl (by show 2 * 0 + _ ≤ _; exact Nat.le_of_eq rfl) (hb hby d19_3) (fun _ _ => ⟨rfl, e0, (by decide : 0 + 0 ≤ _), (by decide : 0 + 0 ≤ _)⟩)
  dsimp only [Pt.U, Pt.locs, Pt.cells, Pt.slots] at X1 l1 y1 z1 st1 hQ1
  subst l1 y1 z1
  obtain ⟨rfl, N1q, e1⟩ := hQ1
  have N1 := Fr.app N0 N1q
  obtain ⟨fs, hr, hrun, hended, hW, hsame⟩ := X1.leave (v := some (.int (own_find A (p1.toInt8.toInt32) 0))) (fun h => by rw [Bd.returns] at h; cases h)
  refine ⟨_, _, pre0 _ ?_, hrun, hended, _, _, rfl, ?_, ⟨_, rfl⟩, hW, hsame.mono (by decide) (by decide)⟩
  · show oS p e below s₁ m 0 #[.val (.ref o0), .val (.int p1)] [] _
    refine XS.aloadN X0.here hx rfl (hb hby d19_0) rfl rfl ?_
    show oS p e below s₁ m 1 #[.val (.ref o0), .val (.int p1)] [(.ref o0)] _
    refine XS.iloadN X0.here hx rfl (hb hby d19_1) rfl ?_
    show oS p e below s₁ m 2 #[.val (.ref o0), .val (.int p1)] [(.int p1), (.ref o0)] _
    refine XS.iconst X0.here hx rfl (hb hby d19_2) ?_
    show oS p e below s₁ m 3 #[.val (.ref o0), .val (.int p1)] [(.int 0), (.int p1), (.ref o0)] _
    refine st1.trans ?_
    show oS p e below T1 m 6 #[.val (.ref o0), .val (.int p1)] [(.int (own_find A (p1.toInt8.toInt32) 0))] _
    exact retI X1 hx Bd.returns (hb hby d19_6) hr
  · show own_Q (.int (own_find A (p1.toInt8.toInt32) 0)) h0 n0 _ T1.heap _
    rw [e1]
    exact ⟨rfl, N1, rfl⟩
def own_c (i s x y : Int32) : Int32 := nar .char (if i = s then x else y)
abbrev own_d (i s x y : Int32) : Int32 := nar .char (own_c i s x y)
def own_cs (n : Nat) (s x y : Int32) : List Int32 := (List.range n).map (fun i => own_d (Int32.ofNat i) s x y)
def own_ok (c : Int32) : Int32 := if ¬ c < 65 ∧ ¬ 90 < c then 1 else if ¬ c < 97 ∧ ¬ 122 < c then 1 else if ¬ c < 48 ∧ ¬ 57 < c then 1 else if c = 45 then 1 else if c = 95 then 1 else 0
theorem own_reg (c a b : Int32) : (¬ c < a ∧ ¬ b < c) ∨ (c < a ∨ (¬ c < a ∧ b < c)) := by
  by_cases h : c < a
  · exact Or.inr (Or.inl h)
  · by_cases q : b < c
    · exact Or.inr (Or.inr ⟨h, q⟩)
    · exact Or.inl ⟨h, q⟩
theorem own_nreg {c a b : Int32} (h : c < a ∨ (¬ c < a ∧ b < c)) : ¬ (¬ c < a ∧ ¬ b < c) := by
  rcases h with h | h
  · exact fun q => q.1 h
  · exact fun q => q.2 h.2
theorem d3_0 : decode method_3_code 0 = .ok (.iload_n 0, 1) := by decide +kernel
theorem d3_1 : decode method_3_code 1 = .ok (.iload_n 1, 1) := by decide +kernel
theorem d3_2 : decode method_3_code 2 = .ok (.if_icmp .ne 7, 3) := by decide +kernel
theorem d3_5 : decode method_3_code 5 = .ok (.iload_n 2, 1) := by decide +kernel
theorem d3_6 : decode method_3_code 6 = .ok (.goto 4, 3) := by decide +kernel
theorem d3_10 : decode method_3_code 10 = .ok (.ireturn, 1) := by decide +kernel
theorem ef_3 (m : MethodId) (x0 : Int32) (x1 : Int32) (x2 : Int32) (x3 : Int32) : entryFrame m #[(.int x0), (.int x1), (.int x2), (.int x3)] 4 = mkF m 0 #[.val (.int x0), .val (.int x1), .val (.int x2), .val (.int x3)] [] := by first | (simp [entryFrame, mkF, argsToLocals, Value.category]; done) | rfl
theorem pn_3 : plainName "com/example/dispensd/dispensd/IdentifierIsValidPinLaw" = true := by first | (simp [plainName, overriddenIn]; done) | decide +kernel
set_option maxRecDepth 65536 in
set_option maxHeartbeats 40000000 in
theorem rmAtE (l : Launch) (Z : State) (a0 : Array Value) (hw : ∀ d ∈ tables_1, d.before a0 Z = true) (ws : List Jvm.Cond) (p0 : Int32) (p1 : Int32) (p2 : Int32) (p3 : Int32) (h0 : Heap) (n0 : Nat) (O0 : Old Z n0 h0) (hc2 : p0 = p1) :
    oM l Z (⟨"com/example/dispensd/dispensd/IdentifierIsValidPinLaw", "at", "(IICC)C"⟩ : MethodName) method_3_code 4 (some .char) ws ({ frames := 0, cells := 0, slots := 0, locals := 0 } : Room) #[(.int p0), (.int p1), (.int p2), (.int p3)] h0 (own_Q (.int (nar .char p2)) h0 n0) := by
  refine MetFree.of_bodySF (plainFor_of_name pn_3) hisR ?_
  intro p e s m args below meth c s₁ Bd hml0 hP hK
  obtain ⟨rfl, hZ, hh⟩ := hP
  have hx := Bd.exec
  have hby := Bd.bytes
  have hml : c.maxLocals = 4 := hml0
  have hown : s.vm.findClass "com/example/dispensd/dispensd/IdentifierIsValidPinLaw" = some m.cls := findClass_of_methodNamed Bd.named
  have hnm := (name_of_methodNamed Bd.named Bd.method).1
  have X0 : Stand p l e ({ frames := 0, cells := 0, slots := 0, locals := 0 } : Room) s m #[(.int p0), (.int p1), (.int p2), (.int p3)] below meth c s₁ [] 0 0 := Stand.of_body Bd
  have e0 : s₁.heap = h0 := by rw [← hh, Bd.state]; rfl
  have N0 := Fr.nil n0
  have pre0 : ∀ t, Steps p.tables e below (s₁.setTop (mkF m 0 #[.val (.int p0), .val (.int p1), .val (.int p2), .val (.int p3)] [])) t → Steps p.tables e below (s₁.setTop (entryFrame m #[(.int p0), (.int p1), (.int p2), (.int p3)] 4)) t := fun t k => castTop (ef_3 m p0 p1 p2 p3) k
  obtain ⟨fs, hr, hrun, hended, hW, hsame⟩ := X0.leave (v := some (.int (nar .char p2))) (fun h => by rw [Bd.returns] at h; cases h)
  refine ⟨_, _, pre0 _ ?_, hrun, hended, _, _, rfl, ?_, ⟨_, rfl⟩, hW, hsame.mono (by decide) (by decide)⟩
  · show oS p e below s₁ m 0 #[.val (.int p0), .val (.int p1), .val (.int p2), .val (.int p3)] [] _
    refine XS.iloadN X0.here hx rfl (hb hby d3_0) rfl ?_
    show oS p e below s₁ m 1 #[.val (.int p0), .val (.int p1), .val (.int p2), .val (.int p3)] [(.int p0)] _
    refine XS.iloadN X0.here hx rfl (hb hby d3_1) rfl ?_
    show oS p e below s₁ m 2 #[.val (.int p0), .val (.int p1), .val (.int p2), .val (.int p3)] [(.int p1), (.int p0)] _
    refine XS.icmpNo X0.here hx rfl (hb hby d3_2) rfl (teq hc2).2 ?_
    show oS p e below s₁ m 5 #[.val (.int p0), .val (.int p1), .val (.int p2), .val (.int p3)] [] _
    refine XS.iloadN X0.here hx rfl (hb hby d3_5) rfl ?_
    show oS p e below s₁ m 6 #[.val (.int p0), .val (.int p1), .val (.int p2), .val (.int p3)] [(.int p2)] _
    refine XS.goto X0.here hx rfl (pc0 := 6) (pc' := 10) rfl (hb hby d3_6) (by decide) (by decide) ?_
    show oS p e below s₁ m 10 #[.val (.int p0), .val (.int p1), .val (.int p2), .val (.int p3)] [(.int p2)] _
    exact retN X0 hx (t := .char) Bd.returns (by simp) (hb hby d3_10) hr
  · show own_Q (.int (nar .char p2)) h0 n0 _ s₁.heap _
    rw [e0]
    exact ⟨rfl, N0, rfl⟩
theorem d3_9 : decode method_3_code 9 = .ok (.iload_n 3, 1) := by decide +kernel
set_option maxRecDepth 65536 in
set_option maxHeartbeats 40000000 in
theorem rmAtN (l : Launch) (Z : State) (a0 : Array Value) (hw : ∀ d ∈ tables_1, d.before a0 Z = true) (ws : List Jvm.Cond) (p0 : Int32) (p1 : Int32) (p2 : Int32) (p3 : Int32) (h0 : Heap) (n0 : Nat) (O0 : Old Z n0 h0) (hc2 : ¬ (p0 = p1)) :
    oM l Z (⟨"com/example/dispensd/dispensd/IdentifierIsValidPinLaw", "at", "(IICC)C"⟩ : MethodName) method_3_code 4 (some .char) ws ({ frames := 0, cells := 0, slots := 0, locals := 0 } : Room) #[(.int p0), (.int p1), (.int p2), (.int p3)] h0 (own_Q (.int (nar .char p3)) h0 n0) := by
  refine MetFree.of_bodySF (plainFor_of_name pn_3) hisR ?_
  intro p e s m args below meth c s₁ Bd hml0 hP hK
  obtain ⟨rfl, hZ, hh⟩ := hP
  have hx := Bd.exec
  have hby := Bd.bytes
  have hml : c.maxLocals = 4 := hml0
  have hown : s.vm.findClass "com/example/dispensd/dispensd/IdentifierIsValidPinLaw" = some m.cls := findClass_of_methodNamed Bd.named
  have hnm := (name_of_methodNamed Bd.named Bd.method).1
  have X0 : Stand p l e ({ frames := 0, cells := 0, slots := 0, locals := 0 } : Room) s m #[(.int p0), (.int p1), (.int p2), (.int p3)] below meth c s₁ [] 0 0 := Stand.of_body Bd
  have e0 : s₁.heap = h0 := by rw [← hh, Bd.state]; rfl
  have N0 := Fr.nil n0
  have pre0 : ∀ t, Steps p.tables e below (s₁.setTop (mkF m 0 #[.val (.int p0), .val (.int p1), .val (.int p2), .val (.int p3)] [])) t → Steps p.tables e below (s₁.setTop (entryFrame m #[(.int p0), (.int p1), (.int p2), (.int p3)] 4)) t := fun t k => castTop (ef_3 m p0 p1 p2 p3) k
  obtain ⟨fs, hr, hrun, hended, hW, hsame⟩ := X0.leave (v := some (.int (nar .char p3))) (fun h => by rw [Bd.returns] at h; cases h)
  refine ⟨_, _, pre0 _ ?_, hrun, hended, _, _, rfl, ?_, ⟨_, rfl⟩, hW, hsame.mono (by decide) (by decide)⟩
  · show oS p e below s₁ m 0 #[.val (.int p0), .val (.int p1), .val (.int p2), .val (.int p3)] [] _
    refine XS.iloadN X0.here hx rfl (hb hby d3_0) rfl ?_
    show oS p e below s₁ m 1 #[.val (.int p0), .val (.int p1), .val (.int p2), .val (.int p3)] [(.int p0)] _
    refine XS.iloadN X0.here hx rfl (hb hby d3_1) rfl ?_
    show oS p e below s₁ m 2 #[.val (.int p0), .val (.int p1), .val (.int p2), .val (.int p3)] [(.int p1), (.int p0)] _
    refine XS.icmpYes X0.here hx rfl (pc0 := 2) (pc' := 9) rfl (hb hby d3_2) rfl (feq hc2).2 (by decide) (by decide) ?_
    show oS p e below s₁ m 9 #[.val (.int p0), .val (.int p1), .val (.int p2), .val (.int p3)] [] _
    refine XS.iloadN X0.here hx rfl (hb hby d3_9) rfl ?_
    show oS p e below s₁ m 10 #[.val (.int p0), .val (.int p1), .val (.int p2), .val (.int p3)] [(.int p3)] _
    exact retN X0 hx (t := .char) Bd.returns (by simp) (hb hby d3_10) hr
  · show own_Q (.int (nar .char p3)) h0 n0 _ s₁.heap _
    rw [e0]
    exact ⟨rfl, N0, rfl⟩
theorem rmAt (l : Launch) (Z : State) (a0 : Array Value) (hw : ∀ d ∈ tables_1, d.before a0 Z = true) (ws : List Jvm.Cond) (p0 p1 p2 p3 : Int32) (h0 : Heap) (n0 : Nat) (O0 : Old Z n0 h0) : MetFree l (⟨"com/example/dispensd/dispensd/IdentifierIsValidPinLaw", "at", "(IICC)C"⟩ : MethodName) (head1 (Jvm.Cond.code (⟨"com/example/dispensd/dispensd/IdentifierIsValidPinLaw", "at", "(IICC)C"⟩ : MethodName) method_3_code 4 (some .char) :: ws) ({ frames := 0, cells := 0, slots := 0, locals := 0 } : Room)) (fun a U => a = #[(.int p0), (.int p1), (.int p2), (.int p3)] ∧ Z.Warmed39 U.vm ∧ U.heap = h0) (fun _ _ _ _ _ => True) (fun _ U o U' => ∃ v L, o = .returned v ∧ own_Q (.int (own_c p0 p1 p2 p3)) h0 n0 v U'.heap L ∧ FrameEnd U o U' L ({ frames := 0, cells := 0, slots := 0, locals := 0 } : Room).cells ({ frames := 0, cells := 0, slots := 0, locals := 0 } : Room).slots) := by
  by_cases h : p0 = p1
  · rw [show own_c p0 p1 p2 p3 = nar .char p2 from by simp [own_c, h]]
    exact rmAtE l Z a0 hw ws p0 p1 p2 p3 h0 n0 O0 h
  · rw [show own_c p0 p1 p2 p3 = nar .char p3 from by simp [own_c, h]]
    exact rmAtN l Z a0 hw ws p0 p1 p2 p3 h0 n0 O0 h
theorem d10_0 : decode method_2_code 0 = .ok (.iload_n 0, 1) := by decide +kernel
theorem d10_1 : decode method_2_code 1 = .ok (.bipush 65, 2) := by decide +kernel
theorem d10_3 : decode method_2_code 3 = .ok (.if_icmp .lt 11, 3) := by decide +kernel
theorem d10_6 : decode method_2_code 6 = .ok (.iload_n 0, 1) := by decide +kernel
theorem d10_7 : decode method_2_code 7 = .ok (.bipush 90, 2) := by decide +kernel
theorem d10_9 : decode method_2_code 9 = .ok (.if_icmp .gt 5, 3) := by decide +kernel
theorem d10_12 : decode method_2_code 12 = .ok (.iconst 1, 1) := by decide +kernel
theorem d10_13 : decode method_2_code 13 = .ok (.ireturn, 1) := by decide +kernel
theorem ef_10 (m : MethodId) (x0 : Int32) : entryFrame m #[(.int x0)] 1 = mkF m 0 #[.val (.int x0)] [] := by first | (simp [entryFrame, mkF, argsToLocals, Value.category]; done) | rfl
theorem pn_10 : plainName "com/example/dispensd/dispensd/IdentifierIsValidPinLaw" = true := by first | (simp [plainName, overriddenIn]; done) | decide +kernel
set_option maxRecDepth 65536 in
set_option maxHeartbeats 40000000 in
theorem rmOk0 (l : Launch) (Z : State) (a0 : Array Value) (hw : ∀ d ∈ tables_1, d.before a0 Z = true) (ws : List Jvm.Cond) (p0 : Int32) (h0 : Heap) (n0 : Nat) (O0 : Old Z n0 h0) (hc3 : ¬ (p0 < (65 : Int32))) (hc9 : ¬ ((90 : Int32) < p0)) :
    oM l Z (⟨"com/example/dispensd/dispensd/IdentifierIsValidPinLaw", "ok", "(C)Z"⟩ : MethodName) method_2_code 1 (some .boolean) ws ({ frames := 0, cells := 0, slots := 0, locals := 0 } : Room) #[(.int p0)] h0 (own_Q (.int 1) h0 n0) := by
  refine MetFree.of_bodySF (plainFor_of_name pn_10) hisR ?_
  intro p e s m args below meth c s₁ Bd hml0 hP hK
  obtain ⟨rfl, hZ, hh⟩ := hP
  have hx := Bd.exec
  have hby := Bd.bytes
  have hml : c.maxLocals = 1 := hml0
  have hown : s.vm.findClass "com/example/dispensd/dispensd/IdentifierIsValidPinLaw" = some m.cls := findClass_of_methodNamed Bd.named
  have hnm := (name_of_methodNamed Bd.named Bd.method).1
  have X0 : Stand p l e ({ frames := 0, cells := 0, slots := 0, locals := 0 } : Room) s m #[(.int p0)] below meth c s₁ [] 0 0 := Stand.of_body Bd
  have e0 : s₁.heap = h0 := by rw [← hh, Bd.state]; rfl
  have N0 := Fr.nil n0
  have pre0 : ∀ t, Steps p.tables e below (s₁.setTop (mkF m 0 #[.val (.int p0)] [])) t → Steps p.tables e below (s₁.setTop (entryFrame m #[(.int p0)] 1)) t := fun t k => castTop (ef_10 m p0) k
  obtain ⟨fs, hr, hrun, hended, hW, hsame⟩ := X0.leave (v := some (.int 1)) (fun h => by rw [Bd.returns] at h; cases h)
  refine ⟨_, _, pre0 _ ?_, hrun, hended, _, _, rfl, ?_, ⟨_, rfl⟩, hW, hsame.mono (by decide) (by decide)⟩
  · show oS p e below s₁ m 0 #[.val (.int p0)] [] _
    refine XS.iloadN X0.here hx rfl (hb hby d10_0) rfl ?_
    show oS p e below s₁ m 1 #[.val (.int p0)] [(.int p0)] _
    refine XS.bipush X0.here hx rfl (hb hby d10_1) ?_
    show oS p e below s₁ m 3 #[.val (.int p0)] [(.int 65), (.int p0)] _
    refine XS.icmpNo X0.here hx rfl (hb hby d10_3) rfl (flt hc3).1 ?_
    show oS p e below s₁ m 6 #[.val (.int p0)] [] _
    refine XS.iloadN X0.here hx rfl (hb hby d10_6) rfl ?_
    show oS p e below s₁ m 7 #[.val (.int p0)] [(.int p0)] _
    refine XS.bipush X0.here hx rfl (hb hby d10_7) ?_
    show oS p e below s₁ m 9 #[.val (.int p0)] [(.int 90), (.int p0)] _
    refine XS.icmpNo X0.here hx rfl (hb hby d10_9) rfl (flt hc9).2.2.1 ?_
    show oS p e below s₁ m 12 #[.val (.int p0)] [] _
    refine XS.iconst X0.here hx rfl (hb hby d10_12) ?_
    show oS p e below s₁ m 13 #[.val (.int p0)] [(.int 1)] _
    exact retN X0 hx (t := .boolean) Bd.returns (by simp) (hb hby d10_13) hr
  · show own_Q (.int 1) h0 n0 _ s₁.heap _
    rw [e0]
    exact ⟨rfl, N0, rfl⟩
theorem d10_14 : decode method_2_code 14 = .ok (.iload_n 0, 1) := by decide +kernel
theorem d10_15 : decode method_2_code 15 = .ok (.bipush 97, 2) := by decide +kernel
theorem d10_17 : decode method_2_code 17 = .ok (.if_icmp .lt 11, 3) := by decide +kernel
theorem d10_20 : decode method_2_code 20 = .ok (.iload_n 0, 1) := by decide +kernel
theorem d10_21 : decode method_2_code 21 = .ok (.bipush 122, 2) := by decide +kernel
theorem d10_23 : decode method_2_code 23 = .ok (.if_icmp .gt 5, 3) := by decide +kernel
theorem d10_26 : decode method_2_code 26 = .ok (.iconst 1, 1) := by decide +kernel
theorem d10_27 : decode method_2_code 27 = .ok (.ireturn, 1) := by decide +kernel
set_option maxRecDepth 65536 in
set_option maxHeartbeats 40000000 in
theorem rmOk1 (l : Launch) (Z : State) (a0 : Array Value) (hw : ∀ d ∈ tables_1, d.before a0 Z = true) (ws : List Jvm.Cond) (p0 : Int32) (h0 : Heap) (n0 : Nat) (O0 : Old Z n0 h0) (z0 : p0 < (65 : Int32) ∨ (¬ p0 < (65 : Int32) ∧ (90 : Int32) < p0)) (hc17 : ¬ (p0 < (97 : Int32))) (hc23 : ¬ ((122 : Int32) < p0)) :
    oM l Z (⟨"com/example/dispensd/dispensd/IdentifierIsValidPinLaw", "ok", "(C)Z"⟩ : MethodName) method_2_code 1 (some .boolean) ws ({ frames := 0, cells := 0, slots := 0, locals := 0 } : Room) #[(.int p0)] h0 (own_Q (.int 1) h0 n0) := by
  refine MetFree.of_bodySF (plainFor_of_name pn_10) hisR ?_
  intro p e s m args below meth c s₁ Bd hml0 hP hK
  obtain ⟨rfl, hZ, hh⟩ := hP
  have hx := Bd.exec
  have hby := Bd.bytes
  have hml : c.maxLocals = 1 := hml0
  have hown : s.vm.findClass "com/example/dispensd/dispensd/IdentifierIsValidPinLaw" = some m.cls := findClass_of_methodNamed Bd.named
  have hnm := (name_of_methodNamed Bd.named Bd.method).1
  have X0 : Stand p l e ({ frames := 0, cells := 0, slots := 0, locals := 0 } : Room) s m #[(.int p0)] below meth c s₁ [] 0 0 := Stand.of_body Bd
  have e0 : s₁.heap = h0 := by rw [← hh, Bd.state]; rfl
  have N0 := Fr.nil n0
  have pre0 : ∀ t, Steps p.tables e below (s₁.setTop (mkF m 0 #[.val (.int p0)] [])) t → Steps p.tables e below (s₁.setTop (entryFrame m #[(.int p0)] 1)) t := fun t k => castTop (ef_10 m p0) k
  have fk1 : ∀ target, Steps p.tables e below (s₁.setTop (mkF m 14 #[.val (.int p0)] [])) target → Steps p.tables e below (s₁.setTop (mkF m 0 #[.val (.int p0)] [])) target := by
    intro target kt
    rcases z0 with z | ⟨z, zz⟩
    · show oS p e below s₁ m 0 #[.val (.int p0)] [] _
      refine XS.iloadN X0.here hx rfl (hb hby d10_0) rfl ?_
      show oS p e below s₁ m 1 #[.val (.int p0)] [(.int p0)] _
      refine XS.bipush X0.here hx rfl (hb hby d10_1) ?_
      show oS p e below s₁ m 3 #[.val (.int p0)] [(.int 65), (.int p0)] _
      refine XS.icmpYes X0.here hx rfl (pc0 := 3) (pc' := 14) rfl (hb hby d10_3) rfl (tlt z).1 (by decide) (by decide) ?_
      show oS p e below s₁ m 14 #[.val (.int p0)] [] _
      exact kt
    · show oS p e below s₁ m 0 #[.val (.int p0)] [] _
      refine XS.iloadN X0.here hx rfl (hb hby d10_0) rfl ?_
      show oS p e below s₁ m 1 #[.val (.int p0)] [(.int p0)] _
      refine XS.bipush X0.here hx rfl (hb hby d10_1) ?_
      show oS p e below s₁ m 3 #[.val (.int p0)] [(.int 65), (.int p0)] _
      refine XS.icmpNo X0.here hx rfl (hb hby d10_3) rfl (flt z).1 ?_
      show oS p e below s₁ m 6 #[.val (.int p0)] [] _
      refine XS.iloadN X0.here hx rfl (hb hby d10_6) rfl ?_
      show oS p e below s₁ m 7 #[.val (.int p0)] [(.int p0)] _
      refine XS.bipush X0.here hx rfl (hb hby d10_7) ?_
      show oS p e below s₁ m 9 #[.val (.int p0)] [(.int 90), (.int p0)] _
      refine XS.icmpYes X0.here hx rfl (pc0 := 9) (pc' := 14) rfl (hb hby d10_9) rfl (tlt zz).2.2.1 (by decide) (by decide) ?_
      show oS p e below s₁ m 14 #[.val (.int p0)] [] _
      exact kt
  obtain ⟨fs, hr, hrun, hended, hW, hsame⟩ := X0.leave (v := some (.int 1)) (fun h => by rw [Bd.returns] at h; cases h)
  refine ⟨_, _, pre0 _ ?_, hrun, hended, _, _, rfl, ?_, ⟨_, rfl⟩, hW, hsame.mono (by decide) (by decide)⟩
  · show oS p e below s₁ m 0 #[.val (.int p0)] [] _
    refine fk1 _ ?_
    show oS p e below s₁ m 14 #[.val (.int p0)] [] _
    refine XS.iloadN X0.here hx rfl (hb hby d10_14) rfl ?_
    show oS p e below s₁ m 15 #[.val (.int p0)] [(.int p0)] _
    refine XS.bipush X0.here hx rfl (hb hby d10_15) ?_
    show oS p e below s₁ m 17 #[.val (.int p0)] [(.int 97), (.int p0)] _
    refine XS.icmpNo X0.here hx rfl (hb hby d10_17) rfl (flt hc17).1 ?_
    show oS p e below s₁ m 20 #[.val (.int p0)] [] _
    refine XS.iloadN X0.here hx rfl (hb hby d10_20) rfl ?_
    show oS p e below s₁ m 21 #[.val (.int p0)] [(.int p0)] _
    refine XS.bipush X0.here hx rfl (hb hby d10_21) ?_
    show oS p e below s₁ m 23 #[.val (.int p0)] [(.int 122), (.int p0)] _
    refine XS.icmpNo X0.here hx rfl (hb hby d10_23) rfl (flt hc23).2.2.1 ?_
    show oS p e below s₁ m 26 #[.val (.int p0)] [] _
    refine XS.iconst X0.here hx rfl (hb hby d10_26) ?_
    show oS p e below s₁ m 27 #[.val (.int p0)] [(.int 1)] _
    exact retN X0 hx (t := .boolean) Bd.returns (by simp) (hb hby d10_27) hr
  · show own_Q (.int 1) h0 n0 _ s₁.heap _
    rw [e0]
    exact ⟨rfl, N0, rfl⟩
theorem d10_28 : decode method_2_code 28 = .ok (.iload_n 0, 1) := by decide +kernel
theorem d10_29 : decode method_2_code 29 = .ok (.bipush 48, 2) := by decide +kernel
theorem d10_31 : decode method_2_code 31 = .ok (.if_icmp .lt 11, 3) := by decide +kernel
theorem d10_34 : decode method_2_code 34 = .ok (.iload_n 0, 1) := by decide +kernel
theorem d10_35 : decode method_2_code 35 = .ok (.bipush 57, 2) := by decide +kernel
theorem d10_37 : decode method_2_code 37 = .ok (.if_icmp .gt 5, 3) := by decide +kernel
theorem d10_40 : decode method_2_code 40 = .ok (.iconst 1, 1) := by decide +kernel
theorem d10_41 : decode method_2_code 41 = .ok (.ireturn, 1) := by decide +kernel
set_option maxRecDepth 65536 in
set_option maxHeartbeats 40000000 in
theorem rmOk2 (l : Launch) (Z : State) (a0 : Array Value) (hw : ∀ d ∈ tables_1, d.before a0 Z = true) (ws : List Jvm.Cond) (p0 : Int32) (h0 : Heap) (n0 : Nat) (O0 : Old Z n0 h0) (z0 : p0 < (65 : Int32) ∨ (¬ p0 < (65 : Int32) ∧ (90 : Int32) < p0)) (z1 : p0 < (97 : Int32) ∨ (¬ p0 < (97 : Int32) ∧ (122 : Int32) < p0)) (hc31 : ¬ (p0 < (48 : Int32))) (hc37 : ¬ ((57 : Int32) < p0)) :
    oM l Z (⟨"com/example/dispensd/dispensd/IdentifierIsValidPinLaw", "ok", "(C)Z"⟩ : MethodName) method_2_code 1 (some .boolean) ws ({ frames := 0, cells := 0, slots := 0, locals := 0 } : Room) #[(.int p0)] h0 (own_Q (.int 1) h0 n0) := by
  refine MetFree.of_bodySF (plainFor_of_name pn_10) hisR ?_
  intro p e s m args below meth c s₁ Bd hml0 hP hK
  obtain ⟨rfl, hZ, hh⟩ := hP
  have hx := Bd.exec
  have hby := Bd.bytes
  have hml : c.maxLocals = 1 := hml0
  have hown : s.vm.findClass "com/example/dispensd/dispensd/IdentifierIsValidPinLaw" = some m.cls := findClass_of_methodNamed Bd.named
  have hnm := (name_of_methodNamed Bd.named Bd.method).1
  have X0 : Stand p l e ({ frames := 0, cells := 0, slots := 0, locals := 0 } : Room) s m #[(.int p0)] below meth c s₁ [] 0 0 := Stand.of_body Bd
  have e0 : s₁.heap = h0 := by rw [← hh, Bd.state]; rfl
  have N0 := Fr.nil n0
  have pre0 : ∀ t, Steps p.tables e below (s₁.setTop (mkF m 0 #[.val (.int p0)] [])) t → Steps p.tables e below (s₁.setTop (entryFrame m #[(.int p0)] 1)) t := fun t k => castTop (ef_10 m p0) k
  have fk1 : ∀ target, Steps p.tables e below (s₁.setTop (mkF m 14 #[.val (.int p0)] [])) target → Steps p.tables e below (s₁.setTop (mkF m 0 #[.val (.int p0)] [])) target := by
    intro target kt
    rcases z0 with z | ⟨z, zz⟩
    · show oS p e below s₁ m 0 #[.val (.int p0)] [] _
      refine XS.iloadN X0.here hx rfl (hb hby d10_0) rfl ?_
      show oS p e below s₁ m 1 #[.val (.int p0)] [(.int p0)] _
      refine XS.bipush X0.here hx rfl (hb hby d10_1) ?_
      show oS p e below s₁ m 3 #[.val (.int p0)] [(.int 65), (.int p0)] _
      refine XS.icmpYes X0.here hx rfl (pc0 := 3) (pc' := 14) rfl (hb hby d10_3) rfl (tlt z).1 (by decide) (by decide) ?_
      show oS p e below s₁ m 14 #[.val (.int p0)] [] _
      exact kt
    · show oS p e below s₁ m 0 #[.val (.int p0)] [] _
      refine XS.iloadN X0.here hx rfl (hb hby d10_0) rfl ?_
      show oS p e below s₁ m 1 #[.val (.int p0)] [(.int p0)] _
      refine XS.bipush X0.here hx rfl (hb hby d10_1) ?_
      show oS p e below s₁ m 3 #[.val (.int p0)] [(.int 65), (.int p0)] _
      refine XS.icmpNo X0.here hx rfl (hb hby d10_3) rfl (flt z).1 ?_
      show oS p e below s₁ m 6 #[.val (.int p0)] [] _
      refine XS.iloadN X0.here hx rfl (hb hby d10_6) rfl ?_
      show oS p e below s₁ m 7 #[.val (.int p0)] [(.int p0)] _
      refine XS.bipush X0.here hx rfl (hb hby d10_7) ?_
      show oS p e below s₁ m 9 #[.val (.int p0)] [(.int 90), (.int p0)] _
      refine XS.icmpYes X0.here hx rfl (pc0 := 9) (pc' := 14) rfl (hb hby d10_9) rfl (tlt zz).2.2.1 (by decide) (by decide) ?_
      show oS p e below s₁ m 14 #[.val (.int p0)] [] _
      exact kt
  have fk2 : ∀ target, Steps p.tables e below (s₁.setTop (mkF m 28 #[.val (.int p0)] [])) target → Steps p.tables e below (s₁.setTop (mkF m 14 #[.val (.int p0)] [])) target := by
    intro target kt
    rcases z1 with z | ⟨z, zz⟩
    · show oS p e below s₁ m 14 #[.val (.int p0)] [] _
      refine XS.iloadN X0.here hx rfl (hb hby d10_14) rfl ?_
      show oS p e below s₁ m 15 #[.val (.int p0)] [(.int p0)] _
      refine XS.bipush X0.here hx rfl (hb hby d10_15) ?_
      show oS p e below s₁ m 17 #[.val (.int p0)] [(.int 97), (.int p0)] _
      refine XS.icmpYes X0.here hx rfl (pc0 := 17) (pc' := 28) rfl (hb hby d10_17) rfl (tlt z).1 (by decide) (by decide) ?_
      show oS p e below s₁ m 28 #[.val (.int p0)] [] _
      exact kt
    · show oS p e below s₁ m 14 #[.val (.int p0)] [] _
      refine XS.iloadN X0.here hx rfl (hb hby d10_14) rfl ?_
      show oS p e below s₁ m 15 #[.val (.int p0)] [(.int p0)] _
      refine XS.bipush X0.here hx rfl (hb hby d10_15) ?_
      show oS p e below s₁ m 17 #[.val (.int p0)] [(.int 97), (.int p0)] _
      refine XS.icmpNo X0.here hx rfl (hb hby d10_17) rfl (flt z).1 ?_
      show oS p e below s₁ m 20 #[.val (.int p0)] [] _
      refine XS.iloadN X0.here hx rfl (hb hby d10_20) rfl ?_
      show oS p e below s₁ m 21 #[.val (.int p0)] [(.int p0)] _
      refine XS.bipush X0.here hx rfl (hb hby d10_21) ?_
      show oS p e below s₁ m 23 #[.val (.int p0)] [(.int 122), (.int p0)] _
      refine XS.icmpYes X0.here hx rfl (pc0 := 23) (pc' := 28) rfl (hb hby d10_23) rfl (tlt zz).2.2.1 (by decide) (by decide) ?_
      show oS p e below s₁ m 28 #[.val (.int p0)] [] _
      exact kt
  obtain ⟨fs, hr, hrun, hended, hW, hsame⟩ := X0.leave (v := some (.int 1)) (fun h => by rw [Bd.returns] at h; cases h)
  refine ⟨_, _, pre0 _ ?_, hrun, hended, _, _, rfl, ?_, ⟨_, rfl⟩, hW, hsame.mono (by decide) (by decide)⟩
  · show oS p e below s₁ m 0 #[.val (.int p0)] [] _
    refine fk1 _ ?_
    show oS p e below s₁ m 14 #[.val (.int p0)] [] _
    refine fk2 _ ?_
    show oS p e below s₁ m 28 #[.val (.int p0)] [] _
    refine XS.iloadN X0.here hx rfl (hb hby d10_28) rfl ?_
    show oS p e below s₁ m 29 #[.val (.int p0)] [(.int p0)] _
    refine XS.bipush X0.here hx rfl (hb hby d10_29) ?_
    show oS p e below s₁ m 31 #[.val (.int p0)] [(.int 48), (.int p0)] _
    refine XS.icmpNo X0.here hx rfl (hb hby d10_31) rfl (flt hc31).1 ?_
    show oS p e below s₁ m 34 #[.val (.int p0)] [] _
    refine XS.iloadN X0.here hx rfl (hb hby d10_34) rfl ?_
    show oS p e below s₁ m 35 #[.val (.int p0)] [(.int p0)] _
    refine XS.bipush X0.here hx rfl (hb hby d10_35) ?_
    show oS p e below s₁ m 37 #[.val (.int p0)] [(.int 57), (.int p0)] _
    refine XS.icmpNo X0.here hx rfl (hb hby d10_37) rfl (flt hc37).2.2.1 ?_
    show oS p e below s₁ m 40 #[.val (.int p0)] [] _
    refine XS.iconst X0.here hx rfl (hb hby d10_40) ?_
    show oS p e below s₁ m 41 #[.val (.int p0)] [(.int 1)] _
    exact retN X0 hx (t := .boolean) Bd.returns (by simp) (hb hby d10_41) hr
  · show own_Q (.int 1) h0 n0 _ s₁.heap _
    rw [e0]
    exact ⟨rfl, N0, rfl⟩
theorem d10_42 : decode method_2_code 42 = .ok (.iload_n 0, 1) := by decide +kernel
theorem d10_43 : decode method_2_code 43 = .ok (.bipush 45, 2) := by decide +kernel
theorem d10_45 : decode method_2_code 45 = .ok (.if_icmp .eq 9, 3) := by decide +kernel
theorem d10_54 : decode method_2_code 54 = .ok (.iconst 1, 1) := by decide +kernel
theorem d10_55 : decode method_2_code 55 = .ok (.goto 4, 3) := by decide +kernel
theorem d10_59 : decode method_2_code 59 = .ok (.ireturn, 1) := by decide +kernel
set_option maxRecDepth 65536 in
set_option maxHeartbeats 40000000 in
theorem rmOk3 (l : Launch) (Z : State) (a0 : Array Value) (hw : ∀ d ∈ tables_1, d.before a0 Z = true) (ws : List Jvm.Cond) (p0 : Int32) (h0 : Heap) (n0 : Nat) (O0 : Old Z n0 h0) (z0 : p0 < (65 : Int32) ∨ (¬ p0 < (65 : Int32) ∧ (90 : Int32) < p0)) (z1 : p0 < (97 : Int32) ∨ (¬ p0 < (97 : Int32) ∧ (122 : Int32) < p0)) (z2 : p0 < (48 : Int32) ∨ (¬ p0 < (48 : Int32) ∧ (57 : Int32) < p0)) (hc45 : p0 = (45 : Int32)) :
    oM l Z (⟨"com/example/dispensd/dispensd/IdentifierIsValidPinLaw", "ok", "(C)Z"⟩ : MethodName) method_2_code 1 (some .boolean) ws ({ frames := 0, cells := 0, slots := 0, locals := 0 } : Room) #[(.int p0)] h0 (own_Q (.int 1) h0 n0) := by
  refine MetFree.of_bodySF (plainFor_of_name pn_10) hisR ?_
  intro p e s m args below meth c s₁ Bd hml0 hP hK
  obtain ⟨rfl, hZ, hh⟩ := hP
  have hx := Bd.exec
  have hby := Bd.bytes
  have hml : c.maxLocals = 1 := hml0
  have hown : s.vm.findClass "com/example/dispensd/dispensd/IdentifierIsValidPinLaw" = some m.cls := findClass_of_methodNamed Bd.named
  have hnm := (name_of_methodNamed Bd.named Bd.method).1
  have X0 : Stand p l e ({ frames := 0, cells := 0, slots := 0, locals := 0 } : Room) s m #[(.int p0)] below meth c s₁ [] 0 0 := Stand.of_body Bd
  have e0 : s₁.heap = h0 := by rw [← hh, Bd.state]; rfl
  have N0 := Fr.nil n0
  have pre0 : ∀ t, Steps p.tables e below (s₁.setTop (mkF m 0 #[.val (.int p0)] [])) t → Steps p.tables e below (s₁.setTop (entryFrame m #[(.int p0)] 1)) t := fun t k => castTop (ef_10 m p0) k
  have fk1 : ∀ target, Steps p.tables e below (s₁.setTop (mkF m 14 #[.val (.int p0)] [])) target → Steps p.tables e below (s₁.setTop (mkF m 0 #[.val (.int p0)] [])) target := by
    intro target kt
    rcases z0 with z | ⟨z, zz⟩
    · show oS p e below s₁ m 0 #[.val (.int p0)] [] _
      refine XS.iloadN X0.here hx rfl (hb hby d10_0) rfl ?_
      show oS p e below s₁ m 1 #[.val (.int p0)] [(.int p0)] _
      refine XS.bipush X0.here hx rfl (hb hby d10_1) ?_
      show oS p e below s₁ m 3 #[.val (.int p0)] [(.int 65), (.int p0)] _
      refine XS.icmpYes X0.here hx rfl (pc0 := 3) (pc' := 14) rfl (hb hby d10_3) rfl (tlt z).1 (by decide) (by decide) ?_
      show oS p e below s₁ m 14 #[.val (.int p0)] [] _
      exact kt
    · show oS p e below s₁ m 0 #[.val (.int p0)] [] _
      refine XS.iloadN X0.here hx rfl (hb hby d10_0) rfl ?_
      show oS p e below s₁ m 1 #[.val (.int p0)] [(.int p0)] _
      refine XS.bipush X0.here hx rfl (hb hby d10_1) ?_
      show oS p e below s₁ m 3 #[.val (.int p0)] [(.int 65), (.int p0)] _
      refine XS.icmpNo X0.here hx rfl (hb hby d10_3) rfl (flt z).1 ?_
      show oS p e below s₁ m 6 #[.val (.int p0)] [] _
      refine XS.iloadN X0.here hx rfl (hb hby d10_6) rfl ?_
      show oS p e below s₁ m 7 #[.val (.int p0)] [(.int p0)] _
      refine XS.bipush X0.here hx rfl (hb hby d10_7) ?_
      show oS p e below s₁ m 9 #[.val (.int p0)] [(.int 90), (.int p0)] _
      refine XS.icmpYes X0.here hx rfl (pc0 := 9) (pc' := 14) rfl (hb hby d10_9) rfl (tlt zz).2.2.1 (by decide) (by decide) ?_
      show oS p e below s₁ m 14 #[.val (.int p0)] [] _
      exact kt
  have fk2 : ∀ target, Steps p.tables e below (s₁.setTop (mkF m 28 #[.val (.int p0)] [])) target → Steps p.tables e below (s₁.setTop (mkF m 14 #[.val (.int p0)] [])) target := by
    intro target kt
    rcases z1 with z | ⟨z, zz⟩
    · show oS p e below s₁ m 14 #[.val (.int p0)] [] _
      refine XS.iloadN X0.here hx rfl (hb hby d10_14) rfl ?_
      show oS p e below s₁ m 15 #[.val (.int p0)] [(.int p0)] _
      refine XS.bipush X0.here hx rfl (hb hby d10_15) ?_
      show oS p e below s₁ m 17 #[.val (.int p0)] [(.int 97), (.int p0)] _
      refine XS.icmpYes X0.here hx rfl (pc0 := 17) (pc' := 28) rfl (hb hby d10_17) rfl (tlt z).1 (by decide) (by decide) ?_
      show oS p e below s₁ m 28 #[.val (.int p0)] [] _
      exact kt
    · show oS p e below s₁ m 14 #[.val (.int p0)] [] _
      refine XS.iloadN X0.here hx rfl (hb hby d10_14) rfl ?_
      show oS p e below s₁ m 15 #[.val (.int p0)] [(.int p0)] _
      refine XS.bipush X0.here hx rfl (hb hby d10_15) ?_
      show oS p e below s₁ m 17 #[.val (.int p0)] [(.int 97), (.int p0)] _
      refine XS.icmpNo X0.here hx rfl (hb hby d10_17) rfl (flt z).1 ?_
      show oS p e below s₁ m 20 #[.val (.int p0)] [] _
      refine XS.iloadN X0.here hx rfl (hb hby d10_20) rfl ?_
      show oS p e below s₁ m 21 #[.val (.int p0)] [(.int p0)] _
      refine XS.bipush X0.here hx rfl (hb hby d10_21) ?_
      show oS p e below s₁ m 23 #[.val (.int p0)] [(.int 122), (.int p0)] _
      refine XS.icmpYes X0.here hx rfl (pc0 := 23) (pc' := 28) rfl (hb hby d10_23) rfl (tlt zz).2.2.1 (by decide) (by decide) ?_
      show oS p e below s₁ m 28 #[.val (.int p0)] [] _
      exact kt
  have fk3 : ∀ target, Steps p.tables e below (s₁.setTop (mkF m 42 #[.val (.int p0)] [])) target → Steps p.tables e below (s₁.setTop (mkF m 28 #[.val (.int p0)] [])) target := by
    intro target kt
    rcases z2 with z | ⟨z, zz⟩
    · show oS p e below s₁ m 28 #[.val (.int p0)] [] _
      refine XS.iloadN X0.here hx rfl (hb hby d10_28) rfl ?_
      show oS p e below s₁ m 29 #[.val (.int p0)] [(.int p0)] _
      refine XS.bipush X0.here hx rfl (hb hby d10_29) ?_
      show oS p e below s₁ m 31 #[.val (.int p0)] [(.int 48), (.int p0)] _
      refine XS.icmpYes X0.here hx rfl (pc0 := 31) (pc' := 42) rfl (hb hby d10_31) rfl (tlt z).1 (by decide) (by decide) ?_
      show oS p e below s₁ m 42 #[.val (.int p0)] [] _
      exact kt
    · show oS p e below s₁ m 28 #[.val (.int p0)] [] _
      refine XS.iloadN X0.here hx rfl (hb hby d10_28) rfl ?_
      show oS p e below s₁ m 29 #[.val (.int p0)] [(.int p0)] _
      refine XS.bipush X0.here hx rfl (hb hby d10_29) ?_
      show oS p e below s₁ m 31 #[.val (.int p0)] [(.int 48), (.int p0)] _
      refine XS.icmpNo X0.here hx rfl (hb hby d10_31) rfl (flt z).1 ?_
      show oS p e below s₁ m 34 #[.val (.int p0)] [] _
      refine XS.iloadN X0.here hx rfl (hb hby d10_34) rfl ?_
      show oS p e below s₁ m 35 #[.val (.int p0)] [(.int p0)] _
      refine XS.bipush X0.here hx rfl (hb hby d10_35) ?_
      show oS p e below s₁ m 37 #[.val (.int p0)] [(.int 57), (.int p0)] _
      refine XS.icmpYes X0.here hx rfl (pc0 := 37) (pc' := 42) rfl (hb hby d10_37) rfl (tlt zz).2.2.1 (by decide) (by decide) ?_
      show oS p e below s₁ m 42 #[.val (.int p0)] [] _
      exact kt
  obtain ⟨fs, hr, hrun, hended, hW, hsame⟩ := X0.leave (v := some (.int 1)) (fun h => by rw [Bd.returns] at h; cases h)
  refine ⟨_, _, pre0 _ ?_, hrun, hended, _, _, rfl, ?_, ⟨_, rfl⟩, hW, hsame.mono (by decide) (by decide)⟩
  · show oS p e below s₁ m 0 #[.val (.int p0)] [] _
    refine fk1 _ ?_
    show oS p e below s₁ m 14 #[.val (.int p0)] [] _
    refine fk2 _ ?_
    show oS p e below s₁ m 28 #[.val (.int p0)] [] _
    refine fk3 _ ?_
    show oS p e below s₁ m 42 #[.val (.int p0)] [] _
    refine XS.iloadN X0.here hx rfl (hb hby d10_42) rfl ?_
    show oS p e below s₁ m 43 #[.val (.int p0)] [(.int p0)] _
    refine XS.bipush X0.here hx rfl (hb hby d10_43) ?_
    show oS p e below s₁ m 45 #[.val (.int p0)] [(.int 45), (.int p0)] _
    refine XS.icmpYes X0.here hx rfl (pc0 := 45) (pc' := 54) rfl (hb hby d10_45) rfl (teq hc45).1 (by decide) (by decide) ?_
    show oS p e below s₁ m 54 #[.val (.int p0)] [] _
    refine XS.iconst X0.here hx rfl (hb hby d10_54) ?_
    show oS p e below s₁ m 55 #[.val (.int p0)] [(.int 1)] _
    refine XS.goto X0.here hx rfl (pc0 := 55) (pc' := 59) rfl (hb hby d10_55) (by decide) (by decide) ?_
    show oS p e below s₁ m 59 #[.val (.int p0)] [(.int 1)] _
    exact retN X0 hx (t := .boolean) Bd.returns (by simp) (hb hby d10_59) hr
  · show own_Q (.int 1) h0 n0 _ s₁.heap _
    rw [e0]
    exact ⟨rfl, N0, rfl⟩
theorem d10_48 : decode method_2_code 48 = .ok (.iload_n 0, 1) := by decide +kernel
theorem d10_49 : decode method_2_code 49 = .ok (.bipush 95, 2) := by decide +kernel
theorem d10_51 : decode method_2_code 51 = .ok (.if_icmp .ne 7, 3) := by decide +kernel
set_option maxRecDepth 65536 in
set_option maxHeartbeats 40000000 in
theorem rmOk4 (l : Launch) (Z : State) (a0 : Array Value) (hw : ∀ d ∈ tables_1, d.before a0 Z = true) (ws : List Jvm.Cond) (p0 : Int32) (h0 : Heap) (n0 : Nat) (O0 : Old Z n0 h0) (z0 : p0 < (65 : Int32) ∨ (¬ p0 < (65 : Int32) ∧ (90 : Int32) < p0)) (z1 : p0 < (97 : Int32) ∨ (¬ p0 < (97 : Int32) ∧ (122 : Int32) < p0)) (z2 : p0 < (48 : Int32) ∨ (¬ p0 < (48 : Int32) ∧ (57 : Int32) < p0)) (hc45 : ¬ (p0 = (45 : Int32))) (hc51 : p0 = (95 : Int32)) :
    oM l Z (⟨"com/example/dispensd/dispensd/IdentifierIsValidPinLaw", "ok", "(C)Z"⟩ : MethodName) method_2_code 1 (some .boolean) ws ({ frames := 0, cells := 0, slots := 0, locals := 0 } : Room) #[(.int p0)] h0 (own_Q (.int 1) h0 n0) := by
  refine MetFree.of_bodySF (plainFor_of_name pn_10) hisR ?_
  intro p e s m args below meth c s₁ Bd hml0 hP hK
  obtain ⟨rfl, hZ, hh⟩ := hP
  have hx := Bd.exec
  have hby := Bd.bytes
  have hml : c.maxLocals = 1 := hml0
  have hown : s.vm.findClass "com/example/dispensd/dispensd/IdentifierIsValidPinLaw" = some m.cls := findClass_of_methodNamed Bd.named
  have hnm := (name_of_methodNamed Bd.named Bd.method).1
  have X0 : Stand p l e ({ frames := 0, cells := 0, slots := 0, locals := 0 } : Room) s m #[(.int p0)] below meth c s₁ [] 0 0 := Stand.of_body Bd
  have e0 : s₁.heap = h0 := by rw [← hh, Bd.state]; rfl
  have N0 := Fr.nil n0
  have pre0 : ∀ t, Steps p.tables e below (s₁.setTop (mkF m 0 #[.val (.int p0)] [])) t → Steps p.tables e below (s₁.setTop (entryFrame m #[(.int p0)] 1)) t := fun t k => castTop (ef_10 m p0) k
  have fk1 : ∀ target, Steps p.tables e below (s₁.setTop (mkF m 14 #[.val (.int p0)] [])) target → Steps p.tables e below (s₁.setTop (mkF m 0 #[.val (.int p0)] [])) target := by
    intro target kt
    rcases z0 with z | ⟨z, zz⟩
    · show oS p e below s₁ m 0 #[.val (.int p0)] [] _
      refine XS.iloadN X0.here hx rfl (hb hby d10_0) rfl ?_
      show oS p e below s₁ m 1 #[.val (.int p0)] [(.int p0)] _
      refine XS.bipush X0.here hx rfl (hb hby d10_1) ?_
      show oS p e below s₁ m 3 #[.val (.int p0)] [(.int 65), (.int p0)] _
      refine XS.icmpYes X0.here hx rfl (pc0 := 3) (pc' := 14) rfl (hb hby d10_3) rfl (tlt z).1 (by decide) (by decide) ?_
      show oS p e below s₁ m 14 #[.val (.int p0)] [] _
      exact kt
    · show oS p e below s₁ m 0 #[.val (.int p0)] [] _
      refine XS.iloadN X0.here hx rfl (hb hby d10_0) rfl ?_
      show oS p e below s₁ m 1 #[.val (.int p0)] [(.int p0)] _
      refine XS.bipush X0.here hx rfl (hb hby d10_1) ?_
      show oS p e below s₁ m 3 #[.val (.int p0)] [(.int 65), (.int p0)] _
      refine XS.icmpNo X0.here hx rfl (hb hby d10_3) rfl (flt z).1 ?_
      show oS p e below s₁ m 6 #[.val (.int p0)] [] _
      refine XS.iloadN X0.here hx rfl (hb hby d10_6) rfl ?_
      show oS p e below s₁ m 7 #[.val (.int p0)] [(.int p0)] _
      refine XS.bipush X0.here hx rfl (hb hby d10_7) ?_
      show oS p e below s₁ m 9 #[.val (.int p0)] [(.int 90), (.int p0)] _
      refine XS.icmpYes X0.here hx rfl (pc0 := 9) (pc' := 14) rfl (hb hby d10_9) rfl (tlt zz).2.2.1 (by decide) (by decide) ?_
      show oS p e below s₁ m 14 #[.val (.int p0)] [] _
      exact kt
  have fk2 : ∀ target, Steps p.tables e below (s₁.setTop (mkF m 28 #[.val (.int p0)] [])) target → Steps p.tables e below (s₁.setTop (mkF m 14 #[.val (.int p0)] [])) target := by
    intro target kt
    rcases z1 with z | ⟨z, zz⟩
    · show oS p e below s₁ m 14 #[.val (.int p0)] [] _
      refine XS.iloadN X0.here hx rfl (hb hby d10_14) rfl ?_
      show oS p e below s₁ m 15 #[.val (.int p0)] [(.int p0)] _
      refine XS.bipush X0.here hx rfl (hb hby d10_15) ?_
      show oS p e below s₁ m 17 #[.val (.int p0)] [(.int 97), (.int p0)] _
      refine XS.icmpYes X0.here hx rfl (pc0 := 17) (pc' := 28) rfl (hb hby d10_17) rfl (tlt z).1 (by decide) (by decide) ?_
      show oS p e below s₁ m 28 #[.val (.int p0)] [] _
      exact kt
    · show oS p e below s₁ m 14 #[.val (.int p0)] [] _
      refine XS.iloadN X0.here hx rfl (hb hby d10_14) rfl ?_
      show oS p e below s₁ m 15 #[.val (.int p0)] [(.int p0)] _
      refine XS.bipush X0.here hx rfl (hb hby d10_15) ?_
      show oS p e below s₁ m 17 #[.val (.int p0)] [(.int 97), (.int p0)] _
      refine XS.icmpNo X0.here hx rfl (hb hby d10_17) rfl (flt z).1 ?_
      show oS p e below s₁ m 20 #[.val (.int p0)] [] _
      refine XS.iloadN X0.here hx rfl (hb hby d10_20) rfl ?_
      show oS p e below s₁ m 21 #[.val (.int p0)] [(.int p0)] _
      refine XS.bipush X0.here hx rfl (hb hby d10_21) ?_
      show oS p e below s₁ m 23 #[.val (.int p0)] [(.int 122), (.int p0)] _
      refine XS.icmpYes X0.here hx rfl (pc0 := 23) (pc' := 28) rfl (hb hby d10_23) rfl (tlt zz).2.2.1 (by decide) (by decide) ?_
      show oS p e below s₁ m 28 #[.val (.int p0)] [] _
      exact kt
  have fk3 : ∀ target, Steps p.tables e below (s₁.setTop (mkF m 42 #[.val (.int p0)] [])) target → Steps p.tables e below (s₁.setTop (mkF m 28 #[.val (.int p0)] [])) target := by
    intro target kt
    rcases z2 with z | ⟨z, zz⟩
    · show oS p e below s₁ m 28 #[.val (.int p0)] [] _
      refine XS.iloadN X0.here hx rfl (hb hby d10_28) rfl ?_
      show oS p e below s₁ m 29 #[.val (.int p0)] [(.int p0)] _
      refine XS.bipush X0.here hx rfl (hb hby d10_29) ?_
      show oS p e below s₁ m 31 #[.val (.int p0)] [(.int 48), (.int p0)] _
      refine XS.icmpYes X0.here hx rfl (pc0 := 31) (pc' := 42) rfl (hb hby d10_31) rfl (tlt z).1 (by decide) (by decide) ?_
      show oS p e below s₁ m 42 #[.val (.int p0)] [] _
      exact kt
    · show oS p e below s₁ m 28 #[.val (.int p0)] [] _
      refine XS.iloadN X0.here hx rfl (hb hby d10_28) rfl ?_
      show oS p e below s₁ m 29 #[.val (.int p0)] [(.int p0)] _
      refine XS.bipush X0.here hx rfl (hb hby d10_29) ?_
      show oS p e below s₁ m 31 #[.val (.int p0)] [(.int 48), (.int p0)] _
      refine XS.icmpNo X0.here hx rfl (hb hby d10_31) rfl (flt z).1 ?_
      show oS p e below s₁ m 34 #[.val (.int p0)] [] _
      refine XS.iloadN X0.here hx rfl (hb hby d10_34) rfl ?_
      show oS p e below s₁ m 35 #[.val (.int p0)] [(.int p0)] _
      refine XS.bipush X0.here hx rfl (hb hby d10_35) ?_
      show oS p e below s₁ m 37 #[.val (.int p0)] [(.int 57), (.int p0)] _
      refine XS.icmpYes X0.here hx rfl (pc0 := 37) (pc' := 42) rfl (hb hby d10_37) rfl (tlt zz).2.2.1 (by decide) (by decide) ?_
      show oS p e below s₁ m 42 #[.val (.int p0)] [] _
      exact kt
  obtain ⟨fs, hr, hrun, hended, hW, hsame⟩ := X0.leave (v := some (.int 1)) (fun h => by rw [Bd.returns] at h; cases h)
  refine ⟨_, _, pre0 _ ?_, hrun, hended, _, _, rfl, ?_, ⟨_, rfl⟩, hW, hsame.mono (by decide) (by decide)⟩
  · show oS p e below s₁ m 0 #[.val (.int p0)] [] _
    refine fk1 _ ?_
    show oS p e below s₁ m 14 #[.val (.int p0)] [] _
    refine fk2 _ ?_
    show oS p e below s₁ m 28 #[.val (.int p0)] [] _
    refine fk3 _ ?_
    show oS p e below s₁ m 42 #[.val (.int p0)] [] _
    refine XS.iloadN X0.here hx rfl (hb hby d10_42) rfl ?_
    show oS p e below s₁ m 43 #[.val (.int p0)] [(.int p0)] _
    refine XS.bipush X0.here hx rfl (hb hby d10_43) ?_
    show oS p e below s₁ m 45 #[.val (.int p0)] [(.int 45), (.int p0)] _
    refine XS.icmpNo X0.here hx rfl (hb hby d10_45) rfl (feq hc45).1 ?_
    show oS p e below s₁ m 48 #[.val (.int p0)] [] _
    refine XS.iloadN X0.here hx rfl (hb hby d10_48) rfl ?_
    show oS p e below s₁ m 49 #[.val (.int p0)] [(.int p0)] _
    refine XS.bipush X0.here hx rfl (hb hby d10_49) ?_
    show oS p e below s₁ m 51 #[.val (.int p0)] [(.int 95), (.int p0)] _
    refine XS.icmpNo X0.here hx rfl (hb hby d10_51) rfl (teq hc51).2 ?_
    show oS p e below s₁ m 54 #[.val (.int p0)] [] _
    refine XS.iconst X0.here hx rfl (hb hby d10_54) ?_
    show oS p e below s₁ m 55 #[.val (.int p0)] [(.int 1)] _
    refine XS.goto X0.here hx rfl (pc0 := 55) (pc' := 59) rfl (hb hby d10_55) (by decide) (by decide) ?_
    show oS p e below s₁ m 59 #[.val (.int p0)] [(.int 1)] _
    exact retN X0 hx (t := .boolean) Bd.returns (by simp) (hb hby d10_59) hr
  · show own_Q (.int 1) h0 n0 _ s₁.heap _
    rw [e0]
    exact ⟨rfl, N0, rfl⟩
theorem d10_58 : decode method_2_code 58 = .ok (.iconst 0, 1) := by decide +kernel
set_option maxRecDepth 65536 in
set_option maxHeartbeats 40000000 in
theorem rmOk5 (l : Launch) (Z : State) (a0 : Array Value) (hw : ∀ d ∈ tables_1, d.before a0 Z = true) (ws : List Jvm.Cond) (p0 : Int32) (h0 : Heap) (n0 : Nat) (O0 : Old Z n0 h0) (z0 : p0 < (65 : Int32) ∨ (¬ p0 < (65 : Int32) ∧ (90 : Int32) < p0)) (z1 : p0 < (97 : Int32) ∨ (¬ p0 < (97 : Int32) ∧ (122 : Int32) < p0)) (z2 : p0 < (48 : Int32) ∨ (¬ p0 < (48 : Int32) ∧ (57 : Int32) < p0)) (hc45 : ¬ (p0 = (45 : Int32))) (hc51 : ¬ (p0 = (95 : Int32))) :
    oM l Z (⟨"com/example/dispensd/dispensd/IdentifierIsValidPinLaw", "ok", "(C)Z"⟩ : MethodName) method_2_code 1 (some .boolean) ws ({ frames := 0, cells := 0, slots := 0, locals := 0 } : Room) #[(.int p0)] h0 (own_Q (.int 0) h0 n0) := by
  refine MetFree.of_bodySF (plainFor_of_name pn_10) hisR ?_
  intro p e s m args below meth c s₁ Bd hml0 hP hK
  obtain ⟨rfl, hZ, hh⟩ := hP
  have hx := Bd.exec
  have hby := Bd.bytes
  have hml : c.maxLocals = 1 := hml0
  have hown : s.vm.findClass "com/example/dispensd/dispensd/IdentifierIsValidPinLaw" = some m.cls := findClass_of_methodNamed Bd.named
  have hnm := (name_of_methodNamed Bd.named Bd.method).1
  have X0 : Stand p l e ({ frames := 0, cells := 0, slots := 0, locals := 0 } : Room) s m #[(.int p0)] below meth c s₁ [] 0 0 := Stand.of_body Bd
  have e0 : s₁.heap = h0 := by rw [← hh, Bd.state]; rfl
  have N0 := Fr.nil n0
  have pre0 : ∀ t, Steps p.tables e below (s₁.setTop (mkF m 0 #[.val (.int p0)] [])) t → Steps p.tables e below (s₁.setTop (entryFrame m #[(.int p0)] 1)) t := fun t k => castTop (ef_10 m p0) k
  have fk1 : ∀ target, Steps p.tables e below (s₁.setTop (mkF m 14 #[.val (.int p0)] [])) target → Steps p.tables e below (s₁.setTop (mkF m 0 #[.val (.int p0)] [])) target := by
    intro target kt
    rcases z0 with z | ⟨z, zz⟩
    · show oS p e below s₁ m 0 #[.val (.int p0)] [] _
      refine XS.iloadN X0.here hx rfl (hb hby d10_0) rfl ?_
      show oS p e below s₁ m 1 #[.val (.int p0)] [(.int p0)] _
      refine XS.bipush X0.here hx rfl (hb hby d10_1) ?_
      show oS p e below s₁ m 3 #[.val (.int p0)] [(.int 65), (.int p0)] _
      refine XS.icmpYes X0.here hx rfl (pc0 := 3) (pc' := 14) rfl (hb hby d10_3) rfl (tlt z).1 (by decide) (by decide) ?_
      show oS p e below s₁ m 14 #[.val (.int p0)] [] _
      exact kt
    · show oS p e below s₁ m 0 #[.val (.int p0)] [] _
      refine XS.iloadN X0.here hx rfl (hb hby d10_0) rfl ?_
      show oS p e below s₁ m 1 #[.val (.int p0)] [(.int p0)] _
      refine XS.bipush X0.here hx rfl (hb hby d10_1) ?_
      show oS p e below s₁ m 3 #[.val (.int p0)] [(.int 65), (.int p0)] _
      refine XS.icmpNo X0.here hx rfl (hb hby d10_3) rfl (flt z).1 ?_
      show oS p e below s₁ m 6 #[.val (.int p0)] [] _
      refine XS.iloadN X0.here hx rfl (hb hby d10_6) rfl ?_
      show oS p e below s₁ m 7 #[.val (.int p0)] [(.int p0)] _
      refine XS.bipush X0.here hx rfl (hb hby d10_7) ?_
      show oS p e below s₁ m 9 #[.val (.int p0)] [(.int 90), (.int p0)] _
      refine XS.icmpYes X0.here hx rfl (pc0 := 9) (pc' := 14) rfl (hb hby d10_9) rfl (tlt zz).2.2.1 (by decide) (by decide) ?_
      show oS p e below s₁ m 14 #[.val (.int p0)] [] _
      exact kt
  have fk2 : ∀ target, Steps p.tables e below (s₁.setTop (mkF m 28 #[.val (.int p0)] [])) target → Steps p.tables e below (s₁.setTop (mkF m 14 #[.val (.int p0)] [])) target := by
    intro target kt
    rcases z1 with z | ⟨z, zz⟩
    · show oS p e below s₁ m 14 #[.val (.int p0)] [] _
      refine XS.iloadN X0.here hx rfl (hb hby d10_14) rfl ?_
      show oS p e below s₁ m 15 #[.val (.int p0)] [(.int p0)] _
      refine XS.bipush X0.here hx rfl (hb hby d10_15) ?_
      show oS p e below s₁ m 17 #[.val (.int p0)] [(.int 97), (.int p0)] _
      refine XS.icmpYes X0.here hx rfl (pc0 := 17) (pc' := 28) rfl (hb hby d10_17) rfl (tlt z).1 (by decide) (by decide) ?_
      show oS p e below s₁ m 28 #[.val (.int p0)] [] _
      exact kt
    · show oS p e below s₁ m 14 #[.val (.int p0)] [] _
      refine XS.iloadN X0.here hx rfl (hb hby d10_14) rfl ?_
      show oS p e below s₁ m 15 #[.val (.int p0)] [(.int p0)] _
      refine XS.bipush X0.here hx rfl (hb hby d10_15) ?_
      show oS p e below s₁ m 17 #[.val (.int p0)] [(.int 97), (.int p0)] _
      refine XS.icmpNo X0.here hx rfl (hb hby d10_17) rfl (flt z).1 ?_
      show oS p e below s₁ m 20 #[.val (.int p0)] [] _
      refine XS.iloadN X0.here hx rfl (hb hby d10_20) rfl ?_
      show oS p e below s₁ m 21 #[.val (.int p0)] [(.int p0)] _
      refine XS.bipush X0.here hx rfl (hb hby d10_21) ?_
      show oS p e below s₁ m 23 #[.val (.int p0)] [(.int 122), (.int p0)] _
      refine XS.icmpYes X0.here hx rfl (pc0 := 23) (pc' := 28) rfl (hb hby d10_23) rfl (tlt zz).2.2.1 (by decide) (by decide) ?_
      show oS p e below s₁ m 28 #[.val (.int p0)] [] _
      exact kt
  have fk3 : ∀ target, Steps p.tables e below (s₁.setTop (mkF m 42 #[.val (.int p0)] [])) target → Steps p.tables e below (s₁.setTop (mkF m 28 #[.val (.int p0)] [])) target := by
    intro target kt
    rcases z2 with z | ⟨z, zz⟩
    · show oS p e below s₁ m 28 #[.val (.int p0)] [] _
      refine XS.iloadN X0.here hx rfl (hb hby d10_28) rfl ?_
      show oS p e below s₁ m 29 #[.val (.int p0)] [(.int p0)] _
      refine XS.bipush X0.here hx rfl (hb hby d10_29) ?_
      show oS p e below s₁ m 31 #[.val (.int p0)] [(.int 48), (.int p0)] _
      refine XS.icmpYes X0.here hx rfl (pc0 := 31) (pc' := 42) rfl (hb hby d10_31) rfl (tlt z).1 (by decide) (by decide) ?_
      show oS p e below s₁ m 42 #[.val (.int p0)] [] _
      exact kt
    · show oS p e below s₁ m 28 #[.val (.int p0)] [] _
      refine XS.iloadN X0.here hx rfl (hb hby d10_28) rfl ?_
      show oS p e below s₁ m 29 #[.val (.int p0)] [(.int p0)] _
      refine XS.bipush X0.here hx rfl (hb hby d10_29) ?_
      show oS p e below s₁ m 31 #[.val (.int p0)] [(.int 48), (.int p0)] _
      refine XS.icmpNo X0.here hx rfl (hb hby d10_31) rfl (flt z).1 ?_
      show oS p e below s₁ m 34 #[.val (.int p0)] [] _
      refine XS.iloadN X0.here hx rfl (hb hby d10_34) rfl ?_
      show oS p e below s₁ m 35 #[.val (.int p0)] [(.int p0)] _
      refine XS.bipush X0.here hx rfl (hb hby d10_35) ?_
      show oS p e below s₁ m 37 #[.val (.int p0)] [(.int 57), (.int p0)] _
      refine XS.icmpYes X0.here hx rfl (pc0 := 37) (pc' := 42) rfl (hb hby d10_37) rfl (tlt zz).2.2.1 (by decide) (by decide) ?_
      show oS p e below s₁ m 42 #[.val (.int p0)] [] _
      exact kt
  obtain ⟨fs, hr, hrun, hended, hW, hsame⟩ := X0.leave (v := some (.int 0)) (fun h => by rw [Bd.returns] at h; cases h)
  refine ⟨_, _, pre0 _ ?_, hrun, hended, _, _, rfl, ?_, ⟨_, rfl⟩, hW, hsame.mono (by decide) (by decide)⟩
  · show oS p e below s₁ m 0 #[.val (.int p0)] [] _
    refine fk1 _ ?_
    show oS p e below s₁ m 14 #[.val (.int p0)] [] _
    refine fk2 _ ?_
    show oS p e below s₁ m 28 #[.val (.int p0)] [] _
    refine fk3 _ ?_
    show oS p e below s₁ m 42 #[.val (.int p0)] [] _
    refine XS.iloadN X0.here hx rfl (hb hby d10_42) rfl ?_
    show oS p e below s₁ m 43 #[.val (.int p0)] [(.int p0)] _
    refine XS.bipush X0.here hx rfl (hb hby d10_43) ?_
    show oS p e below s₁ m 45 #[.val (.int p0)] [(.int 45), (.int p0)] _
    refine XS.icmpNo X0.here hx rfl (hb hby d10_45) rfl (feq hc45).1 ?_
    show oS p e below s₁ m 48 #[.val (.int p0)] [] _
    refine XS.iloadN X0.here hx rfl (hb hby d10_48) rfl ?_
    show oS p e below s₁ m 49 #[.val (.int p0)] [(.int p0)] _
    refine XS.bipush X0.here hx rfl (hb hby d10_49) ?_
    show oS p e below s₁ m 51 #[.val (.int p0)] [(.int 95), (.int p0)] _
    refine XS.icmpYes X0.here hx rfl (pc0 := 51) (pc' := 58) rfl (hb hby d10_51) rfl (feq hc51).2 (by decide) (by decide) ?_
    show oS p e below s₁ m 58 #[.val (.int p0)] [] _
    refine XS.iconst X0.here hx rfl (hb hby d10_58) ?_
    show oS p e below s₁ m 59 #[.val (.int p0)] [(.int 0)] _
    exact retN X0 hx (t := .boolean) Bd.returns (by simp) (hb hby d10_59) hr
  · show own_Q (.int 0) h0 n0 _ s₁.heap _
    rw [e0]
    exact ⟨rfl, N0, rfl⟩
theorem rmOk (l : Launch) (Z : State) (a0 : Array Value) (hw : ∀ d ∈ tables_1, d.before a0 Z = true) (ws : List Jvm.Cond) (p0 : Int32) (h0 : Heap) (n0 : Nat) (O0 : Old Z n0 h0) : MetFree l (⟨"com/example/dispensd/dispensd/IdentifierIsValidPinLaw", "ok", "(C)Z"⟩ : MethodName) (head1 (Jvm.Cond.code (⟨"com/example/dispensd/dispensd/IdentifierIsValidPinLaw", "ok", "(C)Z"⟩ : MethodName) method_2_code 1 (some .boolean) :: ws) ({ frames := 0, cells := 0, slots := 0, locals := 0 } : Room)) (fun a U => a = #[(.int p0)] ∧ Z.Warmed39 U.vm ∧ U.heap = h0) (fun _ _ _ _ _ => True) (fun _ U o U' => ∃ v L, o = .returned v ∧ own_Q (.int (own_ok p0)) h0 n0 v U'.heap L ∧ FrameEnd U o U' L ({ frames := 0, cells := 0, slots := 0, locals := 0 } : Room).cells ({ frames := 0, cells := 0, slots := 0, locals := 0 } : Room).slots) := by
  rcases own_reg p0 65 90 with q0 | z0
  · rw [show own_ok p0 = 1 from by simp only [own_ok]; rw [if_pos q0]]
    exact rmOk0 l Z a0 hw ws p0 h0 n0 O0 q0.1 q0.2
  have k0 := own_nreg z0
  rcases own_reg p0 97 122 with q1 | z1
  · rw [show own_ok p0 = 1 from by simp only [own_ok]; rw [if_neg k0, if_pos q1]]
    exact rmOk1 l Z a0 hw ws p0 h0 n0 O0 z0 q1.1 q1.2
  have k1 := own_nreg z1
  rcases own_reg p0 48 57 with q2 | z2
  · rw [show own_ok p0 = 1 from by simp only [own_ok]; rw [if_neg k0, if_neg k1, if_pos q2]]
    exact rmOk2 l Z a0 hw ws p0 h0 n0 O0 z0 z1 q2.1 q2.2
  have k2 := own_nreg z2
  by_cases q3 : p0 = 45
  · rw [show own_ok p0 = 1 from by simp only [own_ok]; rw [if_neg k0, if_neg k1, if_neg k2, if_pos q3]]
    exact rmOk3 l Z a0 hw ws p0 h0 n0 O0 z0 z1 z2 q3
  by_cases q4 : p0 = 95
  · rw [show own_ok p0 = 1 from by simp only [own_ok]; rw [if_neg k0, if_neg k1, if_neg k2, if_neg q3, if_pos q4]]
    exact rmOk4 l Z a0 hw ws p0 h0 n0 O0 z0 z1 z2 q3 q4
  rw [show own_ok p0 = 0 from by simp only [own_ok]; rw [if_neg k0, if_neg k1, if_neg k2, if_neg q3, if_neg q4]]
  exact rmOk5 l Z a0 hw ws p0 h0 n0 O0 z0 z1 z2 q3 q4
def own_QM (Z : State) (cs : List Int32) (h0 : Heap) (n0 : Nat) (v : Option Value) (h : Heap) (L : List Loc) : Prop := ∃ (x t : Addr) (kt : ClassId), v = some (.ref x) ∧ Fr n0 L ∧ Keep h0 h [] ∧ Exa Z h x "java/lang/String" ∧ Fld Z h x "java/lang/String" "value" "[B" (.ref t) ∧ Fld Z h x "java/lang/String" "coder" "B" (.int 0) ∧ Arv Z h t kt .byte (Int32.ofNat cs.length) ((cs.map (fun c => c.toInt8.toInt32)).map Value.int) (.int 0)
theorem d2_0 : decode method_4_code 0 = .ok (.iload_n 0, 1) := by decide +kernel
theorem d2_1 : decode method_4_code 1 = .ok (.ifCond .ne 14, 3) := by decide +kernel
theorem d2_15 : decode method_4_code 15 = .ok (.iload_n 0, 1) := by decide +kernel
theorem d2_16 : decode method_4_code 16 = .ok (.iconst 1, 1) := by decide +kernel
theorem d2_17 : decode method_4_code 17 = .ok (.if_icmp .ne 24, 3) := by decide +kernel
theorem d2_20 : decode method_4_code 20 = .ok (.new 7, 3) := by decide +kernel
theorem d2_23 : decode method_4_code 23 = .ok (.dup, 1) := by decide +kernel
theorem d2_24 : decode method_4_code 24 = .ok (.iconst 1, 1) := by decide +kernel
theorem d2_25 : decode method_4_code 25 = .ok (.newarray .char, 2) := by decide +kernel
theorem d2_27 : decode method_4_code 27 = .ok (.dup, 1) := by decide +kernel
theorem d2_28 : decode method_4_code 28 = .ok (.iconst 0, 1) := by decide +kernel
theorem d2_29 : decode method_4_code 29 = .ok (.iconst 0, 1) := by decide +kernel
theorem d2_30 : decode method_4_code 30 = .ok (.iload_n 1, 1) := by decide +kernel
theorem d2_31 : decode method_4_code 31 = .ok (.iload_n 2, 1) := by decide +kernel
theorem d2_32 : decode method_4_code 32 = .ok (.iload_n 3, 1) := by decide +kernel
theorem d2_33 : decode method_4_code 33 = .ok (.invokestatic 12, 3) := by decide +kernel
theorem pd_6 : parseMethodDescriptor "(IICC)C" = some ⟨[.int, .int, .char, .char], some .char⟩ := by decide +kernel
theorem d2_36 : decode method_4_code 36 = .ok (.castore, 1) := by decide +kernel
theorem d2_37 : decode method_4_code 37 = .ok (.invokespecial 9, 3) := by decide +kernel
set_option maxRecDepth 65536 in
theorem own_ws {a0 : Array Value} {Z : State} (hw : ∀ d ∈ tables_1, d.before a0 Z = true) : ∀ d ∈ StrChars.Road.words, d.before a0 Z = true := fun d hd => hw d ((by decide +kernel : ∀ d ∈ StrChars.Road.words, d ∈ tables_1) d hd)
theorem pd_7 : parseMethodDescriptor "([C)V" = some ⟨[(.array .char)], none⟩ := by decide +kernel
theorem d2_40 : decode method_4_code 40 = .ok (.areturn, 1) := by decide +kernel
theorem ef_2 (m : MethodId) (x0 : Int32) (x1 : Int32) (x2 : Int32) (x3 : Int32) : entryFrame m #[(.int x0), (.int x1), (.int x2), (.int x3)] 4 = mkF m 0 #[.val (.int x0), .val (.int x1), .val (.int x2), .val (.int x3)] [] := by first | (simp [entryFrame, mkF, argsToLocals, Value.category]; done) | rfl
theorem pn_2 : plainName "com/example/dispensd/dispensd/IdentifierIsValidPinLaw" = true := by first | (simp [plainName, overriddenIn]; done) | decide +kernel
set_option maxRecDepth 65536 in
set_option maxHeartbeats 40000000 in
theorem rmM1 (l : Launch) (Z : State) (a0 : Array Value) (hw : ∀ d ∈ tables_1, d.before a0 Z = true) (ws : List Jvm.Cond) (p1 : Int32) (p2 : Int32) (p3 : Int32) (zc : Int32) (h0 : Heap) (n0 : Nat) (O0 : Old Z n0 h0) (S_COMPACT_STRINGS : Sta Z Z.heap "java/lang/String" "COMPACT_STRINGS" "Z" (.int zc)) (hzc : ¬ zc = 0) (hp : ∀ c ∈ ([own_d 0 p1 p2 p3] : List Int32), ¬ c < 0 ∧ ¬ (255 : Int32) < c) :
    oM l Z (⟨"com/example/dispensd/dispensd/IdentifierIsValidPinLaw", "make", "(IICC)Ljava/lang/String;"⟩ : MethodName) method_4_code 4 (some (.object "java/lang/String")) ws ({ frames := 4, cells := 3, slots := 38, locals := 66 } : Room) #[(.int 1), (.int p1), (.int p2), (.int p3)] h0 (own_QM Z ([own_d 0 p1 p2 p3] : List Int32) h0 n0) := by
  refine MetFree.of_bodySF (plainFor_of_name pn_2) hisR ?_
  intro p e s m args below meth c s₁ Bd hml0 hP hK
  obtain ⟨rfl, hZ, hh⟩ := hP
  have hx := Bd.exec
  have hby := Bd.bytes
  have hml : c.maxLocals = 4 := hml0
  have hown : s.vm.findClass "com/example/dispensd/dispensd/IdentifierIsValidPinLaw" = some m.cls := findClass_of_methodNamed Bd.named
  have hnm := (name_of_methodNamed Bd.named Bd.method).1
  have X0 : Stand p l e ({ frames := 4, cells := 3, slots := 38, locals := 66 } : Room) s m #[(.int 1), (.int p1), (.int p2), (.int p3)] below meth c s₁ [] 0 0 := Stand.of_body Bd
  have e0 : s₁.heap = h0 := by rw [← hh, Bd.state]; rfl
  have N0 := Fr.nil n0
  have pre0 : ∀ t, Steps p.tables e below (s₁.setTop (mkF m 0 #[.val (.int 1), .val (.int p1), .val (.int p2), .val (.int p3)] [])) t → Steps p.tables e below (s₁.setTop (entryFrame m #[(.int 1), (.int p1), (.int p2), (.int p3)] 4)) t := fun t k => castTop (ef_2 m (1 : Int32) p1 p2 p3) k
  obtain ⟨T1, h1, X1, e1, E1, A1, D1, U1, st1⟩ := newO X0 hx hZ hown (own_w hw 9 rfl) (own_w hw 10 rfl) (own_w hw 11 rfl) e0 (g := (mkF m 20 #[.val (.int 1), .val (.int p1), .val (.int p2), .val (.int p3)] [])) rfl (hb hby d2_20) (by decide) (by decide)
  obtain ⟨b1, g1⟩ : ∃ z, z = h0.size := ⟨_, rfl⟩
  rw [← g1] at A1 D1 U1 st1
  have Ut1 : Unt h1 b1 := U1
  have g_b1 : n0 ≤ b1 := Nat.le_trans (own_le O0) (Nat.le_of_eq g1.symm)
  have O1 := O0.ext E1
  have F_coder_b1 : Fld Z h1 b1 "java/lang/String" "coder" "B" (.int 0) := D1 (Or.inr (own_w hw 39 rfl)) (ty := .byte) (by decide)
  have F_value_b1 : Fld Z h1 b1 "java/lang/String" "value" "[B" .null := D1 (Or.inr (own_w hw 41 rfl)) (ty := (.array .byte)) (by decide)
  obtain ⟨T2, h2, k2, X2, e2, E2, A2, st2⟩ := newP X1 hx hZ (own_w hw 12 rfl) e1 (g := (mkF m 25 #[.val (.int 1), .val (.int p1), .val (.int p2), .val (.int p3)] [(.int 1), (.ref b1), (.ref b1)])) rfl (hb hby d2_25) rfl (by decide) (cap := 1) (by decide) (by decide) (by decide) (by decide)
  obtain ⟨b2, g2⟩ : ∃ z, z = h1.size := ⟨_, rfl⟩
  rw [← g2] at A2 st2
  have g_b2 : n0 ≤ b2 := Nat.le_trans (own_le O1) (Nat.le_of_eq g2.symm)
  have O2 := O1.ext E2
  have V_b2 : Arv Z h2 b2 k2 .char (1 : Int32) [(.int 0)] (.int 0) := (Arv.new A2 (by decide)).pad (pad_rep [] (.int 0) 1)
  obtain ⟨_, _, ⟨T3, L3, k3, n3⟩, -, X3, ⟨Lc3, hQ3, l3, y3, z3⟩, st3⟩ := Jvm.LawKit.callS X2 hx (y := (⟨"com/example/dispensd/dispensd/IdentifierIsValidPinLaw", "at", "(IICC)C"⟩ : MethodName)) hown (mvT hZ (own_w hw 13 rfl)) (mvT hZ (own_w hw 14 rfl)) (mvT hZ (own_w hw 7 rfl)) (mvT hZ (own_w hw 15 rfl)) (by decide) (backOf (W := 5) (rmAt l Z a0 hw [] (0 : Int32) p1 p2 p3  h2 n0 O2 ) hZ (own_w hw 15 rfl) (own_w hw 7 rfl) (by decide) (by decide)) (g := (mkF m 33 #[.val (.int 1), .val (.int p1), .val (.int p2), .val (.int p3)] [(.int p3), (.int p2), (.int p1), (.int 0), (.int 0), (.ref b2), (.ref b2), (.ref b1), (.ref b1)])) rfl (by rw [hml]; rfl) (argsL := [(.int 0), (.int p1), (.int p2), (.int p3)]) (rest := [(.int 0), (.ref b2), (.ref b2), (.ref b1), (.ref b1)]) (lenOf pd_6 rfl) rfl (by show 2 * 0 + _ ≤ _; exact Nat.le_of_eq rfl) (hb hby d2_33) (fun _ _ => ⟨rfl, e2, (by decide : 2 + 0 ≤ _), (by decide : 5 + 0 ≤ _)⟩)
  dsimp only [Pt.U, Pt.locs, Pt.cells, Pt.slots] at X3 l3 y3 z3 st3 hQ3
  subst l3 y3 z3
  obtain ⟨rfl, N3q, e3⟩ := hQ3
  have N3 := Fr.app N0 N3q
  obtain ⟨cl4, Ar4, qa4, Sz4, Ng4, Hs4, Ft4⟩ := V_b2
  obtain ⟨T4, h4, X4, e4, W4, st4⟩ := stC X3 hx hZ e3 Ar4 (j := (0 : Int32)) (inb_of Sz4 ⟨by decide, by decide⟩) (g := (mkF m 36 #[.val (.int 1), .val (.int p1), .val (.int p2), .val (.int p3)] [(.int (own_c 0 p1 p2 p3)), (.int 0), (.ref b2), (.ref b2), (.ref b1), (.ref b1)])) rfl rfl (hb hby d2_36)
  have O4 := O2.wr W4 g_b2
  have N4 := Fr.snoc X4 N3 g_b2
  have V4 : Arv Z h4 b2 k2 .char (1 : Int32) [(.int (own_d 0 p1 p2 p3))] (.int 0) := Arv.set Ar4 qa4 Sz4 Ng4 Hs4 Ft4 (fits_nar_char _) W4 0 rfl (Nat.le_of_ble_eq_true rfl)
  have f_b1_3_value := ((F_value_b1.ext E2).other W4 (Or.inl (Nat.ne_of_lt (Nat.lt_of_lt_of_le F_coder_b1.lt (Nat.le_of_eq g2.symm)))))
  have f_b1_3_coder := ((F_coder_b1.ext E2).other W4 (Or.inl (Nat.ne_of_lt (Nat.lt_of_lt_of_le F_coder_b1.lt (Nat.le_of_eq g2.symm)))))
  obtain ⟨_, _, ⟨T5, L5, k5, n5⟩, -, X5, ⟨Lc5, hQ5, l5, y5, z5⟩, st5⟩ := X4.specialBack hx (y := (⟨"java/lang/String", "<init>", "([C)V"⟩ : MethodName)) rfl hown (mvT hZ (own_w hw 16 rfl)) (mvT hZ (own_w hw 17 rfl)) (mvT hZ (own_w hw 18 rfl)) (by decide) (StrChars.Road.backV (W := 1) hZ (own_ws hw) (kI := 4) (own_w hw 10 rfl) (cs := ([own_d 0 p1 p2 p3] : List Int32)) (bs := (([own_d 0 p1 p2 p3] : List Int32)).map (fun c => c.toInt8.toInt32)) (n := 1) g_b1 (own_le O4) ((A1.ext E2).wr W4) f_b1_3_value f_b1_3_coder V4 (S_COMPACT_STRINGS.ext O4.2) hzc rfl rfl (by decide) (by decide) hp rfl (by decide) (by decide)) (g := (mkF m 37 #[.val (.int 1), .val (.int p1), .val (.int p2), .val (.int p3)] [(.ref b2), (.ref b1), (.ref b1)])) rfl (by rw [hml]; rfl) (Steps.refl _) (a := b1) (argsL := [(.ref b2)]) (rest := [(.ref b1)]) (lenOf pd_7 rfl) rfl (by show 2 * 0 + _ ≤ _; exact Nat.le_of_eq rfl) (hb hby d2_37) (fun _ _ => ⟨rfl, e4, (by decide : 2 + 1 ≤ _), (by decide : 5 + 1 ≤ _)⟩)
  dsimp only [Pt.U, Pt.locs, Pt.cells, Pt.slots] at X5 l5 y5 z5 st5 hQ5
  subst l5 y5 z5
  obtain ⟨rfl, N5q, K5, Ex5, Fc5, t5, kt5, ut5, vt5, wt5, Fv5, Vt5⟩ := hQ5
  have N5 := Fr.app N4 N5q
  have O5 := O4.keep K5 (allS g_b1 all0)
  obtain ⟨fs, hr, hrun, hended, hW, hsame⟩ := X5.leave (v := some (.ref b1)) (fun h => by rw [Bd.returns] at h; cases h)
  refine ⟨_, _, pre0 _ ?_, hrun, hended, _, _, rfl, ?_, ⟨_, rfl⟩, hW, hsame.mono (by decide) (by decide)⟩
  · show oS p e below s₁ m 0 #[.val (.int 1), .val (.int p1), .val (.int p2), .val (.int p3)] [] _
    refine XS.iloadN X0.here hx rfl (hb hby d2_0) rfl ?_
    show oS p e below s₁ m 1 #[.val (.int 1), .val (.int p1), .val (.int p2), .val (.int p3)] [(.int 1)] _
    refine XS.ifYes X0.here hx rfl (pc0 := 1) (pc' := 15) rfl (hb hby d2_1) rfl ((if0 _ _).trans (feq (by decide : ¬ ((1 : Int32) = (0 : Int32)))).2) (by decide) (by decide) ?_
    show oS p e below s₁ m 15 #[.val (.int 1), .val (.int p1), .val (.int p2), .val (.int p3)] [] _
    refine XS.iloadN X0.here hx rfl (hb hby d2_15) rfl ?_
    show oS p e below s₁ m 16 #[.val (.int 1), .val (.int p1), .val (.int p2), .val (.int p3)] [(.int 1)] _
    refine XS.iconst X0.here hx rfl (hb hby d2_16) ?_
    show oS p e below s₁ m 17 #[.val (.int 1), .val (.int p1), .val (.int p2), .val (.int p3)] [(.int 1), (.int 1)] _
    refine XS.icmpNo X0.here hx rfl (hb hby d2_17) rfl (teq (by decide : (1 : Int32) = (1 : Int32))).2 ?_
    show oS p e below s₁ m 20 #[.val (.int 1), .val (.int p1), .val (.int p2), .val (.int p3)] [] _
    refine st1 _ ?_
    show oS p e below T1 m 23 #[.val (.int 1), .val (.int p1), .val (.int p2), .val (.int p3)] [(.ref b1)] _
    refine XS.dup X1.here hx rfl (hb hby d2_23) rfl rfl ?_
    show oS p e below T1 m 24 #[.val (.int 1), .val (.int p1), .val (.int p2), .val (.int p3)] [(.ref b1), (.ref b1)] _
    refine XS.iconst X1.here hx rfl (hb hby d2_24) ?_
    show oS p e below T1 m 25 #[.val (.int 1), .val (.int p1), .val (.int p2), .val (.int p3)] [(.int 1), (.ref b1), (.ref b1)] _
    refine st2 _ ?_
    show oS p e below T2 m 27 #[.val (.int 1), .val (.int p1), .val (.int p2), .val (.int p3)] [(.ref b2), (.ref b1), (.ref b1)] _
    refine XS.dup X2.here hx rfl (hb hby d2_27) rfl rfl ?_
    show oS p e below T2 m 28 #[.val (.int 1), .val (.int p1), .val (.int p2), .val (.int p3)] [(.ref b2), (.ref b2), (.ref b1), (.ref b1)] _
    refine XS.iconst X2.here hx rfl (hb hby d2_28) ?_
    show oS p e below T2 m 29 #[.val (.int 1), .val (.int p1), .val (.int p2), .val (.int p3)] [(.int 0), (.ref b2), (.ref b2), (.ref b1), (.ref b1)] _
    refine XS.iconst X2.here hx rfl (hb hby d2_29) ?_
    show oS p e below T2 m 30 #[.val (.int 1), .val (.int p1), .val (.int p2), .val (.int p3)] [(.int 0), (.int 0), (.ref b2), (.ref b2), (.ref b1), (.ref b1)] _
    refine XS.iloadN X2.here hx rfl (hb hby d2_30) rfl ?_
    show oS p e below T2 m 31 #[.val (.int 1), .val (.int p1), .val (.int p2), .val (.int p3)] [(.int p1), (.int 0), (.int 0), (.ref b2), (.ref b2), (.ref b1), (.ref b1)] _
    refine XS.iloadN X2.here hx rfl (hb hby d2_31) rfl ?_
    show oS p e below T2 m 32 #[.val (.int 1), .val (.int p1), .val (.int p2), .val (.int p3)] [(.int p2), (.int p1), (.int 0), (.int 0), (.ref b2), (.ref b2), (.ref b1), (.ref b1)] _
    refine XS.iloadN X2.here hx rfl (hb hby d2_32) rfl ?_
    show oS p e below T2 m 33 #[.val (.int 1), .val (.int p1), .val (.int p2), .val (.int p3)] [(.int p3), (.int p2), (.int p1), (.int 0), (.int 0), (.ref b2), (.ref b2), (.ref b1), (.ref b1)] _
    refine st3 _ ?_
    show oS p e below T3 m 36 #[.val (.int 1), .val (.int p1), .val (.int p2), .val (.int p3)] [(.int (own_c 0 p1 p2 p3)), (.int 0), (.ref b2), (.ref b2), (.ref b1), (.ref b1)] _
    refine st4 _ ?_
    show oS p e below T4 m 37 #[.val (.int 1), .val (.int p1), .val (.int p2), .val (.int p3)] [(.ref b2), (.ref b1), (.ref b1)] _
    refine st5.trans ?_
    show Steps p.tables e below (T5.setTop (mkF m 40 #[.val (.int 1), .val (.int p1), .val (.int p2), .val (.int p3)] [(.ref b1)])) _
    jvm_step X5.here [X5.here.top, hx, (hb hby d2_40), X5.method', Bd.returns, Value.isRef, FieldType.isReference]
    first | (intro acts; rw [hr _ acts rfl rfl rfl]) | rw [hr _ _ rfl rfl rfl]
    exact Steps.refl _
  · show own_QM Z ([own_d 0 p1 p2 p3] : List Int32) h0 n0 _ T5.heap _
    exact ⟨b1, t5, kt5, rfl, N5, (((((Keep.refl h0 []).ext E1).ext E2).wr W4 (Or.inr (Nat.le_trans E1.1 (Nat.le_of_eq g2.symm)))).trans K5 (allS (Or.inr (Nat.le_of_eq g1.symm)) all0)), Ex5, Fv5, Fc5, Vt5⟩
theorem d2_41 : decode method_4_code 41 = .ok (.iload_n 0, 1) := by decide +kernel
theorem d2_42 : decode method_4_code 42 = .ok (.iconst 2, 1) := by decide +kernel
theorem d2_43 : decode method_4_code 43 = .ok (.if_icmp .ne 34, 3) := by decide +kernel
theorem d2_46 : decode method_4_code 46 = .ok (.new 7, 3) := by decide +kernel
theorem d2_49 : decode method_4_code 49 = .ok (.dup, 1) := by decide +kernel
theorem d2_50 : decode method_4_code 50 = .ok (.iconst 2, 1) := by decide +kernel
theorem d2_51 : decode method_4_code 51 = .ok (.newarray .char, 2) := by decide +kernel
theorem d2_53 : decode method_4_code 53 = .ok (.dup, 1) := by decide +kernel
theorem d2_54 : decode method_4_code 54 = .ok (.iconst 0, 1) := by decide +kernel
theorem d2_55 : decode method_4_code 55 = .ok (.iconst 0, 1) := by decide +kernel
theorem d2_56 : decode method_4_code 56 = .ok (.iload_n 1, 1) := by decide +kernel
theorem d2_57 : decode method_4_code 57 = .ok (.iload_n 2, 1) := by decide +kernel
theorem d2_58 : decode method_4_code 58 = .ok (.iload_n 3, 1) := by decide +kernel
theorem d2_59 : decode method_4_code 59 = .ok (.invokestatic 12, 3) := by decide +kernel
theorem d2_62 : decode method_4_code 62 = .ok (.castore, 1) := by decide +kernel
theorem d2_63 : decode method_4_code 63 = .ok (.dup, 1) := by decide +kernel
theorem d2_64 : decode method_4_code 64 = .ok (.iconst 1, 1) := by decide +kernel
theorem d2_65 : decode method_4_code 65 = .ok (.iconst 1, 1) := by decide +kernel
theorem d2_66 : decode method_4_code 66 = .ok (.iload_n 1, 1) := by decide +kernel
theorem d2_67 : decode method_4_code 67 = .ok (.iload_n 2, 1) := by decide +kernel
theorem d2_68 : decode method_4_code 68 = .ok (.iload_n 3, 1) := by decide +kernel
theorem d2_69 : decode method_4_code 69 = .ok (.invokestatic 12, 3) := by decide +kernel
theorem d2_72 : decode method_4_code 72 = .ok (.castore, 1) := by decide +kernel
theorem d2_73 : decode method_4_code 73 = .ok (.invokespecial 9, 3) := by decide +kernel
theorem d2_76 : decode method_4_code 76 = .ok (.areturn, 1) := by decide +kernel
set_option maxRecDepth 65536 in
set_option maxHeartbeats 40000000 in
theorem rmM2 (l : Launch) (Z : State) (a0 : Array Value) (hw : ∀ d ∈ tables_1, d.before a0 Z = true) (ws : List Jvm.Cond) (p1 : Int32) (p2 : Int32) (p3 : Int32) (zc : Int32) (h0 : Heap) (n0 : Nat) (O0 : Old Z n0 h0) (S_COMPACT_STRINGS : Sta Z Z.heap "java/lang/String" "COMPACT_STRINGS" "Z" (.int zc)) (hzc : ¬ zc = 0) (hp : ∀ c ∈ ([own_d 0 p1 p2 p3, own_d 1 p1 p2 p3] : List Int32), ¬ c < 0 ∧ ¬ (255 : Int32) < c) :
    oM l Z (⟨"com/example/dispensd/dispensd/IdentifierIsValidPinLaw", "make", "(IICC)Ljava/lang/String;"⟩ : MethodName) method_4_code 4 (some (.object "java/lang/String")) ws ({ frames := 4, cells := 3, slots := 38, locals := 66 } : Room) #[(.int 2), (.int p1), (.int p2), (.int p3)] h0 (own_QM Z ([own_d 0 p1 p2 p3, own_d 1 p1 p2 p3] : List Int32) h0 n0) := by
  refine MetFree.of_bodySF (plainFor_of_name pn_2) hisR ?_
  intro p e s m args below meth c s₁ Bd hml0 hP hK
  obtain ⟨rfl, hZ, hh⟩ := hP
  have hx := Bd.exec
  have hby := Bd.bytes
  have hml : c.maxLocals = 4 := hml0
  have hown : s.vm.findClass "com/example/dispensd/dispensd/IdentifierIsValidPinLaw" = some m.cls := findClass_of_methodNamed Bd.named
  have hnm := (name_of_methodNamed Bd.named Bd.method).1
  have X0 : Stand p l e ({ frames := 4, cells := 3, slots := 38, locals := 66 } : Room) s m #[(.int 2), (.int p1), (.int p2), (.int p3)] below meth c s₁ [] 0 0 := Stand.of_body Bd
  have e0 : s₁.heap = h0 := by rw [← hh, Bd.state]; rfl
  have N0 := Fr.nil n0
  have pre0 : ∀ t, Steps p.tables e below (s₁.setTop (mkF m 0 #[.val (.int 2), .val (.int p1), .val (.int p2), .val (.int p3)] [])) t → Steps p.tables e below (s₁.setTop (entryFrame m #[(.int 2), (.int p1), (.int p2), (.int p3)] 4)) t := fun t k => castTop (ef_2 m (2 : Int32) p1 p2 p3) k
  obtain ⟨T1, h1, X1, e1, E1, A1, D1, U1, st1⟩ := newO X0 hx hZ hown (own_w hw 9 rfl) (own_w hw 10 rfl) (own_w hw 11 rfl) e0 (g := (mkF m 46 #[.val (.int 2), .val (.int p1), .val (.int p2), .val (.int p3)] [])) rfl (hb hby d2_46) (by decide) (by decide)
  obtain ⟨b1, g1⟩ : ∃ z, z = h0.size := ⟨_, rfl⟩
  rw [← g1] at A1 D1 U1 st1
  have Ut1 : Unt h1 b1 := U1
  have g_b1 : n0 ≤ b1 := Nat.le_trans (own_le O0) (Nat.le_of_eq g1.symm)
  have O1 := O0.ext E1
  have F_coder_b1 : Fld Z h1 b1 "java/lang/String" "coder" "B" (.int 0) := D1 (Or.inr (own_w hw 39 rfl)) (ty := .byte) (by decide)
  have F_value_b1 : Fld Z h1 b1 "java/lang/String" "value" "[B" .null := D1 (Or.inr (own_w hw 41 rfl)) (ty := (.array .byte)) (by decide)
  obtain ⟨T2, h2, k2, X2, e2, E2, A2, st2⟩ := newP X1 hx hZ (own_w hw 12 rfl) e1 (g := (mkF m 51 #[.val (.int 2), .val (.int p1), .val (.int p2), .val (.int p3)] [(.int 2), (.ref b1), (.ref b1)])) rfl (hb hby d2_51) rfl (by decide) (cap := 2) (by decide) (by decide) (by decide) (by decide)
  obtain ⟨b2, g2⟩ : ∃ z, z = h1.size := ⟨_, rfl⟩
  rw [← g2] at A2 st2
  have g_b2 : n0 ≤ b2 := Nat.le_trans (own_le O1) (Nat.le_of_eq g2.symm)
  have O2 := O1.ext E2
  have V_b2 : Arv Z h2 b2 k2 .char (2 : Int32) [(.int 0), (.int 0)] (.int 0) := (Arv.new A2 (by decide)).pad (pad_rep [] (.int 0) 2)
  obtain ⟨_, _, ⟨T3, L3, k3, n3⟩, -, X3, ⟨Lc3, hQ3, l3, y3, z3⟩, st3⟩ := Jvm.LawKit.callS X2 hx (y := (⟨"com/example/dispensd/dispensd/IdentifierIsValidPinLaw", "at", "(IICC)C"⟩ : MethodName)) hown (mvT hZ (own_w hw 13 rfl)) (mvT hZ (own_w hw 14 rfl)) (mvT hZ (own_w hw 7 rfl)) (mvT hZ (own_w hw 15 rfl)) (by decide) (backOf (W := 5) (rmAt l Z a0 hw [] (0 : Int32) p1 p2 p3  h2 n0 O2 ) hZ (own_w hw 15 rfl) (own_w hw 7 rfl) (by decide) (by decide)) (g := (mkF m 59 #[.val (.int 2), .val (.int p1), .val (.int p2), .val (.int p3)] [(.int p3), (.int p2), (.int p1), (.int 0), (.int 0), (.ref b2), (.ref b2), (.ref b1), (.ref b1)])) rfl (by rw [hml]; rfl) (argsL := [(.int 0), (.int p1), (.int p2), (.int p3)]) (rest := [(.int 0), (.ref b2), (.ref b2), (.ref b1), (.ref b1)]) (lenOf pd_6 rfl) rfl (by show 2 * 0 + _ ≤ _; exact Nat.le_of_eq rfl) (hb hby d2_59) (fun _ _ => ⟨rfl, e2, (by decide : 2 + 0 ≤ _), (by decide : 6 + 0 ≤ _)⟩)
  dsimp only [Pt.U, Pt.locs, Pt.cells, Pt.slots] at X3 l3 y3 z3 st3 hQ3
  subst l3 y3 z3
  obtain ⟨rfl, N3q, e3⟩ := hQ3
  have N3 := Fr.app N0 N3q
  obtain ⟨cl4, Ar4, qa4, Sz4, Ng4, Hs4, Ft4⟩ := V_b2
  obtain ⟨T4, h4, X4, e4, W4, st4⟩ := stC X3 hx hZ e3 Ar4 (j := (0 : Int32)) (inb_of Sz4 ⟨by decide, by decide⟩) (g := (mkF m 62 #[.val (.int 2), .val (.int p1), .val (.int p2), .val (.int p3)] [(.int (own_c 0 p1 p2 p3)), (.int 0), (.ref b2), (.ref b2), (.ref b1), (.ref b1)])) rfl rfl (hb hby d2_62)
  have O4 := O2.wr W4 g_b2
  have N4 := Fr.snoc X4 N3 g_b2
  have V4 : Arv Z h4 b2 k2 .char (2 : Int32) [(.int (own_d 0 p1 p2 p3)), (.int 0)] (.int 0) := Arv.set Ar4 qa4 Sz4 Ng4 Hs4 Ft4 (fits_nar_char _) W4 0 rfl (Nat.le_of_ble_eq_true rfl)
  obtain ⟨_, _, ⟨T5, L5, k5, n5⟩, -, X5, ⟨Lc5, hQ5, l5, y5, z5⟩, st5⟩ := Jvm.LawKit.callS X4 hx (y := (⟨"com/example/dispensd/dispensd/IdentifierIsValidPinLaw", "at", "(IICC)C"⟩ : MethodName)) hown (mvT hZ (own_w hw 13 rfl)) (mvT hZ (own_w hw 14 rfl)) (mvT hZ (own_w hw 7 rfl)) (mvT hZ (own_w hw 15 rfl)) (by decide) (backOf (W := 5) (rmAt l Z a0 hw [] (1 : Int32) p1 p2 p3  h4 n0 O4 ) hZ (own_w hw 15 rfl) (own_w hw 7 rfl) (by decide) (by decide)) (g := (mkF m 69 #[.val (.int 2), .val (.int p1), .val (.int p2), .val (.int p3)] [(.int p3), (.int p2), (.int p1), (.int 1), (.int 1), (.ref b2), (.ref b2), (.ref b1), (.ref b1)])) rfl (by rw [hml]; rfl) (argsL := [(.int 1), (.int p1), (.int p2), (.int p3)]) (rest := [(.int 1), (.ref b2), (.ref b2), (.ref b1), (.ref b1)]) (lenOf pd_6 rfl) rfl (by show 2 * 0 + _ ≤ _; exact Nat.le_of_eq rfl) (hb hby d2_69) (fun _ _ => ⟨rfl, e4, (by decide : 2 + 0 ≤ _), (by decide : 6 + 0 ≤ _)⟩)
  dsimp only [Pt.U, Pt.locs, Pt.cells, Pt.slots] at X5 l5 y5 z5 st5 hQ5
  subst l5 y5 z5
  obtain ⟨rfl, N5q, e5⟩ := hQ5
  have N5 := Fr.app N4 N5q
  obtain ⟨cl6, Ar6, qa6, Sz6, Ng6, Hs6, Ft6⟩ := V4
  obtain ⟨T6, h6, X6, e6, W6, st6⟩ := stC X5 hx hZ e5 Ar6 (j := (1 : Int32)) (inb_of Sz6 ⟨by decide, by decide⟩) (g := (mkF m 72 #[.val (.int 2), .val (.int p1), .val (.int p2), .val (.int p3)] [(.int (own_c 1 p1 p2 p3)), (.int 1), (.ref b2), (.ref b2), (.ref b1), (.ref b1)])) rfl rfl (hb hby d2_72)
  have O6 := O4.wr W6 g_b2
  have N6 := Fr.snoc X6 N5 g_b2
  have V6 : Arv Z h6 b2 k2 .char (2 : Int32) [(.int (own_d 0 p1 p2 p3)), (.int (own_d 1 p1 p2 p3))] (.int 0) := Arv.set Ar6 qa6 Sz6 Ng6 Hs6 Ft6 (fits_nar_char _) W6 1 rfl (Nat.le_of_ble_eq_true rfl)
  have f_b1_4_value := (((F_value_b1.ext E2).other W4 (Or.inl (Nat.ne_of_lt (Nat.lt_of_lt_of_le F_coder_b1.lt (Nat.le_of_eq g2.symm))))).other W6 (Or.inl (Nat.ne_of_lt (Nat.lt_of_lt_of_le F_coder_b1.lt (Nat.le_of_eq g2.symm)))))
  have f_b1_4_coder := (((F_coder_b1.ext E2).other W4 (Or.inl (Nat.ne_of_lt (Nat.lt_of_lt_of_le F_coder_b1.lt (Nat.le_of_eq g2.symm))))).other W6 (Or.inl (Nat.ne_of_lt (Nat.lt_of_lt_of_le F_coder_b1.lt (Nat.le_of_eq g2.symm)))))
  obtain ⟨_, _, ⟨T7, L7, k7, n7⟩, -, X7, ⟨Lc7, hQ7, l7, y7, z7⟩, st7⟩ := X6.specialBack hx (y := (⟨"java/lang/String", "<init>", "([C)V"⟩ : MethodName)) rfl hown (mvT hZ (own_w hw 16 rfl)) (mvT hZ (own_w hw 17 rfl)) (mvT hZ (own_w hw 18 rfl)) (by decide) (StrChars.Road.backV (W := 1) hZ (own_ws hw) (kI := 4) (own_w hw 10 rfl) (cs := ([own_d 0 p1 p2 p3, own_d 1 p1 p2 p3] : List Int32)) (bs := (([own_d 0 p1 p2 p3, own_d 1 p1 p2 p3] : List Int32)).map (fun c => c.toInt8.toInt32)) (n := 2) g_b1 (own_le O6) (((A1.ext E2).wr W4).wr W6) f_b1_4_value f_b1_4_coder V6 (S_COMPACT_STRINGS.ext O6.2) hzc rfl rfl (by decide) (by decide) hp rfl (by decide) (by decide)) (g := (mkF m 73 #[.val (.int 2), .val (.int p1), .val (.int p2), .val (.int p3)] [(.ref b2), (.ref b1), (.ref b1)])) rfl (by rw [hml]; rfl) (Steps.refl _) (a := b1) (argsL := [(.ref b2)]) (rest := [(.ref b1)]) (lenOf pd_7 rfl) rfl (by show 2 * 0 + _ ≤ _; exact Nat.le_of_eq rfl) (hb hby d2_73) (fun _ _ => ⟨rfl, e6, (by decide : 2 + 1 ≤ _), (by decide : 6 + 2 ≤ _)⟩)
  dsimp only [Pt.U, Pt.locs, Pt.cells, Pt.slots] at X7 l7 y7 z7 st7 hQ7
  subst l7 y7 z7
  obtain ⟨rfl, N7q, K7, Ex7, Fc7, t7, kt7, ut7, vt7, wt7, Fv7, Vt7⟩ := hQ7
  have N7 := Fr.app N6 N7q
  have O7 := O6.keep K7 (allS g_b1 all0)
  obtain ⟨fs, hr, hrun, hended, hW, hsame⟩ := X7.leave (v := some (.ref b1)) (fun h => by rw [Bd.returns] at h; cases h)
  refine ⟨_, _, pre0 _ ?_, hrun, hended, _, _, rfl, ?_, ⟨_, rfl⟩, hW, hsame.mono (by decide) (by decide)⟩
  · show oS p e below s₁ m 0 #[.val (.int 2), .val (.int p1), .val (.int p2), .val (.int p3)] [] _
    refine XS.iloadN X0.here hx rfl (hb hby d2_0) rfl ?_
    show oS p e below s₁ m 1 #[.val (.int 2), .val (.int p1), .val (.int p2), .val (.int p3)] [(.int 2)] _
    refine XS.ifYes X0.here hx rfl (pc0 := 1) (pc' := 15) rfl (hb hby d2_1) rfl ((if0 _ _).trans (feq (by decide : ¬ ((2 : Int32) = (0 : Int32)))).2) (by decide) (by decide) ?_
    show oS p e below s₁ m 15 #[.val (.int 2), .val (.int p1), .val (.int p2), .val (.int p3)] [] _
    refine XS.iloadN X0.here hx rfl (hb hby d2_15) rfl ?_
    show oS p e below s₁ m 16 #[.val (.int 2), .val (.int p1), .val (.int p2), .val (.int p3)] [(.int 2)] _
    refine XS.iconst X0.here hx rfl (hb hby d2_16) ?_
    show oS p e below s₁ m 17 #[.val (.int 2), .val (.int p1), .val (.int p2), .val (.int p3)] [(.int 1), (.int 2)] _
    refine XS.icmpYes X0.here hx rfl (pc0 := 17) (pc' := 41) rfl (hb hby d2_17) rfl (feq (by decide : ¬ ((2 : Int32) = (1 : Int32)))).2 (by decide) (by decide) ?_
    show oS p e below s₁ m 41 #[.val (.int 2), .val (.int p1), .val (.int p2), .val (.int p3)] [] _
    refine XS.iloadN X0.here hx rfl (hb hby d2_41) rfl ?_
    show oS p e below s₁ m 42 #[.val (.int 2), .val (.int p1), .val (.int p2), .val (.int p3)] [(.int 2)] _
    refine XS.iconst X0.here hx rfl (hb hby d2_42) ?_
    show oS p e below s₁ m 43 #[.val (.int 2), .val (.int p1), .val (.int p2), .val (.int p3)] [(.int 2), (.int 2)] _
    refine XS.icmpNo X0.here hx rfl (hb hby d2_43) rfl (teq (by decide : (2 : Int32) = (2 : Int32))).2 ?_
    show oS p e below s₁ m 46 #[.val (.int 2), .val (.int p1), .val (.int p2), .val (.int p3)] [] _
    refine st1 _ ?_
    show oS p e below T1 m 49 #[.val (.int 2), .val (.int p1), .val (.int p2), .val (.int p3)] [(.ref b1)] _
    refine XS.dup X1.here hx rfl (hb hby d2_49) rfl rfl ?_
    show oS p e below T1 m 50 #[.val (.int 2), .val (.int p1), .val (.int p2), .val (.int p3)] [(.ref b1), (.ref b1)] _
    refine XS.iconst X1.here hx rfl (hb hby d2_50) ?_
    show oS p e below T1 m 51 #[.val (.int 2), .val (.int p1), .val (.int p2), .val (.int p3)] [(.int 2), (.ref b1), (.ref b1)] _
    refine st2 _ ?_
    show oS p e below T2 m 53 #[.val (.int 2), .val (.int p1), .val (.int p2), .val (.int p3)] [(.ref b2), (.ref b1), (.ref b1)] _
    refine XS.dup X2.here hx rfl (hb hby d2_53) rfl rfl ?_
    show oS p e below T2 m 54 #[.val (.int 2), .val (.int p1), .val (.int p2), .val (.int p3)] [(.ref b2), (.ref b2), (.ref b1), (.ref b1)] _
    refine XS.iconst X2.here hx rfl (hb hby d2_54) ?_
    show oS p e below T2 m 55 #[.val (.int 2), .val (.int p1), .val (.int p2), .val (.int p3)] [(.int 0), (.ref b2), (.ref b2), (.ref b1), (.ref b1)] _
    refine XS.iconst X2.here hx rfl (hb hby d2_55) ?_
    show oS p e below T2 m 56 #[.val (.int 2), .val (.int p1), .val (.int p2), .val (.int p3)] [(.int 0), (.int 0), (.ref b2), (.ref b2), (.ref b1), (.ref b1)] _
    refine XS.iloadN X2.here hx rfl (hb hby d2_56) rfl ?_
    show oS p e below T2 m 57 #[.val (.int 2), .val (.int p1), .val (.int p2), .val (.int p3)] [(.int p1), (.int 0), (.int 0), (.ref b2), (.ref b2), (.ref b1), (.ref b1)] _
    refine XS.iloadN X2.here hx rfl (hb hby d2_57) rfl ?_
    show oS p e below T2 m 58 #[.val (.int 2), .val (.int p1), .val (.int p2), .val (.int p3)] [(.int p2), (.int p1), (.int 0), (.int 0), (.ref b2), (.ref b2), (.ref b1), (.ref b1)] _
    refine XS.iloadN X2.here hx rfl (hb hby d2_58) rfl ?_
    show oS p e below T2 m 59 #[.val (.int 2), .val (.int p1), .val (.int p2), .val (.int p3)] [(.int p3), (.int p2), (.int p1), (.int 0), (.int 0), (.ref b2), (.ref b2), (.ref b1), (.ref b1)] _
    refine st3 _ ?_
    show oS p e below T3 m 62 #[.val (.int 2), .val (.int p1), .val (.int p2), .val (.int p3)] [(.int (own_c 0 p1 p2 p3)), (.int 0), (.ref b2), (.ref b2), (.ref b1), (.ref b1)] _
    refine st4 _ ?_
    show oS p e below T4 m 63 #[.val (.int 2), .val (.int p1), .val (.int p2), .val (.int p3)] [(.ref b2), (.ref b1), (.ref b1)] _
    refine XS.dup X4.here hx rfl (hb hby d2_63) rfl rfl ?_
    show oS p e below T4 m 64 #[.val (.int 2), .val (.int p1), .val (.int p2), .val (.int p3)] [(.ref b2), (.ref b2), (.ref b1), (.ref b1)] _
    refine XS.iconst X4.here hx rfl (hb hby d2_64) ?_
    show oS p e below T4 m 65 #[.val (.int 2), .val (.int p1), .val (.int p2), .val (.int p3)] [(.int 1), (.ref b2), (.ref b2), (.ref b1), (.ref b1)] _
    refine XS.iconst X4.here hx rfl (hb hby d2_65) ?_
    show oS p e below T4 m 66 #[.val (.int 2), .val (.int p1), .val (.int p2), .val (.int p3)] [(.int 1), (.int 1), (.ref b2), (.ref b2), (.ref b1), (.ref b1)] _
    refine XS.iloadN X4.here hx rfl (hb hby d2_66) rfl ?_
    show oS p e below T4 m 67 #[.val (.int 2), .val (.int p1), .val (.int p2), .val (.int p3)] [(.int p1), (.int 1), (.int 1), (.ref b2), (.ref b2), (.ref b1), (.ref b1)] _
    refine XS.iloadN X4.here hx rfl (hb hby d2_67) rfl ?_
    show oS p e below T4 m 68 #[.val (.int 2), .val (.int p1), .val (.int p2), .val (.int p3)] [(.int p2), (.int p1), (.int 1), (.int 1), (.ref b2), (.ref b2), (.ref b1), (.ref b1)] _
    refine XS.iloadN X4.here hx rfl (hb hby d2_68) rfl ?_
    show oS p e below T4 m 69 #[.val (.int 2), .val (.int p1), .val (.int p2), .val (.int p3)] [(.int p3), (.int p2), (.int p1), (.int 1), (.int 1), (.ref b2), (.ref b2), (.ref b1), (.ref b1)] _
    refine st5 _ ?_
    show oS p e below T5 m 72 #[.val (.int 2), .val (.int p1), .val (.int p2), .val (.int p3)] [(.int (own_c 1 p1 p2 p3)), (.int 1), (.ref b2), (.ref b2), (.ref b1), (.ref b1)] _
    refine st6 _ ?_
    show oS p e below T6 m 73 #[.val (.int 2), .val (.int p1), .val (.int p2), .val (.int p3)] [(.ref b2), (.ref b1), (.ref b1)] _
    refine st7.trans ?_
    show Steps p.tables e below (T7.setTop (mkF m 76 #[.val (.int 2), .val (.int p1), .val (.int p2), .val (.int p3)] [(.ref b1)])) _
    jvm_step X7.here [X7.here.top, hx, (hb hby d2_76), X7.method', Bd.returns, Value.isRef, FieldType.isReference]
    first | (intro acts; rw [hr _ acts rfl rfl rfl]) | rw [hr _ _ rfl rfl rfl]
    exact Steps.refl _
  · show own_QM Z ([own_d 0 p1 p2 p3, own_d 1 p1 p2 p3] : List Int32) h0 n0 _ T7.heap _
    exact ⟨b1, t7, kt7, rfl, N7, ((((((Keep.refl h0 []).ext E1).ext E2).wr W4 (Or.inr (Nat.le_trans E1.1 (Nat.le_of_eq g2.symm)))).wr W6 (Or.inr (Nat.le_trans E1.1 (Nat.le_of_eq g2.symm)))).trans K7 (allS (Or.inr (Nat.le_of_eq g1.symm)) all0)), Ex7, Fv7, Fc7, Vt7⟩
theorem d2_77 : decode method_4_code 77 = .ok (.iload_n 0, 1) := by decide +kernel
theorem d2_78 : decode method_4_code 78 = .ok (.iconst 3, 1) := by decide +kernel
theorem d2_79 : decode method_4_code 79 = .ok (.if_icmp .ne 44, 3) := by decide +kernel
theorem d2_82 : decode method_4_code 82 = .ok (.new 7, 3) := by decide +kernel
theorem d2_85 : decode method_4_code 85 = .ok (.dup, 1) := by decide +kernel
theorem d2_86 : decode method_4_code 86 = .ok (.iconst 3, 1) := by decide +kernel
theorem d2_87 : decode method_4_code 87 = .ok (.newarray .char, 2) := by decide +kernel
theorem d2_89 : decode method_4_code 89 = .ok (.dup, 1) := by decide +kernel
theorem d2_90 : decode method_4_code 90 = .ok (.iconst 0, 1) := by decide +kernel
theorem d2_91 : decode method_4_code 91 = .ok (.iconst 0, 1) := by decide +kernel
theorem d2_92 : decode method_4_code 92 = .ok (.iload_n 1, 1) := by decide +kernel
theorem d2_93 : decode method_4_code 93 = .ok (.iload_n 2, 1) := by decide +kernel
theorem d2_94 : decode method_4_code 94 = .ok (.iload_n 3, 1) := by decide +kernel
theorem d2_95 : decode method_4_code 95 = .ok (.invokestatic 12, 3) := by decide +kernel
theorem d2_98 : decode method_4_code 98 = .ok (.castore, 1) := by decide +kernel
theorem d2_99 : decode method_4_code 99 = .ok (.dup, 1) := by decide +kernel
theorem d2_100 : decode method_4_code 100 = .ok (.iconst 1, 1) := by decide +kernel
theorem d2_101 : decode method_4_code 101 = .ok (.iconst 1, 1) := by decide +kernel
theorem d2_102 : decode method_4_code 102 = .ok (.iload_n 1, 1) := by decide +kernel
theorem d2_103 : decode method_4_code 103 = .ok (.iload_n 2, 1) := by decide +kernel
theorem d2_104 : decode method_4_code 104 = .ok (.iload_n 3, 1) := by decide +kernel
theorem d2_105 : decode method_4_code 105 = .ok (.invokestatic 12, 3) := by decide +kernel
theorem d2_108 : decode method_4_code 108 = .ok (.castore, 1) := by decide +kernel
theorem d2_109 : decode method_4_code 109 = .ok (.dup, 1) := by decide +kernel
theorem d2_110 : decode method_4_code 110 = .ok (.iconst 2, 1) := by decide +kernel
theorem d2_111 : decode method_4_code 111 = .ok (.iconst 2, 1) := by decide +kernel
theorem d2_112 : decode method_4_code 112 = .ok (.iload_n 1, 1) := by decide +kernel
theorem d2_113 : decode method_4_code 113 = .ok (.iload_n 2, 1) := by decide +kernel
theorem d2_114 : decode method_4_code 114 = .ok (.iload_n 3, 1) := by decide +kernel
theorem d2_115 : decode method_4_code 115 = .ok (.invokestatic 12, 3) := by decide +kernel
theorem d2_118 : decode method_4_code 118 = .ok (.castore, 1) := by decide +kernel
theorem d2_119 : decode method_4_code 119 = .ok (.invokespecial 9, 3) := by decide +kernel
theorem d2_122 : decode method_4_code 122 = .ok (.areturn, 1) := by decide +kernel
set_option maxRecDepth 65536 in
set_option maxHeartbeats 40000000 in
theorem rmM3 (l : Launch) (Z : State) (a0 : Array Value) (hw : ∀ d ∈ tables_1, d.before a0 Z = true) (ws : List Jvm.Cond) (p1 : Int32) (p2 : Int32) (p3 : Int32) (zc : Int32) (h0 : Heap) (n0 : Nat) (O0 : Old Z n0 h0) (S_COMPACT_STRINGS : Sta Z Z.heap "java/lang/String" "COMPACT_STRINGS" "Z" (.int zc)) (hzc : ¬ zc = 0) (hp : ∀ c ∈ ([own_d 0 p1 p2 p3, own_d 1 p1 p2 p3, own_d 2 p1 p2 p3] : List Int32), ¬ c < 0 ∧ ¬ (255 : Int32) < c) :
    oM l Z (⟨"com/example/dispensd/dispensd/IdentifierIsValidPinLaw", "make", "(IICC)Ljava/lang/String;"⟩ : MethodName) method_4_code 4 (some (.object "java/lang/String")) ws ({ frames := 4, cells := 3, slots := 38, locals := 66 } : Room) #[(.int 3), (.int p1), (.int p2), (.int p3)] h0 (own_QM Z ([own_d 0 p1 p2 p3, own_d 1 p1 p2 p3, own_d 2 p1 p2 p3] : List Int32) h0 n0) := by
  refine MetFree.of_bodySF (plainFor_of_name pn_2) hisR ?_
  intro p e s m args below meth c s₁ Bd hml0 hP hK
  obtain ⟨rfl, hZ, hh⟩ := hP
  have hx := Bd.exec
  have hby := Bd.bytes
  have hml : c.maxLocals = 4 := hml0
  have hown : s.vm.findClass "com/example/dispensd/dispensd/IdentifierIsValidPinLaw" = some m.cls := findClass_of_methodNamed Bd.named
  have hnm := (name_of_methodNamed Bd.named Bd.method).1
  have X0 : Stand p l e ({ frames := 4, cells := 3, slots := 38, locals := 66 } : Room) s m #[(.int 3), (.int p1), (.int p2), (.int p3)] below meth c s₁ [] 0 0 := Stand.of_body Bd
  have e0 : s₁.heap = h0 := by rw [← hh, Bd.state]; rfl
  have N0 := Fr.nil n0
  have pre0 : ∀ t, Steps p.tables e below (s₁.setTop (mkF m 0 #[.val (.int 3), .val (.int p1), .val (.int p2), .val (.int p3)] [])) t → Steps p.tables e below (s₁.setTop (entryFrame m #[(.int 3), (.int p1), (.int p2), (.int p3)] 4)) t := fun t k => castTop (ef_2 m (3 : Int32) p1 p2 p3) k
  obtain ⟨T1, h1, X1, e1, E1, A1, D1, U1, st1⟩ := newO X0 hx hZ hown (own_w hw 9 rfl) (own_w hw 10 rfl) (own_w hw 11 rfl) e0 (g := (mkF m 82 #[.val (.int 3), .val (.int p1), .val (.int p2), .val (.int p3)] [])) rfl (hb hby d2_82) (by decide) (by decide)
  obtain ⟨b1, g1⟩ : ∃ z, z = h0.size := ⟨_, rfl⟩
  rw [← g1] at A1 D1 U1 st1
  have Ut1 : Unt h1 b1 := U1
  have g_b1 : n0 ≤ b1 := Nat.le_trans (own_le O0) (Nat.le_of_eq g1.symm)
  have O1 := O0.ext E1
  have F_coder_b1 : Fld Z h1 b1 "java/lang/String" "coder" "B" (.int 0) := D1 (Or.inr (own_w hw 39 rfl)) (ty := .byte) (by decide)
  have F_value_b1 : Fld Z h1 b1 "java/lang/String" "value" "[B" .null := D1 (Or.inr (own_w hw 41 rfl)) (ty := (.array .byte)) (by decide)
  obtain ⟨T2, h2, k2, X2, e2, E2, A2, st2⟩ := newP X1 hx hZ (own_w hw 12 rfl) e1 (g := (mkF m 87 #[.val (.int 3), .val (.int p1), .val (.int p2), .val (.int p3)] [(.int 3), (.ref b1), (.ref b1)])) rfl (hb hby d2_87) rfl (by decide) (cap := 3) (by decide) (by decide) (by decide) (by decide)
  obtain ⟨b2, g2⟩ : ∃ z, z = h1.size := ⟨_, rfl⟩
  rw [← g2] at A2 st2
  have g_b2 : n0 ≤ b2 := Nat.le_trans (own_le O1) (Nat.le_of_eq g2.symm)
  have O2 := O1.ext E2
  have V_b2 : Arv Z h2 b2 k2 .char (3 : Int32) [(.int 0), (.int 0), (.int 0)] (.int 0) := (Arv.new A2 (by decide)).pad (pad_rep [] (.int 0) 3)
  obtain ⟨_, _, ⟨T3, L3, k3, n3⟩, -, X3, ⟨Lc3, hQ3, l3, y3, z3⟩, st3⟩ := Jvm.LawKit.callS X2 hx (y := (⟨"com/example/dispensd/dispensd/IdentifierIsValidPinLaw", "at", "(IICC)C"⟩ : MethodName)) hown (mvT hZ (own_w hw 13 rfl)) (mvT hZ (own_w hw 14 rfl)) (mvT hZ (own_w hw 7 rfl)) (mvT hZ (own_w hw 15 rfl)) (by decide) (backOf (W := 5) (rmAt l Z a0 hw [] (0 : Int32) p1 p2 p3  h2 n0 O2 ) hZ (own_w hw 15 rfl) (own_w hw 7 rfl) (by decide) (by decide)) (g := (mkF m 95 #[.val (.int 3), .val (.int p1), .val (.int p2), .val (.int p3)] [(.int p3), (.int p2), (.int p1), (.int 0), (.int 0), (.ref b2), (.ref b2), (.ref b1), (.ref b1)])) rfl (by rw [hml]; rfl) (argsL := [(.int 0), (.int p1), (.int p2), (.int p3)]) (rest := [(.int 0), (.ref b2), (.ref b2), (.ref b1), (.ref b1)]) (lenOf pd_6 rfl) rfl (by show 2 * 0 + _ ≤ _; exact Nat.le_of_eq rfl) (hb hby d2_95) (fun _ _ => ⟨rfl, e2, (by decide : 2 + 0 ≤ _), (by decide : 7 + 0 ≤ _)⟩)
  dsimp only [Pt.U, Pt.locs, Pt.cells, Pt.slots] at X3 l3 y3 z3 st3 hQ3
  subst l3 y3 z3
  obtain ⟨rfl, N3q, e3⟩ := hQ3
  have N3 := Fr.app N0 N3q
  obtain ⟨cl4, Ar4, qa4, Sz4, Ng4, Hs4, Ft4⟩ := V_b2
  obtain ⟨T4, h4, X4, e4, W4, st4⟩ := stC X3 hx hZ e3 Ar4 (j := (0 : Int32)) (inb_of Sz4 ⟨by decide, by decide⟩) (g := (mkF m 98 #[.val (.int 3), .val (.int p1), .val (.int p2), .val (.int p3)] [(.int (own_c 0 p1 p2 p3)), (.int 0), (.ref b2), (.ref b2), (.ref b1), (.ref b1)])) rfl rfl (hb hby d2_98)
  have O4 := O2.wr W4 g_b2
  have N4 := Fr.snoc X4 N3 g_b2
  have V4 : Arv Z h4 b2 k2 .char (3 : Int32) [(.int (own_d 0 p1 p2 p3)), (.int 0), (.int 0)] (.int 0) := Arv.set Ar4 qa4 Sz4 Ng4 Hs4 Ft4 (fits_nar_char _) W4 0 rfl (Nat.le_of_ble_eq_true rfl)
  obtain ⟨_, _, ⟨T5, L5, k5, n5⟩, -, X5, ⟨Lc5, hQ5, l5, y5, z5⟩, st5⟩ := Jvm.LawKit.callS X4 hx (y := (⟨"com/example/dispensd/dispensd/IdentifierIsValidPinLaw", "at", "(IICC)C"⟩ : MethodName)) hown (mvT hZ (own_w hw 13 rfl)) (mvT hZ (own_w hw 14 rfl)) (mvT hZ (own_w hw 7 rfl)) (mvT hZ (own_w hw 15 rfl)) (by decide) (backOf (W := 5) (rmAt l Z a0 hw [] (1 : Int32) p1 p2 p3  h4 n0 O4 ) hZ (own_w hw 15 rfl) (own_w hw 7 rfl) (by decide) (by decide)) (g := (mkF m 105 #[.val (.int 3), .val (.int p1), .val (.int p2), .val (.int p3)] [(.int p3), (.int p2), (.int p1), (.int 1), (.int 1), (.ref b2), (.ref b2), (.ref b1), (.ref b1)])) rfl (by rw [hml]; rfl) (argsL := [(.int 1), (.int p1), (.int p2), (.int p3)]) (rest := [(.int 1), (.ref b2), (.ref b2), (.ref b1), (.ref b1)]) (lenOf pd_6 rfl) rfl (by show 2 * 0 + _ ≤ _; exact Nat.le_of_eq rfl) (hb hby d2_105) (fun _ _ => ⟨rfl, e4, (by decide : 2 + 0 ≤ _), (by decide : 7 + 0 ≤ _)⟩)
  dsimp only [Pt.U, Pt.locs, Pt.cells, Pt.slots] at X5 l5 y5 z5 st5 hQ5
  subst l5 y5 z5
  obtain ⟨rfl, N5q, e5⟩ := hQ5
  have N5 := Fr.app N4 N5q
  obtain ⟨cl6, Ar6, qa6, Sz6, Ng6, Hs6, Ft6⟩ := V4
  obtain ⟨T6, h6, X6, e6, W6, st6⟩ := stC X5 hx hZ e5 Ar6 (j := (1 : Int32)) (inb_of Sz6 ⟨by decide, by decide⟩) (g := (mkF m 108 #[.val (.int 3), .val (.int p1), .val (.int p2), .val (.int p3)] [(.int (own_c 1 p1 p2 p3)), (.int 1), (.ref b2), (.ref b2), (.ref b1), (.ref b1)])) rfl rfl (hb hby d2_108)
  have O6 := O4.wr W6 g_b2
  have N6 := Fr.snoc X6 N5 g_b2
  have V6 : Arv Z h6 b2 k2 .char (3 : Int32) [(.int (own_d 0 p1 p2 p3)), (.int (own_d 1 p1 p2 p3)), (.int 0)] (.int 0) := Arv.set Ar6 qa6 Sz6 Ng6 Hs6 Ft6 (fits_nar_char _) W6 1 rfl (Nat.le_of_ble_eq_true rfl)
  obtain ⟨_, _, ⟨T7, L7, k7, n7⟩, -, X7, ⟨Lc7, hQ7, l7, y7, z7⟩, st7⟩ := Jvm.LawKit.callS X6 hx (y := (⟨"com/example/dispensd/dispensd/IdentifierIsValidPinLaw", "at", "(IICC)C"⟩ : MethodName)) hown (mvT hZ (own_w hw 13 rfl)) (mvT hZ (own_w hw 14 rfl)) (mvT hZ (own_w hw 7 rfl)) (mvT hZ (own_w hw 15 rfl)) (by decide) (backOf (W := 5) (rmAt l Z a0 hw [] (2 : Int32) p1 p2 p3  h6 n0 O6 ) hZ (own_w hw 15 rfl) (own_w hw 7 rfl) (by decide) (by decide)) (g := (mkF m 115 #[.val (.int 3), .val (.int p1), .val (.int p2), .val (.int p3)] [(.int p3), (.int p2), (.int p1), (.int 2), (.int 2), (.ref b2), (.ref b2), (.ref b1), (.ref b1)])) rfl (by rw [hml]; rfl) (argsL := [(.int 2), (.int p1), (.int p2), (.int p3)]) (rest := [(.int 2), (.ref b2), (.ref b2), (.ref b1), (.ref b1)]) (lenOf pd_6 rfl) rfl (by show 2 * 0 + _ ≤ _; exact Nat.le_of_eq rfl) (hb hby d2_115) (fun _ _ => ⟨rfl, e6, (by decide : 2 + 0 ≤ _), (by decide : 7 + 0 ≤ _)⟩)
  dsimp only [Pt.U, Pt.locs, Pt.cells, Pt.slots] at X7 l7 y7 z7 st7 hQ7
  subst l7 y7 z7
  obtain ⟨rfl, N7q, e7⟩ := hQ7
  have N7 := Fr.app N6 N7q
  obtain ⟨cl8, Ar8, qa8, Sz8, Ng8, Hs8, Ft8⟩ := V6
  obtain ⟨T8, h8, X8, e8, W8, st8⟩ := stC X7 hx hZ e7 Ar8 (j := (2 : Int32)) (inb_of Sz8 ⟨by decide, by decide⟩) (g := (mkF m 118 #[.val (.int 3), .val (.int p1), .val (.int p2), .val (.int p3)] [(.int (own_c 2 p1 p2 p3)), (.int 2), (.ref b2), (.ref b2), (.ref b1), (.ref b1)])) rfl rfl (hb hby d2_118)
  have O8 := O6.wr W8 g_b2
  have N8 := Fr.snoc X8 N7 g_b2
  have V8 : Arv Z h8 b2 k2 .char (3 : Int32) [(.int (own_d 0 p1 p2 p3)), (.int (own_d 1 p1 p2 p3)), (.int (own_d 2 p1 p2 p3))] (.int 0) := Arv.set Ar8 qa8 Sz8 Ng8 Hs8 Ft8 (fits_nar_char _) W8 2 rfl (Nat.le_of_ble_eq_true rfl)
  have f_b1_5_value := ((((F_value_b1.ext E2).other W4 (Or.inl (Nat.ne_of_lt (Nat.lt_of_lt_of_le F_coder_b1.lt (Nat.le_of_eq g2.symm))))).other W6 (Or.inl (Nat.ne_of_lt (Nat.lt_of_lt_of_le F_coder_b1.lt (Nat.le_of_eq g2.symm))))).other W8 (Or.inl (Nat.ne_of_lt (Nat.lt_of_lt_of_le F_coder_b1.lt (Nat.le_of_eq g2.symm)))))
  have f_b1_5_coder := ((((F_coder_b1.ext E2).other W4 (Or.inl (Nat.ne_of_lt (Nat.lt_of_lt_of_le F_coder_b1.lt (Nat.le_of_eq g2.symm))))).other W6 (Or.inl (Nat.ne_of_lt (Nat.lt_of_lt_of_le F_coder_b1.lt (Nat.le_of_eq g2.symm))))).other W8 (Or.inl (Nat.ne_of_lt (Nat.lt_of_lt_of_le F_coder_b1.lt (Nat.le_of_eq g2.symm)))))
  obtain ⟨_, _, ⟨T9, L9, k9, n9⟩, -, X9, ⟨Lc9, hQ9, l9, y9, z9⟩, st9⟩ := X8.specialBack hx (y := (⟨"java/lang/String", "<init>", "([C)V"⟩ : MethodName)) rfl hown (mvT hZ (own_w hw 16 rfl)) (mvT hZ (own_w hw 17 rfl)) (mvT hZ (own_w hw 18 rfl)) (by decide) (StrChars.Road.backV (W := 1) hZ (own_ws hw) (kI := 4) (own_w hw 10 rfl) (cs := ([own_d 0 p1 p2 p3, own_d 1 p1 p2 p3, own_d 2 p1 p2 p3] : List Int32)) (bs := (([own_d 0 p1 p2 p3, own_d 1 p1 p2 p3, own_d 2 p1 p2 p3] : List Int32)).map (fun c => c.toInt8.toInt32)) (n := 3) g_b1 (own_le O8) ((((A1.ext E2).wr W4).wr W6).wr W8) f_b1_5_value f_b1_5_coder V8 (S_COMPACT_STRINGS.ext O8.2) hzc rfl rfl (by decide) (by decide) hp rfl (by decide) (by decide)) (g := (mkF m 119 #[.val (.int 3), .val (.int p1), .val (.int p2), .val (.int p3)] [(.ref b2), (.ref b1), (.ref b1)])) rfl (by rw [hml]; rfl) (Steps.refl _) (a := b1) (argsL := [(.ref b2)]) (rest := [(.ref b1)]) (lenOf pd_7 rfl) rfl (by show 2 * 0 + _ ≤ _; exact Nat.le_of_eq rfl) (hb hby d2_119) (fun _ _ => ⟨rfl, e8, (by decide : 2 + 1 ≤ _), (by decide : 7 + 3 ≤ _)⟩)
  dsimp only [Pt.U, Pt.locs, Pt.cells, Pt.slots] at X9 l9 y9 z9 st9 hQ9
  subst l9 y9 z9
  obtain ⟨rfl, N9q, K9, Ex9, Fc9, t9, kt9, ut9, vt9, wt9, Fv9, Vt9⟩ := hQ9
  have N9 := Fr.app N8 N9q
  have O9 := O8.keep K9 (allS g_b1 all0)
  obtain ⟨fs, hr, hrun, hended, hW, hsame⟩ := X9.leave (v := some (.ref b1)) (fun h => by rw [Bd.returns] at h; cases h)
  refine ⟨_, _, pre0 _ ?_, hrun, hended, _, _, rfl, ?_, ⟨_, rfl⟩, hW, hsame.mono (by decide) (by decide)⟩
  · show oS p e below s₁ m 0 #[.val (.int 3), .val (.int p1), .val (.int p2), .val (.int p3)] [] _
    refine XS.iloadN X0.here hx rfl (hb hby d2_0) rfl ?_
    show oS p e below s₁ m 1 #[.val (.int 3), .val (.int p1), .val (.int p2), .val (.int p3)] [(.int 3)] _
    refine XS.ifYes X0.here hx rfl (pc0 := 1) (pc' := 15) rfl (hb hby d2_1) rfl ((if0 _ _).trans (feq (by decide : ¬ ((3 : Int32) = (0 : Int32)))).2) (by decide) (by decide) ?_
    show oS p e below s₁ m 15 #[.val (.int 3), .val (.int p1), .val (.int p2), .val (.int p3)] [] _
    refine XS.iloadN X0.here hx rfl (hb hby d2_15) rfl ?_
    show oS p e below s₁ m 16 #[.val (.int 3), .val (.int p1), .val (.int p2), .val (.int p3)] [(.int 3)] _
    refine XS.iconst X0.here hx rfl (hb hby d2_16) ?_
    show oS p e below s₁ m 17 #[.val (.int 3), .val (.int p1), .val (.int p2), .val (.int p3)] [(.int 1), (.int 3)] _
    refine XS.icmpYes X0.here hx rfl (pc0 := 17) (pc' := 41) rfl (hb hby d2_17) rfl (feq (by decide : ¬ ((3 : Int32) = (1 : Int32)))).2 (by decide) (by decide) ?_
    show oS p e below s₁ m 41 #[.val (.int 3), .val (.int p1), .val (.int p2), .val (.int p3)] [] _
    refine XS.iloadN X0.here hx rfl (hb hby d2_41) rfl ?_
    show oS p e below s₁ m 42 #[.val (.int 3), .val (.int p1), .val (.int p2), .val (.int p3)] [(.int 3)] _
    refine XS.iconst X0.here hx rfl (hb hby d2_42) ?_
    show oS p e below s₁ m 43 #[.val (.int 3), .val (.int p1), .val (.int p2), .val (.int p3)] [(.int 2), (.int 3)] _
    refine XS.icmpYes X0.here hx rfl (pc0 := 43) (pc' := 77) rfl (hb hby d2_43) rfl (feq (by decide : ¬ ((3 : Int32) = (2 : Int32)))).2 (by decide) (by decide) ?_
    show oS p e below s₁ m 77 #[.val (.int 3), .val (.int p1), .val (.int p2), .val (.int p3)] [] _
    refine XS.iloadN X0.here hx rfl (hb hby d2_77) rfl ?_
    show oS p e below s₁ m 78 #[.val (.int 3), .val (.int p1), .val (.int p2), .val (.int p3)] [(.int 3)] _
    refine XS.iconst X0.here hx rfl (hb hby d2_78) ?_
    show oS p e below s₁ m 79 #[.val (.int 3), .val (.int p1), .val (.int p2), .val (.int p3)] [(.int 3), (.int 3)] _
    refine XS.icmpNo X0.here hx rfl (hb hby d2_79) rfl (teq (by decide : (3 : Int32) = (3 : Int32))).2 ?_
    show oS p e below s₁ m 82 #[.val (.int 3), .val (.int p1), .val (.int p2), .val (.int p3)] [] _
    refine st1 _ ?_
    show oS p e below T1 m 85 #[.val (.int 3), .val (.int p1), .val (.int p2), .val (.int p3)] [(.ref b1)] _
    refine XS.dup X1.here hx rfl (hb hby d2_85) rfl rfl ?_
    show oS p e below T1 m 86 #[.val (.int 3), .val (.int p1), .val (.int p2), .val (.int p3)] [(.ref b1), (.ref b1)] _
    refine XS.iconst X1.here hx rfl (hb hby d2_86) ?_
    show oS p e below T1 m 87 #[.val (.int 3), .val (.int p1), .val (.int p2), .val (.int p3)] [(.int 3), (.ref b1), (.ref b1)] _
    refine st2 _ ?_
    show oS p e below T2 m 89 #[.val (.int 3), .val (.int p1), .val (.int p2), .val (.int p3)] [(.ref b2), (.ref b1), (.ref b1)] _
    refine XS.dup X2.here hx rfl (hb hby d2_89) rfl rfl ?_
    show oS p e below T2 m 90 #[.val (.int 3), .val (.int p1), .val (.int p2), .val (.int p3)] [(.ref b2), (.ref b2), (.ref b1), (.ref b1)] _
    refine XS.iconst X2.here hx rfl (hb hby d2_90) ?_
    show oS p e below T2 m 91 #[.val (.int 3), .val (.int p1), .val (.int p2), .val (.int p3)] [(.int 0), (.ref b2), (.ref b2), (.ref b1), (.ref b1)] _
    refine XS.iconst X2.here hx rfl (hb hby d2_91) ?_
    show oS p e below T2 m 92 #[.val (.int 3), .val (.int p1), .val (.int p2), .val (.int p3)] [(.int 0), (.int 0), (.ref b2), (.ref b2), (.ref b1), (.ref b1)] _
    refine XS.iloadN X2.here hx rfl (hb hby d2_92) rfl ?_
    show oS p e below T2 m 93 #[.val (.int 3), .val (.int p1), .val (.int p2), .val (.int p3)] [(.int p1), (.int 0), (.int 0), (.ref b2), (.ref b2), (.ref b1), (.ref b1)] _
    refine XS.iloadN X2.here hx rfl (hb hby d2_93) rfl ?_
    show oS p e below T2 m 94 #[.val (.int 3), .val (.int p1), .val (.int p2), .val (.int p3)] [(.int p2), (.int p1), (.int 0), (.int 0), (.ref b2), (.ref b2), (.ref b1), (.ref b1)] _
    refine XS.iloadN X2.here hx rfl (hb hby d2_94) rfl ?_
    show oS p e below T2 m 95 #[.val (.int 3), .val (.int p1), .val (.int p2), .val (.int p3)] [(.int p3), (.int p2), (.int p1), (.int 0), (.int 0), (.ref b2), (.ref b2), (.ref b1), (.ref b1)] _
    refine st3 _ ?_
    show oS p e below T3 m 98 #[.val (.int 3), .val (.int p1), .val (.int p2), .val (.int p3)] [(.int (own_c 0 p1 p2 p3)), (.int 0), (.ref b2), (.ref b2), (.ref b1), (.ref b1)] _
    refine st4 _ ?_
    show oS p e below T4 m 99 #[.val (.int 3), .val (.int p1), .val (.int p2), .val (.int p3)] [(.ref b2), (.ref b1), (.ref b1)] _
    refine XS.dup X4.here hx rfl (hb hby d2_99) rfl rfl ?_
    show oS p e below T4 m 100 #[.val (.int 3), .val (.int p1), .val (.int p2), .val (.int p3)] [(.ref b2), (.ref b2), (.ref b1), (.ref b1)] _
    refine XS.iconst X4.here hx rfl (hb hby d2_100) ?_
    show oS p e below T4 m 101 #[.val (.int 3), .val (.int p1), .val (.int p2), .val (.int p3)] [(.int 1), (.ref b2), (.ref b2), (.ref b1), (.ref b1)] _
    refine XS.iconst X4.here hx rfl (hb hby d2_101) ?_
    show oS p e below T4 m 102 #[.val (.int 3), .val (.int p1), .val (.int p2), .val (.int p3)] [(.int 1), (.int 1), (.ref b2), (.ref b2), (.ref b1), (.ref b1)] _
    refine XS.iloadN X4.here hx rfl (hb hby d2_102) rfl ?_
    show oS p e below T4 m 103 #[.val (.int 3), .val (.int p1), .val (.int p2), .val (.int p3)] [(.int p1), (.int 1), (.int 1), (.ref b2), (.ref b2), (.ref b1), (.ref b1)] _
    refine XS.iloadN X4.here hx rfl (hb hby d2_103) rfl ?_
    show oS p e below T4 m 104 #[.val (.int 3), .val (.int p1), .val (.int p2), .val (.int p3)] [(.int p2), (.int p1), (.int 1), (.int 1), (.ref b2), (.ref b2), (.ref b1), (.ref b1)] _
    refine XS.iloadN X4.here hx rfl (hb hby d2_104) rfl ?_
    show oS p e below T4 m 105 #[.val (.int 3), .val (.int p1), .val (.int p2), .val (.int p3)] [(.int p3), (.int p2), (.int p1), (.int 1), (.int 1), (.ref b2), (.ref b2), (.ref b1), (.ref b1)] _
    refine st5 _ ?_
    show oS p e below T5 m 108 #[.val (.int 3), .val (.int p1), .val (.int p2), .val (.int p3)] [(.int (own_c 1 p1 p2 p3)), (.int 1), (.ref b2), (.ref b2), (.ref b1), (.ref b1)] _
    refine st6 _ ?_
    show oS p e below T6 m 109 #[.val (.int 3), .val (.int p1), .val (.int p2), .val (.int p3)] [(.ref b2), (.ref b1), (.ref b1)] _
    refine XS.dup X6.here hx rfl (hb hby d2_109) rfl rfl ?_
    show oS p e below T6 m 110 #[.val (.int 3), .val (.int p1), .val (.int p2), .val (.int p3)] [(.ref b2), (.ref b2), (.ref b1), (.ref b1)] _
    refine XS.iconst X6.here hx rfl (hb hby d2_110) ?_
    show oS p e below T6 m 111 #[.val (.int 3), .val (.int p1), .val (.int p2), .val (.int p3)] [(.int 2), (.ref b2), (.ref b2), (.ref b1), (.ref b1)] _
    refine XS.iconst X6.here hx rfl (hb hby d2_111) ?_
    show oS p e below T6 m 112 #[.val (.int 3), .val (.int p1), .val (.int p2), .val (.int p3)] [(.int 2), (.int 2), (.ref b2), (.ref b2), (.ref b1), (.ref b1)] _
    refine XS.iloadN X6.here hx rfl (hb hby d2_112) rfl ?_
    show oS p e below T6 m 113 #[.val (.int 3), .val (.int p1), .val (.int p2), .val (.int p3)] [(.int p1), (.int 2), (.int 2), (.ref b2), (.ref b2), (.ref b1), (.ref b1)] _
    refine XS.iloadN X6.here hx rfl (hb hby d2_113) rfl ?_
    show oS p e below T6 m 114 #[.val (.int 3), .val (.int p1), .val (.int p2), .val (.int p3)] [(.int p2), (.int p1), (.int 2), (.int 2), (.ref b2), (.ref b2), (.ref b1), (.ref b1)] _
    refine XS.iloadN X6.here hx rfl (hb hby d2_114) rfl ?_
    show oS p e below T6 m 115 #[.val (.int 3), .val (.int p1), .val (.int p2), .val (.int p3)] [(.int p3), (.int p2), (.int p1), (.int 2), (.int 2), (.ref b2), (.ref b2), (.ref b1), (.ref b1)] _
    refine st7 _ ?_
    show oS p e below T7 m 118 #[.val (.int 3), .val (.int p1), .val (.int p2), .val (.int p3)] [(.int (own_c 2 p1 p2 p3)), (.int 2), (.ref b2), (.ref b2), (.ref b1), (.ref b1)] _
    refine st8 _ ?_
    show oS p e below T8 m 119 #[.val (.int 3), .val (.int p1), .val (.int p2), .val (.int p3)] [(.ref b2), (.ref b1), (.ref b1)] _
    refine st9.trans ?_
    show Steps p.tables e below (T9.setTop (mkF m 122 #[.val (.int 3), .val (.int p1), .val (.int p2), .val (.int p3)] [(.ref b1)])) _
    jvm_step X9.here [X9.here.top, hx, (hb hby d2_122), X9.method', Bd.returns, Value.isRef, FieldType.isReference]
    first | (intro acts; rw [hr _ acts rfl rfl rfl]) | rw [hr _ _ rfl rfl rfl]
    exact Steps.refl _
  · show own_QM Z ([own_d 0 p1 p2 p3, own_d 1 p1 p2 p3, own_d 2 p1 p2 p3] : List Int32) h0 n0 _ T9.heap _
    exact ⟨b1, t9, kt9, rfl, N9, (((((((Keep.refl h0 []).ext E1).ext E2).wr W4 (Or.inr (Nat.le_trans E1.1 (Nat.le_of_eq g2.symm)))).wr W6 (Or.inr (Nat.le_trans E1.1 (Nat.le_of_eq g2.symm)))).wr W8 (Or.inr (Nat.le_trans E1.1 (Nat.le_of_eq g2.symm)))).trans K9 (allS (Or.inr (Nat.le_of_eq g1.symm)) all0)), Ex9, Fv9, Fc9, Vt9⟩
theorem d2_123 : decode method_4_code 123 = .ok (.iload_n 0, 1) := by decide +kernel
theorem d2_124 : decode method_4_code 124 = .ok (.bipush 15, 2) := by decide +kernel
theorem d2_126 : decode method_4_code 126 = .ok (.if_icmp .ne 183, 3) := by decide +kernel
theorem d2_129 : decode method_4_code 129 = .ok (.new 7, 3) := by decide +kernel
theorem d2_132 : decode method_4_code 132 = .ok (.dup, 1) := by decide +kernel
theorem d2_133 : decode method_4_code 133 = .ok (.bipush 15, 2) := by decide +kernel
theorem d2_135 : decode method_4_code 135 = .ok (.newarray .char, 2) := by decide +kernel
theorem d2_137 : decode method_4_code 137 = .ok (.dup, 1) := by decide +kernel
theorem d2_138 : decode method_4_code 138 = .ok (.iconst 0, 1) := by decide +kernel
theorem d2_139 : decode method_4_code 139 = .ok (.iconst 0, 1) := by decide +kernel
theorem d2_140 : decode method_4_code 140 = .ok (.iload_n 1, 1) := by decide +kernel
theorem d2_141 : decode method_4_code 141 = .ok (.iload_n 2, 1) := by decide +kernel
theorem d2_142 : decode method_4_code 142 = .ok (.iload_n 3, 1) := by decide +kernel
theorem d2_143 : decode method_4_code 143 = .ok (.invokestatic 12, 3) := by decide +kernel
theorem d2_146 : decode method_4_code 146 = .ok (.castore, 1) := by decide +kernel
theorem d2_147 : decode method_4_code 147 = .ok (.dup, 1) := by decide +kernel
theorem d2_148 : decode method_4_code 148 = .ok (.iconst 1, 1) := by decide +kernel
theorem d2_149 : decode method_4_code 149 = .ok (.iconst 1, 1) := by decide +kernel
theorem d2_150 : decode method_4_code 150 = .ok (.iload_n 1, 1) := by decide +kernel
theorem d2_151 : decode method_4_code 151 = .ok (.iload_n 2, 1) := by decide +kernel
theorem d2_152 : decode method_4_code 152 = .ok (.iload_n 3, 1) := by decide +kernel
theorem d2_153 : decode method_4_code 153 = .ok (.invokestatic 12, 3) := by decide +kernel
theorem d2_156 : decode method_4_code 156 = .ok (.castore, 1) := by decide +kernel
theorem d2_157 : decode method_4_code 157 = .ok (.dup, 1) := by decide +kernel
theorem d2_158 : decode method_4_code 158 = .ok (.iconst 2, 1) := by decide +kernel
theorem d2_159 : decode method_4_code 159 = .ok (.iconst 2, 1) := by decide +kernel
theorem d2_160 : decode method_4_code 160 = .ok (.iload_n 1, 1) := by decide +kernel
theorem d2_161 : decode method_4_code 161 = .ok (.iload_n 2, 1) := by decide +kernel
theorem d2_162 : decode method_4_code 162 = .ok (.iload_n 3, 1) := by decide +kernel
theorem d2_163 : decode method_4_code 163 = .ok (.invokestatic 12, 3) := by decide +kernel
theorem d2_166 : decode method_4_code 166 = .ok (.castore, 1) := by decide +kernel
theorem d2_167 : decode method_4_code 167 = .ok (.dup, 1) := by decide +kernel
theorem d2_168 : decode method_4_code 168 = .ok (.iconst 3, 1) := by decide +kernel
theorem d2_169 : decode method_4_code 169 = .ok (.iconst 3, 1) := by decide +kernel
theorem d2_170 : decode method_4_code 170 = .ok (.iload_n 1, 1) := by decide +kernel
theorem d2_171 : decode method_4_code 171 = .ok (.iload_n 2, 1) := by decide +kernel
theorem d2_172 : decode method_4_code 172 = .ok (.iload_n 3, 1) := by decide +kernel
theorem d2_173 : decode method_4_code 173 = .ok (.invokestatic 12, 3) := by decide +kernel
theorem d2_176 : decode method_4_code 176 = .ok (.castore, 1) := by decide +kernel
theorem d2_177 : decode method_4_code 177 = .ok (.dup, 1) := by decide +kernel
theorem d2_178 : decode method_4_code 178 = .ok (.iconst 4, 1) := by decide +kernel
theorem d2_179 : decode method_4_code 179 = .ok (.iconst 4, 1) := by decide +kernel
theorem d2_180 : decode method_4_code 180 = .ok (.iload_n 1, 1) := by decide +kernel
theorem d2_181 : decode method_4_code 181 = .ok (.iload_n 2, 1) := by decide +kernel
theorem d2_182 : decode method_4_code 182 = .ok (.iload_n 3, 1) := by decide +kernel
theorem d2_183 : decode method_4_code 183 = .ok (.invokestatic 12, 3) := by decide +kernel
theorem d2_186 : decode method_4_code 186 = .ok (.castore, 1) := by decide +kernel
theorem d2_187 : decode method_4_code 187 = .ok (.dup, 1) := by decide +kernel
theorem d2_188 : decode method_4_code 188 = .ok (.iconst 5, 1) := by decide +kernel
theorem d2_189 : decode method_4_code 189 = .ok (.iconst 5, 1) := by decide +kernel
theorem d2_190 : decode method_4_code 190 = .ok (.iload_n 1, 1) := by decide +kernel
theorem d2_191 : decode method_4_code 191 = .ok (.iload_n 2, 1) := by decide +kernel
theorem d2_192 : decode method_4_code 192 = .ok (.iload_n 3, 1) := by decide +kernel
theorem d2_193 : decode method_4_code 193 = .ok (.invokestatic 12, 3) := by decide +kernel
theorem d2_196 : decode method_4_code 196 = .ok (.castore, 1) := by decide +kernel
theorem d2_197 : decode method_4_code 197 = .ok (.dup, 1) := by decide +kernel
theorem d2_198 : decode method_4_code 198 = .ok (.bipush 6, 2) := by decide +kernel
theorem d2_200 : decode method_4_code 200 = .ok (.bipush 6, 2) := by decide +kernel
theorem d2_202 : decode method_4_code 202 = .ok (.iload_n 1, 1) := by decide +kernel
theorem d2_203 : decode method_4_code 203 = .ok (.iload_n 2, 1) := by decide +kernel
theorem d2_204 : decode method_4_code 204 = .ok (.iload_n 3, 1) := by decide +kernel
theorem d2_205 : decode method_4_code 205 = .ok (.invokestatic 12, 3) := by decide +kernel
theorem d2_208 : decode method_4_code 208 = .ok (.castore, 1) := by decide +kernel
theorem d2_209 : decode method_4_code 209 = .ok (.dup, 1) := by decide +kernel
theorem d2_210 : decode method_4_code 210 = .ok (.bipush 7, 2) := by decide +kernel
theorem d2_212 : decode method_4_code 212 = .ok (.bipush 7, 2) := by decide +kernel
theorem d2_214 : decode method_4_code 214 = .ok (.iload_n 1, 1) := by decide +kernel
theorem d2_215 : decode method_4_code 215 = .ok (.iload_n 2, 1) := by decide +kernel
theorem d2_216 : decode method_4_code 216 = .ok (.iload_n 3, 1) := by decide +kernel
theorem d2_217 : decode method_4_code 217 = .ok (.invokestatic 12, 3) := by decide +kernel
theorem d2_220 : decode method_4_code 220 = .ok (.castore, 1) := by decide +kernel
theorem d2_221 : decode method_4_code 221 = .ok (.dup, 1) := by decide +kernel
theorem d2_222 : decode method_4_code 222 = .ok (.bipush 8, 2) := by decide +kernel
theorem d2_224 : decode method_4_code 224 = .ok (.bipush 8, 2) := by decide +kernel
theorem d2_226 : decode method_4_code 226 = .ok (.iload_n 1, 1) := by decide +kernel
theorem d2_227 : decode method_4_code 227 = .ok (.iload_n 2, 1) := by decide +kernel
theorem d2_228 : decode method_4_code 228 = .ok (.iload_n 3, 1) := by decide +kernel
theorem d2_229 : decode method_4_code 229 = .ok (.invokestatic 12, 3) := by decide +kernel
theorem d2_232 : decode method_4_code 232 = .ok (.castore, 1) := by decide +kernel
theorem d2_233 : decode method_4_code 233 = .ok (.dup, 1) := by decide +kernel
theorem d2_234 : decode method_4_code 234 = .ok (.bipush 9, 2) := by decide +kernel
theorem d2_236 : decode method_4_code 236 = .ok (.bipush 9, 2) := by decide +kernel
theorem d2_238 : decode method_4_code 238 = .ok (.iload_n 1, 1) := by decide +kernel
theorem d2_239 : decode method_4_code 239 = .ok (.iload_n 2, 1) := by decide +kernel
theorem d2_240 : decode method_4_code 240 = .ok (.iload_n 3, 1) := by decide +kernel
theorem d2_241 : decode method_4_code 241 = .ok (.invokestatic 12, 3) := by decide +kernel
theorem d2_244 : decode method_4_code 244 = .ok (.castore, 1) := by decide +kernel
theorem d2_245 : decode method_4_code 245 = .ok (.dup, 1) := by decide +kernel
theorem d2_246 : decode method_4_code 246 = .ok (.bipush 10, 2) := by decide +kernel
theorem d2_248 : decode method_4_code 248 = .ok (.bipush 10, 2) := by decide +kernel
theorem d2_250 : decode method_4_code 250 = .ok (.iload_n 1, 1) := by decide +kernel
theorem d2_251 : decode method_4_code 251 = .ok (.iload_n 2, 1) := by decide +kernel
theorem d2_252 : decode method_4_code 252 = .ok (.iload_n 3, 1) := by decide +kernel
theorem d2_253 : decode method_4_code 253 = .ok (.invokestatic 12, 3) := by decide +kernel
theorem d2_256 : decode method_4_code 256 = .ok (.castore, 1) := by decide +kernel
theorem d2_257 : decode method_4_code 257 = .ok (.dup, 1) := by decide +kernel
theorem d2_258 : decode method_4_code 258 = .ok (.bipush 11, 2) := by decide +kernel
theorem d2_260 : decode method_4_code 260 = .ok (.bipush 11, 2) := by decide +kernel
theorem d2_262 : decode method_4_code 262 = .ok (.iload_n 1, 1) := by decide +kernel
theorem d2_263 : decode method_4_code 263 = .ok (.iload_n 2, 1) := by decide +kernel
theorem d2_264 : decode method_4_code 264 = .ok (.iload_n 3, 1) := by decide +kernel
theorem d2_265 : decode method_4_code 265 = .ok (.invokestatic 12, 3) := by decide +kernel
theorem d2_268 : decode method_4_code 268 = .ok (.castore, 1) := by decide +kernel
theorem d2_269 : decode method_4_code 269 = .ok (.dup, 1) := by decide +kernel
theorem d2_270 : decode method_4_code 270 = .ok (.bipush 12, 2) := by decide +kernel
theorem d2_272 : decode method_4_code 272 = .ok (.bipush 12, 2) := by decide +kernel
theorem d2_274 : decode method_4_code 274 = .ok (.iload_n 1, 1) := by decide +kernel
theorem d2_275 : decode method_4_code 275 = .ok (.iload_n 2, 1) := by decide +kernel
theorem d2_276 : decode method_4_code 276 = .ok (.iload_n 3, 1) := by decide +kernel
theorem d2_277 : decode method_4_code 277 = .ok (.invokestatic 12, 3) := by decide +kernel
theorem d2_280 : decode method_4_code 280 = .ok (.castore, 1) := by decide +kernel
theorem d2_281 : decode method_4_code 281 = .ok (.dup, 1) := by decide +kernel
theorem d2_282 : decode method_4_code 282 = .ok (.bipush 13, 2) := by decide +kernel
theorem d2_284 : decode method_4_code 284 = .ok (.bipush 13, 2) := by decide +kernel
theorem d2_286 : decode method_4_code 286 = .ok (.iload_n 1, 1) := by decide +kernel
theorem d2_287 : decode method_4_code 287 = .ok (.iload_n 2, 1) := by decide +kernel
theorem d2_288 : decode method_4_code 288 = .ok (.iload_n 3, 1) := by decide +kernel
theorem d2_289 : decode method_4_code 289 = .ok (.invokestatic 12, 3) := by decide +kernel
theorem d2_292 : decode method_4_code 292 = .ok (.castore, 1) := by decide +kernel
theorem d2_293 : decode method_4_code 293 = .ok (.dup, 1) := by decide +kernel
theorem d2_294 : decode method_4_code 294 = .ok (.bipush 14, 2) := by decide +kernel
theorem d2_296 : decode method_4_code 296 = .ok (.bipush 14, 2) := by decide +kernel
theorem d2_298 : decode method_4_code 298 = .ok (.iload_n 1, 1) := by decide +kernel
theorem d2_299 : decode method_4_code 299 = .ok (.iload_n 2, 1) := by decide +kernel
theorem d2_300 : decode method_4_code 300 = .ok (.iload_n 3, 1) := by decide +kernel
theorem d2_301 : decode method_4_code 301 = .ok (.invokestatic 12, 3) := by decide +kernel
theorem d2_304 : decode method_4_code 304 = .ok (.castore, 1) := by decide +kernel
theorem d2_305 : decode method_4_code 305 = .ok (.invokespecial 9, 3) := by decide +kernel
theorem d2_308 : decode method_4_code 308 = .ok (.areturn, 1) := by decide +kernel
set_option maxRecDepth 65536 in
set_option maxHeartbeats 40000000 in
theorem rmM15 (l : Launch) (Z : State) (a0 : Array Value) (hw : ∀ d ∈ tables_1, d.before a0 Z = true) (ws : List Jvm.Cond) (p1 : Int32) (p2 : Int32) (p3 : Int32) (zc : Int32) (h0 : Heap) (n0 : Nat) (O0 : Old Z n0 h0) (S_COMPACT_STRINGS : Sta Z Z.heap "java/lang/String" "COMPACT_STRINGS" "Z" (.int zc)) (hzc : ¬ zc = 0) (hp : ∀ c ∈ ([own_d 0 p1 p2 p3, own_d 1 p1 p2 p3, own_d 2 p1 p2 p3, own_d 3 p1 p2 p3, own_d 4 p1 p2 p3, own_d 5 p1 p2 p3, own_d 6 p1 p2 p3, own_d 7 p1 p2 p3, own_d 8 p1 p2 p3, own_d 9 p1 p2 p3, own_d 10 p1 p2 p3, own_d 11 p1 p2 p3, own_d 12 p1 p2 p3, own_d 13 p1 p2 p3, own_d 14 p1 p2 p3] : List Int32), ¬ c < 0 ∧ ¬ (255 : Int32) < c) :
    oM l Z (⟨"com/example/dispensd/dispensd/IdentifierIsValidPinLaw", "make", "(IICC)Ljava/lang/String;"⟩ : MethodName) method_4_code 4 (some (.object "java/lang/String")) ws ({ frames := 4, cells := 3, slots := 38, locals := 66 } : Room) #[(.int 15), (.int p1), (.int p2), (.int p3)] h0 (own_QM Z ([own_d 0 p1 p2 p3, own_d 1 p1 p2 p3, own_d 2 p1 p2 p3, own_d 3 p1 p2 p3, own_d 4 p1 p2 p3, own_d 5 p1 p2 p3, own_d 6 p1 p2 p3, own_d 7 p1 p2 p3, own_d 8 p1 p2 p3, own_d 9 p1 p2 p3, own_d 10 p1 p2 p3, own_d 11 p1 p2 p3, own_d 12 p1 p2 p3, own_d 13 p1 p2 p3, own_d 14 p1 p2 p3] : List Int32) h0 n0) := by
  refine MetFree.of_bodySF (plainFor_of_name pn_2) hisR ?_
  intro p e s m args below meth c s₁ Bd hml0 hP hK
  obtain ⟨rfl, hZ, hh⟩ := hP
  have hx := Bd.exec
  have hby := Bd.bytes
  have hml : c.maxLocals = 4 := hml0
  have hown : s.vm.findClass "com/example/dispensd/dispensd/IdentifierIsValidPinLaw" = some m.cls := findClass_of_methodNamed Bd.named
  have hnm := (name_of_methodNamed Bd.named Bd.method).1
  have X0 : Stand p l e ({ frames := 4, cells := 3, slots := 38, locals := 66 } : Room) s m #[(.int 15), (.int p1), (.int p2), (.int p3)] below meth c s₁ [] 0 0 := Stand.of_body Bd
  have e0 : s₁.heap = h0 := by rw [← hh, Bd.state]; rfl
  have N0 := Fr.nil n0
  have pre0 : ∀ t, Steps p.tables e below (s₁.setTop (mkF m 0 #[.val (.int 15), .val (.int p1), .val (.int p2), .val (.int p3)] [])) t → Steps p.tables e below (s₁.setTop (entryFrame m #[(.int 15), (.int p1), (.int p2), (.int p3)] 4)) t := fun t k => castTop (ef_2 m (15 : Int32) p1 p2 p3) k
  obtain ⟨T1, h1, X1, e1, E1, A1, D1, U1, st1⟩ := newO X0 hx hZ hown (own_w hw 9 rfl) (own_w hw 10 rfl) (own_w hw 11 rfl) e0 (g := (mkF m 129 #[.val (.int 15), .val (.int p1), .val (.int p2), .val (.int p3)] [])) rfl (hb hby d2_129) (by decide) (by decide)
  obtain ⟨b1, g1⟩ : ∃ z, z = h0.size := ⟨_, rfl⟩
  rw [← g1] at A1 D1 U1 st1
  have Ut1 : Unt h1 b1 := U1
  have g_b1 : n0 ≤ b1 := Nat.le_trans (own_le O0) (Nat.le_of_eq g1.symm)
  have O1 := O0.ext E1
  have F_coder_b1 : Fld Z h1 b1 "java/lang/String" "coder" "B" (.int 0) := D1 (Or.inr (own_w hw 39 rfl)) (ty := .byte) (by decide)
  have F_value_b1 : Fld Z h1 b1 "java/lang/String" "value" "[B" .null := D1 (Or.inr (own_w hw 41 rfl)) (ty := (.array .byte)) (by decide)
  obtain ⟨T2, h2, k2, X2, e2, E2, A2, st2⟩ := newP X1 hx hZ (own_w hw 12 rfl) e1 (g := (mkF m 135 #[.val (.int 15), .val (.int p1), .val (.int p2), .val (.int p3)] [(.int 15), (.ref b1), (.ref b1)])) rfl (hb hby d2_135) rfl (by decide) (cap := 15) (by decide) (by decide) (by decide) (by decide)
  obtain ⟨b2, g2⟩ : ∃ z, z = h1.size := ⟨_, rfl⟩
  rw [← g2] at A2 st2
  have g_b2 : n0 ≤ b2 := Nat.le_trans (own_le O1) (Nat.le_of_eq g2.symm)
  have O2 := O1.ext E2
  have V_b2 : Arv Z h2 b2 k2 .char (15 : Int32) [(.int 0), (.int 0), (.int 0), (.int 0), (.int 0), (.int 0), (.int 0), (.int 0), (.int 0), (.int 0), (.int 0), (.int 0), (.int 0), (.int 0), (.int 0)] (.int 0) := (Arv.new A2 (by decide)).pad (pad_rep [] (.int 0) 15)
  obtain ⟨_, _, ⟨T3, L3, k3, n3⟩, -, X3, ⟨Lc3, hQ3, l3, y3, z3⟩, st3⟩ := Jvm.LawKit.callS X2 hx (y := (⟨"com/example/dispensd/dispensd/IdentifierIsValidPinLaw", "at", "(IICC)C"⟩ : MethodName)) hown (mvT hZ (own_w hw 13 rfl)) (mvT hZ (own_w hw 14 rfl)) (mvT hZ (own_w hw 7 rfl)) (mvT hZ (own_w hw 15 rfl)) (by decide) (backOf (W := 5) (rmAt l Z a0 hw [] (0 : Int32) p1 p2 p3  h2 n0 O2 ) hZ (own_w hw 15 rfl) (own_w hw 7 rfl) (by decide) (by decide)) (g := (mkF m 143 #[.val (.int 15), .val (.int p1), .val (.int p2), .val (.int p3)] [(.int p3), (.int p2), (.int p1), (.int 0), (.int 0), (.ref b2), (.ref b2), (.ref b1), (.ref b1)])) rfl (by rw [hml]; rfl) (argsL := [(.int 0), (.int p1), (.int p2), (.int p3)]) (rest := [(.int 0), (.ref b2), (.ref b2), (.ref b1), (.ref b1)]) (lenOf pd_6 rfl) rfl (by show 2 * 0 + _ ≤ _; exact Nat.le_of_eq rfl) (hb hby d2_143) (fun _ _ => ⟨rfl, e2, (by decide : 2 + 0 ≤ _), (by decide : 19 + 0 ≤ _)⟩)
  dsimp only [Pt.U, Pt.locs, Pt.cells, Pt.slots] at X3 l3 y3 z3 st3 hQ3
  subst l3 y3 z3
  obtain ⟨rfl, N3q, e3⟩ := hQ3
  have N3 := Fr.app N0 N3q
  obtain ⟨Lx3, Xx3, Nx3⟩ : ∃ L', Stand p l e _ s m _ below meth c T3 L' 2 19 ∧ Fr n0 L' := ⟨_, X3, N3⟩
  obtain ⟨cl4, Ar4, qa4, Sz4, Ng4, Hs4, Ft4⟩ := V_b2
  obtain ⟨T4, h4, X4, e4, W4, st4⟩ := stC Xx3 hx hZ e3 Ar4 (j := (0 : Int32)) (inb_of Sz4 ⟨by decide, by decide⟩) (g := (mkF m 146 #[.val (.int 15), .val (.int p1), .val (.int p2), .val (.int p3)] [(.int (own_c 0 p1 p2 p3)), (.int 0), (.ref b2), (.ref b2), (.ref b1), (.ref b1)])) rfl rfl (hb hby d2_146)
  have O4 := O2.wr W4 g_b2
  have N4 := Fr.snoc X4 Nx3 g_b2
  have V4 : Arv Z h4 b2 k2 .char (15 : Int32) [(.int (own_d 0 p1 p2 p3)), (.int 0), (.int 0), (.int 0), (.int 0), (.int 0), (.int 0), (.int 0), (.int 0), (.int 0), (.int 0), (.int 0), (.int 0), (.int 0), (.int 0)] (.int 0) := Arv.set Ar4 qa4 Sz4 Ng4 Hs4 Ft4 (fits_nar_char _) W4 0 rfl (Nat.le_of_ble_eq_true rfl)
  obtain ⟨_, _, ⟨T5, L5, k5, n5⟩, -, X5, ⟨Lc5, hQ5, l5, y5, z5⟩, st5⟩ := Jvm.LawKit.callS X4 hx (y := (⟨"com/example/dispensd/dispensd/IdentifierIsValidPinLaw", "at", "(IICC)C"⟩ : MethodName)) hown (mvT hZ (own_w hw 13 rfl)) (mvT hZ (own_w hw 14 rfl)) (mvT hZ (own_w hw 7 rfl)) (mvT hZ (own_w hw 15 rfl)) (by decide) (backOf (W := 5) (rmAt l Z a0 hw [] (1 : Int32) p1 p2 p3  h4 n0 O4 ) hZ (own_w hw 15 rfl) (own_w hw 7 rfl) (by decide) (by decide)) (g := (mkF m 153 #[.val (.int 15), .val (.int p1), .val (.int p2), .val (.int p3)] [(.int p3), (.int p2), (.int p1), (.int 1), (.int 1), (.ref b2), (.ref b2), (.ref b1), (.ref b1)])) rfl (by rw [hml]; rfl) (argsL := [(.int 1), (.int p1), (.int p2), (.int p3)]) (rest := [(.int 1), (.ref b2), (.ref b2), (.ref b1), (.ref b1)]) (lenOf pd_6 rfl) rfl (by show 2 * 0 + _ ≤ _; exact Nat.le_of_eq rfl) (hb hby d2_153) (fun _ _ => ⟨rfl, e4, (by decide : 2 + 0 ≤ _), (by decide : 19 + 0 ≤ _)⟩)
  dsimp only [Pt.U, Pt.locs, Pt.cells, Pt.slots] at X5 l5 y5 z5 st5 hQ5
  subst l5 y5 z5
  obtain ⟨rfl, N5q, e5⟩ := hQ5
  have N5 := Fr.app N4 N5q
  obtain ⟨Lx5, Xx5, Nx5⟩ : ∃ L', Stand p l e _ s m _ below meth c T5 L' 2 19 ∧ Fr n0 L' := ⟨_, X5, N5⟩
  obtain ⟨cl6, Ar6, qa6, Sz6, Ng6, Hs6, Ft6⟩ := V4
  obtain ⟨T6, h6, X6, e6, W6, st6⟩ := stC Xx5 hx hZ e5 Ar6 (j := (1 : Int32)) (inb_of Sz6 ⟨by decide, by decide⟩) (g := (mkF m 156 #[.val (.int 15), .val (.int p1), .val (.int p2), .val (.int p3)] [(.int (own_c 1 p1 p2 p3)), (.int 1), (.ref b2), (.ref b2), (.ref b1), (.ref b1)])) rfl rfl (hb hby d2_156)
  have O6 := O4.wr W6 g_b2
  have N6 := Fr.snoc X6 Nx5 g_b2
  have V6 : Arv Z h6 b2 k2 .char (15 : Int32) [(.int (own_d 0 p1 p2 p3)), (.int (own_d 1 p1 p2 p3)), (.int 0), (.int 0), (.int 0), (.int 0), (.int 0), (.int 0), (.int 0), (.int 0), (.int 0), (.int 0), (.int 0), (.int 0), (.int 0)] (.int 0) := Arv.set Ar6 qa6 Sz6 Ng6 Hs6 Ft6 (fits_nar_char _) W6 1 rfl (Nat.le_of_ble_eq_true rfl)
  obtain ⟨_, _, ⟨T7, L7, k7, n7⟩, -, X7, ⟨Lc7, hQ7, l7, y7, z7⟩, st7⟩ := Jvm.LawKit.callS X6 hx (y := (⟨"com/example/dispensd/dispensd/IdentifierIsValidPinLaw", "at", "(IICC)C"⟩ : MethodName)) hown (mvT hZ (own_w hw 13 rfl)) (mvT hZ (own_w hw 14 rfl)) (mvT hZ (own_w hw 7 rfl)) (mvT hZ (own_w hw 15 rfl)) (by decide) (backOf (W := 5) (rmAt l Z a0 hw [] (2 : Int32) p1 p2 p3  h6 n0 O6 ) hZ (own_w hw 15 rfl) (own_w hw 7 rfl) (by decide) (by decide)) (g := (mkF m 163 #[.val (.int 15), .val (.int p1), .val (.int p2), .val (.int p3)] [(.int p3), (.int p2), (.int p1), (.int 2), (.int 2), (.ref b2), (.ref b2), (.ref b1), (.ref b1)])) rfl (by rw [hml]; rfl) (argsL := [(.int 2), (.int p1), (.int p2), (.int p3)]) (rest := [(.int 2), (.ref b2), (.ref b2), (.ref b1), (.ref b1)]) (lenOf pd_6 rfl) rfl (by show 2 * 0 + _ ≤ _; exact Nat.le_of_eq rfl) (hb hby d2_163) (fun _ _ => ⟨rfl, e6, (by decide : 2 + 0 ≤ _), (by decide : 19 + 0 ≤ _)⟩)
  dsimp only [Pt.U, Pt.locs, Pt.cells, Pt.slots] at X7 l7 y7 z7 st7 hQ7
  subst l7 y7 z7
  obtain ⟨rfl, N7q, e7⟩ := hQ7
  have N7 := Fr.app N6 N7q
  obtain ⟨Lx7, Xx7, Nx7⟩ : ∃ L', Stand p l e _ s m _ below meth c T7 L' 2 19 ∧ Fr n0 L' := ⟨_, X7, N7⟩
  obtain ⟨cl8, Ar8, qa8, Sz8, Ng8, Hs8, Ft8⟩ := V6
  obtain ⟨T8, h8, X8, e8, W8, st8⟩ := stC Xx7 hx hZ e7 Ar8 (j := (2 : Int32)) (inb_of Sz8 ⟨by decide, by decide⟩) (g := (mkF m 166 #[.val (.int 15), .val (.int p1), .val (.int p2), .val (.int p3)] [(.int (own_c 2 p1 p2 p3)), (.int 2), (.ref b2), (.ref b2), (.ref b1), (.ref b1)])) rfl rfl (hb hby d2_166)
  have O8 := O6.wr W8 g_b2
  have N8 := Fr.snoc X8 Nx7 g_b2
  have V8 : Arv Z h8 b2 k2 .char (15 : Int32) [(.int (own_d 0 p1 p2 p3)), (.int (own_d 1 p1 p2 p3)), (.int (own_d 2 p1 p2 p3)), (.int 0), (.int 0), (.int 0), (.int 0), (.int 0), (.int 0), (.int 0), (.int 0), (.int 0), (.int 0), (.int 0), (.int 0)] (.int 0) := Arv.set Ar8 qa8 Sz8 Ng8 Hs8 Ft8 (fits_nar_char _) W8 2 rfl (Nat.le_of_ble_eq_true rfl)
  obtain ⟨_, _, ⟨T9, L9, k9, n9⟩, -, X9, ⟨Lc9, hQ9, l9, y9, z9⟩, st9⟩ := Jvm.LawKit.callS X8 hx (y := (⟨"com/example/dispensd/dispensd/IdentifierIsValidPinLaw", "at", "(IICC)C"⟩ : MethodName)) hown (mvT hZ (own_w hw 13 rfl)) (mvT hZ (own_w hw 14 rfl)) (mvT hZ (own_w hw 7 rfl)) (mvT hZ (own_w hw 15 rfl)) (by decide) (backOf (W := 5) (rmAt l Z a0 hw [] (3 : Int32) p1 p2 p3  h8 n0 O8 ) hZ (own_w hw 15 rfl) (own_w hw 7 rfl) (by decide) (by decide)) (g := (mkF m 173 #[.val (.int 15), .val (.int p1), .val (.int p2), .val (.int p3)] [(.int p3), (.int p2), (.int p1), (.int 3), (.int 3), (.ref b2), (.ref b2), (.ref b1), (.ref b1)])) rfl (by rw [hml]; rfl) (argsL := [(.int 3), (.int p1), (.int p2), (.int p3)]) (rest := [(.int 3), (.ref b2), (.ref b2), (.ref b1), (.ref b1)]) (lenOf pd_6 rfl) rfl (by show 2 * 0 + _ ≤ _; exact Nat.le_of_eq rfl) (hb hby d2_173) (fun _ _ => ⟨rfl, e8, (by decide : 2 + 0 ≤ _), (by decide : 19 + 0 ≤ _)⟩)
  dsimp only [Pt.U, Pt.locs, Pt.cells, Pt.slots] at X9 l9 y9 z9 st9 hQ9
  subst l9 y9 z9
  obtain ⟨rfl, N9q, e9⟩ := hQ9
  have N9 := Fr.app N8 N9q
  obtain ⟨Lx9, Xx9, Nx9⟩ : ∃ L', Stand p l e _ s m _ below meth c T9 L' 2 19 ∧ Fr n0 L' := ⟨_, X9, N9⟩
  obtain ⟨cl10, Ar10, qa10, Sz10, Ng10, Hs10, Ft10⟩ := V8
  obtain ⟨T10, h10, X10, e10, W10, st10⟩ := stC Xx9 hx hZ e9 Ar10 (j := (3 : Int32)) (inb_of Sz10 ⟨by decide, by decide⟩) (g := (mkF m 176 #[.val (.int 15), .val (.int p1), .val (.int p2), .val (.int p3)] [(.int (own_c 3 p1 p2 p3)), (.int 3), (.ref b2), (.ref b2), (.ref b1), (.ref b1)])) rfl rfl (hb hby d2_176)
  have O10 := O8.wr W10 g_b2
  have N10 := Fr.snoc X10 Nx9 g_b2
  have V10 : Arv Z h10 b2 k2 .char (15 : Int32) [(.int (own_d 0 p1 p2 p3)), (.int (own_d 1 p1 p2 p3)), (.int (own_d 2 p1 p2 p3)), (.int (own_d 3 p1 p2 p3)), (.int 0), (.int 0), (.int 0), (.int 0), (.int 0), (.int 0), (.int 0), (.int 0), (.int 0), (.int 0), (.int 0)] (.int 0) := Arv.set Ar10 qa10 Sz10 Ng10 Hs10 Ft10 (fits_nar_char _) W10 3 rfl (Nat.le_of_ble_eq_true rfl)
  obtain ⟨_, _, ⟨T11, L11, k11, n11⟩, -, X11, ⟨Lc11, hQ11, l11, y11, z11⟩, st11⟩ := Jvm.LawKit.callS X10 hx (y := (⟨"com/example/dispensd/dispensd/IdentifierIsValidPinLaw", "at", "(IICC)C"⟩ : MethodName)) hown (mvT hZ (own_w hw 13 rfl)) (mvT hZ (own_w hw 14 rfl)) (mvT hZ (own_w hw 7 rfl)) (mvT hZ (own_w hw 15 rfl)) (by decide) (backOf (W := 5) (rmAt l Z a0 hw [] (4 : Int32) p1 p2 p3  h10 n0 O10 ) hZ (own_w hw 15 rfl) (own_w hw 7 rfl) (by decide) (by decide)) (g := (mkF m 183 #[.val (.int 15), .val (.int p1), .val (.int p2), .val (.int p3)] [(.int p3), (.int p2), (.int p1), (.int 4), (.int 4), (.ref b2), (.ref b2), (.ref b1), (.ref b1)])) rfl (by rw [hml]; rfl) (argsL := [(.int 4), (.int p1), (.int p2), (.int p3)]) (rest := [(.int 4), (.ref b2), (.ref b2), (.ref b1), (.ref b1)]) (lenOf pd_6 rfl) rfl (by show 2 * 0 + _ ≤ _; exact Nat.le_of_eq rfl) (hb hby d2_183) (fun _ _ => ⟨rfl, e10, (by decide : 2 + 0 ≤ _), (by decide : 19 + 0 ≤ _)⟩)
  dsimp only [Pt.U, Pt.locs, Pt.cells, Pt.slots] at X11 l11 y11 z11 st11 hQ11
  subst l11 y11 z11
  obtain ⟨rfl, N11q, e11⟩ := hQ11
  have N11 := Fr.app N10 N11q
  obtain ⟨Lx11, Xx11, Nx11⟩ : ∃ L', Stand p l e _ s m _ below meth c T11 L' 2 19 ∧ Fr n0 L' := ⟨_, X11, N11⟩
  obtain ⟨cl12, Ar12, qa12, Sz12, Ng12, Hs12, Ft12⟩ := V10
  obtain ⟨T12, h12, X12, e12, W12, st12⟩ := stC Xx11 hx hZ e11 Ar12 (j := (4 : Int32)) (inb_of Sz12 ⟨by decide, by decide⟩) (g := (mkF m 186 #[.val (.int 15), .val (.int p1), .val (.int p2), .val (.int p3)] [(.int (own_c 4 p1 p2 p3)), (.int 4), (.ref b2), (.ref b2), (.ref b1), (.ref b1)])) rfl rfl (hb hby d2_186)
  have O12 := O10.wr W12 g_b2
  have N12 := Fr.snoc X12 Nx11 g_b2
  have V12 : Arv Z h12 b2 k2 .char (15 : Int32) [(.int (own_d 0 p1 p2 p3)), (.int (own_d 1 p1 p2 p3)), (.int (own_d 2 p1 p2 p3)), (.int (own_d 3 p1 p2 p3)), (.int (own_d 4 p1 p2 p3)), (.int 0), (.int 0), (.int 0), (.int 0), (.int 0), (.int 0), (.int 0), (.int 0), (.int 0), (.int 0)] (.int 0) := Arv.set Ar12 qa12 Sz12 Ng12 Hs12 Ft12 (fits_nar_char _) W12 4 rfl (Nat.le_of_ble_eq_true rfl)
  obtain ⟨_, _, ⟨T13, L13, k13, n13⟩, -, X13, ⟨Lc13, hQ13, l13, y13, z13⟩, st13⟩ := Jvm.LawKit.callS X12 hx (y := (⟨"com/example/dispensd/dispensd/IdentifierIsValidPinLaw", "at", "(IICC)C"⟩ : MethodName)) hown (mvT hZ (own_w hw 13 rfl)) (mvT hZ (own_w hw 14 rfl)) (mvT hZ (own_w hw 7 rfl)) (mvT hZ (own_w hw 15 rfl)) (by decide) (backOf (W := 5) (rmAt l Z a0 hw [] (5 : Int32) p1 p2 p3  h12 n0 O12 ) hZ (own_w hw 15 rfl) (own_w hw 7 rfl) (by decide) (by decide)) (g := (mkF m 193 #[.val (.int 15), .val (.int p1), .val (.int p2), .val (.int p3)] [(.int p3), (.int p2), (.int p1), (.int 5), (.int 5), (.ref b2), (.ref b2), (.ref b1), (.ref b1)])) rfl (by rw [hml]; rfl) (argsL := [(.int 5), (.int p1), (.int p2), (.int p3)]) (rest := [(.int 5), (.ref b2), (.ref b2), (.ref b1), (.ref b1)]) (lenOf pd_6 rfl) rfl (by show 2 * 0 + _ ≤ _; exact Nat.le_of_eq rfl) (hb hby d2_193) (fun _ _ => ⟨rfl, e12, (by decide : 2 + 0 ≤ _), (by decide : 19 + 0 ≤ _)⟩)
  dsimp only [Pt.U, Pt.locs, Pt.cells, Pt.slots] at X13 l13 y13 z13 st13 hQ13
  subst l13 y13 z13
  obtain ⟨rfl, N13q, e13⟩ := hQ13
  have N13 := Fr.app N12 N13q
  obtain ⟨Lx13, Xx13, Nx13⟩ : ∃ L', Stand p l e _ s m _ below meth c T13 L' 2 19 ∧ Fr n0 L' := ⟨_, X13, N13⟩
  obtain ⟨cl14, Ar14, qa14, Sz14, Ng14, Hs14, Ft14⟩ := V12
  obtain ⟨T14, h14, X14, e14, W14, st14⟩ := stC Xx13 hx hZ e13 Ar14 (j := (5 : Int32)) (inb_of Sz14 ⟨by decide, by decide⟩) (g := (mkF m 196 #[.val (.int 15), .val (.int p1), .val (.int p2), .val (.int p3)] [(.int (own_c 5 p1 p2 p3)), (.int 5), (.ref b2), (.ref b2), (.ref b1), (.ref b1)])) rfl rfl (hb hby d2_196)
  have O14 := O12.wr W14 g_b2
  have N14 := Fr.snoc X14 Nx13 g_b2
  have V14 : Arv Z h14 b2 k2 .char (15 : Int32) [(.int (own_d 0 p1 p2 p3)), (.int (own_d 1 p1 p2 p3)), (.int (own_d 2 p1 p2 p3)), (.int (own_d 3 p1 p2 p3)), (.int (own_d 4 p1 p2 p3)), (.int (own_d 5 p1 p2 p3)), (.int 0), (.int 0), (.int 0), (.int 0), (.int 0), (.int 0), (.int 0), (.int 0), (.int 0)] (.int 0) := Arv.set Ar14 qa14 Sz14 Ng14 Hs14 Ft14 (fits_nar_char _) W14 5 rfl (Nat.le_of_ble_eq_true rfl)
  obtain ⟨_, _, ⟨T15, L15, k15, n15⟩, -, X15, ⟨Lc15, hQ15, l15, y15, z15⟩, st15⟩ := Jvm.LawKit.callS X14 hx (y := (⟨"com/example/dispensd/dispensd/IdentifierIsValidPinLaw", "at", "(IICC)C"⟩ : MethodName)) hown (mvT hZ (own_w hw 13 rfl)) (mvT hZ (own_w hw 14 rfl)) (mvT hZ (own_w hw 7 rfl)) (mvT hZ (own_w hw 15 rfl)) (by decide) (backOf (W := 5) (rmAt l Z a0 hw [] (6 : Int32) p1 p2 p3  h14 n0 O14 ) hZ (own_w hw 15 rfl) (own_w hw 7 rfl) (by decide) (by decide)) (g := (mkF m 205 #[.val (.int 15), .val (.int p1), .val (.int p2), .val (.int p3)] [(.int p3), (.int p2), (.int p1), (.int 6), (.int 6), (.ref b2), (.ref b2), (.ref b1), (.ref b1)])) rfl (by rw [hml]; rfl) (argsL := [(.int 6), (.int p1), (.int p2), (.int p3)]) (rest := [(.int 6), (.ref b2), (.ref b2), (.ref b1), (.ref b1)]) (lenOf pd_6 rfl) rfl (by show 2 * 0 + _ ≤ _; exact Nat.le_of_eq rfl) (hb hby d2_205) (fun _ _ => ⟨rfl, e14, (by decide : 2 + 0 ≤ _), (by decide : 19 + 0 ≤ _)⟩)
  dsimp only [Pt.U, Pt.locs, Pt.cells, Pt.slots] at X15 l15 y15 z15 st15 hQ15
  subst l15 y15 z15
  obtain ⟨rfl, N15q, e15⟩ := hQ15
  have N15 := Fr.app N14 N15q
  obtain ⟨Lx15, Xx15, Nx15⟩ : ∃ L', Stand p l e _ s m _ below meth c T15 L' 2 19 ∧ Fr n0 L' := ⟨_, X15, N15⟩
  obtain ⟨cl16, Ar16, qa16, Sz16, Ng16, Hs16, Ft16⟩ := V14
  obtain ⟨T16, h16, X16, e16, W16, st16⟩ := stC Xx15 hx hZ e15 Ar16 (j := (6 : Int32)) (inb_of Sz16 ⟨by decide, by decide⟩) (g := (mkF m 208 #[.val (.int 15), .val (.int p1), .val (.int p2), .val (.int p3)] [(.int (own_c 6 p1 p2 p3)), (.int 6), (.ref b2), (.ref b2), (.ref b1), (.ref b1)])) rfl rfl (hb hby d2_208)
  have O16 := O14.wr W16 g_b2
  have N16 := Fr.snoc X16 Nx15 g_b2
  have V16 : Arv Z h16 b2 k2 .char (15 : Int32) [(.int (own_d 0 p1 p2 p3)), (.int (own_d 1 p1 p2 p3)), (.int (own_d 2 p1 p2 p3)), (.int (own_d 3 p1 p2 p3)), (.int (own_d 4 p1 p2 p3)), (.int (own_d 5 p1 p2 p3)), (.int (own_d 6 p1 p2 p3)), (.int 0), (.int 0), (.int 0), (.int 0), (.int 0), (.int 0), (.int 0), (.int 0)] (.int 0) := Arv.set Ar16 qa16 Sz16 Ng16 Hs16 Ft16 (fits_nar_char _) W16 6 rfl (Nat.le_of_ble_eq_true rfl)
  obtain ⟨_, _, ⟨T17, L17, k17, n17⟩, -, X17, ⟨Lc17, hQ17, l17, y17, z17⟩, st17⟩ := Jvm.LawKit.callS X16 hx (y := (⟨"com/example/dispensd/dispensd/IdentifierIsValidPinLaw", "at", "(IICC)C"⟩ : MethodName)) hown (mvT hZ (own_w hw 13 rfl)) (mvT hZ (own_w hw 14 rfl)) (mvT hZ (own_w hw 7 rfl)) (mvT hZ (own_w hw 15 rfl)) (by decide) (backOf (W := 5) (rmAt l Z a0 hw [] (7 : Int32) p1 p2 p3  h16 n0 O16 ) hZ (own_w hw 15 rfl) (own_w hw 7 rfl) (by decide) (by decide)) (g := (mkF m 217 #[.val (.int 15), .val (.int p1), .val (.int p2), .val (.int p3)] [(.int p3), (.int p2), (.int p1), (.int 7), (.int 7), (.ref b2), (.ref b2), (.ref b1), (.ref b1)])) rfl (by rw [hml]; rfl) (argsL := [(.int 7), (.int p1), (.int p2), (.int p3)]) (rest := [(.int 7), (.ref b2), (.ref b2), (.ref b1), (.ref b1)]) (lenOf pd_6 rfl) rfl (by show 2 * 0 + _ ≤ _; exact Nat.le_of_eq rfl) (hb hby d2_217) (fun _ _ => ⟨rfl, e16, (by decide : 2 + 0 ≤ _), (by decide : 19 + 0 ≤ _)⟩)
  dsimp only [Pt.U, Pt.locs, Pt.cells, Pt.slots] at X17 l17 y17 z17 st17 hQ17
  subst l17 y17 z17
  obtain ⟨rfl, N17q, e17⟩ := hQ17
  have N17 := Fr.app N16 N17q
  obtain ⟨Lx17, Xx17, Nx17⟩ : ∃ L', Stand p l e _ s m _ below meth c T17 L' 2 19 ∧ Fr n0 L' := ⟨_, X17, N17⟩
  obtain ⟨cl18, Ar18, qa18, Sz18, Ng18, Hs18, Ft18⟩ := V16
  obtain ⟨T18, h18, X18, e18, W18, st18⟩ := stC Xx17 hx hZ e17 Ar18 (j := (7 : Int32)) (inb_of Sz18 ⟨by decide, by decide⟩) (g := (mkF m 220 #[.val (.int 15), .val (.int p1), .val (.int p2), .val (.int p3)] [(.int (own_c 7 p1 p2 p3)), (.int 7), (.ref b2), (.ref b2), (.ref b1), (.ref b1)])) rfl rfl (hb hby d2_220)
  have O18 := O16.wr W18 g_b2
  have N18 := Fr.snoc X18 Nx17 g_b2
  have V18 : Arv Z h18 b2 k2 .char (15 : Int32) [(.int (own_d 0 p1 p2 p3)), (.int (own_d 1 p1 p2 p3)), (.int (own_d 2 p1 p2 p3)), (.int (own_d 3 p1 p2 p3)), (.int (own_d 4 p1 p2 p3)), (.int (own_d 5 p1 p2 p3)), (.int (own_d 6 p1 p2 p3)), (.int (own_d 7 p1 p2 p3)), (.int 0), (.int 0), (.int 0), (.int 0), (.int 0), (.int 0), (.int 0)] (.int 0) := Arv.set Ar18 qa18 Sz18 Ng18 Hs18 Ft18 (fits_nar_char _) W18 7 rfl (Nat.le_of_ble_eq_true rfl)
  obtain ⟨_, _, ⟨T19, L19, k19, n19⟩, -, X19, ⟨Lc19, hQ19, l19, y19, z19⟩, st19⟩ := Jvm.LawKit.callS X18 hx (y := (⟨"com/example/dispensd/dispensd/IdentifierIsValidPinLaw", "at", "(IICC)C"⟩ : MethodName)) hown (mvT hZ (own_w hw 13 rfl)) (mvT hZ (own_w hw 14 rfl)) (mvT hZ (own_w hw 7 rfl)) (mvT hZ (own_w hw 15 rfl)) (by decide) (backOf (W := 5) (rmAt l Z a0 hw [] (8 : Int32) p1 p2 p3  h18 n0 O18 ) hZ (own_w hw 15 rfl) (own_w hw 7 rfl) (by decide) (by decide)) (g := (mkF m 229 #[.val (.int 15), .val (.int p1), .val (.int p2), .val (.int p3)] [(.int p3), (.int p2), (.int p1), (.int 8), (.int 8), (.ref b2), (.ref b2), (.ref b1), (.ref b1)])) rfl (by rw [hml]; rfl) (argsL := [(.int 8), (.int p1), (.int p2), (.int p3)]) (rest := [(.int 8), (.ref b2), (.ref b2), (.ref b1), (.ref b1)]) (lenOf pd_6 rfl) rfl (by show 2 * 0 + _ ≤ _; exact Nat.le_of_eq rfl) (hb hby d2_229) (fun _ _ => ⟨rfl, e18, (by decide : 2 + 0 ≤ _), (by decide : 19 + 0 ≤ _)⟩)
  dsimp only [Pt.U, Pt.locs, Pt.cells, Pt.slots] at X19 l19 y19 z19 st19 hQ19
  subst l19 y19 z19
  obtain ⟨rfl, N19q, e19⟩ := hQ19
  have N19 := Fr.app N18 N19q
  obtain ⟨Lx19, Xx19, Nx19⟩ : ∃ L', Stand p l e _ s m _ below meth c T19 L' 2 19 ∧ Fr n0 L' := ⟨_, X19, N19⟩
  obtain ⟨cl20, Ar20, qa20, Sz20, Ng20, Hs20, Ft20⟩ := V18
  obtain ⟨T20, h20, X20, e20, W20, st20⟩ := stC Xx19 hx hZ e19 Ar20 (j := (8 : Int32)) (inb_of Sz20 ⟨by decide, by decide⟩) (g := (mkF m 232 #[.val (.int 15), .val (.int p1), .val (.int p2), .val (.int p3)] [(.int (own_c 8 p1 p2 p3)), (.int 8), (.ref b2), (.ref b2), (.ref b1), (.ref b1)])) rfl rfl (hb hby d2_232)
  have O20 := O18.wr W20 g_b2
  have N20 := Fr.snoc X20 Nx19 g_b2
  have V20 : Arv Z h20 b2 k2 .char (15 : Int32) [(.int (own_d 0 p1 p2 p3)), (.int (own_d 1 p1 p2 p3)), (.int (own_d 2 p1 p2 p3)), (.int (own_d 3 p1 p2 p3)), (.int (own_d 4 p1 p2 p3)), (.int (own_d 5 p1 p2 p3)), (.int (own_d 6 p1 p2 p3)), (.int (own_d 7 p1 p2 p3)), (.int (own_d 8 p1 p2 p3)), (.int 0), (.int 0), (.int 0), (.int 0), (.int 0), (.int 0)] (.int 0) := Arv.set Ar20 qa20 Sz20 Ng20 Hs20 Ft20 (fits_nar_char _) W20 8 rfl (Nat.le_of_ble_eq_true rfl)
  obtain ⟨_, _, ⟨T21, L21, k21, n21⟩, -, X21, ⟨Lc21, hQ21, l21, y21, z21⟩, st21⟩ := Jvm.LawKit.callS X20 hx (y := (⟨"com/example/dispensd/dispensd/IdentifierIsValidPinLaw", "at", "(IICC)C"⟩ : MethodName)) hown (mvT hZ (own_w hw 13 rfl)) (mvT hZ (own_w hw 14 rfl)) (mvT hZ (own_w hw 7 rfl)) (mvT hZ (own_w hw 15 rfl)) (by decide) (backOf (W := 5) (rmAt l Z a0 hw [] (9 : Int32) p1 p2 p3  h20 n0 O20 ) hZ (own_w hw 15 rfl) (own_w hw 7 rfl) (by decide) (by decide)) (g := (mkF m 241 #[.val (.int 15), .val (.int p1), .val (.int p2), .val (.int p3)] [(.int p3), (.int p2), (.int p1), (.int 9), (.int 9), (.ref b2), (.ref b2), (.ref b1), (.ref b1)])) rfl (by rw [hml]; rfl) (argsL := [(.int 9), (.int p1), (.int p2), (.int p3)]) (rest := [(.int 9), (.ref b2), (.ref b2), (.ref b1), (.ref b1)]) (lenOf pd_6 rfl) rfl (by show 2 * 0 + _ ≤ _; exact Nat.le_of_eq rfl) (hb hby d2_241) (fun _ _ => ⟨rfl, e20, (by decide : 2 + 0 ≤ _), (by decide : 19 + 0 ≤ _)⟩)
  dsimp only [Pt.U, Pt.locs, Pt.cells, Pt.slots] at X21 l21 y21 z21 st21 hQ21
  subst l21 y21 z21
  obtain ⟨rfl, N21q, e21⟩ := hQ21
  have N21 := Fr.app N20 N21q
  obtain ⟨Lx21, Xx21, Nx21⟩ : ∃ L', Stand p l e _ s m _ below meth c T21 L' 2 19 ∧ Fr n0 L' := ⟨_, X21, N21⟩
  obtain ⟨cl22, Ar22, qa22, Sz22, Ng22, Hs22, Ft22⟩ := V20
  obtain ⟨T22, h22, X22, e22, W22, st22⟩ := stC Xx21 hx hZ e21 Ar22 (j := (9 : Int32)) (inb_of Sz22 ⟨by decide, by decide⟩) (g := (mkF m 244 #[.val (.int 15), .val (.int p1), .val (.int p2), .val (.int p3)] [(.int (own_c 9 p1 p2 p3)), (.int 9), (.ref b2), (.ref b2), (.ref b1), (.ref b1)])) rfl rfl (hb hby d2_244)
  have O22 := O20.wr W22 g_b2
  have N22 := Fr.snoc X22 Nx21 g_b2
  have V22 : Arv Z h22 b2 k2 .char (15 : Int32) [(.int (own_d 0 p1 p2 p3)), (.int (own_d 1 p1 p2 p3)), (.int (own_d 2 p1 p2 p3)), (.int (own_d 3 p1 p2 p3)), (.int (own_d 4 p1 p2 p3)), (.int (own_d 5 p1 p2 p3)), (.int (own_d 6 p1 p2 p3)), (.int (own_d 7 p1 p2 p3)), (.int (own_d 8 p1 p2 p3)), (.int (own_d 9 p1 p2 p3)), (.int 0), (.int 0), (.int 0), (.int 0), (.int 0)] (.int 0) := Arv.set Ar22 qa22 Sz22 Ng22 Hs22 Ft22 (fits_nar_char _) W22 9 rfl (Nat.le_of_ble_eq_true rfl)
  obtain ⟨_, _, ⟨T23, L23, k23, n23⟩, -, X23, ⟨Lc23, hQ23, l23, y23, z23⟩, st23⟩ := Jvm.LawKit.callS X22 hx (y := (⟨"com/example/dispensd/dispensd/IdentifierIsValidPinLaw", "at", "(IICC)C"⟩ : MethodName)) hown (mvT hZ (own_w hw 13 rfl)) (mvT hZ (own_w hw 14 rfl)) (mvT hZ (own_w hw 7 rfl)) (mvT hZ (own_w hw 15 rfl)) (by decide) (backOf (W := 5) (rmAt l Z a0 hw [] (10 : Int32) p1 p2 p3  h22 n0 O22 ) hZ (own_w hw 15 rfl) (own_w hw 7 rfl) (by decide) (by decide)) (g := (mkF m 253 #[.val (.int 15), .val (.int p1), .val (.int p2), .val (.int p3)] [(.int p3), (.int p2), (.int p1), (.int 10), (.int 10), (.ref b2), (.ref b2), (.ref b1), (.ref b1)])) rfl (by rw [hml]; rfl) (argsL := [(.int 10), (.int p1), (.int p2), (.int p3)]) (rest := [(.int 10), (.ref b2), (.ref b2), (.ref b1), (.ref b1)]) (lenOf pd_6 rfl) rfl (by show 2 * 0 + _ ≤ _; exact Nat.le_of_eq rfl) (hb hby d2_253) (fun _ _ => ⟨rfl, e22, (by decide : 2 + 0 ≤ _), (by decide : 19 + 0 ≤ _)⟩)
  dsimp only [Pt.U, Pt.locs, Pt.cells, Pt.slots] at X23 l23 y23 z23 st23 hQ23
  subst l23 y23 z23
  obtain ⟨rfl, N23q, e23⟩ := hQ23
  have N23 := Fr.app N22 N23q
  obtain ⟨Lx23, Xx23, Nx23⟩ : ∃ L', Stand p l e _ s m _ below meth c T23 L' 2 19 ∧ Fr n0 L' := ⟨_, X23, N23⟩
  obtain ⟨cl24, Ar24, qa24, Sz24, Ng24, Hs24, Ft24⟩ := V22
  obtain ⟨T24, h24, X24, e24, W24, st24⟩ := stC Xx23 hx hZ e23 Ar24 (j := (10 : Int32)) (inb_of Sz24 ⟨by decide, by decide⟩) (g := (mkF m 256 #[.val (.int 15), .val (.int p1), .val (.int p2), .val (.int p3)] [(.int (own_c 10 p1 p2 p3)), (.int 10), (.ref b2), (.ref b2), (.ref b1), (.ref b1)])) rfl rfl (hb hby d2_256)
  have O24 := O22.wr W24 g_b2
  have N24 := Fr.snoc X24 Nx23 g_b2
  have V24 : Arv Z h24 b2 k2 .char (15 : Int32) [(.int (own_d 0 p1 p2 p3)), (.int (own_d 1 p1 p2 p3)), (.int (own_d 2 p1 p2 p3)), (.int (own_d 3 p1 p2 p3)), (.int (own_d 4 p1 p2 p3)), (.int (own_d 5 p1 p2 p3)), (.int (own_d 6 p1 p2 p3)), (.int (own_d 7 p1 p2 p3)), (.int (own_d 8 p1 p2 p3)), (.int (own_d 9 p1 p2 p3)), (.int (own_d 10 p1 p2 p3)), (.int 0), (.int 0), (.int 0), (.int 0)] (.int 0) := Arv.set Ar24 qa24 Sz24 Ng24 Hs24 Ft24 (fits_nar_char _) W24 10 rfl (Nat.le_of_ble_eq_true rfl)
  obtain ⟨_, _, ⟨T25, L25, k25, n25⟩, -, X25, ⟨Lc25, hQ25, l25, y25, z25⟩, st25⟩ := Jvm.LawKit.callS X24 hx (y := (⟨"com/example/dispensd/dispensd/IdentifierIsValidPinLaw", "at", "(IICC)C"⟩ : MethodName)) hown (mvT hZ (own_w hw 13 rfl)) (mvT hZ (own_w hw 14 rfl)) (mvT hZ (own_w hw 7 rfl)) (mvT hZ (own_w hw 15 rfl)) (by decide) (backOf (W := 5) (rmAt l Z a0 hw [] (11 : Int32) p1 p2 p3  h24 n0 O24 ) hZ (own_w hw 15 rfl) (own_w hw 7 rfl) (by decide) (by decide)) (g := (mkF m 265 #[.val (.int 15), .val (.int p1), .val (.int p2), .val (.int p3)] [(.int p3), (.int p2), (.int p1), (.int 11), (.int 11), (.ref b2), (.ref b2), (.ref b1), (.ref b1)])) rfl (by rw [hml]; rfl) (argsL := [(.int 11), (.int p1), (.int p2), (.int p3)]) (rest := [(.int 11), (.ref b2), (.ref b2), (.ref b1), (.ref b1)]) (lenOf pd_6 rfl) rfl (by show 2 * 0 + _ ≤ _; exact Nat.le_of_eq rfl) (hb hby d2_265) (fun _ _ => ⟨rfl, e24, (by decide : 2 + 0 ≤ _), (by decide : 19 + 0 ≤ _)⟩)
  dsimp only [Pt.U, Pt.locs, Pt.cells, Pt.slots] at X25 l25 y25 z25 st25 hQ25
  subst l25 y25 z25
  obtain ⟨rfl, N25q, e25⟩ := hQ25
  have N25 := Fr.app N24 N25q
  obtain ⟨Lx25, Xx25, Nx25⟩ : ∃ L', Stand p l e _ s m _ below meth c T25 L' 2 19 ∧ Fr n0 L' := ⟨_, X25, N25⟩
  obtain ⟨cl26, Ar26, qa26, Sz26, Ng26, Hs26, Ft26⟩ := V24
  obtain ⟨T26, h26, X26, e26, W26, st26⟩ := stC Xx25 hx hZ e25 Ar26 (j := (11 : Int32)) (inb_of Sz26 ⟨by decide, by decide⟩) (g := (mkF m 268 #[.val (.int 15), .val (.int p1), .val (.int p2), .val (.int p3)] [(.int (own_c 11 p1 p2 p3)), (.int 11), (.ref b2), (.ref b2), (.ref b1), (.ref b1)])) rfl rfl (hb hby d2_268)
  have O26 := O24.wr W26 g_b2
  have N26 := Fr.snoc X26 Nx25 g_b2
  have V26 : Arv Z h26 b2 k2 .char (15 : Int32) [(.int (own_d 0 p1 p2 p3)), (.int (own_d 1 p1 p2 p3)), (.int (own_d 2 p1 p2 p3)), (.int (own_d 3 p1 p2 p3)), (.int (own_d 4 p1 p2 p3)), (.int (own_d 5 p1 p2 p3)), (.int (own_d 6 p1 p2 p3)), (.int (own_d 7 p1 p2 p3)), (.int (own_d 8 p1 p2 p3)), (.int (own_d 9 p1 p2 p3)), (.int (own_d 10 p1 p2 p3)), (.int (own_d 11 p1 p2 p3)), (.int 0), (.int 0), (.int 0)] (.int 0) := Arv.set Ar26 qa26 Sz26 Ng26 Hs26 Ft26 (fits_nar_char _) W26 11 rfl (Nat.le_of_ble_eq_true rfl)
  obtain ⟨_, _, ⟨T27, L27, k27, n27⟩, -, X27, ⟨Lc27, hQ27, l27, y27, z27⟩, st27⟩ := Jvm.LawKit.callS X26 hx (y := (⟨"com/example/dispensd/dispensd/IdentifierIsValidPinLaw", "at", "(IICC)C"⟩ : MethodName)) hown (mvT hZ (own_w hw 13 rfl)) (mvT hZ (own_w hw 14 rfl)) (mvT hZ (own_w hw 7 rfl)) (mvT hZ (own_w hw 15 rfl)) (by decide) (backOf (W := 5) (rmAt l Z a0 hw [] (12 : Int32) p1 p2 p3  h26 n0 O26 ) hZ (own_w hw 15 rfl) (own_w hw 7 rfl) (by decide) (by decide)) (g := (mkF m 277 #[.val (.int 15), .val (.int p1), .val (.int p2), .val (.int p3)] [(.int p3), (.int p2), (.int p1), (.int 12), (.int 12), (.ref b2), (.ref b2), (.ref b1), (.ref b1)])) rfl (by rw [hml]; rfl) (argsL := [(.int 12), (.int p1), (.int p2), (.int p3)]) (rest := [(.int 12), (.ref b2), (.ref b2), (.ref b1), (.ref b1)]) (lenOf pd_6 rfl) rfl (by show 2 * 0 + _ ≤ _; exact Nat.le_of_eq rfl) (hb hby d2_277) (fun _ _ => ⟨rfl, e26, (by decide : 2 + 0 ≤ _), (by decide : 19 + 0 ≤ _)⟩)
  dsimp only [Pt.U, Pt.locs, Pt.cells, Pt.slots] at X27 l27 y27 z27 st27 hQ27
  subst l27 y27 z27
  obtain ⟨rfl, N27q, e27⟩ := hQ27
  have N27 := Fr.app N26 N27q
  obtain ⟨Lx27, Xx27, Nx27⟩ : ∃ L', Stand p l e _ s m _ below meth c T27 L' 2 19 ∧ Fr n0 L' := ⟨_, X27, N27⟩
  obtain ⟨cl28, Ar28, qa28, Sz28, Ng28, Hs28, Ft28⟩ := V26
  obtain ⟨T28, h28, X28, e28, W28, st28⟩ := stC Xx27 hx hZ e27 Ar28 (j := (12 : Int32)) (inb_of Sz28 ⟨by decide, by decide⟩) (g := (mkF m 280 #[.val (.int 15), .val (.int p1), .val (.int p2), .val (.int p3)] [(.int (own_c 12 p1 p2 p3)), (.int 12), (.ref b2), (.ref b2), (.ref b1), (.ref b1)])) rfl rfl (hb hby d2_280)
  have O28 := O26.wr W28 g_b2
  have N28 := Fr.snoc X28 Nx27 g_b2
  have V28 : Arv Z h28 b2 k2 .char (15 : Int32) [(.int (own_d 0 p1 p2 p3)), (.int (own_d 1 p1 p2 p3)), (.int (own_d 2 p1 p2 p3)), (.int (own_d 3 p1 p2 p3)), (.int (own_d 4 p1 p2 p3)), (.int (own_d 5 p1 p2 p3)), (.int (own_d 6 p1 p2 p3)), (.int (own_d 7 p1 p2 p3)), (.int (own_d 8 p1 p2 p3)), (.int (own_d 9 p1 p2 p3)), (.int (own_d 10 p1 p2 p3)), (.int (own_d 11 p1 p2 p3)), (.int (own_d 12 p1 p2 p3)), (.int 0), (.int 0)] (.int 0) := Arv.set Ar28 qa28 Sz28 Ng28 Hs28 Ft28 (fits_nar_char _) W28 12 rfl (Nat.le_of_ble_eq_true rfl)
  obtain ⟨_, _, ⟨T29, L29, k29, n29⟩, -, X29, ⟨Lc29, hQ29, l29, y29, z29⟩, st29⟩ := Jvm.LawKit.callS X28 hx (y := (⟨"com/example/dispensd/dispensd/IdentifierIsValidPinLaw", "at", "(IICC)C"⟩ : MethodName)) hown (mvT hZ (own_w hw 13 rfl)) (mvT hZ (own_w hw 14 rfl)) (mvT hZ (own_w hw 7 rfl)) (mvT hZ (own_w hw 15 rfl)) (by decide) (backOf (W := 5) (rmAt l Z a0 hw [] (13 : Int32) p1 p2 p3  h28 n0 O28 ) hZ (own_w hw 15 rfl) (own_w hw 7 rfl) (by decide) (by decide)) (g := (mkF m 289 #[.val (.int 15), .val (.int p1), .val (.int p2), .val (.int p3)] [(.int p3), (.int p2), (.int p1), (.int 13), (.int 13), (.ref b2), (.ref b2), (.ref b1), (.ref b1)])) rfl (by rw [hml]; rfl) (argsL := [(.int 13), (.int p1), (.int p2), (.int p3)]) (rest := [(.int 13), (.ref b2), (.ref b2), (.ref b1), (.ref b1)]) (lenOf pd_6 rfl) rfl (by show 2 * 0 + _ ≤ _; exact Nat.le_of_eq rfl) (hb hby d2_289) (fun _ _ => ⟨rfl, e28, (by decide : 2 + 0 ≤ _), (by decide : 19 + 0 ≤ _)⟩)
  dsimp only [Pt.U, Pt.locs, Pt.cells, Pt.slots] at X29 l29 y29 z29 st29 hQ29
  subst l29 y29 z29
  obtain ⟨rfl, N29q, e29⟩ := hQ29
  have N29 := Fr.app N28 N29q
  obtain ⟨Lx29, Xx29, Nx29⟩ : ∃ L', Stand p l e _ s m _ below meth c T29 L' 2 19 ∧ Fr n0 L' := ⟨_, X29, N29⟩
  obtain ⟨cl30, Ar30, qa30, Sz30, Ng30, Hs30, Ft30⟩ := V28
  obtain ⟨T30, h30, X30, e30, W30, st30⟩ := stC Xx29 hx hZ e29 Ar30 (j := (13 : Int32)) (inb_of Sz30 ⟨by decide, by decide⟩) (g := (mkF m 292 #[.val (.int 15), .val (.int p1), .val (.int p2), .val (.int p3)] [(.int (own_c 13 p1 p2 p3)), (.int 13), (.ref b2), (.ref b2), (.ref b1), (.ref b1)])) rfl rfl (hb hby d2_292)
  have O30 := O28.wr W30 g_b2
  have N30 := Fr.snoc X30 Nx29 g_b2
  have V30 : Arv Z h30 b2 k2 .char (15 : Int32) [(.int (own_d 0 p1 p2 p3)), (.int (own_d 1 p1 p2 p3)), (.int (own_d 2 p1 p2 p3)), (.int (own_d 3 p1 p2 p3)), (.int (own_d 4 p1 p2 p3)), (.int (own_d 5 p1 p2 p3)), (.int (own_d 6 p1 p2 p3)), (.int (own_d 7 p1 p2 p3)), (.int (own_d 8 p1 p2 p3)), (.int (own_d 9 p1 p2 p3)), (.int (own_d 10 p1 p2 p3)), (.int (own_d 11 p1 p2 p3)), (.int (own_d 12 p1 p2 p3)), (.int (own_d 13 p1 p2 p3)), (.int 0)] (.int 0) := Arv.set Ar30 qa30 Sz30 Ng30 Hs30 Ft30 (fits_nar_char _) W30 13 rfl (Nat.le_of_ble_eq_true rfl)
  obtain ⟨_, _, ⟨T31, L31, k31, n31⟩, -, X31, ⟨Lc31, hQ31, l31, y31, z31⟩, st31⟩ := Jvm.LawKit.callS X30 hx (y := (⟨"com/example/dispensd/dispensd/IdentifierIsValidPinLaw", "at", "(IICC)C"⟩ : MethodName)) hown (mvT hZ (own_w hw 13 rfl)) (mvT hZ (own_w hw 14 rfl)) (mvT hZ (own_w hw 7 rfl)) (mvT hZ (own_w hw 15 rfl)) (by decide) (backOf (W := 5) (rmAt l Z a0 hw [] (14 : Int32) p1 p2 p3  h30 n0 O30 ) hZ (own_w hw 15 rfl) (own_w hw 7 rfl) (by decide) (by decide)) (g := (mkF m 301 #[.val (.int 15), .val (.int p1), .val (.int p2), .val (.int p3)] [(.int p3), (.int p2), (.int p1), (.int 14), (.int 14), (.ref b2), (.ref b2), (.ref b1), (.ref b1)])) rfl (by rw [hml]; rfl) (argsL := [(.int 14), (.int p1), (.int p2), (.int p3)]) (rest := [(.int 14), (.ref b2), (.ref b2), (.ref b1), (.ref b1)]) (lenOf pd_6 rfl) rfl (by show 2 * 0 + _ ≤ _; exact Nat.le_of_eq rfl) (hb hby d2_301) (fun _ _ => ⟨rfl, e30, (by decide : 2 + 0 ≤ _), (by decide : 19 + 0 ≤ _)⟩)
  dsimp only [Pt.U, Pt.locs, Pt.cells, Pt.slots] at X31 l31 y31 z31 st31 hQ31
  subst l31 y31 z31
  obtain ⟨rfl, N31q, e31⟩ := hQ31
  have N31 := Fr.app N30 N31q
  obtain ⟨Lx31, Xx31, Nx31⟩ : ∃ L', Stand p l e _ s m _ below meth c T31 L' 2 19 ∧ Fr n0 L' := ⟨_, X31, N31⟩
  obtain ⟨cl32, Ar32, qa32, Sz32, Ng32, Hs32, Ft32⟩ := V30
  obtain ⟨T32, h32, X32, e32, W32, st32⟩ := stC Xx31 hx hZ e31 Ar32 (j := (14 : Int32)) (inb_of Sz32 ⟨by decide, by decide⟩) (g := (mkF m 304 #[.val (.int 15), .val (.int p1), .val (.int p2), .val (.int p3)] [(.int (own_c 14 p1 p2 p3)), (.int 14), (.ref b2), (.ref b2), (.ref b1), (.ref b1)])) rfl rfl (hb hby d2_304)
  have O32 := O30.wr W32 g_b2
  have N32 := Fr.snoc X32 Nx31 g_b2
  have V32 : Arv Z h32 b2 k2 .char (15 : Int32) [(.int (own_d 0 p1 p2 p3)), (.int (own_d 1 p1 p2 p3)), (.int (own_d 2 p1 p2 p3)), (.int (own_d 3 p1 p2 p3)), (.int (own_d 4 p1 p2 p3)), (.int (own_d 5 p1 p2 p3)), (.int (own_d 6 p1 p2 p3)), (.int (own_d 7 p1 p2 p3)), (.int (own_d 8 p1 p2 p3)), (.int (own_d 9 p1 p2 p3)), (.int (own_d 10 p1 p2 p3)), (.int (own_d 11 p1 p2 p3)), (.int (own_d 12 p1 p2 p3)), (.int (own_d 13 p1 p2 p3)), (.int (own_d 14 p1 p2 p3))] (.int 0) := Arv.set Ar32 qa32 Sz32 Ng32 Hs32 Ft32 (fits_nar_char _) W32 14 rfl (Nat.le_of_ble_eq_true rfl)
  have e_b1_17_x := ((((((((((((((((A1.ext E2).wr W4).wr W6).wr W8).wr W10).wr W12).wr W14).wr W16).wr W18).wr W20).wr W22).wr W24).wr W26).wr W28).wr W30).wr W32)
  have f_b1_17_value := ((((((((((((((((F_value_b1.ext E2).other W4 (Or.inl (Nat.ne_of_lt (Nat.lt_of_lt_of_le F_coder_b1.lt (Nat.le_of_eq g2.symm))))).other W6 (Or.inl (Nat.ne_of_lt (Nat.lt_of_lt_of_le F_coder_b1.lt (Nat.le_of_eq g2.symm))))).other W8 (Or.inl (Nat.ne_of_lt (Nat.lt_of_lt_of_le F_coder_b1.lt (Nat.le_of_eq g2.symm))))).other W10 (Or.inl (Nat.ne_of_lt (Nat.lt_of_lt_of_le F_coder_b1.lt (Nat.le_of_eq g2.symm))))).other W12 (Or.inl (Nat.ne_of_lt (Nat.lt_of_lt_of_le F_coder_b1.lt (Nat.le_of_eq g2.symm))))).other W14 (Or.inl (Nat.ne_of_lt (Nat.lt_of_lt_of_le F_coder_b1.lt (Nat.le_of_eq g2.symm))))).other W16 (Or.inl (Nat.ne_of_lt (Nat.lt_of_lt_of_le F_coder_b1.lt (Nat.le_of_eq g2.symm))))).other W18 (Or.inl (Nat.ne_of_lt (Nat.lt_of_lt_of_le F_coder_b1.lt (Nat.le_of_eq g2.symm))))).other W20 (Or.inl (Nat.ne_of_lt (Nat.lt_of_lt_of_le F_coder_b1.lt (Nat.le_of_eq g2.symm))))).other W22 (Or.inl (Nat.ne_of_lt (Nat.lt_of_lt_of_le F_coder_b1.lt (Nat.le_of_eq g2.symm))))).other W24 (Or.inl (Nat.ne_of_lt (Nat.lt_of_lt_of_le F_coder_b1.lt (Nat.le_of_eq g2.symm))))).other W26 (Or.inl (Nat.ne_of_lt (Nat.lt_of_lt_of_le F_coder_b1.lt (Nat.le_of_eq g2.symm))))).other W28 (Or.inl (Nat.ne_of_lt (Nat.lt_of_lt_of_le F_coder_b1.lt (Nat.le_of_eq g2.symm))))).other W30 (Or.inl (Nat.ne_of_lt (Nat.lt_of_lt_of_le F_coder_b1.lt (Nat.le_of_eq g2.symm))))).other W32 (Or.inl (Nat.ne_of_lt (Nat.lt_of_lt_of_le F_coder_b1.lt (Nat.le_of_eq g2.symm)))))
  have f_b1_17_coder := ((((((((((((((((F_coder_b1.ext E2).other W4 (Or.inl (Nat.ne_of_lt (Nat.lt_of_lt_of_le F_coder_b1.lt (Nat.le_of_eq g2.symm))))).other W6 (Or.inl (Nat.ne_of_lt (Nat.lt_of_lt_of_le F_coder_b1.lt (Nat.le_of_eq g2.symm))))).other W8 (Or.inl (Nat.ne_of_lt (Nat.lt_of_lt_of_le F_coder_b1.lt (Nat.le_of_eq g2.symm))))).other W10 (Or.inl (Nat.ne_of_lt (Nat.lt_of_lt_of_le F_coder_b1.lt (Nat.le_of_eq g2.symm))))).other W12 (Or.inl (Nat.ne_of_lt (Nat.lt_of_lt_of_le F_coder_b1.lt (Nat.le_of_eq g2.symm))))).other W14 (Or.inl (Nat.ne_of_lt (Nat.lt_of_lt_of_le F_coder_b1.lt (Nat.le_of_eq g2.symm))))).other W16 (Or.inl (Nat.ne_of_lt (Nat.lt_of_lt_of_le F_coder_b1.lt (Nat.le_of_eq g2.symm))))).other W18 (Or.inl (Nat.ne_of_lt (Nat.lt_of_lt_of_le F_coder_b1.lt (Nat.le_of_eq g2.symm))))).other W20 (Or.inl (Nat.ne_of_lt (Nat.lt_of_lt_of_le F_coder_b1.lt (Nat.le_of_eq g2.symm))))).other W22 (Or.inl (Nat.ne_of_lt (Nat.lt_of_lt_of_le F_coder_b1.lt (Nat.le_of_eq g2.symm))))).other W24 (Or.inl (Nat.ne_of_lt (Nat.lt_of_lt_of_le F_coder_b1.lt (Nat.le_of_eq g2.symm))))).other W26 (Or.inl (Nat.ne_of_lt (Nat.lt_of_lt_of_le F_coder_b1.lt (Nat.le_of_eq g2.symm))))).other W28 (Or.inl (Nat.ne_of_lt (Nat.lt_of_lt_of_le F_coder_b1.lt (Nat.le_of_eq g2.symm))))).other W30 (Or.inl (Nat.ne_of_lt (Nat.lt_of_lt_of_le F_coder_b1.lt (Nat.le_of_eq g2.symm))))).other W32 (Or.inl (Nat.ne_of_lt (Nat.lt_of_lt_of_le F_coder_b1.lt (Nat.le_of_eq g2.symm)))))
  obtain ⟨_, _, ⟨T33, L33, k33, n33⟩, -, X33, ⟨Lc33, hQ33, l33, y33, z33⟩, st33⟩ := X32.specialBack hx (y := (⟨"java/lang/String", "<init>", "([C)V"⟩ : MethodName)) rfl hown (mvT hZ (own_w hw 16 rfl)) (mvT hZ (own_w hw 17 rfl)) (mvT hZ (own_w hw 18 rfl)) (by decide) (StrChars.Road.backV (W := 1) hZ (own_ws hw) (kI := 4) (own_w hw 10 rfl) (cs := ([own_d 0 p1 p2 p3, own_d 1 p1 p2 p3, own_d 2 p1 p2 p3, own_d 3 p1 p2 p3, own_d 4 p1 p2 p3, own_d 5 p1 p2 p3, own_d 6 p1 p2 p3, own_d 7 p1 p2 p3, own_d 8 p1 p2 p3, own_d 9 p1 p2 p3, own_d 10 p1 p2 p3, own_d 11 p1 p2 p3, own_d 12 p1 p2 p3, own_d 13 p1 p2 p3, own_d 14 p1 p2 p3] : List Int32)) (bs := (([own_d 0 p1 p2 p3, own_d 1 p1 p2 p3, own_d 2 p1 p2 p3, own_d 3 p1 p2 p3, own_d 4 p1 p2 p3, own_d 5 p1 p2 p3, own_d 6 p1 p2 p3, own_d 7 p1 p2 p3, own_d 8 p1 p2 p3, own_d 9 p1 p2 p3, own_d 10 p1 p2 p3, own_d 11 p1 p2 p3, own_d 12 p1 p2 p3, own_d 13 p1 p2 p3, own_d 14 p1 p2 p3] : List Int32)).map (fun c => c.toInt8.toInt32)) (n := 15) g_b1 (own_le O32) e_b1_17_x f_b1_17_value f_b1_17_coder V32 (S_COMPACT_STRINGS.ext O32.2) hzc rfl rfl (by decide) (by decide) hp rfl (by decide) (by decide)) (g := (mkF m 305 #[.val (.int 15), .val (.int p1), .val (.int p2), .val (.int p3)] [(.ref b2), (.ref b1), (.ref b1)])) rfl (by rw [hml]; rfl) (Steps.refl _) (a := b1) (argsL := [(.ref b2)]) (rest := [(.ref b1)]) (lenOf pd_7 rfl) rfl (by show 2 * 0 + _ ≤ _; exact Nat.le_of_eq rfl) (hb hby d2_305) (fun _ _ => ⟨rfl, e32, (by decide : 2 + 1 ≤ _), (by decide : 19 + 15 ≤ _)⟩)
  dsimp only [Pt.U, Pt.locs, Pt.cells, Pt.slots] at X33 l33 y33 z33 st33 hQ33
  subst l33 y33 z33
  obtain ⟨rfl, N33q, K33, Ex33, Fc33, t33, kt33, ut33, vt33, wt33, Fv33, Vt33⟩ := hQ33
  have N33 := Fr.app N32 N33q
  obtain ⟨Lx33, Xx33, Nx33⟩ : ∃ L', Stand p l e _ s m _ below meth c T33 L' 3 34 ∧ Fr n0 L' := ⟨_, X33, N33⟩
  have O33 := O32.keep K33 (allS g_b1 all0)
  obtain ⟨fs, hr, hrun, hended, hW, hsame⟩ := Xx33.leave (v := some (.ref b1)) (fun h => by rw [Bd.returns] at h; cases h)
  refine ⟨_, _, pre0 _ ?_, hrun, hended, _, _, rfl, ?_, ⟨_, rfl⟩, hW, hsame.mono (by decide) (by decide)⟩
  · show oS p e below s₁ m 0 #[.val (.int 15), .val (.int p1), .val (.int p2), .val (.int p3)] [] _
    refine XS.iloadN X0.here hx rfl (hb hby d2_0) rfl ?_
    show oS p e below s₁ m 1 #[.val (.int 15), .val (.int p1), .val (.int p2), .val (.int p3)] [(.int 15)] _
    refine XS.ifYes X0.here hx rfl (pc0 := 1) (pc' := 15) rfl (hb hby d2_1) rfl ((if0 _ _).trans (feq (by decide : ¬ ((15 : Int32) = (0 : Int32)))).2) (by decide) (by decide) ?_
    show oS p e below s₁ m 15 #[.val (.int 15), .val (.int p1), .val (.int p2), .val (.int p3)] [] _
    refine XS.iloadN X0.here hx rfl (hb hby d2_15) rfl ?_
    show oS p e below s₁ m 16 #[.val (.int 15), .val (.int p1), .val (.int p2), .val (.int p3)] [(.int 15)] _
    refine XS.iconst X0.here hx rfl (hb hby d2_16) ?_
    show oS p e below s₁ m 17 #[.val (.int 15), .val (.int p1), .val (.int p2), .val (.int p3)] [(.int 1), (.int 15)] _
    refine XS.icmpYes X0.here hx rfl (pc0 := 17) (pc' := 41) rfl (hb hby d2_17) rfl (feq (by decide : ¬ ((15 : Int32) = (1 : Int32)))).2 (by decide) (by decide) ?_
    show oS p e below s₁ m 41 #[.val (.int 15), .val (.int p1), .val (.int p2), .val (.int p3)] [] _
    refine XS.iloadN X0.here hx rfl (hb hby d2_41) rfl ?_
    show oS p e below s₁ m 42 #[.val (.int 15), .val (.int p1), .val (.int p2), .val (.int p3)] [(.int 15)] _
    refine XS.iconst X0.here hx rfl (hb hby d2_42) ?_
    show oS p e below s₁ m 43 #[.val (.int 15), .val (.int p1), .val (.int p2), .val (.int p3)] [(.int 2), (.int 15)] _
    refine XS.icmpYes X0.here hx rfl (pc0 := 43) (pc' := 77) rfl (hb hby d2_43) rfl (feq (by decide : ¬ ((15 : Int32) = (2 : Int32)))).2 (by decide) (by decide) ?_
    show oS p e below s₁ m 77 #[.val (.int 15), .val (.int p1), .val (.int p2), .val (.int p3)] [] _
    refine XS.iloadN X0.here hx rfl (hb hby d2_77) rfl ?_
    show oS p e below s₁ m 78 #[.val (.int 15), .val (.int p1), .val (.int p2), .val (.int p3)] [(.int 15)] _
    refine XS.iconst X0.here hx rfl (hb hby d2_78) ?_
    show oS p e below s₁ m 79 #[.val (.int 15), .val (.int p1), .val (.int p2), .val (.int p3)] [(.int 3), (.int 15)] _
    refine XS.icmpYes X0.here hx rfl (pc0 := 79) (pc' := 123) rfl (hb hby d2_79) rfl (feq (by decide : ¬ ((15 : Int32) = (3 : Int32)))).2 (by decide) (by decide) ?_
    show oS p e below s₁ m 123 #[.val (.int 15), .val (.int p1), .val (.int p2), .val (.int p3)] [] _
    refine XS.iloadN X0.here hx rfl (hb hby d2_123) rfl ?_
    show oS p e below s₁ m 124 #[.val (.int 15), .val (.int p1), .val (.int p2), .val (.int p3)] [(.int 15)] _
    refine XS.bipush X0.here hx rfl (hb hby d2_124) ?_
    show oS p e below s₁ m 126 #[.val (.int 15), .val (.int p1), .val (.int p2), .val (.int p3)] [(.int 15), (.int 15)] _
    refine XS.icmpNo X0.here hx rfl (hb hby d2_126) rfl (teq (by decide : (15 : Int32) = (15 : Int32))).2 ?_
    show oS p e below s₁ m 129 #[.val (.int 15), .val (.int p1), .val (.int p2), .val (.int p3)] [] _
    refine st1 _ ?_
    show oS p e below T1 m 132 #[.val (.int 15), .val (.int p1), .val (.int p2), .val (.int p3)] [(.ref b1)] _
    refine XS.dup X1.here hx rfl (hb hby d2_132) rfl rfl ?_
    show oS p e below T1 m 133 #[.val (.int 15), .val (.int p1), .val (.int p2), .val (.int p3)] [(.ref b1), (.ref b1)] _
    refine XS.bipush X1.here hx rfl (hb hby d2_133) ?_
    show oS p e below T1 m 135 #[.val (.int 15), .val (.int p1), .val (.int p2), .val (.int p3)] [(.int 15), (.ref b1), (.ref b1)] _
    refine st2 _ ?_
    show oS p e below T2 m 137 #[.val (.int 15), .val (.int p1), .val (.int p2), .val (.int p3)] [(.ref b2), (.ref b1), (.ref b1)] _
    refine XS.dup X2.here hx rfl (hb hby d2_137) rfl rfl ?_
    show oS p e below T2 m 138 #[.val (.int 15), .val (.int p1), .val (.int p2), .val (.int p3)] [(.ref b2), (.ref b2), (.ref b1), (.ref b1)] _
    refine XS.iconst X2.here hx rfl (hb hby d2_138) ?_
    show oS p e below T2 m 139 #[.val (.int 15), .val (.int p1), .val (.int p2), .val (.int p3)] [(.int 0), (.ref b2), (.ref b2), (.ref b1), (.ref b1)] _
    refine XS.iconst X2.here hx rfl (hb hby d2_139) ?_
    show oS p e below T2 m 140 #[.val (.int 15), .val (.int p1), .val (.int p2), .val (.int p3)] [(.int 0), (.int 0), (.ref b2), (.ref b2), (.ref b1), (.ref b1)] _
    refine XS.iloadN X2.here hx rfl (hb hby d2_140) rfl ?_
    show oS p e below T2 m 141 #[.val (.int 15), .val (.int p1), .val (.int p2), .val (.int p3)] [(.int p1), (.int 0), (.int 0), (.ref b2), (.ref b2), (.ref b1), (.ref b1)] _
    refine XS.iloadN X2.here hx rfl (hb hby d2_141) rfl ?_
    show oS p e below T2 m 142 #[.val (.int 15), .val (.int p1), .val (.int p2), .val (.int p3)] [(.int p2), (.int p1), (.int 0), (.int 0), (.ref b2), (.ref b2), (.ref b1), (.ref b1)] _
    refine XS.iloadN X2.here hx rfl (hb hby d2_142) rfl ?_
    show oS p e below T2 m 143 #[.val (.int 15), .val (.int p1), .val (.int p2), .val (.int p3)] [(.int p3), (.int p2), (.int p1), (.int 0), (.int 0), (.ref b2), (.ref b2), (.ref b1), (.ref b1)] _
    refine st3 _ ?_
    show oS p e below T3 m 146 #[.val (.int 15), .val (.int p1), .val (.int p2), .val (.int p3)] [(.int (own_c 0 p1 p2 p3)), (.int 0), (.ref b2), (.ref b2), (.ref b1), (.ref b1)] _
    refine st4 _ ?_
    show oS p e below T4 m 147 #[.val (.int 15), .val (.int p1), .val (.int p2), .val (.int p3)] [(.ref b2), (.ref b1), (.ref b1)] _
    refine XS.dup X4.here hx rfl (hb hby d2_147) rfl rfl ?_
    show oS p e below T4 m 148 #[.val (.int 15), .val (.int p1), .val (.int p2), .val (.int p3)] [(.ref b2), (.ref b2), (.ref b1), (.ref b1)] _
    refine XS.iconst X4.here hx rfl (hb hby d2_148) ?_
    show oS p e below T4 m 149 #[.val (.int 15), .val (.int p1), .val (.int p2), .val (.int p3)] [(.int 1), (.ref b2), (.ref b2), (.ref b1), (.ref b1)] _
    refine XS.iconst X4.here hx rfl (hb hby d2_149) ?_
    show oS p e below T4 m 150 #[.val (.int 15), .val (.int p1), .val (.int p2), .val (.int p3)] [(.int 1), (.int 1), (.ref b2), (.ref b2), (.ref b1), (.ref b1)] _
    refine XS.iloadN X4.here hx rfl (hb hby d2_150) rfl ?_
    show oS p e below T4 m 151 #[.val (.int 15), .val (.int p1), .val (.int p2), .val (.int p3)] [(.int p1), (.int 1), (.int 1), (.ref b2), (.ref b2), (.ref b1), (.ref b1)] _
    refine XS.iloadN X4.here hx rfl (hb hby d2_151) rfl ?_
    show oS p e below T4 m 152 #[.val (.int 15), .val (.int p1), .val (.int p2), .val (.int p3)] [(.int p2), (.int p1), (.int 1), (.int 1), (.ref b2), (.ref b2), (.ref b1), (.ref b1)] _
    refine XS.iloadN X4.here hx rfl (hb hby d2_152) rfl ?_
    show oS p e below T4 m 153 #[.val (.int 15), .val (.int p1), .val (.int p2), .val (.int p3)] [(.int p3), (.int p2), (.int p1), (.int 1), (.int 1), (.ref b2), (.ref b2), (.ref b1), (.ref b1)] _
    refine st5 _ ?_
    show oS p e below T5 m 156 #[.val (.int 15), .val (.int p1), .val (.int p2), .val (.int p3)] [(.int (own_c 1 p1 p2 p3)), (.int 1), (.ref b2), (.ref b2), (.ref b1), (.ref b1)] _
    refine st6 _ ?_
    show oS p e below T6 m 157 #[.val (.int 15), .val (.int p1), .val (.int p2), .val (.int p3)] [(.ref b2), (.ref b1), (.ref b1)] _
    refine XS.dup X6.here hx rfl (hb hby d2_157) rfl rfl ?_
    show oS p e below T6 m 158 #[.val (.int 15), .val (.int p1), .val (.int p2), .val (.int p3)] [(.ref b2), (.ref b2), (.ref b1), (.ref b1)] _
    refine XS.iconst X6.here hx rfl (hb hby d2_158) ?_
    show oS p e below T6 m 159 #[.val (.int 15), .val (.int p1), .val (.int p2), .val (.int p3)] [(.int 2), (.ref b2), (.ref b2), (.ref b1), (.ref b1)] _
    refine XS.iconst X6.here hx rfl (hb hby d2_159) ?_
    show oS p e below T6 m 160 #[.val (.int 15), .val (.int p1), .val (.int p2), .val (.int p3)] [(.int 2), (.int 2), (.ref b2), (.ref b2), (.ref b1), (.ref b1)] _
    refine XS.iloadN X6.here hx rfl (hb hby d2_160) rfl ?_
    show oS p e below T6 m 161 #[.val (.int 15), .val (.int p1), .val (.int p2), .val (.int p3)] [(.int p1), (.int 2), (.int 2), (.ref b2), (.ref b2), (.ref b1), (.ref b1)] _
    refine XS.iloadN X6.here hx rfl (hb hby d2_161) rfl ?_
    show oS p e below T6 m 162 #[.val (.int 15), .val (.int p1), .val (.int p2), .val (.int p3)] [(.int p2), (.int p1), (.int 2), (.int 2), (.ref b2), (.ref b2), (.ref b1), (.ref b1)] _
    refine XS.iloadN X6.here hx rfl (hb hby d2_162) rfl ?_
    show oS p e below T6 m 163 #[.val (.int 15), .val (.int p1), .val (.int p2), .val (.int p3)] [(.int p3), (.int p2), (.int p1), (.int 2), (.int 2), (.ref b2), (.ref b2), (.ref b1), (.ref b1)] _
    refine st7 _ ?_
    show oS p e below T7 m 166 #[.val (.int 15), .val (.int p1), .val (.int p2), .val (.int p3)] [(.int (own_c 2 p1 p2 p3)), (.int 2), (.ref b2), (.ref b2), (.ref b1), (.ref b1)] _
    refine st8 _ ?_
    show oS p e below T8 m 167 #[.val (.int 15), .val (.int p1), .val (.int p2), .val (.int p3)] [(.ref b2), (.ref b1), (.ref b1)] _
    refine XS.dup X8.here hx rfl (hb hby d2_167) rfl rfl ?_
    show oS p e below T8 m 168 #[.val (.int 15), .val (.int p1), .val (.int p2), .val (.int p3)] [(.ref b2), (.ref b2), (.ref b1), (.ref b1)] _
    refine XS.iconst X8.here hx rfl (hb hby d2_168) ?_
    show oS p e below T8 m 169 #[.val (.int 15), .val (.int p1), .val (.int p2), .val (.int p3)] [(.int 3), (.ref b2), (.ref b2), (.ref b1), (.ref b1)] _
    refine XS.iconst X8.here hx rfl (hb hby d2_169) ?_
    show oS p e below T8 m 170 #[.val (.int 15), .val (.int p1), .val (.int p2), .val (.int p3)] [(.int 3), (.int 3), (.ref b2), (.ref b2), (.ref b1), (.ref b1)] _
    refine XS.iloadN X8.here hx rfl (hb hby d2_170) rfl ?_
    show oS p e below T8 m 171 #[.val (.int 15), .val (.int p1), .val (.int p2), .val (.int p3)] [(.int p1), (.int 3), (.int 3), (.ref b2), (.ref b2), (.ref b1), (.ref b1)] _
    refine XS.iloadN X8.here hx rfl (hb hby d2_171) rfl ?_
    show oS p e below T8 m 172 #[.val (.int 15), .val (.int p1), .val (.int p2), .val (.int p3)] [(.int p2), (.int p1), (.int 3), (.int 3), (.ref b2), (.ref b2), (.ref b1), (.ref b1)] _
    refine XS.iloadN X8.here hx rfl (hb hby d2_172) rfl ?_
    show oS p e below T8 m 173 #[.val (.int 15), .val (.int p1), .val (.int p2), .val (.int p3)] [(.int p3), (.int p2), (.int p1), (.int 3), (.int 3), (.ref b2), (.ref b2), (.ref b1), (.ref b1)] _
    refine st9 _ ?_
    show oS p e below T9 m 176 #[.val (.int 15), .val (.int p1), .val (.int p2), .val (.int p3)] [(.int (own_c 3 p1 p2 p3)), (.int 3), (.ref b2), (.ref b2), (.ref b1), (.ref b1)] _
    refine st10 _ ?_
    show oS p e below T10 m 177 #[.val (.int 15), .val (.int p1), .val (.int p2), .val (.int p3)] [(.ref b2), (.ref b1), (.ref b1)] _
    refine XS.dup X10.here hx rfl (hb hby d2_177) rfl rfl ?_
    show oS p e below T10 m 178 #[.val (.int 15), .val (.int p1), .val (.int p2), .val (.int p3)] [(.ref b2), (.ref b2), (.ref b1), (.ref b1)] _
    refine XS.iconst X10.here hx rfl (hb hby d2_178) ?_
    show oS p e below T10 m 179 #[.val (.int 15), .val (.int p1), .val (.int p2), .val (.int p3)] [(.int 4), (.ref b2), (.ref b2), (.ref b1), (.ref b1)] _
    refine XS.iconst X10.here hx rfl (hb hby d2_179) ?_
    show oS p e below T10 m 180 #[.val (.int 15), .val (.int p1), .val (.int p2), .val (.int p3)] [(.int 4), (.int 4), (.ref b2), (.ref b2), (.ref b1), (.ref b1)] _
    refine XS.iloadN X10.here hx rfl (hb hby d2_180) rfl ?_
    show oS p e below T10 m 181 #[.val (.int 15), .val (.int p1), .val (.int p2), .val (.int p3)] [(.int p1), (.int 4), (.int 4), (.ref b2), (.ref b2), (.ref b1), (.ref b1)] _
    refine XS.iloadN X10.here hx rfl (hb hby d2_181) rfl ?_
    show oS p e below T10 m 182 #[.val (.int 15), .val (.int p1), .val (.int p2), .val (.int p3)] [(.int p2), (.int p1), (.int 4), (.int 4), (.ref b2), (.ref b2), (.ref b1), (.ref b1)] _
    refine XS.iloadN X10.here hx rfl (hb hby d2_182) rfl ?_
    show oS p e below T10 m 183 #[.val (.int 15), .val (.int p1), .val (.int p2), .val (.int p3)] [(.int p3), (.int p2), (.int p1), (.int 4), (.int 4), (.ref b2), (.ref b2), (.ref b1), (.ref b1)] _
    refine st11 _ ?_
    show oS p e below T11 m 186 #[.val (.int 15), .val (.int p1), .val (.int p2), .val (.int p3)] [(.int (own_c 4 p1 p2 p3)), (.int 4), (.ref b2), (.ref b2), (.ref b1), (.ref b1)] _
    refine st12 _ ?_
    show oS p e below T12 m 187 #[.val (.int 15), .val (.int p1), .val (.int p2), .val (.int p3)] [(.ref b2), (.ref b1), (.ref b1)] _
    refine XS.dup X12.here hx rfl (hb hby d2_187) rfl rfl ?_
    show oS p e below T12 m 188 #[.val (.int 15), .val (.int p1), .val (.int p2), .val (.int p3)] [(.ref b2), (.ref b2), (.ref b1), (.ref b1)] _
    refine XS.iconst X12.here hx rfl (hb hby d2_188) ?_
    show oS p e below T12 m 189 #[.val (.int 15), .val (.int p1), .val (.int p2), .val (.int p3)] [(.int 5), (.ref b2), (.ref b2), (.ref b1), (.ref b1)] _
    refine XS.iconst X12.here hx rfl (hb hby d2_189) ?_
    show oS p e below T12 m 190 #[.val (.int 15), .val (.int p1), .val (.int p2), .val (.int p3)] [(.int 5), (.int 5), (.ref b2), (.ref b2), (.ref b1), (.ref b1)] _
    refine XS.iloadN X12.here hx rfl (hb hby d2_190) rfl ?_
    show oS p e below T12 m 191 #[.val (.int 15), .val (.int p1), .val (.int p2), .val (.int p3)] [(.int p1), (.int 5), (.int 5), (.ref b2), (.ref b2), (.ref b1), (.ref b1)] _
    refine XS.iloadN X12.here hx rfl (hb hby d2_191) rfl ?_
    show oS p e below T12 m 192 #[.val (.int 15), .val (.int p1), .val (.int p2), .val (.int p3)] [(.int p2), (.int p1), (.int 5), (.int 5), (.ref b2), (.ref b2), (.ref b1), (.ref b1)] _
    refine XS.iloadN X12.here hx rfl (hb hby d2_192) rfl ?_
    show oS p e below T12 m 193 #[.val (.int 15), .val (.int p1), .val (.int p2), .val (.int p3)] [(.int p3), (.int p2), (.int p1), (.int 5), (.int 5), (.ref b2), (.ref b2), (.ref b1), (.ref b1)] _
    refine st13 _ ?_
    show oS p e below T13 m 196 #[.val (.int 15), .val (.int p1), .val (.int p2), .val (.int p3)] [(.int (own_c 5 p1 p2 p3)), (.int 5), (.ref b2), (.ref b2), (.ref b1), (.ref b1)] _
    refine st14 _ ?_
    show oS p e below T14 m 197 #[.val (.int 15), .val (.int p1), .val (.int p2), .val (.int p3)] [(.ref b2), (.ref b1), (.ref b1)] _
    refine XS.dup X14.here hx rfl (hb hby d2_197) rfl rfl ?_
    show oS p e below T14 m 198 #[.val (.int 15), .val (.int p1), .val (.int p2), .val (.int p3)] [(.ref b2), (.ref b2), (.ref b1), (.ref b1)] _
    refine XS.bipush X14.here hx rfl (hb hby d2_198) ?_
    show oS p e below T14 m 200 #[.val (.int 15), .val (.int p1), .val (.int p2), .val (.int p3)] [(.int 6), (.ref b2), (.ref b2), (.ref b1), (.ref b1)] _
    refine XS.bipush X14.here hx rfl (hb hby d2_200) ?_
    show oS p e below T14 m 202 #[.val (.int 15), .val (.int p1), .val (.int p2), .val (.int p3)] [(.int 6), (.int 6), (.ref b2), (.ref b2), (.ref b1), (.ref b1)] _
    refine XS.iloadN X14.here hx rfl (hb hby d2_202) rfl ?_
    show oS p e below T14 m 203 #[.val (.int 15), .val (.int p1), .val (.int p2), .val (.int p3)] [(.int p1), (.int 6), (.int 6), (.ref b2), (.ref b2), (.ref b1), (.ref b1)] _
    refine XS.iloadN X14.here hx rfl (hb hby d2_203) rfl ?_
    show oS p e below T14 m 204 #[.val (.int 15), .val (.int p1), .val (.int p2), .val (.int p3)] [(.int p2), (.int p1), (.int 6), (.int 6), (.ref b2), (.ref b2), (.ref b1), (.ref b1)] _
    refine XS.iloadN X14.here hx rfl (hb hby d2_204) rfl ?_
    show oS p e below T14 m 205 #[.val (.int 15), .val (.int p1), .val (.int p2), .val (.int p3)] [(.int p3), (.int p2), (.int p1), (.int 6), (.int 6), (.ref b2), (.ref b2), (.ref b1), (.ref b1)] _
    refine st15 _ ?_
    show oS p e below T15 m 208 #[.val (.int 15), .val (.int p1), .val (.int p2), .val (.int p3)] [(.int (own_c 6 p1 p2 p3)), (.int 6), (.ref b2), (.ref b2), (.ref b1), (.ref b1)] _
    refine st16 _ ?_
    show oS p e below T16 m 209 #[.val (.int 15), .val (.int p1), .val (.int p2), .val (.int p3)] [(.ref b2), (.ref b1), (.ref b1)] _
    refine XS.dup X16.here hx rfl (hb hby d2_209) rfl rfl ?_
    show oS p e below T16 m 210 #[.val (.int 15), .val (.int p1), .val (.int p2), .val (.int p3)] [(.ref b2), (.ref b2), (.ref b1), (.ref b1)] _
    refine XS.bipush X16.here hx rfl (hb hby d2_210) ?_
    show oS p e below T16 m 212 #[.val (.int 15), .val (.int p1), .val (.int p2), .val (.int p3)] [(.int 7), (.ref b2), (.ref b2), (.ref b1), (.ref b1)] _
    refine XS.bipush X16.here hx rfl (hb hby d2_212) ?_
    show oS p e below T16 m 214 #[.val (.int 15), .val (.int p1), .val (.int p2), .val (.int p3)] [(.int 7), (.int 7), (.ref b2), (.ref b2), (.ref b1), (.ref b1)] _
    refine XS.iloadN X16.here hx rfl (hb hby d2_214) rfl ?_
    show oS p e below T16 m 215 #[.val (.int 15), .val (.int p1), .val (.int p2), .val (.int p3)] [(.int p1), (.int 7), (.int 7), (.ref b2), (.ref b2), (.ref b1), (.ref b1)] _
    refine XS.iloadN X16.here hx rfl (hb hby d2_215) rfl ?_
    show oS p e below T16 m 216 #[.val (.int 15), .val (.int p1), .val (.int p2), .val (.int p3)] [(.int p2), (.int p1), (.int 7), (.int 7), (.ref b2), (.ref b2), (.ref b1), (.ref b1)] _
    refine XS.iloadN X16.here hx rfl (hb hby d2_216) rfl ?_
    show oS p e below T16 m 217 #[.val (.int 15), .val (.int p1), .val (.int p2), .val (.int p3)] [(.int p3), (.int p2), (.int p1), (.int 7), (.int 7), (.ref b2), (.ref b2), (.ref b1), (.ref b1)] _
    refine st17 _ ?_
    show oS p e below T17 m 220 #[.val (.int 15), .val (.int p1), .val (.int p2), .val (.int p3)] [(.int (own_c 7 p1 p2 p3)), (.int 7), (.ref b2), (.ref b2), (.ref b1), (.ref b1)] _
    refine st18 _ ?_
    show oS p e below T18 m 221 #[.val (.int 15), .val (.int p1), .val (.int p2), .val (.int p3)] [(.ref b2), (.ref b1), (.ref b1)] _
    refine XS.dup X18.here hx rfl (hb hby d2_221) rfl rfl ?_
    show oS p e below T18 m 222 #[.val (.int 15), .val (.int p1), .val (.int p2), .val (.int p3)] [(.ref b2), (.ref b2), (.ref b1), (.ref b1)] _
    refine XS.bipush X18.here hx rfl (hb hby d2_222) ?_
    show oS p e below T18 m 224 #[.val (.int 15), .val (.int p1), .val (.int p2), .val (.int p3)] [(.int 8), (.ref b2), (.ref b2), (.ref b1), (.ref b1)] _
    refine XS.bipush X18.here hx rfl (hb hby d2_224) ?_
    show oS p e below T18 m 226 #[.val (.int 15), .val (.int p1), .val (.int p2), .val (.int p3)] [(.int 8), (.int 8), (.ref b2), (.ref b2), (.ref b1), (.ref b1)] _
    refine XS.iloadN X18.here hx rfl (hb hby d2_226) rfl ?_
    show oS p e below T18 m 227 #[.val (.int 15), .val (.int p1), .val (.int p2), .val (.int p3)] [(.int p1), (.int 8), (.int 8), (.ref b2), (.ref b2), (.ref b1), (.ref b1)] _
    refine XS.iloadN X18.here hx rfl (hb hby d2_227) rfl ?_
    show oS p e below T18 m 228 #[.val (.int 15), .val (.int p1), .val (.int p2), .val (.int p3)] [(.int p2), (.int p1), (.int 8), (.int 8), (.ref b2), (.ref b2), (.ref b1), (.ref b1)] _
    refine XS.iloadN X18.here hx rfl (hb hby d2_228) rfl ?_
    show oS p e below T18 m 229 #[.val (.int 15), .val (.int p1), .val (.int p2), .val (.int p3)] [(.int p3), (.int p2), (.int p1), (.int 8), (.int 8), (.ref b2), (.ref b2), (.ref b1), (.ref b1)] _
    refine st19 _ ?_
    show oS p e below T19 m 232 #[.val (.int 15), .val (.int p1), .val (.int p2), .val (.int p3)] [(.int (own_c 8 p1 p2 p3)), (.int 8), (.ref b2), (.ref b2), (.ref b1), (.ref b1)] _
    refine st20 _ ?_
    show oS p e below T20 m 233 #[.val (.int 15), .val (.int p1), .val (.int p2), .val (.int p3)] [(.ref b2), (.ref b1), (.ref b1)] _
    refine XS.dup X20.here hx rfl (hb hby d2_233) rfl rfl ?_
    show oS p e below T20 m 234 #[.val (.int 15), .val (.int p1), .val (.int p2), .val (.int p3)] [(.ref b2), (.ref b2), (.ref b1), (.ref b1)] _
    refine XS.bipush X20.here hx rfl (hb hby d2_234) ?_
    show oS p e below T20 m 236 #[.val (.int 15), .val (.int p1), .val (.int p2), .val (.int p3)] [(.int 9), (.ref b2), (.ref b2), (.ref b1), (.ref b1)] _
    refine XS.bipush X20.here hx rfl (hb hby d2_236) ?_
    show oS p e below T20 m 238 #[.val (.int 15), .val (.int p1), .val (.int p2), .val (.int p3)] [(.int 9), (.int 9), (.ref b2), (.ref b2), (.ref b1), (.ref b1)] _
    refine XS.iloadN X20.here hx rfl (hb hby d2_238) rfl ?_
    show oS p e below T20 m 239 #[.val (.int 15), .val (.int p1), .val (.int p2), .val (.int p3)] [(.int p1), (.int 9), (.int 9), (.ref b2), (.ref b2), (.ref b1), (.ref b1)] _
    refine XS.iloadN X20.here hx rfl (hb hby d2_239) rfl ?_
    show oS p e below T20 m 240 #[.val (.int 15), .val (.int p1), .val (.int p2), .val (.int p3)] [(.int p2), (.int p1), (.int 9), (.int 9), (.ref b2), (.ref b2), (.ref b1), (.ref b1)] _
    refine XS.iloadN X20.here hx rfl (hb hby d2_240) rfl ?_
    show oS p e below T20 m 241 #[.val (.int 15), .val (.int p1), .val (.int p2), .val (.int p3)] [(.int p3), (.int p2), (.int p1), (.int 9), (.int 9), (.ref b2), (.ref b2), (.ref b1), (.ref b1)] _
    refine st21 _ ?_
    show oS p e below T21 m 244 #[.val (.int 15), .val (.int p1), .val (.int p2), .val (.int p3)] [(.int (own_c 9 p1 p2 p3)), (.int 9), (.ref b2), (.ref b2), (.ref b1), (.ref b1)] _
    refine st22 _ ?_
    show oS p e below T22 m 245 #[.val (.int 15), .val (.int p1), .val (.int p2), .val (.int p3)] [(.ref b2), (.ref b1), (.ref b1)] _
    refine XS.dup X22.here hx rfl (hb hby d2_245) rfl rfl ?_
    show oS p e below T22 m 246 #[.val (.int 15), .val (.int p1), .val (.int p2), .val (.int p3)] [(.ref b2), (.ref b2), (.ref b1), (.ref b1)] _
    refine XS.bipush X22.here hx rfl (hb hby d2_246) ?_
    show oS p e below T22 m 248 #[.val (.int 15), .val (.int p1), .val (.int p2), .val (.int p3)] [(.int 10), (.ref b2), (.ref b2), (.ref b1), (.ref b1)] _
    refine XS.bipush X22.here hx rfl (hb hby d2_248) ?_
    show oS p e below T22 m 250 #[.val (.int 15), .val (.int p1), .val (.int p2), .val (.int p3)] [(.int 10), (.int 10), (.ref b2), (.ref b2), (.ref b1), (.ref b1)] _
    refine XS.iloadN X22.here hx rfl (hb hby d2_250) rfl ?_
    show oS p e below T22 m 251 #[.val (.int 15), .val (.int p1), .val (.int p2), .val (.int p3)] [(.int p1), (.int 10), (.int 10), (.ref b2), (.ref b2), (.ref b1), (.ref b1)] _
    refine XS.iloadN X22.here hx rfl (hb hby d2_251) rfl ?_
    show oS p e below T22 m 252 #[.val (.int 15), .val (.int p1), .val (.int p2), .val (.int p3)] [(.int p2), (.int p1), (.int 10), (.int 10), (.ref b2), (.ref b2), (.ref b1), (.ref b1)] _
    refine XS.iloadN X22.here hx rfl (hb hby d2_252) rfl ?_
    show oS p e below T22 m 253 #[.val (.int 15), .val (.int p1), .val (.int p2), .val (.int p3)] [(.int p3), (.int p2), (.int p1), (.int 10), (.int 10), (.ref b2), (.ref b2), (.ref b1), (.ref b1)] _
    refine st23 _ ?_
    show oS p e below T23 m 256 #[.val (.int 15), .val (.int p1), .val (.int p2), .val (.int p3)] [(.int (own_c 10 p1 p2 p3)), (.int 10), (.ref b2), (.ref b2), (.ref b1), (.ref b1)] _
    refine st24 _ ?_
    show oS p e below T24 m 257 #[.val (.int 15), .val (.int p1), .val (.int p2), .val (.int p3)] [(.ref b2), (.ref b1), (.ref b1)] _
    refine XS.dup X24.here hx rfl (hb hby d2_257) rfl rfl ?_
    show oS p e below T24 m 258 #[.val (.int 15), .val (.int p1), .val (.int p2), .val (.int p3)] [(.ref b2), (.ref b2), (.ref b1), (.ref b1)] _
    refine XS.bipush X24.here hx rfl (hb hby d2_258) ?_
    show oS p e below T24 m 260 #[.val (.int 15), .val (.int p1), .val (.int p2), .val (.int p3)] [(.int 11), (.ref b2), (.ref b2), (.ref b1), (.ref b1)] _
    refine XS.bipush X24.here hx rfl (hb hby d2_260) ?_
    show oS p e below T24 m 262 #[.val (.int 15), .val (.int p1), .val (.int p2), .val (.int p3)] [(.int 11), (.int 11), (.ref b2), (.ref b2), (.ref b1), (.ref b1)] _
    refine XS.iloadN X24.here hx rfl (hb hby d2_262) rfl ?_
    show oS p e below T24 m 263 #[.val (.int 15), .val (.int p1), .val (.int p2), .val (.int p3)] [(.int p1), (.int 11), (.int 11), (.ref b2), (.ref b2), (.ref b1), (.ref b1)] _
    refine XS.iloadN X24.here hx rfl (hb hby d2_263) rfl ?_
    show oS p e below T24 m 264 #[.val (.int 15), .val (.int p1), .val (.int p2), .val (.int p3)] [(.int p2), (.int p1), (.int 11), (.int 11), (.ref b2), (.ref b2), (.ref b1), (.ref b1)] _
    refine XS.iloadN X24.here hx rfl (hb hby d2_264) rfl ?_
    show oS p e below T24 m 265 #[.val (.int 15), .val (.int p1), .val (.int p2), .val (.int p3)] [(.int p3), (.int p2), (.int p1), (.int 11), (.int 11), (.ref b2), (.ref b2), (.ref b1), (.ref b1)] _
    refine st25 _ ?_
    show oS p e below T25 m 268 #[.val (.int 15), .val (.int p1), .val (.int p2), .val (.int p3)] [(.int (own_c 11 p1 p2 p3)), (.int 11), (.ref b2), (.ref b2), (.ref b1), (.ref b1)] _
    refine st26 _ ?_
    show oS p e below T26 m 269 #[.val (.int 15), .val (.int p1), .val (.int p2), .val (.int p3)] [(.ref b2), (.ref b1), (.ref b1)] _
    refine XS.dup X26.here hx rfl (hb hby d2_269) rfl rfl ?_
    show oS p e below T26 m 270 #[.val (.int 15), .val (.int p1), .val (.int p2), .val (.int p3)] [(.ref b2), (.ref b2), (.ref b1), (.ref b1)] _
    refine XS.bipush X26.here hx rfl (hb hby d2_270) ?_
    show oS p e below T26 m 272 #[.val (.int 15), .val (.int p1), .val (.int p2), .val (.int p3)] [(.int 12), (.ref b2), (.ref b2), (.ref b1), (.ref b1)] _
    refine XS.bipush X26.here hx rfl (hb hby d2_272) ?_
    show oS p e below T26 m 274 #[.val (.int 15), .val (.int p1), .val (.int p2), .val (.int p3)] [(.int 12), (.int 12), (.ref b2), (.ref b2), (.ref b1), (.ref b1)] _
    refine XS.iloadN X26.here hx rfl (hb hby d2_274) rfl ?_
    show oS p e below T26 m 275 #[.val (.int 15), .val (.int p1), .val (.int p2), .val (.int p3)] [(.int p1), (.int 12), (.int 12), (.ref b2), (.ref b2), (.ref b1), (.ref b1)] _
    refine XS.iloadN X26.here hx rfl (hb hby d2_275) rfl ?_
    show oS p e below T26 m 276 #[.val (.int 15), .val (.int p1), .val (.int p2), .val (.int p3)] [(.int p2), (.int p1), (.int 12), (.int 12), (.ref b2), (.ref b2), (.ref b1), (.ref b1)] _
    refine XS.iloadN X26.here hx rfl (hb hby d2_276) rfl ?_
    show oS p e below T26 m 277 #[.val (.int 15), .val (.int p1), .val (.int p2), .val (.int p3)] [(.int p3), (.int p2), (.int p1), (.int 12), (.int 12), (.ref b2), (.ref b2), (.ref b1), (.ref b1)] _
    refine st27 _ ?_
    show oS p e below T27 m 280 #[.val (.int 15), .val (.int p1), .val (.int p2), .val (.int p3)] [(.int (own_c 12 p1 p2 p3)), (.int 12), (.ref b2), (.ref b2), (.ref b1), (.ref b1)] _
    refine st28 _ ?_
    show oS p e below T28 m 281 #[.val (.int 15), .val (.int p1), .val (.int p2), .val (.int p3)] [(.ref b2), (.ref b1), (.ref b1)] _
    refine XS.dup X28.here hx rfl (hb hby d2_281) rfl rfl ?_
    show oS p e below T28 m 282 #[.val (.int 15), .val (.int p1), .val (.int p2), .val (.int p3)] [(.ref b2), (.ref b2), (.ref b1), (.ref b1)] _
    refine XS.bipush X28.here hx rfl (hb hby d2_282) ?_
    show oS p e below T28 m 284 #[.val (.int 15), .val (.int p1), .val (.int p2), .val (.int p3)] [(.int 13), (.ref b2), (.ref b2), (.ref b1), (.ref b1)] _
    refine XS.bipush X28.here hx rfl (hb hby d2_284) ?_
    show oS p e below T28 m 286 #[.val (.int 15), .val (.int p1), .val (.int p2), .val (.int p3)] [(.int 13), (.int 13), (.ref b2), (.ref b2), (.ref b1), (.ref b1)] _
    refine XS.iloadN X28.here hx rfl (hb hby d2_286) rfl ?_
    show oS p e below T28 m 287 #[.val (.int 15), .val (.int p1), .val (.int p2), .val (.int p3)] [(.int p1), (.int 13), (.int 13), (.ref b2), (.ref b2), (.ref b1), (.ref b1)] _
    refine XS.iloadN X28.here hx rfl (hb hby d2_287) rfl ?_
    show oS p e below T28 m 288 #[.val (.int 15), .val (.int p1), .val (.int p2), .val (.int p3)] [(.int p2), (.int p1), (.int 13), (.int 13), (.ref b2), (.ref b2), (.ref b1), (.ref b1)] _
    refine XS.iloadN X28.here hx rfl (hb hby d2_288) rfl ?_
    show oS p e below T28 m 289 #[.val (.int 15), .val (.int p1), .val (.int p2), .val (.int p3)] [(.int p3), (.int p2), (.int p1), (.int 13), (.int 13), (.ref b2), (.ref b2), (.ref b1), (.ref b1)] _
    refine st29 _ ?_
    show oS p e below T29 m 292 #[.val (.int 15), .val (.int p1), .val (.int p2), .val (.int p3)] [(.int (own_c 13 p1 p2 p3)), (.int 13), (.ref b2), (.ref b2), (.ref b1), (.ref b1)] _
    refine st30 _ ?_
    show oS p e below T30 m 293 #[.val (.int 15), .val (.int p1), .val (.int p2), .val (.int p3)] [(.ref b2), (.ref b1), (.ref b1)] _
    refine XS.dup X30.here hx rfl (hb hby d2_293) rfl rfl ?_
    show oS p e below T30 m 294 #[.val (.int 15), .val (.int p1), .val (.int p2), .val (.int p3)] [(.ref b2), (.ref b2), (.ref b1), (.ref b1)] _
    refine XS.bipush X30.here hx rfl (hb hby d2_294) ?_
    show oS p e below T30 m 296 #[.val (.int 15), .val (.int p1), .val (.int p2), .val (.int p3)] [(.int 14), (.ref b2), (.ref b2), (.ref b1), (.ref b1)] _
    refine XS.bipush X30.here hx rfl (hb hby d2_296) ?_
    show oS p e below T30 m 298 #[.val (.int 15), .val (.int p1), .val (.int p2), .val (.int p3)] [(.int 14), (.int 14), (.ref b2), (.ref b2), (.ref b1), (.ref b1)] _
    refine XS.iloadN X30.here hx rfl (hb hby d2_298) rfl ?_
    show oS p e below T30 m 299 #[.val (.int 15), .val (.int p1), .val (.int p2), .val (.int p3)] [(.int p1), (.int 14), (.int 14), (.ref b2), (.ref b2), (.ref b1), (.ref b1)] _
    refine XS.iloadN X30.here hx rfl (hb hby d2_299) rfl ?_
    show oS p e below T30 m 300 #[.val (.int 15), .val (.int p1), .val (.int p2), .val (.int p3)] [(.int p2), (.int p1), (.int 14), (.int 14), (.ref b2), (.ref b2), (.ref b1), (.ref b1)] _
    refine XS.iloadN X30.here hx rfl (hb hby d2_300) rfl ?_
    show oS p e below T30 m 301 #[.val (.int 15), .val (.int p1), .val (.int p2), .val (.int p3)] [(.int p3), (.int p2), (.int p1), (.int 14), (.int 14), (.ref b2), (.ref b2), (.ref b1), (.ref b1)] _
    refine st31 _ ?_
    show oS p e below T31 m 304 #[.val (.int 15), .val (.int p1), .val (.int p2), .val (.int p3)] [(.int (own_c 14 p1 p2 p3)), (.int 14), (.ref b2), (.ref b2), (.ref b1), (.ref b1)] _
    refine st32 _ ?_
    show oS p e below T32 m 305 #[.val (.int 15), .val (.int p1), .val (.int p2), .val (.int p3)] [(.ref b2), (.ref b1), (.ref b1)] _
    refine st33.trans ?_
    show Steps p.tables e below (T33.setTop (mkF m 308 #[.val (.int 15), .val (.int p1), .val (.int p2), .val (.int p3)] [(.ref b1)])) _
    jvm_step Xx33.here [Xx33.here.top, hx, (hb hby d2_308), Xx33.method', Bd.returns, Value.isRef, FieldType.isReference]
    first | (intro acts; rw [hr _ acts rfl rfl rfl]) | rw [hr _ _ rfl rfl rfl]
    exact Steps.refl _
  · show own_QM Z ([own_d 0 p1 p2 p3, own_d 1 p1 p2 p3, own_d 2 p1 p2 p3, own_d 3 p1 p2 p3, own_d 4 p1 p2 p3, own_d 5 p1 p2 p3, own_d 6 p1 p2 p3, own_d 7 p1 p2 p3, own_d 8 p1 p2 p3, own_d 9 p1 p2 p3, own_d 10 p1 p2 p3, own_d 11 p1 p2 p3, own_d 12 p1 p2 p3, own_d 13 p1 p2 p3, own_d 14 p1 p2 p3] : List Int32) h0 n0 _ T33.heap _
    exact ⟨b1, t33, kt33, rfl, Nx33, (((((((((((((((((((Keep.refl h0 []).ext E1).ext E2).wr W4 (Or.inr (Nat.le_trans E1.1 (Nat.le_of_eq g2.symm)))).wr W6 (Or.inr (Nat.le_trans E1.1 (Nat.le_of_eq g2.symm)))).wr W8 (Or.inr (Nat.le_trans E1.1 (Nat.le_of_eq g2.symm)))).wr W10 (Or.inr (Nat.le_trans E1.1 (Nat.le_of_eq g2.symm)))).wr W12 (Or.inr (Nat.le_trans E1.1 (Nat.le_of_eq g2.symm)))).wr W14 (Or.inr (Nat.le_trans E1.1 (Nat.le_of_eq g2.symm)))).wr W16 (Or.inr (Nat.le_trans E1.1 (Nat.le_of_eq g2.symm)))).wr W18 (Or.inr (Nat.le_trans E1.1 (Nat.le_of_eq g2.symm)))).wr W20 (Or.inr (Nat.le_trans E1.1 (Nat.le_of_eq g2.symm)))).wr W22 (Or.inr (Nat.le_trans E1.1 (Nat.le_of_eq g2.symm)))).wr W24 (Or.inr (Nat.le_trans E1.1 (Nat.le_of_eq g2.symm)))).wr W26 (Or.inr (Nat.le_trans E1.1 (Nat.le_of_eq g2.symm)))).wr W28 (Or.inr (Nat.le_trans E1.1 (Nat.le_of_eq g2.symm)))).wr W30 (Or.inr (Nat.le_trans E1.1 (Nat.le_of_eq g2.symm)))).wr W32 (Or.inr (Nat.le_trans E1.1 (Nat.le_of_eq g2.symm)))).trans K33 (allS (Or.inr (Nat.le_of_eq g1.symm)) all0)), Ex33, Fv33, Fc33, Vt33⟩
theorem d2_309 : decode method_4_code 309 = .ok (.iload_n 0, 1) := by decide +kernel
theorem d2_310 : decode method_4_code 310 = .ok (.bipush 16, 2) := by decide +kernel
theorem d2_312 : decode method_4_code 312 = .ok (.if_icmp .ne 195, 3) := by decide +kernel
theorem d2_315 : decode method_4_code 315 = .ok (.new 7, 3) := by decide +kernel
theorem d2_318 : decode method_4_code 318 = .ok (.dup, 1) := by decide +kernel
theorem d2_319 : decode method_4_code 319 = .ok (.bipush 16, 2) := by decide +kernel
theorem d2_321 : decode method_4_code 321 = .ok (.newarray .char, 2) := by decide +kernel
theorem d2_323 : decode method_4_code 323 = .ok (.dup, 1) := by decide +kernel
theorem d2_324 : decode method_4_code 324 = .ok (.iconst 0, 1) := by decide +kernel
theorem d2_325 : decode method_4_code 325 = .ok (.iconst 0, 1) := by decide +kernel
theorem d2_326 : decode method_4_code 326 = .ok (.iload_n 1, 1) := by decide +kernel
theorem d2_327 : decode method_4_code 327 = .ok (.iload_n 2, 1) := by decide +kernel
theorem d2_328 : decode method_4_code 328 = .ok (.iload_n 3, 1) := by decide +kernel
theorem d2_329 : decode method_4_code 329 = .ok (.invokestatic 12, 3) := by decide +kernel
theorem d2_332 : decode method_4_code 332 = .ok (.castore, 1) := by decide +kernel
theorem d2_333 : decode method_4_code 333 = .ok (.dup, 1) := by decide +kernel
theorem d2_334 : decode method_4_code 334 = .ok (.iconst 1, 1) := by decide +kernel
theorem d2_335 : decode method_4_code 335 = .ok (.iconst 1, 1) := by decide +kernel
theorem d2_336 : decode method_4_code 336 = .ok (.iload_n 1, 1) := by decide +kernel
theorem d2_337 : decode method_4_code 337 = .ok (.iload_n 2, 1) := by decide +kernel
theorem d2_338 : decode method_4_code 338 = .ok (.iload_n 3, 1) := by decide +kernel
theorem d2_339 : decode method_4_code 339 = .ok (.invokestatic 12, 3) := by decide +kernel
theorem d2_342 : decode method_4_code 342 = .ok (.castore, 1) := by decide +kernel
theorem d2_343 : decode method_4_code 343 = .ok (.dup, 1) := by decide +kernel
theorem d2_344 : decode method_4_code 344 = .ok (.iconst 2, 1) := by decide +kernel
theorem d2_345 : decode method_4_code 345 = .ok (.iconst 2, 1) := by decide +kernel
theorem d2_346 : decode method_4_code 346 = .ok (.iload_n 1, 1) := by decide +kernel
theorem d2_347 : decode method_4_code 347 = .ok (.iload_n 2, 1) := by decide +kernel
theorem d2_348 : decode method_4_code 348 = .ok (.iload_n 3, 1) := by decide +kernel
theorem d2_349 : decode method_4_code 349 = .ok (.invokestatic 12, 3) := by decide +kernel
theorem d2_352 : decode method_4_code 352 = .ok (.castore, 1) := by decide +kernel
theorem d2_353 : decode method_4_code 353 = .ok (.dup, 1) := by decide +kernel
theorem d2_354 : decode method_4_code 354 = .ok (.iconst 3, 1) := by decide +kernel
theorem d2_355 : decode method_4_code 355 = .ok (.iconst 3, 1) := by decide +kernel
theorem d2_356 : decode method_4_code 356 = .ok (.iload_n 1, 1) := by decide +kernel
theorem d2_357 : decode method_4_code 357 = .ok (.iload_n 2, 1) := by decide +kernel
theorem d2_358 : decode method_4_code 358 = .ok (.iload_n 3, 1) := by decide +kernel
theorem d2_359 : decode method_4_code 359 = .ok (.invokestatic 12, 3) := by decide +kernel
theorem d2_362 : decode method_4_code 362 = .ok (.castore, 1) := by decide +kernel
theorem d2_363 : decode method_4_code 363 = .ok (.dup, 1) := by decide +kernel
theorem d2_364 : decode method_4_code 364 = .ok (.iconst 4, 1) := by decide +kernel
theorem d2_365 : decode method_4_code 365 = .ok (.iconst 4, 1) := by decide +kernel
theorem d2_366 : decode method_4_code 366 = .ok (.iload_n 1, 1) := by decide +kernel
theorem d2_367 : decode method_4_code 367 = .ok (.iload_n 2, 1) := by decide +kernel
theorem d2_368 : decode method_4_code 368 = .ok (.iload_n 3, 1) := by decide +kernel
theorem d2_369 : decode method_4_code 369 = .ok (.invokestatic 12, 3) := by decide +kernel
theorem d2_372 : decode method_4_code 372 = .ok (.castore, 1) := by decide +kernel
theorem d2_373 : decode method_4_code 373 = .ok (.dup, 1) := by decide +kernel
theorem d2_374 : decode method_4_code 374 = .ok (.iconst 5, 1) := by decide +kernel
theorem d2_375 : decode method_4_code 375 = .ok (.iconst 5, 1) := by decide +kernel
theorem d2_376 : decode method_4_code 376 = .ok (.iload_n 1, 1) := by decide +kernel
theorem d2_377 : decode method_4_code 377 = .ok (.iload_n 2, 1) := by decide +kernel
theorem d2_378 : decode method_4_code 378 = .ok (.iload_n 3, 1) := by decide +kernel
theorem d2_379 : decode method_4_code 379 = .ok (.invokestatic 12, 3) := by decide +kernel
theorem d2_382 : decode method_4_code 382 = .ok (.castore, 1) := by decide +kernel
theorem d2_383 : decode method_4_code 383 = .ok (.dup, 1) := by decide +kernel
theorem d2_384 : decode method_4_code 384 = .ok (.bipush 6, 2) := by decide +kernel
theorem d2_386 : decode method_4_code 386 = .ok (.bipush 6, 2) := by decide +kernel
theorem d2_388 : decode method_4_code 388 = .ok (.iload_n 1, 1) := by decide +kernel
theorem d2_389 : decode method_4_code 389 = .ok (.iload_n 2, 1) := by decide +kernel
theorem d2_390 : decode method_4_code 390 = .ok (.iload_n 3, 1) := by decide +kernel
theorem d2_391 : decode method_4_code 391 = .ok (.invokestatic 12, 3) := by decide +kernel
theorem d2_394 : decode method_4_code 394 = .ok (.castore, 1) := by decide +kernel
theorem d2_395 : decode method_4_code 395 = .ok (.dup, 1) := by decide +kernel
theorem d2_396 : decode method_4_code 396 = .ok (.bipush 7, 2) := by decide +kernel
theorem d2_398 : decode method_4_code 398 = .ok (.bipush 7, 2) := by decide +kernel
theorem d2_400 : decode method_4_code 400 = .ok (.iload_n 1, 1) := by decide +kernel
theorem d2_401 : decode method_4_code 401 = .ok (.iload_n 2, 1) := by decide +kernel
theorem d2_402 : decode method_4_code 402 = .ok (.iload_n 3, 1) := by decide +kernel
theorem d2_403 : decode method_4_code 403 = .ok (.invokestatic 12, 3) := by decide +kernel
theorem d2_406 : decode method_4_code 406 = .ok (.castore, 1) := by decide +kernel
theorem d2_407 : decode method_4_code 407 = .ok (.dup, 1) := by decide +kernel
theorem d2_408 : decode method_4_code 408 = .ok (.bipush 8, 2) := by decide +kernel
theorem d2_410 : decode method_4_code 410 = .ok (.bipush 8, 2) := by decide +kernel
theorem d2_412 : decode method_4_code 412 = .ok (.iload_n 1, 1) := by decide +kernel
theorem d2_413 : decode method_4_code 413 = .ok (.iload_n 2, 1) := by decide +kernel
theorem d2_414 : decode method_4_code 414 = .ok (.iload_n 3, 1) := by decide +kernel
theorem d2_415 : decode method_4_code 415 = .ok (.invokestatic 12, 3) := by decide +kernel
theorem d2_418 : decode method_4_code 418 = .ok (.castore, 1) := by decide +kernel
theorem d2_419 : decode method_4_code 419 = .ok (.dup, 1) := by decide +kernel
theorem d2_420 : decode method_4_code 420 = .ok (.bipush 9, 2) := by decide +kernel
theorem d2_422 : decode method_4_code 422 = .ok (.bipush 9, 2) := by decide +kernel
theorem d2_424 : decode method_4_code 424 = .ok (.iload_n 1, 1) := by decide +kernel
theorem d2_425 : decode method_4_code 425 = .ok (.iload_n 2, 1) := by decide +kernel
theorem d2_426 : decode method_4_code 426 = .ok (.iload_n 3, 1) := by decide +kernel
theorem d2_427 : decode method_4_code 427 = .ok (.invokestatic 12, 3) := by decide +kernel
theorem d2_430 : decode method_4_code 430 = .ok (.castore, 1) := by decide +kernel
theorem d2_431 : decode method_4_code 431 = .ok (.dup, 1) := by decide +kernel
theorem d2_432 : decode method_4_code 432 = .ok (.bipush 10, 2) := by decide +kernel
theorem d2_434 : decode method_4_code 434 = .ok (.bipush 10, 2) := by decide +kernel
theorem d2_436 : decode method_4_code 436 = .ok (.iload_n 1, 1) := by decide +kernel
theorem d2_437 : decode method_4_code 437 = .ok (.iload_n 2, 1) := by decide +kernel
theorem d2_438 : decode method_4_code 438 = .ok (.iload_n 3, 1) := by decide +kernel
theorem d2_439 : decode method_4_code 439 = .ok (.invokestatic 12, 3) := by decide +kernel
theorem d2_442 : decode method_4_code 442 = .ok (.castore, 1) := by decide +kernel
theorem d2_443 : decode method_4_code 443 = .ok (.dup, 1) := by decide +kernel
theorem d2_444 : decode method_4_code 444 = .ok (.bipush 11, 2) := by decide +kernel
theorem d2_446 : decode method_4_code 446 = .ok (.bipush 11, 2) := by decide +kernel
theorem d2_448 : decode method_4_code 448 = .ok (.iload_n 1, 1) := by decide +kernel
theorem d2_449 : decode method_4_code 449 = .ok (.iload_n 2, 1) := by decide +kernel
theorem d2_450 : decode method_4_code 450 = .ok (.iload_n 3, 1) := by decide +kernel
theorem d2_451 : decode method_4_code 451 = .ok (.invokestatic 12, 3) := by decide +kernel
theorem d2_454 : decode method_4_code 454 = .ok (.castore, 1) := by decide +kernel
theorem d2_455 : decode method_4_code 455 = .ok (.dup, 1) := by decide +kernel
theorem d2_456 : decode method_4_code 456 = .ok (.bipush 12, 2) := by decide +kernel
theorem d2_458 : decode method_4_code 458 = .ok (.bipush 12, 2) := by decide +kernel
theorem d2_460 : decode method_4_code 460 = .ok (.iload_n 1, 1) := by decide +kernel
theorem d2_461 : decode method_4_code 461 = .ok (.iload_n 2, 1) := by decide +kernel
theorem d2_462 : decode method_4_code 462 = .ok (.iload_n 3, 1) := by decide +kernel
theorem d2_463 : decode method_4_code 463 = .ok (.invokestatic 12, 3) := by decide +kernel
theorem d2_466 : decode method_4_code 466 = .ok (.castore, 1) := by decide +kernel
theorem d2_467 : decode method_4_code 467 = .ok (.dup, 1) := by decide +kernel
theorem d2_468 : decode method_4_code 468 = .ok (.bipush 13, 2) := by decide +kernel
theorem d2_470 : decode method_4_code 470 = .ok (.bipush 13, 2) := by decide +kernel
theorem d2_472 : decode method_4_code 472 = .ok (.iload_n 1, 1) := by decide +kernel
theorem d2_473 : decode method_4_code 473 = .ok (.iload_n 2, 1) := by decide +kernel
theorem d2_474 : decode method_4_code 474 = .ok (.iload_n 3, 1) := by decide +kernel
theorem d2_475 : decode method_4_code 475 = .ok (.invokestatic 12, 3) := by decide +kernel
theorem d2_478 : decode method_4_code 478 = .ok (.castore, 1) := by decide +kernel
theorem d2_479 : decode method_4_code 479 = .ok (.dup, 1) := by decide +kernel
theorem d2_480 : decode method_4_code 480 = .ok (.bipush 14, 2) := by decide +kernel
theorem d2_482 : decode method_4_code 482 = .ok (.bipush 14, 2) := by decide +kernel
theorem d2_484 : decode method_4_code 484 = .ok (.iload_n 1, 1) := by decide +kernel
theorem d2_485 : decode method_4_code 485 = .ok (.iload_n 2, 1) := by decide +kernel
theorem d2_486 : decode method_4_code 486 = .ok (.iload_n 3, 1) := by decide +kernel
theorem d2_487 : decode method_4_code 487 = .ok (.invokestatic 12, 3) := by decide +kernel
theorem d2_490 : decode method_4_code 490 = .ok (.castore, 1) := by decide +kernel
theorem d2_491 : decode method_4_code 491 = .ok (.dup, 1) := by decide +kernel
theorem d2_492 : decode method_4_code 492 = .ok (.bipush 15, 2) := by decide +kernel
theorem d2_494 : decode method_4_code 494 = .ok (.bipush 15, 2) := by decide +kernel
theorem d2_496 : decode method_4_code 496 = .ok (.iload_n 1, 1) := by decide +kernel
theorem d2_497 : decode method_4_code 497 = .ok (.iload_n 2, 1) := by decide +kernel
theorem d2_498 : decode method_4_code 498 = .ok (.iload_n 3, 1) := by decide +kernel
theorem d2_499 : decode method_4_code 499 = .ok (.invokestatic 12, 3) := by decide +kernel
theorem d2_502 : decode method_4_code 502 = .ok (.castore, 1) := by decide +kernel
theorem d2_503 : decode method_4_code 503 = .ok (.invokespecial 9, 3) := by decide +kernel
theorem d2_506 : decode method_4_code 506 = .ok (.areturn, 1) := by decide +kernel
set_option maxRecDepth 65536 in
set_option maxHeartbeats 40000000 in
theorem rmM16 (l : Launch) (Z : State) (a0 : Array Value) (hw : ∀ d ∈ tables_1, d.before a0 Z = true) (ws : List Jvm.Cond) (p1 : Int32) (p2 : Int32) (p3 : Int32) (zc : Int32) (h0 : Heap) (n0 : Nat) (O0 : Old Z n0 h0) (S_COMPACT_STRINGS : Sta Z Z.heap "java/lang/String" "COMPACT_STRINGS" "Z" (.int zc)) (hzc : ¬ zc = 0) (hp : ∀ c ∈ ([own_d 0 p1 p2 p3, own_d 1 p1 p2 p3, own_d 2 p1 p2 p3, own_d 3 p1 p2 p3, own_d 4 p1 p2 p3, own_d 5 p1 p2 p3, own_d 6 p1 p2 p3, own_d 7 p1 p2 p3, own_d 8 p1 p2 p3, own_d 9 p1 p2 p3, own_d 10 p1 p2 p3, own_d 11 p1 p2 p3, own_d 12 p1 p2 p3, own_d 13 p1 p2 p3, own_d 14 p1 p2 p3, own_d 15 p1 p2 p3] : List Int32), ¬ c < 0 ∧ ¬ (255 : Int32) < c) :
    oM l Z (⟨"com/example/dispensd/dispensd/IdentifierIsValidPinLaw", "make", "(IICC)Ljava/lang/String;"⟩ : MethodName) method_4_code 4 (some (.object "java/lang/String")) ws ({ frames := 4, cells := 3, slots := 38, locals := 66 } : Room) #[(.int 16), (.int p1), (.int p2), (.int p3)] h0 (own_QM Z ([own_d 0 p1 p2 p3, own_d 1 p1 p2 p3, own_d 2 p1 p2 p3, own_d 3 p1 p2 p3, own_d 4 p1 p2 p3, own_d 5 p1 p2 p3, own_d 6 p1 p2 p3, own_d 7 p1 p2 p3, own_d 8 p1 p2 p3, own_d 9 p1 p2 p3, own_d 10 p1 p2 p3, own_d 11 p1 p2 p3, own_d 12 p1 p2 p3, own_d 13 p1 p2 p3, own_d 14 p1 p2 p3, own_d 15 p1 p2 p3] : List Int32) h0 n0) := by
  refine MetFree.of_bodySF (plainFor_of_name pn_2) hisR ?_
  intro p e s m args below meth c s₁ Bd hml0 hP hK
  obtain ⟨rfl, hZ, hh⟩ := hP
  have hx := Bd.exec
  have hby := Bd.bytes
  have hml : c.maxLocals = 4 := hml0
  have hown : s.vm.findClass "com/example/dispensd/dispensd/IdentifierIsValidPinLaw" = some m.cls := findClass_of_methodNamed Bd.named
  have hnm := (name_of_methodNamed Bd.named Bd.method).1
  have X0 : Stand p l e ({ frames := 4, cells := 3, slots := 38, locals := 66 } : Room) s m #[(.int 16), (.int p1), (.int p2), (.int p3)] below meth c s₁ [] 0 0 := Stand.of_body Bd
  have e0 : s₁.heap = h0 := by rw [← hh, Bd.state]; rfl
  have N0 := Fr.nil n0
  have pre0 : ∀ t, Steps p.tables e below (s₁.setTop (mkF m 0 #[.val (.int 16), .val (.int p1), .val (.int p2), .val (.int p3)] [])) t → Steps p.tables e below (s₁.setTop (entryFrame m #[(.int 16), (.int p1), (.int p2), (.int p3)] 4)) t := fun t k => castTop (ef_2 m (16 : Int32) p1 p2 p3) k
  obtain ⟨T1, h1, X1, e1, E1, A1, D1, U1, st1⟩ := newO X0 hx hZ hown (own_w hw 9 rfl) (own_w hw 10 rfl) (own_w hw 11 rfl) e0 (g := (mkF m 315 #[.val (.int 16), .val (.int p1), .val (.int p2), .val (.int p3)] [])) rfl (hb hby d2_315) (by decide) (by decide)
  obtain ⟨b1, g1⟩ : ∃ z, z = h0.size := ⟨_, rfl⟩
  rw [← g1] at A1 D1 U1 st1
  have Ut1 : Unt h1 b1 := U1
  have g_b1 : n0 ≤ b1 := Nat.le_trans (own_le O0) (Nat.le_of_eq g1.symm)
  have O1 := O0.ext E1
  have F_coder_b1 : Fld Z h1 b1 "java/lang/String" "coder" "B" (.int 0) := D1 (Or.inr (own_w hw 39 rfl)) (ty := .byte) (by decide)
  have F_value_b1 : Fld Z h1 b1 "java/lang/String" "value" "[B" .null := D1 (Or.inr (own_w hw 41 rfl)) (ty := (.array .byte)) (by decide)
  obtain ⟨T2, h2, k2, X2, e2, E2, A2, st2⟩ := newP X1 hx hZ (own_w hw 12 rfl) e1 (g := (mkF m 321 #[.val (.int 16), .val (.int p1), .val (.int p2), .val (.int p3)] [(.int 16), (.ref b1), (.ref b1)])) rfl (hb hby d2_321) rfl (by decide) (cap := 16) (by decide) (by decide) (by decide) (by decide)
  obtain ⟨b2, g2⟩ : ∃ z, z = h1.size := ⟨_, rfl⟩
  rw [← g2] at A2 st2
  have g_b2 : n0 ≤ b2 := Nat.le_trans (own_le O1) (Nat.le_of_eq g2.symm)
  have O2 := O1.ext E2
  have V_b2 : Arv Z h2 b2 k2 .char (16 : Int32) [(.int 0), (.int 0), (.int 0), (.int 0), (.int 0), (.int 0), (.int 0), (.int 0), (.int 0), (.int 0), (.int 0), (.int 0), (.int 0), (.int 0), (.int 0), (.int 0)] (.int 0) := (Arv.new A2 (by decide)).pad (pad_rep [] (.int 0) 16)
  obtain ⟨_, _, ⟨T3, L3, k3, n3⟩, -, X3, ⟨Lc3, hQ3, l3, y3, z3⟩, st3⟩ := Jvm.LawKit.callS X2 hx (y := (⟨"com/example/dispensd/dispensd/IdentifierIsValidPinLaw", "at", "(IICC)C"⟩ : MethodName)) hown (mvT hZ (own_w hw 13 rfl)) (mvT hZ (own_w hw 14 rfl)) (mvT hZ (own_w hw 7 rfl)) (mvT hZ (own_w hw 15 rfl)) (by decide) (backOf (W := 5) (rmAt l Z a0 hw [] (0 : Int32) p1 p2 p3  h2 n0 O2 ) hZ (own_w hw 15 rfl) (own_w hw 7 rfl) (by decide) (by decide)) (g := (mkF m 329 #[.val (.int 16), .val (.int p1), .val (.int p2), .val (.int p3)] [(.int p3), (.int p2), (.int p1), (.int 0), (.int 0), (.ref b2), (.ref b2), (.ref b1), (.ref b1)])) rfl (by rw [hml]; rfl) (argsL := [(.int 0), (.int p1), (.int p2), (.int p3)]) (rest := [(.int 0), (.ref b2), (.ref b2), (.ref b1), (.ref b1)]) (lenOf pd_6 rfl) rfl (by show 2 * 0 + _ ≤ _; exact Nat.le_of_eq rfl) (hb hby d2_329) (fun _ _ => ⟨rfl, e2, (by decide : 2 + 0 ≤ _), (by decide : 20 + 0 ≤ _)⟩)
  dsimp only [Pt.U, Pt.locs, Pt.cells, Pt.slots] at X3 l3 y3 z3 st3 hQ3
  subst l3 y3 z3
  obtain ⟨rfl, N3q, e3⟩ := hQ3
  have N3 := Fr.app N0 N3q
  obtain ⟨Lx3, Xx3, Nx3⟩ : ∃ L', Stand p l e _ s m _ below meth c T3 L' 2 20 ∧ Fr n0 L' := ⟨_, X3, N3⟩
  obtain ⟨cl4, Ar4, qa4, Sz4, Ng4, Hs4, Ft4⟩ := V_b2
  obtain ⟨T4, h4, X4, e4, W4, st4⟩ := stC Xx3 hx hZ e3 Ar4 (j := (0 : Int32)) (inb_of Sz4 ⟨by decide, by decide⟩) (g := (mkF m 332 #[.val (.int 16), .val (.int p1), .val (.int p2), .val (.int p3)] [(.int (own_c 0 p1 p2 p3)), (.int 0), (.ref b2), (.ref b2), (.ref b1), (.ref b1)])) rfl rfl (hb hby d2_332)
  have O4 := O2.wr W4 g_b2
  have N4 := Fr.snoc X4 Nx3 g_b2
  have V4 : Arv Z h4 b2 k2 .char (16 : Int32) [(.int (own_d 0 p1 p2 p3)), (.int 0), (.int 0), (.int 0), (.int 0), (.int 0), (.int 0), (.int 0), (.int 0), (.int 0), (.int 0), (.int 0), (.int 0), (.int 0), (.int 0), (.int 0)] (.int 0) := Arv.set Ar4 qa4 Sz4 Ng4 Hs4 Ft4 (fits_nar_char _) W4 0 rfl (Nat.le_of_ble_eq_true rfl)
  obtain ⟨_, _, ⟨T5, L5, k5, n5⟩, -, X5, ⟨Lc5, hQ5, l5, y5, z5⟩, st5⟩ := Jvm.LawKit.callS X4 hx (y := (⟨"com/example/dispensd/dispensd/IdentifierIsValidPinLaw", "at", "(IICC)C"⟩ : MethodName)) hown (mvT hZ (own_w hw 13 rfl)) (mvT hZ (own_w hw 14 rfl)) (mvT hZ (own_w hw 7 rfl)) (mvT hZ (own_w hw 15 rfl)) (by decide) (backOf (W := 5) (rmAt l Z a0 hw [] (1 : Int32) p1 p2 p3  h4 n0 O4 ) hZ (own_w hw 15 rfl) (own_w hw 7 rfl) (by decide) (by decide)) (g := (mkF m 339 #[.val (.int 16), .val (.int p1), .val (.int p2), .val (.int p3)] [(.int p3), (.int p2), (.int p1), (.int 1), (.int 1), (.ref b2), (.ref b2), (.ref b1), (.ref b1)])) rfl (by rw [hml]; rfl) (argsL := [(.int 1), (.int p1), (.int p2), (.int p3)]) (rest := [(.int 1), (.ref b2), (.ref b2), (.ref b1), (.ref b1)]) (lenOf pd_6 rfl) rfl (by show 2 * 0 + _ ≤ _; exact Nat.le_of_eq rfl) (hb hby d2_339) (fun _ _ => ⟨rfl, e4, (by decide : 2 + 0 ≤ _), (by decide : 20 + 0 ≤ _)⟩)
  dsimp only [Pt.U, Pt.locs, Pt.cells, Pt.slots] at X5 l5 y5 z5 st5 hQ5
  subst l5 y5 z5
  obtain ⟨rfl, N5q, e5⟩ := hQ5
  have N5 := Fr.app N4 N5q
  obtain ⟨Lx5, Xx5, Nx5⟩ : ∃ L', Stand p l e _ s m _ below meth c T5 L' 2 20 ∧ Fr n0 L' := ⟨_, X5, N5⟩
  obtain ⟨cl6, Ar6, qa6, Sz6, Ng6, Hs6, Ft6⟩ := V4
  obtain ⟨T6, h6, X6, e6, W6, st6⟩ := stC Xx5 hx hZ e5 Ar6 (j := (1 : Int32)) (inb_of Sz6 ⟨by decide, by decide⟩) (g := (mkF m 342 #[.val (.int 16), .val (.int p1), .val (.int p2), .val (.int p3)] [(.int (own_c 1 p1 p2 p3)), (.int 1), (.ref b2), (.ref b2), (.ref b1), (.ref b1)])) rfl rfl (hb hby d2_342)
  have O6 := O4.wr W6 g_b2
  have N6 := Fr.snoc X6 Nx5 g_b2
  have V6 : Arv Z h6 b2 k2 .char (16 : Int32) [(.int (own_d 0 p1 p2 p3)), (.int (own_d 1 p1 p2 p3)), (.int 0), (.int 0), (.int 0), (.int 0), (.int 0), (.int 0), (.int 0), (.int 0), (.int 0), (.int 0), (.int 0), (.int 0), (.int 0), (.int 0)] (.int 0) := Arv.set Ar6 qa6 Sz6 Ng6 Hs6 Ft6 (fits_nar_char _) W6 1 rfl (Nat.le_of_ble_eq_true rfl)
  obtain ⟨_, _, ⟨T7, L7, k7, n7⟩, -, X7, ⟨Lc7, hQ7, l7, y7, z7⟩, st7⟩ := Jvm.LawKit.callS X6 hx (y := (⟨"com/example/dispensd/dispensd/IdentifierIsValidPinLaw", "at", "(IICC)C"⟩ : MethodName)) hown (mvT hZ (own_w hw 13 rfl)) (mvT hZ (own_w hw 14 rfl)) (mvT hZ (own_w hw 7 rfl)) (mvT hZ (own_w hw 15 rfl)) (by decide) (backOf (W := 5) (rmAt l Z a0 hw [] (2 : Int32) p1 p2 p3  h6 n0 O6 ) hZ (own_w hw 15 rfl) (own_w hw 7 rfl) (by decide) (by decide)) (g := (mkF m 349 #[.val (.int 16), .val (.int p1), .val (.int p2), .val (.int p3)] [(.int p3), (.int p2), (.int p1), (.int 2), (.int 2), (.ref b2), (.ref b2), (.ref b1), (.ref b1)])) rfl (by rw [hml]; rfl) (argsL := [(.int 2), (.int p1), (.int p2), (.int p3)]) (rest := [(.int 2), (.ref b2), (.ref b2), (.ref b1), (.ref b1)]) (lenOf pd_6 rfl) rfl (by show 2 * 0 + _ ≤ _; exact Nat.le_of_eq rfl) (hb hby d2_349) (fun _ _ => ⟨rfl, e6, (by decide : 2 + 0 ≤ _), (by decide : 20 + 0 ≤ _)⟩)
  dsimp only [Pt.U, Pt.locs, Pt.cells, Pt.slots] at X7 l7 y7 z7 st7 hQ7
  subst l7 y7 z7
  obtain ⟨rfl, N7q, e7⟩ := hQ7
  have N7 := Fr.app N6 N7q
  obtain ⟨Lx7, Xx7, Nx7⟩ : ∃ L', Stand p l e _ s m _ below meth c T7 L' 2 20 ∧ Fr n0 L' := ⟨_, X7, N7⟩
  obtain ⟨cl8, Ar8, qa8, Sz8, Ng8, Hs8, Ft8⟩ := V6
  obtain ⟨T8, h8, X8, e8, W8, st8⟩ := stC Xx7 hx hZ e7 Ar8 (j := (2 : Int32)) (inb_of Sz8 ⟨by decide, by decide⟩) (g := (mkF m 352 #[.val (.int 16), .val (.int p1), .val (.int p2), .val (.int p3)] [(.int (own_c 2 p1 p2 p3)), (.int 2), (.ref b2), (.ref b2), (.ref b1), (.ref b1)])) rfl rfl (hb hby d2_352)
  have O8 := O6.wr W8 g_b2
  have N8 := Fr.snoc X8 Nx7 g_b2
  have V8 : Arv Z h8 b2 k2 .char (16 : Int32) [(.int (own_d 0 p1 p2 p3)), (.int (own_d 1 p1 p2 p3)), (.int (own_d 2 p1 p2 p3)), (.int 0), (.int 0), (.int 0), (.int 0), (.int 0), (.int 0), (.int 0), (.int 0), (.int 0), (.int 0), (.int 0), (.int 0), (.int 0)] (.int 0) := Arv.set Ar8 qa8 Sz8 Ng8 Hs8 Ft8 (fits_nar_char _) W8 2 rfl (Nat.le_of_ble_eq_true rfl)
  obtain ⟨_, _, ⟨T9, L9, k9, n9⟩, -, X9, ⟨Lc9, hQ9, l9, y9, z9⟩, st9⟩ := Jvm.LawKit.callS X8 hx (y := (⟨"com/example/dispensd/dispensd/IdentifierIsValidPinLaw", "at", "(IICC)C"⟩ : MethodName)) hown (mvT hZ (own_w hw 13 rfl)) (mvT hZ (own_w hw 14 rfl)) (mvT hZ (own_w hw 7 rfl)) (mvT hZ (own_w hw 15 rfl)) (by decide) (backOf (W := 5) (rmAt l Z a0 hw [] (3 : Int32) p1 p2 p3  h8 n0 O8 ) hZ (own_w hw 15 rfl) (own_w hw 7 rfl) (by decide) (by decide)) (g := (mkF m 359 #[.val (.int 16), .val (.int p1), .val (.int p2), .val (.int p3)] [(.int p3), (.int p2), (.int p1), (.int 3), (.int 3), (.ref b2), (.ref b2), (.ref b1), (.ref b1)])) rfl (by rw [hml]; rfl) (argsL := [(.int 3), (.int p1), (.int p2), (.int p3)]) (rest := [(.int 3), (.ref b2), (.ref b2), (.ref b1), (.ref b1)]) (lenOf pd_6 rfl) rfl (by show 2 * 0 + _ ≤ _; exact Nat.le_of_eq rfl) (hb hby d2_359) (fun _ _ => ⟨rfl, e8, (by decide : 2 + 0 ≤ _), (by decide : 20 + 0 ≤ _)⟩)
  dsimp only [Pt.U, Pt.locs, Pt.cells, Pt.slots] at X9 l9 y9 z9 st9 hQ9
  subst l9 y9 z9
  obtain ⟨rfl, N9q, e9⟩ := hQ9
  have N9 := Fr.app N8 N9q
  obtain ⟨Lx9, Xx9, Nx9⟩ : ∃ L', Stand p l e _ s m _ below meth c T9 L' 2 20 ∧ Fr n0 L' := ⟨_, X9, N9⟩
  obtain ⟨cl10, Ar10, qa10, Sz10, Ng10, Hs10, Ft10⟩ := V8
  obtain ⟨T10, h10, X10, e10, W10, st10⟩ := stC Xx9 hx hZ e9 Ar10 (j := (3 : Int32)) (inb_of Sz10 ⟨by decide, by decide⟩) (g := (mkF m 362 #[.val (.int 16), .val (.int p1), .val (.int p2), .val (.int p3)] [(.int (own_c 3 p1 p2 p3)), (.int 3), (.ref b2), (.ref b2), (.ref b1), (.ref b1)])) rfl rfl (hb hby d2_362)
  have O10 := O8.wr W10 g_b2
  have N10 := Fr.snoc X10 Nx9 g_b2
  have V10 : Arv Z h10 b2 k2 .char (16 : Int32) [(.int (own_d 0 p1 p2 p3)), (.int (own_d 1 p1 p2 p3)), (.int (own_d 2 p1 p2 p3)), (.int (own_d 3 p1 p2 p3)), (.int 0), (.int 0), (.int 0), (.int 0), (.int 0), (.int 0), (.int 0), (.int 0), (.int 0), (.int 0), (.int 0), (.int 0)] (.int 0) := Arv.set Ar10 qa10 Sz10 Ng10 Hs10 Ft10 (fits_nar_char _) W10 3 rfl (Nat.le_of_ble_eq_true rfl)
  obtain ⟨_, _, ⟨T11, L11, k11, n11⟩, -, X11, ⟨Lc11, hQ11, l11, y11, z11⟩, st11⟩ := Jvm.LawKit.callS X10 hx (y := (⟨"com/example/dispensd/dispensd/IdentifierIsValidPinLaw", "at", "(IICC)C"⟩ : MethodName)) hown (mvT hZ (own_w hw 13 rfl)) (mvT hZ (own_w hw 14 rfl)) (mvT hZ (own_w hw 7 rfl)) (mvT hZ (own_w hw 15 rfl)) (by decide) (backOf (W := 5) (rmAt l Z a0 hw [] (4 : Int32) p1 p2 p3  h10 n0 O10 ) hZ (own_w hw 15 rfl) (own_w hw 7 rfl) (by decide) (by decide)) (g := (mkF m 369 #[.val (.int 16), .val (.int p1), .val (.int p2), .val (.int p3)] [(.int p3), (.int p2), (.int p1), (.int 4), (.int 4), (.ref b2), (.ref b2), (.ref b1), (.ref b1)])) rfl (by rw [hml]; rfl) (argsL := [(.int 4), (.int p1), (.int p2), (.int p3)]) (rest := [(.int 4), (.ref b2), (.ref b2), (.ref b1), (.ref b1)]) (lenOf pd_6 rfl) rfl (by show 2 * 0 + _ ≤ _; exact Nat.le_of_eq rfl) (hb hby d2_369) (fun _ _ => ⟨rfl, e10, (by decide : 2 + 0 ≤ _), (by decide : 20 + 0 ≤ _)⟩)
  dsimp only [Pt.U, Pt.locs, Pt.cells, Pt.slots] at X11 l11 y11 z11 st11 hQ11
  subst l11 y11 z11
  obtain ⟨rfl, N11q, e11⟩ := hQ11
  have N11 := Fr.app N10 N11q
  obtain ⟨Lx11, Xx11, Nx11⟩ : ∃ L', Stand p l e _ s m _ below meth c T11 L' 2 20 ∧ Fr n0 L' := ⟨_, X11, N11⟩
  obtain ⟨cl12, Ar12, qa12, Sz12, Ng12, Hs12, Ft12⟩ := V10
  obtain ⟨T12, h12, X12, e12, W12, st12⟩ := stC Xx11 hx hZ e11 Ar12 (j := (4 : Int32)) (inb_of Sz12 ⟨by decide, by decide⟩) (g := (mkF m 372 #[.val (.int 16), .val (.int p1), .val (.int p2), .val (.int p3)] [(.int (own_c 4 p1 p2 p3)), (.int 4), (.ref b2), (.ref b2), (.ref b1), (.ref b1)])) rfl rfl (hb hby d2_372)
  have O12 := O10.wr W12 g_b2
  have N12 := Fr.snoc X12 Nx11 g_b2
  have V12 : Arv Z h12 b2 k2 .char (16 : Int32) [(.int (own_d 0 p1 p2 p3)), (.int (own_d 1 p1 p2 p3)), (.int (own_d 2 p1 p2 p3)), (.int (own_d 3 p1 p2 p3)), (.int (own_d 4 p1 p2 p3)), (.int 0), (.int 0), (.int 0), (.int 0), (.int 0), (.int 0), (.int 0), (.int 0), (.int 0), (.int 0), (.int 0)] (.int 0) := Arv.set Ar12 qa12 Sz12 Ng12 Hs12 Ft12 (fits_nar_char _) W12 4 rfl (Nat.le_of_ble_eq_true rfl)
  obtain ⟨_, _, ⟨T13, L13, k13, n13⟩, -, X13, ⟨Lc13, hQ13, l13, y13, z13⟩, st13⟩ := Jvm.LawKit.callS X12 hx (y := (⟨"com/example/dispensd/dispensd/IdentifierIsValidPinLaw", "at", "(IICC)C"⟩ : MethodName)) hown (mvT hZ (own_w hw 13 rfl)) (mvT hZ (own_w hw 14 rfl)) (mvT hZ (own_w hw 7 rfl)) (mvT hZ (own_w hw 15 rfl)) (by decide) (backOf (W := 5) (rmAt l Z a0 hw [] (5 : Int32) p1 p2 p3  h12 n0 O12 ) hZ (own_w hw 15 rfl) (own_w hw 7 rfl) (by decide) (by decide)) (g := (mkF m 379 #[.val (.int 16), .val (.int p1), .val (.int p2), .val (.int p3)] [(.int p3), (.int p2), (.int p1), (.int 5), (.int 5), (.ref b2), (.ref b2), (.ref b1), (.ref b1)])) rfl (by rw [hml]; rfl) (argsL := [(.int 5), (.int p1), (.int p2), (.int p3)]) (rest := [(.int 5), (.ref b2), (.ref b2), (.ref b1), (.ref b1)]) (lenOf pd_6 rfl) rfl (by show 2 * 0 + _ ≤ _; exact Nat.le_of_eq rfl) (hb hby d2_379) (fun _ _ => ⟨rfl, e12, (by decide : 2 + 0 ≤ _), (by decide : 20 + 0 ≤ _)⟩)
  dsimp only [Pt.U, Pt.locs, Pt.cells, Pt.slots] at X13 l13 y13 z13 st13 hQ13
  subst l13 y13 z13
  obtain ⟨rfl, N13q, e13⟩ := hQ13
  have N13 := Fr.app N12 N13q
  obtain ⟨Lx13, Xx13, Nx13⟩ : ∃ L', Stand p l e _ s m _ below meth c T13 L' 2 20 ∧ Fr n0 L' := ⟨_, X13, N13⟩
  obtain ⟨cl14, Ar14, qa14, Sz14, Ng14, Hs14, Ft14⟩ := V12
  obtain ⟨T14, h14, X14, e14, W14, st14⟩ := stC Xx13 hx hZ e13 Ar14 (j := (5 : Int32)) (inb_of Sz14 ⟨by decide, by decide⟩) (g := (mkF m 382 #[.val (.int 16), .val (.int p1), .val (.int p2), .val (.int p3)] [(.int (own_c 5 p1 p2 p3)), (.int 5), (.ref b2), (.ref b2), (.ref b1), (.ref b1)])) rfl rfl (hb hby d2_382)
  have O14 := O12.wr W14 g_b2
  have N14 := Fr.snoc X14 Nx13 g_b2
  have V14 : Arv Z h14 b2 k2 .char (16 : Int32) [(.int (own_d 0 p1 p2 p3)), (.int (own_d 1 p1 p2 p3)), (.int (own_d 2 p1 p2 p3)), (.int (own_d 3 p1 p2 p3)), (.int (own_d 4 p1 p2 p3)), (.int (own_d 5 p1 p2 p3)), (.int 0), (.int 0), (.int 0), (.int 0), (.int 0), (.int 0), (.int 0), (.int 0), (.int 0), (.int 0)] (.int 0) := Arv.set Ar14 qa14 Sz14 Ng14 Hs14 Ft14 (fits_nar_char _) W14 5 rfl (Nat.le_of_ble_eq_true rfl)
  obtain ⟨_, _, ⟨T15, L15, k15, n15⟩, -, X15, ⟨Lc15, hQ15, l15, y15, z15⟩, st15⟩ := Jvm.LawKit.callS X14 hx (y := (⟨"com/example/dispensd/dispensd/IdentifierIsValidPinLaw", "at", "(IICC)C"⟩ : MethodName)) hown (mvT hZ (own_w hw 13 rfl)) (mvT hZ (own_w hw 14 rfl)) (mvT hZ (own_w hw 7 rfl)) (mvT hZ (own_w hw 15 rfl)) (by decide) (backOf (W := 5) (rmAt l Z a0 hw [] (6 : Int32) p1 p2 p3  h14 n0 O14 ) hZ (own_w hw 15 rfl) (own_w hw 7 rfl) (by decide) (by decide)) (g := (mkF m 391 #[.val (.int 16), .val (.int p1), .val (.int p2), .val (.int p3)] [(.int p3), (.int p2), (.int p1), (.int 6), (.int 6), (.ref b2), (.ref b2), (.ref b1), (.ref b1)])) rfl (by rw [hml]; rfl) (argsL := [(.int 6), (.int p1), (.int p2), (.int p3)]) (rest := [(.int 6), (.ref b2), (.ref b2), (.ref b1), (.ref b1)]) (lenOf pd_6 rfl) rfl (by show 2 * 0 + _ ≤ _; exact Nat.le_of_eq rfl) (hb hby d2_391) (fun _ _ => ⟨rfl, e14, (by decide : 2 + 0 ≤ _), (by decide : 20 + 0 ≤ _)⟩)
  dsimp only [Pt.U, Pt.locs, Pt.cells, Pt.slots] at X15 l15 y15 z15 st15 hQ15
  subst l15 y15 z15
  obtain ⟨rfl, N15q, e15⟩ := hQ15
  have N15 := Fr.app N14 N15q
  obtain ⟨Lx15, Xx15, Nx15⟩ : ∃ L', Stand p l e _ s m _ below meth c T15 L' 2 20 ∧ Fr n0 L' := ⟨_, X15, N15⟩
  obtain ⟨cl16, Ar16, qa16, Sz16, Ng16, Hs16, Ft16⟩ := V14
  obtain ⟨T16, h16, X16, e16, W16, st16⟩ := stC Xx15 hx hZ e15 Ar16 (j := (6 : Int32)) (inb_of Sz16 ⟨by decide, by decide⟩) (g := (mkF m 394 #[.val (.int 16), .val (.int p1), .val (.int p2), .val (.int p3)] [(.int (own_c 6 p1 p2 p3)), (.int 6), (.ref b2), (.ref b2), (.ref b1), (.ref b1)])) rfl rfl (hb hby d2_394)
  have O16 := O14.wr W16 g_b2
  have N16 := Fr.snoc X16 Nx15 g_b2
  have V16 : Arv Z h16 b2 k2 .char (16 : Int32) [(.int (own_d 0 p1 p2 p3)), (.int (own_d 1 p1 p2 p3)), (.int (own_d 2 p1 p2 p3)), (.int (own_d 3 p1 p2 p3)), (.int (own_d 4 p1 p2 p3)), (.int (own_d 5 p1 p2 p3)), (.int (own_d 6 p1 p2 p3)), (.int 0), (.int 0), (.int 0), (.int 0), (.int 0), (.int 0), (.int 0), (.int 0), (.int 0)] (.int 0) := Arv.set Ar16 qa16 Sz16 Ng16 Hs16 Ft16 (fits_nar_char _) W16 6 rfl (Nat.le_of_ble_eq_true rfl)
  obtain ⟨_, _, ⟨T17, L17, k17, n17⟩, -, X17, ⟨Lc17, hQ17, l17, y17, z17⟩, st17⟩ := Jvm.LawKit.callS X16 hx (y := (⟨"com/example/dispensd/dispensd/IdentifierIsValidPinLaw", "at", "(IICC)C"⟩ : MethodName)) hown (mvT hZ (own_w hw 13 rfl)) (mvT hZ (own_w hw 14 rfl)) (mvT hZ (own_w hw 7 rfl)) (mvT hZ (own_w hw 15 rfl)) (by decide) (backOf (W := 5) (rmAt l Z a0 hw [] (7 : Int32) p1 p2 p3  h16 n0 O16 ) hZ (own_w hw 15 rfl) (own_w hw 7 rfl) (by decide) (by decide)) (g := (mkF m 403 #[.val (.int 16), .val (.int p1), .val (.int p2), .val (.int p3)] [(.int p3), (.int p2), (.int p1), (.int 7), (.int 7), (.ref b2), (.ref b2), (.ref b1), (.ref b1)])) rfl (by rw [hml]; rfl) (argsL := [(.int 7), (.int p1), (.int p2), (.int p3)]) (rest := [(.int 7), (.ref b2), (.ref b2), (.ref b1), (.ref b1)]) (lenOf pd_6 rfl) rfl (by show 2 * 0 + _ ≤ _; exact Nat.le_of_eq rfl) (hb hby d2_403) (fun _ _ => ⟨rfl, e16, (by decide : 2 + 0 ≤ _), (by decide : 20 + 0 ≤ _)⟩)
  dsimp only [Pt.U, Pt.locs, Pt.cells, Pt.slots] at X17 l17 y17 z17 st17 hQ17
  subst l17 y17 z17
  obtain ⟨rfl, N17q, e17⟩ := hQ17
  have N17 := Fr.app N16 N17q
  obtain ⟨Lx17, Xx17, Nx17⟩ : ∃ L', Stand p l e _ s m _ below meth c T17 L' 2 20 ∧ Fr n0 L' := ⟨_, X17, N17⟩
  obtain ⟨cl18, Ar18, qa18, Sz18, Ng18, Hs18, Ft18⟩ := V16
  obtain ⟨T18, h18, X18, e18, W18, st18⟩ := stC Xx17 hx hZ e17 Ar18 (j := (7 : Int32)) (inb_of Sz18 ⟨by decide, by decide⟩) (g := (mkF m 406 #[.val (.int 16), .val (.int p1), .val (.int p2), .val (.int p3)] [(.int (own_c 7 p1 p2 p3)), (.int 7), (.ref b2), (.ref b2), (.ref b1), (.ref b1)])) rfl rfl (hb hby d2_406)
  have O18 := O16.wr W18 g_b2
  have N18 := Fr.snoc X18 Nx17 g_b2
  have V18 : Arv Z h18 b2 k2 .char (16 : Int32) [(.int (own_d 0 p1 p2 p3)), (.int (own_d 1 p1 p2 p3)), (.int (own_d 2 p1 p2 p3)), (.int (own_d 3 p1 p2 p3)), (.int (own_d 4 p1 p2 p3)), (.int (own_d 5 p1 p2 p3)), (.int (own_d 6 p1 p2 p3)), (.int (own_d 7 p1 p2 p3)), (.int 0), (.int 0), (.int 0), (.int 0), (.int 0), (.int 0), (.int 0), (.int 0)] (.int 0) := Arv.set Ar18 qa18 Sz18 Ng18 Hs18 Ft18 (fits_nar_char _) W18 7 rfl (Nat.le_of_ble_eq_true rfl)
  obtain ⟨_, _, ⟨T19, L19, k19, n19⟩, -, X19, ⟨Lc19, hQ19, l19, y19, z19⟩, st19⟩ := Jvm.LawKit.callS X18 hx (y := (⟨"com/example/dispensd/dispensd/IdentifierIsValidPinLaw", "at", "(IICC)C"⟩ : MethodName)) hown (mvT hZ (own_w hw 13 rfl)) (mvT hZ (own_w hw 14 rfl)) (mvT hZ (own_w hw 7 rfl)) (mvT hZ (own_w hw 15 rfl)) (by decide) (backOf (W := 5) (rmAt l Z a0 hw [] (8 : Int32) p1 p2 p3  h18 n0 O18 ) hZ (own_w hw 15 rfl) (own_w hw 7 rfl) (by decide) (by decide)) (g := (mkF m 415 #[.val (.int 16), .val (.int p1), .val (.int p2), .val (.int p3)] [(.int p3), (.int p2), (.int p1), (.int 8), (.int 8), (.ref b2), (.ref b2), (.ref b1), (.ref b1)])) rfl (by rw [hml]; rfl) (argsL := [(.int 8), (.int p1), (.int p2), (.int p3)]) (rest := [(.int 8), (.ref b2), (.ref b2), (.ref b1), (.ref b1)]) (lenOf pd_6 rfl) rfl (by show 2 * 0 + _ ≤ _; exact Nat.le_of_eq rfl) (hb hby d2_415) (fun _ _ => ⟨rfl, e18, (by decide : 2 + 0 ≤ _), (by decide : 20 + 0 ≤ _)⟩)
  dsimp only [Pt.U, Pt.locs, Pt.cells, Pt.slots] at X19 l19 y19 z19 st19 hQ19
  subst l19 y19 z19
  obtain ⟨rfl, N19q, e19⟩ := hQ19
  have N19 := Fr.app N18 N19q
  obtain ⟨Lx19, Xx19, Nx19⟩ : ∃ L', Stand p l e _ s m _ below meth c T19 L' 2 20 ∧ Fr n0 L' := ⟨_, X19, N19⟩
  obtain ⟨cl20, Ar20, qa20, Sz20, Ng20, Hs20, Ft20⟩ := V18
  obtain ⟨T20, h20, X20, e20, W20, st20⟩ := stC Xx19 hx hZ e19 Ar20 (j := (8 : Int32)) (inb_of Sz20 ⟨by decide, by decide⟩) (g := (mkF m 418 #[.val (.int 16), .val (.int p1), .val (.int p2), .val (.int p3)] [(.int (own_c 8 p1 p2 p3)), (.int 8), (.ref b2), (.ref b2), (.ref b1), (.ref b1)])) rfl rfl (hb hby d2_418)
  have O20 := O18.wr W20 g_b2
  have N20 := Fr.snoc X20 Nx19 g_b2
  have V20 : Arv Z h20 b2 k2 .char (16 : Int32) [(.int (own_d 0 p1 p2 p3)), (.int (own_d 1 p1 p2 p3)), (.int (own_d 2 p1 p2 p3)), (.int (own_d 3 p1 p2 p3)), (.int (own_d 4 p1 p2 p3)), (.int (own_d 5 p1 p2 p3)), (.int (own_d 6 p1 p2 p3)), (.int (own_d 7 p1 p2 p3)), (.int (own_d 8 p1 p2 p3)), (.int 0), (.int 0), (.int 0), (.int 0), (.int 0), (.int 0), (.int 0)] (.int 0) := Arv.set Ar20 qa20 Sz20 Ng20 Hs20 Ft20 (fits_nar_char _) W20 8 rfl (Nat.le_of_ble_eq_true rfl)
  obtain ⟨_, _, ⟨T21, L21, k21, n21⟩, -, X21, ⟨Lc21, hQ21, l21, y21, z21⟩, st21⟩ := Jvm.LawKit.callS X20 hx (y := (⟨"com/example/dispensd/dispensd/IdentifierIsValidPinLaw", "at", "(IICC)C"⟩ : MethodName)) hown (mvT hZ (own_w hw 13 rfl)) (mvT hZ (own_w hw 14 rfl)) (mvT hZ (own_w hw 7 rfl)) (mvT hZ (own_w hw 15 rfl)) (by decide) (backOf (W := 5) (rmAt l Z a0 hw [] (9 : Int32) p1 p2 p3  h20 n0 O20 ) hZ (own_w hw 15 rfl) (own_w hw 7 rfl) (by decide) (by decide)) (g := (mkF m 427 #[.val (.int 16), .val (.int p1), .val (.int p2), .val (.int p3)] [(.int p3), (.int p2), (.int p1), (.int 9), (.int 9), (.ref b2), (.ref b2), (.ref b1), (.ref b1)])) rfl (by rw [hml]; rfl) (argsL := [(.int 9), (.int p1), (.int p2), (.int p3)]) (rest := [(.int 9), (.ref b2), (.ref b2), (.ref b1), (.ref b1)]) (lenOf pd_6 rfl) rfl (by show 2 * 0 + _ ≤ _; exact Nat.le_of_eq rfl) (hb hby d2_427) (fun _ _ => ⟨rfl, e20, (by decide : 2 + 0 ≤ _), (by decide : 20 + 0 ≤ _)⟩)
  dsimp only [Pt.U, Pt.locs, Pt.cells, Pt.slots] at X21 l21 y21 z21 st21 hQ21
  subst l21 y21 z21
  obtain ⟨rfl, N21q, e21⟩ := hQ21
  have N21 := Fr.app N20 N21q
  obtain ⟨Lx21, Xx21, Nx21⟩ : ∃ L', Stand p l e _ s m _ below meth c T21 L' 2 20 ∧ Fr n0 L' := ⟨_, X21, N21⟩
  obtain ⟨cl22, Ar22, qa22, Sz22, Ng22, Hs22, Ft22⟩ := V20
  obtain ⟨T22, h22, X22, e22, W22, st22⟩ := stC Xx21 hx hZ e21 Ar22 (j := (9 : Int32)) (inb_of Sz22 ⟨by decide, by decide⟩) (g := (mkF m 430 #[.val (.int 16), .val (.int p1), .val (.int p2), .val (.int p3)] [(.int (own_c 9 p1 p2 p3)), (.int 9), (.ref b2), (.ref b2), (.ref b1), (.ref b1)])) rfl rfl (hb hby d2_430)
  have O22 := O20.wr W22 g_b2
  have N22 := Fr.snoc X22 Nx21 g_b2
  have V22 : Arv Z h22 b2 k2 .char (16 : Int32) [(.int (own_d 0 p1 p2 p3)), (.int (own_d 1 p1 p2 p3)), (.int (own_d 2 p1 p2 p3)), (.int (own_d 3 p1 p2 p3)), (.int (own_d 4 p1 p2 p3)), (.int (own_d 5 p1 p2 p3)), (.int (own_d 6 p1 p2 p3)), (.int (own_d 7 p1 p2 p3)), (.int (own_d 8 p1 p2 p3)), (.int (own_d 9 p1 p2 p3)), (.int 0), (.int 0), (.int 0), (.int 0), (.int 0), (.int 0)] (.int 0) := Arv.set Ar22 qa22 Sz22 Ng22 Hs22 Ft22 (fits_nar_char _) W22 9 rfl (Nat.le_of_ble_eq_true rfl)
  obtain ⟨_, _, ⟨T23, L23, k23, n23⟩, -, X23, ⟨Lc23, hQ23, l23, y23, z23⟩, st23⟩ := Jvm.LawKit.callS X22 hx (y := (⟨"com/example/dispensd/dispensd/IdentifierIsValidPinLaw", "at", "(IICC)C"⟩ : MethodName)) hown (mvT hZ (own_w hw 13 rfl)) (mvT hZ (own_w hw 14 rfl)) (mvT hZ (own_w hw 7 rfl)) (mvT hZ (own_w hw 15 rfl)) (by decide) (backOf (W := 5) (rmAt l Z a0 hw [] (10 : Int32) p1 p2 p3  h22 n0 O22 ) hZ (own_w hw 15 rfl) (own_w hw 7 rfl) (by decide) (by decide)) (g := (mkF m 439 #[.val (.int 16), .val (.int p1), .val (.int p2), .val (.int p3)] [(.int p3), (.int p2), (.int p1), (.int 10), (.int 10), (.ref b2), (.ref b2), (.ref b1), (.ref b1)])) rfl (by rw [hml]; rfl) (argsL := [(.int 10), (.int p1), (.int p2), (.int p3)]) (rest := [(.int 10), (.ref b2), (.ref b2), (.ref b1), (.ref b1)]) (lenOf pd_6 rfl) rfl (by show 2 * 0 + _ ≤ _; exact Nat.le_of_eq rfl) (hb hby d2_439) (fun _ _ => ⟨rfl, e22, (by decide : 2 + 0 ≤ _), (by decide : 20 + 0 ≤ _)⟩)
  dsimp only [Pt.U, Pt.locs, Pt.cells, Pt.slots] at X23 l23 y23 z23 st23 hQ23
  subst l23 y23 z23
  obtain ⟨rfl, N23q, e23⟩ := hQ23
  have N23 := Fr.app N22 N23q
  obtain ⟨Lx23, Xx23, Nx23⟩ : ∃ L', Stand p l e _ s m _ below meth c T23 L' 2 20 ∧ Fr n0 L' := ⟨_, X23, N23⟩
  obtain ⟨cl24, Ar24, qa24, Sz24, Ng24, Hs24, Ft24⟩ := V22
  obtain ⟨T24, h24, X24, e24, W24, st24⟩ := stC Xx23 hx hZ e23 Ar24 (j := (10 : Int32)) (inb_of Sz24 ⟨by decide, by decide⟩) (g := (mkF m 442 #[.val (.int 16), .val (.int p1), .val (.int p2), .val (.int p3)] [(.int (own_c 10 p1 p2 p3)), (.int 10), (.ref b2), (.ref b2), (.ref b1), (.ref b1)])) rfl rfl (hb hby d2_442)
  have O24 := O22.wr W24 g_b2
  have N24 := Fr.snoc X24 Nx23 g_b2
  have V24 : Arv Z h24 b2 k2 .char (16 : Int32) [(.int (own_d 0 p1 p2 p3)), (.int (own_d 1 p1 p2 p3)), (.int (own_d 2 p1 p2 p3)), (.int (own_d 3 p1 p2 p3)), (.int (own_d 4 p1 p2 p3)), (.int (own_d 5 p1 p2 p3)), (.int (own_d 6 p1 p2 p3)), (.int (own_d 7 p1 p2 p3)), (.int (own_d 8 p1 p2 p3)), (.int (own_d 9 p1 p2 p3)), (.int (own_d 10 p1 p2 p3)), (.int 0), (.int 0), (.int 0), (.int 0), (.int 0)] (.int 0) := Arv.set Ar24 qa24 Sz24 Ng24 Hs24 Ft24 (fits_nar_char _) W24 10 rfl (Nat.le_of_ble_eq_true rfl)
  obtain ⟨_, _, ⟨T25, L25, k25, n25⟩, -, X25, ⟨Lc25, hQ25, l25, y25, z25⟩, st25⟩ := Jvm.LawKit.callS X24 hx (y := (⟨"com/example/dispensd/dispensd/IdentifierIsValidPinLaw", "at", "(IICC)C"⟩ : MethodName)) hown (mvT hZ (own_w hw 13 rfl)) (mvT hZ (own_w hw 14 rfl)) (mvT hZ (own_w hw 7 rfl)) (mvT hZ (own_w hw 15 rfl)) (by decide) (backOf (W := 5) (rmAt l Z a0 hw [] (11 : Int32) p1 p2 p3  h24 n0 O24 ) hZ (own_w hw 15 rfl) (own_w hw 7 rfl) (by decide) (by decide)) (g := (mkF m 451 #[.val (.int 16), .val (.int p1), .val (.int p2), .val (.int p3)] [(.int p3), (.int p2), (.int p1), (.int 11), (.int 11), (.ref b2), (.ref b2), (.ref b1), (.ref b1)])) rfl (by rw [hml]; rfl) (argsL := [(.int 11), (.int p1), (.int p2), (.int p3)]) (rest := [(.int 11), (.ref b2), (.ref b2), (.ref b1), (.ref b1)]) (lenOf pd_6 rfl) rfl (by show 2 * 0 + _ ≤ _; exact Nat.le_of_eq rfl) (hb hby d2_451) (fun _ _ => ⟨rfl, e24, (by decide : 2 + 0 ≤ _), (by decide : 20 + 0 ≤ _)⟩)
  dsimp only [Pt.U, Pt.locs, Pt.cells, Pt.slots] at X25 l25 y25 z25 st25 hQ25
  subst l25 y25 z25
  obtain ⟨rfl, N25q, e25⟩ := hQ25
  have N25 := Fr.app N24 N25q
  obtain ⟨Lx25, Xx25, Nx25⟩ : ∃ L', Stand p l e _ s m _ below meth c T25 L' 2 20 ∧ Fr n0 L' := ⟨_, X25, N25⟩
  obtain ⟨cl26, Ar26, qa26, Sz26, Ng26, Hs26, Ft26⟩ := V24
  obtain ⟨T26, h26, X26, e26, W26, st26⟩ := stC Xx25 hx hZ e25 Ar26 (j := (11 : Int32)) (inb_of Sz26 ⟨by decide, by decide⟩) (g := (mkF m 454 #[.val (.int 16), .val (.int p1), .val (.int p2), .val (.int p3)] [(.int (own_c 11 p1 p2 p3)), (.int 11), (.ref b2), (.ref b2), (.ref b1), (.ref b1)])) rfl rfl (hb hby d2_454)
  have O26 := O24.wr W26 g_b2
  have N26 := Fr.snoc X26 Nx25 g_b2
  have V26 : Arv Z h26 b2 k2 .char (16 : Int32) [(.int (own_d 0 p1 p2 p3)), (.int (own_d 1 p1 p2 p3)), (.int (own_d 2 p1 p2 p3)), (.int (own_d 3 p1 p2 p3)), (.int (own_d 4 p1 p2 p3)), (.int (own_d 5 p1 p2 p3)), (.int (own_d 6 p1 p2 p3)), (.int (own_d 7 p1 p2 p3)), (.int (own_d 8 p1 p2 p3)), (.int (own_d 9 p1 p2 p3)), (.int (own_d 10 p1 p2 p3)), (.int (own_d 11 p1 p2 p3)), (.int 0), (.int 0), (.int 0), (.int 0)] (.int 0) := Arv.set Ar26 qa26 Sz26 Ng26 Hs26 Ft26 (fits_nar_char _) W26 11 rfl (Nat.le_of_ble_eq_true rfl)
  obtain ⟨_, _, ⟨T27, L27, k27, n27⟩, -, X27, ⟨Lc27, hQ27, l27, y27, z27⟩, st27⟩ := Jvm.LawKit.callS X26 hx (y := (⟨"com/example/dispensd/dispensd/IdentifierIsValidPinLaw", "at", "(IICC)C"⟩ : MethodName)) hown (mvT hZ (own_w hw 13 rfl)) (mvT hZ (own_w hw 14 rfl)) (mvT hZ (own_w hw 7 rfl)) (mvT hZ (own_w hw 15 rfl)) (by decide) (backOf (W := 5) (rmAt l Z a0 hw [] (12 : Int32) p1 p2 p3  h26 n0 O26 ) hZ (own_w hw 15 rfl) (own_w hw 7 rfl) (by decide) (by decide)) (g := (mkF m 463 #[.val (.int 16), .val (.int p1), .val (.int p2), .val (.int p3)] [(.int p3), (.int p2), (.int p1), (.int 12), (.int 12), (.ref b2), (.ref b2), (.ref b1), (.ref b1)])) rfl (by rw [hml]; rfl) (argsL := [(.int 12), (.int p1), (.int p2), (.int p3)]) (rest := [(.int 12), (.ref b2), (.ref b2), (.ref b1), (.ref b1)]) (lenOf pd_6 rfl) rfl (by show 2 * 0 + _ ≤ _; exact Nat.le_of_eq rfl) (hb hby d2_463) (fun _ _ => ⟨rfl, e26, (by decide : 2 + 0 ≤ _), (by decide : 20 + 0 ≤ _)⟩)
  dsimp only [Pt.U, Pt.locs, Pt.cells, Pt.slots] at X27 l27 y27 z27 st27 hQ27
  subst l27 y27 z27
  obtain ⟨rfl, N27q, e27⟩ := hQ27
  have N27 := Fr.app N26 N27q
  obtain ⟨Lx27, Xx27, Nx27⟩ : ∃ L', Stand p l e _ s m _ below meth c T27 L' 2 20 ∧ Fr n0 L' := ⟨_, X27, N27⟩
  obtain ⟨cl28, Ar28, qa28, Sz28, Ng28, Hs28, Ft28⟩ := V26
  obtain ⟨T28, h28, X28, e28, W28, st28⟩ := stC Xx27 hx hZ e27 Ar28 (j := (12 : Int32)) (inb_of Sz28 ⟨by decide, by decide⟩) (g := (mkF m 466 #[.val (.int 16), .val (.int p1), .val (.int p2), .val (.int p3)] [(.int (own_c 12 p1 p2 p3)), (.int 12), (.ref b2), (.ref b2), (.ref b1), (.ref b1)])) rfl rfl (hb hby d2_466)
  have O28 := O26.wr W28 g_b2
  have N28 := Fr.snoc X28 Nx27 g_b2
  have V28 : Arv Z h28 b2 k2 .char (16 : Int32) [(.int (own_d 0 p1 p2 p3)), (.int (own_d 1 p1 p2 p3)), (.int (own_d 2 p1 p2 p3)), (.int (own_d 3 p1 p2 p3)), (.int (own_d 4 p1 p2 p3)), (.int (own_d 5 p1 p2 p3)), (.int (own_d 6 p1 p2 p3)), (.int (own_d 7 p1 p2 p3)), (.int (own_d 8 p1 p2 p3)), (.int (own_d 9 p1 p2 p3)), (.int (own_d 10 p1 p2 p3)), (.int (own_d 11 p1 p2 p3)), (.int (own_d 12 p1 p2 p3)), (.int 0), (.int 0), (.int 0)] (.int 0) := Arv.set Ar28 qa28 Sz28 Ng28 Hs28 Ft28 (fits_nar_char _) W28 12 rfl (Nat.le_of_ble_eq_true rfl)
  obtain ⟨_, _, ⟨T29, L29, k29, n29⟩, -, X29, ⟨Lc29, hQ29, l29, y29, z29⟩, st29⟩ := Jvm.LawKit.callS X28 hx (y := (⟨"com/example/dispensd/dispensd/IdentifierIsValidPinLaw", "at", "(IICC)C"⟩ : MethodName)) hown (mvT hZ (own_w hw 13 rfl)) (mvT hZ (own_w hw 14 rfl)) (mvT hZ (own_w hw 7 rfl)) (mvT hZ (own_w hw 15 rfl)) (by decide) (backOf (W := 5) (rmAt l Z a0 hw [] (13 : Int32) p1 p2 p3  h28 n0 O28 ) hZ (own_w hw 15 rfl) (own_w hw 7 rfl) (by decide) (by decide)) (g := (mkF m 475 #[.val (.int 16), .val (.int p1), .val (.int p2), .val (.int p3)] [(.int p3), (.int p2), (.int p1), (.int 13), (.int 13), (.ref b2), (.ref b2), (.ref b1), (.ref b1)])) rfl (by rw [hml]; rfl) (argsL := [(.int 13), (.int p1), (.int p2), (.int p3)]) (rest := [(.int 13), (.ref b2), (.ref b2), (.ref b1), (.ref b1)]) (lenOf pd_6 rfl) rfl (by show 2 * 0 + _ ≤ _; exact Nat.le_of_eq rfl) (hb hby d2_475) (fun _ _ => ⟨rfl, e28, (by decide : 2 + 0 ≤ _), (by decide : 20 + 0 ≤ _)⟩)
  dsimp only [Pt.U, Pt.locs, Pt.cells, Pt.slots] at X29 l29 y29 z29 st29 hQ29
  subst l29 y29 z29
  obtain ⟨rfl, N29q, e29⟩ := hQ29
  have N29 := Fr.app N28 N29q
  obtain ⟨Lx29, Xx29, Nx29⟩ : ∃ L', Stand p l e _ s m _ below meth c T29 L' 2 20 ∧ Fr n0 L' := ⟨_, X29, N29⟩
  obtain ⟨cl30, Ar30, qa30, Sz30, Ng30, Hs30, Ft30⟩ := V28
  obtain ⟨T30, h30, X30, e30, W30, st30⟩ := stC Xx29 hx hZ e29 Ar30 (j := (13 : Int32)) (inb_of Sz30 ⟨by decide, by decide⟩) (g := (mkF m 478 #[.val (.int 16), .val (.int p1), .val (.int p2), .val (.int p3)] [(.int (own_c 13 p1 p2 p3)), (.int 13), (.ref b2), (.ref b2), (.ref b1), (.ref b1)])) rfl rfl (hb hby d2_478)
  have O30 := O28.wr W30 g_b2
  have N30 := Fr.snoc X30 Nx29 g_b2
  have V30 : Arv Z h30 b2 k2 .char (16 : Int32) [(.int (own_d 0 p1 p2 p3)), (.int (own_d 1 p1 p2 p3)), (.int (own_d 2 p1 p2 p3)), (.int (own_d 3 p1 p2 p3)), (.int (own_d 4 p1 p2 p3)), (.int (own_d 5 p1 p2 p3)), (.int (own_d 6 p1 p2 p3)), (.int (own_d 7 p1 p2 p3)), (.int (own_d 8 p1 p2 p3)), (.int (own_d 9 p1 p2 p3)), (.int (own_d 10 p1 p2 p3)), (.int (own_d 11 p1 p2 p3)), (.int (own_d 12 p1 p2 p3)), (.int (own_d 13 p1 p2 p3)), (.int 0), (.int 0)] (.int 0) := Arv.set Ar30 qa30 Sz30 Ng30 Hs30 Ft30 (fits_nar_char _) W30 13 rfl (Nat.le_of_ble_eq_true rfl)
  obtain ⟨_, _, ⟨T31, L31, k31, n31⟩, -, X31, ⟨Lc31, hQ31, l31, y31, z31⟩, st31⟩ := Jvm.LawKit.callS X30 hx (y := (⟨"com/example/dispensd/dispensd/IdentifierIsValidPinLaw", "at", "(IICC)C"⟩ : MethodName)) hown (mvT hZ (own_w hw 13 rfl)) (mvT hZ (own_w hw 14 rfl)) (mvT hZ (own_w hw 7 rfl)) (mvT hZ (own_w hw 15 rfl)) (by decide) (backOf (W := 5) (rmAt l Z a0 hw [] (14 : Int32) p1 p2 p3  h30 n0 O30 ) hZ (own_w hw 15 rfl) (own_w hw 7 rfl) (by decide) (by decide)) (g := (mkF m 487 #[.val (.int 16), .val (.int p1), .val (.int p2), .val (.int p3)] [(.int p3), (.int p2), (.int p1), (.int 14), (.int 14), (.ref b2), (.ref b2), (.ref b1), (.ref b1)])) rfl (by rw [hml]; rfl) (argsL := [(.int 14), (.int p1), (.int p2), (.int p3)]) (rest := [(.int 14), (.ref b2), (.ref b2), (.ref b1), (.ref b1)]) (lenOf pd_6 rfl) rfl (by show 2 * 0 + _ ≤ _; exact Nat.le_of_eq rfl) (hb hby d2_487) (fun _ _ => ⟨rfl, e30, (by decide : 2 + 0 ≤ _), (by decide : 20 + 0 ≤ _)⟩)
  dsimp only [Pt.U, Pt.locs, Pt.cells, Pt.slots] at X31 l31 y31 z31 st31 hQ31
  subst l31 y31 z31
  obtain ⟨rfl, N31q, e31⟩ := hQ31
  have N31 := Fr.app N30 N31q
  obtain ⟨Lx31, Xx31, Nx31⟩ : ∃ L', Stand p l e _ s m _ below meth c T31 L' 2 20 ∧ Fr n0 L' := ⟨_, X31, N31⟩
  obtain ⟨cl32, Ar32, qa32, Sz32, Ng32, Hs32, Ft32⟩ := V30
  obtain ⟨T32, h32, X32, e32, W32, st32⟩ := stC Xx31 hx hZ e31 Ar32 (j := (14 : Int32)) (inb_of Sz32 ⟨by decide, by decide⟩) (g := (mkF m 490 #[.val (.int 16), .val (.int p1), .val (.int p2), .val (.int p3)] [(.int (own_c 14 p1 p2 p3)), (.int 14), (.ref b2), (.ref b2), (.ref b1), (.ref b1)])) rfl rfl (hb hby d2_490)
  have O32 := O30.wr W32 g_b2
  have N32 := Fr.snoc X32 Nx31 g_b2
  have V32 : Arv Z h32 b2 k2 .char (16 : Int32) [(.int (own_d 0 p1 p2 p3)), (.int (own_d 1 p1 p2 p3)), (.int (own_d 2 p1 p2 p3)), (.int (own_d 3 p1 p2 p3)), (.int (own_d 4 p1 p2 p3)), (.int (own_d 5 p1 p2 p3)), (.int (own_d 6 p1 p2 p3)), (.int (own_d 7 p1 p2 p3)), (.int (own_d 8 p1 p2 p3)), (.int (own_d 9 p1 p2 p3)), (.int (own_d 10 p1 p2 p3)), (.int (own_d 11 p1 p2 p3)), (.int (own_d 12 p1 p2 p3)), (.int (own_d 13 p1 p2 p3)), (.int (own_d 14 p1 p2 p3)), (.int 0)] (.int 0) := Arv.set Ar32 qa32 Sz32 Ng32 Hs32 Ft32 (fits_nar_char _) W32 14 rfl (Nat.le_of_ble_eq_true rfl)
  obtain ⟨_, _, ⟨T33, L33, k33, n33⟩, -, X33, ⟨Lc33, hQ33, l33, y33, z33⟩, st33⟩ := Jvm.LawKit.callS X32 hx (y := (⟨"com/example/dispensd/dispensd/IdentifierIsValidPinLaw", "at", "(IICC)C"⟩ : MethodName)) hown (mvT hZ (own_w hw 13 rfl)) (mvT hZ (own_w hw 14 rfl)) (mvT hZ (own_w hw 7 rfl)) (mvT hZ (own_w hw 15 rfl)) (by decide) (backOf (W := 5) (rmAt l Z a0 hw [] (15 : Int32) p1 p2 p3  h32 n0 O32 ) hZ (own_w hw 15 rfl) (own_w hw 7 rfl) (by decide) (by decide)) (g := (mkF m 499 #[.val (.int 16), .val (.int p1), .val (.int p2), .val (.int p3)] [(.int p3), (.int p2), (.int p1), (.int 15), (.int 15), (.ref b2), (.ref b2), (.ref b1), (.ref b1)])) rfl (by rw [hml]; rfl) (argsL := [(.int 15), (.int p1), (.int p2), (.int p3)]) (rest := [(.int 15), (.ref b2), (.ref b2), (.ref b1), (.ref b1)]) (lenOf pd_6 rfl) rfl (by show 2 * 0 + _ ≤ _; exact Nat.le_of_eq rfl) (hb hby d2_499) (fun _ _ => ⟨rfl, e32, (by decide : 2 + 0 ≤ _), (by decide : 20 + 0 ≤ _)⟩)
  dsimp only [Pt.U, Pt.locs, Pt.cells, Pt.slots] at X33 l33 y33 z33 st33 hQ33
  subst l33 y33 z33
  obtain ⟨rfl, N33q, e33⟩ := hQ33
  have N33 := Fr.app N32 N33q
  obtain ⟨Lx33, Xx33, Nx33⟩ : ∃ L', Stand p l e _ s m _ below meth c T33 L' 2 20 ∧ Fr n0 L' := ⟨_, X33, N33⟩
  obtain ⟨cl34, Ar34, qa34, Sz34, Ng34, Hs34, Ft34⟩ := V32
  obtain ⟨T34, h34, X34, e34, W34, st34⟩ := stC Xx33 hx hZ e33 Ar34 (j := (15 : Int32)) (inb_of Sz34 ⟨by decide, by decide⟩) (g := (mkF m 502 #[.val (.int 16), .val (.int p1), .val (.int p2), .val (.int p3)] [(.int (own_c 15 p1 p2 p3)), (.int 15), (.ref b2), (.ref b2), (.ref b1), (.ref b1)])) rfl rfl (hb hby d2_502)
  have O34 := O32.wr W34 g_b2
  have N34 := Fr.snoc X34 Nx33 g_b2
  have V34 : Arv Z h34 b2 k2 .char (16 : Int32) [(.int (own_d 0 p1 p2 p3)), (.int (own_d 1 p1 p2 p3)), (.int (own_d 2 p1 p2 p3)), (.int (own_d 3 p1 p2 p3)), (.int (own_d 4 p1 p2 p3)), (.int (own_d 5 p1 p2 p3)), (.int (own_d 6 p1 p2 p3)), (.int (own_d 7 p1 p2 p3)), (.int (own_d 8 p1 p2 p3)), (.int (own_d 9 p1 p2 p3)), (.int (own_d 10 p1 p2 p3)), (.int (own_d 11 p1 p2 p3)), (.int (own_d 12 p1 p2 p3)), (.int (own_d 13 p1 p2 p3)), (.int (own_d 14 p1 p2 p3)), (.int (own_d 15 p1 p2 p3))] (.int 0) := Arv.set Ar34 qa34 Sz34 Ng34 Hs34 Ft34 (fits_nar_char _) W34 15 rfl (Nat.le_of_ble_eq_true rfl)
  have e_b1_18_x := (((((((((((((((((A1.ext E2).wr W4).wr W6).wr W8).wr W10).wr W12).wr W14).wr W16).wr W18).wr W20).wr W22).wr W24).wr W26).wr W28).wr W30).wr W32).wr W34)
  have f_b1_18_value := (((((((((((((((((F_value_b1.ext E2).other W4 (Or.inl (Nat.ne_of_lt (Nat.lt_of_lt_of_le F_coder_b1.lt (Nat.le_of_eq g2.symm))))).other W6 (Or.inl (Nat.ne_of_lt (Nat.lt_of_lt_of_le F_coder_b1.lt (Nat.le_of_eq g2.symm))))).other W8 (Or.inl (Nat.ne_of_lt (Nat.lt_of_lt_of_le F_coder_b1.lt (Nat.le_of_eq g2.symm))))).other W10 (Or.inl (Nat.ne_of_lt (Nat.lt_of_lt_of_le F_coder_b1.lt (Nat.le_of_eq g2.symm))))).other W12 (Or.inl (Nat.ne_of_lt (Nat.lt_of_lt_of_le F_coder_b1.lt (Nat.le_of_eq g2.symm))))).other W14 (Or.inl (Nat.ne_of_lt (Nat.lt_of_lt_of_le F_coder_b1.lt (Nat.le_of_eq g2.symm))))).other W16 (Or.inl (Nat.ne_of_lt (Nat.lt_of_lt_of_le F_coder_b1.lt (Nat.le_of_eq g2.symm))))).other W18 (Or.inl (Nat.ne_of_lt (Nat.lt_of_lt_of_le F_coder_b1.lt (Nat.le_of_eq g2.symm))))).other W20 (Or.inl (Nat.ne_of_lt (Nat.lt_of_lt_of_le F_coder_b1.lt (Nat.le_of_eq g2.symm))))).other W22 (Or.inl (Nat.ne_of_lt (Nat.lt_of_lt_of_le F_coder_b1.lt (Nat.le_of_eq g2.symm))))).other W24 (Or.inl (Nat.ne_of_lt (Nat.lt_of_lt_of_le F_coder_b1.lt (Nat.le_of_eq g2.symm))))).other W26 (Or.inl (Nat.ne_of_lt (Nat.lt_of_lt_of_le F_coder_b1.lt (Nat.le_of_eq g2.symm))))).other W28 (Or.inl (Nat.ne_of_lt (Nat.lt_of_lt_of_le F_coder_b1.lt (Nat.le_of_eq g2.symm))))).other W30 (Or.inl (Nat.ne_of_lt (Nat.lt_of_lt_of_le F_coder_b1.lt (Nat.le_of_eq g2.symm))))).other W32 (Or.inl (Nat.ne_of_lt (Nat.lt_of_lt_of_le F_coder_b1.lt (Nat.le_of_eq g2.symm))))).other W34 (Or.inl (Nat.ne_of_lt (Nat.lt_of_lt_of_le F_coder_b1.lt (Nat.le_of_eq g2.symm)))))
  have f_b1_18_coder := (((((((((((((((((F_coder_b1.ext E2).other W4 (Or.inl (Nat.ne_of_lt (Nat.lt_of_lt_of_le F_coder_b1.lt (Nat.le_of_eq g2.symm))))).other W6 (Or.inl (Nat.ne_of_lt (Nat.lt_of_lt_of_le F_coder_b1.lt (Nat.le_of_eq g2.symm))))).other W8 (Or.inl (Nat.ne_of_lt (Nat.lt_of_lt_of_le F_coder_b1.lt (Nat.le_of_eq g2.symm))))).other W10 (Or.inl (Nat.ne_of_lt (Nat.lt_of_lt_of_le F_coder_b1.lt (Nat.le_of_eq g2.symm))))).other W12 (Or.inl (Nat.ne_of_lt (Nat.lt_of_lt_of_le F_coder_b1.lt (Nat.le_of_eq g2.symm))))).other W14 (Or.inl (Nat.ne_of_lt (Nat.lt_of_lt_of_le F_coder_b1.lt (Nat.le_of_eq g2.symm))))).other W16 (Or.inl (Nat.ne_of_lt (Nat.lt_of_lt_of_le F_coder_b1.lt (Nat.le_of_eq g2.symm))))).other W18 (Or.inl (Nat.ne_of_lt (Nat.lt_of_lt_of_le F_coder_b1.lt (Nat.le_of_eq g2.symm))))).other W20 (Or.inl (Nat.ne_of_lt (Nat.lt_of_lt_of_le F_coder_b1.lt (Nat.le_of_eq g2.symm))))).other W22 (Or.inl (Nat.ne_of_lt (Nat.lt_of_lt_of_le F_coder_b1.lt (Nat.le_of_eq g2.symm))))).other W24 (Or.inl (Nat.ne_of_lt (Nat.lt_of_lt_of_le F_coder_b1.lt (Nat.le_of_eq g2.symm))))).other W26 (Or.inl (Nat.ne_of_lt (Nat.lt_of_lt_of_le F_coder_b1.lt (Nat.le_of_eq g2.symm))))).other W28 (Or.inl (Nat.ne_of_lt (Nat.lt_of_lt_of_le F_coder_b1.lt (Nat.le_of_eq g2.symm))))).other W30 (Or.inl (Nat.ne_of_lt (Nat.lt_of_lt_of_le F_coder_b1.lt (Nat.le_of_eq g2.symm))))).other W32 (Or.inl (Nat.ne_of_lt (Nat.lt_of_lt_of_le F_coder_b1.lt (Nat.le_of_eq g2.symm))))).other W34 (Or.inl (Nat.ne_of_lt (Nat.lt_of_lt_of_le F_coder_b1.lt (Nat.le_of_eq g2.symm)))))
  obtain ⟨_, _, ⟨T35, L35, k35, n35⟩, -, X35, ⟨Lc35, hQ35, l35, y35, z35⟩, st35⟩ := X34.specialBack hx (y := (⟨"java/lang/String", "<init>", "([C)V"⟩ : MethodName)) rfl hown (mvT hZ (own_w hw 16 rfl)) (mvT hZ (own_w hw 17 rfl)) (mvT hZ (own_w hw 18 rfl)) (by decide) (StrChars.Road.backV (W := 1) hZ (own_ws hw) (kI := 4) (own_w hw 10 rfl) (cs := ([own_d 0 p1 p2 p3, own_d 1 p1 p2 p3, own_d 2 p1 p2 p3, own_d 3 p1 p2 p3, own_d 4 p1 p2 p3, own_d 5 p1 p2 p3, own_d 6 p1 p2 p3, own_d 7 p1 p2 p3, own_d 8 p1 p2 p3, own_d 9 p1 p2 p3, own_d 10 p1 p2 p3, own_d 11 p1 p2 p3, own_d 12 p1 p2 p3, own_d 13 p1 p2 p3, own_d 14 p1 p2 p3, own_d 15 p1 p2 p3] : List Int32)) (bs := (([own_d 0 p1 p2 p3, own_d 1 p1 p2 p3, own_d 2 p1 p2 p3, own_d 3 p1 p2 p3, own_d 4 p1 p2 p3, own_d 5 p1 p2 p3, own_d 6 p1 p2 p3, own_d 7 p1 p2 p3, own_d 8 p1 p2 p3, own_d 9 p1 p2 p3, own_d 10 p1 p2 p3, own_d 11 p1 p2 p3, own_d 12 p1 p2 p3, own_d 13 p1 p2 p3, own_d 14 p1 p2 p3, own_d 15 p1 p2 p3] : List Int32)).map (fun c => c.toInt8.toInt32)) (n := 16) g_b1 (own_le O34) e_b1_18_x f_b1_18_value f_b1_18_coder V34 (S_COMPACT_STRINGS.ext O34.2) hzc rfl rfl (by decide) (by decide) hp rfl (by decide) (by decide)) (g := (mkF m 503 #[.val (.int 16), .val (.int p1), .val (.int p2), .val (.int p3)] [(.ref b2), (.ref b1), (.ref b1)])) rfl (by rw [hml]; rfl) (Steps.refl _) (a := b1) (argsL := [(.ref b2)]) (rest := [(.ref b1)]) (lenOf pd_7 rfl) rfl (by show 2 * 0 + _ ≤ _; exact Nat.le_of_eq rfl) (hb hby d2_503) (fun _ _ => ⟨rfl, e34, (by decide : 2 + 1 ≤ _), (by decide : 20 + 16 ≤ _)⟩)
  dsimp only [Pt.U, Pt.locs, Pt.cells, Pt.slots] at X35 l35 y35 z35 st35 hQ35
  subst l35 y35 z35
  obtain ⟨rfl, N35q, K35, Ex35, Fc35, t35, kt35, ut35, vt35, wt35, Fv35, Vt35⟩ := hQ35
  have N35 := Fr.app N34 N35q
  obtain ⟨Lx35, Xx35, Nx35⟩ : ∃ L', Stand p l e _ s m _ below meth c T35 L' 3 36 ∧ Fr n0 L' := ⟨_, X35, N35⟩
  have O35 := O34.keep K35 (allS g_b1 all0)
  obtain ⟨fs, hr, hrun, hended, hW, hsame⟩ := Xx35.leave (v := some (.ref b1)) (fun h => by rw [Bd.returns] at h; cases h)
  refine ⟨_, _, pre0 _ ?_, hrun, hended, _, _, rfl, ?_, ⟨_, rfl⟩, hW, hsame.mono (by decide) (by decide)⟩
  · show oS p e below s₁ m 0 #[.val (.int 16), .val (.int p1), .val (.int p2), .val (.int p3)] [] _
    refine XS.iloadN X0.here hx rfl (hb hby d2_0) rfl ?_
    show oS p e below s₁ m 1 #[.val (.int 16), .val (.int p1), .val (.int p2), .val (.int p3)] [(.int 16)] _
    refine XS.ifYes X0.here hx rfl (pc0 := 1) (pc' := 15) rfl (hb hby d2_1) rfl ((if0 _ _).trans (feq (by decide : ¬ ((16 : Int32) = (0 : Int32)))).2) (by decide) (by decide) ?_
    show oS p e below s₁ m 15 #[.val (.int 16), .val (.int p1), .val (.int p2), .val (.int p3)] [] _
    refine XS.iloadN X0.here hx rfl (hb hby d2_15) rfl ?_
    show oS p e below s₁ m 16 #[.val (.int 16), .val (.int p1), .val (.int p2), .val (.int p3)] [(.int 16)] _
    refine XS.iconst X0.here hx rfl (hb hby d2_16) ?_
    show oS p e below s₁ m 17 #[.val (.int 16), .val (.int p1), .val (.int p2), .val (.int p3)] [(.int 1), (.int 16)] _
    refine XS.icmpYes X0.here hx rfl (pc0 := 17) (pc' := 41) rfl (hb hby d2_17) rfl (feq (by decide : ¬ ((16 : Int32) = (1 : Int32)))).2 (by decide) (by decide) ?_
    show oS p e below s₁ m 41 #[.val (.int 16), .val (.int p1), .val (.int p2), .val (.int p3)] [] _
    refine XS.iloadN X0.here hx rfl (hb hby d2_41) rfl ?_
    show oS p e below s₁ m 42 #[.val (.int 16), .val (.int p1), .val (.int p2), .val (.int p3)] [(.int 16)] _
    refine XS.iconst X0.here hx rfl (hb hby d2_42) ?_
    show oS p e below s₁ m 43 #[.val (.int 16), .val (.int p1), .val (.int p2), .val (.int p3)] [(.int 2), (.int 16)] _
    refine XS.icmpYes X0.here hx rfl (pc0 := 43) (pc' := 77) rfl (hb hby d2_43) rfl (feq (by decide : ¬ ((16 : Int32) = (2 : Int32)))).2 (by decide) (by decide) ?_
    show oS p e below s₁ m 77 #[.val (.int 16), .val (.int p1), .val (.int p2), .val (.int p3)] [] _
    refine XS.iloadN X0.here hx rfl (hb hby d2_77) rfl ?_
    show oS p e below s₁ m 78 #[.val (.int 16), .val (.int p1), .val (.int p2), .val (.int p3)] [(.int 16)] _
    refine XS.iconst X0.here hx rfl (hb hby d2_78) ?_
    show oS p e below s₁ m 79 #[.val (.int 16), .val (.int p1), .val (.int p2), .val (.int p3)] [(.int 3), (.int 16)] _
    refine XS.icmpYes X0.here hx rfl (pc0 := 79) (pc' := 123) rfl (hb hby d2_79) rfl (feq (by decide : ¬ ((16 : Int32) = (3 : Int32)))).2 (by decide) (by decide) ?_
    show oS p e below s₁ m 123 #[.val (.int 16), .val (.int p1), .val (.int p2), .val (.int p3)] [] _
    refine XS.iloadN X0.here hx rfl (hb hby d2_123) rfl ?_
    show oS p e below s₁ m 124 #[.val (.int 16), .val (.int p1), .val (.int p2), .val (.int p3)] [(.int 16)] _
    refine XS.bipush X0.here hx rfl (hb hby d2_124) ?_
    show oS p e below s₁ m 126 #[.val (.int 16), .val (.int p1), .val (.int p2), .val (.int p3)] [(.int 15), (.int 16)] _
    refine XS.icmpYes X0.here hx rfl (pc0 := 126) (pc' := 309) rfl (hb hby d2_126) rfl (feq (by decide : ¬ ((16 : Int32) = (15 : Int32)))).2 (by decide) (by decide) ?_
    show oS p e below s₁ m 309 #[.val (.int 16), .val (.int p1), .val (.int p2), .val (.int p3)] [] _
    refine XS.iloadN X0.here hx rfl (hb hby d2_309) rfl ?_
    show oS p e below s₁ m 310 #[.val (.int 16), .val (.int p1), .val (.int p2), .val (.int p3)] [(.int 16)] _
    refine XS.bipush X0.here hx rfl (hb hby d2_310) ?_
    show oS p e below s₁ m 312 #[.val (.int 16), .val (.int p1), .val (.int p2), .val (.int p3)] [(.int 16), (.int 16)] _
    refine XS.icmpNo X0.here hx rfl (hb hby d2_312) rfl (teq (by decide : (16 : Int32) = (16 : Int32))).2 ?_
    show oS p e below s₁ m 315 #[.val (.int 16), .val (.int p1), .val (.int p2), .val (.int p3)] [] _
    refine st1 _ ?_
    show oS p e below T1 m 318 #[.val (.int 16), .val (.int p1), .val (.int p2), .val (.int p3)] [(.ref b1)] _
    refine XS.dup X1.here hx rfl (hb hby d2_318) rfl rfl ?_
    show oS p e below T1 m 319 #[.val (.int 16), .val (.int p1), .val (.int p2), .val (.int p3)] [(.ref b1), (.ref b1)] _
    refine XS.bipush X1.here hx rfl (hb hby d2_319) ?_
    show oS p e below T1 m 321 #[.val (.int 16), .val (.int p1), .val (.int p2), .val (.int p3)] [(.int 16), (.ref b1), (.ref b1)] _
    refine st2 _ ?_
    show oS p e below T2 m 323 #[.val (.int 16), .val (.int p1), .val (.int p2), .val (.int p3)] [(.ref b2), (.ref b1), (.ref b1)] _
    refine XS.dup X2.here hx rfl (hb hby d2_323) rfl rfl ?_
    show oS p e below T2 m 324 #[.val (.int 16), .val (.int p1), .val (.int p2), .val (.int p3)] [(.ref b2), (.ref b2), (.ref b1), (.ref b1)] _
    refine XS.iconst X2.here hx rfl (hb hby d2_324) ?_
    show oS p e below T2 m 325 #[.val (.int 16), .val (.int p1), .val (.int p2), .val (.int p3)] [(.int 0), (.ref b2), (.ref b2), (.ref b1), (.ref b1)] _
    refine XS.iconst X2.here hx rfl (hb hby d2_325) ?_
    show oS p e below T2 m 326 #[.val (.int 16), .val (.int p1), .val (.int p2), .val (.int p3)] [(.int 0), (.int 0), (.ref b2), (.ref b2), (.ref b1), (.ref b1)] _
    refine XS.iloadN X2.here hx rfl (hb hby d2_326) rfl ?_
    show oS p e below T2 m 327 #[.val (.int 16), .val (.int p1), .val (.int p2), .val (.int p3)] [(.int p1), (.int 0), (.int 0), (.ref b2), (.ref b2), (.ref b1), (.ref b1)] _
    refine XS.iloadN X2.here hx rfl (hb hby d2_327) rfl ?_
    show oS p e below T2 m 328 #[.val (.int 16), .val (.int p1), .val (.int p2), .val (.int p3)] [(.int p2), (.int p1), (.int 0), (.int 0), (.ref b2), (.ref b2), (.ref b1), (.ref b1)] _
    refine XS.iloadN X2.here hx rfl (hb hby d2_328) rfl ?_
    show oS p e below T2 m 329 #[.val (.int 16), .val (.int p1), .val (.int p2), .val (.int p3)] [(.int p3), (.int p2), (.int p1), (.int 0), (.int 0), (.ref b2), (.ref b2), (.ref b1), (.ref b1)] _
    refine st3 _ ?_
    show oS p e below T3 m 332 #[.val (.int 16), .val (.int p1), .val (.int p2), .val (.int p3)] [(.int (own_c 0 p1 p2 p3)), (.int 0), (.ref b2), (.ref b2), (.ref b1), (.ref b1)] _
    refine st4 _ ?_
    show oS p e below T4 m 333 #[.val (.int 16), .val (.int p1), .val (.int p2), .val (.int p3)] [(.ref b2), (.ref b1), (.ref b1)] _
    refine XS.dup X4.here hx rfl (hb hby d2_333) rfl rfl ?_
    show oS p e below T4 m 334 #[.val (.int 16), .val (.int p1), .val (.int p2), .val (.int p3)] [(.ref b2), (.ref b2), (.ref b1), (.ref b1)] _
    refine XS.iconst X4.here hx rfl (hb hby d2_334) ?_
    show oS p e below T4 m 335 #[.val (.int 16), .val (.int p1), .val (.int p2), .val (.int p3)] [(.int 1), (.ref b2), (.ref b2), (.ref b1), (.ref b1)] _
    refine XS.iconst X4.here hx rfl (hb hby d2_335) ?_
    show oS p e below T4 m 336 #[.val (.int 16), .val (.int p1), .val (.int p2), .val (.int p3)] [(.int 1), (.int 1), (.ref b2), (.ref b2), (.ref b1), (.ref b1)] _
    refine XS.iloadN X4.here hx rfl (hb hby d2_336) rfl ?_
    show oS p e below T4 m 337 #[.val (.int 16), .val (.int p1), .val (.int p2), .val (.int p3)] [(.int p1), (.int 1), (.int 1), (.ref b2), (.ref b2), (.ref b1), (.ref b1)] _
    refine XS.iloadN X4.here hx rfl (hb hby d2_337) rfl ?_
    show oS p e below T4 m 338 #[.val (.int 16), .val (.int p1), .val (.int p2), .val (.int p3)] [(.int p2), (.int p1), (.int 1), (.int 1), (.ref b2), (.ref b2), (.ref b1), (.ref b1)] _
    refine XS.iloadN X4.here hx rfl (hb hby d2_338) rfl ?_
    show oS p e below T4 m 339 #[.val (.int 16), .val (.int p1), .val (.int p2), .val (.int p3)] [(.int p3), (.int p2), (.int p1), (.int 1), (.int 1), (.ref b2), (.ref b2), (.ref b1), (.ref b1)] _
    refine st5 _ ?_
    show oS p e below T5 m 342 #[.val (.int 16), .val (.int p1), .val (.int p2), .val (.int p3)] [(.int (own_c 1 p1 p2 p3)), (.int 1), (.ref b2), (.ref b2), (.ref b1), (.ref b1)] _
    refine st6 _ ?_
    show oS p e below T6 m 343 #[.val (.int 16), .val (.int p1), .val (.int p2), .val (.int p3)] [(.ref b2), (.ref b1), (.ref b1)] _
    refine XS.dup X6.here hx rfl (hb hby d2_343) rfl rfl ?_
    show oS p e below T6 m 344 #[.val (.int 16), .val (.int p1), .val (.int p2), .val (.int p3)] [(.ref b2), (.ref b2), (.ref b1), (.ref b1)] _
    refine XS.iconst X6.here hx rfl (hb hby d2_344) ?_
    show oS p e below T6 m 345 #[.val (.int 16), .val (.int p1), .val (.int p2), .val (.int p3)] [(.int 2), (.ref b2), (.ref b2), (.ref b1), (.ref b1)] _
    refine XS.iconst X6.here hx rfl (hb hby d2_345) ?_
    show oS p e below T6 m 346 #[.val (.int 16), .val (.int p1), .val (.int p2), .val (.int p3)] [(.int 2), (.int 2), (.ref b2), (.ref b2), (.ref b1), (.ref b1)] _
    refine XS.iloadN X6.here hx rfl (hb hby d2_346) rfl ?_
    show oS p e below T6 m 347 #[.val (.int 16), .val (.int p1), .val (.int p2), .val (.int p3)] [(.int p1), (.int 2), (.int 2), (.ref b2), (.ref b2), (.ref b1), (.ref b1)] _
    refine XS.iloadN X6.here hx rfl (hb hby d2_347) rfl ?_
    show oS p e below T6 m 348 #[.val (.int 16), .val (.int p1), .val (.int p2), .val (.int p3)] [(.int p2), (.int p1), (.int 2), (.int 2), (.ref b2), (.ref b2), (.ref b1), (.ref b1)] _
    refine XS.iloadN X6.here hx rfl (hb hby d2_348) rfl ?_
    show oS p e below T6 m 349 #[.val (.int 16), .val (.int p1), .val (.int p2), .val (.int p3)] [(.int p3), (.int p2), (.int p1), (.int 2), (.int 2), (.ref b2), (.ref b2), (.ref b1), (.ref b1)] _
    refine st7 _ ?_
    show oS p e below T7 m 352 #[.val (.int 16), .val (.int p1), .val (.int p2), .val (.int p3)] [(.int (own_c 2 p1 p2 p3)), (.int 2), (.ref b2), (.ref b2), (.ref b1), (.ref b1)] _
    refine st8 _ ?_
    show oS p e below T8 m 353 #[.val (.int 16), .val (.int p1), .val (.int p2), .val (.int p3)] [(.ref b2), (.ref b1), (.ref b1)] _
    refine XS.dup X8.here hx rfl (hb hby d2_353) rfl rfl ?_
    show oS p e below T8 m 354 #[.val (.int 16), .val (.int p1), .val (.int p2), .val (.int p3)] [(.ref b2), (.ref b2), (.ref b1), (.ref b1)] _
    refine XS.iconst X8.here hx rfl (hb hby d2_354) ?_
    show oS p e below T8 m 355 #[.val (.int 16), .val (.int p1), .val (.int p2), .val (.int p3)] [(.int 3), (.ref b2), (.ref b2), (.ref b1), (.ref b1)] _
    refine XS.iconst X8.here hx rfl (hb hby d2_355) ?_
    show oS p e below T8 m 356 #[.val (.int 16), .val (.int p1), .val (.int p2), .val (.int p3)] [(.int 3), (.int 3), (.ref b2), (.ref b2), (.ref b1), (.ref b1)] _
    refine XS.iloadN X8.here hx rfl (hb hby d2_356) rfl ?_
    show oS p e below T8 m 357 #[.val (.int 16), .val (.int p1), .val (.int p2), .val (.int p3)] [(.int p1), (.int 3), (.int 3), (.ref b2), (.ref b2), (.ref b1), (.ref b1)] _
    refine XS.iloadN X8.here hx rfl (hb hby d2_357) rfl ?_
    show oS p e below T8 m 358 #[.val (.int 16), .val (.int p1), .val (.int p2), .val (.int p3)] [(.int p2), (.int p1), (.int 3), (.int 3), (.ref b2), (.ref b2), (.ref b1), (.ref b1)] _
    refine XS.iloadN X8.here hx rfl (hb hby d2_358) rfl ?_
    show oS p e below T8 m 359 #[.val (.int 16), .val (.int p1), .val (.int p2), .val (.int p3)] [(.int p3), (.int p2), (.int p1), (.int 3), (.int 3), (.ref b2), (.ref b2), (.ref b1), (.ref b1)] _
    refine st9 _ ?_
    show oS p e below T9 m 362 #[.val (.int 16), .val (.int p1), .val (.int p2), .val (.int p3)] [(.int (own_c 3 p1 p2 p3)), (.int 3), (.ref b2), (.ref b2), (.ref b1), (.ref b1)] _
    refine st10 _ ?_
    show oS p e below T10 m 363 #[.val (.int 16), .val (.int p1), .val (.int p2), .val (.int p3)] [(.ref b2), (.ref b1), (.ref b1)] _
    refine XS.dup X10.here hx rfl (hb hby d2_363) rfl rfl ?_
    show oS p e below T10 m 364 #[.val (.int 16), .val (.int p1), .val (.int p2), .val (.int p3)] [(.ref b2), (.ref b2), (.ref b1), (.ref b1)] _
    refine XS.iconst X10.here hx rfl (hb hby d2_364) ?_
    show oS p e below T10 m 365 #[.val (.int 16), .val (.int p1), .val (.int p2), .val (.int p3)] [(.int 4), (.ref b2), (.ref b2), (.ref b1), (.ref b1)] _
    refine XS.iconst X10.here hx rfl (hb hby d2_365) ?_
    show oS p e below T10 m 366 #[.val (.int 16), .val (.int p1), .val (.int p2), .val (.int p3)] [(.int 4), (.int 4), (.ref b2), (.ref b2), (.ref b1), (.ref b1)] _
    refine XS.iloadN X10.here hx rfl (hb hby d2_366) rfl ?_
    show oS p e below T10 m 367 #[.val (.int 16), .val (.int p1), .val (.int p2), .val (.int p3)] [(.int p1), (.int 4), (.int 4), (.ref b2), (.ref b2), (.ref b1), (.ref b1)] _
    refine XS.iloadN X10.here hx rfl (hb hby d2_367) rfl ?_
    show oS p e below T10 m 368 #[.val (.int 16), .val (.int p1), .val (.int p2), .val (.int p3)] [(.int p2), (.int p1), (.int 4), (.int 4), (.ref b2), (.ref b2), (.ref b1), (.ref b1)] _
    refine XS.iloadN X10.here hx rfl (hb hby d2_368) rfl ?_
    show oS p e below T10 m 369 #[.val (.int 16), .val (.int p1), .val (.int p2), .val (.int p3)] [(.int p3), (.int p2), (.int p1), (.int 4), (.int 4), (.ref b2), (.ref b2), (.ref b1), (.ref b1)] _
    refine st11 _ ?_
    show oS p e below T11 m 372 #[.val (.int 16), .val (.int p1), .val (.int p2), .val (.int p3)] [(.int (own_c 4 p1 p2 p3)), (.int 4), (.ref b2), (.ref b2), (.ref b1), (.ref b1)] _
    refine st12 _ ?_
    show oS p e below T12 m 373 #[.val (.int 16), .val (.int p1), .val (.int p2), .val (.int p3)] [(.ref b2), (.ref b1), (.ref b1)] _
    refine XS.dup X12.here hx rfl (hb hby d2_373) rfl rfl ?_
    show oS p e below T12 m 374 #[.val (.int 16), .val (.int p1), .val (.int p2), .val (.int p3)] [(.ref b2), (.ref b2), (.ref b1), (.ref b1)] _
    refine XS.iconst X12.here hx rfl (hb hby d2_374) ?_
    show oS p e below T12 m 375 #[.val (.int 16), .val (.int p1), .val (.int p2), .val (.int p3)] [(.int 5), (.ref b2), (.ref b2), (.ref b1), (.ref b1)] _
    refine XS.iconst X12.here hx rfl (hb hby d2_375) ?_
    show oS p e below T12 m 376 #[.val (.int 16), .val (.int p1), .val (.int p2), .val (.int p3)] [(.int 5), (.int 5), (.ref b2), (.ref b2), (.ref b1), (.ref b1)] _
    refine XS.iloadN X12.here hx rfl (hb hby d2_376) rfl ?_
    show oS p e below T12 m 377 #[.val (.int 16), .val (.int p1), .val (.int p2), .val (.int p3)] [(.int p1), (.int 5), (.int 5), (.ref b2), (.ref b2), (.ref b1), (.ref b1)] _
    refine XS.iloadN X12.here hx rfl (hb hby d2_377) rfl ?_
    show oS p e below T12 m 378 #[.val (.int 16), .val (.int p1), .val (.int p2), .val (.int p3)] [(.int p2), (.int p1), (.int 5), (.int 5), (.ref b2), (.ref b2), (.ref b1), (.ref b1)] _
    refine XS.iloadN X12.here hx rfl (hb hby d2_378) rfl ?_
    show oS p e below T12 m 379 #[.val (.int 16), .val (.int p1), .val (.int p2), .val (.int p3)] [(.int p3), (.int p2), (.int p1), (.int 5), (.int 5), (.ref b2), (.ref b2), (.ref b1), (.ref b1)] _
    refine st13 _ ?_
    show oS p e below T13 m 382 #[.val (.int 16), .val (.int p1), .val (.int p2), .val (.int p3)] [(.int (own_c 5 p1 p2 p3)), (.int 5), (.ref b2), (.ref b2), (.ref b1), (.ref b1)] _
    refine st14 _ ?_
    show oS p e below T14 m 383 #[.val (.int 16), .val (.int p1), .val (.int p2), .val (.int p3)] [(.ref b2), (.ref b1), (.ref b1)] _
    refine XS.dup X14.here hx rfl (hb hby d2_383) rfl rfl ?_
    show oS p e below T14 m 384 #[.val (.int 16), .val (.int p1), .val (.int p2), .val (.int p3)] [(.ref b2), (.ref b2), (.ref b1), (.ref b1)] _
    refine XS.bipush X14.here hx rfl (hb hby d2_384) ?_
    show oS p e below T14 m 386 #[.val (.int 16), .val (.int p1), .val (.int p2), .val (.int p3)] [(.int 6), (.ref b2), (.ref b2), (.ref b1), (.ref b1)] _
    refine XS.bipush X14.here hx rfl (hb hby d2_386) ?_
    show oS p e below T14 m 388 #[.val (.int 16), .val (.int p1), .val (.int p2), .val (.int p3)] [(.int 6), (.int 6), (.ref b2), (.ref b2), (.ref b1), (.ref b1)] _
    refine XS.iloadN X14.here hx rfl (hb hby d2_388) rfl ?_
    show oS p e below T14 m 389 #[.val (.int 16), .val (.int p1), .val (.int p2), .val (.int p3)] [(.int p1), (.int 6), (.int 6), (.ref b2), (.ref b2), (.ref b1), (.ref b1)] _
    refine XS.iloadN X14.here hx rfl (hb hby d2_389) rfl ?_
    show oS p e below T14 m 390 #[.val (.int 16), .val (.int p1), .val (.int p2), .val (.int p3)] [(.int p2), (.int p1), (.int 6), (.int 6), (.ref b2), (.ref b2), (.ref b1), (.ref b1)] _
    refine XS.iloadN X14.here hx rfl (hb hby d2_390) rfl ?_
    show oS p e below T14 m 391 #[.val (.int 16), .val (.int p1), .val (.int p2), .val (.int p3)] [(.int p3), (.int p2), (.int p1), (.int 6), (.int 6), (.ref b2), (.ref b2), (.ref b1), (.ref b1)] _
    refine st15 _ ?_
    show oS p e below T15 m 394 #[.val (.int 16), .val (.int p1), .val (.int p2), .val (.int p3)] [(.int (own_c 6 p1 p2 p3)), (.int 6), (.ref b2), (.ref b2), (.ref b1), (.ref b1)] _
    refine st16 _ ?_
    show oS p e below T16 m 395 #[.val (.int 16), .val (.int p1), .val (.int p2), .val (.int p3)] [(.ref b2), (.ref b1), (.ref b1)] _
    refine XS.dup X16.here hx rfl (hb hby d2_395) rfl rfl ?_
    show oS p e below T16 m 396 #[.val (.int 16), .val (.int p1), .val (.int p2), .val (.int p3)] [(.ref b2), (.ref b2), (.ref b1), (.ref b1)] _
    refine XS.bipush X16.here hx rfl (hb hby d2_396) ?_
    show oS p e below T16 m 398 #[.val (.int 16), .val (.int p1), .val (.int p2), .val (.int p3)] [(.int 7), (.ref b2), (.ref b2), (.ref b1), (.ref b1)] _
    refine XS.bipush X16.here hx rfl (hb hby d2_398) ?_
    show oS p e below T16 m 400 #[.val (.int 16), .val (.int p1), .val (.int p2), .val (.int p3)] [(.int 7), (.int 7), (.ref b2), (.ref b2), (.ref b1), (.ref b1)] _
    refine XS.iloadN X16.here hx rfl (hb hby d2_400) rfl ?_
    show oS p e below T16 m 401 #[.val (.int 16), .val (.int p1), .val (.int p2), .val (.int p3)] [(.int p1), (.int 7), (.int 7), (.ref b2), (.ref b2), (.ref b1), (.ref b1)] _
    refine XS.iloadN X16.here hx rfl (hb hby d2_401) rfl ?_
    show oS p e below T16 m 402 #[.val (.int 16), .val (.int p1), .val (.int p2), .val (.int p3)] [(.int p2), (.int p1), (.int 7), (.int 7), (.ref b2), (.ref b2), (.ref b1), (.ref b1)] _
    refine XS.iloadN X16.here hx rfl (hb hby d2_402) rfl ?_
    show oS p e below T16 m 403 #[.val (.int 16), .val (.int p1), .val (.int p2), .val (.int p3)] [(.int p3), (.int p2), (.int p1), (.int 7), (.int 7), (.ref b2), (.ref b2), (.ref b1), (.ref b1)] _
    refine st17 _ ?_
    show oS p e below T17 m 406 #[.val (.int 16), .val (.int p1), .val (.int p2), .val (.int p3)] [(.int (own_c 7 p1 p2 p3)), (.int 7), (.ref b2), (.ref b2), (.ref b1), (.ref b1)] _
    refine st18 _ ?_
    show oS p e below T18 m 407 #[.val (.int 16), .val (.int p1), .val (.int p2), .val (.int p3)] [(.ref b2), (.ref b1), (.ref b1)] _
    refine XS.dup X18.here hx rfl (hb hby d2_407) rfl rfl ?_
    show oS p e below T18 m 408 #[.val (.int 16), .val (.int p1), .val (.int p2), .val (.int p3)] [(.ref b2), (.ref b2), (.ref b1), (.ref b1)] _
    refine XS.bipush X18.here hx rfl (hb hby d2_408) ?_
    show oS p e below T18 m 410 #[.val (.int 16), .val (.int p1), .val (.int p2), .val (.int p3)] [(.int 8), (.ref b2), (.ref b2), (.ref b1), (.ref b1)] _
    refine XS.bipush X18.here hx rfl (hb hby d2_410) ?_
    show oS p e below T18 m 412 #[.val (.int 16), .val (.int p1), .val (.int p2), .val (.int p3)] [(.int 8), (.int 8), (.ref b2), (.ref b2), (.ref b1), (.ref b1)] _
    refine XS.iloadN X18.here hx rfl (hb hby d2_412) rfl ?_
    show oS p e below T18 m 413 #[.val (.int 16), .val (.int p1), .val (.int p2), .val (.int p3)] [(.int p1), (.int 8), (.int 8), (.ref b2), (.ref b2), (.ref b1), (.ref b1)] _
    refine XS.iloadN X18.here hx rfl (hb hby d2_413) rfl ?_
    show oS p e below T18 m 414 #[.val (.int 16), .val (.int p1), .val (.int p2), .val (.int p3)] [(.int p2), (.int p1), (.int 8), (.int 8), (.ref b2), (.ref b2), (.ref b1), (.ref b1)] _
    refine XS.iloadN X18.here hx rfl (hb hby d2_414) rfl ?_
    show oS p e below T18 m 415 #[.val (.int 16), .val (.int p1), .val (.int p2), .val (.int p3)] [(.int p3), (.int p2), (.int p1), (.int 8), (.int 8), (.ref b2), (.ref b2), (.ref b1), (.ref b1)] _
    refine st19 _ ?_
    show oS p e below T19 m 418 #[.val (.int 16), .val (.int p1), .val (.int p2), .val (.int p3)] [(.int (own_c 8 p1 p2 p3)), (.int 8), (.ref b2), (.ref b2), (.ref b1), (.ref b1)] _
    refine st20 _ ?_
    show oS p e below T20 m 419 #[.val (.int 16), .val (.int p1), .val (.int p2), .val (.int p3)] [(.ref b2), (.ref b1), (.ref b1)] _
    refine XS.dup X20.here hx rfl (hb hby d2_419) rfl rfl ?_
    show oS p e below T20 m 420 #[.val (.int 16), .val (.int p1), .val (.int p2), .val (.int p3)] [(.ref b2), (.ref b2), (.ref b1), (.ref b1)] _
    refine XS.bipush X20.here hx rfl (hb hby d2_420) ?_
    show oS p e below T20 m 422 #[.val (.int 16), .val (.int p1), .val (.int p2), .val (.int p3)] [(.int 9), (.ref b2), (.ref b2), (.ref b1), (.ref b1)] _
    refine XS.bipush X20.here hx rfl (hb hby d2_422) ?_
    show oS p e below T20 m 424 #[.val (.int 16), .val (.int p1), .val (.int p2), .val (.int p3)] [(.int 9), (.int 9), (.ref b2), (.ref b2), (.ref b1), (.ref b1)] _
    refine XS.iloadN X20.here hx rfl (hb hby d2_424) rfl ?_
    show oS p e below T20 m 425 #[.val (.int 16), .val (.int p1), .val (.int p2), .val (.int p3)] [(.int p1), (.int 9), (.int 9), (.ref b2), (.ref b2), (.ref b1), (.ref b1)] _
    refine XS.iloadN X20.here hx rfl (hb hby d2_425) rfl ?_
    show oS p e below T20 m 426 #[.val (.int 16), .val (.int p1), .val (.int p2), .val (.int p3)] [(.int p2), (.int p1), (.int 9), (.int 9), (.ref b2), (.ref b2), (.ref b1), (.ref b1)] _
    refine XS.iloadN X20.here hx rfl (hb hby d2_426) rfl ?_
    show oS p e below T20 m 427 #[.val (.int 16), .val (.int p1), .val (.int p2), .val (.int p3)] [(.int p3), (.int p2), (.int p1), (.int 9), (.int 9), (.ref b2), (.ref b2), (.ref b1), (.ref b1)] _
    refine st21 _ ?_
    show oS p e below T21 m 430 #[.val (.int 16), .val (.int p1), .val (.int p2), .val (.int p3)] [(.int (own_c 9 p1 p2 p3)), (.int 9), (.ref b2), (.ref b2), (.ref b1), (.ref b1)] _
    refine st22 _ ?_
    show oS p e below T22 m 431 #[.val (.int 16), .val (.int p1), .val (.int p2), .val (.int p3)] [(.ref b2), (.ref b1), (.ref b1)] _
    refine XS.dup X22.here hx rfl (hb hby d2_431) rfl rfl ?_
    show oS p e below T22 m 432 #[.val (.int 16), .val (.int p1), .val (.int p2), .val (.int p3)] [(.ref b2), (.ref b2), (.ref b1), (.ref b1)] _
    refine XS.bipush X22.here hx rfl (hb hby d2_432) ?_
    show oS p e below T22 m 434 #[.val (.int 16), .val (.int p1), .val (.int p2), .val (.int p3)] [(.int 10), (.ref b2), (.ref b2), (.ref b1), (.ref b1)] _
    refine XS.bipush X22.here hx rfl (hb hby d2_434) ?_
    show oS p e below T22 m 436 #[.val (.int 16), .val (.int p1), .val (.int p2), .val (.int p3)] [(.int 10), (.int 10), (.ref b2), (.ref b2), (.ref b1), (.ref b1)] _
    refine XS.iloadN X22.here hx rfl (hb hby d2_436) rfl ?_
    show oS p e below T22 m 437 #[.val (.int 16), .val (.int p1), .val (.int p2), .val (.int p3)] [(.int p1), (.int 10), (.int 10), (.ref b2), (.ref b2), (.ref b1), (.ref b1)] _
    refine XS.iloadN X22.here hx rfl (hb hby d2_437) rfl ?_
    show oS p e below T22 m 438 #[.val (.int 16), .val (.int p1), .val (.int p2), .val (.int p3)] [(.int p2), (.int p1), (.int 10), (.int 10), (.ref b2), (.ref b2), (.ref b1), (.ref b1)] _
    refine XS.iloadN X22.here hx rfl (hb hby d2_438) rfl ?_
    show oS p e below T22 m 439 #[.val (.int 16), .val (.int p1), .val (.int p2), .val (.int p3)] [(.int p3), (.int p2), (.int p1), (.int 10), (.int 10), (.ref b2), (.ref b2), (.ref b1), (.ref b1)] _
    refine st23 _ ?_
    show oS p e below T23 m 442 #[.val (.int 16), .val (.int p1), .val (.int p2), .val (.int p3)] [(.int (own_c 10 p1 p2 p3)), (.int 10), (.ref b2), (.ref b2), (.ref b1), (.ref b1)] _
    refine st24 _ ?_
    show oS p e below T24 m 443 #[.val (.int 16), .val (.int p1), .val (.int p2), .val (.int p3)] [(.ref b2), (.ref b1), (.ref b1)] _
    refine XS.dup X24.here hx rfl (hb hby d2_443) rfl rfl ?_
    show oS p e below T24 m 444 #[.val (.int 16), .val (.int p1), .val (.int p2), .val (.int p3)] [(.ref b2), (.ref b2), (.ref b1), (.ref b1)] _
    refine XS.bipush X24.here hx rfl (hb hby d2_444) ?_
    show oS p e below T24 m 446 #[.val (.int 16), .val (.int p1), .val (.int p2), .val (.int p3)] [(.int 11), (.ref b2), (.ref b2), (.ref b1), (.ref b1)] _
    refine XS.bipush X24.here hx rfl (hb hby d2_446) ?_
    show oS p e below T24 m 448 #[.val (.int 16), .val (.int p1), .val (.int p2), .val (.int p3)] [(.int 11), (.int 11), (.ref b2), (.ref b2), (.ref b1), (.ref b1)] _
    refine XS.iloadN X24.here hx rfl (hb hby d2_448) rfl ?_
    show oS p e below T24 m 449 #[.val (.int 16), .val (.int p1), .val (.int p2), .val (.int p3)] [(.int p1), (.int 11), (.int 11), (.ref b2), (.ref b2), (.ref b1), (.ref b1)] _
    refine XS.iloadN X24.here hx rfl (hb hby d2_449) rfl ?_
    show oS p e below T24 m 450 #[.val (.int 16), .val (.int p1), .val (.int p2), .val (.int p3)] [(.int p2), (.int p1), (.int 11), (.int 11), (.ref b2), (.ref b2), (.ref b1), (.ref b1)] _
    refine XS.iloadN X24.here hx rfl (hb hby d2_450) rfl ?_
    show oS p e below T24 m 451 #[.val (.int 16), .val (.int p1), .val (.int p2), .val (.int p3)] [(.int p3), (.int p2), (.int p1), (.int 11), (.int 11), (.ref b2), (.ref b2), (.ref b1), (.ref b1)] _
    refine st25 _ ?_
    show oS p e below T25 m 454 #[.val (.int 16), .val (.int p1), .val (.int p2), .val (.int p3)] [(.int (own_c 11 p1 p2 p3)), (.int 11), (.ref b2), (.ref b2), (.ref b1), (.ref b1)] _
    refine st26 _ ?_
    show oS p e below T26 m 455 #[.val (.int 16), .val (.int p1), .val (.int p2), .val (.int p3)] [(.ref b2), (.ref b1), (.ref b1)] _
    refine XS.dup X26.here hx rfl (hb hby d2_455) rfl rfl ?_
    show oS p e below T26 m 456 #[.val (.int 16), .val (.int p1), .val (.int p2), .val (.int p3)] [(.ref b2), (.ref b2), (.ref b1), (.ref b1)] _
    refine XS.bipush X26.here hx rfl (hb hby d2_456) ?_
    show oS p e below T26 m 458 #[.val (.int 16), .val (.int p1), .val (.int p2), .val (.int p3)] [(.int 12), (.ref b2), (.ref b2), (.ref b1), (.ref b1)] _
    refine XS.bipush X26.here hx rfl (hb hby d2_458) ?_
    show oS p e below T26 m 460 #[.val (.int 16), .val (.int p1), .val (.int p2), .val (.int p3)] [(.int 12), (.int 12), (.ref b2), (.ref b2), (.ref b1), (.ref b1)] _
    refine XS.iloadN X26.here hx rfl (hb hby d2_460) rfl ?_
    show oS p e below T26 m 461 #[.val (.int 16), .val (.int p1), .val (.int p2), .val (.int p3)] [(.int p1), (.int 12), (.int 12), (.ref b2), (.ref b2), (.ref b1), (.ref b1)] _
    refine XS.iloadN X26.here hx rfl (hb hby d2_461) rfl ?_
    show oS p e below T26 m 462 #[.val (.int 16), .val (.int p1), .val (.int p2), .val (.int p3)] [(.int p2), (.int p1), (.int 12), (.int 12), (.ref b2), (.ref b2), (.ref b1), (.ref b1)] _
    refine XS.iloadN X26.here hx rfl (hb hby d2_462) rfl ?_
    show oS p e below T26 m 463 #[.val (.int 16), .val (.int p1), .val (.int p2), .val (.int p3)] [(.int p3), (.int p2), (.int p1), (.int 12), (.int 12), (.ref b2), (.ref b2), (.ref b1), (.ref b1)] _
    refine st27 _ ?_
    show oS p e below T27 m 466 #[.val (.int 16), .val (.int p1), .val (.int p2), .val (.int p3)] [(.int (own_c 12 p1 p2 p3)), (.int 12), (.ref b2), (.ref b2), (.ref b1), (.ref b1)] _
    refine st28 _ ?_
    show oS p e below T28 m 467 #[.val (.int 16), .val (.int p1), .val (.int p2), .val (.int p3)] [(.ref b2), (.ref b1), (.ref b1)] _
    refine XS.dup X28.here hx rfl (hb hby d2_467) rfl rfl ?_
    show oS p e below T28 m 468 #[.val (.int 16), .val (.int p1), .val (.int p2), .val (.int p3)] [(.ref b2), (.ref b2), (.ref b1), (.ref b1)] _
    refine XS.bipush X28.here hx rfl (hb hby d2_468) ?_
    show oS p e below T28 m 470 #[.val (.int 16), .val (.int p1), .val (.int p2), .val (.int p3)] [(.int 13), (.ref b2), (.ref b2), (.ref b1), (.ref b1)] _
    refine XS.bipush X28.here hx rfl (hb hby d2_470) ?_
    show oS p e below T28 m 472 #[.val (.int 16), .val (.int p1), .val (.int p2), .val (.int p3)] [(.int 13), (.int 13), (.ref b2), (.ref b2), (.ref b1), (.ref b1)] _
    refine XS.iloadN X28.here hx rfl (hb hby d2_472) rfl ?_
    show oS p e below T28 m 473 #[.val (.int 16), .val (.int p1), .val (.int p2), .val (.int p3)] [(.int p1), (.int 13), (.int 13), (.ref b2), (.ref b2), (.ref b1), (.ref b1)] _
    refine XS.iloadN X28.here hx rfl (hb hby d2_473) rfl ?_
    show oS p e below T28 m 474 #[.val (.int 16), .val (.int p1), .val (.int p2), .val (.int p3)] [(.int p2), (.int p1), (.int 13), (.int 13), (.ref b2), (.ref b2), (.ref b1), (.ref b1)] _
    refine XS.iloadN X28.here hx rfl (hb hby d2_474) rfl ?_
    show oS p e below T28 m 475 #[.val (.int 16), .val (.int p1), .val (.int p2), .val (.int p3)] [(.int p3), (.int p2), (.int p1), (.int 13), (.int 13), (.ref b2), (.ref b2), (.ref b1), (.ref b1)] _
    refine st29 _ ?_
    show oS p e below T29 m 478 #[.val (.int 16), .val (.int p1), .val (.int p2), .val (.int p3)] [(.int (own_c 13 p1 p2 p3)), (.int 13), (.ref b2), (.ref b2), (.ref b1), (.ref b1)] _
    refine st30 _ ?_
    show oS p e below T30 m 479 #[.val (.int 16), .val (.int p1), .val (.int p2), .val (.int p3)] [(.ref b2), (.ref b1), (.ref b1)] _
    refine XS.dup X30.here hx rfl (hb hby d2_479) rfl rfl ?_
    show oS p e below T30 m 480 #[.val (.int 16), .val (.int p1), .val (.int p2), .val (.int p3)] [(.ref b2), (.ref b2), (.ref b1), (.ref b1)] _
    refine XS.bipush X30.here hx rfl (hb hby d2_480) ?_
    show oS p e below T30 m 482 #[.val (.int 16), .val (.int p1), .val (.int p2), .val (.int p3)] [(.int 14), (.ref b2), (.ref b2), (.ref b1), (.ref b1)] _
    refine XS.bipush X30.here hx rfl (hb hby d2_482) ?_
    show oS p e below T30 m 484 #[.val (.int 16), .val (.int p1), .val (.int p2), .val (.int p3)] [(.int 14), (.int 14), (.ref b2), (.ref b2), (.ref b1), (.ref b1)] _
    refine XS.iloadN X30.here hx rfl (hb hby d2_484) rfl ?_
    show oS p e below T30 m 485 #[.val (.int 16), .val (.int p1), .val (.int p2), .val (.int p3)] [(.int p1), (.int 14), (.int 14), (.ref b2), (.ref b2), (.ref b1), (.ref b1)] _
    refine XS.iloadN X30.here hx rfl (hb hby d2_485) rfl ?_
    show oS p e below T30 m 486 #[.val (.int 16), .val (.int p1), .val (.int p2), .val (.int p3)] [(.int p2), (.int p1), (.int 14), (.int 14), (.ref b2), (.ref b2), (.ref b1), (.ref b1)] _
    refine XS.iloadN X30.here hx rfl (hb hby d2_486) rfl ?_
    show oS p e below T30 m 487 #[.val (.int 16), .val (.int p1), .val (.int p2), .val (.int p3)] [(.int p3), (.int p2), (.int p1), (.int 14), (.int 14), (.ref b2), (.ref b2), (.ref b1), (.ref b1)] _
    refine st31 _ ?_
    show oS p e below T31 m 490 #[.val (.int 16), .val (.int p1), .val (.int p2), .val (.int p3)] [(.int (own_c 14 p1 p2 p3)), (.int 14), (.ref b2), (.ref b2), (.ref b1), (.ref b1)] _
    refine st32 _ ?_
    show oS p e below T32 m 491 #[.val (.int 16), .val (.int p1), .val (.int p2), .val (.int p3)] [(.ref b2), (.ref b1), (.ref b1)] _
    refine XS.dup X32.here hx rfl (hb hby d2_491) rfl rfl ?_
    show oS p e below T32 m 492 #[.val (.int 16), .val (.int p1), .val (.int p2), .val (.int p3)] [(.ref b2), (.ref b2), (.ref b1), (.ref b1)] _
    refine XS.bipush X32.here hx rfl (hb hby d2_492) ?_
    show oS p e below T32 m 494 #[.val (.int 16), .val (.int p1), .val (.int p2), .val (.int p3)] [(.int 15), (.ref b2), (.ref b2), (.ref b1), (.ref b1)] _
    refine XS.bipush X32.here hx rfl (hb hby d2_494) ?_
    show oS p e below T32 m 496 #[.val (.int 16), .val (.int p1), .val (.int p2), .val (.int p3)] [(.int 15), (.int 15), (.ref b2), (.ref b2), (.ref b1), (.ref b1)] _
    refine XS.iloadN X32.here hx rfl (hb hby d2_496) rfl ?_
    show oS p e below T32 m 497 #[.val (.int 16), .val (.int p1), .val (.int p2), .val (.int p3)] [(.int p1), (.int 15), (.int 15), (.ref b2), (.ref b2), (.ref b1), (.ref b1)] _
    refine XS.iloadN X32.here hx rfl (hb hby d2_497) rfl ?_
    show oS p e below T32 m 498 #[.val (.int 16), .val (.int p1), .val (.int p2), .val (.int p3)] [(.int p2), (.int p1), (.int 15), (.int 15), (.ref b2), (.ref b2), (.ref b1), (.ref b1)] _
    refine XS.iloadN X32.here hx rfl (hb hby d2_498) rfl ?_
    show oS p e below T32 m 499 #[.val (.int 16), .val (.int p1), .val (.int p2), .val (.int p3)] [(.int p3), (.int p2), (.int p1), (.int 15), (.int 15), (.ref b2), (.ref b2), (.ref b1), (.ref b1)] _
    refine st33 _ ?_
    show oS p e below T33 m 502 #[.val (.int 16), .val (.int p1), .val (.int p2), .val (.int p3)] [(.int (own_c 15 p1 p2 p3)), (.int 15), (.ref b2), (.ref b2), (.ref b1), (.ref b1)] _
    refine st34 _ ?_
    show oS p e below T34 m 503 #[.val (.int 16), .val (.int p1), .val (.int p2), .val (.int p3)] [(.ref b2), (.ref b1), (.ref b1)] _
    refine st35.trans ?_
    show Steps p.tables e below (T35.setTop (mkF m 506 #[.val (.int 16), .val (.int p1), .val (.int p2), .val (.int p3)] [(.ref b1)])) _
    jvm_step Xx35.here [Xx35.here.top, hx, (hb hby d2_506), Xx35.method', Bd.returns, Value.isRef, FieldType.isReference]
    first | (intro acts; rw [hr _ acts rfl rfl rfl]) | rw [hr _ _ rfl rfl rfl]
    exact Steps.refl _
  · show own_QM Z ([own_d 0 p1 p2 p3, own_d 1 p1 p2 p3, own_d 2 p1 p2 p3, own_d 3 p1 p2 p3, own_d 4 p1 p2 p3, own_d 5 p1 p2 p3, own_d 6 p1 p2 p3, own_d 7 p1 p2 p3, own_d 8 p1 p2 p3, own_d 9 p1 p2 p3, own_d 10 p1 p2 p3, own_d 11 p1 p2 p3, own_d 12 p1 p2 p3, own_d 13 p1 p2 p3, own_d 14 p1 p2 p3, own_d 15 p1 p2 p3] : List Int32) h0 n0 _ T35.heap _
    exact ⟨b1, t35, kt35, rfl, Nx35, ((((((((((((((((((((Keep.refl h0 []).ext E1).ext E2).wr W4 (Or.inr (Nat.le_trans E1.1 (Nat.le_of_eq g2.symm)))).wr W6 (Or.inr (Nat.le_trans E1.1 (Nat.le_of_eq g2.symm)))).wr W8 (Or.inr (Nat.le_trans E1.1 (Nat.le_of_eq g2.symm)))).wr W10 (Or.inr (Nat.le_trans E1.1 (Nat.le_of_eq g2.symm)))).wr W12 (Or.inr (Nat.le_trans E1.1 (Nat.le_of_eq g2.symm)))).wr W14 (Or.inr (Nat.le_trans E1.1 (Nat.le_of_eq g2.symm)))).wr W16 (Or.inr (Nat.le_trans E1.1 (Nat.le_of_eq g2.symm)))).wr W18 (Or.inr (Nat.le_trans E1.1 (Nat.le_of_eq g2.symm)))).wr W20 (Or.inr (Nat.le_trans E1.1 (Nat.le_of_eq g2.symm)))).wr W22 (Or.inr (Nat.le_trans E1.1 (Nat.le_of_eq g2.symm)))).wr W24 (Or.inr (Nat.le_trans E1.1 (Nat.le_of_eq g2.symm)))).wr W26 (Or.inr (Nat.le_trans E1.1 (Nat.le_of_eq g2.symm)))).wr W28 (Or.inr (Nat.le_trans E1.1 (Nat.le_of_eq g2.symm)))).wr W30 (Or.inr (Nat.le_trans E1.1 (Nat.le_of_eq g2.symm)))).wr W32 (Or.inr (Nat.le_trans E1.1 (Nat.le_of_eq g2.symm)))).wr W34 (Or.inr (Nat.le_trans E1.1 (Nat.le_of_eq g2.symm)))).trans K35 (allS (Or.inr (Nat.le_of_eq g1.symm)) all0)), Ex35, Fv35, Fc35, Vt35⟩
theorem d2_507 : decode method_4_code 507 = .ok (.new 7, 3) := by decide +kernel
theorem d2_510 : decode method_4_code 510 = .ok (.dup, 1) := by decide +kernel
theorem d2_511 : decode method_4_code 511 = .ok (.bipush 17, 2) := by decide +kernel
theorem d2_513 : decode method_4_code 513 = .ok (.newarray .char, 2) := by decide +kernel
theorem d2_515 : decode method_4_code 515 = .ok (.dup, 1) := by decide +kernel
theorem d2_516 : decode method_4_code 516 = .ok (.iconst 0, 1) := by decide +kernel
theorem d2_517 : decode method_4_code 517 = .ok (.iconst 0, 1) := by decide +kernel
theorem d2_518 : decode method_4_code 518 = .ok (.iload_n 1, 1) := by decide +kernel
theorem d2_519 : decode method_4_code 519 = .ok (.iload_n 2, 1) := by decide +kernel
theorem d2_520 : decode method_4_code 520 = .ok (.iload_n 3, 1) := by decide +kernel
theorem d2_521 : decode method_4_code 521 = .ok (.invokestatic 12, 3) := by decide +kernel
theorem d2_524 : decode method_4_code 524 = .ok (.castore, 1) := by decide +kernel
theorem d2_525 : decode method_4_code 525 = .ok (.dup, 1) := by decide +kernel
theorem d2_526 : decode method_4_code 526 = .ok (.iconst 1, 1) := by decide +kernel
theorem d2_527 : decode method_4_code 527 = .ok (.iconst 1, 1) := by decide +kernel
theorem d2_528 : decode method_4_code 528 = .ok (.iload_n 1, 1) := by decide +kernel
theorem d2_529 : decode method_4_code 529 = .ok (.iload_n 2, 1) := by decide +kernel
theorem d2_530 : decode method_4_code 530 = .ok (.iload_n 3, 1) := by decide +kernel
theorem d2_531 : decode method_4_code 531 = .ok (.invokestatic 12, 3) := by decide +kernel
theorem d2_534 : decode method_4_code 534 = .ok (.castore, 1) := by decide +kernel
theorem d2_535 : decode method_4_code 535 = .ok (.dup, 1) := by decide +kernel
theorem d2_536 : decode method_4_code 536 = .ok (.iconst 2, 1) := by decide +kernel
theorem d2_537 : decode method_4_code 537 = .ok (.iconst 2, 1) := by decide +kernel
theorem d2_538 : decode method_4_code 538 = .ok (.iload_n 1, 1) := by decide +kernel
theorem d2_539 : decode method_4_code 539 = .ok (.iload_n 2, 1) := by decide +kernel
theorem d2_540 : decode method_4_code 540 = .ok (.iload_n 3, 1) := by decide +kernel
theorem d2_541 : decode method_4_code 541 = .ok (.invokestatic 12, 3) := by decide +kernel
theorem d2_544 : decode method_4_code 544 = .ok (.castore, 1) := by decide +kernel
theorem d2_545 : decode method_4_code 545 = .ok (.dup, 1) := by decide +kernel
theorem d2_546 : decode method_4_code 546 = .ok (.iconst 3, 1) := by decide +kernel
theorem d2_547 : decode method_4_code 547 = .ok (.iconst 3, 1) := by decide +kernel
theorem d2_548 : decode method_4_code 548 = .ok (.iload_n 1, 1) := by decide +kernel
theorem d2_549 : decode method_4_code 549 = .ok (.iload_n 2, 1) := by decide +kernel
theorem d2_550 : decode method_4_code 550 = .ok (.iload_n 3, 1) := by decide +kernel
theorem d2_551 : decode method_4_code 551 = .ok (.invokestatic 12, 3) := by decide +kernel
theorem d2_554 : decode method_4_code 554 = .ok (.castore, 1) := by decide +kernel
theorem d2_555 : decode method_4_code 555 = .ok (.dup, 1) := by decide +kernel
theorem d2_556 : decode method_4_code 556 = .ok (.iconst 4, 1) := by decide +kernel
theorem d2_557 : decode method_4_code 557 = .ok (.iconst 4, 1) := by decide +kernel
theorem d2_558 : decode method_4_code 558 = .ok (.iload_n 1, 1) := by decide +kernel
theorem d2_559 : decode method_4_code 559 = .ok (.iload_n 2, 1) := by decide +kernel
theorem d2_560 : decode method_4_code 560 = .ok (.iload_n 3, 1) := by decide +kernel
theorem d2_561 : decode method_4_code 561 = .ok (.invokestatic 12, 3) := by decide +kernel
theorem d2_564 : decode method_4_code 564 = .ok (.castore, 1) := by decide +kernel
theorem d2_565 : decode method_4_code 565 = .ok (.dup, 1) := by decide +kernel
theorem d2_566 : decode method_4_code 566 = .ok (.iconst 5, 1) := by decide +kernel
theorem d2_567 : decode method_4_code 567 = .ok (.iconst 5, 1) := by decide +kernel
theorem d2_568 : decode method_4_code 568 = .ok (.iload_n 1, 1) := by decide +kernel
theorem d2_569 : decode method_4_code 569 = .ok (.iload_n 2, 1) := by decide +kernel
theorem d2_570 : decode method_4_code 570 = .ok (.iload_n 3, 1) := by decide +kernel
theorem d2_571 : decode method_4_code 571 = .ok (.invokestatic 12, 3) := by decide +kernel
theorem d2_574 : decode method_4_code 574 = .ok (.castore, 1) := by decide +kernel
theorem d2_575 : decode method_4_code 575 = .ok (.dup, 1) := by decide +kernel
theorem d2_576 : decode method_4_code 576 = .ok (.bipush 6, 2) := by decide +kernel
theorem d2_578 : decode method_4_code 578 = .ok (.bipush 6, 2) := by decide +kernel
theorem d2_580 : decode method_4_code 580 = .ok (.iload_n 1, 1) := by decide +kernel
theorem d2_581 : decode method_4_code 581 = .ok (.iload_n 2, 1) := by decide +kernel
theorem d2_582 : decode method_4_code 582 = .ok (.iload_n 3, 1) := by decide +kernel
theorem d2_583 : decode method_4_code 583 = .ok (.invokestatic 12, 3) := by decide +kernel
theorem d2_586 : decode method_4_code 586 = .ok (.castore, 1) := by decide +kernel
theorem d2_587 : decode method_4_code 587 = .ok (.dup, 1) := by decide +kernel
theorem d2_588 : decode method_4_code 588 = .ok (.bipush 7, 2) := by decide +kernel
theorem d2_590 : decode method_4_code 590 = .ok (.bipush 7, 2) := by decide +kernel
theorem d2_592 : decode method_4_code 592 = .ok (.iload_n 1, 1) := by decide +kernel
theorem d2_593 : decode method_4_code 593 = .ok (.iload_n 2, 1) := by decide +kernel
theorem d2_594 : decode method_4_code 594 = .ok (.iload_n 3, 1) := by decide +kernel
theorem d2_595 : decode method_4_code 595 = .ok (.invokestatic 12, 3) := by decide +kernel
theorem d2_598 : decode method_4_code 598 = .ok (.castore, 1) := by decide +kernel
theorem d2_599 : decode method_4_code 599 = .ok (.dup, 1) := by decide +kernel
theorem d2_600 : decode method_4_code 600 = .ok (.bipush 8, 2) := by decide +kernel
theorem d2_602 : decode method_4_code 602 = .ok (.bipush 8, 2) := by decide +kernel
theorem d2_604 : decode method_4_code 604 = .ok (.iload_n 1, 1) := by decide +kernel
theorem d2_605 : decode method_4_code 605 = .ok (.iload_n 2, 1) := by decide +kernel
theorem d2_606 : decode method_4_code 606 = .ok (.iload_n 3, 1) := by decide +kernel
theorem d2_607 : decode method_4_code 607 = .ok (.invokestatic 12, 3) := by decide +kernel
theorem d2_610 : decode method_4_code 610 = .ok (.castore, 1) := by decide +kernel
theorem d2_611 : decode method_4_code 611 = .ok (.dup, 1) := by decide +kernel
theorem d2_612 : decode method_4_code 612 = .ok (.bipush 9, 2) := by decide +kernel
theorem d2_614 : decode method_4_code 614 = .ok (.bipush 9, 2) := by decide +kernel
theorem d2_616 : decode method_4_code 616 = .ok (.iload_n 1, 1) := by decide +kernel
theorem d2_617 : decode method_4_code 617 = .ok (.iload_n 2, 1) := by decide +kernel
theorem d2_618 : decode method_4_code 618 = .ok (.iload_n 3, 1) := by decide +kernel
theorem d2_619 : decode method_4_code 619 = .ok (.invokestatic 12, 3) := by decide +kernel
theorem d2_622 : decode method_4_code 622 = .ok (.castore, 1) := by decide +kernel
theorem d2_623 : decode method_4_code 623 = .ok (.dup, 1) := by decide +kernel
theorem d2_624 : decode method_4_code 624 = .ok (.bipush 10, 2) := by decide +kernel
theorem d2_626 : decode method_4_code 626 = .ok (.bipush 10, 2) := by decide +kernel
theorem d2_628 : decode method_4_code 628 = .ok (.iload_n 1, 1) := by decide +kernel
theorem d2_629 : decode method_4_code 629 = .ok (.iload_n 2, 1) := by decide +kernel
theorem d2_630 : decode method_4_code 630 = .ok (.iload_n 3, 1) := by decide +kernel
theorem d2_631 : decode method_4_code 631 = .ok (.invokestatic 12, 3) := by decide +kernel
theorem d2_634 : decode method_4_code 634 = .ok (.castore, 1) := by decide +kernel
theorem d2_635 : decode method_4_code 635 = .ok (.dup, 1) := by decide +kernel
theorem d2_636 : decode method_4_code 636 = .ok (.bipush 11, 2) := by decide +kernel
theorem d2_638 : decode method_4_code 638 = .ok (.bipush 11, 2) := by decide +kernel
theorem d2_640 : decode method_4_code 640 = .ok (.iload_n 1, 1) := by decide +kernel
theorem d2_641 : decode method_4_code 641 = .ok (.iload_n 2, 1) := by decide +kernel
theorem d2_642 : decode method_4_code 642 = .ok (.iload_n 3, 1) := by decide +kernel
theorem d2_643 : decode method_4_code 643 = .ok (.invokestatic 12, 3) := by decide +kernel
theorem d2_646 : decode method_4_code 646 = .ok (.castore, 1) := by decide +kernel
theorem d2_647 : decode method_4_code 647 = .ok (.dup, 1) := by decide +kernel
theorem d2_648 : decode method_4_code 648 = .ok (.bipush 12, 2) := by decide +kernel
theorem d2_650 : decode method_4_code 650 = .ok (.bipush 12, 2) := by decide +kernel
theorem d2_652 : decode method_4_code 652 = .ok (.iload_n 1, 1) := by decide +kernel
theorem d2_653 : decode method_4_code 653 = .ok (.iload_n 2, 1) := by decide +kernel
theorem d2_654 : decode method_4_code 654 = .ok (.iload_n 3, 1) := by decide +kernel
theorem d2_655 : decode method_4_code 655 = .ok (.invokestatic 12, 3) := by decide +kernel
theorem d2_658 : decode method_4_code 658 = .ok (.castore, 1) := by decide +kernel
theorem d2_659 : decode method_4_code 659 = .ok (.dup, 1) := by decide +kernel
theorem d2_660 : decode method_4_code 660 = .ok (.bipush 13, 2) := by decide +kernel
theorem d2_662 : decode method_4_code 662 = .ok (.bipush 13, 2) := by decide +kernel
theorem d2_664 : decode method_4_code 664 = .ok (.iload_n 1, 1) := by decide +kernel
theorem d2_665 : decode method_4_code 665 = .ok (.iload_n 2, 1) := by decide +kernel
theorem d2_666 : decode method_4_code 666 = .ok (.iload_n 3, 1) := by decide +kernel
theorem d2_667 : decode method_4_code 667 = .ok (.invokestatic 12, 3) := by decide +kernel
theorem d2_670 : decode method_4_code 670 = .ok (.castore, 1) := by decide +kernel
theorem d2_671 : decode method_4_code 671 = .ok (.dup, 1) := by decide +kernel
theorem d2_672 : decode method_4_code 672 = .ok (.bipush 14, 2) := by decide +kernel
theorem d2_674 : decode method_4_code 674 = .ok (.bipush 14, 2) := by decide +kernel
theorem d2_676 : decode method_4_code 676 = .ok (.iload_n 1, 1) := by decide +kernel
theorem d2_677 : decode method_4_code 677 = .ok (.iload_n 2, 1) := by decide +kernel
theorem d2_678 : decode method_4_code 678 = .ok (.iload_n 3, 1) := by decide +kernel
theorem d2_679 : decode method_4_code 679 = .ok (.invokestatic 12, 3) := by decide +kernel
theorem d2_682 : decode method_4_code 682 = .ok (.castore, 1) := by decide +kernel
theorem d2_683 : decode method_4_code 683 = .ok (.dup, 1) := by decide +kernel
theorem d2_684 : decode method_4_code 684 = .ok (.bipush 15, 2) := by decide +kernel
theorem d2_686 : decode method_4_code 686 = .ok (.bipush 15, 2) := by decide +kernel
theorem d2_688 : decode method_4_code 688 = .ok (.iload_n 1, 1) := by decide +kernel
theorem d2_689 : decode method_4_code 689 = .ok (.iload_n 2, 1) := by decide +kernel
theorem d2_690 : decode method_4_code 690 = .ok (.iload_n 3, 1) := by decide +kernel
theorem d2_691 : decode method_4_code 691 = .ok (.invokestatic 12, 3) := by decide +kernel
theorem d2_694 : decode method_4_code 694 = .ok (.castore, 1) := by decide +kernel
theorem d2_695 : decode method_4_code 695 = .ok (.dup, 1) := by decide +kernel
theorem d2_696 : decode method_4_code 696 = .ok (.bipush 16, 2) := by decide +kernel
theorem d2_698 : decode method_4_code 698 = .ok (.bipush 16, 2) := by decide +kernel
theorem d2_700 : decode method_4_code 700 = .ok (.iload_n 1, 1) := by decide +kernel
theorem d2_701 : decode method_4_code 701 = .ok (.iload_n 2, 1) := by decide +kernel
theorem d2_702 : decode method_4_code 702 = .ok (.iload_n 3, 1) := by decide +kernel
theorem d2_703 : decode method_4_code 703 = .ok (.invokestatic 12, 3) := by decide +kernel
theorem d2_706 : decode method_4_code 706 = .ok (.castore, 1) := by decide +kernel
theorem d2_707 : decode method_4_code 707 = .ok (.invokespecial 9, 3) := by decide +kernel
theorem d2_710 : decode method_4_code 710 = .ok (.areturn, 1) := by decide +kernel
set_option maxRecDepth 65536 in
set_option maxHeartbeats 40000000 in
theorem rmM17 (l : Launch) (Z : State) (a0 : Array Value) (hw : ∀ d ∈ tables_1, d.before a0 Z = true) (ws : List Jvm.Cond) (p1 : Int32) (p2 : Int32) (p3 : Int32) (zc : Int32) (h0 : Heap) (n0 : Nat) (O0 : Old Z n0 h0) (S_COMPACT_STRINGS : Sta Z Z.heap "java/lang/String" "COMPACT_STRINGS" "Z" (.int zc)) (hzc : ¬ zc = 0) (hp : ∀ c ∈ ([own_d 0 p1 p2 p3, own_d 1 p1 p2 p3, own_d 2 p1 p2 p3, own_d 3 p1 p2 p3, own_d 4 p1 p2 p3, own_d 5 p1 p2 p3, own_d 6 p1 p2 p3, own_d 7 p1 p2 p3, own_d 8 p1 p2 p3, own_d 9 p1 p2 p3, own_d 10 p1 p2 p3, own_d 11 p1 p2 p3, own_d 12 p1 p2 p3, own_d 13 p1 p2 p3, own_d 14 p1 p2 p3, own_d 15 p1 p2 p3, own_d 16 p1 p2 p3] : List Int32), ¬ c < 0 ∧ ¬ (255 : Int32) < c) :
    oM l Z (⟨"com/example/dispensd/dispensd/IdentifierIsValidPinLaw", "make", "(IICC)Ljava/lang/String;"⟩ : MethodName) method_4_code 4 (some (.object "java/lang/String")) ws ({ frames := 4, cells := 3, slots := 38, locals := 66 } : Room) #[(.int 17), (.int p1), (.int p2), (.int p3)] h0 (own_QM Z ([own_d 0 p1 p2 p3, own_d 1 p1 p2 p3, own_d 2 p1 p2 p3, own_d 3 p1 p2 p3, own_d 4 p1 p2 p3, own_d 5 p1 p2 p3, own_d 6 p1 p2 p3, own_d 7 p1 p2 p3, own_d 8 p1 p2 p3, own_d 9 p1 p2 p3, own_d 10 p1 p2 p3, own_d 11 p1 p2 p3, own_d 12 p1 p2 p3, own_d 13 p1 p2 p3, own_d 14 p1 p2 p3, own_d 15 p1 p2 p3, own_d 16 p1 p2 p3] : List Int32) h0 n0) := by
  refine MetFree.of_bodySF (plainFor_of_name pn_2) hisR ?_
  intro p e s m args below meth c s₁ Bd hml0 hP hK
  obtain ⟨rfl, hZ, hh⟩ := hP
  have hx := Bd.exec
  have hby := Bd.bytes
  have hml : c.maxLocals = 4 := hml0
  have hown : s.vm.findClass "com/example/dispensd/dispensd/IdentifierIsValidPinLaw" = some m.cls := findClass_of_methodNamed Bd.named
  have hnm := (name_of_methodNamed Bd.named Bd.method).1
  have X0 : Stand p l e ({ frames := 4, cells := 3, slots := 38, locals := 66 } : Room) s m #[(.int 17), (.int p1), (.int p2), (.int p3)] below meth c s₁ [] 0 0 := Stand.of_body Bd
  have e0 : s₁.heap = h0 := by rw [← hh, Bd.state]; rfl
  have N0 := Fr.nil n0
  have pre0 : ∀ t, Steps p.tables e below (s₁.setTop (mkF m 0 #[.val (.int 17), .val (.int p1), .val (.int p2), .val (.int p3)] [])) t → Steps p.tables e below (s₁.setTop (entryFrame m #[(.int 17), (.int p1), (.int p2), (.int p3)] 4)) t := fun t k => castTop (ef_2 m (17 : Int32) p1 p2 p3) k
  obtain ⟨T1, h1, X1, e1, E1, A1, D1, U1, st1⟩ := newO X0 hx hZ hown (own_w hw 9 rfl) (own_w hw 10 rfl) (own_w hw 11 rfl) e0 (g := (mkF m 507 #[.val (.int 17), .val (.int p1), .val (.int p2), .val (.int p3)] [])) rfl (hb hby d2_507) (by decide) (by decide)
  obtain ⟨b1, g1⟩ : ∃ z, z = h0.size := ⟨_, rfl⟩
  rw [← g1] at A1 D1 U1 st1
  have Ut1 : Unt h1 b1 := U1
  have g_b1 : n0 ≤ b1 := Nat.le_trans (own_le O0) (Nat.le_of_eq g1.symm)
  have O1 := O0.ext E1
  have F_coder_b1 : Fld Z h1 b1 "java/lang/String" "coder" "B" (.int 0) := D1 (Or.inr (own_w hw 39 rfl)) (ty := .byte) (by decide)
  have F_value_b1 : Fld Z h1 b1 "java/lang/String" "value" "[B" .null := D1 (Or.inr (own_w hw 41 rfl)) (ty := (.array .byte)) (by decide)
  obtain ⟨T2, h2, k2, X2, e2, E2, A2, st2⟩ := newP X1 hx hZ (own_w hw 12 rfl) e1 (g := (mkF m 513 #[.val (.int 17), .val (.int p1), .val (.int p2), .val (.int p3)] [(.int 17), (.ref b1), (.ref b1)])) rfl (hb hby d2_513) rfl (by decide) (cap := 17) (by decide) (by decide) (by decide) (by decide)
  obtain ⟨b2, g2⟩ : ∃ z, z = h1.size := ⟨_, rfl⟩
  rw [← g2] at A2 st2
  have g_b2 : n0 ≤ b2 := Nat.le_trans (own_le O1) (Nat.le_of_eq g2.symm)
  have O2 := O1.ext E2
  have V_b2 : Arv Z h2 b2 k2 .char (17 : Int32) [(.int 0), (.int 0), (.int 0), (.int 0), (.int 0), (.int 0), (.int 0), (.int 0), (.int 0), (.int 0), (.int 0), (.int 0), (.int 0), (.int 0), (.int 0), (.int 0), (.int 0)] (.int 0) := (Arv.new A2 (by decide)).pad (pad_rep [] (.int 0) 17)
  obtain ⟨_, _, ⟨T3, L3, k3, n3⟩, -, X3, ⟨Lc3, hQ3, l3, y3, z3⟩, st3⟩ := Jvm.LawKit.callS X2 hx (y := (⟨"com/example/dispensd/dispensd/IdentifierIsValidPinLaw", "at", "(IICC)C"⟩ : MethodName)) hown (mvT hZ (own_w hw 13 rfl)) (mvT hZ (own_w hw 14 rfl)) (mvT hZ (own_w hw 7 rfl)) (mvT hZ (own_w hw 15 rfl)) (by decide) (backOf (W := 5) (rmAt l Z a0 hw [] (0 : Int32) p1 p2 p3  h2 n0 O2 ) hZ (own_w hw 15 rfl) (own_w hw 7 rfl) (by decide) (by decide)) (g := (mkF m 521 #[.val (.int 17), .val (.int p1), .val (.int p2), .val (.int p3)] [(.int p3), (.int p2), (.int p1), (.int 0), (.int 0), (.ref b2), (.ref b2), (.ref b1), (.ref b1)])) rfl (by rw [hml]; rfl) (argsL := [(.int 0), (.int p1), (.int p2), (.int p3)]) (rest := [(.int 0), (.ref b2), (.ref b2), (.ref b1), (.ref b1)]) (lenOf pd_6 rfl) rfl (by show 2 * 0 + _ ≤ _; exact Nat.le_of_eq rfl) (hb hby d2_521) (fun _ _ => ⟨rfl, e2, (by decide : 2 + 0 ≤ _), (by decide : 21 + 0 ≤ _)⟩)
  dsimp only [Pt.U, Pt.locs, Pt.cells, Pt.slots] at X3 l3 y3 z3 st3 hQ3
  subst l3 y3 z3
  obtain ⟨rfl, N3q, e3⟩ := hQ3
  have N3 := Fr.app N0 N3q
  obtain ⟨Lx3, Xx3, Nx3⟩ : ∃ L', Stand p l e _ s m _ below meth c T3 L' 2 21 ∧ Fr n0 L' := ⟨_, X3, N3⟩
  obtain ⟨cl4, Ar4, qa4, Sz4, Ng4, Hs4, Ft4⟩ := V_b2
  obtain ⟨T4, h4, X4, e4, W4, st4⟩ := stC Xx3 hx hZ e3 Ar4 (j := (0 : Int32)) (inb_of Sz4 ⟨by decide, by decide⟩) (g := (mkF m 524 #[.val (.int 17), .val (.int p1), .val (.int p2), .val (.int p3)] [(.int (own_c 0 p1 p2 p3)), (.int 0), (.ref b2), (.ref b2), (.ref b1), (.ref b1)])) rfl rfl (hb hby d2_524)
  have O4 := O2.wr W4 g_b2
  have N4 := Fr.snoc X4 Nx3 g_b2
  have V4 : Arv Z h4 b2 k2 .char (17 : Int32) [(.int (own_d 0 p1 p2 p3)), (.int 0), (.int 0), (.int 0), (.int 0), (.int 0), (.int 0), (.int 0), (.int 0), (.int 0), (.int 0), (.int 0), (.int 0), (.int 0), (.int 0), (.int 0), (.int 0)] (.int 0) := Arv.set Ar4 qa4 Sz4 Ng4 Hs4 Ft4 (fits_nar_char _) W4 0 rfl (Nat.le_of_ble_eq_true rfl)
  obtain ⟨_, _, ⟨T5, L5, k5, n5⟩, -, X5, ⟨Lc5, hQ5, l5, y5, z5⟩, st5⟩ := Jvm.LawKit.callS X4 hx (y := (⟨"com/example/dispensd/dispensd/IdentifierIsValidPinLaw", "at", "(IICC)C"⟩ : MethodName)) hown (mvT hZ (own_w hw 13 rfl)) (mvT hZ (own_w hw 14 rfl)) (mvT hZ (own_w hw 7 rfl)) (mvT hZ (own_w hw 15 rfl)) (by decide) (backOf (W := 5) (rmAt l Z a0 hw [] (1 : Int32) p1 p2 p3  h4 n0 O4 ) hZ (own_w hw 15 rfl) (own_w hw 7 rfl) (by decide) (by decide)) (g := (mkF m 531 #[.val (.int 17), .val (.int p1), .val (.int p2), .val (.int p3)] [(.int p3), (.int p2), (.int p1), (.int 1), (.int 1), (.ref b2), (.ref b2), (.ref b1), (.ref b1)])) rfl (by rw [hml]; rfl) (argsL := [(.int 1), (.int p1), (.int p2), (.int p3)]) (rest := [(.int 1), (.ref b2), (.ref b2), (.ref b1), (.ref b1)]) (lenOf pd_6 rfl) rfl (by show 2 * 0 + _ ≤ _; exact Nat.le_of_eq rfl) (hb hby d2_531) (fun _ _ => ⟨rfl, e4, (by decide : 2 + 0 ≤ _), (by decide : 21 + 0 ≤ _)⟩)
  dsimp only [Pt.U, Pt.locs, Pt.cells, Pt.slots] at X5 l5 y5 z5 st5 hQ5
  subst l5 y5 z5
  obtain ⟨rfl, N5q, e5⟩ := hQ5
  have N5 := Fr.app N4 N5q
  obtain ⟨Lx5, Xx5, Nx5⟩ : ∃ L', Stand p l e _ s m _ below meth c T5 L' 2 21 ∧ Fr n0 L' := ⟨_, X5, N5⟩
  obtain ⟨cl6, Ar6, qa6, Sz6, Ng6, Hs6, Ft6⟩ := V4
  obtain ⟨T6, h6, X6, e6, W6, st6⟩ := stC Xx5 hx hZ e5 Ar6 (j := (1 : Int32)) (inb_of Sz6 ⟨by decide, by decide⟩) (g := (mkF m 534 #[.val (.int 17), .val (.int p1), .val (.int p2), .val (.int p3)] [(.int (own_c 1 p1 p2 p3)), (.int 1), (.ref b2), (.ref b2), (.ref b1), (.ref b1)])) rfl rfl (hb hby d2_534)
  have O6 := O4.wr W6 g_b2
  have N6 := Fr.snoc X6 Nx5 g_b2
  have V6 : Arv Z h6 b2 k2 .char (17 : Int32) [(.int (own_d 0 p1 p2 p3)), (.int (own_d 1 p1 p2 p3)), (.int 0), (.int 0), (.int 0), (.int 0), (.int 0), (.int 0), (.int 0), (.int 0), (.int 0), (.int 0), (.int 0), (.int 0), (.int 0), (.int 0), (.int 0)] (.int 0) := Arv.set Ar6 qa6 Sz6 Ng6 Hs6 Ft6 (fits_nar_char _) W6 1 rfl (Nat.le_of_ble_eq_true rfl)
  obtain ⟨_, _, ⟨T7, L7, k7, n7⟩, -, X7, ⟨Lc7, hQ7, l7, y7, z7⟩, st7⟩ := Jvm.LawKit.callS X6 hx (y := (⟨"com/example/dispensd/dispensd/IdentifierIsValidPinLaw", "at", "(IICC)C"⟩ : MethodName)) hown (mvT hZ (own_w hw 13 rfl)) (mvT hZ (own_w hw 14 rfl)) (mvT hZ (own_w hw 7 rfl)) (mvT hZ (own_w hw 15 rfl)) (by decide) (backOf (W := 5) (rmAt l Z a0 hw [] (2 : Int32) p1 p2 p3  h6 n0 O6 ) hZ (own_w hw 15 rfl) (own_w hw 7 rfl) (by decide) (by decide)) (g := (mkF m 541 #[.val (.int 17), .val (.int p1), .val (.int p2), .val (.int p3)] [(.int p3), (.int p2), (.int p1), (.int 2), (.int 2), (.ref b2), (.ref b2), (.ref b1), (.ref b1)])) rfl (by rw [hml]; rfl) (argsL := [(.int 2), (.int p1), (.int p2), (.int p3)]) (rest := [(.int 2), (.ref b2), (.ref b2), (.ref b1), (.ref b1)]) (lenOf pd_6 rfl) rfl (by show 2 * 0 + _ ≤ _; exact Nat.le_of_eq rfl) (hb hby d2_541) (fun _ _ => ⟨rfl, e6, (by decide : 2 + 0 ≤ _), (by decide : 21 + 0 ≤ _)⟩)
  dsimp only [Pt.U, Pt.locs, Pt.cells, Pt.slots] at X7 l7 y7 z7 st7 hQ7
  subst l7 y7 z7
  obtain ⟨rfl, N7q, e7⟩ := hQ7
  have N7 := Fr.app N6 N7q
  obtain ⟨Lx7, Xx7, Nx7⟩ : ∃ L', Stand p l e _ s m _ below meth c T7 L' 2 21 ∧ Fr n0 L' := ⟨_, X7, N7⟩
  obtain ⟨cl8, Ar8, qa8, Sz8, Ng8, Hs8, Ft8⟩ := V6
  obtain ⟨T8, h8, X8, e8, W8, st8⟩ := stC Xx7 hx hZ e7 Ar8 (j := (2 : Int32)) (inb_of Sz8 ⟨by decide, by decide⟩) (g := (mkF m 544 #[.val (.int 17), .val (.int p1), .val (.int p2), .val (.int p3)] [(.int (own_c 2 p1 p2 p3)), (.int 2), (.ref b2), (.ref b2), (.ref b1), (.ref b1)])) rfl rfl (hb hby d2_544)
  have O8 := O6.wr W8 g_b2
  have N8 := Fr.snoc X8 Nx7 g_b2
  have V8 : Arv Z h8 b2 k2 .char (17 : Int32) [(.int (own_d 0 p1 p2 p3)), (.int (own_d 1 p1 p2 p3)), (.int (own_d 2 p1 p2 p3)), (.int 0), (.int 0), (.int 0), (.int 0), (.int 0), (.int 0), (.int 0), (.int 0), (.int 0), (.int 0), (.int 0), (.int 0), (.int 0), (.int 0)] (.int 0) := Arv.set Ar8 qa8 Sz8 Ng8 Hs8 Ft8 (fits_nar_char _) W8 2 rfl (Nat.le_of_ble_eq_true rfl)
  obtain ⟨_, _, ⟨T9, L9, k9, n9⟩, -, X9, ⟨Lc9, hQ9, l9, y9, z9⟩, st9⟩ := Jvm.LawKit.callS X8 hx (y := (⟨"com/example/dispensd/dispensd/IdentifierIsValidPinLaw", "at", "(IICC)C"⟩ : MethodName)) hown (mvT hZ (own_w hw 13 rfl)) (mvT hZ (own_w hw 14 rfl)) (mvT hZ (own_w hw 7 rfl)) (mvT hZ (own_w hw 15 rfl)) (by decide) (backOf (W := 5) (rmAt l Z a0 hw [] (3 : Int32) p1 p2 p3  h8 n0 O8 ) hZ (own_w hw 15 rfl) (own_w hw 7 rfl) (by decide) (by decide)) (g := (mkF m 551 #[.val (.int 17), .val (.int p1), .val (.int p2), .val (.int p3)] [(.int p3), (.int p2), (.int p1), (.int 3), (.int 3), (.ref b2), (.ref b2), (.ref b1), (.ref b1)])) rfl (by rw [hml]; rfl) (argsL := [(.int 3), (.int p1), (.int p2), (.int p3)]) (rest := [(.int 3), (.ref b2), (.ref b2), (.ref b1), (.ref b1)]) (lenOf pd_6 rfl) rfl (by show 2 * 0 + _ ≤ _; exact Nat.le_of_eq rfl) (hb hby d2_551) (fun _ _ => ⟨rfl, e8, (by decide : 2 + 0 ≤ _), (by decide : 21 + 0 ≤ _)⟩)
  dsimp only [Pt.U, Pt.locs, Pt.cells, Pt.slots] at X9 l9 y9 z9 st9 hQ9
  subst l9 y9 z9
  obtain ⟨rfl, N9q, e9⟩ := hQ9
  have N9 := Fr.app N8 N9q
  obtain ⟨Lx9, Xx9, Nx9⟩ : ∃ L', Stand p l e _ s m _ below meth c T9 L' 2 21 ∧ Fr n0 L' := ⟨_, X9, N9⟩
  obtain ⟨cl10, Ar10, qa10, Sz10, Ng10, Hs10, Ft10⟩ := V8
  obtain ⟨T10, h10, X10, e10, W10, st10⟩ := stC Xx9 hx hZ e9 Ar10 (j := (3 : Int32)) (inb_of Sz10 ⟨by decide, by decide⟩) (g := (mkF m 554 #[.val (.int 17), .val (.int p1), .val (.int p2), .val (.int p3)] [(.int (own_c 3 p1 p2 p3)), (.int 3), (.ref b2), (.ref b2), (.ref b1), (.ref b1)])) rfl rfl (hb hby d2_554)
  have O10 := O8.wr W10 g_b2
  have N10 := Fr.snoc X10 Nx9 g_b2
  have V10 : Arv Z h10 b2 k2 .char (17 : Int32) [(.int (own_d 0 p1 p2 p3)), (.int (own_d 1 p1 p2 p3)), (.int (own_d 2 p1 p2 p3)), (.int (own_d 3 p1 p2 p3)), (.int 0), (.int 0), (.int 0), (.int 0), (.int 0), (.int 0), (.int 0), (.int 0), (.int 0), (.int 0), (.int 0), (.int 0), (.int 0)] (.int 0) := Arv.set Ar10 qa10 Sz10 Ng10 Hs10 Ft10 (fits_nar_char _) W10 3 rfl (Nat.le_of_ble_eq_true rfl)
  obtain ⟨_, _, ⟨T11, L11, k11, n11⟩, -, X11, ⟨Lc11, hQ11, l11, y11, z11⟩, st11⟩ := Jvm.LawKit.callS X10 hx (y := (⟨"com/example/dispensd/dispensd/IdentifierIsValidPinLaw", "at", "(IICC)C"⟩ : MethodName)) hown (mvT hZ (own_w hw 13 rfl)) (mvT hZ (own_w hw 14 rfl)) (mvT hZ (own_w hw 7 rfl)) (mvT hZ (own_w hw 15 rfl)) (by decide) (backOf (W := 5) (rmAt l Z a0 hw [] (4 : Int32) p1 p2 p3  h10 n0 O10 ) hZ (own_w hw 15 rfl) (own_w hw 7 rfl) (by decide) (by decide)) (g := (mkF m 561 #[.val (.int 17), .val (.int p1), .val (.int p2), .val (.int p3)] [(.int p3), (.int p2), (.int p1), (.int 4), (.int 4), (.ref b2), (.ref b2), (.ref b1), (.ref b1)])) rfl (by rw [hml]; rfl) (argsL := [(.int 4), (.int p1), (.int p2), (.int p3)]) (rest := [(.int 4), (.ref b2), (.ref b2), (.ref b1), (.ref b1)]) (lenOf pd_6 rfl) rfl (by show 2 * 0 + _ ≤ _; exact Nat.le_of_eq rfl) (hb hby d2_561) (fun _ _ => ⟨rfl, e10, (by decide : 2 + 0 ≤ _), (by decide : 21 + 0 ≤ _)⟩)
  dsimp only [Pt.U, Pt.locs, Pt.cells, Pt.slots] at X11 l11 y11 z11 st11 hQ11
  subst l11 y11 z11
  obtain ⟨rfl, N11q, e11⟩ := hQ11
  have N11 := Fr.app N10 N11q
  obtain ⟨Lx11, Xx11, Nx11⟩ : ∃ L', Stand p l e _ s m _ below meth c T11 L' 2 21 ∧ Fr n0 L' := ⟨_, X11, N11⟩
  obtain ⟨cl12, Ar12, qa12, Sz12, Ng12, Hs12, Ft12⟩ := V10
  obtain ⟨T12, h12, X12, e12, W12, st12⟩ := stC Xx11 hx hZ e11 Ar12 (j := (4 : Int32)) (inb_of Sz12 ⟨by decide, by decide⟩) (g := (mkF m 564 #[.val (.int 17), .val (.int p1), .val (.int p2), .val (.int p3)] [(.int (own_c 4 p1 p2 p3)), (.int 4), (.ref b2), (.ref b2), (.ref b1), (.ref b1)])) rfl rfl (hb hby d2_564)
  have O12 := O10.wr W12 g_b2
  have N12 := Fr.snoc X12 Nx11 g_b2
  have V12 : Arv Z h12 b2 k2 .char (17 : Int32) [(.int (own_d 0 p1 p2 p3)), (.int (own_d 1 p1 p2 p3)), (.int (own_d 2 p1 p2 p3)), (.int (own_d 3 p1 p2 p3)), (.int (own_d 4 p1 p2 p3)), (.int 0), (.int 0), (.int 0), (.int 0), (.int 0), (.int 0), (.int 0), (.int 0), (.int 0), (.int 0), (.int 0), (.int 0)] (.int 0) := Arv.set Ar12 qa12 Sz12 Ng12 Hs12 Ft12 (fits_nar_char _) W12 4 rfl (Nat.le_of_ble_eq_true rfl)
  obtain ⟨_, _, ⟨T13, L13, k13, n13⟩, -, X13, ⟨Lc13, hQ13, l13, y13, z13⟩, st13⟩ := Jvm.LawKit.callS X12 hx (y := (⟨"com/example/dispensd/dispensd/IdentifierIsValidPinLaw", "at", "(IICC)C"⟩ : MethodName)) hown (mvT hZ (own_w hw 13 rfl)) (mvT hZ (own_w hw 14 rfl)) (mvT hZ (own_w hw 7 rfl)) (mvT hZ (own_w hw 15 rfl)) (by decide) (backOf (W := 5) (rmAt l Z a0 hw [] (5 : Int32) p1 p2 p3  h12 n0 O12 ) hZ (own_w hw 15 rfl) (own_w hw 7 rfl) (by decide) (by decide)) (g := (mkF m 571 #[.val (.int 17), .val (.int p1), .val (.int p2), .val (.int p3)] [(.int p3), (.int p2), (.int p1), (.int 5), (.int 5), (.ref b2), (.ref b2), (.ref b1), (.ref b1)])) rfl (by rw [hml]; rfl) (argsL := [(.int 5), (.int p1), (.int p2), (.int p3)]) (rest := [(.int 5), (.ref b2), (.ref b2), (.ref b1), (.ref b1)]) (lenOf pd_6 rfl) rfl (by show 2 * 0 + _ ≤ _; exact Nat.le_of_eq rfl) (hb hby d2_571) (fun _ _ => ⟨rfl, e12, (by decide : 2 + 0 ≤ _), (by decide : 21 + 0 ≤ _)⟩)
  dsimp only [Pt.U, Pt.locs, Pt.cells, Pt.slots] at X13 l13 y13 z13 st13 hQ13
  subst l13 y13 z13
  obtain ⟨rfl, N13q, e13⟩ := hQ13
  have N13 := Fr.app N12 N13q
  obtain ⟨Lx13, Xx13, Nx13⟩ : ∃ L', Stand p l e _ s m _ below meth c T13 L' 2 21 ∧ Fr n0 L' := ⟨_, X13, N13⟩
  obtain ⟨cl14, Ar14, qa14, Sz14, Ng14, Hs14, Ft14⟩ := V12
  obtain ⟨T14, h14, X14, e14, W14, st14⟩ := stC Xx13 hx hZ e13 Ar14 (j := (5 : Int32)) (inb_of Sz14 ⟨by decide, by decide⟩) (g := (mkF m 574 #[.val (.int 17), .val (.int p1), .val (.int p2), .val (.int p3)] [(.int (own_c 5 p1 p2 p3)), (.int 5), (.ref b2), (.ref b2), (.ref b1), (.ref b1)])) rfl rfl (hb hby d2_574)
  have O14 := O12.wr W14 g_b2
  have N14 := Fr.snoc X14 Nx13 g_b2
  have V14 : Arv Z h14 b2 k2 .char (17 : Int32) [(.int (own_d 0 p1 p2 p3)), (.int (own_d 1 p1 p2 p3)), (.int (own_d 2 p1 p2 p3)), (.int (own_d 3 p1 p2 p3)), (.int (own_d 4 p1 p2 p3)), (.int (own_d 5 p1 p2 p3)), (.int 0), (.int 0), (.int 0), (.int 0), (.int 0), (.int 0), (.int 0), (.int 0), (.int 0), (.int 0), (.int 0)] (.int 0) := Arv.set Ar14 qa14 Sz14 Ng14 Hs14 Ft14 (fits_nar_char _) W14 5 rfl (Nat.le_of_ble_eq_true rfl)
  obtain ⟨_, _, ⟨T15, L15, k15, n15⟩, -, X15, ⟨Lc15, hQ15, l15, y15, z15⟩, st15⟩ := Jvm.LawKit.callS X14 hx (y := (⟨"com/example/dispensd/dispensd/IdentifierIsValidPinLaw", "at", "(IICC)C"⟩ : MethodName)) hown (mvT hZ (own_w hw 13 rfl)) (mvT hZ (own_w hw 14 rfl)) (mvT hZ (own_w hw 7 rfl)) (mvT hZ (own_w hw 15 rfl)) (by decide) (backOf (W := 5) (rmAt l Z a0 hw [] (6 : Int32) p1 p2 p3  h14 n0 O14 ) hZ (own_w hw 15 rfl) (own_w hw 7 rfl) (by decide) (by decide)) (g := (mkF m 583 #[.val (.int 17), .val (.int p1), .val (.int p2), .val (.int p3)] [(.int p3), (.int p2), (.int p1), (.int 6), (.int 6), (.ref b2), (.ref b2), (.ref b1), (.ref b1)])) rfl (by rw [hml]; rfl) (argsL := [(.int 6), (.int p1), (.int p2), (.int p3)]) (rest := [(.int 6), (.ref b2), (.ref b2), (.ref b1), (.ref b1)]) (lenOf pd_6 rfl) rfl (by show 2 * 0 + _ ≤ _; exact Nat.le_of_eq rfl) (hb hby d2_583) (fun _ _ => ⟨rfl, e14, (by decide : 2 + 0 ≤ _), (by decide : 21 + 0 ≤ _)⟩)
  dsimp only [Pt.U, Pt.locs, Pt.cells, Pt.slots] at X15 l15 y15 z15 st15 hQ15
  subst l15 y15 z15
  obtain ⟨rfl, N15q, e15⟩ := hQ15
  have N15 := Fr.app N14 N15q
  obtain ⟨Lx15, Xx15, Nx15⟩ : ∃ L', Stand p l e _ s m _ below meth c T15 L' 2 21 ∧ Fr n0 L' := ⟨_, X15, N15⟩
  obtain ⟨cl16, Ar16, qa16, Sz16, Ng16, Hs16, Ft16⟩ := V14
  obtain ⟨T16, h16, X16, e16, W16, st16⟩ := stC Xx15 hx hZ e15 Ar16 (j := (6 : Int32)) (inb_of Sz16 ⟨by decide, by decide⟩) (g := (mkF m 586 #[.val (.int 17), .val (.int p1), .val (.int p2), .val (.int p3)] [(.int (own_c 6 p1 p2 p3)), (.int 6), (.ref b2), (.ref b2), (.ref b1), (.ref b1)])) rfl rfl (hb hby d2_586)
  have O16 := O14.wr W16 g_b2
  have N16 := Fr.snoc X16 Nx15 g_b2
  have V16 : Arv Z h16 b2 k2 .char (17 : Int32) [(.int (own_d 0 p1 p2 p3)), (.int (own_d 1 p1 p2 p3)), (.int (own_d 2 p1 p2 p3)), (.int (own_d 3 p1 p2 p3)), (.int (own_d 4 p1 p2 p3)), (.int (own_d 5 p1 p2 p3)), (.int (own_d 6 p1 p2 p3)), (.int 0), (.int 0), (.int 0), (.int 0), (.int 0), (.int 0), (.int 0), (.int 0), (.int 0), (.int 0)] (.int 0) := Arv.set Ar16 qa16 Sz16 Ng16 Hs16 Ft16 (fits_nar_char _) W16 6 rfl (Nat.le_of_ble_eq_true rfl)
  obtain ⟨_, _, ⟨T17, L17, k17, n17⟩, -, X17, ⟨Lc17, hQ17, l17, y17, z17⟩, st17⟩ := Jvm.LawKit.callS X16 hx (y := (⟨"com/example/dispensd/dispensd/IdentifierIsValidPinLaw", "at", "(IICC)C"⟩ : MethodName)) hown (mvT hZ (own_w hw 13 rfl)) (mvT hZ (own_w hw 14 rfl)) (mvT hZ (own_w hw 7 rfl)) (mvT hZ (own_w hw 15 rfl)) (by decide) (backOf (W := 5) (rmAt l Z a0 hw [] (7 : Int32) p1 p2 p3  h16 n0 O16 ) hZ (own_w hw 15 rfl) (own_w hw 7 rfl) (by decide) (by decide)) (g := (mkF m 595 #[.val (.int 17), .val (.int p1), .val (.int p2), .val (.int p3)] [(.int p3), (.int p2), (.int p1), (.int 7), (.int 7), (.ref b2), (.ref b2), (.ref b1), (.ref b1)])) rfl (by rw [hml]; rfl) (argsL := [(.int 7), (.int p1), (.int p2), (.int p3)]) (rest := [(.int 7), (.ref b2), (.ref b2), (.ref b1), (.ref b1)]) (lenOf pd_6 rfl) rfl (by show 2 * 0 + _ ≤ _; exact Nat.le_of_eq rfl) (hb hby d2_595) (fun _ _ => ⟨rfl, e16, (by decide : 2 + 0 ≤ _), (by decide : 21 + 0 ≤ _)⟩)
  dsimp only [Pt.U, Pt.locs, Pt.cells, Pt.slots] at X17 l17 y17 z17 st17 hQ17
  subst l17 y17 z17
  obtain ⟨rfl, N17q, e17⟩ := hQ17
  have N17 := Fr.app N16 N17q
  obtain ⟨Lx17, Xx17, Nx17⟩ : ∃ L', Stand p l e _ s m _ below meth c T17 L' 2 21 ∧ Fr n0 L' := ⟨_, X17, N17⟩
  obtain ⟨cl18, Ar18, qa18, Sz18, Ng18, Hs18, Ft18⟩ := V16
  obtain ⟨T18, h18, X18, e18, W18, st18⟩ := stC Xx17 hx hZ e17 Ar18 (j := (7 : Int32)) (inb_of Sz18 ⟨by decide, by decide⟩) (g := (mkF m 598 #[.val (.int 17), .val (.int p1), .val (.int p2), .val (.int p3)] [(.int (own_c 7 p1 p2 p3)), (.int 7), (.ref b2), (.ref b2), (.ref b1), (.ref b1)])) rfl rfl (hb hby d2_598)
  have O18 := O16.wr W18 g_b2
  have N18 := Fr.snoc X18 Nx17 g_b2
  have V18 : Arv Z h18 b2 k2 .char (17 : Int32) [(.int (own_d 0 p1 p2 p3)), (.int (own_d 1 p1 p2 p3)), (.int (own_d 2 p1 p2 p3)), (.int (own_d 3 p1 p2 p3)), (.int (own_d 4 p1 p2 p3)), (.int (own_d 5 p1 p2 p3)), (.int (own_d 6 p1 p2 p3)), (.int (own_d 7 p1 p2 p3)), (.int 0), (.int 0), (.int 0), (.int 0), (.int 0), (.int 0), (.int 0), (.int 0), (.int 0)] (.int 0) := Arv.set Ar18 qa18 Sz18 Ng18 Hs18 Ft18 (fits_nar_char _) W18 7 rfl (Nat.le_of_ble_eq_true rfl)
  obtain ⟨_, _, ⟨T19, L19, k19, n19⟩, -, X19, ⟨Lc19, hQ19, l19, y19, z19⟩, st19⟩ := Jvm.LawKit.callS X18 hx (y := (⟨"com/example/dispensd/dispensd/IdentifierIsValidPinLaw", "at", "(IICC)C"⟩ : MethodName)) hown (mvT hZ (own_w hw 13 rfl)) (mvT hZ (own_w hw 14 rfl)) (mvT hZ (own_w hw 7 rfl)) (mvT hZ (own_w hw 15 rfl)) (by decide) (backOf (W := 5) (rmAt l Z a0 hw [] (8 : Int32) p1 p2 p3  h18 n0 O18 ) hZ (own_w hw 15 rfl) (own_w hw 7 rfl) (by decide) (by decide)) (g := (mkF m 607 #[.val (.int 17), .val (.int p1), .val (.int p2), .val (.int p3)] [(.int p3), (.int p2), (.int p1), (.int 8), (.int 8), (.ref b2), (.ref b2), (.ref b1), (.ref b1)])) rfl (by rw [hml]; rfl) (argsL := [(.int 8), (.int p1), (.int p2), (.int p3)]) (rest := [(.int 8), (.ref b2), (.ref b2), (.ref b1), (.ref b1)]) (lenOf pd_6 rfl) rfl (by show 2 * 0 + _ ≤ _; exact Nat.le_of_eq rfl) (hb hby d2_607) (fun _ _ => ⟨rfl, e18, (by decide : 2 + 0 ≤ _), (by decide : 21 + 0 ≤ _)⟩)
  dsimp only [Pt.U, Pt.locs, Pt.cells, Pt.slots] at X19 l19 y19 z19 st19 hQ19
  subst l19 y19 z19
  obtain ⟨rfl, N19q, e19⟩ := hQ19
  have N19 := Fr.app N18 N19q
  obtain ⟨Lx19, Xx19, Nx19⟩ : ∃ L', Stand p l e _ s m _ below meth c T19 L' 2 21 ∧ Fr n0 L' := ⟨_, X19, N19⟩
  obtain ⟨cl20, Ar20, qa20, Sz20, Ng20, Hs20, Ft20⟩ := V18
  obtain ⟨T20, h20, X20, e20, W20, st20⟩ := stC Xx19 hx hZ e19 Ar20 (j := (8 : Int32)) (inb_of Sz20 ⟨by decide, by decide⟩) (g := (mkF m 610 #[.val (.int 17), .val (.int p1), .val (.int p2), .val (.int p3)] [(.int (own_c 8 p1 p2 p3)), (.int 8), (.ref b2), (.ref b2), (.ref b1), (.ref b1)])) rfl rfl (hb hby d2_610)
  have O20 := O18.wr W20 g_b2
  have N20 := Fr.snoc X20 Nx19 g_b2
  have V20 : Arv Z h20 b2 k2 .char (17 : Int32) [(.int (own_d 0 p1 p2 p3)), (.int (own_d 1 p1 p2 p3)), (.int (own_d 2 p1 p2 p3)), (.int (own_d 3 p1 p2 p3)), (.int (own_d 4 p1 p2 p3)), (.int (own_d 5 p1 p2 p3)), (.int (own_d 6 p1 p2 p3)), (.int (own_d 7 p1 p2 p3)), (.int (own_d 8 p1 p2 p3)), (.int 0), (.int 0), (.int 0), (.int 0), (.int 0), (.int 0), (.int 0), (.int 0)] (.int 0) := Arv.set Ar20 qa20 Sz20 Ng20 Hs20 Ft20 (fits_nar_char _) W20 8 rfl (Nat.le_of_ble_eq_true rfl)
  obtain ⟨_, _, ⟨T21, L21, k21, n21⟩, -, X21, ⟨Lc21, hQ21, l21, y21, z21⟩, st21⟩ := Jvm.LawKit.callS X20 hx (y := (⟨"com/example/dispensd/dispensd/IdentifierIsValidPinLaw", "at", "(IICC)C"⟩ : MethodName)) hown (mvT hZ (own_w hw 13 rfl)) (mvT hZ (own_w hw 14 rfl)) (mvT hZ (own_w hw 7 rfl)) (mvT hZ (own_w hw 15 rfl)) (by decide) (backOf (W := 5) (rmAt l Z a0 hw [] (9 : Int32) p1 p2 p3  h20 n0 O20 ) hZ (own_w hw 15 rfl) (own_w hw 7 rfl) (by decide) (by decide)) (g := (mkF m 619 #[.val (.int 17), .val (.int p1), .val (.int p2), .val (.int p3)] [(.int p3), (.int p2), (.int p1), (.int 9), (.int 9), (.ref b2), (.ref b2), (.ref b1), (.ref b1)])) rfl (by rw [hml]; rfl) (argsL := [(.int 9), (.int p1), (.int p2), (.int p3)]) (rest := [(.int 9), (.ref b2), (.ref b2), (.ref b1), (.ref b1)]) (lenOf pd_6 rfl) rfl (by show 2 * 0 + _ ≤ _; exact Nat.le_of_eq rfl) (hb hby d2_619) (fun _ _ => ⟨rfl, e20, (by decide : 2 + 0 ≤ _), (by decide : 21 + 0 ≤ _)⟩)
  dsimp only [Pt.U, Pt.locs, Pt.cells, Pt.slots] at X21 l21 y21 z21 st21 hQ21
  subst l21 y21 z21
  obtain ⟨rfl, N21q, e21⟩ := hQ21
  have N21 := Fr.app N20 N21q
  obtain ⟨Lx21, Xx21, Nx21⟩ : ∃ L', Stand p l e _ s m _ below meth c T21 L' 2 21 ∧ Fr n0 L' := ⟨_, X21, N21⟩
  obtain ⟨cl22, Ar22, qa22, Sz22, Ng22, Hs22, Ft22⟩ := V20
  obtain ⟨T22, h22, X22, e22, W22, st22⟩ := stC Xx21 hx hZ e21 Ar22 (j := (9 : Int32)) (inb_of Sz22 ⟨by decide, by decide⟩) (g := (mkF m 622 #[.val (.int 17), .val (.int p1), .val (.int p2), .val (.int p3)] [(.int (own_c 9 p1 p2 p3)), (.int 9), (.ref b2), (.ref b2), (.ref b1), (.ref b1)])) rfl rfl (hb hby d2_622)
  have O22 := O20.wr W22 g_b2
  have N22 := Fr.snoc X22 Nx21 g_b2
  have V22 : Arv Z h22 b2 k2 .char (17 : Int32) [(.int (own_d 0 p1 p2 p3)), (.int (own_d 1 p1 p2 p3)), (.int (own_d 2 p1 p2 p3)), (.int (own_d 3 p1 p2 p3)), (.int (own_d 4 p1 p2 p3)), (.int (own_d 5 p1 p2 p3)), (.int (own_d 6 p1 p2 p3)), (.int (own_d 7 p1 p2 p3)), (.int (own_d 8 p1 p2 p3)), (.int (own_d 9 p1 p2 p3)), (.int 0), (.int 0), (.int 0), (.int 0), (.int 0), (.int 0), (.int 0)] (.int 0) := Arv.set Ar22 qa22 Sz22 Ng22 Hs22 Ft22 (fits_nar_char _) W22 9 rfl (Nat.le_of_ble_eq_true rfl)
  obtain ⟨_, _, ⟨T23, L23, k23, n23⟩, -, X23, ⟨Lc23, hQ23, l23, y23, z23⟩, st23⟩ := Jvm.LawKit.callS X22 hx (y := (⟨"com/example/dispensd/dispensd/IdentifierIsValidPinLaw", "at", "(IICC)C"⟩ : MethodName)) hown (mvT hZ (own_w hw 13 rfl)) (mvT hZ (own_w hw 14 rfl)) (mvT hZ (own_w hw 7 rfl)) (mvT hZ (own_w hw 15 rfl)) (by decide) (backOf (W := 5) (rmAt l Z a0 hw [] (10 : Int32) p1 p2 p3  h22 n0 O22 ) hZ (own_w hw 15 rfl) (own_w hw 7 rfl) (by decide) (by decide)) (g := (mkF m 631 #[.val (.int 17), .val (.int p1), .val (.int p2), .val (.int p3)] [(.int p3), (.int p2), (.int p1), (.int 10), (.int 10), (.ref b2), (.ref b2), (.ref b1), (.ref b1)])) rfl (by rw [hml]; rfl) (argsL := [(.int 10), (.int p1), (.int p2), (.int p3)]) (rest := [(.int 10), (.ref b2), (.ref b2), (.ref b1), (.ref b1)]) (lenOf pd_6 rfl) rfl (by show 2 * 0 + _ ≤ _; exact Nat.le_of_eq rfl) (hb hby d2_631) (fun _ _ => ⟨rfl, e22, (by decide : 2 + 0 ≤ _), (by decide : 21 + 0 ≤ _)⟩)
  dsimp only [Pt.U, Pt.locs, Pt.cells, Pt.slots] at X23 l23 y23 z23 st23 hQ23
  subst l23 y23 z23
  obtain ⟨rfl, N23q, e23⟩ := hQ23
  have N23 := Fr.app N22 N23q
  obtain ⟨Lx23, Xx23, Nx23⟩ : ∃ L', Stand p l e _ s m _ below meth c T23 L' 2 21 ∧ Fr n0 L' := ⟨_, X23, N23⟩
  obtain ⟨cl24, Ar24, qa24, Sz24, Ng24, Hs24, Ft24⟩ := V22
  obtain ⟨T24, h24, X24, e24, W24, st24⟩ := stC Xx23 hx hZ e23 Ar24 (j := (10 : Int32)) (inb_of Sz24 ⟨by decide, by decide⟩) (g := (mkF m 634 #[.val (.int 17), .val (.int p1), .val (.int p2), .val (.int p3)] [(.int (own_c 10 p1 p2 p3)), (.int 10), (.ref b2), (.ref b2), (.ref b1), (.ref b1)])) rfl rfl (hb hby d2_634)
  have O24 := O22.wr W24 g_b2
  have N24 := Fr.snoc X24 Nx23 g_b2
  have V24 : Arv Z h24 b2 k2 .char (17 : Int32) [(.int (own_d 0 p1 p2 p3)), (.int (own_d 1 p1 p2 p3)), (.int (own_d 2 p1 p2 p3)), (.int (own_d 3 p1 p2 p3)), (.int (own_d 4 p1 p2 p3)), (.int (own_d 5 p1 p2 p3)), (.int (own_d 6 p1 p2 p3)), (.int (own_d 7 p1 p2 p3)), (.int (own_d 8 p1 p2 p3)), (.int (own_d 9 p1 p2 p3)), (.int (own_d 10 p1 p2 p3)), (.int 0), (.int 0), (.int 0), (.int 0), (.int 0), (.int 0)] (.int 0) := Arv.set Ar24 qa24 Sz24 Ng24 Hs24 Ft24 (fits_nar_char _) W24 10 rfl (Nat.le_of_ble_eq_true rfl)
  obtain ⟨_, _, ⟨T25, L25, k25, n25⟩, -, X25, ⟨Lc25, hQ25, l25, y25, z25⟩, st25⟩ := Jvm.LawKit.callS X24 hx (y := (⟨"com/example/dispensd/dispensd/IdentifierIsValidPinLaw", "at", "(IICC)C"⟩ : MethodName)) hown (mvT hZ (own_w hw 13 rfl)) (mvT hZ (own_w hw 14 rfl)) (mvT hZ (own_w hw 7 rfl)) (mvT hZ (own_w hw 15 rfl)) (by decide) (backOf (W := 5) (rmAt l Z a0 hw [] (11 : Int32) p1 p2 p3  h24 n0 O24 ) hZ (own_w hw 15 rfl) (own_w hw 7 rfl) (by decide) (by decide)) (g := (mkF m 643 #[.val (.int 17), .val (.int p1), .val (.int p2), .val (.int p3)] [(.int p3), (.int p2), (.int p1), (.int 11), (.int 11), (.ref b2), (.ref b2), (.ref b1), (.ref b1)])) rfl (by rw [hml]; rfl) (argsL := [(.int 11), (.int p1), (.int p2), (.int p3)]) (rest := [(.int 11), (.ref b2), (.ref b2), (.ref b1), (.ref b1)]) (lenOf pd_6 rfl) rfl (by show 2 * 0 + _ ≤ _; exact Nat.le_of_eq rfl) (hb hby d2_643) (fun _ _ => ⟨rfl, e24, (by decide : 2 + 0 ≤ _), (by decide : 21 + 0 ≤ _)⟩)
  dsimp only [Pt.U, Pt.locs, Pt.cells, Pt.slots] at X25 l25 y25 z25 st25 hQ25
  subst l25 y25 z25
  obtain ⟨rfl, N25q, e25⟩ := hQ25
  have N25 := Fr.app N24 N25q
  obtain ⟨Lx25, Xx25, Nx25⟩ : ∃ L', Stand p l e _ s m _ below meth c T25 L' 2 21 ∧ Fr n0 L' := ⟨_, X25, N25⟩
  obtain ⟨cl26, Ar26, qa26, Sz26, Ng26, Hs26, Ft26⟩ := V24
  obtain ⟨T26, h26, X26, e26, W26, st26⟩ := stC Xx25 hx hZ e25 Ar26 (j := (11 : Int32)) (inb_of Sz26 ⟨by decide, by decide⟩) (g := (mkF m 646 #[.val (.int 17), .val (.int p1), .val (.int p2), .val (.int p3)] [(.int (own_c 11 p1 p2 p3)), (.int 11), (.ref b2), (.ref b2), (.ref b1), (.ref b1)])) rfl rfl (hb hby d2_646)
  have O26 := O24.wr W26 g_b2
  have N26 := Fr.snoc X26 Nx25 g_b2
  have V26 : Arv Z h26 b2 k2 .char (17 : Int32) [(.int (own_d 0 p1 p2 p3)), (.int (own_d 1 p1 p2 p3)), (.int (own_d 2 p1 p2 p3)), (.int (own_d 3 p1 p2 p3)), (.int (own_d 4 p1 p2 p3)), (.int (own_d 5 p1 p2 p3)), (.int (own_d 6 p1 p2 p3)), (.int (own_d 7 p1 p2 p3)), (.int (own_d 8 p1 p2 p3)), (.int (own_d 9 p1 p2 p3)), (.int (own_d 10 p1 p2 p3)), (.int (own_d 11 p1 p2 p3)), (.int 0), (.int 0), (.int 0), (.int 0), (.int 0)] (.int 0) := Arv.set Ar26 qa26 Sz26 Ng26 Hs26 Ft26 (fits_nar_char _) W26 11 rfl (Nat.le_of_ble_eq_true rfl)
  obtain ⟨_, _, ⟨T27, L27, k27, n27⟩, -, X27, ⟨Lc27, hQ27, l27, y27, z27⟩, st27⟩ := Jvm.LawKit.callS X26 hx (y := (⟨"com/example/dispensd/dispensd/IdentifierIsValidPinLaw", "at", "(IICC)C"⟩ : MethodName)) hown (mvT hZ (own_w hw 13 rfl)) (mvT hZ (own_w hw 14 rfl)) (mvT hZ (own_w hw 7 rfl)) (mvT hZ (own_w hw 15 rfl)) (by decide) (backOf (W := 5) (rmAt l Z a0 hw [] (12 : Int32) p1 p2 p3  h26 n0 O26 ) hZ (own_w hw 15 rfl) (own_w hw 7 rfl) (by decide) (by decide)) (g := (mkF m 655 #[.val (.int 17), .val (.int p1), .val (.int p2), .val (.int p3)] [(.int p3), (.int p2), (.int p1), (.int 12), (.int 12), (.ref b2), (.ref b2), (.ref b1), (.ref b1)])) rfl (by rw [hml]; rfl) (argsL := [(.int 12), (.int p1), (.int p2), (.int p3)]) (rest := [(.int 12), (.ref b2), (.ref b2), (.ref b1), (.ref b1)]) (lenOf pd_6 rfl) rfl (by show 2 * 0 + _ ≤ _; exact Nat.le_of_eq rfl) (hb hby d2_655) (fun _ _ => ⟨rfl, e26, (by decide : 2 + 0 ≤ _), (by decide : 21 + 0 ≤ _)⟩)
  dsimp only [Pt.U, Pt.locs, Pt.cells, Pt.slots] at X27 l27 y27 z27 st27 hQ27
  subst l27 y27 z27
  obtain ⟨rfl, N27q, e27⟩ := hQ27
  have N27 := Fr.app N26 N27q
  obtain ⟨Lx27, Xx27, Nx27⟩ : ∃ L', Stand p l e _ s m _ below meth c T27 L' 2 21 ∧ Fr n0 L' := ⟨_, X27, N27⟩
  obtain ⟨cl28, Ar28, qa28, Sz28, Ng28, Hs28, Ft28⟩ := V26
  obtain ⟨T28, h28, X28, e28, W28, st28⟩ := stC Xx27 hx hZ e27 Ar28 (j := (12 : Int32)) (inb_of Sz28 ⟨by decide, by decide⟩) (g := (mkF m 658 #[.val (.int 17), .val (.int p1), .val (.int p2), .val (.int p3)] [(.int (own_c 12 p1 p2 p3)), (.int 12), (.ref b2), (.ref b2), (.ref b1), (.ref b1)])) rfl rfl (hb hby d2_658)
  have O28 := O26.wr W28 g_b2
  have N28 := Fr.snoc X28 Nx27 g_b2
  have V28 : Arv Z h28 b2 k2 .char (17 : Int32) [(.int (own_d 0 p1 p2 p3)), (.int (own_d 1 p1 p2 p3)), (.int (own_d 2 p1 p2 p3)), (.int (own_d 3 p1 p2 p3)), (.int (own_d 4 p1 p2 p3)), (.int (own_d 5 p1 p2 p3)), (.int (own_d 6 p1 p2 p3)), (.int (own_d 7 p1 p2 p3)), (.int (own_d 8 p1 p2 p3)), (.int (own_d 9 p1 p2 p3)), (.int (own_d 10 p1 p2 p3)), (.int (own_d 11 p1 p2 p3)), (.int (own_d 12 p1 p2 p3)), (.int 0), (.int 0), (.int 0), (.int 0)] (.int 0) := Arv.set Ar28 qa28 Sz28 Ng28 Hs28 Ft28 (fits_nar_char _) W28 12 rfl (Nat.le_of_ble_eq_true rfl)
  obtain ⟨_, _, ⟨T29, L29, k29, n29⟩, -, X29, ⟨Lc29, hQ29, l29, y29, z29⟩, st29⟩ := Jvm.LawKit.callS X28 hx (y := (⟨"com/example/dispensd/dispensd/IdentifierIsValidPinLaw", "at", "(IICC)C"⟩ : MethodName)) hown (mvT hZ (own_w hw 13 rfl)) (mvT hZ (own_w hw 14 rfl)) (mvT hZ (own_w hw 7 rfl)) (mvT hZ (own_w hw 15 rfl)) (by decide) (backOf (W := 5) (rmAt l Z a0 hw [] (13 : Int32) p1 p2 p3  h28 n0 O28 ) hZ (own_w hw 15 rfl) (own_w hw 7 rfl) (by decide) (by decide)) (g := (mkF m 667 #[.val (.int 17), .val (.int p1), .val (.int p2), .val (.int p3)] [(.int p3), (.int p2), (.int p1), (.int 13), (.int 13), (.ref b2), (.ref b2), (.ref b1), (.ref b1)])) rfl (by rw [hml]; rfl) (argsL := [(.int 13), (.int p1), (.int p2), (.int p3)]) (rest := [(.int 13), (.ref b2), (.ref b2), (.ref b1), (.ref b1)]) (lenOf pd_6 rfl) rfl (by show 2 * 0 + _ ≤ _; exact Nat.le_of_eq rfl) (hb hby d2_667) (fun _ _ => ⟨rfl, e28, (by decide : 2 + 0 ≤ _), (by decide : 21 + 0 ≤ _)⟩)
  dsimp only [Pt.U, Pt.locs, Pt.cells, Pt.slots] at X29 l29 y29 z29 st29 hQ29
  subst l29 y29 z29
  obtain ⟨rfl, N29q, e29⟩ := hQ29
  have N29 := Fr.app N28 N29q
  obtain ⟨Lx29, Xx29, Nx29⟩ : ∃ L', Stand p l e _ s m _ below meth c T29 L' 2 21 ∧ Fr n0 L' := ⟨_, X29, N29⟩
  obtain ⟨cl30, Ar30, qa30, Sz30, Ng30, Hs30, Ft30⟩ := V28
  obtain ⟨T30, h30, X30, e30, W30, st30⟩ := stC Xx29 hx hZ e29 Ar30 (j := (13 : Int32)) (inb_of Sz30 ⟨by decide, by decide⟩) (g := (mkF m 670 #[.val (.int 17), .val (.int p1), .val (.int p2), .val (.int p3)] [(.int (own_c 13 p1 p2 p3)), (.int 13), (.ref b2), (.ref b2), (.ref b1), (.ref b1)])) rfl rfl (hb hby d2_670)
  have O30 := O28.wr W30 g_b2
  have N30 := Fr.snoc X30 Nx29 g_b2
  have V30 : Arv Z h30 b2 k2 .char (17 : Int32) [(.int (own_d 0 p1 p2 p3)), (.int (own_d 1 p1 p2 p3)), (.int (own_d 2 p1 p2 p3)), (.int (own_d 3 p1 p2 p3)), (.int (own_d 4 p1 p2 p3)), (.int (own_d 5 p1 p2 p3)), (.int (own_d 6 p1 p2 p3)), (.int (own_d 7 p1 p2 p3)), (.int (own_d 8 p1 p2 p3)), (.int (own_d 9 p1 p2 p3)), (.int (own_d 10 p1 p2 p3)), (.int (own_d 11 p1 p2 p3)), (.int (own_d 12 p1 p2 p3)), (.int (own_d 13 p1 p2 p3)), (.int 0), (.int 0), (.int 0)] (.int 0) := Arv.set Ar30 qa30 Sz30 Ng30 Hs30 Ft30 (fits_nar_char _) W30 13 rfl (Nat.le_of_ble_eq_true rfl)
  obtain ⟨_, _, ⟨T31, L31, k31, n31⟩, -, X31, ⟨Lc31, hQ31, l31, y31, z31⟩, st31⟩ := Jvm.LawKit.callS X30 hx (y := (⟨"com/example/dispensd/dispensd/IdentifierIsValidPinLaw", "at", "(IICC)C"⟩ : MethodName)) hown (mvT hZ (own_w hw 13 rfl)) (mvT hZ (own_w hw 14 rfl)) (mvT hZ (own_w hw 7 rfl)) (mvT hZ (own_w hw 15 rfl)) (by decide) (backOf (W := 5) (rmAt l Z a0 hw [] (14 : Int32) p1 p2 p3  h30 n0 O30 ) hZ (own_w hw 15 rfl) (own_w hw 7 rfl) (by decide) (by decide)) (g := (mkF m 679 #[.val (.int 17), .val (.int p1), .val (.int p2), .val (.int p3)] [(.int p3), (.int p2), (.int p1), (.int 14), (.int 14), (.ref b2), (.ref b2), (.ref b1), (.ref b1)])) rfl (by rw [hml]; rfl) (argsL := [(.int 14), (.int p1), (.int p2), (.int p3)]) (rest := [(.int 14), (.ref b2), (.ref b2), (.ref b1), (.ref b1)]) (lenOf pd_6 rfl) rfl (by show 2 * 0 + _ ≤ _; exact Nat.le_of_eq rfl) (hb hby d2_679) (fun _ _ => ⟨rfl, e30, (by decide : 2 + 0 ≤ _), (by decide : 21 + 0 ≤ _)⟩)
  dsimp only [Pt.U, Pt.locs, Pt.cells, Pt.slots] at X31 l31 y31 z31 st31 hQ31
  subst l31 y31 z31
  obtain ⟨rfl, N31q, e31⟩ := hQ31
  have N31 := Fr.app N30 N31q
  obtain ⟨Lx31, Xx31, Nx31⟩ : ∃ L', Stand p l e _ s m _ below meth c T31 L' 2 21 ∧ Fr n0 L' := ⟨_, X31, N31⟩
  obtain ⟨cl32, Ar32, qa32, Sz32, Ng32, Hs32, Ft32⟩ := V30
  obtain ⟨T32, h32, X32, e32, W32, st32⟩ := stC Xx31 hx hZ e31 Ar32 (j := (14 : Int32)) (inb_of Sz32 ⟨by decide, by decide⟩) (g := (mkF m 682 #[.val (.int 17), .val (.int p1), .val (.int p2), .val (.int p3)] [(.int (own_c 14 p1 p2 p3)), (.int 14), (.ref b2), (.ref b2), (.ref b1), (.ref b1)])) rfl rfl (hb hby d2_682)
  have O32 := O30.wr W32 g_b2
  have N32 := Fr.snoc X32 Nx31 g_b2
  have V32 : Arv Z h32 b2 k2 .char (17 : Int32) [(.int (own_d 0 p1 p2 p3)), (.int (own_d 1 p1 p2 p3)), (.int (own_d 2 p1 p2 p3)), (.int (own_d 3 p1 p2 p3)), (.int (own_d 4 p1 p2 p3)), (.int (own_d 5 p1 p2 p3)), (.int (own_d 6 p1 p2 p3)), (.int (own_d 7 p1 p2 p3)), (.int (own_d 8 p1 p2 p3)), (.int (own_d 9 p1 p2 p3)), (.int (own_d 10 p1 p2 p3)), (.int (own_d 11 p1 p2 p3)), (.int (own_d 12 p1 p2 p3)), (.int (own_d 13 p1 p2 p3)), (.int (own_d 14 p1 p2 p3)), (.int 0), (.int 0)] (.int 0) := Arv.set Ar32 qa32 Sz32 Ng32 Hs32 Ft32 (fits_nar_char _) W32 14 rfl (Nat.le_of_ble_eq_true rfl)
  obtain ⟨_, _, ⟨T33, L33, k33, n33⟩, -, X33, ⟨Lc33, hQ33, l33, y33, z33⟩, st33⟩ := Jvm.LawKit.callS X32 hx (y := (⟨"com/example/dispensd/dispensd/IdentifierIsValidPinLaw", "at", "(IICC)C"⟩ : MethodName)) hown (mvT hZ (own_w hw 13 rfl)) (mvT hZ (own_w hw 14 rfl)) (mvT hZ (own_w hw 7 rfl)) (mvT hZ (own_w hw 15 rfl)) (by decide) (backOf (W := 5) (rmAt l Z a0 hw [] (15 : Int32) p1 p2 p3  h32 n0 O32 ) hZ (own_w hw 15 rfl) (own_w hw 7 rfl) (by decide) (by decide)) (g := (mkF m 691 #[.val (.int 17), .val (.int p1), .val (.int p2), .val (.int p3)] [(.int p3), (.int p2), (.int p1), (.int 15), (.int 15), (.ref b2), (.ref b2), (.ref b1), (.ref b1)])) rfl (by rw [hml]; rfl) (argsL := [(.int 15), (.int p1), (.int p2), (.int p3)]) (rest := [(.int 15), (.ref b2), (.ref b2), (.ref b1), (.ref b1)]) (lenOf pd_6 rfl) rfl (by show 2 * 0 + _ ≤ _; exact Nat.le_of_eq rfl) (hb hby d2_691) (fun _ _ => ⟨rfl, e32, (by decide : 2 + 0 ≤ _), (by decide : 21 + 0 ≤ _)⟩)
  dsimp only [Pt.U, Pt.locs, Pt.cells, Pt.slots] at X33 l33 y33 z33 st33 hQ33
  subst l33 y33 z33
  obtain ⟨rfl, N33q, e33⟩ := hQ33
  have N33 := Fr.app N32 N33q
  obtain ⟨Lx33, Xx33, Nx33⟩ : ∃ L', Stand p l e _ s m _ below meth c T33 L' 2 21 ∧ Fr n0 L' := ⟨_, X33, N33⟩
  obtain ⟨cl34, Ar34, qa34, Sz34, Ng34, Hs34, Ft34⟩ := V32
  obtain ⟨T34, h34, X34, e34, W34, st34⟩ := stC Xx33 hx hZ e33 Ar34 (j := (15 : Int32)) (inb_of Sz34 ⟨by decide, by decide⟩) (g := (mkF m 694 #[.val (.int 17), .val (.int p1), .val (.int p2), .val (.int p3)] [(.int (own_c 15 p1 p2 p3)), (.int 15), (.ref b2), (.ref b2), (.ref b1), (.ref b1)])) rfl rfl (hb hby d2_694)
  have O34 := O32.wr W34 g_b2
  have N34 := Fr.snoc X34 Nx33 g_b2
  have V34 : Arv Z h34 b2 k2 .char (17 : Int32) [(.int (own_d 0 p1 p2 p3)), (.int (own_d 1 p1 p2 p3)), (.int (own_d 2 p1 p2 p3)), (.int (own_d 3 p1 p2 p3)), (.int (own_d 4 p1 p2 p3)), (.int (own_d 5 p1 p2 p3)), (.int (own_d 6 p1 p2 p3)), (.int (own_d 7 p1 p2 p3)), (.int (own_d 8 p1 p2 p3)), (.int (own_d 9 p1 p2 p3)), (.int (own_d 10 p1 p2 p3)), (.int (own_d 11 p1 p2 p3)), (.int (own_d 12 p1 p2 p3)), (.int (own_d 13 p1 p2 p3)), (.int (own_d 14 p1 p2 p3)), (.int (own_d 15 p1 p2 p3)), (.int 0)] (.int 0) := Arv.set Ar34 qa34 Sz34 Ng34 Hs34 Ft34 (fits_nar_char _) W34 15 rfl (Nat.le_of_ble_eq_true rfl)
  obtain ⟨_, _, ⟨T35, L35, k35, n35⟩, -, X35, ⟨Lc35, hQ35, l35, y35, z35⟩, st35⟩ := Jvm.LawKit.callS X34 hx (y := (⟨"com/example/dispensd/dispensd/IdentifierIsValidPinLaw", "at", "(IICC)C"⟩ : MethodName)) hown (mvT hZ (own_w hw 13 rfl)) (mvT hZ (own_w hw 14 rfl)) (mvT hZ (own_w hw 7 rfl)) (mvT hZ (own_w hw 15 rfl)) (by decide) (backOf (W := 5) (rmAt l Z a0 hw [] (16 : Int32) p1 p2 p3  h34 n0 O34 ) hZ (own_w hw 15 rfl) (own_w hw 7 rfl) (by decide) (by decide)) (g := (mkF m 703 #[.val (.int 17), .val (.int p1), .val (.int p2), .val (.int p3)] [(.int p3), (.int p2), (.int p1), (.int 16), (.int 16), (.ref b2), (.ref b2), (.ref b1), (.ref b1)])) rfl (by rw [hml]; rfl) (argsL := [(.int 16), (.int p1), (.int p2), (.int p3)]) (rest := [(.int 16), (.ref b2), (.ref b2), (.ref b1), (.ref b1)]) (lenOf pd_6 rfl) rfl (by show 2 * 0 + _ ≤ _; exact Nat.le_of_eq rfl) (hb hby d2_703) (fun _ _ => ⟨rfl, e34, (by decide : 2 + 0 ≤ _), (by decide : 21 + 0 ≤ _)⟩)
  dsimp only [Pt.U, Pt.locs, Pt.cells, Pt.slots] at X35 l35 y35 z35 st35 hQ35
  subst l35 y35 z35
  obtain ⟨rfl, N35q, e35⟩ := hQ35
  have N35 := Fr.app N34 N35q
  obtain ⟨Lx35, Xx35, Nx35⟩ : ∃ L', Stand p l e _ s m _ below meth c T35 L' 2 21 ∧ Fr n0 L' := ⟨_, X35, N35⟩
  obtain ⟨cl36, Ar36, qa36, Sz36, Ng36, Hs36, Ft36⟩ := V34
  obtain ⟨T36, h36, X36, e36, W36, st36⟩ := stC Xx35 hx hZ e35 Ar36 (j := (16 : Int32)) (inb_of Sz36 ⟨by decide, by decide⟩) (g := (mkF m 706 #[.val (.int 17), .val (.int p1), .val (.int p2), .val (.int p3)] [(.int (own_c 16 p1 p2 p3)), (.int 16), (.ref b2), (.ref b2), (.ref b1), (.ref b1)])) rfl rfl (hb hby d2_706)
  have O36 := O34.wr W36 g_b2
  have N36 := Fr.snoc X36 Nx35 g_b2
  have V36 : Arv Z h36 b2 k2 .char (17 : Int32) [(.int (own_d 0 p1 p2 p3)), (.int (own_d 1 p1 p2 p3)), (.int (own_d 2 p1 p2 p3)), (.int (own_d 3 p1 p2 p3)), (.int (own_d 4 p1 p2 p3)), (.int (own_d 5 p1 p2 p3)), (.int (own_d 6 p1 p2 p3)), (.int (own_d 7 p1 p2 p3)), (.int (own_d 8 p1 p2 p3)), (.int (own_d 9 p1 p2 p3)), (.int (own_d 10 p1 p2 p3)), (.int (own_d 11 p1 p2 p3)), (.int (own_d 12 p1 p2 p3)), (.int (own_d 13 p1 p2 p3)), (.int (own_d 14 p1 p2 p3)), (.int (own_d 15 p1 p2 p3)), (.int (own_d 16 p1 p2 p3))] (.int 0) := Arv.set Ar36 qa36 Sz36 Ng36 Hs36 Ft36 (fits_nar_char _) W36 16 rfl (Nat.le_of_ble_eq_true rfl)
  have e_b1_19_x := ((((((((((((((((((A1.ext E2).wr W4).wr W6).wr W8).wr W10).wr W12).wr W14).wr W16).wr W18).wr W20).wr W22).wr W24).wr W26).wr W28).wr W30).wr W32).wr W34).wr W36)
  have f_b1_19_value := ((((((((((((((((((F_value_b1.ext E2).other W4 (Or.inl (Nat.ne_of_lt (Nat.lt_of_lt_of_le F_coder_b1.lt (Nat.le_of_eq g2.symm))))).other W6 (Or.inl (Nat.ne_of_lt (Nat.lt_of_lt_of_le F_coder_b1.lt (Nat.le_of_eq g2.symm))))).other W8 (Or.inl (Nat.ne_of_lt (Nat.lt_of_lt_of_le F_coder_b1.lt (Nat.le_of_eq g2.symm))))).other W10 (Or.inl (Nat.ne_of_lt (Nat.lt_of_lt_of_le F_coder_b1.lt (Nat.le_of_eq g2.symm))))).other W12 (Or.inl (Nat.ne_of_lt (Nat.lt_of_lt_of_le F_coder_b1.lt (Nat.le_of_eq g2.symm))))).other W14 (Or.inl (Nat.ne_of_lt (Nat.lt_of_lt_of_le F_coder_b1.lt (Nat.le_of_eq g2.symm))))).other W16 (Or.inl (Nat.ne_of_lt (Nat.lt_of_lt_of_le F_coder_b1.lt (Nat.le_of_eq g2.symm))))).other W18 (Or.inl (Nat.ne_of_lt (Nat.lt_of_lt_of_le F_coder_b1.lt (Nat.le_of_eq g2.symm))))).other W20 (Or.inl (Nat.ne_of_lt (Nat.lt_of_lt_of_le F_coder_b1.lt (Nat.le_of_eq g2.symm))))).other W22 (Or.inl (Nat.ne_of_lt (Nat.lt_of_lt_of_le F_coder_b1.lt (Nat.le_of_eq g2.symm))))).other W24 (Or.inl (Nat.ne_of_lt (Nat.lt_of_lt_of_le F_coder_b1.lt (Nat.le_of_eq g2.symm))))).other W26 (Or.inl (Nat.ne_of_lt (Nat.lt_of_lt_of_le F_coder_b1.lt (Nat.le_of_eq g2.symm))))).other W28 (Or.inl (Nat.ne_of_lt (Nat.lt_of_lt_of_le F_coder_b1.lt (Nat.le_of_eq g2.symm))))).other W30 (Or.inl (Nat.ne_of_lt (Nat.lt_of_lt_of_le F_coder_b1.lt (Nat.le_of_eq g2.symm))))).other W32 (Or.inl (Nat.ne_of_lt (Nat.lt_of_lt_of_le F_coder_b1.lt (Nat.le_of_eq g2.symm))))).other W34 (Or.inl (Nat.ne_of_lt (Nat.lt_of_lt_of_le F_coder_b1.lt (Nat.le_of_eq g2.symm))))).other W36 (Or.inl (Nat.ne_of_lt (Nat.lt_of_lt_of_le F_coder_b1.lt (Nat.le_of_eq g2.symm)))))
  have f_b1_19_coder := ((((((((((((((((((F_coder_b1.ext E2).other W4 (Or.inl (Nat.ne_of_lt (Nat.lt_of_lt_of_le F_coder_b1.lt (Nat.le_of_eq g2.symm))))).other W6 (Or.inl (Nat.ne_of_lt (Nat.lt_of_lt_of_le F_coder_b1.lt (Nat.le_of_eq g2.symm))))).other W8 (Or.inl (Nat.ne_of_lt (Nat.lt_of_lt_of_le F_coder_b1.lt (Nat.le_of_eq g2.symm))))).other W10 (Or.inl (Nat.ne_of_lt (Nat.lt_of_lt_of_le F_coder_b1.lt (Nat.le_of_eq g2.symm))))).other W12 (Or.inl (Nat.ne_of_lt (Nat.lt_of_lt_of_le F_coder_b1.lt (Nat.le_of_eq g2.symm))))).other W14 (Or.inl (Nat.ne_of_lt (Nat.lt_of_lt_of_le F_coder_b1.lt (Nat.le_of_eq g2.symm))))).other W16 (Or.inl (Nat.ne_of_lt (Nat.lt_of_lt_of_le F_coder_b1.lt (Nat.le_of_eq g2.symm))))).other W18 (Or.inl (Nat.ne_of_lt (Nat.lt_of_lt_of_le F_coder_b1.lt (Nat.le_of_eq g2.symm))))).other W20 (Or.inl (Nat.ne_of_lt (Nat.lt_of_lt_of_le F_coder_b1.lt (Nat.le_of_eq g2.symm))))).other W22 (Or.inl (Nat.ne_of_lt (Nat.lt_of_lt_of_le F_coder_b1.lt (Nat.le_of_eq g2.symm))))).other W24 (Or.inl (Nat.ne_of_lt (Nat.lt_of_lt_of_le F_coder_b1.lt (Nat.le_of_eq g2.symm))))).other W26 (Or.inl (Nat.ne_of_lt (Nat.lt_of_lt_of_le F_coder_b1.lt (Nat.le_of_eq g2.symm))))).other W28 (Or.inl (Nat.ne_of_lt (Nat.lt_of_lt_of_le F_coder_b1.lt (Nat.le_of_eq g2.symm))))).other W30 (Or.inl (Nat.ne_of_lt (Nat.lt_of_lt_of_le F_coder_b1.lt (Nat.le_of_eq g2.symm))))).other W32 (Or.inl (Nat.ne_of_lt (Nat.lt_of_lt_of_le F_coder_b1.lt (Nat.le_of_eq g2.symm))))).other W34 (Or.inl (Nat.ne_of_lt (Nat.lt_of_lt_of_le F_coder_b1.lt (Nat.le_of_eq g2.symm))))).other W36 (Or.inl (Nat.ne_of_lt (Nat.lt_of_lt_of_le F_coder_b1.lt (Nat.le_of_eq g2.symm)))))
  obtain ⟨_, _, ⟨T37, L37, k37, n37⟩, -, X37, ⟨Lc37, hQ37, l37, y37, z37⟩, st37⟩ := X36.specialBack hx (y := (⟨"java/lang/String", "<init>", "([C)V"⟩ : MethodName)) rfl hown (mvT hZ (own_w hw 16 rfl)) (mvT hZ (own_w hw 17 rfl)) (mvT hZ (own_w hw 18 rfl)) (by decide) (StrChars.Road.backV (W := 1) hZ (own_ws hw) (kI := 4) (own_w hw 10 rfl) (cs := ([own_d 0 p1 p2 p3, own_d 1 p1 p2 p3, own_d 2 p1 p2 p3, own_d 3 p1 p2 p3, own_d 4 p1 p2 p3, own_d 5 p1 p2 p3, own_d 6 p1 p2 p3, own_d 7 p1 p2 p3, own_d 8 p1 p2 p3, own_d 9 p1 p2 p3, own_d 10 p1 p2 p3, own_d 11 p1 p2 p3, own_d 12 p1 p2 p3, own_d 13 p1 p2 p3, own_d 14 p1 p2 p3, own_d 15 p1 p2 p3, own_d 16 p1 p2 p3] : List Int32)) (bs := (([own_d 0 p1 p2 p3, own_d 1 p1 p2 p3, own_d 2 p1 p2 p3, own_d 3 p1 p2 p3, own_d 4 p1 p2 p3, own_d 5 p1 p2 p3, own_d 6 p1 p2 p3, own_d 7 p1 p2 p3, own_d 8 p1 p2 p3, own_d 9 p1 p2 p3, own_d 10 p1 p2 p3, own_d 11 p1 p2 p3, own_d 12 p1 p2 p3, own_d 13 p1 p2 p3, own_d 14 p1 p2 p3, own_d 15 p1 p2 p3, own_d 16 p1 p2 p3] : List Int32)).map (fun c => c.toInt8.toInt32)) (n := 17) g_b1 (own_le O36) e_b1_19_x f_b1_19_value f_b1_19_coder V36 (S_COMPACT_STRINGS.ext O36.2) hzc rfl rfl (by decide) (by decide) hp rfl (by decide) (by decide)) (g := (mkF m 707 #[.val (.int 17), .val (.int p1), .val (.int p2), .val (.int p3)] [(.ref b2), (.ref b1), (.ref b1)])) rfl (by rw [hml]; rfl) (Steps.refl _) (a := b1) (argsL := [(.ref b2)]) (rest := [(.ref b1)]) (lenOf pd_7 rfl) rfl (by show 2 * 0 + _ ≤ _; exact Nat.le_of_eq rfl) (hb hby d2_707) (fun _ _ => ⟨rfl, e36, (by decide : 2 + 1 ≤ _), (by decide : 21 + 17 ≤ _)⟩)
  dsimp only [Pt.U, Pt.locs, Pt.cells, Pt.slots] at X37 l37 y37 z37 st37 hQ37
  subst l37 y37 z37
  obtain ⟨rfl, N37q, K37, Ex37, Fc37, t37, kt37, ut37, vt37, wt37, Fv37, Vt37⟩ := hQ37
  have N37 := Fr.app N36 N37q
  obtain ⟨Lx37, Xx37, Nx37⟩ : ∃ L', Stand p l e _ s m _ below meth c T37 L' 3 38 ∧ Fr n0 L' := ⟨_, X37, N37⟩
  have O37 := O36.keep K37 (allS g_b1 all0)
  obtain ⟨fs, hr, hrun, hended, hW, hsame⟩ := Xx37.leave (v := some (.ref b1)) (fun h => by rw [Bd.returns] at h; cases h)
  refine ⟨_, _, pre0 _ ?_, hrun, hended, _, _, rfl, ?_, ⟨_, rfl⟩, hW, hsame.mono (by decide) (by decide)⟩
  · show oS p e below s₁ m 0 #[.val (.int 17), .val (.int p1), .val (.int p2), .val (.int p3)] [] _
    refine XS.iloadN X0.here hx rfl (hb hby d2_0) rfl ?_
    show oS p e below s₁ m 1 #[.val (.int 17), .val (.int p1), .val (.int p2), .val (.int p3)] [(.int 17)] _
    refine XS.ifYes X0.here hx rfl (pc0 := 1) (pc' := 15) rfl (hb hby d2_1) rfl ((if0 _ _).trans (feq (by decide : ¬ ((17 : Int32) = (0 : Int32)))).2) (by decide) (by decide) ?_
    show oS p e below s₁ m 15 #[.val (.int 17), .val (.int p1), .val (.int p2), .val (.int p3)] [] _
    refine XS.iloadN X0.here hx rfl (hb hby d2_15) rfl ?_
    show oS p e below s₁ m 16 #[.val (.int 17), .val (.int p1), .val (.int p2), .val (.int p3)] [(.int 17)] _
    refine XS.iconst X0.here hx rfl (hb hby d2_16) ?_
    show oS p e below s₁ m 17 #[.val (.int 17), .val (.int p1), .val (.int p2), .val (.int p3)] [(.int 1), (.int 17)] _
    refine XS.icmpYes X0.here hx rfl (pc0 := 17) (pc' := 41) rfl (hb hby d2_17) rfl (feq (by decide : ¬ ((17 : Int32) = (1 : Int32)))).2 (by decide) (by decide) ?_
    show oS p e below s₁ m 41 #[.val (.int 17), .val (.int p1), .val (.int p2), .val (.int p3)] [] _
    refine XS.iloadN X0.here hx rfl (hb hby d2_41) rfl ?_
    show oS p e below s₁ m 42 #[.val (.int 17), .val (.int p1), .val (.int p2), .val (.int p3)] [(.int 17)] _
    refine XS.iconst X0.here hx rfl (hb hby d2_42) ?_
    show oS p e below s₁ m 43 #[.val (.int 17), .val (.int p1), .val (.int p2), .val (.int p3)] [(.int 2), (.int 17)] _
    refine XS.icmpYes X0.here hx rfl (pc0 := 43) (pc' := 77) rfl (hb hby d2_43) rfl (feq (by decide : ¬ ((17 : Int32) = (2 : Int32)))).2 (by decide) (by decide) ?_
    show oS p e below s₁ m 77 #[.val (.int 17), .val (.int p1), .val (.int p2), .val (.int p3)] [] _
    refine XS.iloadN X0.here hx rfl (hb hby d2_77) rfl ?_
    show oS p e below s₁ m 78 #[.val (.int 17), .val (.int p1), .val (.int p2), .val (.int p3)] [(.int 17)] _
    refine XS.iconst X0.here hx rfl (hb hby d2_78) ?_
    show oS p e below s₁ m 79 #[.val (.int 17), .val (.int p1), .val (.int p2), .val (.int p3)] [(.int 3), (.int 17)] _
    refine XS.icmpYes X0.here hx rfl (pc0 := 79) (pc' := 123) rfl (hb hby d2_79) rfl (feq (by decide : ¬ ((17 : Int32) = (3 : Int32)))).2 (by decide) (by decide) ?_
    show oS p e below s₁ m 123 #[.val (.int 17), .val (.int p1), .val (.int p2), .val (.int p3)] [] _
    refine XS.iloadN X0.here hx rfl (hb hby d2_123) rfl ?_
    show oS p e below s₁ m 124 #[.val (.int 17), .val (.int p1), .val (.int p2), .val (.int p3)] [(.int 17)] _
    refine XS.bipush X0.here hx rfl (hb hby d2_124) ?_
    show oS p e below s₁ m 126 #[.val (.int 17), .val (.int p1), .val (.int p2), .val (.int p3)] [(.int 15), (.int 17)] _
    refine XS.icmpYes X0.here hx rfl (pc0 := 126) (pc' := 309) rfl (hb hby d2_126) rfl (feq (by decide : ¬ ((17 : Int32) = (15 : Int32)))).2 (by decide) (by decide) ?_
    show oS p e below s₁ m 309 #[.val (.int 17), .val (.int p1), .val (.int p2), .val (.int p3)] [] _
    refine XS.iloadN X0.here hx rfl (hb hby d2_309) rfl ?_
    show oS p e below s₁ m 310 #[.val (.int 17), .val (.int p1), .val (.int p2), .val (.int p3)] [(.int 17)] _
    refine XS.bipush X0.here hx rfl (hb hby d2_310) ?_
    show oS p e below s₁ m 312 #[.val (.int 17), .val (.int p1), .val (.int p2), .val (.int p3)] [(.int 16), (.int 17)] _
    refine XS.icmpYes X0.here hx rfl (pc0 := 312) (pc' := 507) rfl (hb hby d2_312) rfl (feq (by decide : ¬ ((17 : Int32) = (16 : Int32)))).2 (by decide) (by decide) ?_
    show oS p e below s₁ m 507 #[.val (.int 17), .val (.int p1), .val (.int p2), .val (.int p3)] [] _
    refine st1 _ ?_
    show oS p e below T1 m 510 #[.val (.int 17), .val (.int p1), .val (.int p2), .val (.int p3)] [(.ref b1)] _
    refine XS.dup X1.here hx rfl (hb hby d2_510) rfl rfl ?_
    show oS p e below T1 m 511 #[.val (.int 17), .val (.int p1), .val (.int p2), .val (.int p3)] [(.ref b1), (.ref b1)] _
    refine XS.bipush X1.here hx rfl (hb hby d2_511) ?_
    show oS p e below T1 m 513 #[.val (.int 17), .val (.int p1), .val (.int p2), .val (.int p3)] [(.int 17), (.ref b1), (.ref b1)] _
    refine st2 _ ?_
    show oS p e below T2 m 515 #[.val (.int 17), .val (.int p1), .val (.int p2), .val (.int p3)] [(.ref b2), (.ref b1), (.ref b1)] _
    refine XS.dup X2.here hx rfl (hb hby d2_515) rfl rfl ?_
    show oS p e below T2 m 516 #[.val (.int 17), .val (.int p1), .val (.int p2), .val (.int p3)] [(.ref b2), (.ref b2), (.ref b1), (.ref b1)] _
    refine XS.iconst X2.here hx rfl (hb hby d2_516) ?_
    show oS p e below T2 m 517 #[.val (.int 17), .val (.int p1), .val (.int p2), .val (.int p3)] [(.int 0), (.ref b2), (.ref b2), (.ref b1), (.ref b1)] _
    refine XS.iconst X2.here hx rfl (hb hby d2_517) ?_
    show oS p e below T2 m 518 #[.val (.int 17), .val (.int p1), .val (.int p2), .val (.int p3)] [(.int 0), (.int 0), (.ref b2), (.ref b2), (.ref b1), (.ref b1)] _
    refine XS.iloadN X2.here hx rfl (hb hby d2_518) rfl ?_
    show oS p e below T2 m 519 #[.val (.int 17), .val (.int p1), .val (.int p2), .val (.int p3)] [(.int p1), (.int 0), (.int 0), (.ref b2), (.ref b2), (.ref b1), (.ref b1)] _
    refine XS.iloadN X2.here hx rfl (hb hby d2_519) rfl ?_
    show oS p e below T2 m 520 #[.val (.int 17), .val (.int p1), .val (.int p2), .val (.int p3)] [(.int p2), (.int p1), (.int 0), (.int 0), (.ref b2), (.ref b2), (.ref b1), (.ref b1)] _
    refine XS.iloadN X2.here hx rfl (hb hby d2_520) rfl ?_
    show oS p e below T2 m 521 #[.val (.int 17), .val (.int p1), .val (.int p2), .val (.int p3)] [(.int p3), (.int p2), (.int p1), (.int 0), (.int 0), (.ref b2), (.ref b2), (.ref b1), (.ref b1)] _
    refine st3 _ ?_
    show oS p e below T3 m 524 #[.val (.int 17), .val (.int p1), .val (.int p2), .val (.int p3)] [(.int (own_c 0 p1 p2 p3)), (.int 0), (.ref b2), (.ref b2), (.ref b1), (.ref b1)] _
    refine st4 _ ?_
    show oS p e below T4 m 525 #[.val (.int 17), .val (.int p1), .val (.int p2), .val (.int p3)] [(.ref b2), (.ref b1), (.ref b1)] _
    refine XS.dup X4.here hx rfl (hb hby d2_525) rfl rfl ?_
    show oS p e below T4 m 526 #[.val (.int 17), .val (.int p1), .val (.int p2), .val (.int p3)] [(.ref b2), (.ref b2), (.ref b1), (.ref b1)] _
    refine XS.iconst X4.here hx rfl (hb hby d2_526) ?_
    show oS p e below T4 m 527 #[.val (.int 17), .val (.int p1), .val (.int p2), .val (.int p3)] [(.int 1), (.ref b2), (.ref b2), (.ref b1), (.ref b1)] _
    refine XS.iconst X4.here hx rfl (hb hby d2_527) ?_
    show oS p e below T4 m 528 #[.val (.int 17), .val (.int p1), .val (.int p2), .val (.int p3)] [(.int 1), (.int 1), (.ref b2), (.ref b2), (.ref b1), (.ref b1)] _
    refine XS.iloadN X4.here hx rfl (hb hby d2_528) rfl ?_
    show oS p e below T4 m 529 #[.val (.int 17), .val (.int p1), .val (.int p2), .val (.int p3)] [(.int p1), (.int 1), (.int 1), (.ref b2), (.ref b2), (.ref b1), (.ref b1)] _
    refine XS.iloadN X4.here hx rfl (hb hby d2_529) rfl ?_
    show oS p e below T4 m 530 #[.val (.int 17), .val (.int p1), .val (.int p2), .val (.int p3)] [(.int p2), (.int p1), (.int 1), (.int 1), (.ref b2), (.ref b2), (.ref b1), (.ref b1)] _
    refine XS.iloadN X4.here hx rfl (hb hby d2_530) rfl ?_
    show oS p e below T4 m 531 #[.val (.int 17), .val (.int p1), .val (.int p2), .val (.int p3)] [(.int p3), (.int p2), (.int p1), (.int 1), (.int 1), (.ref b2), (.ref b2), (.ref b1), (.ref b1)] _
    refine st5 _ ?_
    show oS p e below T5 m 534 #[.val (.int 17), .val (.int p1), .val (.int p2), .val (.int p3)] [(.int (own_c 1 p1 p2 p3)), (.int 1), (.ref b2), (.ref b2), (.ref b1), (.ref b1)] _
    refine st6 _ ?_
    show oS p e below T6 m 535 #[.val (.int 17), .val (.int p1), .val (.int p2), .val (.int p3)] [(.ref b2), (.ref b1), (.ref b1)] _
    refine XS.dup X6.here hx rfl (hb hby d2_535) rfl rfl ?_
    show oS p e below T6 m 536 #[.val (.int 17), .val (.int p1), .val (.int p2), .val (.int p3)] [(.ref b2), (.ref b2), (.ref b1), (.ref b1)] _
    refine XS.iconst X6.here hx rfl (hb hby d2_536) ?_
    show oS p e below T6 m 537 #[.val (.int 17), .val (.int p1), .val (.int p2), .val (.int p3)] [(.int 2), (.ref b2), (.ref b2), (.ref b1), (.ref b1)] _
    refine XS.iconst X6.here hx rfl (hb hby d2_537) ?_
    show oS p e below T6 m 538 #[.val (.int 17), .val (.int p1), .val (.int p2), .val (.int p3)] [(.int 2), (.int 2), (.ref b2), (.ref b2), (.ref b1), (.ref b1)] _
    refine XS.iloadN X6.here hx rfl (hb hby d2_538) rfl ?_
    show oS p e below T6 m 539 #[.val (.int 17), .val (.int p1), .val (.int p2), .val (.int p3)] [(.int p1), (.int 2), (.int 2), (.ref b2), (.ref b2), (.ref b1), (.ref b1)] _
    refine XS.iloadN X6.here hx rfl (hb hby d2_539) rfl ?_
    show oS p e below T6 m 540 #[.val (.int 17), .val (.int p1), .val (.int p2), .val (.int p3)] [(.int p2), (.int p1), (.int 2), (.int 2), (.ref b2), (.ref b2), (.ref b1), (.ref b1)] _
    refine XS.iloadN X6.here hx rfl (hb hby d2_540) rfl ?_
    show oS p e below T6 m 541 #[.val (.int 17), .val (.int p1), .val (.int p2), .val (.int p3)] [(.int p3), (.int p2), (.int p1), (.int 2), (.int 2), (.ref b2), (.ref b2), (.ref b1), (.ref b1)] _
    refine st7 _ ?_
    show oS p e below T7 m 544 #[.val (.int 17), .val (.int p1), .val (.int p2), .val (.int p3)] [(.int (own_c 2 p1 p2 p3)), (.int 2), (.ref b2), (.ref b2), (.ref b1), (.ref b1)] _
    refine st8 _ ?_
    show oS p e below T8 m 545 #[.val (.int 17), .val (.int p1), .val (.int p2), .val (.int p3)] [(.ref b2), (.ref b1), (.ref b1)] _
    refine XS.dup X8.here hx rfl (hb hby d2_545) rfl rfl ?_
    show oS p e below T8 m 546 #[.val (.int 17), .val (.int p1), .val (.int p2), .val (.int p3)] [(.ref b2), (.ref b2), (.ref b1), (.ref b1)] _
    refine XS.iconst X8.here hx rfl (hb hby d2_546) ?_
    show oS p e below T8 m 547 #[.val (.int 17), .val (.int p1), .val (.int p2), .val (.int p3)] [(.int 3), (.ref b2), (.ref b2), (.ref b1), (.ref b1)] _
    refine XS.iconst X8.here hx rfl (hb hby d2_547) ?_
    show oS p e below T8 m 548 #[.val (.int 17), .val (.int p1), .val (.int p2), .val (.int p3)] [(.int 3), (.int 3), (.ref b2), (.ref b2), (.ref b1), (.ref b1)] _
    refine XS.iloadN X8.here hx rfl (hb hby d2_548) rfl ?_
    show oS p e below T8 m 549 #[.val (.int 17), .val (.int p1), .val (.int p2), .val (.int p3)] [(.int p1), (.int 3), (.int 3), (.ref b2), (.ref b2), (.ref b1), (.ref b1)] _
    refine XS.iloadN X8.here hx rfl (hb hby d2_549) rfl ?_
    show oS p e below T8 m 550 #[.val (.int 17), .val (.int p1), .val (.int p2), .val (.int p3)] [(.int p2), (.int p1), (.int 3), (.int 3), (.ref b2), (.ref b2), (.ref b1), (.ref b1)] _
    refine XS.iloadN X8.here hx rfl (hb hby d2_550) rfl ?_
    show oS p e below T8 m 551 #[.val (.int 17), .val (.int p1), .val (.int p2), .val (.int p3)] [(.int p3), (.int p2), (.int p1), (.int 3), (.int 3), (.ref b2), (.ref b2), (.ref b1), (.ref b1)] _
    refine st9 _ ?_
    show oS p e below T9 m 554 #[.val (.int 17), .val (.int p1), .val (.int p2), .val (.int p3)] [(.int (own_c 3 p1 p2 p3)), (.int 3), (.ref b2), (.ref b2), (.ref b1), (.ref b1)] _
    refine st10 _ ?_
    show oS p e below T10 m 555 #[.val (.int 17), .val (.int p1), .val (.int p2), .val (.int p3)] [(.ref b2), (.ref b1), (.ref b1)] _
    refine XS.dup X10.here hx rfl (hb hby d2_555) rfl rfl ?_
    show oS p e below T10 m 556 #[.val (.int 17), .val (.int p1), .val (.int p2), .val (.int p3)] [(.ref b2), (.ref b2), (.ref b1), (.ref b1)] _
    refine XS.iconst X10.here hx rfl (hb hby d2_556) ?_
    show oS p e below T10 m 557 #[.val (.int 17), .val (.int p1), .val (.int p2), .val (.int p3)] [(.int 4), (.ref b2), (.ref b2), (.ref b1), (.ref b1)] _
    refine XS.iconst X10.here hx rfl (hb hby d2_557) ?_
    show oS p e below T10 m 558 #[.val (.int 17), .val (.int p1), .val (.int p2), .val (.int p3)] [(.int 4), (.int 4), (.ref b2), (.ref b2), (.ref b1), (.ref b1)] _
    refine XS.iloadN X10.here hx rfl (hb hby d2_558) rfl ?_
    show oS p e below T10 m 559 #[.val (.int 17), .val (.int p1), .val (.int p2), .val (.int p3)] [(.int p1), (.int 4), (.int 4), (.ref b2), (.ref b2), (.ref b1), (.ref b1)] _
    refine XS.iloadN X10.here hx rfl (hb hby d2_559) rfl ?_
    show oS p e below T10 m 560 #[.val (.int 17), .val (.int p1), .val (.int p2), .val (.int p3)] [(.int p2), (.int p1), (.int 4), (.int 4), (.ref b2), (.ref b2), (.ref b1), (.ref b1)] _
    refine XS.iloadN X10.here hx rfl (hb hby d2_560) rfl ?_
    show oS p e below T10 m 561 #[.val (.int 17), .val (.int p1), .val (.int p2), .val (.int p3)] [(.int p3), (.int p2), (.int p1), (.int 4), (.int 4), (.ref b2), (.ref b2), (.ref b1), (.ref b1)] _
    refine st11 _ ?_
    show oS p e below T11 m 564 #[.val (.int 17), .val (.int p1), .val (.int p2), .val (.int p3)] [(.int (own_c 4 p1 p2 p3)), (.int 4), (.ref b2), (.ref b2), (.ref b1), (.ref b1)] _
    refine st12 _ ?_
    show oS p e below T12 m 565 #[.val (.int 17), .val (.int p1), .val (.int p2), .val (.int p3)] [(.ref b2), (.ref b1), (.ref b1)] _
    refine XS.dup X12.here hx rfl (hb hby d2_565) rfl rfl ?_
    show oS p e below T12 m 566 #[.val (.int 17), .val (.int p1), .val (.int p2), .val (.int p3)] [(.ref b2), (.ref b2), (.ref b1), (.ref b1)] _
    refine XS.iconst X12.here hx rfl (hb hby d2_566) ?_
    show oS p e below T12 m 567 #[.val (.int 17), .val (.int p1), .val (.int p2), .val (.int p3)] [(.int 5), (.ref b2), (.ref b2), (.ref b1), (.ref b1)] _
    refine XS.iconst X12.here hx rfl (hb hby d2_567) ?_
    show oS p e below T12 m 568 #[.val (.int 17), .val (.int p1), .val (.int p2), .val (.int p3)] [(.int 5), (.int 5), (.ref b2), (.ref b2), (.ref b1), (.ref b1)] _
    refine XS.iloadN X12.here hx rfl (hb hby d2_568) rfl ?_
    show oS p e below T12 m 569 #[.val (.int 17), .val (.int p1), .val (.int p2), .val (.int p3)] [(.int p1), (.int 5), (.int 5), (.ref b2), (.ref b2), (.ref b1), (.ref b1)] _
    refine XS.iloadN X12.here hx rfl (hb hby d2_569) rfl ?_
    show oS p e below T12 m 570 #[.val (.int 17), .val (.int p1), .val (.int p2), .val (.int p3)] [(.int p2), (.int p1), (.int 5), (.int 5), (.ref b2), (.ref b2), (.ref b1), (.ref b1)] _
    refine XS.iloadN X12.here hx rfl (hb hby d2_570) rfl ?_
    show oS p e below T12 m 571 #[.val (.int 17), .val (.int p1), .val (.int p2), .val (.int p3)] [(.int p3), (.int p2), (.int p1), (.int 5), (.int 5), (.ref b2), (.ref b2), (.ref b1), (.ref b1)] _
    refine st13 _ ?_
    show oS p e below T13 m 574 #[.val (.int 17), .val (.int p1), .val (.int p2), .val (.int p3)] [(.int (own_c 5 p1 p2 p3)), (.int 5), (.ref b2), (.ref b2), (.ref b1), (.ref b1)] _
    refine st14 _ ?_
    show oS p e below T14 m 575 #[.val (.int 17), .val (.int p1), .val (.int p2), .val (.int p3)] [(.ref b2), (.ref b1), (.ref b1)] _
    refine XS.dup X14.here hx rfl (hb hby d2_575) rfl rfl ?_
    show oS p e below T14 m 576 #[.val (.int 17), .val (.int p1), .val (.int p2), .val (.int p3)] [(.ref b2), (.ref b2), (.ref b1), (.ref b1)] _
    refine XS.bipush X14.here hx rfl (hb hby d2_576) ?_
    show oS p e below T14 m 578 #[.val (.int 17), .val (.int p1), .val (.int p2), .val (.int p3)] [(.int 6), (.ref b2), (.ref b2), (.ref b1), (.ref b1)] _
    refine XS.bipush X14.here hx rfl (hb hby d2_578) ?_
    show oS p e below T14 m 580 #[.val (.int 17), .val (.int p1), .val (.int p2), .val (.int p3)] [(.int 6), (.int 6), (.ref b2), (.ref b2), (.ref b1), (.ref b1)] _
    refine XS.iloadN X14.here hx rfl (hb hby d2_580) rfl ?_
    show oS p e below T14 m 581 #[.val (.int 17), .val (.int p1), .val (.int p2), .val (.int p3)] [(.int p1), (.int 6), (.int 6), (.ref b2), (.ref b2), (.ref b1), (.ref b1)] _
    refine XS.iloadN X14.here hx rfl (hb hby d2_581) rfl ?_
    show oS p e below T14 m 582 #[.val (.int 17), .val (.int p1), .val (.int p2), .val (.int p3)] [(.int p2), (.int p1), (.int 6), (.int 6), (.ref b2), (.ref b2), (.ref b1), (.ref b1)] _
    refine XS.iloadN X14.here hx rfl (hb hby d2_582) rfl ?_
    show oS p e below T14 m 583 #[.val (.int 17), .val (.int p1), .val (.int p2), .val (.int p3)] [(.int p3), (.int p2), (.int p1), (.int 6), (.int 6), (.ref b2), (.ref b2), (.ref b1), (.ref b1)] _
    refine st15 _ ?_
    show oS p e below T15 m 586 #[.val (.int 17), .val (.int p1), .val (.int p2), .val (.int p3)] [(.int (own_c 6 p1 p2 p3)), (.int 6), (.ref b2), (.ref b2), (.ref b1), (.ref b1)] _
    refine st16 _ ?_
    show oS p e below T16 m 587 #[.val (.int 17), .val (.int p1), .val (.int p2), .val (.int p3)] [(.ref b2), (.ref b1), (.ref b1)] _
    refine XS.dup X16.here hx rfl (hb hby d2_587) rfl rfl ?_
    show oS p e below T16 m 588 #[.val (.int 17), .val (.int p1), .val (.int p2), .val (.int p3)] [(.ref b2), (.ref b2), (.ref b1), (.ref b1)] _
    refine XS.bipush X16.here hx rfl (hb hby d2_588) ?_
    show oS p e below T16 m 590 #[.val (.int 17), .val (.int p1), .val (.int p2), .val (.int p3)] [(.int 7), (.ref b2), (.ref b2), (.ref b1), (.ref b1)] _
    refine XS.bipush X16.here hx rfl (hb hby d2_590) ?_
    show oS p e below T16 m 592 #[.val (.int 17), .val (.int p1), .val (.int p2), .val (.int p3)] [(.int 7), (.int 7), (.ref b2), (.ref b2), (.ref b1), (.ref b1)] _
    refine XS.iloadN X16.here hx rfl (hb hby d2_592) rfl ?_
    show oS p e below T16 m 593 #[.val (.int 17), .val (.int p1), .val (.int p2), .val (.int p3)] [(.int p1), (.int 7), (.int 7), (.ref b2), (.ref b2), (.ref b1), (.ref b1)] _
    refine XS.iloadN X16.here hx rfl (hb hby d2_593) rfl ?_
    show oS p e below T16 m 594 #[.val (.int 17), .val (.int p1), .val (.int p2), .val (.int p3)] [(.int p2), (.int p1), (.int 7), (.int 7), (.ref b2), (.ref b2), (.ref b1), (.ref b1)] _
    refine XS.iloadN X16.here hx rfl (hb hby d2_594) rfl ?_
    show oS p e below T16 m 595 #[.val (.int 17), .val (.int p1), .val (.int p2), .val (.int p3)] [(.int p3), (.int p2), (.int p1), (.int 7), (.int 7), (.ref b2), (.ref b2), (.ref b1), (.ref b1)] _
    refine st17 _ ?_
    show oS p e below T17 m 598 #[.val (.int 17), .val (.int p1), .val (.int p2), .val (.int p3)] [(.int (own_c 7 p1 p2 p3)), (.int 7), (.ref b2), (.ref b2), (.ref b1), (.ref b1)] _
    refine st18 _ ?_
    show oS p e below T18 m 599 #[.val (.int 17), .val (.int p1), .val (.int p2), .val (.int p3)] [(.ref b2), (.ref b1), (.ref b1)] _
    refine XS.dup X18.here hx rfl (hb hby d2_599) rfl rfl ?_
    show oS p e below T18 m 600 #[.val (.int 17), .val (.int p1), .val (.int p2), .val (.int p3)] [(.ref b2), (.ref b2), (.ref b1), (.ref b1)] _
    refine XS.bipush X18.here hx rfl (hb hby d2_600) ?_
    show oS p e below T18 m 602 #[.val (.int 17), .val (.int p1), .val (.int p2), .val (.int p3)] [(.int 8), (.ref b2), (.ref b2), (.ref b1), (.ref b1)] _
    refine XS.bipush X18.here hx rfl (hb hby d2_602) ?_
    show oS p e below T18 m 604 #[.val (.int 17), .val (.int p1), .val (.int p2), .val (.int p3)] [(.int 8), (.int 8), (.ref b2), (.ref b2), (.ref b1), (.ref b1)] _
    refine XS.iloadN X18.here hx rfl (hb hby d2_604) rfl ?_
    show oS p e below T18 m 605 #[.val (.int 17), .val (.int p1), .val (.int p2), .val (.int p3)] [(.int p1), (.int 8), (.int 8), (.ref b2), (.ref b2), (.ref b1), (.ref b1)] _
    refine XS.iloadN X18.here hx rfl (hb hby d2_605) rfl ?_
    show oS p e below T18 m 606 #[.val (.int 17), .val (.int p1), .val (.int p2), .val (.int p3)] [(.int p2), (.int p1), (.int 8), (.int 8), (.ref b2), (.ref b2), (.ref b1), (.ref b1)] _
    refine XS.iloadN X18.here hx rfl (hb hby d2_606) rfl ?_
    show oS p e below T18 m 607 #[.val (.int 17), .val (.int p1), .val (.int p2), .val (.int p3)] [(.int p3), (.int p2), (.int p1), (.int 8), (.int 8), (.ref b2), (.ref b2), (.ref b1), (.ref b1)] _
    refine st19 _ ?_
    show oS p e below T19 m 610 #[.val (.int 17), .val (.int p1), .val (.int p2), .val (.int p3)] [(.int (own_c 8 p1 p2 p3)), (.int 8), (.ref b2), (.ref b2), (.ref b1), (.ref b1)] _
    refine st20 _ ?_
    show oS p e below T20 m 611 #[.val (.int 17), .val (.int p1), .val (.int p2), .val (.int p3)] [(.ref b2), (.ref b1), (.ref b1)] _
    refine XS.dup X20.here hx rfl (hb hby d2_611) rfl rfl ?_
    show oS p e below T20 m 612 #[.val (.int 17), .val (.int p1), .val (.int p2), .val (.int p3)] [(.ref b2), (.ref b2), (.ref b1), (.ref b1)] _
    refine XS.bipush X20.here hx rfl (hb hby d2_612) ?_
    show oS p e below T20 m 614 #[.val (.int 17), .val (.int p1), .val (.int p2), .val (.int p3)] [(.int 9), (.ref b2), (.ref b2), (.ref b1), (.ref b1)] _
    refine XS.bipush X20.here hx rfl (hb hby d2_614) ?_
    show oS p e below T20 m 616 #[.val (.int 17), .val (.int p1), .val (.int p2), .val (.int p3)] [(.int 9), (.int 9), (.ref b2), (.ref b2), (.ref b1), (.ref b1)] _
    refine XS.iloadN X20.here hx rfl (hb hby d2_616) rfl ?_
    show oS p e below T20 m 617 #[.val (.int 17), .val (.int p1), .val (.int p2), .val (.int p3)] [(.int p1), (.int 9), (.int 9), (.ref b2), (.ref b2), (.ref b1), (.ref b1)] _
    refine XS.iloadN X20.here hx rfl (hb hby d2_617) rfl ?_
    show oS p e below T20 m 618 #[.val (.int 17), .val (.int p1), .val (.int p2), .val (.int p3)] [(.int p2), (.int p1), (.int 9), (.int 9), (.ref b2), (.ref b2), (.ref b1), (.ref b1)] _
    refine XS.iloadN X20.here hx rfl (hb hby d2_618) rfl ?_
    show oS p e below T20 m 619 #[.val (.int 17), .val (.int p1), .val (.int p2), .val (.int p3)] [(.int p3), (.int p2), (.int p1), (.int 9), (.int 9), (.ref b2), (.ref b2), (.ref b1), (.ref b1)] _
    refine st21 _ ?_
    show oS p e below T21 m 622 #[.val (.int 17), .val (.int p1), .val (.int p2), .val (.int p3)] [(.int (own_c 9 p1 p2 p3)), (.int 9), (.ref b2), (.ref b2), (.ref b1), (.ref b1)] _
    refine st22 _ ?_
    show oS p e below T22 m 623 #[.val (.int 17), .val (.int p1), .val (.int p2), .val (.int p3)] [(.ref b2), (.ref b1), (.ref b1)] _
    refine XS.dup X22.here hx rfl (hb hby d2_623) rfl rfl ?_
    show oS p e below T22 m 624 #[.val (.int 17), .val (.int p1), .val (.int p2), .val (.int p3)] [(.ref b2), (.ref b2), (.ref b1), (.ref b1)] _
    refine XS.bipush X22.here hx rfl (hb hby d2_624) ?_
    show oS p e below T22 m 626 #[.val (.int 17), .val (.int p1), .val (.int p2), .val (.int p3)] [(.int 10), (.ref b2), (.ref b2), (.ref b1), (.ref b1)] _
    refine XS.bipush X22.here hx rfl (hb hby d2_626) ?_
    show oS p e below T22 m 628 #[.val (.int 17), .val (.int p1), .val (.int p2), .val (.int p3)] [(.int 10), (.int 10), (.ref b2), (.ref b2), (.ref b1), (.ref b1)] _
    refine XS.iloadN X22.here hx rfl (hb hby d2_628) rfl ?_
    show oS p e below T22 m 629 #[.val (.int 17), .val (.int p1), .val (.int p2), .val (.int p3)] [(.int p1), (.int 10), (.int 10), (.ref b2), (.ref b2), (.ref b1), (.ref b1)] _
    refine XS.iloadN X22.here hx rfl (hb hby d2_629) rfl ?_
    show oS p e below T22 m 630 #[.val (.int 17), .val (.int p1), .val (.int p2), .val (.int p3)] [(.int p2), (.int p1), (.int 10), (.int 10), (.ref b2), (.ref b2), (.ref b1), (.ref b1)] _
    refine XS.iloadN X22.here hx rfl (hb hby d2_630) rfl ?_
    show oS p e below T22 m 631 #[.val (.int 17), .val (.int p1), .val (.int p2), .val (.int p3)] [(.int p3), (.int p2), (.int p1), (.int 10), (.int 10), (.ref b2), (.ref b2), (.ref b1), (.ref b1)] _
    refine st23 _ ?_
    show oS p e below T23 m 634 #[.val (.int 17), .val (.int p1), .val (.int p2), .val (.int p3)] [(.int (own_c 10 p1 p2 p3)), (.int 10), (.ref b2), (.ref b2), (.ref b1), (.ref b1)] _
    refine st24 _ ?_
    show oS p e below T24 m 635 #[.val (.int 17), .val (.int p1), .val (.int p2), .val (.int p3)] [(.ref b2), (.ref b1), (.ref b1)] _
    refine XS.dup X24.here hx rfl (hb hby d2_635) rfl rfl ?_
    show oS p e below T24 m 636 #[.val (.int 17), .val (.int p1), .val (.int p2), .val (.int p3)] [(.ref b2), (.ref b2), (.ref b1), (.ref b1)] _
    refine XS.bipush X24.here hx rfl (hb hby d2_636) ?_
    show oS p e below T24 m 638 #[.val (.int 17), .val (.int p1), .val (.int p2), .val (.int p3)] [(.int 11), (.ref b2), (.ref b2), (.ref b1), (.ref b1)] _
    refine XS.bipush X24.here hx rfl (hb hby d2_638) ?_
    show oS p e below T24 m 640 #[.val (.int 17), .val (.int p1), .val (.int p2), .val (.int p3)] [(.int 11), (.int 11), (.ref b2), (.ref b2), (.ref b1), (.ref b1)] _
    refine XS.iloadN X24.here hx rfl (hb hby d2_640) rfl ?_
    show oS p e below T24 m 641 #[.val (.int 17), .val (.int p1), .val (.int p2), .val (.int p3)] [(.int p1), (.int 11), (.int 11), (.ref b2), (.ref b2), (.ref b1), (.ref b1)] _
    refine XS.iloadN X24.here hx rfl (hb hby d2_641) rfl ?_
    show oS p e below T24 m 642 #[.val (.int 17), .val (.int p1), .val (.int p2), .val (.int p3)] [(.int p2), (.int p1), (.int 11), (.int 11), (.ref b2), (.ref b2), (.ref b1), (.ref b1)] _
    refine XS.iloadN X24.here hx rfl (hb hby d2_642) rfl ?_
    show oS p e below T24 m 643 #[.val (.int 17), .val (.int p1), .val (.int p2), .val (.int p3)] [(.int p3), (.int p2), (.int p1), (.int 11), (.int 11), (.ref b2), (.ref b2), (.ref b1), (.ref b1)] _
    refine st25 _ ?_
    show oS p e below T25 m 646 #[.val (.int 17), .val (.int p1), .val (.int p2), .val (.int p3)] [(.int (own_c 11 p1 p2 p3)), (.int 11), (.ref b2), (.ref b2), (.ref b1), (.ref b1)] _
    refine st26 _ ?_
    show oS p e below T26 m 647 #[.val (.int 17), .val (.int p1), .val (.int p2), .val (.int p3)] [(.ref b2), (.ref b1), (.ref b1)] _
    refine XS.dup X26.here hx rfl (hb hby d2_647) rfl rfl ?_
    show oS p e below T26 m 648 #[.val (.int 17), .val (.int p1), .val (.int p2), .val (.int p3)] [(.ref b2), (.ref b2), (.ref b1), (.ref b1)] _
    refine XS.bipush X26.here hx rfl (hb hby d2_648) ?_
    show oS p e below T26 m 650 #[.val (.int 17), .val (.int p1), .val (.int p2), .val (.int p3)] [(.int 12), (.ref b2), (.ref b2), (.ref b1), (.ref b1)] _
    refine XS.bipush X26.here hx rfl (hb hby d2_650) ?_
    show oS p e below T26 m 652 #[.val (.int 17), .val (.int p1), .val (.int p2), .val (.int p3)] [(.int 12), (.int 12), (.ref b2), (.ref b2), (.ref b1), (.ref b1)] _
    refine XS.iloadN X26.here hx rfl (hb hby d2_652) rfl ?_
    show oS p e below T26 m 653 #[.val (.int 17), .val (.int p1), .val (.int p2), .val (.int p3)] [(.int p1), (.int 12), (.int 12), (.ref b2), (.ref b2), (.ref b1), (.ref b1)] _
    refine XS.iloadN X26.here hx rfl (hb hby d2_653) rfl ?_
    show oS p e below T26 m 654 #[.val (.int 17), .val (.int p1), .val (.int p2), .val (.int p3)] [(.int p2), (.int p1), (.int 12), (.int 12), (.ref b2), (.ref b2), (.ref b1), (.ref b1)] _
    refine XS.iloadN X26.here hx rfl (hb hby d2_654) rfl ?_
    show oS p e below T26 m 655 #[.val (.int 17), .val (.int p1), .val (.int p2), .val (.int p3)] [(.int p3), (.int p2), (.int p1), (.int 12), (.int 12), (.ref b2), (.ref b2), (.ref b1), (.ref b1)] _
    refine st27 _ ?_
    show oS p e below T27 m 658 #[.val (.int 17), .val (.int p1), .val (.int p2), .val (.int p3)] [(.int (own_c 12 p1 p2 p3)), (.int 12), (.ref b2), (.ref b2), (.ref b1), (.ref b1)] _
    refine st28 _ ?_
    show oS p e below T28 m 659 #[.val (.int 17), .val (.int p1), .val (.int p2), .val (.int p3)] [(.ref b2), (.ref b1), (.ref b1)] _
    refine XS.dup X28.here hx rfl (hb hby d2_659) rfl rfl ?_
    show oS p e below T28 m 660 #[.val (.int 17), .val (.int p1), .val (.int p2), .val (.int p3)] [(.ref b2), (.ref b2), (.ref b1), (.ref b1)] _
    refine XS.bipush X28.here hx rfl (hb hby d2_660) ?_
    show oS p e below T28 m 662 #[.val (.int 17), .val (.int p1), .val (.int p2), .val (.int p3)] [(.int 13), (.ref b2), (.ref b2), (.ref b1), (.ref b1)] _
    refine XS.bipush X28.here hx rfl (hb hby d2_662) ?_
    show oS p e below T28 m 664 #[.val (.int 17), .val (.int p1), .val (.int p2), .val (.int p3)] [(.int 13), (.int 13), (.ref b2), (.ref b2), (.ref b1), (.ref b1)] _
    refine XS.iloadN X28.here hx rfl (hb hby d2_664) rfl ?_
    show oS p e below T28 m 665 #[.val (.int 17), .val (.int p1), .val (.int p2), .val (.int p3)] [(.int p1), (.int 13), (.int 13), (.ref b2), (.ref b2), (.ref b1), (.ref b1)] _
    refine XS.iloadN X28.here hx rfl (hb hby d2_665) rfl ?_
    show oS p e below T28 m 666 #[.val (.int 17), .val (.int p1), .val (.int p2), .val (.int p3)] [(.int p2), (.int p1), (.int 13), (.int 13), (.ref b2), (.ref b2), (.ref b1), (.ref b1)] _
    refine XS.iloadN X28.here hx rfl (hb hby d2_666) rfl ?_
    show oS p e below T28 m 667 #[.val (.int 17), .val (.int p1), .val (.int p2), .val (.int p3)] [(.int p3), (.int p2), (.int p1), (.int 13), (.int 13), (.ref b2), (.ref b2), (.ref b1), (.ref b1)] _
    refine st29 _ ?_
    show oS p e below T29 m 670 #[.val (.int 17), .val (.int p1), .val (.int p2), .val (.int p3)] [(.int (own_c 13 p1 p2 p3)), (.int 13), (.ref b2), (.ref b2), (.ref b1), (.ref b1)] _
    refine st30 _ ?_
    show oS p e below T30 m 671 #[.val (.int 17), .val (.int p1), .val (.int p2), .val (.int p3)] [(.ref b2), (.ref b1), (.ref b1)] _
    refine XS.dup X30.here hx rfl (hb hby d2_671) rfl rfl ?_
    show oS p e below T30 m 672 #[.val (.int 17), .val (.int p1), .val (.int p2), .val (.int p3)] [(.ref b2), (.ref b2), (.ref b1), (.ref b1)] _
    refine XS.bipush X30.here hx rfl (hb hby d2_672) ?_
    show oS p e below T30 m 674 #[.val (.int 17), .val (.int p1), .val (.int p2), .val (.int p3)] [(.int 14), (.ref b2), (.ref b2), (.ref b1), (.ref b1)] _
    refine XS.bipush X30.here hx rfl (hb hby d2_674) ?_
    show oS p e below T30 m 676 #[.val (.int 17), .val (.int p1), .val (.int p2), .val (.int p3)] [(.int 14), (.int 14), (.ref b2), (.ref b2), (.ref b1), (.ref b1)] _
    refine XS.iloadN X30.here hx rfl (hb hby d2_676) rfl ?_
    show oS p e below T30 m 677 #[.val (.int 17), .val (.int p1), .val (.int p2), .val (.int p3)] [(.int p1), (.int 14), (.int 14), (.ref b2), (.ref b2), (.ref b1), (.ref b1)] _
    refine XS.iloadN X30.here hx rfl (hb hby d2_677) rfl ?_
    show oS p e below T30 m 678 #[.val (.int 17), .val (.int p1), .val (.int p2), .val (.int p3)] [(.int p2), (.int p1), (.int 14), (.int 14), (.ref b2), (.ref b2), (.ref b1), (.ref b1)] _
    refine XS.iloadN X30.here hx rfl (hb hby d2_678) rfl ?_
    show oS p e below T30 m 679 #[.val (.int 17), .val (.int p1), .val (.int p2), .val (.int p3)] [(.int p3), (.int p2), (.int p1), (.int 14), (.int 14), (.ref b2), (.ref b2), (.ref b1), (.ref b1)] _
    refine st31 _ ?_
    show oS p e below T31 m 682 #[.val (.int 17), .val (.int p1), .val (.int p2), .val (.int p3)] [(.int (own_c 14 p1 p2 p3)), (.int 14), (.ref b2), (.ref b2), (.ref b1), (.ref b1)] _
    refine st32 _ ?_
    show oS p e below T32 m 683 #[.val (.int 17), .val (.int p1), .val (.int p2), .val (.int p3)] [(.ref b2), (.ref b1), (.ref b1)] _
    refine XS.dup X32.here hx rfl (hb hby d2_683) rfl rfl ?_
    show oS p e below T32 m 684 #[.val (.int 17), .val (.int p1), .val (.int p2), .val (.int p3)] [(.ref b2), (.ref b2), (.ref b1), (.ref b1)] _
    refine XS.bipush X32.here hx rfl (hb hby d2_684) ?_
    show oS p e below T32 m 686 #[.val (.int 17), .val (.int p1), .val (.int p2), .val (.int p3)] [(.int 15), (.ref b2), (.ref b2), (.ref b1), (.ref b1)] _
    refine XS.bipush X32.here hx rfl (hb hby d2_686) ?_
    show oS p e below T32 m 688 #[.val (.int 17), .val (.int p1), .val (.int p2), .val (.int p3)] [(.int 15), (.int 15), (.ref b2), (.ref b2), (.ref b1), (.ref b1)] _
    refine XS.iloadN X32.here hx rfl (hb hby d2_688) rfl ?_
    show oS p e below T32 m 689 #[.val (.int 17), .val (.int p1), .val (.int p2), .val (.int p3)] [(.int p1), (.int 15), (.int 15), (.ref b2), (.ref b2), (.ref b1), (.ref b1)] _
    refine XS.iloadN X32.here hx rfl (hb hby d2_689) rfl ?_
    show oS p e below T32 m 690 #[.val (.int 17), .val (.int p1), .val (.int p2), .val (.int p3)] [(.int p2), (.int p1), (.int 15), (.int 15), (.ref b2), (.ref b2), (.ref b1), (.ref b1)] _
    refine XS.iloadN X32.here hx rfl (hb hby d2_690) rfl ?_
    show oS p e below T32 m 691 #[.val (.int 17), .val (.int p1), .val (.int p2), .val (.int p3)] [(.int p3), (.int p2), (.int p1), (.int 15), (.int 15), (.ref b2), (.ref b2), (.ref b1), (.ref b1)] _
    refine st33 _ ?_
    show oS p e below T33 m 694 #[.val (.int 17), .val (.int p1), .val (.int p2), .val (.int p3)] [(.int (own_c 15 p1 p2 p3)), (.int 15), (.ref b2), (.ref b2), (.ref b1), (.ref b1)] _
    refine st34 _ ?_
    show oS p e below T34 m 695 #[.val (.int 17), .val (.int p1), .val (.int p2), .val (.int p3)] [(.ref b2), (.ref b1), (.ref b1)] _
    refine XS.dup X34.here hx rfl (hb hby d2_695) rfl rfl ?_
    show oS p e below T34 m 696 #[.val (.int 17), .val (.int p1), .val (.int p2), .val (.int p3)] [(.ref b2), (.ref b2), (.ref b1), (.ref b1)] _
    refine XS.bipush X34.here hx rfl (hb hby d2_696) ?_
    show oS p e below T34 m 698 #[.val (.int 17), .val (.int p1), .val (.int p2), .val (.int p3)] [(.int 16), (.ref b2), (.ref b2), (.ref b1), (.ref b1)] _
    refine XS.bipush X34.here hx rfl (hb hby d2_698) ?_
    show oS p e below T34 m 700 #[.val (.int 17), .val (.int p1), .val (.int p2), .val (.int p3)] [(.int 16), (.int 16), (.ref b2), (.ref b2), (.ref b1), (.ref b1)] _
    refine XS.iloadN X34.here hx rfl (hb hby d2_700) rfl ?_
    show oS p e below T34 m 701 #[.val (.int 17), .val (.int p1), .val (.int p2), .val (.int p3)] [(.int p1), (.int 16), (.int 16), (.ref b2), (.ref b2), (.ref b1), (.ref b1)] _
    refine XS.iloadN X34.here hx rfl (hb hby d2_701) rfl ?_
    show oS p e below T34 m 702 #[.val (.int 17), .val (.int p1), .val (.int p2), .val (.int p3)] [(.int p2), (.int p1), (.int 16), (.int 16), (.ref b2), (.ref b2), (.ref b1), (.ref b1)] _
    refine XS.iloadN X34.here hx rfl (hb hby d2_702) rfl ?_
    show oS p e below T34 m 703 #[.val (.int 17), .val (.int p1), .val (.int p2), .val (.int p3)] [(.int p3), (.int p2), (.int p1), (.int 16), (.int 16), (.ref b2), (.ref b2), (.ref b1), (.ref b1)] _
    refine st35 _ ?_
    show oS p e below T35 m 706 #[.val (.int 17), .val (.int p1), .val (.int p2), .val (.int p3)] [(.int (own_c 16 p1 p2 p3)), (.int 16), (.ref b2), (.ref b2), (.ref b1), (.ref b1)] _
    refine st36 _ ?_
    show oS p e below T36 m 707 #[.val (.int 17), .val (.int p1), .val (.int p2), .val (.int p3)] [(.ref b2), (.ref b1), (.ref b1)] _
    refine st37.trans ?_
    show Steps p.tables e below (T37.setTop (mkF m 710 #[.val (.int 17), .val (.int p1), .val (.int p2), .val (.int p3)] [(.ref b1)])) _
    jvm_step Xx37.here [Xx37.here.top, hx, (hb hby d2_710), Xx37.method', Bd.returns, Value.isRef, FieldType.isReference]
    first | (intro acts; rw [hr _ acts rfl rfl rfl]) | rw [hr _ _ rfl rfl rfl]
    exact Steps.refl _
  · show own_QM Z ([own_d 0 p1 p2 p3, own_d 1 p1 p2 p3, own_d 2 p1 p2 p3, own_d 3 p1 p2 p3, own_d 4 p1 p2 p3, own_d 5 p1 p2 p3, own_d 6 p1 p2 p3, own_d 7 p1 p2 p3, own_d 8 p1 p2 p3, own_d 9 p1 p2 p3, own_d 10 p1 p2 p3, own_d 11 p1 p2 p3, own_d 12 p1 p2 p3, own_d 13 p1 p2 p3, own_d 14 p1 p2 p3, own_d 15 p1 p2 p3, own_d 16 p1 p2 p3] : List Int32) h0 n0 _ T37.heap _
    exact ⟨b1, t37, kt37, rfl, Nx37, (((((((((((((((((((((Keep.refl h0 []).ext E1).ext E2).wr W4 (Or.inr (Nat.le_trans E1.1 (Nat.le_of_eq g2.symm)))).wr W6 (Or.inr (Nat.le_trans E1.1 (Nat.le_of_eq g2.symm)))).wr W8 (Or.inr (Nat.le_trans E1.1 (Nat.le_of_eq g2.symm)))).wr W10 (Or.inr (Nat.le_trans E1.1 (Nat.le_of_eq g2.symm)))).wr W12 (Or.inr (Nat.le_trans E1.1 (Nat.le_of_eq g2.symm)))).wr W14 (Or.inr (Nat.le_trans E1.1 (Nat.le_of_eq g2.symm)))).wr W16 (Or.inr (Nat.le_trans E1.1 (Nat.le_of_eq g2.symm)))).wr W18 (Or.inr (Nat.le_trans E1.1 (Nat.le_of_eq g2.symm)))).wr W20 (Or.inr (Nat.le_trans E1.1 (Nat.le_of_eq g2.symm)))).wr W22 (Or.inr (Nat.le_trans E1.1 (Nat.le_of_eq g2.symm)))).wr W24 (Or.inr (Nat.le_trans E1.1 (Nat.le_of_eq g2.symm)))).wr W26 (Or.inr (Nat.le_trans E1.1 (Nat.le_of_eq g2.symm)))).wr W28 (Or.inr (Nat.le_trans E1.1 (Nat.le_of_eq g2.symm)))).wr W30 (Or.inr (Nat.le_trans E1.1 (Nat.le_of_eq g2.symm)))).wr W32 (Or.inr (Nat.le_trans E1.1 (Nat.le_of_eq g2.symm)))).wr W34 (Or.inr (Nat.le_trans E1.1 (Nat.le_of_eq g2.symm)))).wr W36 (Or.inr (Nat.le_trans E1.1 (Nat.le_of_eq g2.symm)))).trans K37 (allS (Or.inr (Nat.le_of_eq g1.symm)) all0)), Ex37, Fv37, Fc37, Vt37⟩
set_option maxRecDepth 65536 in
theorem rmM (l : Launch) (Z : State) (a0 : Array Value) (hw : ∀ d ∈ tables_1, d.before a0 Z = true) (ws : List Jvm.Cond) (vn : Nat) (p1 p2 p3 zc : Int32) (h0 : Heap) (n0 : Nat) (O0 : Old Z n0 h0) (hv : vn = 1 ∨ vn = 2 ∨ vn = 3 ∨ vn = 15 ∨ vn = 16 ∨ vn = 17) (S_COMPACT_STRINGS : Sta Z Z.heap "java/lang/String" "COMPACT_STRINGS" "Z" (.int zc)) (hzc : ¬ zc = 0) (hp : ∀ c ∈ own_cs vn p1 p2 p3, ¬ c < 0 ∧ ¬ (255 : Int32) < c) : MetFree l (⟨"com/example/dispensd/dispensd/IdentifierIsValidPinLaw", "make", "(IICC)Ljava/lang/String;"⟩ : MethodName) (head1 (Jvm.Cond.code (⟨"com/example/dispensd/dispensd/IdentifierIsValidPinLaw", "make", "(IICC)Ljava/lang/String;"⟩ : MethodName) method_4_code 4 (some (.object "java/lang/String")) :: ws) ({ frames := 4, cells := 3, slots := 38, locals := 66 } : Room)) (fun a U => a = #[(.int (Int32.ofNat vn)), (.int p1), (.int p2), (.int p3)] ∧ Z.Warmed39 U.vm ∧ U.heap = h0) (fun _ _ _ _ _ => True) (fun _ U o U' => ∃ v L, o = .returned v ∧ own_QM Z (own_cs vn p1 p2 p3) h0 n0 v U'.heap L ∧ FrameEnd U o U' L ({ frames := 4, cells := 3, slots := 38, locals := 66 } : Room).cells ({ frames := 4, cells := 3, slots := 38, locals := 66 } : Room).slots) := by
  rcases hv with rfl | rfl | rfl | rfl | rfl | rfl
  · exact rmM1 l Z a0 hw ws p1 p2 p3 zc h0 n0 O0 S_COMPACT_STRINGS hzc hp
  · exact rmM2 l Z a0 hw ws p1 p2 p3 zc h0 n0 O0 S_COMPACT_STRINGS hzc hp
  · exact rmM3 l Z a0 hw ws p1 p2 p3 zc h0 n0 O0 S_COMPACT_STRINGS hzc hp
  · exact rmM15 l Z a0 hw ws p1 p2 p3 zc h0 n0 O0 S_COMPACT_STRINGS hzc hp
  · exact rmM16 l Z a0 hw ws p1 p2 p3 zc h0 n0 O0 S_COMPACT_STRINGS hzc hp
  · exact rmM17 l Z a0 hw ws p1 p2 p3 zc h0 n0 O0 S_COMPACT_STRINGS hzc hp
theorem own_ne0 {Z : State} {h : Heap} {a b : Addr} {k : ClassId} {ty : FieldType} {vs : List Value} {dv v : Value} {C n d : String} (A : Arv Z h a k ty (0 : Int32) vs dv) (F : Fld Z h b C n d v) : a ≠ b := by
  rintro rfl
  obtain ⟨c, A1, -, hs, -⟩ := A
  obtain ⟨cell, cf, kk, i, f, e1, -, -, -, -, -, e2⟩ := F
  have e3 : some c = some cell := A1.1.symm.trans e1
  injection e3 with e3
  subst e3
  have e4 : c.slots.size = 0 := hs
  have e5 : c.slots[f.slot]? = none := Array.getElem?_eq_none (by omega)
  rw [e5] at e2
  cases e2
def own_QE (Z : State) (o : Addr) (n0 : Nat) (v : Option Value) (h : Heap) (L : List Loc) : Prop := ∃ (t : Addr) (kt : ClassId), v = none ∧ Fr n0 L ∧ Old Z n0 h ∧ Exa Z h o "java/lang/String" ∧ Fld Z h o "java/lang/String" "value" "[B" (.ref t) ∧ Arv Z h t kt .byte (0 : Int32) [] (.int 0)
def own_QM0 (Z : State) (n0 : Nat) (v : Option Value) (h : Heap) (L : List Loc) : Prop := ∃ (x t : Addr) (kt : ClassId), v = some (.ref x) ∧ Fr n0 L ∧ Old Z n0 h ∧ Exa Z h x "java/lang/String" ∧ Fld Z h x "java/lang/String" "value" "[B" (.ref t) ∧ Arv Z h t kt .byte (0 : Int32) [] (.int 0)
def own_QV (r : Value) (Z : State) (n0 : Nat) (v : Option Value) (h : Heap) (L : List Loc) : Prop := v = some r ∧ Fr n0 L ∧ Old Z n0 h
theorem d5_0 : decode jdk_42_method_149_code 0 = .ok (.aload_n 0, 1) := by decide +kernel
theorem d5_1 : decode jdk_42_method_149_code 1 = .ok (.invokespecial 1, 3) := by decide +kernel
theorem d5_4 : decode jdk_42_method_149_code 4 = .ok (.iload_n 3, 1) := by decide +kernel
theorem d5_5 : decode jdk_42_method_149_code 5 = .ok (.ifCond .ne 22, 3) := by decide +kernel
theorem d5_8 : decode jdk_42_method_149_code 8 = .ok (.aload_n 0, 1) := by decide +kernel
theorem d5_9 : decode jdk_42_method_149_code 9 = .ok (.ldc 7, 2) := by decide +kernel
theorem own_sa {a0 : Array Value} {Z : State} (hw : ∀ d ∈ tables_1, d.before a0 Z = true) : ∀ a ∈ Bundle.stringAtoms, a.before a0 Z = true := by
  intro a ha
  simp only [Bundle.stringAtoms, List.mem_cons, List.not_mem_nil, or_false] at ha
  rcases ha with rfl | rfl | rfl | rfl | rfl | rfl | rfl
  · exact (own_w hw 11 rfl)
  · exact (own_w hw 10 rfl)
  · exact (own_w hw 31 rfl)
  · exact (own_w hw 41 rfl)
  · exact (own_w hw 39 rfl)
  · exact (own_w hw 61 rfl)
  · exact (own_w hw 62 rfl)
theorem d5_11 : decode jdk_42_method_149_code 11 = .ok (.getfield 9, 3) := by decide +kernel
theorem d5_14 : decode jdk_42_method_149_code 14 = .ok (.putfield 9, 3) := by decide +kernel
theorem d5_17 : decode jdk_42_method_149_code 17 = .ok (.aload_n 0, 1) := by decide +kernel
theorem d5_18 : decode jdk_42_method_149_code 18 = .ok (.ldc 7, 2) := by decide +kernel
theorem d5_20 : decode jdk_42_method_149_code 20 = .ok (.getfield 15, 3) := by decide +kernel
theorem d5_23 : decode jdk_42_method_149_code 23 = .ok (.putfield 15, 3) := by decide +kernel
theorem d5_26 : decode jdk_42_method_149_code 26 = .ok (.return_, 1) := by decide +kernel
theorem ef_5_vvvvn (m : MethodId) (x0 : Addr) (x1 : Addr) (x2 : Int32) (x3 : Int32) : entryFrame m #[(.ref x0), (.ref x1), (.int x2), (.int x3), .null] 6 = mkF m 0 #[.val (.ref x0), .val (.ref x1), .val (.int x2), .val (.int x3), .val .null, .unset] [] := by first | (simp [entryFrame, mkF, argsToLocals, Value.category]; done) | rfl
theorem pn_5 : plainName "java/lang/String" = true := by first | (simp [plainName, overriddenIn]; done) | decide +kernel
set_option maxRecDepth 65536 in
set_option maxHeartbeats 40000000 in
theorem rmE1 (l : Launch) (Z : State) (a0 : Array Value) (hw : ∀ d ∈ tables_1, d.before a0 Z = true) (ws : List Jvm.Cond) (o0 : Addr) (o1 : Addr) (h0 : Heap) (n0 : Nat) (O0 : Old Z n0 h0) (E_o0 : Exa Z h0 o0 "java/lang/String") (U_o0 : Unt h0 o0) (g_o0 : n0 ≤ o0) (F_value_o0 : Fld Z h0 o0 "java/lang/String" "value" "[B" .null) (hheld : Jvm.Lit.constHeld Z "java/lang/String" 7) (hcw : Jvm.Lit.compactW.before a0 Z = true) :
    MetFree l (⟨"java/lang/String", "<init>", "([CIILjava/lang/Void;)V"⟩ : MethodName) (head1 (Jvm.Cond.code (⟨"java/lang/String", "<init>", "([CIILjava/lang/Void;)V"⟩ : MethodName) jdk_42_method_149_code 6 none :: ws) ({ frames := 1, cells := 2, slots := 4, locals := 12 } : Room)) (fun a U => a = #[(.ref o0), (.ref o1), (.int 0), (.int 0), .null] ∧ Z.Warmed39 U.vm ∧ U.heap = h0 ∧ U.vm.interned = Z.vm.interned) (fun _ _ _ _ _ => True) (fun _ U o U' => ∃ v L, o = .returned v ∧ own_QE Z o0 n0 v U'.heap L ∧ ReturnedEndW U o U' L ({ frames := 1, cells := 2, slots := 4, locals := 12 } : Room).cells ({ frames := 1, cells := 2, slots := 4, locals := 12 } : Room).slots) := by
  refine MetFree.of_bodySF (plainFor_of_name pn_5) hisR ?_
  intro p e s m args below meth c s₁ Bd hml0 hP hK
  obtain ⟨rfl, hZ, hh, hint⟩ := hP
  have hx := Bd.exec
  have hby := Bd.bytes
  have hml : c.maxLocals = 6 := hml0
  have hown : s.vm.findClass "java/lang/String" = some m.cls := findClass_of_methodNamed Bd.named
  have hnm := (name_of_methodNamed Bd.named Bd.method).1
  have X0 : Stand p l e ({ frames := 1, cells := 2, slots := 4, locals := 12 } : Room) s m #[(.ref o0), (.ref o1), (.int 0), (.int 0), .null] below meth c s₁ [] 0 0 := Stand.of_body Bd
  have e0 : s₁.heap = h0 := by rw [← hh, Bd.state]; rfl
  have N0 := Fr.nil n0
  have pre0 : ∀ t, Steps p.tables e below (s₁.setTop (mkF m 0 #[.val (.ref o0), .val (.ref o1), .val (.int 0), .val (.int 0), .val .null, .unset] [])) t → Steps p.tables e below (s₁.setTop (entryFrame m #[(.ref o0), (.ref o1), (.int 0), (.int 0), .null] 6)) t := fun t k => castTop (ef_5_vvvvn m o0 o1 (0 : Int32) (0 : Int32)) k
  obtain ⟨T1, X1, e1, st1⟩ := initO X0 hx hZ hown (own_w hw 23 rfl) (own_w hw 24 rfl) (own_w hw 25 rfl) e0 (g := (mkF m 1 #[.val (.ref o0), .val (.ref o1), .val (.int 0), .val (.int 0), .val .null, .unset] [(.ref o0)])) rfl (by rw [hml]; rfl) rfl (hb hby d5_1) (by decide) (W := 0) (by show 2 * 0 + _ ≤ _; exact Nat.le_of_eq rfl) (by decide)
  have Sn0 : s.Since s.vm 0 := (State.WarmedH.refl s).since 0
  have XS0 : Stand p l e _ (s.setVm s.vm) m #[(.ref o0), (.ref o1), (.int 0), (.int 0), .null] below meth c T1 _ 0 0 := X1
  have hZS : Z.Warmed39 s.vm := hZ
  have hownS : s.vm.findClass "java/lang/String" = some m.cls := hown
  obtain ⟨sa2, T2, h2, ks2, tb2, kb2, X2, e2, E2, Sn2, hk2, hZ2, hown2, Ea2, Fc2, Fv2, Vb2, la2, lb2, Ib2, Lt2, st2⟩ := ldcSVL XS0 hx hZ hown (own_w hw 112 rfl) (own_sa hw) e1 Sn0 (Nat.zero_le _) (Fr.nil _) (fun b cl q => by rw [hh]; exact O0.2.2 b cl q) (Ts := []) ⟨#[], by rw [hint]; simp, fun q hq => by simp at hq⟩ (by simp) hheld hcw (vs := []) (z := (0 : Int32)) ⟨by decide, rfl⟩ (by decide) (by decide) (g := (mkF m 9 #[.val (.ref o0), .val (.ref o1), .val (.int 0), .val (.int 0), .val .null, .unset] [(.ref o0)])) rfl (hb hby d5_9) (n := 0) (by decide) (by decide) (by decide) (by decide)
  have O2 := O0.ext E2
  have nea := Fld.ne Fv2 (F_value_o0.ext E2) (by simp)
  have neb := own_ne0 Vb2 (F_value_o0.ext E2)
  obtain ⟨T3, X3, e3, st3⟩ := getF X2 hx hZ2 hown2 (host := "") (Or.inl (own_w hw 40 rfl)) Via.refl e2 Fv2 (g := (mkF m 11 #[.val (.ref o0), .val (.ref o1), .val (.int 0), .val (.int 0), .val .null, .unset] [(.ref sa2), (.ref o0)])) rfl rfl (hb hby d5_11)
  obtain ⟨T4, h4, X4, e4, W4, st4⟩ := putF X3 hx hZ2 hown2 (host := "") (Or.inl (own_w hw 40 rfl)) Via.refl e3 (F_value_o0.ext E2) (E_o0.ext E2) (Or.inr ⟨(own_w hw 41 rfl), rfl, hnm⟩) (own_w hw 10 rfl) (ty := (.array .byte)) (by decide) rfl rfl (g := (mkF m 14 #[.val (.ref o0), .val (.ref o1), .val (.int 0), .val (.int 0), .val .null, .unset] [(.ref tb2), (.ref o0)])) rfl rfl (hb hby d5_14)
  have O4 := O2.wr W4 g_o0
  have Fw4 := (F_value_o0.ext E2).same W4
  have N4 := Fr.snoc X4 N0 g_o0
  obtain ⟨T5, X5, e5, st5⟩ := getF X4 hx hZ2 hown2 (host := "") (Or.inl (own_w hw 38 rfl)) Via.refl e4 (Fc2.other W4 (Or.inl nea)) (g := (mkF m 20 #[.val (.ref o0), .val (.ref o1), .val (.int 0), .val (.int 0), .val .null, .unset] [(.ref sa2), (.ref o0)])) rfl rfl (hb hby d5_20)
  obtain ⟨uo6, Fo6⟩ := fld_laid ((E_o0.ext E2).wr W4) (Unt.known (Unt.wr W4 (Unt.ext E2 U_o0))) (own_w hw 10 rfl) (Or.inr (own_w hw 39 rfl))
  obtain ⟨T6, h6, X6, e6, W6, st6⟩ := putFN X5 hx hZ2 hown2 (own_w hw 38 rfl) Via.refl e5 Fo6 ((E_o0.ext E2).wr W4) (Or.inr ⟨(own_w hw 39 rfl), rfl, hnm⟩) (own_w hw 10 rfl) (ty := .byte) (v' := (.int 0)) (by decide) rfl (by decide) (g := (mkF m 23 #[.val (.ref o0), .val (.ref o1), .val (.int 0), .val (.int 0), .val .null, .unset] [(.int 0), (.ref o0)])) rfl rfl (hb hby d5_23)
  have O6 := O4.wr W6 g_o0
  have Fw6 := Fo6.same W6
  have N6 := Fr.snoc X6 N4 g_o0
  have f_o0_3_value := (Fw4.other W6 (Or.inr (slot_ne (Or.inr (own_w hw 41 rfl)) (Or.inr (own_w hw 39 rfl)) (by decide) (t := (.array .byte)) (t' := .byte) (by decide) (by decide))))
  obtain ⟨fs, hr, hrun, hended, hRW⟩ := X6.leaveW Sn2 (by rw [e6]; exact (Nat.le_trans hk2 (Nat.le_trans (Keep.of_wr W4).1 (Keep.of_wr W6).1))) (v := none) (fun _ => rfl)
  refine ⟨_, _, pre0 _ ?_, hrun, hended, _, _, rfl, ?_, hRW.1, hRW.2.1, hRW.2.2.1, hRW.2.2.2.mono (by decide) (by decide)⟩
  · show oS p e below s₁ m 0 #[.val (.ref o0), .val (.ref o1), .val (.int 0), .val (.int 0), .val .null, .unset] [] _
    refine XS.aloadN X0.here hx rfl (hb hby d5_0) rfl rfl ?_
    show oS p e below s₁ m 1 #[.val (.ref o0), .val (.ref o1), .val (.int 0), .val (.int 0), .val .null, .unset] [(.ref o0)] _
    refine st1 _ ?_
    show oS p e below T1 m 4 #[.val (.ref o0), .val (.ref o1), .val (.int 0), .val (.int 0), .val .null, .unset] [] _
    refine XS.iloadN X1.here hx rfl (hb hby d5_4) rfl ?_
    show oS p e below T1 m 5 #[.val (.ref o0), .val (.ref o1), .val (.int 0), .val (.int 0), .val .null, .unset] [(.int 0)] _
    refine XS.ifNo X1.here hx rfl (hb hby d5_5) rfl ((if0 _ _).trans (teq (by decide : (0 : Int32) = (0 : Int32))).2) ?_
    show oS p e below T1 m 8 #[.val (.ref o0), .val (.ref o1), .val (.int 0), .val (.int 0), .val .null, .unset] [] _
    refine XS.aloadN X1.here hx rfl (hb hby d5_8) rfl rfl ?_
    show oS p e below T1 m 9 #[.val (.ref o0), .val (.ref o1), .val (.int 0), .val (.int 0), .val .null, .unset] [(.ref o0)] _
    refine st2 _ ?_
    show oS p e below T2 m 11 #[.val (.ref o0), .val (.ref o1), .val (.int 0), .val (.int 0), .val .null, .unset] [(.ref sa2), (.ref o0)] _
    refine st3 _ ?_
    show oS p e below T3 m 14 #[.val (.ref o0), .val (.ref o1), .val (.int 0), .val (.int 0), .val .null, .unset] [(.ref tb2), (.ref o0)] _
    refine st4 _ ?_
    show oS p e below T4 m 17 #[.val (.ref o0), .val (.ref o1), .val (.int 0), .val (.int 0), .val .null, .unset] [] _
    refine XS.aloadN X4.here hx rfl (hb hby d5_17) rfl rfl ?_
    show oS p e below T4 m 18 #[.val (.ref o0), .val (.ref o1), .val (.int 0), .val (.int 0), .val .null, .unset] [(.ref o0)] _
    refine ldcAgain X4 hx hZ2 hown2 (own_w hw 112 rfl) Lt2 (g := (mkF m 18 #[.val (.ref o0), .val (.ref o1), .val (.int 0), .val (.int 0), .val .null, .unset] [(.ref o0)])) rfl (hb hby d5_18) _ ?_
    show oS p e below T4 m 20 #[.val (.ref o0), .val (.ref o1), .val (.int 0), .val (.int 0), .val .null, .unset] [(.ref sa2), (.ref o0)] _
    refine st5 _ ?_
    show oS p e below T5 m 23 #[.val (.ref o0), .val (.ref o1), .val (.int 0), .val (.int 0), .val .null, .unset] [(.int 0), (.ref o0)] _
    refine st6 _ ?_
    show oS p e below T6 m 26 #[.val (.ref o0), .val (.ref o1), .val (.int 0), .val (.int 0), .val .null, .unset] [] _
    exact X6.returnOut hx Bd.returns (hb hby d5_26) hr
  · show own_QE Z o0 n0 _ T6.heap _
    rw [e6]
    exact ⟨tb2, kb2, rfl, N6, O6, (((E_o0.ext E2).wr W4).wr W6), f_o0_3_value, ((Vb2.other W4 neb).other W6 neb)⟩
theorem d4_0 : decode jdk_42_method_3_code 0 = .ok (.aload_n 0, 1) := by decide +kernel
theorem d4_1 : decode jdk_42_method_3_code 1 = .ok (.aload_n 1, 1) := by decide +kernel
theorem d4_2 : decode jdk_42_method_3_code 2 = .ok (.iconst 0, 1) := by decide +kernel
theorem d4_3 : decode jdk_42_method_3_code 3 = .ok (.aload_n 1, 1) := by decide +kernel
theorem d4_4 : decode jdk_42_method_3_code 4 = .ok (.arraylength, 1) := by decide +kernel
theorem d4_5 : decode jdk_42_method_3_code 5 = .ok (.aconst_null, 1) := by decide +kernel
theorem d4_6 : decode jdk_42_method_3_code 6 = .ok (.invokespecial 27, 3) := by decide +kernel
theorem pd_8 : parseMethodDescriptor "([CIILjava/lang/Void;)V" = some ⟨[(.array .char), .int, .int, (.object "java/lang/Void")], none⟩ := by decide +kernel
theorem d4_9 : decode jdk_42_method_3_code 9 = .ok (.return_, 1) := by decide +kernel
theorem ef_4 (m : MethodId) (x0 : Addr) (x1 : Addr) : entryFrame m #[(.ref x0), (.ref x1)] 2 = mkF m 0 #[.val (.ref x0), .val (.ref x1)] [] := by first | (simp [entryFrame, mkF, argsToLocals, Value.category]; done) | rfl
theorem pn_4 : plainName "java/lang/String" = true := by first | (simp [plainName, overriddenIn]; done) | decide +kernel
set_option maxRecDepth 65536 in
set_option maxHeartbeats 40000000 in
theorem rmE0 (l : Launch) (Z : State) (a0 : Array Value) (hw : ∀ d ∈ tables_1, d.before a0 Z = true) (ws : List Jvm.Cond) (o0 : Addr) (o1 : Addr) (kc : ClassId) (h0 : Heap) (n0 : Nat) (O0 : Old Z n0 h0) (E_o0 : Exa Z h0 o0 "java/lang/String") (U_o0 : Unt h0 o0) (g_o0 : n0 ≤ o0) (F_value_o0 : Fld Z h0 o0 "java/lang/String" "value" "[B" .null) (V_o1 : Arv Z h0 o1 kc .char (0 : Int32) [] (.int 0)) (hheld : Jvm.Lit.constHeld Z "java/lang/String" 7) (hcw : Jvm.Lit.compactW.before a0 Z = true) :
    MetFree l (⟨"java/lang/String", "<init>", "([C)V"⟩ : MethodName) (head1 (Jvm.Cond.code (⟨"java/lang/String", "<init>", "([C)V"⟩ : MethodName) jdk_42_method_3_code 2 none :: ws) ({ frames := 2, cells := 2, slots := 4, locals := 29 } : Room)) (fun a U => a = #[(.ref o0), (.ref o1)] ∧ Z.Warmed39 U.vm ∧ U.heap = h0 ∧ U.vm.interned = Z.vm.interned) (fun _ _ _ _ _ => True) (fun _ U o U' => ∃ v L, o = .returned v ∧ own_QE Z o0 n0 v U'.heap L ∧ ReturnedEndW U o U' L ({ frames := 2, cells := 2, slots := 4, locals := 29 } : Room).cells ({ frames := 2, cells := 2, slots := 4, locals := 29 } : Room).slots) := by
  refine MetFree.of_bodySF (plainFor_of_name pn_4) hisR ?_
  intro p e s m args below meth c s₁ Bd hml0 hP hK
  obtain ⟨rfl, hZ, hh, hint⟩ := hP
  have hx := Bd.exec
  have hby := Bd.bytes
  have hml : c.maxLocals = 2 := hml0
  have hown : s.vm.findClass "java/lang/String" = some m.cls := findClass_of_methodNamed Bd.named
  have hnm := (name_of_methodNamed Bd.named Bd.method).1
  have X0 : Stand p l e ({ frames := 2, cells := 2, slots := 4, locals := 29 } : Room) s m #[(.ref o0), (.ref o1)] below meth c s₁ [] 0 0 := Stand.of_body Bd
  have e0 : s₁.heap = h0 := by rw [← hh, Bd.state]; rfl
  have N0 := Fr.nil n0
  have pre0 : ∀ t, Steps p.tables e below (s₁.setTop (mkF m 0 #[.val (.ref o0), .val (.ref o1)] [])) t → Steps p.tables e below (s₁.setTop (entryFrame m #[(.ref o0), (.ref o1)] 2)) t := fun t k => castTop (ef_4 m o0 o1) k
  obtain ⟨cl1, Ar1, qa1, Sz1, Ng1, Hs1, Ft1⟩ := V_o1
  have V1o : Arv Z h0 o1 kc .char (0 : Int32) [] (.int 0) := ⟨cl1, Ar1, qa1, Sz1, Ng1, Hs1, Ft1⟩
  obtain ⟨_, _, ⟨T2, L2, k2, n2⟩, -, X2, Sn2, sz2, ⟨Lc2, hQ2, l2, y2, z2⟩, st2⟩ := X0.specialBackS hx (y := (⟨"java/lang/String", "<init>", "([CIILjava/lang/Void;)V"⟩ : MethodName)) rfl hown (mvT hZ (own_w hw 19 rfl)) (mvT hZ (own_w hw 20 rfl)) (mvT hZ (own_w hw 22 rfl)) (by decide) (own_backI (W := 0) (rmE1 l Z a0 hw [] o0 o1  h0 n0 O0 E_o0 U_o0 g_o0 F_value_o0 hheld hcw) hZ (own_w hw 22 rfl) (own_w hw 11 rfl) (by decide) (by decide)) (g := (mkF m 6 #[.val (.ref o0), .val (.ref o1)] [.null, (.int 0), (.int 0), (.ref o1), (.ref o0)])) rfl (by rw [hml]; rfl) (Steps.refl _) (a := o0) (argsL := [(.ref o1), (.int 0), (.int 0), .null]) (rest := []) (lenOf pd_8 rfl) rfl (by show 2 * 0 + _ ≤ _; exact Nat.le_of_eq rfl) (hb hby d4_6) (fun vm1 hvm1 => ⟨rfl, e0, (by decide : 0 + 2 ≤ _), (by decide : 0 + 4 ≤ _), (own_int hvm1).trans hint⟩)
  have hZ2 : Z.Warmed39 (s.setVm T2.vm).vm := State.Warmed39.trans hZ Sn2.1
  have hown2 : (s.setVm T2.vm).vm.findClass "java/lang/String" = some m.cls := by rw [show (s.setVm T2.vm).vm = T2.vm from rfl, Sn2.1.alike.findClass]; exact hown
  dsimp only [Pt.U, Pt.locs, Pt.cells, Pt.slots] at X2 l2 y2 z2 st2 hQ2
  subst l2 y2 z2
  obtain ⟨t2, kt2, rfl, N2q, O2, Ex2, Fv2, Vt2⟩ := hQ2
  have N2 := Fr.app N0 N2q
  obtain ⟨fs, hr, hrun, hended, hRW⟩ := X2.leaveW Sn2 (Nat.le_refl _) (v := none) (fun _ => rfl)
  refine ⟨_, _, pre0 _ ?_, hrun, hended, _, _, rfl, ?_, hRW.1, hRW.2.1, hRW.2.2.1, hRW.2.2.2.mono (by decide) (by decide)⟩
  · show oS p e below s₁ m 0 #[.val (.ref o0), .val (.ref o1)] [] _
    refine XS.aloadN X0.here hx rfl (hb hby d4_0) rfl rfl ?_
    show oS p e below s₁ m 1 #[.val (.ref o0), .val (.ref o1)] [(.ref o0)] _
    refine XS.aloadN X0.here hx rfl (hb hby d4_1) rfl rfl ?_
    show oS p e below s₁ m 2 #[.val (.ref o0), .val (.ref o1)] [(.ref o1), (.ref o0)] _
    refine XS.iconst X0.here hx rfl (hb hby d4_2) ?_
    show oS p e below s₁ m 3 #[.val (.ref o0), .val (.ref o1)] [(.int 0), (.ref o1), (.ref o0)] _
    refine XS.aloadN X0.here hx rfl (hb hby d4_3) rfl rfl ?_
    show oS p e below s₁ m 4 #[.val (.ref o0), .val (.ref o1)] [(.ref o1), (.int 0), (.ref o1), (.ref o0)] _
    refine X0.arraylength hx (by rw [e0]; exact Ar1.1) (State.isArrayOf_alike hZ.alike Ar1.2.1) (g := (mkF m 4 #[.val (.ref o0), .val (.ref o1)] [(.ref o1), (.int 0), (.ref o1), (.ref o0)])) rfl rfl (hb hby d4_4) _ ?_
    rw [len_of Sz1 Ng1]
    show oS p e below s₁ m 5 #[.val (.ref o0), .val (.ref o1)] [(.int 0), (.int 0), (.ref o1), (.ref o0)] _
    refine XS.aconstNull X0.here hx rfl (hb hby d4_5) ?_
    show oS p e below s₁ m 6 #[.val (.ref o0), .val (.ref o1)] [.null, (.int 0), (.int 0), (.ref o1), (.ref o0)] _
    refine st2.trans ?_
    show oS p e below T2 m 9 #[.val (.ref o0), .val (.ref o1)] [] _
    exact X2.returnOut hx Bd.returns (hb hby d4_9) hr
  · show own_QE Z o0 n0 _ T2.heap _
    exact ⟨t2, kt2, rfl, N2, O2, Ex2, Fv2, Vt2⟩
theorem d2_4 : decode method_4_code 4 = .ok (.new 7, 3) := by decide +kernel
theorem d2_7 : decode method_4_code 7 = .ok (.dup, 1) := by decide +kernel
theorem d2_8 : decode method_4_code 8 = .ok (.iconst 0, 1) := by decide +kernel
theorem d2_9 : decode method_4_code 9 = .ok (.newarray .char, 2) := by decide +kernel
theorem d2_11 : decode method_4_code 11 = .ok (.invokespecial 9, 3) := by decide +kernel
theorem d2_14 : decode method_4_code 14 = .ok (.areturn, 1) := by decide +kernel
set_option maxRecDepth 65536 in
set_option maxHeartbeats 40000000 in
theorem rmM0 (l : Launch) (Z : State) (a0 : Array Value) (hw : ∀ d ∈ tables_1, d.before a0 Z = true) (ws : List Jvm.Cond) (p1 : Int32) (p2 : Int32) (p3 : Int32) (h0 : Heap) (n0 : Nat) (O0 : Old Z n0 h0) (hheld : Jvm.Lit.constHeld Z "java/lang/String" 7) (hcw : Jvm.Lit.compactW.before a0 Z = true) :
    MetFree l (⟨"com/example/dispensd/dispensd/IdentifierIsValidPinLaw", "make", "(IICC)Ljava/lang/String;"⟩ : MethodName) (head1 (Jvm.Cond.code (⟨"com/example/dispensd/dispensd/IdentifierIsValidPinLaw", "make", "(IICC)Ljava/lang/String;"⟩ : MethodName) method_4_code 4 (some (.object "java/lang/String")) :: ws) ({ frames := 3, cells := 4, slots := 8, locals := 43 } : Room)) (fun a U => a = #[(.int 0), (.int p1), (.int p2), (.int p3)] ∧ Z.Warmed39 U.vm ∧ U.heap = h0 ∧ U.vm.interned = Z.vm.interned) (fun _ _ _ _ _ => True) (fun _ U o U' => ∃ v L, o = .returned v ∧ own_QM0 Z n0 v U'.heap L ∧ ReturnedEndW U o U' L ({ frames := 3, cells := 4, slots := 8, locals := 43 } : Room).cells ({ frames := 3, cells := 4, slots := 8, locals := 43 } : Room).slots) := by
  refine MetFree.of_bodySF (plainFor_of_name pn_2) hisR ?_
  intro p e s m args below meth c s₁ Bd hml0 hP hK
  obtain ⟨rfl, hZ, hh, hint⟩ := hP
  have hx := Bd.exec
  have hby := Bd.bytes
  have hml : c.maxLocals = 4 := hml0
  have hown : s.vm.findClass "com/example/dispensd/dispensd/IdentifierIsValidPinLaw" = some m.cls := findClass_of_methodNamed Bd.named
  have hnm := (name_of_methodNamed Bd.named Bd.method).1
  have X0 : Stand p l e ({ frames := 3, cells := 4, slots := 8, locals := 43 } : Room) s m #[(.int 0), (.int p1), (.int p2), (.int p3)] below meth c s₁ [] 0 0 := Stand.of_body Bd
  have e0 : s₁.heap = h0 := by rw [← hh, Bd.state]; rfl
  have N0 := Fr.nil n0
  have pre0 : ∀ t, Steps p.tables e below (s₁.setTop (mkF m 0 #[.val (.int 0), .val (.int p1), .val (.int p2), .val (.int p3)] [])) t → Steps p.tables e below (s₁.setTop (entryFrame m #[(.int 0), (.int p1), (.int p2), (.int p3)] 4)) t := fun t k => castTop (ef_2 m (0 : Int32) p1 p2 p3) k
  obtain ⟨T1, h1, X1, e1, E1, A1, D1, U1, st1⟩ := newO X0 hx hZ hown (own_w hw 9 rfl) (own_w hw 10 rfl) (own_w hw 11 rfl) e0 (g := (mkF m 4 #[.val (.int 0), .val (.int p1), .val (.int p2), .val (.int p3)] [])) rfl (hb hby d2_4) (by decide) (by decide)
  obtain ⟨b1, g1⟩ : ∃ z, z = h0.size := ⟨_, rfl⟩
  rw [← g1] at A1 D1 U1 st1
  have Ut1 : Unt h1 b1 := U1
  have g_b1 : n0 ≤ b1 := Nat.le_trans (own_le O0) (Nat.le_of_eq g1.symm)
  have O1 := O0.ext E1
  have F_coder_b1 : Fld Z h1 b1 "java/lang/String" "coder" "B" (.int 0) := D1 (Or.inr (own_w hw 39 rfl)) (ty := .byte) (by decide)
  have F_value_b1 : Fld Z h1 b1 "java/lang/String" "value" "[B" .null := D1 (Or.inr (own_w hw 41 rfl)) (ty := (.array .byte)) (by decide)
  obtain ⟨T2, h2, k2, X2, e2, E2, A2, st2⟩ := newP X1 hx hZ (own_w hw 12 rfl) e1 (g := (mkF m 9 #[.val (.int 0), .val (.int p1), .val (.int p2), .val (.int p3)] [(.int 0), (.ref b1), (.ref b1)])) rfl (hb hby d2_9) rfl (by decide) (cap := 0) (by decide) (by decide) (by decide) (by decide)
  obtain ⟨b2, g2⟩ : ∃ z, z = h1.size := ⟨_, rfl⟩
  rw [← g2] at A2 st2
  have g_b2 : n0 ≤ b2 := Nat.le_trans (own_le O1) (Nat.le_of_eq g2.symm)
  have O2 := O1.ext E2
  have V_b2 : Arv Z h2 b2 k2 .char (0 : Int32) [] (.int 0) := (Arv.new A2 (by decide)).pad (pad_rep [] (.int 0) 0)
  obtain ⟨_, _, ⟨T3, L3, k3, n3⟩, -, X3, Sn3, sz3, ⟨Lc3, hQ3, l3, y3, z3⟩, st3⟩ := X2.specialBackS hx (y := (⟨"java/lang/String", "<init>", "([C)V"⟩ : MethodName)) rfl hown (mvT hZ (own_w hw 16 rfl)) (mvT hZ (own_w hw 17 rfl)) (mvT hZ (own_w hw 18 rfl)) (by decide) (own_backI (W := 1) (rmE0 l Z a0 hw [] b1 b2 k2 h2 n0 O2 (A1.ext E2) (Unt.ext E2 Ut1) g_b1 (F_value_b1.ext E2) V_b2 hheld hcw) hZ (own_w hw 18 rfl) (own_w hw 11 rfl) (by decide) (by decide)) (g := (mkF m 11 #[.val (.int 0), .val (.int p1), .val (.int p2), .val (.int p3)] [(.ref b2), (.ref b1), (.ref b1)])) rfl (by rw [hml]; rfl) (Steps.refl _) (a := b1) (argsL := [(.ref b2)]) (rest := [(.ref b1)]) (lenOf pd_7 rfl) rfl (by show 2 * 0 + _ ≤ _; exact Nat.le_of_eq rfl) (hb hby d2_11) (fun vm1 hvm1 => ⟨rfl, e2, (by decide : 2 + 2 ≤ _), (by decide : 4 + 4 ≤ _), (own_int hvm1).trans hint⟩)
  have hZ3 : Z.Warmed39 (s.setVm T3.vm).vm := State.Warmed39.trans hZ Sn3.1
  have hown3 : (s.setVm T3.vm).vm.findClass "com/example/dispensd/dispensd/IdentifierIsValidPinLaw" = some m.cls := by rw [show (s.setVm T3.vm).vm = T3.vm from rfl, Sn3.1.alike.findClass]; exact hown
  dsimp only [Pt.U, Pt.locs, Pt.cells, Pt.slots] at X3 l3 y3 z3 st3 hQ3
  subst l3 y3 z3
  obtain ⟨t3, kt3, rfl, N3q, O3, Ex3, Fv3, Vt3⟩ := hQ3
  have N3 := Fr.app N0 N3q
  obtain ⟨fs, hr, hrun, hended, hRW⟩ := X3.leaveW Sn3 (Nat.le_refl _) (v := some (.ref b1)) (fun h => by rw [Bd.returns] at h; cases h)
  refine ⟨_, _, pre0 _ ?_, hrun, hended, _, _, rfl, ?_, hRW.1, hRW.2.1, hRW.2.2.1, hRW.2.2.2.mono (by decide) (by decide)⟩
  · show oS p e below s₁ m 0 #[.val (.int 0), .val (.int p1), .val (.int p2), .val (.int p3)] [] _
    refine XS.iloadN X0.here hx rfl (hb hby d2_0) rfl ?_
    show oS p e below s₁ m 1 #[.val (.int 0), .val (.int p1), .val (.int p2), .val (.int p3)] [(.int 0)] _
    refine XS.ifNo X0.here hx rfl (hb hby d2_1) rfl ((if0 _ _).trans (teq (by decide : (0 : Int32) = (0 : Int32))).2) ?_
    show oS p e below s₁ m 4 #[.val (.int 0), .val (.int p1), .val (.int p2), .val (.int p3)] [] _
    refine st1 _ ?_
    show oS p e below T1 m 7 #[.val (.int 0), .val (.int p1), .val (.int p2), .val (.int p3)] [(.ref b1)] _
    refine XS.dup X1.here hx rfl (hb hby d2_7) rfl rfl ?_
    show oS p e below T1 m 8 #[.val (.int 0), .val (.int p1), .val (.int p2), .val (.int p3)] [(.ref b1), (.ref b1)] _
    refine XS.iconst X1.here hx rfl (hb hby d2_8) ?_
    show oS p e below T1 m 9 #[.val (.int 0), .val (.int p1), .val (.int p2), .val (.int p3)] [(.int 0), (.ref b1), (.ref b1)] _
    refine st2 _ ?_
    show oS p e below T2 m 11 #[.val (.int 0), .val (.int p1), .val (.int p2), .val (.int p3)] [(.ref b2), (.ref b1), (.ref b1)] _
    refine st3.trans ?_
    show Steps p.tables e below (T3.setTop (mkF m 14 #[.val (.int 0), .val (.int p1), .val (.int p2), .val (.int p3)] [(.ref b1)])) _
    jvm_step X3.here [X3.here.top, hx, (hb hby d2_14), X3.method', Bd.returns, Value.isRef, FieldType.isReference]
    first | (intro acts; rw [hr _ acts rfl rfl rfl]) | rw [hr _ _ rfl rfl rfl]
    exact Steps.refl _
  · show own_QM0 Z n0 _ T3.heap _
    exact ⟨b1, t3, kt3, rfl, N3, O3, Ex3, Fv3, Vt3⟩
theorem d11_0 : decode jdk_42_method_55_code 0 = .ok (.aload_n 0, 1) := by decide +kernel
theorem d11_1 : decode jdk_42_method_55_code 1 = .ok (.getfield 9, 3) := by decide +kernel
theorem d11_4 : decode jdk_42_method_55_code 4 = .ok (.arraylength, 1) := by decide +kernel
theorem d11_5 : decode jdk_42_method_55_code 5 = .ok (.ifCond .ne 7, 3) := by decide +kernel
theorem d11_8 : decode jdk_42_method_55_code 8 = .ok (.iconst 1, 1) := by decide +kernel
theorem d11_9 : decode jdk_42_method_55_code 9 = .ok (.goto 4, 3) := by decide +kernel
theorem d11_13 : decode jdk_42_method_55_code 13 = .ok (.ireturn, 1) := by decide +kernel
theorem ef_11 (m : MethodId) (x0 : Addr) : entryFrame m #[(.ref x0)] 1 = mkF m 0 #[.val (.ref x0)] [] := by first | (simp [entryFrame, mkF, argsToLocals, Value.category]; done) | rfl
theorem pn_11 : plainName "java/lang/String" = true := by first | (simp [plainName, overriddenIn]; done) | decide +kernel
set_option maxRecDepth 65536 in
set_option maxHeartbeats 40000000 in
theorem rmIE (l : Launch) (Z : State) (a0 : Array Value) (hw : ∀ d ∈ tables_1, d.before a0 Z = true) (ws : List Jvm.Cond) (o0 : Addr) (tA : Addr) (kA : ClassId) (h0 : Heap) (n0 : Nat) (O0 : Old Z n0 h0) (F_value_o0 : Fld Z h0 o0 "java/lang/String" "value" "[B" (.ref tA)) (V_tA : Arv Z h0 tA kA .byte (0 : Int32) [] (.int 0)) :
    oM l Z (⟨"java/lang/String", "isEmpty", "()Z"⟩ : MethodName) jdk_42_method_55_code 1 (some .boolean) ws ({ frames := 0, cells := 0, slots := 0, locals := 0 } : Room) #[(.ref o0)] h0 (own_Q (.int 1) h0 n0) := by
  refine MetFree.of_bodySF (plainFor_of_name pn_11) hisR ?_
  intro p e s m args below meth c s₁ Bd hml0 hP hK
  obtain ⟨rfl, hZ, hh⟩ := hP
  have hx := Bd.exec
  have hby := Bd.bytes
  have hml : c.maxLocals = 1 := hml0
  have hown : s.vm.findClass "java/lang/String" = some m.cls := findClass_of_methodNamed Bd.named
  have hnm := (name_of_methodNamed Bd.named Bd.method).1
  have X0 : Stand p l e ({ frames := 0, cells := 0, slots := 0, locals := 0 } : Room) s m #[(.ref o0)] below meth c s₁ [] 0 0 := Stand.of_body Bd
  have e0 : s₁.heap = h0 := by rw [← hh, Bd.state]; rfl
  have N0 := Fr.nil n0
  have pre0 : ∀ t, Steps p.tables e below (s₁.setTop (mkF m 0 #[.val (.ref o0)] [])) t → Steps p.tables e below (s₁.setTop (entryFrame m #[(.ref o0)] 1)) t := fun t k => castTop (ef_11 m o0) k
  obtain ⟨T1, X1, e1, st1⟩ := getF X0 hx hZ hown (host := "") (Or.inl (own_w hw 40 rfl)) Via.refl e0 F_value_o0 (g := (mkF m 1 #[.val (.ref o0)] [(.ref o0)])) rfl rfl (hb hby d11_1)
  obtain ⟨cl2, Ar2, qa2, Sz2, Ng2, Hs2, Ft2⟩ := V_tA
  have V2o : Arv Z h0 tA kA .byte (0 : Int32) [] (.int 0) := ⟨cl2, Ar2, qa2, Sz2, Ng2, Hs2, Ft2⟩
  obtain ⟨fs, hr, hrun, hended, hW, hsame⟩ := X1.leave (v := some (.int 1)) (fun h => by rw [Bd.returns] at h; cases h)
  refine ⟨_, _, pre0 _ ?_, hrun, hended, _, _, rfl, ?_, ⟨_, rfl⟩, hW, hsame.mono (by decide) (by decide)⟩
  · show oS p e below s₁ m 0 #[.val (.ref o0)] [] _
    refine XS.aloadN X0.here hx rfl (hb hby d11_0) rfl rfl ?_
    show oS p e below s₁ m 1 #[.val (.ref o0)] [(.ref o0)] _
    refine st1 _ ?_
    show oS p e below T1 m 4 #[.val (.ref o0)] [(.ref tA)] _
    refine X1.arraylength hx (by rw [e1]; exact Ar2.1) (State.isArrayOf_alike hZ.alike Ar2.2.1) (g := (mkF m 4 #[.val (.ref o0)] [(.ref tA)])) rfl rfl (hb hby d11_4) _ ?_
    rw [len_of Sz2 Ng2]
    show oS p e below T1 m 5 #[.val (.ref o0)] [(.int 0)] _
    refine XS.ifNo X1.here hx rfl (hb hby d11_5) rfl ((if0 _ _).trans (teq (by decide : (0 : Int32) = (0 : Int32))).2) ?_
    show oS p e below T1 m 8 #[.val (.ref o0)] [] _
    refine XS.iconst X1.here hx rfl (hb hby d11_8) ?_
    show oS p e below T1 m 9 #[.val (.ref o0)] [(.int 1)] _
    refine XS.goto X1.here hx rfl (pc0 := 9) (pc' := 13) rfl (hb hby d11_9) (by decide) (by decide) ?_
    show oS p e below T1 m 13 #[.val (.ref o0)] [(.int 1)] _
    exact retN X1 hx (t := .boolean) Bd.returns (by simp) (hb hby d11_13) hr
  · show own_Q (.int 1) h0 n0 _ T1.heap _
    rw [e1]
    exact ⟨rfl, N0, rfl⟩
theorem d1_0 : decode prog_2_method_2_code 0 = .ok (.aload_n 0, 1) := by decide +kernel
theorem d1_1 : decode prog_2_method_2_code 1 = .ok (.ifnull 19, 3) := by decide +kernel
theorem d1_20 : decode prog_2_method_2_code 20 = .ok (.iconst 0, 1) := by decide +kernel
theorem d1_21 : decode prog_2_method_2_code 21 = .ok (.ireturn, 1) := by decide +kernel
theorem ef_1_n (m : MethodId)  : entryFrame m #[.null] 2 = mkF m 0 #[.val .null, .unset] [] := by first | (simp [entryFrame, mkF, argsToLocals, Value.category]; done) | rfl
theorem pn_1 : plainName "com/example/dispensd/dispensd/Identifier" = true := by first | (simp [plainName, overriddenIn]; done) | decide +kernel
set_option maxRecDepth 65536 in
set_option maxHeartbeats 40000000 in
theorem rmVN (l : Launch) (Z : State) (a0 : Array Value) (hw : ∀ d ∈ tables_1, d.before a0 Z = true) (ws : List Jvm.Cond)  (h0 : Heap) (n0 : Nat) (O0 : Old Z n0 h0) :
    oM l Z (⟨"com/example/dispensd/dispensd/Identifier", "isValid", "(Ljava/lang/String;)Z"⟩ : MethodName) prog_2_method_2_code 2 (some .boolean) ws ({ frames := 0, cells := 0, slots := 0, locals := 0 } : Room) #[.null] h0 (own_Q (.int 0) h0 n0) := by
  refine MetFree.of_bodySF (plainFor_of_name pn_1) hisR ?_
  intro p e s m args below meth c s₁ Bd hml0 hP hK
  obtain ⟨rfl, hZ, hh⟩ := hP
  have hx := Bd.exec
  have hby := Bd.bytes
  have hml : c.maxLocals = 2 := hml0
  have hown : s.vm.findClass "com/example/dispensd/dispensd/Identifier" = some m.cls := findClass_of_methodNamed Bd.named
  have hnm := (name_of_methodNamed Bd.named Bd.method).1
  have X0 : Stand p l e ({ frames := 0, cells := 0, slots := 0, locals := 0 } : Room) s m #[.null] below meth c s₁ [] 0 0 := Stand.of_body Bd
  have e0 : s₁.heap = h0 := by rw [← hh, Bd.state]; rfl
  have N0 := Fr.nil n0
  have pre0 : ∀ t, Steps p.tables e below (s₁.setTop (mkF m 0 #[.val .null, .unset] [])) t → Steps p.tables e below (s₁.setTop (entryFrame m #[.null] 2)) t := fun t k => castTop (ef_1_n m ) k
  obtain ⟨fs, hr, hrun, hended, hW, hsame⟩ := X0.leave (v := some (.int 0)) (fun h => by rw [Bd.returns] at h; cases h)
  refine ⟨_, _, pre0 _ ?_, hrun, hended, _, _, rfl, ?_, ⟨_, rfl⟩, hW, hsame.mono (by decide) (by decide)⟩
  · show oS p e below s₁ m 0 #[.val .null, .unset] [] _
    refine XS.aloadN X0.here hx rfl (hb hby d1_0) rfl rfl ?_
    show oS p e below s₁ m 1 #[.val .null, .unset] [.null] _
    refine XS.ifnullYes X0.here hx rfl (pc0 := 1) (pc' := 20) rfl (hb hby d1_1) rfl (by decide) (by decide) ?_
    show oS p e below s₁ m 20 #[.val .null, .unset] [] _
    refine XS.iconst X0.here hx rfl (hb hby d1_20) ?_
    show oS p e below s₁ m 21 #[.val .null, .unset] [(.int 0)] _
    exact retN X0 hx (t := .boolean) Bd.returns (by simp) (hb hby d1_21) hr
  · show own_Q (.int 0) h0 n0 _ s₁.heap _
    rw [e0]
    exact ⟨rfl, N0, rfl⟩
theorem d1_4 : decode prog_2_method_2_code 4 = .ok (.aload_n 0, 1) := by decide +kernel
theorem d1_5 : decode prog_2_method_2_code 5 = .ok (.invokevirtual 24, 3) := by decide +kernel
theorem d1_8 : decode prog_2_method_2_code 8 = .ok (.ifCond .ne 12, 3) := by decide +kernel
theorem ef_1 (m : MethodId) (x0 : Addr) : entryFrame m #[(.ref x0)] 2 = mkF m 0 #[.val (.ref x0), .unset] [] := by first | (simp [entryFrame, mkF, argsToLocals, Value.category]; done) | rfl
set_option maxRecDepth 65536 in
set_option maxHeartbeats 40000000 in
theorem rmVE (l : Launch) (Z : State) (a0 : Array Value) (hw : ∀ d ∈ tables_1, d.before a0 Z = true) (ws : List Jvm.Cond) (o0 : Addr) (tA : Addr) (kA : ClassId) (h0 : Heap) (n0 : Nat) (O0 : Old Z n0 h0) (E_o0 : Exa Z h0 o0 "java/lang/String") (F_value_o0 : Fld Z h0 o0 "java/lang/String" "value" "[B" (.ref tA)) (V_tA : Arv Z h0 tA kA .byte (0 : Int32) [] (.int 0)) :
    oM l Z (⟨"com/example/dispensd/dispensd/Identifier", "isValid", "(Ljava/lang/String;)Z"⟩ : MethodName) prog_2_method_2_code 2 (some .boolean) ws ({ frames := 1, cells := 0, slots := 0, locals := 12 } : Room) #[(.ref o0)] h0 (own_Q (.int 0) h0 n0) := by
  refine MetFree.of_bodySF (plainFor_of_name pn_1) hisR ?_
  intro p e s m args below meth c s₁ Bd hml0 hP hK
  obtain ⟨rfl, hZ, hh⟩ := hP
  have hx := Bd.exec
  have hby := Bd.bytes
  have hml : c.maxLocals = 2 := hml0
  have hown : s.vm.findClass "com/example/dispensd/dispensd/Identifier" = some m.cls := findClass_of_methodNamed Bd.named
  have hnm := (name_of_methodNamed Bd.named Bd.method).1
  have X0 : Stand p l e ({ frames := 1, cells := 0, slots := 0, locals := 12 } : Room) s m #[(.ref o0)] below meth c s₁ [] 0 0 := Stand.of_body Bd
  have e0 : s₁.heap = h0 := by rw [← hh, Bd.state]; rfl
  have N0 := Fr.nil n0
  have pre0 : ∀ t, Steps p.tables e below (s₁.setTop (mkF m 0 #[.val (.ref o0), .unset] [])) t → Steps p.tables e below (s₁.setTop (entryFrame m #[(.ref o0)] 2)) t := fun t k => castTop (ef_1 m o0) k
  obtain ⟨cq1, kq1, q1a, q1b, q1c⟩ := isOf hZ e0 E_o0
  obtain ⟨_, _, ⟨T1, L1, k1, n1⟩, -, X1, ⟨Lc1, hQ1, l1, y1, z1⟩, st1⟩ := X0.virtualBack hx (y := (⟨"java/lang/String", "isEmpty", "()Z"⟩ : MethodName)) (z := (⟨"java/lang/String", "isEmpty", "()Z"⟩ : MethodName)) hown (mvT hZ (own_w hw 45 rfl)) (mvT hZ (own_w hw 46 rfl)) (notFace_of_selects (args := #[]) (mvT hZ (own_w hw 48 rfl))) (mvT hZ (own_w hw 48 rfl)) (mvT hZ (own_w hw 47 rfl)) (by decide) (backOf (W := 0) (rmIE l Z a0 hw [] o0 tA kA h0 n0 O0 F_value_o0 V_tA) hZ (own_w hw 49 rfl) (own_w hw 11 rfl) (by decide) (by decide)) q1a q1c (g := (mkF m 5 #[.val (.ref o0), .unset] [(.ref o0)])) rfl (by rw [hml]; rfl) (Steps.refl _) (argsL := []) (rest := []) (lenOf pd_4 rfl) rfl (by show 2 * 0 + _ ≤ _; exact Nat.le_of_eq rfl) (hb hby d1_5) (fun _ _ => ⟨rfl, e0, (by decide : 0 + 0 ≤ _), (by decide : 0 + 0 ≤ _)⟩)
  dsimp only [Pt.U, Pt.locs, Pt.cells, Pt.slots] at X1 l1 y1 z1 st1 hQ1
  subst l1 y1 z1
  obtain ⟨rfl, N1q, e1⟩ := hQ1
  have N1 := Fr.app N0 N1q
  obtain ⟨fs, hr, hrun, hended, hW, hsame⟩ := X1.leave (v := some (.int 0)) (fun h => by rw [Bd.returns] at h; cases h)
  refine ⟨_, _, pre0 _ ?_, hrun, hended, _, _, rfl, ?_, ⟨_, rfl⟩, hW, hsame.mono (by decide) (by decide)⟩
  · show oS p e below s₁ m 0 #[.val (.ref o0), .unset] [] _
    refine XS.aloadN X0.here hx rfl (hb hby d1_0) rfl rfl ?_
    show oS p e below s₁ m 1 #[.val (.ref o0), .unset] [(.ref o0)] _
    refine XS.ifnullNo X0.here hx rfl (hb hby d1_1) rfl ?_
    show oS p e below s₁ m 4 #[.val (.ref o0), .unset] [] _
    refine XS.aloadN X0.here hx rfl (hb hby d1_4) rfl rfl ?_
    show oS p e below s₁ m 5 #[.val (.ref o0), .unset] [(.ref o0)] _
    refine st1.trans ?_
    show oS p e below T1 m 8 #[.val (.ref o0), .unset] [(.int 1)] _
    refine XS.ifYes X1.here hx rfl (pc0 := 8) (pc' := 20) rfl (hb hby d1_8) rfl ((if0 _ _).trans (feq (by decide : ¬ ((1 : Int32) = (0 : Int32)))).2) (by decide) (by decide) ?_
    show oS p e below T1 m 20 #[.val (.ref o0), .unset] [] _
    refine XS.iconst X1.here hx rfl (hb hby d1_20) ?_
    show oS p e below T1 m 21 #[.val (.ref o0), .unset] [(.int 0)] _
    exact retN X1 hx (t := .boolean) Bd.returns (by simp) (hb hby d1_21) hr
  · show own_Q (.int 0) h0 n0 _ T1.heap _
    rw [e1]
    exact ⟨rfl, N1, rfl⟩
set_option maxRecDepth 65536 in
theorem own_wem {a0 : Array Value} {Z : State} (hw : ∀ d ∈ tables_1, d.before a0 Z = true) : ∀ d ∈ StrChars.Road.wordsEmp, d.before a0 Z = true := fun d hd => hw d ((by decide +kernel : ∀ d ∈ StrChars.Road.wordsEmp, d ∈ tables_1) d hd)
theorem d1_11 : decode prog_2_method_2_code 11 = .ok (.aload_n 0, 1) := by decide +kernel
theorem d1_12 : decode prog_2_method_2_code 12 = .ok (.invokevirtual 30, 3) := by decide +kernel
set_option maxRecDepth 65536 in
theorem own_wln {a0 : Array Value} {Z : State} (hw : ∀ d ∈ tables_1, d.before a0 Z = true) : ∀ d ∈ StrChars.Road.wordsLen, d.before a0 Z = true := fun d hd => hw d ((by decide +kernel : ∀ d ∈ StrChars.Road.wordsLen, d ∈ tables_1) d hd)
theorem d1_15 : decode prog_2_method_2_code 15 = .ok (.bipush 16, 2) := by decide +kernel
theorem d1_17 : decode prog_2_method_2_code 17 = .ok (.if_icmp .le 5, 3) := by decide +kernel
set_option maxRecDepth 65536 in
set_option maxHeartbeats 40000000 in
theorem rmVL (l : Launch) (Z : State) (a0 : Array Value) (hw : ∀ d ∈ tables_1, d.before a0 Z = true) (ws : List Jvm.Cond) (o0 : Addr) (cs : List Int32) (tA : Addr) (kA : ClassId) (zc : Int32) (fm : Value) (h0 : Heap) (n0 : Nat) (O0 : Old Z n0 h0) (E_o0 : Exa Z h0 o0 "java/lang/String") (F_value_o0 : Fld Z h0 o0 "java/lang/String" "value" "[B" (.ref tA)) (F_coder_o0 : Fld Z h0 o0 "java/lang/String" "coder" "B" (.int 0)) (V_tA : Arv Z h0 tA kA .byte (Int32.ofNat cs.length) ((cs.map (fun c => c.toInt8.toInt32)).map Value.int) (.int 0)) (S_COMPACT_STRINGS : Sta Z Z.heap "java/lang/String" "COMPACT_STRINGS" "Z" (.int zc)) (hzc : ¬ zc = 0) (S_FM : Sta Z Z.heap "jdk/internal/util/Preconditions" "SIOOBE_FORMATTER" "Ljava/util/function/BiFunction;" fm) (hfm : fm.isRef = true) (hp : ∀ c ∈ cs, ¬ c < 0 ∧ ¬ (255 : Int32) < c) (l2 : cs.length ≤ 4000) (hne : ¬ cs.length = 0) (hqb : (16 : Int32) < (Int32.ofNat cs.length)) :
    oM l Z (⟨"com/example/dispensd/dispensd/Identifier", "isValid", "(Ljava/lang/String;)Z"⟩ : MethodName) prog_2_method_2_code 2 (some .boolean) ws ({ frames := 2, cells := 0, slots := 0, locals := 25 } : Room) #[(.ref o0)] h0 (own_Q (.int 0) h0 n0) := by
  refine MetFree.of_bodySF (plainFor_of_name pn_1) hisR ?_
  intro p e s m args below meth c s₁ Bd hml0 hP hK
  obtain ⟨rfl, hZ, hh⟩ := hP
  have hx := Bd.exec
  have hby := Bd.bytes
  have hml : c.maxLocals = 2 := hml0
  have hown : s.vm.findClass "com/example/dispensd/dispensd/Identifier" = some m.cls := findClass_of_methodNamed Bd.named
  have hnm := (name_of_methodNamed Bd.named Bd.method).1
  have X0 : Stand p l e ({ frames := 2, cells := 0, slots := 0, locals := 25 } : Room) s m #[(.ref o0)] below meth c s₁ [] 0 0 := Stand.of_body Bd
  have e0 : s₁.heap = h0 := by rw [← hh, Bd.state]; rfl
  have N0 := Fr.nil n0
  have pre0 : ∀ t, Steps p.tables e below (s₁.setTop (mkF m 0 #[.val (.ref o0), .unset] [])) t → Steps p.tables e below (s₁.setTop (entryFrame m #[(.ref o0)] 2)) t := fun t k => castTop (ef_1 m o0) k
  obtain ⟨cq1, kq1, q1a, q1b, q1c⟩ := isOf hZ e0 E_o0
  obtain ⟨_, _, ⟨T1, L1, k1, n1⟩, -, X1, ⟨Lc1, hQ1, l1, y1, z1⟩, st1⟩ := X0.virtualBack hx (y := (⟨"java/lang/String", "isEmpty", "()Z"⟩ : MethodName)) (z := (⟨"java/lang/String", "isEmpty", "()Z"⟩ : MethodName)) hown (mvT hZ (own_w hw 45 rfl)) (mvT hZ (own_w hw 46 rfl)) (notFace_of_selects (args := #[]) (mvT hZ (own_w hw 48 rfl))) (mvT hZ (own_w hw 48 rfl)) (mvT hZ (own_w hw 47 rfl)) (by decide) (StrChars.Road.empW (W := 0) hZ (own_wem hw) (kI := 4) (own_w hw 10 rfl) E_o0 F_value_o0 F_coder_o0 V_tA (StrChars.Road.codOf (cs := cs) rfl (fun c hc => (hp c hc).2)) (own_up _ hp) l2 (by decide) (by decide)) q1a q1c (g := (mkF m 5 #[.val (.ref o0), .unset] [(.ref o0)])) rfl (by rw [hml]; rfl) (Steps.refl _) (argsL := []) (rest := []) (lenOf pd_4 rfl) rfl (by show 2 * 0 + _ ≤ _; exact Nat.le_of_eq rfl) (hb hby d1_5) (fun _ _ => ⟨rfl, e0, (by decide : 0 + 0 ≤ _), (by decide : 0 + 0 ≤ _)⟩)
  dsimp only [Pt.U, Pt.locs, Pt.cells, Pt.slots] at X1 l1 y1 z1 st1 hQ1
  subst l1 y1 z1
  obtain ⟨rfl, rfl, e1⟩ := hQ1
  have N1q : Fr n0 ([] : List Loc) := Fr.nil n0
  have N1 := Fr.app N0 N1q
  obtain ⟨cq2, kq2, q2a, q2b, q2c⟩ := isOf hZ e1 E_o0
  obtain ⟨_, _, ⟨T2, L2, k2, n2⟩, -, X2, ⟨Lc2, hQ2, l2, y2, z2⟩, st2⟩ := X1.virtualBack hx (y := (⟨"java/lang/String", "length", "()I"⟩ : MethodName)) (z := (⟨"java/lang/String", "length", "()I"⟩ : MethodName)) hown (mvT hZ (own_w hw 50 rfl)) (mvT hZ (own_w hw 51 rfl)) (notFace_of_selects (args := #[]) (mvT hZ (own_w hw 53 rfl))) (mvT hZ (own_w hw 53 rfl)) (mvT hZ (own_w hw 52 rfl)) (by decide) (StrChars.Road.lenW (W := 0) hZ (own_wln hw) (kI := 4) (own_w hw 10 rfl) E_o0 F_value_o0 F_coder_o0 V_tA (StrChars.Road.codOf (cs := cs) rfl (fun c hc => (hp c hc).2)) (own_up _ hp) (S_COMPACT_STRINGS.ext O0.2) hzc l2 (by decide) (by decide)) q2a q2c (g := (mkF m 12 #[.val (.ref o0), .unset] [(.ref o0)])) rfl (by rw [hml]; rfl) (Steps.refl _) (argsL := []) (rest := []) (lenOf pd_5 rfl) rfl (by show 2 * 0 + _ ≤ _; exact Nat.le_of_eq rfl) (hb hby d1_12) (fun _ _ => ⟨rfl, e1, (by decide : 0 + 0 ≤ _), (by decide : 0 + 0 ≤ _)⟩)
  dsimp only [Pt.U, Pt.locs, Pt.cells, Pt.slots] at X2 l2 y2 z2 st2 hQ2
  subst l2 y2 z2
  obtain ⟨rfl, rfl, e2⟩ := hQ2
  have N2q : Fr n0 ([] : List Loc) := Fr.nil n0
  have N2 := Fr.app N1 N2q
  obtain ⟨fs, hr, hrun, hended, hW, hsame⟩ := X2.leave (v := some (.int 0)) (fun h => by rw [Bd.returns] at h; cases h)
  refine ⟨_, _, pre0 _ ?_, hrun, hended, _, _, rfl, ?_, ⟨_, rfl⟩, hW, hsame.mono (by decide) (by decide)⟩
  · show oS p e below s₁ m 0 #[.val (.ref o0), .unset] [] _
    refine XS.aloadN X0.here hx rfl (hb hby d1_0) rfl rfl ?_
    show oS p e below s₁ m 1 #[.val (.ref o0), .unset] [(.ref o0)] _
    refine XS.ifnullNo X0.here hx rfl (hb hby d1_1) rfl ?_
    show oS p e below s₁ m 4 #[.val (.ref o0), .unset] [] _
    refine XS.aloadN X0.here hx rfl (hb hby d1_4) rfl rfl ?_
    show oS p e below s₁ m 5 #[.val (.ref o0), .unset] [(.ref o0)] _
    refine st1.trans ?_
    show oS p e below T1 m 8 #[.val (.ref o0), .unset] [(.int (if cs.length = 0 then (1 : Int32) else 0))] _
    refine XS.ifNo X1.here hx rfl (hb hby d1_8) rfl ((if0 _ _).trans (teq (if_neg hne)).2) ?_
    show oS p e below T1 m 11 #[.val (.ref o0), .unset] [] _
    refine XS.aloadN X1.here hx rfl (hb hby d1_11) rfl rfl ?_
    show oS p e below T1 m 12 #[.val (.ref o0), .unset] [(.ref o0)] _
    refine st2.trans ?_
    show oS p e below T2 m 15 #[.val (.ref o0), .unset] [(.int (Int32.ofNat cs.length))] _
    refine XS.bipush X2.here hx rfl (hb hby d1_15) ?_
    show oS p e below T2 m 17 #[.val (.ref o0), .unset] [(.int 16), (.int (Int32.ofNat cs.length))] _
    refine XS.icmpNo X2.here hx rfl (hb hby d1_17) rfl (tlt hqb).2.2.2 ?_
    show oS p e below T2 m 20 #[.val (.ref o0), .unset] [] _
    refine XS.iconst X2.here hx rfl (hb hby d1_20) ?_
    show oS p e below T2 m 21 #[.val (.ref o0), .unset] [(.int 0)] _
    exact retN X2 hx (t := .boolean) Bd.returns (by simp) (hb hby d1_21) hr
  · show own_Q (.int 0) h0 n0 _ T2.heap _
    rw [e2]
    exact ⟨rfl, N2, rfl⟩
def own_A : List Int32 := [65, 66, 67, 68, 69, 70, 71, 72, 73, 74, 75, 76, 77, 78, 79, 80, 81, 82, 83, 84, 85, 86, 87, 88, 89, 90, 97, 98, 99, 100, 101, 102, 103, 104, 105, 106, 107, 108, 109, 110, 111, 112, 113, 114, 115, 116, 117, 118, 119, 120, 121, 122, 48, 49, 50, 51, 52, 53, 54, 55, 56, 57, 45, 95]
theorem d1_24 : decode prog_2_method_2_code 24 = .ok (.iload_n 1, 1) := by decide +kernel
theorem d1_25 : decode prog_2_method_2_code 25 = .ok (.aload_n 0, 1) := by decide +kernel
theorem d1_26 : decode prog_2_method_2_code 26 = .ok (.invokevirtual 30, 3) := by decide +kernel
theorem d1_29 : decode prog_2_method_2_code 29 = .ok (.if_icmp .ge 24, 3) := by decide +kernel
theorem d1_32 : decode prog_2_method_2_code 32 = .ok (.ldc 34, 2) := by decide +kernel
theorem d1_34 : decode prog_2_method_2_code 34 = .ok (.aload_n 0, 1) := by decide +kernel
theorem d1_35 : decode prog_2_method_2_code 35 = .ok (.iload_n 1, 1) := by decide +kernel
theorem d1_36 : decode prog_2_method_2_code 36 = .ok (.invokevirtual 36, 3) := by decide +kernel
set_option maxRecDepth 65536 in
theorem own_wch {a0 : Array Value} {Z : State} (hw : ∀ d ∈ tables_1, d.before a0 Z = true) : ∀ d ∈ StrChars.Road.wordsChN, d.before a0 Z = true := fun d hd => hw d ((by decide +kernel : ∀ d ∈ StrChars.Road.wordsChN, d ∈ tables_1) d hd)
theorem pd_9 : parseMethodDescriptor "(I)C" = some ⟨[.int], some .char⟩ := by decide +kernel
theorem d1_39 : decode prog_2_method_2_code 39 = .ok (.invokevirtual 40, 3) := by decide +kernel
theorem pd_10 : parseMethodDescriptor "(I)I" = some ⟨[.int], some .int⟩ := by decide +kernel
theorem d1_42 : decode prog_2_method_2_code 42 = .ok (.ifCond .ge 5, 3) := by decide +kernel
theorem d1_47 : decode prog_2_method_2_code 47 = .ok (.iinc 1 1, 3) := by decide +kernel
theorem d1_50 : decode prog_2_method_2_code 50 = .ok (.goto (-26), 3) := by decide +kernel
set_option maxRecDepth 65536 in
set_option maxHeartbeats 40000000 in
theorem ivT {p : Program} {l : Launch} {e : Env} {s : State} {vm0 : Vm} {m : MethodId} {args : Array Value} {below : List Frame} {meth : Method} {c : Code} {T0 : State} {locs : List Loc} {Z : State} {a0 : Array Value} (o0 : Addr) (cs : List Int32) (pi : Nat) (tA : Addr) (kA : ClassId) (zc : Int32) (fm : Value) (sa : Addr) (tb : Addr) (kb : ClassId) {h0 : Heap} {n0 : Nat} (X0 : Stand p l e ({ frames := 4, cells := 2, slots := 260, locals := 60 } : Room) (s.setVm vm0) m args below meth c T0 locs 2 260) (hx : p.tables.exec = Jvm.exec) (hZ : Z.Warmed39 (s.setVm vm0).vm) (hw : ∀ d ∈ tables_1, d.before a0 Z = true) (hby : c.code = prog_2_method_2_code) (hml : c.maxLocals = 2) (hown : (s.setVm vm0).vm.findClass "com/example/dispensd/dispensd/Identifier" = some m.cls) (e0 : T0.heap = h0) (O0 : Old Z n0 h0) (N0 : Fr n0 locs) (E_o0 : Exa Z h0 o0 "java/lang/String") (F_value_o0 : Fld Z h0 o0 "java/lang/String" "value" "[B" (.ref tA)) (F_coder_o0 : Fld Z h0 o0 "java/lang/String" "coder" "B" (.int 0)) (V_tA : Arv Z h0 tA kA .byte (Int32.ofNat cs.length) ((cs.map (fun c => c.toInt8.toInt32)).map Value.int) (.int 0)) (S_COMPACT_STRINGS : Sta Z Z.heap "java/lang/String" "COMPACT_STRINGS" "Z" (.int zc)) (hzc : ¬ zc = 0) (S_FM : Sta Z Z.heap "jdk/internal/util/Preconditions" "SIOOBE_FORMATTER" "Ljava/util/function/BiFunction;" fm) (hfm : fm.isRef = true) (hp : ∀ c ∈ cs, ¬ c < 0 ∧ ¬ (255 : Int32) < c) (l2 : cs.length ≤ 4000) (E_sa : Exa Z h0 sa "java/lang/String") (F_value_sa : Fld Z h0 sa "java/lang/String" "value" "[B" (.ref tb)) (F_coder_sa : Fld Z h0 sa "java/lang/String" "coder" "B" (.int 0)) (V_tb : Arv Z h0 tb kb .byte (Int32.ofNat own_A.length) (own_A.map Value.int) (.int 0)) (hlit : Jvm.RoadKit.Lit (s.setVm vm0) "com/example/dispensd/dispensd/Identifier" 34 sa) (hqi : pi < cs.length) (hqc : ¬ (cs.getD pi 0) < (0 : Int32) ∧ ¬ (255 : Int32) < (cs.getD pi 0)) (hqj : (Int32.ofNat pi) < (Int32.ofNat cs.length)) (hqf : ¬ (own_find own_A ((cs.getD pi 0).toInt8.toInt32) 0) < 0) :
    ∃ (T' : State) (L' : List Loc), Stand p l e ({ frames := 4, cells := 2, slots := 260, locals := 60 } : Room) (s.setVm vm0) m args below meth c T' L' 2 260 ∧ T'.heap = h0 ∧ Fr n0 L' ∧ ∀ target, Steps p.tables e below (T'.setTop (mkF m 24 #[.val (.ref o0), .val (.int ((Int32.ofNat pi) + (1 : Int32)))] [])) target → Steps p.tables e below (T0.setTop (mkF m 24 #[.val (.ref o0), .val (.int (Int32.ofNat pi))] [])) target := by
  obtain ⟨cq1, kq1, q1a, q1b, q1c⟩ := isOf hZ e0 E_o0
  obtain ⟨_, _, ⟨T1, L1, k1, n1⟩, -, X1, ⟨Lc1, hQ1, l1, y1, z1⟩, st1⟩ := X0.virtualBack hx (y := (⟨"java/lang/String", "length", "()I"⟩ : MethodName)) (z := (⟨"java/lang/String", "length", "()I"⟩ : MethodName)) hown (mvT hZ (own_w hw 50 rfl)) (mvT hZ (own_w hw 51 rfl)) (notFace_of_selects (args := #[]) (mvT hZ (own_w hw 53 rfl))) (mvT hZ (own_w hw 53 rfl)) (mvT hZ (own_w hw 52 rfl)) (by decide) (StrChars.Road.lenW (W := 1) hZ (own_wln hw) (kI := 4) (own_w hw 10 rfl) E_o0 F_value_o0 F_coder_o0 V_tA (StrChars.Road.codOf (cs := cs) rfl (fun c hc => (hp c hc).2)) (own_up _ hp) (S_COMPACT_STRINGS.ext O0.2) hzc l2 (by decide) (by decide)) q1a q1c (g := (mkF m 26 #[.val (.ref o0), .val (.int (Int32.ofNat pi))] [(.ref o0), (.int (Int32.ofNat pi))])) rfl (by rw [hml]; rfl) (Steps.refl _) (argsL := []) (rest := [(.int (Int32.ofNat pi))]) (lenOf pd_5 rfl) rfl (by show 2 * 0 + _ ≤ _; exact Nat.le_of_eq rfl) (hb hby d1_26) (fun _ _ => ⟨rfl, e0, (by decide : 2 + 0 ≤ _), (by decide : 260 + 0 ≤ _)⟩)
  dsimp only [Pt.U, Pt.locs, Pt.cells, Pt.slots] at X1 l1 y1 z1 st1 hQ1
  subst l1 y1 z1
  obtain ⟨rfl, rfl, e1⟩ := hQ1
  have N1q : Fr n0 ([] : List Loc) := Fr.nil n0
  have N1 := Fr.app N0 N1q
  obtain ⟨cq2, kq2, q2a, q2b, q2c⟩ := isOf hZ e1 E_o0
  obtain ⟨_, _, ⟨T2, L2, k2, n2⟩, -, X2, ⟨Lc2, hQ2, l2, y2, z2⟩, st2⟩ := X1.virtualBack hx (y := (⟨"java/lang/String", "charAt", "(I)C"⟩ : MethodName)) (z := (⟨"java/lang/String", "charAt", "(I)C"⟩ : MethodName)) hown (mvT hZ (own_w hw 63 rfl)) (mvT hZ (own_w hw 64 rfl)) (notFace_of_selects (args := #[]) (mvT hZ (own_w hw 66 rfl))) (mvT hZ (own_w hw 66 rfl)) (mvT hZ (own_w hw 65 rfl)) (by decide) (StrChars.Road.chN (W := 1) hZ (own_wch hw) (kI := 4) (own_w hw 10 rfl) E_o0 F_value_o0 F_coder_o0 V_tA (StrChars.Road.codOf (cs := cs) rfl (fun c hc => (hp c hc).2)) (own_up _ hp) (S_COMPACT_STRINGS.ext O0.2) hzc (S_FM.ext O0.2) hfm l2 (i := pi) hqi (j := (Int32.ofNat pi)) rfl (by decide) (by decide)) q2a q2c (g := (mkF m 36 #[.val (.ref o0), .val (.int (Int32.ofNat pi))] [(.int (Int32.ofNat pi)), (.ref o0), (.ref sa)])) rfl (by rw [hml]; rfl) (Steps.refl _) (argsL := [(.int (Int32.ofNat pi))]) (rest := [(.ref sa)]) (lenOf pd_9 rfl) rfl (by show 2 * 0 + _ ≤ _; exact Nat.le_of_eq rfl) (hb hby d1_36) (fun _ _ => ⟨rfl, e1, (by decide : 2 + 0 ≤ _), (by decide : 260 + 0 ≤ _)⟩)
  dsimp only [Pt.U, Pt.locs, Pt.cells, Pt.slots] at X2 l2 y2 z2 st2 hQ2
  subst l2 y2 z2
  obtain ⟨rfl, rfl, e2⟩ := hQ2
  have N2q : Fr n0 ([] : List Loc) := Fr.nil n0
  have N2 := Fr.app N1 N2q
  obtain ⟨cq3, kq3, q3a, q3b, q3c⟩ := isOf hZ e2 E_sa
  obtain ⟨_, _, ⟨T3, L3, k3, n3⟩, -, X3, ⟨Lc3, hQ3, l3, y3, z3⟩, st3⟩ := X2.virtualBack hx (y := (⟨"java/lang/String", "indexOf", "(I)I"⟩ : MethodName)) (z := (⟨"java/lang/String", "indexOf", "(I)I"⟩ : MethodName)) hown (mvT hZ (own_w hw 85 rfl)) (mvT hZ (own_w hw 86 rfl)) (notFace_of_selects (args := #[]) (mvT hZ (own_w hw 88 rfl))) (mvT hZ (own_w hw 88 rfl)) (mvT hZ (own_w hw 87 rfl)) (by decide) (backOf (W := 0) (rmIx l Z a0 hw [] sa (cs.getD pi 0) own_A tb kb zc h0 n0 O0 F_value_sa F_coder_sa V_tb S_COMPACT_STRINGS hzc E_sa (by decide) (by decide) hqc) hZ (own_w hw 89 rfl) (own_w hw 11 rfl) (by decide) (by decide)) q3a q3c (g := (mkF m 39 #[.val (.ref o0), .val (.int (Int32.ofNat pi))] [(.int (cs.getD pi 0)), (.ref sa)])) rfl (by rw [hml]; rfl) (Steps.refl _) (argsL := [(.int (cs.getD pi 0))]) (rest := []) (lenOf pd_10 rfl) rfl (by show 2 * 0 + _ ≤ _; exact Nat.le_of_eq rfl) (hb hby d1_39) (fun _ _ => ⟨rfl, e2, (by decide : 2 + 0 ≤ _), (by decide : 260 + 0 ≤ _)⟩)
  dsimp only [Pt.U, Pt.locs, Pt.cells, Pt.slots] at X3 l3 y3 z3 st3 hQ3
  subst l3 y3 z3
  obtain ⟨rfl, N3q, e3⟩ := hQ3
  have N3 := Fr.app N2 N3q
  refine ⟨T3, _, X3, e3, N3, fun target kt => ?_⟩
  show oS p e below T0 m 24 #[.val (.ref o0), .val (.int (Int32.ofNat pi))] [] _
  refine XS.iloadN X0.here hx rfl (hb hby d1_24) rfl ?_
  show oS p e below T0 m 25 #[.val (.ref o0), .val (.int (Int32.ofNat pi))] [(.int (Int32.ofNat pi))] _
  refine XS.aloadN X0.here hx rfl (hb hby d1_25) rfl rfl ?_
  show oS p e below T0 m 26 #[.val (.ref o0), .val (.int (Int32.ofNat pi))] [(.ref o0), (.int (Int32.ofNat pi))] _
  refine st1.trans ?_
  show oS p e below T1 m 29 #[.val (.ref o0), .val (.int (Int32.ofNat pi))] [(.int (Int32.ofNat cs.length)), (.int (Int32.ofNat pi))] _
  refine XS.icmpNo X1.here hx rfl (hb hby d1_29) rfl (tlt hqj).2.1 ?_
  show oS p e below T1 m 32 #[.val (.ref o0), .val (.int (Int32.ofNat pi))] [] _
  refine ldcAgain X1 hx hZ hown (own_w hw 60 rfl) hlit (g := (mkF m 32 #[.val (.ref o0), .val (.int (Int32.ofNat pi))] [])) rfl (hb hby d1_32) _ ?_
  show oS p e below T1 m 34 #[.val (.ref o0), .val (.int (Int32.ofNat pi))] [(.ref sa)] _
  refine XS.aloadN X1.here hx rfl (hb hby d1_34) rfl rfl ?_
  show oS p e below T1 m 35 #[.val (.ref o0), .val (.int (Int32.ofNat pi))] [(.ref o0), (.ref sa)] _
  refine XS.iloadN X1.here hx rfl (hb hby d1_35) rfl ?_
  show oS p e below T1 m 36 #[.val (.ref o0), .val (.int (Int32.ofNat pi))] [(.int (Int32.ofNat pi)), (.ref o0), (.ref sa)] _
  refine st2.trans ?_
  show oS p e below T2 m 39 #[.val (.ref o0), .val (.int (Int32.ofNat pi))] [(.int (cs.getD pi 0)), (.ref sa)] _
  refine st3.trans ?_
  show oS p e below T3 m 42 #[.val (.ref o0), .val (.int (Int32.ofNat pi))] [(.int (own_find own_A ((cs.getD pi 0).toInt8.toInt32) 0))] _
  refine XS.ifYes X3.here hx rfl (pc0 := 42) (pc' := 47) rfl (hb hby d1_42) rfl ((if0 _ _).trans (flt hqf).2.1) (by decide) (by decide) ?_
  show oS p e below T3 m 47 #[.val (.ref o0), .val (.int (Int32.ofNat pi))] [] _
  refine XS.iinc X3.here hx rfl (hb hby d1_47) rfl (l' := #[.val (.ref o0), .val (.int ((Int32.ofNat pi) + (1 : Int32)))]) rfl ?_
  show oS p e below T3 m 50 #[.val (.ref o0), .val (.int ((Int32.ofNat pi) + (1 : Int32)))] [] _
  refine XS.goto X3.here hx rfl (pc0 := 50) (pc' := 24) rfl (hb hby d1_50) (by decide) (by decide) ?_
  show oS p e below T3 m 24 #[.val (.ref o0), .val (.int ((Int32.ofNat pi) + (1 : Int32)))] [] _
  exact kt
set_option maxRecDepth 65536 in
set_option maxHeartbeats 40000000 in
theorem ivN {p : Program} {l : Launch} {e : Env} {s : State} {vm0 : Vm} {m : MethodId} {args : Array Value} {below : List Frame} {meth : Method} {c : Code} {T0 : State} {locs : List Loc} {Z : State} {a0 : Array Value} (o0 : Addr) (cs : List Int32) (pi : Nat) (tA : Addr) (kA : ClassId) (zc : Int32) (fm : Value) (sa : Addr) (tb : Addr) (kb : ClassId) {h0 : Heap} {n0 : Nat} (X0 : Stand p l e ({ frames := 4, cells := 2, slots := 260, locals := 60 } : Room) (s.setVm vm0) m args below meth c T0 locs 2 260) (hx : p.tables.exec = Jvm.exec) (hZ : Z.Warmed39 (s.setVm vm0).vm) (hw : ∀ d ∈ tables_1, d.before a0 Z = true) (hby : c.code = prog_2_method_2_code) (hml : c.maxLocals = 2) (hown : (s.setVm vm0).vm.findClass "com/example/dispensd/dispensd/Identifier" = some m.cls) (e0 : T0.heap = h0) (O0 : Old Z n0 h0) (N0 : Fr n0 locs) (E_o0 : Exa Z h0 o0 "java/lang/String") (F_value_o0 : Fld Z h0 o0 "java/lang/String" "value" "[B" (.ref tA)) (F_coder_o0 : Fld Z h0 o0 "java/lang/String" "coder" "B" (.int 0)) (V_tA : Arv Z h0 tA kA .byte (Int32.ofNat cs.length) ((cs.map (fun c => c.toInt8.toInt32)).map Value.int) (.int 0)) (S_COMPACT_STRINGS : Sta Z Z.heap "java/lang/String" "COMPACT_STRINGS" "Z" (.int zc)) (hzc : ¬ zc = 0) (S_FM : Sta Z Z.heap "jdk/internal/util/Preconditions" "SIOOBE_FORMATTER" "Ljava/util/function/BiFunction;" fm) (hfm : fm.isRef = true) (hp : ∀ c ∈ cs, ¬ c < 0 ∧ ¬ (255 : Int32) < c) (l2 : cs.length ≤ 4000) (E_sa : Exa Z h0 sa "java/lang/String") (F_value_sa : Fld Z h0 sa "java/lang/String" "value" "[B" (.ref tb)) (F_coder_sa : Fld Z h0 sa "java/lang/String" "coder" "B" (.int 0)) (V_tb : Arv Z h0 tb kb .byte (Int32.ofNat own_A.length) (own_A.map Value.int) (.int 0)) (hlit : Jvm.RoadKit.Lit (s.setVm vm0) "com/example/dispensd/dispensd/Identifier" 34 sa) (hqi : pi < cs.length) (hqc : ¬ (cs.getD pi 0) < (0 : Int32) ∧ ¬ (255 : Int32) < (cs.getD pi 0)) (hqj : (Int32.ofNat pi) < (Int32.ofNat cs.length)) (hqf : (own_find own_A ((cs.getD pi 0).toInt8.toInt32) 0) < 0) :
    ∃ (T' : State) (L' : List Loc), Stand p l e ({ frames := 4, cells := 2, slots := 260, locals := 60 } : Room) (s.setVm vm0) m args below meth c T' L' 2 260 ∧ T'.heap = h0 ∧ Fr n0 L' ∧ ∀ target, Steps p.tables e below (T'.setTop (mkF m 45 #[.val (.ref o0), .val (.int (Int32.ofNat pi))] [])) target → Steps p.tables e below (T0.setTop (mkF m 24 #[.val (.ref o0), .val (.int (Int32.ofNat pi))] [])) target := by
  obtain ⟨cq1, kq1, q1a, q1b, q1c⟩ := isOf hZ e0 E_o0
  obtain ⟨_, _, ⟨T1, L1, k1, n1⟩, -, X1, ⟨Lc1, hQ1, l1, y1, z1⟩, st1⟩ := X0.virtualBack hx (y := (⟨"java/lang/String", "length", "()I"⟩ : MethodName)) (z := (⟨"java/lang/String", "length", "()I"⟩ : MethodName)) hown (mvT hZ (own_w hw 50 rfl)) (mvT hZ (own_w hw 51 rfl)) (notFace_of_selects (args := #[]) (mvT hZ (own_w hw 53 rfl))) (mvT hZ (own_w hw 53 rfl)) (mvT hZ (own_w hw 52 rfl)) (by decide) (StrChars.Road.lenW (W := 1) hZ (own_wln hw) (kI := 4) (own_w hw 10 rfl) E_o0 F_value_o0 F_coder_o0 V_tA (StrChars.Road.codOf (cs := cs) rfl (fun c hc => (hp c hc).2)) (own_up _ hp) (S_COMPACT_STRINGS.ext O0.2) hzc l2 (by decide) (by decide)) q1a q1c (g := (mkF m 26 #[.val (.ref o0), .val (.int (Int32.ofNat pi))] [(.ref o0), (.int (Int32.ofNat pi))])) rfl (by rw [hml]; rfl) (Steps.refl _) (argsL := []) (rest := [(.int (Int32.ofNat pi))]) (lenOf pd_5 rfl) rfl (by show 2 * 0 + _ ≤ _; exact Nat.le_of_eq rfl) (hb hby d1_26) (fun _ _ => ⟨rfl, e0, (by decide : 2 + 0 ≤ _), (by decide : 260 + 0 ≤ _)⟩)
  dsimp only [Pt.U, Pt.locs, Pt.cells, Pt.slots] at X1 l1 y1 z1 st1 hQ1
  subst l1 y1 z1
  obtain ⟨rfl, rfl, e1⟩ := hQ1
  have N1q : Fr n0 ([] : List Loc) := Fr.nil n0
  have N1 := Fr.app N0 N1q
  obtain ⟨cq2, kq2, q2a, q2b, q2c⟩ := isOf hZ e1 E_o0
  obtain ⟨_, _, ⟨T2, L2, k2, n2⟩, -, X2, ⟨Lc2, hQ2, l2, y2, z2⟩, st2⟩ := X1.virtualBack hx (y := (⟨"java/lang/String", "charAt", "(I)C"⟩ : MethodName)) (z := (⟨"java/lang/String", "charAt", "(I)C"⟩ : MethodName)) hown (mvT hZ (own_w hw 63 rfl)) (mvT hZ (own_w hw 64 rfl)) (notFace_of_selects (args := #[]) (mvT hZ (own_w hw 66 rfl))) (mvT hZ (own_w hw 66 rfl)) (mvT hZ (own_w hw 65 rfl)) (by decide) (StrChars.Road.chN (W := 1) hZ (own_wch hw) (kI := 4) (own_w hw 10 rfl) E_o0 F_value_o0 F_coder_o0 V_tA (StrChars.Road.codOf (cs := cs) rfl (fun c hc => (hp c hc).2)) (own_up _ hp) (S_COMPACT_STRINGS.ext O0.2) hzc (S_FM.ext O0.2) hfm l2 (i := pi) hqi (j := (Int32.ofNat pi)) rfl (by decide) (by decide)) q2a q2c (g := (mkF m 36 #[.val (.ref o0), .val (.int (Int32.ofNat pi))] [(.int (Int32.ofNat pi)), (.ref o0), (.ref sa)])) rfl (by rw [hml]; rfl) (Steps.refl _) (argsL := [(.int (Int32.ofNat pi))]) (rest := [(.ref sa)]) (lenOf pd_9 rfl) rfl (by show 2 * 0 + _ ≤ _; exact Nat.le_of_eq rfl) (hb hby d1_36) (fun _ _ => ⟨rfl, e1, (by decide : 2 + 0 ≤ _), (by decide : 260 + 0 ≤ _)⟩)
  dsimp only [Pt.U, Pt.locs, Pt.cells, Pt.slots] at X2 l2 y2 z2 st2 hQ2
  subst l2 y2 z2
  obtain ⟨rfl, rfl, e2⟩ := hQ2
  have N2q : Fr n0 ([] : List Loc) := Fr.nil n0
  have N2 := Fr.app N1 N2q
  obtain ⟨cq3, kq3, q3a, q3b, q3c⟩ := isOf hZ e2 E_sa
  obtain ⟨_, _, ⟨T3, L3, k3, n3⟩, -, X3, ⟨Lc3, hQ3, l3, y3, z3⟩, st3⟩ := X2.virtualBack hx (y := (⟨"java/lang/String", "indexOf", "(I)I"⟩ : MethodName)) (z := (⟨"java/lang/String", "indexOf", "(I)I"⟩ : MethodName)) hown (mvT hZ (own_w hw 85 rfl)) (mvT hZ (own_w hw 86 rfl)) (notFace_of_selects (args := #[]) (mvT hZ (own_w hw 88 rfl))) (mvT hZ (own_w hw 88 rfl)) (mvT hZ (own_w hw 87 rfl)) (by decide) (backOf (W := 0) (rmIx l Z a0 hw [] sa (cs.getD pi 0) own_A tb kb zc h0 n0 O0 F_value_sa F_coder_sa V_tb S_COMPACT_STRINGS hzc E_sa (by decide) (by decide) hqc) hZ (own_w hw 89 rfl) (own_w hw 11 rfl) (by decide) (by decide)) q3a q3c (g := (mkF m 39 #[.val (.ref o0), .val (.int (Int32.ofNat pi))] [(.int (cs.getD pi 0)), (.ref sa)])) rfl (by rw [hml]; rfl) (Steps.refl _) (argsL := [(.int (cs.getD pi 0))]) (rest := []) (lenOf pd_10 rfl) rfl (by show 2 * 0 + _ ≤ _; exact Nat.le_of_eq rfl) (hb hby d1_39) (fun _ _ => ⟨rfl, e2, (by decide : 2 + 0 ≤ _), (by decide : 260 + 0 ≤ _)⟩)
  dsimp only [Pt.U, Pt.locs, Pt.cells, Pt.slots] at X3 l3 y3 z3 st3 hQ3
  subst l3 y3 z3
  obtain ⟨rfl, N3q, e3⟩ := hQ3
  have N3 := Fr.app N2 N3q
  refine ⟨T3, _, X3, e3, N3, fun target kt => ?_⟩
  show oS p e below T0 m 24 #[.val (.ref o0), .val (.int (Int32.ofNat pi))] [] _
  refine XS.iloadN X0.here hx rfl (hb hby d1_24) rfl ?_
  show oS p e below T0 m 25 #[.val (.ref o0), .val (.int (Int32.ofNat pi))] [(.int (Int32.ofNat pi))] _
  refine XS.aloadN X0.here hx rfl (hb hby d1_25) rfl rfl ?_
  show oS p e below T0 m 26 #[.val (.ref o0), .val (.int (Int32.ofNat pi))] [(.ref o0), (.int (Int32.ofNat pi))] _
  refine st1.trans ?_
  show oS p e below T1 m 29 #[.val (.ref o0), .val (.int (Int32.ofNat pi))] [(.int (Int32.ofNat cs.length)), (.int (Int32.ofNat pi))] _
  refine XS.icmpNo X1.here hx rfl (hb hby d1_29) rfl (tlt hqj).2.1 ?_
  show oS p e below T1 m 32 #[.val (.ref o0), .val (.int (Int32.ofNat pi))] [] _
  refine ldcAgain X1 hx hZ hown (own_w hw 60 rfl) hlit (g := (mkF m 32 #[.val (.ref o0), .val (.int (Int32.ofNat pi))] [])) rfl (hb hby d1_32) _ ?_
  show oS p e below T1 m 34 #[.val (.ref o0), .val (.int (Int32.ofNat pi))] [(.ref sa)] _
  refine XS.aloadN X1.here hx rfl (hb hby d1_34) rfl rfl ?_
  show oS p e below T1 m 35 #[.val (.ref o0), .val (.int (Int32.ofNat pi))] [(.ref o0), (.ref sa)] _
  refine XS.iloadN X1.here hx rfl (hb hby d1_35) rfl ?_
  show oS p e below T1 m 36 #[.val (.ref o0), .val (.int (Int32.ofNat pi))] [(.int (Int32.ofNat pi)), (.ref o0), (.ref sa)] _
  refine st2.trans ?_
  show oS p e below T2 m 39 #[.val (.ref o0), .val (.int (Int32.ofNat pi))] [(.int (cs.getD pi 0)), (.ref sa)] _
  refine st3.trans ?_
  show oS p e below T3 m 42 #[.val (.ref o0), .val (.int (Int32.ofNat pi))] [(.int (own_find own_A ((cs.getD pi 0).toInt8.toInt32) 0))] _
  refine XS.ifNo X3.here hx rfl (hb hby d1_42) rfl ((if0 _ _).trans (tlt hqf).2.1) ?_
  show oS p e below T3 m 45 #[.val (.ref o0), .val (.int (Int32.ofNat pi))] [] _
  exact kt
set_option maxRecDepth 65536 in
set_option maxHeartbeats 40000000 in
theorem ivO {p : Program} {l : Launch} {e : Env} {s : State} {vm0 : Vm} {m : MethodId} {args : Array Value} {below : List Frame} {meth : Method} {c : Code} {T0 : State} {locs : List Loc} {Z : State} {a0 : Array Value} (o0 : Addr) (cs : List Int32) (pi : Nat) (tA : Addr) (kA : ClassId) (zc : Int32) (fm : Value) (sa : Addr) (tb : Addr) (kb : ClassId) {h0 : Heap} {n0 : Nat} (X0 : Stand p l e ({ frames := 4, cells := 2, slots := 260, locals := 60 } : Room) (s.setVm vm0) m args below meth c T0 locs 2 260) (hx : p.tables.exec = Jvm.exec) (hZ : Z.Warmed39 (s.setVm vm0).vm) (hw : ∀ d ∈ tables_1, d.before a0 Z = true) (hby : c.code = prog_2_method_2_code) (hml : c.maxLocals = 2) (hown : (s.setVm vm0).vm.findClass "com/example/dispensd/dispensd/Identifier" = some m.cls) (e0 : T0.heap = h0) (O0 : Old Z n0 h0) (N0 : Fr n0 locs) (E_o0 : Exa Z h0 o0 "java/lang/String") (F_value_o0 : Fld Z h0 o0 "java/lang/String" "value" "[B" (.ref tA)) (F_coder_o0 : Fld Z h0 o0 "java/lang/String" "coder" "B" (.int 0)) (V_tA : Arv Z h0 tA kA .byte (Int32.ofNat cs.length) ((cs.map (fun c => c.toInt8.toInt32)).map Value.int) (.int 0)) (S_COMPACT_STRINGS : Sta Z Z.heap "java/lang/String" "COMPACT_STRINGS" "Z" (.int zc)) (hzc : ¬ zc = 0) (S_FM : Sta Z Z.heap "jdk/internal/util/Preconditions" "SIOOBE_FORMATTER" "Ljava/util/function/BiFunction;" fm) (hfm : fm.isRef = true) (hp : ∀ c ∈ cs, ¬ c < 0 ∧ ¬ (255 : Int32) < c) (l2 : cs.length ≤ 4000) (E_sa : Exa Z h0 sa "java/lang/String") (F_value_sa : Fld Z h0 sa "java/lang/String" "value" "[B" (.ref tb)) (F_coder_sa : Fld Z h0 sa "java/lang/String" "coder" "B" (.int 0)) (V_tb : Arv Z h0 tb kb .byte (Int32.ofNat own_A.length) (own_A.map Value.int) (.int 0)) (hlit : Jvm.RoadKit.Lit (s.setVm vm0) "com/example/dispensd/dispensd/Identifier" 34 sa) (hqe : ¬ ((Int32.ofNat pi) < (Int32.ofNat cs.length))) :
    ∃ (T' : State) (L' : List Loc), Stand p l e ({ frames := 4, cells := 2, slots := 260, locals := 60 } : Room) (s.setVm vm0) m args below meth c T' L' 2 260 ∧ T'.heap = h0 ∧ Fr n0 L' ∧ ∀ target, Steps p.tables e below (T'.setTop (mkF m 53 #[.val (.ref o0), .val (.int (Int32.ofNat pi))] [])) target → Steps p.tables e below (T0.setTop (mkF m 24 #[.val (.ref o0), .val (.int (Int32.ofNat pi))] [])) target := by
  obtain ⟨cq1, kq1, q1a, q1b, q1c⟩ := isOf hZ e0 E_o0
  obtain ⟨_, _, ⟨T1, L1, k1, n1⟩, -, X1, ⟨Lc1, hQ1, l1, y1, z1⟩, st1⟩ := X0.virtualBack hx (y := (⟨"java/lang/String", "length", "()I"⟩ : MethodName)) (z := (⟨"java/lang/String", "length", "()I"⟩ : MethodName)) hown (mvT hZ (own_w hw 50 rfl)) (mvT hZ (own_w hw 51 rfl)) (notFace_of_selects (args := #[]) (mvT hZ (own_w hw 53 rfl))) (mvT hZ (own_w hw 53 rfl)) (mvT hZ (own_w hw 52 rfl)) (by decide) (StrChars.Road.lenW (W := 1) hZ (own_wln hw) (kI := 4) (own_w hw 10 rfl) E_o0 F_value_o0 F_coder_o0 V_tA (StrChars.Road.codOf (cs := cs) rfl (fun c hc => (hp c hc).2)) (own_up _ hp) (S_COMPACT_STRINGS.ext O0.2) hzc l2 (by decide) (by decide)) q1a q1c (g := (mkF m 26 #[.val (.ref o0), .val (.int (Int32.ofNat pi))] [(.ref o0), (.int (Int32.ofNat pi))])) rfl (by rw [hml]; rfl) (Steps.refl _) (argsL := []) (rest := [(.int (Int32.ofNat pi))]) (lenOf pd_5 rfl) rfl (by show 2 * 0 + _ ≤ _; exact Nat.le_of_eq rfl) (hb hby d1_26) (fun _ _ => ⟨rfl, e0, (by decide : 2 + 0 ≤ _), (by decide : 260 + 0 ≤ _)⟩)
  dsimp only [Pt.U, Pt.locs, Pt.cells, Pt.slots] at X1 l1 y1 z1 st1 hQ1
  subst l1 y1 z1
  obtain ⟨rfl, rfl, e1⟩ := hQ1
  have N1q : Fr n0 ([] : List Loc) := Fr.nil n0
  have N1 := Fr.app N0 N1q
  refine ⟨T1, _, X1, e1, N1, fun target kt => ?_⟩
  show oS p e below T0 m 24 #[.val (.ref o0), .val (.int (Int32.ofNat pi))] [] _
  refine XS.iloadN X0.here hx rfl (hb hby d1_24) rfl ?_
  show oS p e below T0 m 25 #[.val (.ref o0), .val (.int (Int32.ofNat pi))] [(.int (Int32.ofNat pi))] _
  refine XS.aloadN X0.here hx rfl (hb hby d1_25) rfl rfl ?_
  show oS p e below T0 m 26 #[.val (.ref o0), .val (.int (Int32.ofNat pi))] [(.ref o0), (.int (Int32.ofNat pi))] _
  refine st1.trans ?_
  show oS p e below T1 m 29 #[.val (.ref o0), .val (.int (Int32.ofNat pi))] [(.int (Int32.ofNat cs.length)), (.int (Int32.ofNat pi))] _
  refine XS.icmpYes X1.here hx rfl (pc0 := 29) (pc' := 53) rfl (hb hby d1_29) rfl (flt hqe).2.1 (by decide) (by decide) ?_
  show oS p e below T1 m 53 #[.val (.ref o0), .val (.int (Int32.ofNat pi))] [] _
  exact kt
theorem own_ivLoop {p : Program} {l : Launch} {e : Env} {s : State} {vm0 : Vm} {m : MethodId} {args : Array Value} {below : List Frame} {meth : Method} {c : Code} {Z : State} {a0 : Array Value} (o0 : Addr) (cs : List Int32) (tA : Addr) (kA : ClassId) (zc : Int32) (fm : Value) (sa : Addr) (tb : Addr) (kb : ClassId) {h0 : Heap} {n0 : Nat} (hx : p.tables.exec = Jvm.exec) (hZ : Z.Warmed39 (s.setVm vm0).vm) (hw : ∀ d ∈ tables_1, d.before a0 Z = true) (hby : c.code = prog_2_method_2_code) (hml : c.maxLocals = 2) (hown : (s.setVm vm0).vm.findClass "com/example/dispensd/dispensd/Identifier" = some m.cls) (O0 : Old Z n0 h0) (E_o0 : Exa Z h0 o0 "java/lang/String") (F_value_o0 : Fld Z h0 o0 "java/lang/String" "value" "[B" (.ref tA)) (F_coder_o0 : Fld Z h0 o0 "java/lang/String" "coder" "B" (.int 0)) (V_tA : Arv Z h0 tA kA .byte (Int32.ofNat cs.length) ((cs.map (fun c => c.toInt8.toInt32)).map Value.int) (.int 0)) (S_COMPACT_STRINGS : Sta Z Z.heap "java/lang/String" "COMPACT_STRINGS" "Z" (.int zc)) (hzc : ¬ zc = 0) (S_FM : Sta Z Z.heap "jdk/internal/util/Preconditions" "SIOOBE_FORMATTER" "Ljava/util/function/BiFunction;" fm) (hfm : fm.isRef = true) (hp : ∀ c ∈ cs, ¬ c < 0 ∧ ¬ (255 : Int32) < c) (l2 : cs.length ≤ 4000) (E_sa : Exa Z h0 sa "java/lang/String") (F_value_sa : Fld Z h0 sa "java/lang/String" "value" "[B" (.ref tb)) (F_coder_sa : Fld Z h0 sa "java/lang/String" "coder" "B" (.int 0)) (V_tb : Arv Z h0 tb kb .byte (Int32.ofNat own_A.length) (own_A.map Value.int) (.int 0)) (hlit : Jvm.RoadKit.Lit (s.setVm vm0) "com/example/dispensd/dispensd/Identifier" 34 sa) :
    ∀ (L P : List Int32), cs = P ++ L → ∀ (T0 : State) (locs : List Loc), Stand p l e ({ frames := 4, cells := 2, slots := 260, locals := 60 } : Room) (s.setVm vm0) m args below meth c T0 locs 2 260 → T0.heap = h0 → Fr n0 locs →
      (((∀ c ∈ L, ¬ (own_find own_A (c.toInt8.toInt32) 0) < 0) ∧ ∃ (T' : State) (L' : List Loc) (j : Int32), Stand p l e ({ frames := 4, cells := 2, slots := 260, locals := 60 } : Room) (s.setVm vm0) m args below meth c T' L' 2 260 ∧ T'.heap = h0 ∧ Fr n0 L' ∧ ∀ target, Steps p.tables e below (T'.setTop (mkF m 53 #[.val (.ref o0), .val (.int j)] [])) target → Steps p.tables e below (T0.setTop (mkF m 24 #[.val (.ref o0), .val (.int (Int32.ofNat P.length))] [])) target) ∨ ((∃ c ∈ L, (own_find own_A (c.toInt8.toInt32) 0) < 0) ∧ ∃ (T' : State) (L' : List Loc) (j : Int32), Stand p l e ({ frames := 4, cells := 2, slots := 260, locals := 60 } : Room) (s.setVm vm0) m args below meth c T' L' 2 260 ∧ T'.heap = h0 ∧ Fr n0 L' ∧ ∀ target, Steps p.tables e below (T'.setTop (mkF m 45 #[.val (.ref o0), .val (.int j)] [])) target → Steps p.tables e below (T0.setTop (mkF m 24 #[.val (.ref o0), .val (.int (Int32.ofNat P.length))] [])) target)) := by
  intro L
  induction L with
  | nil =>
    intro P hP T0 locs X0 e0 N0
    rw [List.append_nil] at hP
    obtain ⟨T', L', X', e', N', st⟩ := ivO o0 cs P.length tA kA zc fm sa tb kb X0 hx hZ hw hby hml hown e0 O0 N0 E_o0 F_value_o0 F_coder_o0 V_tA S_COMPACT_STRINGS hzc S_FM hfm hp l2 E_sa F_value_sa F_coder_sa V_tb hlit (by rw [hP]; exact Int32.lt_irrefl)
    exact Or.inl ⟨by simp, T', L', _, X', e', N', st⟩
  | cons x L ih =>
    intro P hP T0 locs X0 e0 N0
    have hl : P.length < cs.length := by rw [hP]; simp
    have hget : cs.getD P.length 0 = x := by rw [hP]; simp
    have hj : Int32.ofNat P.length < Int32.ofNat cs.length := by
      rw [Int32.lt_iff_toInt_lt, own_ofNat (by omega), own_ofNat l2]
      omega
    have hc : ¬ (cs.getD P.length 0) < (0 : Int32) ∧ ¬ (255 : Int32) < (cs.getD P.length 0) := by
      rw [hget]
      exact hp x (by rw [hP]; simp)
    by_cases hq : (own_find own_A (x.toInt8.toInt32) 0) < 0
    · obtain ⟨T', L', X', e', N', st⟩ := ivN o0 cs P.length tA kA zc fm sa tb kb X0 hx hZ hw hby hml hown e0 O0 N0 E_o0 F_value_o0 F_coder_o0 V_tA S_COMPACT_STRINGS hzc S_FM hfm hp l2 E_sa F_value_sa F_coder_sa V_tb hlit hl hc hj (by rw [hget]; exact hq)
      exact Or.inr ⟨⟨x, by simp, hq⟩, T', L', _, X', e', N', st⟩
    · obtain ⟨T1, L1, X1, e1, N1, st1⟩ := ivT o0 cs P.length tA kA zc fm sa tb kb X0 hx hZ hw hby hml hown e0 O0 N0 E_o0 F_value_o0 F_coder_o0 V_tA S_COMPACT_STRINGS hzc S_FM hfm hp l2 E_sa F_value_sa F_coder_sa V_tb hlit hl hc hj (by rw [hget]; exact hq)
      have hlen : (P ++ [x]).length = P.length + 1 := by simp
      rw [own_succ] at st1
      rcases ih (P ++ [x]) (by rw [hP]; simp) T1 L1 X1 e1 N1 with ⟨ha, T', L', j, X', e', N', st⟩ | ⟨⟨y, hy, hf⟩, T', L', j, X', e', N', st⟩
      · rw [hlen] at st
        exact Or.inl ⟨fun y hy => by
          rcases List.mem_cons.mp hy with rfl | hy
          · exact hq
          · exact ha y hy, T', L', j, X', e', N', fun target k => st1 _ (st _ k)⟩
      · rw [hlen] at st
        exact Or.inr ⟨⟨y, List.mem_cons_of_mem _ hy, hf⟩, T', L', j, X', e', N', fun target k => st1 _ (st _ k)⟩
theorem own_iv1 {p : Program} {l : Launch} {e : Env} {s : State} {vm0 : Vm} {m : MethodId} {args : Array Value} {below : List Frame} {meth : Method} {c : Code} {Z : State} {a0 : Array Value} (o0 : Addr) (cs : List Int32) (tA : Addr) (kA : ClassId) (zc : Int32) (fm : Value) (sa : Addr) (tb : Addr) (kb : ClassId) {h0 : Heap} {n0 : Nat} (hx : p.tables.exec = Jvm.exec) (hZ : Z.Warmed39 (s.setVm vm0).vm) (hw : ∀ d ∈ tables_1, d.before a0 Z = true) (hby : c.code = prog_2_method_2_code) (hml : c.maxLocals = 2) (hown : (s.setVm vm0).vm.findClass "com/example/dispensd/dispensd/Identifier" = some m.cls) (O0 : Old Z n0 h0) (E_o0 : Exa Z h0 o0 "java/lang/String") (F_value_o0 : Fld Z h0 o0 "java/lang/String" "value" "[B" (.ref tA)) (F_coder_o0 : Fld Z h0 o0 "java/lang/String" "coder" "B" (.int 0)) (V_tA : Arv Z h0 tA kA .byte (Int32.ofNat cs.length) ((cs.map (fun c => c.toInt8.toInt32)).map Value.int) (.int 0)) (S_COMPACT_STRINGS : Sta Z Z.heap "java/lang/String" "COMPACT_STRINGS" "Z" (.int zc)) (hzc : ¬ zc = 0) (S_FM : Sta Z Z.heap "jdk/internal/util/Preconditions" "SIOOBE_FORMATTER" "Ljava/util/function/BiFunction;" fm) (hfm : fm.isRef = true) (hp : ∀ c ∈ cs, ¬ c < 0 ∧ ¬ (255 : Int32) < c) (l2 : cs.length ≤ 4000) (E_sa : Exa Z h0 sa "java/lang/String") (F_value_sa : Fld Z h0 sa "java/lang/String" "value" "[B" (.ref tb)) (F_coder_sa : Fld Z h0 sa "java/lang/String" "coder" "B" (.int 0)) (V_tb : Arv Z h0 tb kb .byte (Int32.ofNat own_A.length) (own_A.map Value.int) (.int 0)) (hlit : Jvm.RoadKit.Lit (s.setVm vm0) "com/example/dispensd/dispensd/Identifier" 34 sa) {L P : List Int32} (hP : cs = P ++ L) {T0 : State} {locs : List Loc} (X0 : Stand p l e ({ frames := 4, cells := 2, slots := 260, locals := 60 } : Room) (s.setVm vm0) m args below meth c T0 locs 2 260) (e0 : T0.heap = h0) (N0 : Fr n0 locs) (hall : ∀ c ∈ L, ¬ (own_find own_A (c.toInt8.toInt32) 0) < 0) : ∃ (T' : State) (L' : List Loc) (j : Int32), Stand p l e ({ frames := 4, cells := 2, slots := 260, locals := 60 } : Room) (s.setVm vm0) m args below meth c T' L' 2 260 ∧ T'.heap = h0 ∧ Fr n0 L' ∧ ∀ target, Steps p.tables e below (T'.setTop (mkF m 53 #[.val (.ref o0), .val (.int j)] [])) target → Steps p.tables e below (T0.setTop (mkF m 24 #[.val (.ref o0), .val (.int (Int32.ofNat P.length))] [])) target := by
  rcases own_ivLoop o0 cs tA kA zc fm sa tb kb hx hZ hw hby hml hown O0 E_o0 F_value_o0 F_coder_o0 V_tA S_COMPACT_STRINGS hzc S_FM hfm hp l2 E_sa F_value_sa F_coder_sa V_tb hlit L P hP T0 locs X0 e0 N0 with ⟨-, q⟩ | ⟨⟨c, hc, hf⟩, -⟩
  · exact q
  · exact absurd hf (hall c hc)
theorem own_iv0 {p : Program} {l : Launch} {e : Env} {s : State} {vm0 : Vm} {m : MethodId} {args : Array Value} {below : List Frame} {meth : Method} {c : Code} {Z : State} {a0 : Array Value} (o0 : Addr) (cs : List Int32) (tA : Addr) (kA : ClassId) (zc : Int32) (fm : Value) (sa : Addr) (tb : Addr) (kb : ClassId) {h0 : Heap} {n0 : Nat} (hx : p.tables.exec = Jvm.exec) (hZ : Z.Warmed39 (s.setVm vm0).vm) (hw : ∀ d ∈ tables_1, d.before a0 Z = true) (hby : c.code = prog_2_method_2_code) (hml : c.maxLocals = 2) (hown : (s.setVm vm0).vm.findClass "com/example/dispensd/dispensd/Identifier" = some m.cls) (O0 : Old Z n0 h0) (E_o0 : Exa Z h0 o0 "java/lang/String") (F_value_o0 : Fld Z h0 o0 "java/lang/String" "value" "[B" (.ref tA)) (F_coder_o0 : Fld Z h0 o0 "java/lang/String" "coder" "B" (.int 0)) (V_tA : Arv Z h0 tA kA .byte (Int32.ofNat cs.length) ((cs.map (fun c => c.toInt8.toInt32)).map Value.int) (.int 0)) (S_COMPACT_STRINGS : Sta Z Z.heap "java/lang/String" "COMPACT_STRINGS" "Z" (.int zc)) (hzc : ¬ zc = 0) (S_FM : Sta Z Z.heap "jdk/internal/util/Preconditions" "SIOOBE_FORMATTER" "Ljava/util/function/BiFunction;" fm) (hfm : fm.isRef = true) (hp : ∀ c ∈ cs, ¬ c < 0 ∧ ¬ (255 : Int32) < c) (l2 : cs.length ≤ 4000) (E_sa : Exa Z h0 sa "java/lang/String") (F_value_sa : Fld Z h0 sa "java/lang/String" "value" "[B" (.ref tb)) (F_coder_sa : Fld Z h0 sa "java/lang/String" "coder" "B" (.int 0)) (V_tb : Arv Z h0 tb kb .byte (Int32.ofNat own_A.length) (own_A.map Value.int) (.int 0)) (hlit : Jvm.RoadKit.Lit (s.setVm vm0) "com/example/dispensd/dispensd/Identifier" 34 sa) {L P : List Int32} (hP : cs = P ++ L) {T0 : State} {locs : List Loc} (X0 : Stand p l e ({ frames := 4, cells := 2, slots := 260, locals := 60 } : Room) (s.setVm vm0) m args below meth c T0 locs 2 260) (e0 : T0.heap = h0) (N0 : Fr n0 locs) (hex : ∃ c ∈ L, (own_find own_A (c.toInt8.toInt32) 0) < 0) : ∃ (T' : State) (L' : List Loc) (j : Int32), Stand p l e ({ frames := 4, cells := 2, slots := 260, locals := 60 } : Room) (s.setVm vm0) m args below meth c T' L' 2 260 ∧ T'.heap = h0 ∧ Fr n0 L' ∧ ∀ target, Steps p.tables e below (T'.setTop (mkF m 45 #[.val (.ref o0), .val (.int j)] [])) target → Steps p.tables e below (T0.setTop (mkF m 24 #[.val (.ref o0), .val (.int (Int32.ofNat P.length))] [])) target := by
  rcases own_ivLoop o0 cs tA kA zc fm sa tb kb hx hZ hw hby hml hown O0 E_o0 F_value_o0 F_coder_o0 V_tA S_COMPACT_STRINGS hzc S_FM hfm hp l2 E_sa F_value_sa F_coder_sa V_tb hlit L P hP T0 locs X0 e0 N0 with ⟨ha, -⟩ | ⟨-, q⟩
  · obtain ⟨c, hc, hf⟩ := hex
    exact absurd hf (ha c hc)
  · exact q
theorem d1_22 : decode prog_2_method_2_code 22 = .ok (.iconst 0, 1) := by decide +kernel
theorem d1_23 : decode prog_2_method_2_code 23 = .ok (.istore_n 1, 1) := by decide +kernel
theorem d1_45 : decode prog_2_method_2_code 45 = .ok (.iconst 0, 1) := by decide +kernel
theorem d1_46 : decode prog_2_method_2_code 46 = .ok (.ireturn, 1) := by decide +kernel
set_option maxRecDepth 65536 in
set_option maxHeartbeats 40000000 in
theorem rmV0a (l : Launch) (Z : State) (a0 : Array Value) (hw : ∀ d ∈ tables_1, d.before a0 Z = true) (ws : List Jvm.Cond) (o0 : Addr) (ch0 : Int32) (cr : List Int32) (tA : Addr) (kA : ClassId) (zc : Int32) (fm : Value) (h0 : Heap) (n0 : Nat) (O0 : Old Z n0 h0) (E_o0 : Exa Z h0 o0 "java/lang/String") (F_value_o0 : Fld Z h0 o0 "java/lang/String" "value" "[B" (.ref tA)) (F_coder_o0 : Fld Z h0 o0 "java/lang/String" "coder" "B" (.int 0)) (V_tA : Arv Z h0 tA kA .byte (Int32.ofNat (ch0 :: cr).length) (((ch0 :: cr).map (fun c => c.toInt8.toInt32)).map Value.int) (.int 0)) (S_COMPACT_STRINGS : Sta Z Z.heap "java/lang/String" "COMPACT_STRINGS" "Z" (.int zc)) (hzc : ¬ zc = 0) (S_FM : Sta Z Z.heap "jdk/internal/util/Preconditions" "SIOOBE_FORMATTER" "Ljava/util/function/BiFunction;" fm) (hfm : fm.isRef = true) (hp : ∀ c ∈ (ch0 :: cr), ¬ c < 0 ∧ ¬ (255 : Int32) < c) (l2 : (ch0 :: cr).length ≤ 4000) (hqb : ¬ ((16 : Int32) < (Int32.ofNat (ch0 :: cr).length))) (hqa : (0 : Int32) < (Int32.ofNat (ch0 :: cr).length)) (hheldI : Jvm.Lit.constHeld Z "com/example/dispensd/dispensd/Identifier" 34) (hcw : Jvm.Lit.compactW.before a0 Z = true) (hqf : (own_find own_A (ch0.toInt8.toInt32) 0) < 0) :
    MetFree l (⟨"com/example/dispensd/dispensd/Identifier", "isValid", "(Ljava/lang/String;)Z"⟩ : MethodName) (head1 (Jvm.Cond.code (⟨"com/example/dispensd/dispensd/Identifier", "isValid", "(Ljava/lang/String;)Z"⟩ : MethodName) prog_2_method_2_code 2 (some .boolean) :: ws) ({ frames := 4, cells := 2, slots := 260, locals := 60 } : Room)) (fun a U => a = #[(.ref o0)] ∧ Z.Warmed39 U.vm ∧ U.heap = h0 ∧ U.vm.interned = Z.vm.interned) (fun _ _ _ _ _ => True) (fun _ U o U' => ∃ v L, o = .returned v ∧ own_QV (.int 0) Z n0 v U'.heap L ∧ ReturnedEndW U o U' L ({ frames := 4, cells := 2, slots := 260, locals := 60 } : Room).cells ({ frames := 4, cells := 2, slots := 260, locals := 60 } : Room).slots) := by
  refine MetFree.of_bodySF (plainFor_of_name pn_1) hisR ?_
  intro p e s m args below meth c s₁ Bd hml0 hP hK
  obtain ⟨rfl, hZ, hh, hint⟩ := hP
  have hx := Bd.exec
  have hby := Bd.bytes
  have hml : c.maxLocals = 2 := hml0
  have hown : s.vm.findClass "com/example/dispensd/dispensd/Identifier" = some m.cls := findClass_of_methodNamed Bd.named
  have hnm := (name_of_methodNamed Bd.named Bd.method).1
  have X0 : Stand p l e ({ frames := 4, cells := 2, slots := 260, locals := 60 } : Room) s m #[(.ref o0)] below meth c s₁ [] 0 0 := Stand.of_body Bd
  have e0 : s₁.heap = h0 := by rw [← hh, Bd.state]; rfl
  have N0 := Fr.nil n0
  have pre0 : ∀ t, Steps p.tables e below (s₁.setTop (mkF m 0 #[.val (.ref o0), .unset] [])) t → Steps p.tables e below (s₁.setTop (entryFrame m #[(.ref o0)] 2)) t := fun t k => castTop (ef_1 m o0) k
  have hqc := hp ch0 (by simp)
  obtain ⟨cq1, kq1, q1a, q1b, q1c⟩ := isOf hZ e0 E_o0
  obtain ⟨_, _, ⟨T1, L1, k1, n1⟩, -, X1, ⟨Lc1, hQ1, l1, y1, z1⟩, st1⟩ := X0.virtualBack hx (y := (⟨"java/lang/String", "isEmpty", "()Z"⟩ : MethodName)) (z := (⟨"java/lang/String", "isEmpty", "()Z"⟩ : MethodName)) hown (mvT hZ (own_w hw 45 rfl)) (mvT hZ (own_w hw 46 rfl)) (notFace_of_selects (args := #[]) (mvT hZ (own_w hw 48 rfl))) (mvT hZ (own_w hw 48 rfl)) (mvT hZ (own_w hw 47 rfl)) (by decide) (StrChars.Road.empW (W := 0) hZ (own_wem hw) (kI := 4) (own_w hw 10 rfl) E_o0 F_value_o0 F_coder_o0 V_tA (StrChars.Road.codOf (cs := (ch0 :: cr)) rfl (fun c hc => (hp c hc).2)) (own_up _ hp) l2 (by decide) (by decide)) q1a q1c (g := (mkF m 5 #[.val (.ref o0), .unset] [(.ref o0)])) rfl (by rw [hml]; rfl) (Steps.refl _) (argsL := []) (rest := []) (lenOf pd_4 rfl) rfl (by show 2 * 0 + _ ≤ _; exact Nat.le_of_eq rfl) (hb hby d1_5) (fun _ _ => ⟨rfl, e0, (by decide : 0 + 0 ≤ _), (by decide : 0 + 0 ≤ _)⟩)
  dsimp only [Pt.U, Pt.locs, Pt.cells, Pt.slots] at X1 l1 y1 z1 st1 hQ1
  subst l1 y1 z1
  obtain ⟨rfl, rfl, e1⟩ := hQ1
  have N1q : Fr n0 ([] : List Loc) := Fr.nil n0
  have N1 := Fr.app N0 N1q
  obtain ⟨cq2, kq2, q2a, q2b, q2c⟩ := isOf hZ e1 E_o0
  obtain ⟨_, _, ⟨T2, L2, k2, n2⟩, -, X2, ⟨Lc2, hQ2, l2, y2, z2⟩, st2⟩ := X1.virtualBack hx (y := (⟨"java/lang/String", "length", "()I"⟩ : MethodName)) (z := (⟨"java/lang/String", "length", "()I"⟩ : MethodName)) hown (mvT hZ (own_w hw 50 rfl)) (mvT hZ (own_w hw 51 rfl)) (notFace_of_selects (args := #[]) (mvT hZ (own_w hw 53 rfl))) (mvT hZ (own_w hw 53 rfl)) (mvT hZ (own_w hw 52 rfl)) (by decide) (StrChars.Road.lenW (W := 0) hZ (own_wln hw) (kI := 4) (own_w hw 10 rfl) E_o0 F_value_o0 F_coder_o0 V_tA (StrChars.Road.codOf (cs := (ch0 :: cr)) rfl (fun c hc => (hp c hc).2)) (own_up _ hp) (S_COMPACT_STRINGS.ext O0.2) hzc l2 (by decide) (by decide)) q2a q2c (g := (mkF m 12 #[.val (.ref o0), .unset] [(.ref o0)])) rfl (by rw [hml]; rfl) (Steps.refl _) (argsL := []) (rest := []) (lenOf pd_5 rfl) rfl (by show 2 * 0 + _ ≤ _; exact Nat.le_of_eq rfl) (hb hby d1_12) (fun _ _ => ⟨rfl, e1, (by decide : 0 + 0 ≤ _), (by decide : 0 + 0 ≤ _)⟩)
  dsimp only [Pt.U, Pt.locs, Pt.cells, Pt.slots] at X2 l2 y2 z2 st2 hQ2
  subst l2 y2 z2
  obtain ⟨rfl, rfl, e2⟩ := hQ2
  have N2q : Fr n0 ([] : List Loc) := Fr.nil n0
  have N2 := Fr.app N1 N2q
  obtain ⟨cq3, kq3, q3a, q3b, q3c⟩ := isOf hZ e2 E_o0
  obtain ⟨_, _, ⟨T3, L3, k3, n3⟩, -, X3, ⟨Lc3, hQ3, l3, y3, z3⟩, st3⟩ := X2.virtualBack hx (y := (⟨"java/lang/String", "length", "()I"⟩ : MethodName)) (z := (⟨"java/lang/String", "length", "()I"⟩ : MethodName)) hown (mvT hZ (own_w hw 50 rfl)) (mvT hZ (own_w hw 51 rfl)) (notFace_of_selects (args := #[]) (mvT hZ (own_w hw 53 rfl))) (mvT hZ (own_w hw 53 rfl)) (mvT hZ (own_w hw 52 rfl)) (by decide) (StrChars.Road.lenW (W := 1) hZ (own_wln hw) (kI := 4) (own_w hw 10 rfl) E_o0 F_value_o0 F_coder_o0 V_tA (StrChars.Road.codOf (cs := (ch0 :: cr)) rfl (fun c hc => (hp c hc).2)) (own_up _ hp) (S_COMPACT_STRINGS.ext O0.2) hzc l2 (by decide) (by decide)) q3a q3c (g := (mkF m 26 #[.val (.ref o0), .val (.int 0)] [(.ref o0), (.int 0)])) rfl (by rw [hml]; rfl) (Steps.refl _) (argsL := []) (rest := [(.int 0)]) (lenOf pd_5 rfl) rfl (by show 2 * 0 + _ ≤ _; exact Nat.le_of_eq rfl) (hb hby d1_26) (fun _ _ => ⟨rfl, e2, (by decide : 0 + 0 ≤ _), (by decide : 0 + 0 ≤ _)⟩)
  dsimp only [Pt.U, Pt.locs, Pt.cells, Pt.slots] at X3 l3 y3 z3 st3 hQ3
  subst l3 y3 z3
  obtain ⟨rfl, rfl, e3⟩ := hQ3
  have N3q : Fr n0 ([] : List Loc) := Fr.nil n0
  have N3 := Fr.app N2 N3q
  have Sn0 : s.Since s.vm 0 := (State.WarmedH.refl s).since 0
  have XS0 : Stand p l e _ (s.setVm s.vm) m #[(.ref o0)] below meth c T3 _ 0 0 := X3
  have hZS : Z.Warmed39 s.vm := hZ
  have hownS : s.vm.findClass "com/example/dispensd/dispensd/Identifier" = some m.cls := hown
  obtain ⟨sa4, T4, h4, ks4, tb4, kb4, X4, e4, E4, Sn4, hk4, hZ4, hown4, Ea4, Fc4, Fv4, Vb4, la4, lb4, Ib4, Lt4, st4⟩ := ldcSVL XS0 hx hZ hown (own_w hw 60 rfl) (own_sa hw) e3 Sn0 (Nat.zero_le _) (Fr.nil _) (fun b cl q => by rw [hh]; exact O0.2.2 b cl q) (Ts := []) ⟨#[], by rw [hint]; simp, fun q hq => by simp at hq⟩ (by simp) hheldI hcw (vs := [(.int 65), (.int 66), (.int 67), (.int 68), (.int 69), (.int 70), (.int 71), (.int 72), (.int 73), (.int 74), (.int 75), (.int 76), (.int 77), (.int 78), (.int 79), (.int 80), (.int 81), (.int 82), (.int 83), (.int 84), (.int 85), (.int 86), (.int 87), (.int 88), (.int 89), (.int 90), (.int 97), (.int 98), (.int 99), (.int 100), (.int 101), (.int 102), (.int 103), (.int 104), (.int 105), (.int 106), (.int 107), (.int 108), (.int 109), (.int 110), (.int 111), (.int 112), (.int 113), (.int 114), (.int 115), (.int 116), (.int 117), (.int 118), (.int 119), (.int 120), (.int 121), (.int 122), (.int 48), (.int 49), (.int 50), (.int 51), (.int 52), (.int 53), (.int 54), (.int 55), (.int 56), (.int 57), (.int 45), (.int 95)]) (z := (64 : Int32)) ⟨by decide, rfl⟩ (by decide) (by decide) (g := (mkF m 32 #[.val (.ref o0), .val (.int 0)] [])) rfl (hb hby d1_32) (n := 256) (by decide) (by decide) (by decide) (by decide)
  have O4 := O0.ext E4
  have VbA : Arv Z h4 tb4 kb4 .byte (Int32.ofNat own_A.length) (own_A.map Value.int) (.int 0) := Vb4
  obtain ⟨cq5, kq5, q5a, q5b, q5c⟩ := isOf hZ4 e4 (E_o0.ext E4)
  obtain ⟨_, _, ⟨T5, L5, k5, n5⟩, -, X5, ⟨Lc5, hQ5, l5, y5, z5⟩, st5⟩ := X4.virtualBack hx (y := (⟨"java/lang/String", "charAt", "(I)C"⟩ : MethodName)) (z := (⟨"java/lang/String", "charAt", "(I)C"⟩ : MethodName)) hown4 (mvT hZ4 (own_w hw 63 rfl)) (mvT hZ4 (own_w hw 64 rfl)) (notFace_of_selects (args := #[]) (mvT hZ4 (own_w hw 66 rfl))) (mvT hZ4 (own_w hw 66 rfl)) (mvT hZ4 (own_w hw 65 rfl)) (by decide) (StrChars.Road.chN (W := 1) hZ4 (own_wch hw) (kI := 4) (own_w hw 10 rfl) (E_o0.ext E4) (F_value_o0.ext E4) (F_coder_o0.ext E4) (V_tA.ext E4) (StrChars.Road.codOf (cs := (ch0 :: cr)) rfl (fun c hc => (hp c hc).2)) (own_up _ hp) (S_COMPACT_STRINGS.ext O4.2) hzc (S_FM.ext O4.2) hfm l2 (i := 0) (by simp) (j := (0 : Int32)) rfl (by decide) (by decide)) q5a q5c (g := (mkF m 36 #[.val (.ref o0), .val (.int 0)] [(.int 0), (.ref o0), (.ref sa4)])) rfl (by rw [hml]; rfl) (Steps.refl _) (argsL := [(.int 0)]) (rest := [(.ref sa4)]) (lenOf pd_9 rfl) rfl (by show 2 * 0 + _ ≤ _; exact Nat.le_of_eq rfl) (hb hby d1_36) (fun _ _ => ⟨rfl, e4, (by decide : 2 + 0 ≤ _), (by decide : 260 + 0 ≤ _)⟩)
  dsimp only [Pt.U, Pt.locs, Pt.cells, Pt.slots] at X5 l5 y5 z5 st5 hQ5
  subst l5 y5 z5
  obtain ⟨rfl, rfl, e5⟩ := hQ5
  have N5q : Fr n0 ([] : List Loc) := Fr.nil n0
  have N5 := Fr.app N3 N5q
  obtain ⟨cq6, kq6, q6a, q6b, q6c⟩ := isOf hZ4 e5 Ea4
  obtain ⟨_, _, ⟨T6, L6, k6, n6⟩, -, X6, ⟨Lc6, hQ6, l6, y6, z6⟩, st6⟩ := X5.virtualBack hx (y := (⟨"java/lang/String", "indexOf", "(I)I"⟩ : MethodName)) (z := (⟨"java/lang/String", "indexOf", "(I)I"⟩ : MethodName)) hown4 (mvT hZ4 (own_w hw 85 rfl)) (mvT hZ4 (own_w hw 86 rfl)) (notFace_of_selects (args := #[]) (mvT hZ4 (own_w hw 88 rfl))) (mvT hZ4 (own_w hw 88 rfl)) (mvT hZ4 (own_w hw 87 rfl)) (by decide) (backOf (W := 0) (rmIx l Z a0 hw [] sa4 ch0 own_A tb4 kb4 zc h4 n0 O4 Fv4 Fc4 VbA S_COMPACT_STRINGS hzc Ea4 (by decide) (by decide) hqc) hZ4 (own_w hw 89 rfl) (own_w hw 11 rfl) (by decide) (by decide)) q6a q6c (g := (mkF m 39 #[.val (.ref o0), .val (.int 0)] [(.int ch0), (.ref sa4)])) rfl (by rw [hml]; rfl) (Steps.refl _) (argsL := [(.int ch0)]) (rest := []) (lenOf pd_10 rfl) rfl (by show 2 * 0 + _ ≤ _; exact Nat.le_of_eq rfl) (hb hby d1_39) (fun _ _ => ⟨rfl, e5, (by decide : 2 + 0 ≤ _), (by decide : 260 + 0 ≤ _)⟩)
  dsimp only [Pt.U, Pt.locs, Pt.cells, Pt.slots] at X6 l6 y6 z6 st6 hQ6
  subst l6 y6 z6
  obtain ⟨rfl, N6q, e6⟩ := hQ6
  have N6 := Fr.app N5 N6q
  obtain ⟨fs, hr, hrun, hended, hRW⟩ := X6.leaveW Sn4 (by rw [e6]; exact hk4) (v := some (.int 0)) (fun h => by rw [Bd.returns] at h; cases h)
  refine ⟨_, _, pre0 _ ?_, hrun, hended, _, _, rfl, ?_, hRW.1, hRW.2.1, hRW.2.2.1, hRW.2.2.2.mono (by decide) (by decide)⟩
  · show oS p e below s₁ m 0 #[.val (.ref o0), .unset] [] _
    refine XS.aloadN X0.here hx rfl (hb hby d1_0) rfl rfl ?_
    show oS p e below s₁ m 1 #[.val (.ref o0), .unset] [(.ref o0)] _
    refine XS.ifnullNo X0.here hx rfl (hb hby d1_1) rfl ?_
    show oS p e below s₁ m 4 #[.val (.ref o0), .unset] [] _
    refine XS.aloadN X0.here hx rfl (hb hby d1_4) rfl rfl ?_
    show oS p e below s₁ m 5 #[.val (.ref o0), .unset] [(.ref o0)] _
    refine st1.trans ?_
    show oS p e below T1 m 8 #[.val (.ref o0), .unset] [(.int (if (ch0 :: cr).length = 0 then (1 : Int32) else 0))] _
    refine XS.ifNo X1.here hx rfl (hb hby d1_8) rfl ((if0 _ _).trans (teq (if_neg (by simp))).2) ?_
    show oS p e below T1 m 11 #[.val (.ref o0), .unset] [] _
    refine XS.aloadN X1.here hx rfl (hb hby d1_11) rfl rfl ?_
    show oS p e below T1 m 12 #[.val (.ref o0), .unset] [(.ref o0)] _
    refine st2.trans ?_
    show oS p e below T2 m 15 #[.val (.ref o0), .unset] [(.int (Int32.ofNat (ch0 :: cr).length))] _
    refine XS.bipush X2.here hx rfl (hb hby d1_15) ?_
    show oS p e below T2 m 17 #[.val (.ref o0), .unset] [(.int 16), (.int (Int32.ofNat (ch0 :: cr).length))] _
    refine XS.icmpYes X2.here hx rfl (pc0 := 17) (pc' := 22) rfl (hb hby d1_17) rfl (flt hqb).2.2.2 (by decide) (by decide) ?_
    show oS p e below T2 m 22 #[.val (.ref o0), .unset] [] _
    refine XS.iconst X2.here hx rfl (hb hby d1_22) ?_
    show oS p e below T2 m 23 #[.val (.ref o0), .unset] [(.int 0)] _
    refine XS.istoreN X2.here hx rfl (hb hby d1_23) rfl (l' := #[.val (.ref o0), .val (.int 0)]) rfl ?_
    show oS p e below T2 m 24 #[.val (.ref o0), .val (.int 0)] [] _
    refine XS.iloadN X2.here hx rfl (hb hby d1_24) rfl ?_
    show oS p e below T2 m 25 #[.val (.ref o0), .val (.int 0)] [(.int 0)] _
    refine XS.aloadN X2.here hx rfl (hb hby d1_25) rfl rfl ?_
    show oS p e below T2 m 26 #[.val (.ref o0), .val (.int 0)] [(.ref o0), (.int 0)] _
    refine st3.trans ?_
    show oS p e below T3 m 29 #[.val (.ref o0), .val (.int 0)] [(.int (Int32.ofNat (ch0 :: cr).length)), (.int 0)] _
    refine XS.icmpNo X3.here hx rfl (hb hby d1_29) rfl (tlt hqa).2.1 ?_
    show oS p e below T3 m 32 #[.val (.ref o0), .val (.int 0)] [] _
    refine st4 _ ?_
    show oS p e below T4 m 34 #[.val (.ref o0), .val (.int 0)] [(.ref sa4)] _
    refine XS.aloadN X4.here hx rfl (hb hby d1_34) rfl rfl ?_
    show oS p e below T4 m 35 #[.val (.ref o0), .val (.int 0)] [(.ref o0), (.ref sa4)] _
    refine XS.iloadN X4.here hx rfl (hb hby d1_35) rfl ?_
    show oS p e below T4 m 36 #[.val (.ref o0), .val (.int 0)] [(.int 0), (.ref o0), (.ref sa4)] _
    refine st5.trans ?_
    show oS p e below T5 m 39 #[.val (.ref o0), .val (.int 0)] [(.int ch0), (.ref sa4)] _
    refine st6.trans ?_
    show oS p e below T6 m 42 #[.val (.ref o0), .val (.int 0)] [(.int (own_find own_A (ch0.toInt8.toInt32) 0))] _
    refine XS.ifNo X6.here hx rfl (hb hby d1_42) rfl ((if0 _ _).trans (tlt hqf).2.1) ?_
    show oS p e below T6 m 45 #[.val (.ref o0), .val (.int 0)] [] _
    refine XS.iconst X6.here hx rfl (hb hby d1_45) ?_
    show oS p e below T6 m 46 #[.val (.ref o0), .val (.int 0)] [(.int 0)] _
    exact retN X6 hx (t := .boolean) Bd.returns (by simp) (hb hby d1_46) hr
  · show own_QV (.int 0) Z n0 _ T6.heap _
    rw [e6]
    exact ⟨rfl, N6, O4⟩
set_option maxRecDepth 65536 in
set_option maxHeartbeats 40000000 in
theorem rmV0b (l : Launch) (Z : State) (a0 : Array Value) (hw : ∀ d ∈ tables_1, d.before a0 Z = true) (ws : List Jvm.Cond) (o0 : Addr) (ch0 : Int32) (cr : List Int32) (tA : Addr) (kA : ClassId) (zc : Int32) (fm : Value) (h0 : Heap) (n0 : Nat) (O0 : Old Z n0 h0) (E_o0 : Exa Z h0 o0 "java/lang/String") (F_value_o0 : Fld Z h0 o0 "java/lang/String" "value" "[B" (.ref tA)) (F_coder_o0 : Fld Z h0 o0 "java/lang/String" "coder" "B" (.int 0)) (V_tA : Arv Z h0 tA kA .byte (Int32.ofNat (ch0 :: cr).length) (((ch0 :: cr).map (fun c => c.toInt8.toInt32)).map Value.int) (.int 0)) (S_COMPACT_STRINGS : Sta Z Z.heap "java/lang/String" "COMPACT_STRINGS" "Z" (.int zc)) (hzc : ¬ zc = 0) (S_FM : Sta Z Z.heap "jdk/internal/util/Preconditions" "SIOOBE_FORMATTER" "Ljava/util/function/BiFunction;" fm) (hfm : fm.isRef = true) (hp : ∀ c ∈ (ch0 :: cr), ¬ c < 0 ∧ ¬ (255 : Int32) < c) (l2 : (ch0 :: cr).length ≤ 4000) (hqb : ¬ ((16 : Int32) < (Int32.ofNat (ch0 :: cr).length))) (hqa : (0 : Int32) < (Int32.ofNat (ch0 :: cr).length)) (hheldI : Jvm.Lit.constHeld Z "com/example/dispensd/dispensd/Identifier" 34) (hcw : Jvm.Lit.compactW.before a0 Z = true) (hqf : ¬ (own_find own_A (ch0.toInt8.toInt32) 0) < 0) (hex : ∃ c ∈ cr, (own_find own_A (c.toInt8.toInt32) 0) < 0) :
    MetFree l (⟨"com/example/dispensd/dispensd/Identifier", "isValid", "(Ljava/lang/String;)Z"⟩ : MethodName) (head1 (Jvm.Cond.code (⟨"com/example/dispensd/dispensd/Identifier", "isValid", "(Ljava/lang/String;)Z"⟩ : MethodName) prog_2_method_2_code 2 (some .boolean) :: ws) ({ frames := 4, cells := 2, slots := 260, locals := 60 } : Room)) (fun a U => a = #[(.ref o0)] ∧ Z.Warmed39 U.vm ∧ U.heap = h0 ∧ U.vm.interned = Z.vm.interned) (fun _ _ _ _ _ => True) (fun _ U o U' => ∃ v L, o = .returned v ∧ own_QV (.int 0) Z n0 v U'.heap L ∧ ReturnedEndW U o U' L ({ frames := 4, cells := 2, slots := 260, locals := 60 } : Room).cells ({ frames := 4, cells := 2, slots := 260, locals := 60 } : Room).slots) := by
  refine MetFree.of_bodySF (plainFor_of_name pn_1) hisR ?_
  intro p e s m args below meth c s₁ Bd hml0 hP hK
  obtain ⟨rfl, hZ, hh, hint⟩ := hP
  have hx := Bd.exec
  have hby := Bd.bytes
  have hml : c.maxLocals = 2 := hml0
  have hown : s.vm.findClass "com/example/dispensd/dispensd/Identifier" = some m.cls := findClass_of_methodNamed Bd.named
  have hnm := (name_of_methodNamed Bd.named Bd.method).1
  have X0 : Stand p l e ({ frames := 4, cells := 2, slots := 260, locals := 60 } : Room) s m #[(.ref o0)] below meth c s₁ [] 0 0 := Stand.of_body Bd
  have e0 : s₁.heap = h0 := by rw [← hh, Bd.state]; rfl
  have N0 := Fr.nil n0
  have pre0 : ∀ t, Steps p.tables e below (s₁.setTop (mkF m 0 #[.val (.ref o0), .unset] [])) t → Steps p.tables e below (s₁.setTop (entryFrame m #[(.ref o0)] 2)) t := fun t k => castTop (ef_1 m o0) k
  have hqc := hp ch0 (by simp)
  obtain ⟨cq1, kq1, q1a, q1b, q1c⟩ := isOf hZ e0 E_o0
  obtain ⟨_, _, ⟨T1, L1, k1, n1⟩, -, X1, ⟨Lc1, hQ1, l1, y1, z1⟩, st1⟩ := X0.virtualBack hx (y := (⟨"java/lang/String", "isEmpty", "()Z"⟩ : MethodName)) (z := (⟨"java/lang/String", "isEmpty", "()Z"⟩ : MethodName)) hown (mvT hZ (own_w hw 45 rfl)) (mvT hZ (own_w hw 46 rfl)) (notFace_of_selects (args := #[]) (mvT hZ (own_w hw 48 rfl))) (mvT hZ (own_w hw 48 rfl)) (mvT hZ (own_w hw 47 rfl)) (by decide) (StrChars.Road.empW (W := 0) hZ (own_wem hw) (kI := 4) (own_w hw 10 rfl) E_o0 F_value_o0 F_coder_o0 V_tA (StrChars.Road.codOf (cs := (ch0 :: cr)) rfl (fun c hc => (hp c hc).2)) (own_up _ hp) l2 (by decide) (by decide)) q1a q1c (g := (mkF m 5 #[.val (.ref o0), .unset] [(.ref o0)])) rfl (by rw [hml]; rfl) (Steps.refl _) (argsL := []) (rest := []) (lenOf pd_4 rfl) rfl (by show 2 * 0 + _ ≤ _; exact Nat.le_of_eq rfl) (hb hby d1_5) (fun _ _ => ⟨rfl, e0, (by decide : 0 + 0 ≤ _), (by decide : 0 + 0 ≤ _)⟩)
  dsimp only [Pt.U, Pt.locs, Pt.cells, Pt.slots] at X1 l1 y1 z1 st1 hQ1
  subst l1 y1 z1
  obtain ⟨rfl, rfl, e1⟩ := hQ1
  have N1q : Fr n0 ([] : List Loc) := Fr.nil n0
  have N1 := Fr.app N0 N1q
  obtain ⟨cq2, kq2, q2a, q2b, q2c⟩ := isOf hZ e1 E_o0
  obtain ⟨_, _, ⟨T2, L2, k2, n2⟩, -, X2, ⟨Lc2, hQ2, l2, y2, z2⟩, st2⟩ := X1.virtualBack hx (y := (⟨"java/lang/String", "length", "()I"⟩ : MethodName)) (z := (⟨"java/lang/String", "length", "()I"⟩ : MethodName)) hown (mvT hZ (own_w hw 50 rfl)) (mvT hZ (own_w hw 51 rfl)) (notFace_of_selects (args := #[]) (mvT hZ (own_w hw 53 rfl))) (mvT hZ (own_w hw 53 rfl)) (mvT hZ (own_w hw 52 rfl)) (by decide) (StrChars.Road.lenW (W := 0) hZ (own_wln hw) (kI := 4) (own_w hw 10 rfl) E_o0 F_value_o0 F_coder_o0 V_tA (StrChars.Road.codOf (cs := (ch0 :: cr)) rfl (fun c hc => (hp c hc).2)) (own_up _ hp) (S_COMPACT_STRINGS.ext O0.2) hzc l2 (by decide) (by decide)) q2a q2c (g := (mkF m 12 #[.val (.ref o0), .unset] [(.ref o0)])) rfl (by rw [hml]; rfl) (Steps.refl _) (argsL := []) (rest := []) (lenOf pd_5 rfl) rfl (by show 2 * 0 + _ ≤ _; exact Nat.le_of_eq rfl) (hb hby d1_12) (fun _ _ => ⟨rfl, e1, (by decide : 0 + 0 ≤ _), (by decide : 0 + 0 ≤ _)⟩)
  dsimp only [Pt.U, Pt.locs, Pt.cells, Pt.slots] at X2 l2 y2 z2 st2 hQ2
  subst l2 y2 z2
  obtain ⟨rfl, rfl, e2⟩ := hQ2
  have N2q : Fr n0 ([] : List Loc) := Fr.nil n0
  have N2 := Fr.app N1 N2q
  obtain ⟨cq3, kq3, q3a, q3b, q3c⟩ := isOf hZ e2 E_o0
  obtain ⟨_, _, ⟨T3, L3, k3, n3⟩, -, X3, ⟨Lc3, hQ3, l3, y3, z3⟩, st3⟩ := X2.virtualBack hx (y := (⟨"java/lang/String", "length", "()I"⟩ : MethodName)) (z := (⟨"java/lang/String", "length", "()I"⟩ : MethodName)) hown (mvT hZ (own_w hw 50 rfl)) (mvT hZ (own_w hw 51 rfl)) (notFace_of_selects (args := #[]) (mvT hZ (own_w hw 53 rfl))) (mvT hZ (own_w hw 53 rfl)) (mvT hZ (own_w hw 52 rfl)) (by decide) (StrChars.Road.lenW (W := 1) hZ (own_wln hw) (kI := 4) (own_w hw 10 rfl) E_o0 F_value_o0 F_coder_o0 V_tA (StrChars.Road.codOf (cs := (ch0 :: cr)) rfl (fun c hc => (hp c hc).2)) (own_up _ hp) (S_COMPACT_STRINGS.ext O0.2) hzc l2 (by decide) (by decide)) q3a q3c (g := (mkF m 26 #[.val (.ref o0), .val (.int 0)] [(.ref o0), (.int 0)])) rfl (by rw [hml]; rfl) (Steps.refl _) (argsL := []) (rest := [(.int 0)]) (lenOf pd_5 rfl) rfl (by show 2 * 0 + _ ≤ _; exact Nat.le_of_eq rfl) (hb hby d1_26) (fun _ _ => ⟨rfl, e2, (by decide : 0 + 0 ≤ _), (by decide : 0 + 0 ≤ _)⟩)
  dsimp only [Pt.U, Pt.locs, Pt.cells, Pt.slots] at X3 l3 y3 z3 st3 hQ3
  subst l3 y3 z3
  obtain ⟨rfl, rfl, e3⟩ := hQ3
  have N3q : Fr n0 ([] : List Loc) := Fr.nil n0
  have N3 := Fr.app N2 N3q
  have Sn0 : s.Since s.vm 0 := (State.WarmedH.refl s).since 0
  have XS0 : Stand p l e _ (s.setVm s.vm) m #[(.ref o0)] below meth c T3 _ 0 0 := X3
  have hZS : Z.Warmed39 s.vm := hZ
  have hownS : s.vm.findClass "com/example/dispensd/dispensd/Identifier" = some m.cls := hown
  obtain ⟨sa4, T4, h4, ks4, tb4, kb4, X4, e4, E4, Sn4, hk4, hZ4, hown4, Ea4, Fc4, Fv4, Vb4, la4, lb4, Ib4, Lt4, st4⟩ := ldcSVL XS0 hx hZ hown (own_w hw 60 rfl) (own_sa hw) e3 Sn0 (Nat.zero_le _) (Fr.nil _) (fun b cl q => by rw [hh]; exact O0.2.2 b cl q) (Ts := []) ⟨#[], by rw [hint]; simp, fun q hq => by simp at hq⟩ (by simp) hheldI hcw (vs := [(.int 65), (.int 66), (.int 67), (.int 68), (.int 69), (.int 70), (.int 71), (.int 72), (.int 73), (.int 74), (.int 75), (.int 76), (.int 77), (.int 78), (.int 79), (.int 80), (.int 81), (.int 82), (.int 83), (.int 84), (.int 85), (.int 86), (.int 87), (.int 88), (.int 89), (.int 90), (.int 97), (.int 98), (.int 99), (.int 100), (.int 101), (.int 102), (.int 103), (.int 104), (.int 105), (.int 106), (.int 107), (.int 108), (.int 109), (.int 110), (.int 111), (.int 112), (.int 113), (.int 114), (.int 115), (.int 116), (.int 117), (.int 118), (.int 119), (.int 120), (.int 121), (.int 122), (.int 48), (.int 49), (.int 50), (.int 51), (.int 52), (.int 53), (.int 54), (.int 55), (.int 56), (.int 57), (.int 45), (.int 95)]) (z := (64 : Int32)) ⟨by decide, rfl⟩ (by decide) (by decide) (g := (mkF m 32 #[.val (.ref o0), .val (.int 0)] [])) rfl (hb hby d1_32) (n := 256) (by decide) (by decide) (by decide) (by decide)
  have O4 := O0.ext E4
  have VbA : Arv Z h4 tb4 kb4 .byte (Int32.ofNat own_A.length) (own_A.map Value.int) (.int 0) := Vb4
  obtain ⟨cq5, kq5, q5a, q5b, q5c⟩ := isOf hZ4 e4 (E_o0.ext E4)
  obtain ⟨_, _, ⟨T5, L5, k5, n5⟩, -, X5, ⟨Lc5, hQ5, l5, y5, z5⟩, st5⟩ := X4.virtualBack hx (y := (⟨"java/lang/String", "charAt", "(I)C"⟩ : MethodName)) (z := (⟨"java/lang/String", "charAt", "(I)C"⟩ : MethodName)) hown4 (mvT hZ4 (own_w hw 63 rfl)) (mvT hZ4 (own_w hw 64 rfl)) (notFace_of_selects (args := #[]) (mvT hZ4 (own_w hw 66 rfl))) (mvT hZ4 (own_w hw 66 rfl)) (mvT hZ4 (own_w hw 65 rfl)) (by decide) (StrChars.Road.chN (W := 1) hZ4 (own_wch hw) (kI := 4) (own_w hw 10 rfl) (E_o0.ext E4) (F_value_o0.ext E4) (F_coder_o0.ext E4) (V_tA.ext E4) (StrChars.Road.codOf (cs := (ch0 :: cr)) rfl (fun c hc => (hp c hc).2)) (own_up _ hp) (S_COMPACT_STRINGS.ext O4.2) hzc (S_FM.ext O4.2) hfm l2 (i := 0) (by simp) (j := (0 : Int32)) rfl (by decide) (by decide)) q5a q5c (g := (mkF m 36 #[.val (.ref o0), .val (.int 0)] [(.int 0), (.ref o0), (.ref sa4)])) rfl (by rw [hml]; rfl) (Steps.refl _) (argsL := [(.int 0)]) (rest := [(.ref sa4)]) (lenOf pd_9 rfl) rfl (by show 2 * 0 + _ ≤ _; exact Nat.le_of_eq rfl) (hb hby d1_36) (fun _ _ => ⟨rfl, e4, (by decide : 2 + 0 ≤ _), (by decide : 260 + 0 ≤ _)⟩)
  dsimp only [Pt.U, Pt.locs, Pt.cells, Pt.slots] at X5 l5 y5 z5 st5 hQ5
  subst l5 y5 z5
  obtain ⟨rfl, rfl, e5⟩ := hQ5
  have N5q : Fr n0 ([] : List Loc) := Fr.nil n0
  have N5 := Fr.app N3 N5q
  obtain ⟨cq6, kq6, q6a, q6b, q6c⟩ := isOf hZ4 e5 Ea4
  obtain ⟨_, _, ⟨T6, L6, k6, n6⟩, -, X6, ⟨Lc6, hQ6, l6, y6, z6⟩, st6⟩ := X5.virtualBack hx (y := (⟨"java/lang/String", "indexOf", "(I)I"⟩ : MethodName)) (z := (⟨"java/lang/String", "indexOf", "(I)I"⟩ : MethodName)) hown4 (mvT hZ4 (own_w hw 85 rfl)) (mvT hZ4 (own_w hw 86 rfl)) (notFace_of_selects (args := #[]) (mvT hZ4 (own_w hw 88 rfl))) (mvT hZ4 (own_w hw 88 rfl)) (mvT hZ4 (own_w hw 87 rfl)) (by decide) (backOf (W := 0) (rmIx l Z a0 hw [] sa4 ch0 own_A tb4 kb4 zc h4 n0 O4 Fv4 Fc4 VbA S_COMPACT_STRINGS hzc Ea4 (by decide) (by decide) hqc) hZ4 (own_w hw 89 rfl) (own_w hw 11 rfl) (by decide) (by decide)) q6a q6c (g := (mkF m 39 #[.val (.ref o0), .val (.int 0)] [(.int ch0), (.ref sa4)])) rfl (by rw [hml]; rfl) (Steps.refl _) (argsL := [(.int ch0)]) (rest := []) (lenOf pd_10 rfl) rfl (by show 2 * 0 + _ ≤ _; exact Nat.le_of_eq rfl) (hb hby d1_39) (fun _ _ => ⟨rfl, e5, (by decide : 2 + 0 ≤ _), (by decide : 260 + 0 ≤ _)⟩)
  dsimp only [Pt.U, Pt.locs, Pt.cells, Pt.slots] at X6 l6 y6 z6 st6 hQ6
  subst l6 y6 z6
  obtain ⟨rfl, N6q, e6⟩ := hQ6
  have N6 := Fr.app N5 N6q
  obtain ⟨T7, L7, jz7, X7, e7, N7, st7⟩ := own_iv0 o0 (ch0 :: cr) tA kA zc fm sa4 tb4 kb4 hx hZ4 hw hby hml hown4 O4 (E_o0.ext E4) (F_value_o0.ext E4) (F_coder_o0.ext E4) (V_tA.ext E4) S_COMPACT_STRINGS hzc S_FM hfm hp l2 Ea4 Fv4 Fc4 VbA Lt4 (L := cr) (P := [ch0]) rfl X6 e6 N6 hex
  obtain ⟨fs, hr, hrun, hended, hRW⟩ := X7.leaveW Sn4 (by rw [e7]; exact hk4) (v := some (.int 0)) (fun h => by rw [Bd.returns] at h; cases h)
  refine ⟨_, _, pre0 _ ?_, hrun, hended, _, _, rfl, ?_, hRW.1, hRW.2.1, hRW.2.2.1, hRW.2.2.2.mono (by decide) (by decide)⟩
  · show oS p e below s₁ m 0 #[.val (.ref o0), .unset] [] _
    refine XS.aloadN X0.here hx rfl (hb hby d1_0) rfl rfl ?_
    show oS p e below s₁ m 1 #[.val (.ref o0), .unset] [(.ref o0)] _
    refine XS.ifnullNo X0.here hx rfl (hb hby d1_1) rfl ?_
    show oS p e below s₁ m 4 #[.val (.ref o0), .unset] [] _
    refine XS.aloadN X0.here hx rfl (hb hby d1_4) rfl rfl ?_
    show oS p e below s₁ m 5 #[.val (.ref o0), .unset] [(.ref o0)] _
    refine st1.trans ?_
    show oS p e below T1 m 8 #[.val (.ref o0), .unset] [(.int (if (ch0 :: cr).length = 0 then (1 : Int32) else 0))] _
    refine XS.ifNo X1.here hx rfl (hb hby d1_8) rfl ((if0 _ _).trans (teq (if_neg (by simp))).2) ?_
    show oS p e below T1 m 11 #[.val (.ref o0), .unset] [] _
    refine XS.aloadN X1.here hx rfl (hb hby d1_11) rfl rfl ?_
    show oS p e below T1 m 12 #[.val (.ref o0), .unset] [(.ref o0)] _
    refine st2.trans ?_
    show oS p e below T2 m 15 #[.val (.ref o0), .unset] [(.int (Int32.ofNat (ch0 :: cr).length))] _
    refine XS.bipush X2.here hx rfl (hb hby d1_15) ?_
    show oS p e below T2 m 17 #[.val (.ref o0), .unset] [(.int 16), (.int (Int32.ofNat (ch0 :: cr).length))] _
    refine XS.icmpYes X2.here hx rfl (pc0 := 17) (pc' := 22) rfl (hb hby d1_17) rfl (flt hqb).2.2.2 (by decide) (by decide) ?_
    show oS p e below T2 m 22 #[.val (.ref o0), .unset] [] _
    refine XS.iconst X2.here hx rfl (hb hby d1_22) ?_
    show oS p e below T2 m 23 #[.val (.ref o0), .unset] [(.int 0)] _
    refine XS.istoreN X2.here hx rfl (hb hby d1_23) rfl (l' := #[.val (.ref o0), .val (.int 0)]) rfl ?_
    show oS p e below T2 m 24 #[.val (.ref o0), .val (.int 0)] [] _
    refine XS.iloadN X2.here hx rfl (hb hby d1_24) rfl ?_
    show oS p e below T2 m 25 #[.val (.ref o0), .val (.int 0)] [(.int 0)] _
    refine XS.aloadN X2.here hx rfl (hb hby d1_25) rfl rfl ?_
    show oS p e below T2 m 26 #[.val (.ref o0), .val (.int 0)] [(.ref o0), (.int 0)] _
    refine st3.trans ?_
    show oS p e below T3 m 29 #[.val (.ref o0), .val (.int 0)] [(.int (Int32.ofNat (ch0 :: cr).length)), (.int 0)] _
    refine XS.icmpNo X3.here hx rfl (hb hby d1_29) rfl (tlt hqa).2.1 ?_
    show oS p e below T3 m 32 #[.val (.ref o0), .val (.int 0)] [] _
    refine st4 _ ?_
    show oS p e below T4 m 34 #[.val (.ref o0), .val (.int 0)] [(.ref sa4)] _
    refine XS.aloadN X4.here hx rfl (hb hby d1_34) rfl rfl ?_
    show oS p e below T4 m 35 #[.val (.ref o0), .val (.int 0)] [(.ref o0), (.ref sa4)] _
    refine XS.iloadN X4.here hx rfl (hb hby d1_35) rfl ?_
    show oS p e below T4 m 36 #[.val (.ref o0), .val (.int 0)] [(.int 0), (.ref o0), (.ref sa4)] _
    refine st5.trans ?_
    show oS p e below T5 m 39 #[.val (.ref o0), .val (.int 0)] [(.int ch0), (.ref sa4)] _
    refine st6.trans ?_
    show oS p e below T6 m 42 #[.val (.ref o0), .val (.int 0)] [(.int (own_find own_A (ch0.toInt8.toInt32) 0))] _
    refine XS.ifYes X6.here hx rfl (pc0 := 42) (pc' := 47) rfl (hb hby d1_42) rfl ((if0 _ _).trans (flt hqf).2.1) (by decide) (by decide) ?_
    show oS p e below T6 m 47 #[.val (.ref o0), .val (.int 0)] [] _
    refine XS.iinc X6.here hx rfl (hb hby d1_47) rfl (l' := #[.val (.ref o0), .val (.int 1)]) rfl ?_
    show oS p e below T6 m 50 #[.val (.ref o0), .val (.int 1)] [] _
    refine XS.goto X6.here hx rfl (pc0 := 50) (pc' := 24) rfl (hb hby d1_50) (by decide) (by decide) ?_
    show oS p e below T6 m 24 #[.val (.ref o0), .val (.int 1)] [] _
    refine st7 _ ?_
    show oS p e below T7 m 45 #[.val (.ref o0), .val (.int jz7)] [] _
    refine XS.iconst X7.here hx rfl (hb hby d1_45) ?_
    show oS p e below T7 m 46 #[.val (.ref o0), .val (.int jz7)] [(.int 0)] _
    exact retN X7 hx (t := .boolean) Bd.returns (by simp) (hb hby d1_46) hr
  · show own_QV (.int 0) Z n0 _ T7.heap _
    rw [e7]
    exact ⟨rfl, N7, O4⟩
theorem d1_53 : decode prog_2_method_2_code 53 = .ok (.iconst 1, 1) := by decide +kernel
theorem d1_54 : decode prog_2_method_2_code 54 = .ok (.ireturn, 1) := by decide +kernel
set_option maxRecDepth 65536 in
set_option maxHeartbeats 40000000 in
theorem rmV1 (l : Launch) (Z : State) (a0 : Array Value) (hw : ∀ d ∈ tables_1, d.before a0 Z = true) (ws : List Jvm.Cond) (o0 : Addr) (ch0 : Int32) (cr : List Int32) (tA : Addr) (kA : ClassId) (zc : Int32) (fm : Value) (h0 : Heap) (n0 : Nat) (O0 : Old Z n0 h0) (E_o0 : Exa Z h0 o0 "java/lang/String") (F_value_o0 : Fld Z h0 o0 "java/lang/String" "value" "[B" (.ref tA)) (F_coder_o0 : Fld Z h0 o0 "java/lang/String" "coder" "B" (.int 0)) (V_tA : Arv Z h0 tA kA .byte (Int32.ofNat (ch0 :: cr).length) (((ch0 :: cr).map (fun c => c.toInt8.toInt32)).map Value.int) (.int 0)) (S_COMPACT_STRINGS : Sta Z Z.heap "java/lang/String" "COMPACT_STRINGS" "Z" (.int zc)) (hzc : ¬ zc = 0) (S_FM : Sta Z Z.heap "jdk/internal/util/Preconditions" "SIOOBE_FORMATTER" "Ljava/util/function/BiFunction;" fm) (hfm : fm.isRef = true) (hp : ∀ c ∈ (ch0 :: cr), ¬ c < 0 ∧ ¬ (255 : Int32) < c) (l2 : (ch0 :: cr).length ≤ 4000) (hqb : ¬ ((16 : Int32) < (Int32.ofNat (ch0 :: cr).length))) (hqa : (0 : Int32) < (Int32.ofNat (ch0 :: cr).length)) (hheldI : Jvm.Lit.constHeld Z "com/example/dispensd/dispensd/Identifier" 34) (hcw : Jvm.Lit.compactW.before a0 Z = true) (hqf : ¬ (own_find own_A (ch0.toInt8.toInt32) 0) < 0) (hall : ∀ c ∈ cr, ¬ (own_find own_A (c.toInt8.toInt32) 0) < 0) :
    MetFree l (⟨"com/example/dispensd/dispensd/Identifier", "isValid", "(Ljava/lang/String;)Z"⟩ : MethodName) (head1 (Jvm.Cond.code (⟨"com/example/dispensd/dispensd/Identifier", "isValid", "(Ljava/lang/String;)Z"⟩ : MethodName) prog_2_method_2_code 2 (some .boolean) :: ws) ({ frames := 4, cells := 2, slots := 260, locals := 60 } : Room)) (fun a U => a = #[(.ref o0)] ∧ Z.Warmed39 U.vm ∧ U.heap = h0 ∧ U.vm.interned = Z.vm.interned) (fun _ _ _ _ _ => True) (fun _ U o U' => ∃ v L, o = .returned v ∧ own_QV (.int 1) Z n0 v U'.heap L ∧ ReturnedEndW U o U' L ({ frames := 4, cells := 2, slots := 260, locals := 60 } : Room).cells ({ frames := 4, cells := 2, slots := 260, locals := 60 } : Room).slots) := by
  refine MetFree.of_bodySF (plainFor_of_name pn_1) hisR ?_
  intro p e s m args below meth c s₁ Bd hml0 hP hK
  obtain ⟨rfl, hZ, hh, hint⟩ := hP
  have hx := Bd.exec
  have hby := Bd.bytes
  have hml : c.maxLocals = 2 := hml0
  have hown : s.vm.findClass "com/example/dispensd/dispensd/Identifier" = some m.cls := findClass_of_methodNamed Bd.named
  have hnm := (name_of_methodNamed Bd.named Bd.method).1
  have X0 : Stand p l e ({ frames := 4, cells := 2, slots := 260, locals := 60 } : Room) s m #[(.ref o0)] below meth c s₁ [] 0 0 := Stand.of_body Bd
  have e0 : s₁.heap = h0 := by rw [← hh, Bd.state]; rfl
  have N0 := Fr.nil n0
  have pre0 : ∀ t, Steps p.tables e below (s₁.setTop (mkF m 0 #[.val (.ref o0), .unset] [])) t → Steps p.tables e below (s₁.setTop (entryFrame m #[(.ref o0)] 2)) t := fun t k => castTop (ef_1 m o0) k
  have hqc := hp ch0 (by simp)
  obtain ⟨cq1, kq1, q1a, q1b, q1c⟩ := isOf hZ e0 E_o0
  obtain ⟨_, _, ⟨T1, L1, k1, n1⟩, -, X1, ⟨Lc1, hQ1, l1, y1, z1⟩, st1⟩ := X0.virtualBack hx (y := (⟨"java/lang/String", "isEmpty", "()Z"⟩ : MethodName)) (z := (⟨"java/lang/String", "isEmpty", "()Z"⟩ : MethodName)) hown (mvT hZ (own_w hw 45 rfl)) (mvT hZ (own_w hw 46 rfl)) (notFace_of_selects (args := #[]) (mvT hZ (own_w hw 48 rfl))) (mvT hZ (own_w hw 48 rfl)) (mvT hZ (own_w hw 47 rfl)) (by decide) (StrChars.Road.empW (W := 0) hZ (own_wem hw) (kI := 4) (own_w hw 10 rfl) E_o0 F_value_o0 F_coder_o0 V_tA (StrChars.Road.codOf (cs := (ch0 :: cr)) rfl (fun c hc => (hp c hc).2)) (own_up _ hp) l2 (by decide) (by decide)) q1a q1c (g := (mkF m 5 #[.val (.ref o0), .unset] [(.ref o0)])) rfl (by rw [hml]; rfl) (Steps.refl _) (argsL := []) (rest := []) (lenOf pd_4 rfl) rfl (by show 2 * 0 + _ ≤ _; exact Nat.le_of_eq rfl) (hb hby d1_5) (fun _ _ => ⟨rfl, e0, (by decide : 0 + 0 ≤ _), (by decide : 0 + 0 ≤ _)⟩)
  dsimp only [Pt.U, Pt.locs, Pt.cells, Pt.slots] at X1 l1 y1 z1 st1 hQ1
  subst l1 y1 z1
  obtain ⟨rfl, rfl, e1⟩ := hQ1
  have N1q : Fr n0 ([] : List Loc) := Fr.nil n0
  have N1 := Fr.app N0 N1q
  obtain ⟨cq2, kq2, q2a, q2b, q2c⟩ := isOf hZ e1 E_o0
  obtain ⟨_, _, ⟨T2, L2, k2, n2⟩, -, X2, ⟨Lc2, hQ2, l2, y2, z2⟩, st2⟩ := X1.virtualBack hx (y := (⟨"java/lang/String", "length", "()I"⟩ : MethodName)) (z := (⟨"java/lang/String", "length", "()I"⟩ : MethodName)) hown (mvT hZ (own_w hw 50 rfl)) (mvT hZ (own_w hw 51 rfl)) (notFace_of_selects (args := #[]) (mvT hZ (own_w hw 53 rfl))) (mvT hZ (own_w hw 53 rfl)) (mvT hZ (own_w hw 52 rfl)) (by decide) (StrChars.Road.lenW (W := 0) hZ (own_wln hw) (kI := 4) (own_w hw 10 rfl) E_o0 F_value_o0 F_coder_o0 V_tA (StrChars.Road.codOf (cs := (ch0 :: cr)) rfl (fun c hc => (hp c hc).2)) (own_up _ hp) (S_COMPACT_STRINGS.ext O0.2) hzc l2 (by decide) (by decide)) q2a q2c (g := (mkF m 12 #[.val (.ref o0), .unset] [(.ref o0)])) rfl (by rw [hml]; rfl) (Steps.refl _) (argsL := []) (rest := []) (lenOf pd_5 rfl) rfl (by show 2 * 0 + _ ≤ _; exact Nat.le_of_eq rfl) (hb hby d1_12) (fun _ _ => ⟨rfl, e1, (by decide : 0 + 0 ≤ _), (by decide : 0 + 0 ≤ _)⟩)
  dsimp only [Pt.U, Pt.locs, Pt.cells, Pt.slots] at X2 l2 y2 z2 st2 hQ2
  subst l2 y2 z2
  obtain ⟨rfl, rfl, e2⟩ := hQ2
  have N2q : Fr n0 ([] : List Loc) := Fr.nil n0
  have N2 := Fr.app N1 N2q
  obtain ⟨cq3, kq3, q3a, q3b, q3c⟩ := isOf hZ e2 E_o0
  obtain ⟨_, _, ⟨T3, L3, k3, n3⟩, -, X3, ⟨Lc3, hQ3, l3, y3, z3⟩, st3⟩ := X2.virtualBack hx (y := (⟨"java/lang/String", "length", "()I"⟩ : MethodName)) (z := (⟨"java/lang/String", "length", "()I"⟩ : MethodName)) hown (mvT hZ (own_w hw 50 rfl)) (mvT hZ (own_w hw 51 rfl)) (notFace_of_selects (args := #[]) (mvT hZ (own_w hw 53 rfl))) (mvT hZ (own_w hw 53 rfl)) (mvT hZ (own_w hw 52 rfl)) (by decide) (StrChars.Road.lenW (W := 1) hZ (own_wln hw) (kI := 4) (own_w hw 10 rfl) E_o0 F_value_o0 F_coder_o0 V_tA (StrChars.Road.codOf (cs := (ch0 :: cr)) rfl (fun c hc => (hp c hc).2)) (own_up _ hp) (S_COMPACT_STRINGS.ext O0.2) hzc l2 (by decide) (by decide)) q3a q3c (g := (mkF m 26 #[.val (.ref o0), .val (.int 0)] [(.ref o0), (.int 0)])) rfl (by rw [hml]; rfl) (Steps.refl _) (argsL := []) (rest := [(.int 0)]) (lenOf pd_5 rfl) rfl (by show 2 * 0 + _ ≤ _; exact Nat.le_of_eq rfl) (hb hby d1_26) (fun _ _ => ⟨rfl, e2, (by decide : 0 + 0 ≤ _), (by decide : 0 + 0 ≤ _)⟩)
  dsimp only [Pt.U, Pt.locs, Pt.cells, Pt.slots] at X3 l3 y3 z3 st3 hQ3
  subst l3 y3 z3
  obtain ⟨rfl, rfl, e3⟩ := hQ3
  have N3q : Fr n0 ([] : List Loc) := Fr.nil n0
  have N3 := Fr.app N2 N3q
  have Sn0 : s.Since s.vm 0 := (State.WarmedH.refl s).since 0
  have XS0 : Stand p l e _ (s.setVm s.vm) m #[(.ref o0)] below meth c T3 _ 0 0 := X3
  have hZS : Z.Warmed39 s.vm := hZ
  have hownS : s.vm.findClass "com/example/dispensd/dispensd/Identifier" = some m.cls := hown
  obtain ⟨sa4, T4, h4, ks4, tb4, kb4, X4, e4, E4, Sn4, hk4, hZ4, hown4, Ea4, Fc4, Fv4, Vb4, la4, lb4, Ib4, Lt4, st4⟩ := ldcSVL XS0 hx hZ hown (own_w hw 60 rfl) (own_sa hw) e3 Sn0 (Nat.zero_le _) (Fr.nil _) (fun b cl q => by rw [hh]; exact O0.2.2 b cl q) (Ts := []) ⟨#[], by rw [hint]; simp, fun q hq => by simp at hq⟩ (by simp) hheldI hcw (vs := [(.int 65), (.int 66), (.int 67), (.int 68), (.int 69), (.int 70), (.int 71), (.int 72), (.int 73), (.int 74), (.int 75), (.int 76), (.int 77), (.int 78), (.int 79), (.int 80), (.int 81), (.int 82), (.int 83), (.int 84), (.int 85), (.int 86), (.int 87), (.int 88), (.int 89), (.int 90), (.int 97), (.int 98), (.int 99), (.int 100), (.int 101), (.int 102), (.int 103), (.int 104), (.int 105), (.int 106), (.int 107), (.int 108), (.int 109), (.int 110), (.int 111), (.int 112), (.int 113), (.int 114), (.int 115), (.int 116), (.int 117), (.int 118), (.int 119), (.int 120), (.int 121), (.int 122), (.int 48), (.int 49), (.int 50), (.int 51), (.int 52), (.int 53), (.int 54), (.int 55), (.int 56), (.int 57), (.int 45), (.int 95)]) (z := (64 : Int32)) ⟨by decide, rfl⟩ (by decide) (by decide) (g := (mkF m 32 #[.val (.ref o0), .val (.int 0)] [])) rfl (hb hby d1_32) (n := 256) (by decide) (by decide) (by decide) (by decide)
  have O4 := O0.ext E4
  have VbA : Arv Z h4 tb4 kb4 .byte (Int32.ofNat own_A.length) (own_A.map Value.int) (.int 0) := Vb4
  obtain ⟨cq5, kq5, q5a, q5b, q5c⟩ := isOf hZ4 e4 (E_o0.ext E4)
  obtain ⟨_, _, ⟨T5, L5, k5, n5⟩, -, X5, ⟨Lc5, hQ5, l5, y5, z5⟩, st5⟩ := X4.virtualBack hx (y := (⟨"java/lang/String", "charAt", "(I)C"⟩ : MethodName)) (z := (⟨"java/lang/String", "charAt", "(I)C"⟩ : MethodName)) hown4 (mvT hZ4 (own_w hw 63 rfl)) (mvT hZ4 (own_w hw 64 rfl)) (notFace_of_selects (args := #[]) (mvT hZ4 (own_w hw 66 rfl))) (mvT hZ4 (own_w hw 66 rfl)) (mvT hZ4 (own_w hw 65 rfl)) (by decide) (StrChars.Road.chN (W := 1) hZ4 (own_wch hw) (kI := 4) (own_w hw 10 rfl) (E_o0.ext E4) (F_value_o0.ext E4) (F_coder_o0.ext E4) (V_tA.ext E4) (StrChars.Road.codOf (cs := (ch0 :: cr)) rfl (fun c hc => (hp c hc).2)) (own_up _ hp) (S_COMPACT_STRINGS.ext O4.2) hzc (S_FM.ext O4.2) hfm l2 (i := 0) (by simp) (j := (0 : Int32)) rfl (by decide) (by decide)) q5a q5c (g := (mkF m 36 #[.val (.ref o0), .val (.int 0)] [(.int 0), (.ref o0), (.ref sa4)])) rfl (by rw [hml]; rfl) (Steps.refl _) (argsL := [(.int 0)]) (rest := [(.ref sa4)]) (lenOf pd_9 rfl) rfl (by show 2 * 0 + _ ≤ _; exact Nat.le_of_eq rfl) (hb hby d1_36) (fun _ _ => ⟨rfl, e4, (by decide : 2 + 0 ≤ _), (by decide : 260 + 0 ≤ _)⟩)
  dsimp only [Pt.U, Pt.locs, Pt.cells, Pt.slots] at X5 l5 y5 z5 st5 hQ5
  subst l5 y5 z5
  obtain ⟨rfl, rfl, e5⟩ := hQ5
  have N5q : Fr n0 ([] : List Loc) := Fr.nil n0
  have N5 := Fr.app N3 N5q
  obtain ⟨cq6, kq6, q6a, q6b, q6c⟩ := isOf hZ4 e5 Ea4
  obtain ⟨_, _, ⟨T6, L6, k6, n6⟩, -, X6, ⟨Lc6, hQ6, l6, y6, z6⟩, st6⟩ := X5.virtualBack hx (y := (⟨"java/lang/String", "indexOf", "(I)I"⟩ : MethodName)) (z := (⟨"java/lang/String", "indexOf", "(I)I"⟩ : MethodName)) hown4 (mvT hZ4 (own_w hw 85 rfl)) (mvT hZ4 (own_w hw 86 rfl)) (notFace_of_selects (args := #[]) (mvT hZ4 (own_w hw 88 rfl))) (mvT hZ4 (own_w hw 88 rfl)) (mvT hZ4 (own_w hw 87 rfl)) (by decide) (backOf (W := 0) (rmIx l Z a0 hw [] sa4 ch0 own_A tb4 kb4 zc h4 n0 O4 Fv4 Fc4 VbA S_COMPACT_STRINGS hzc Ea4 (by decide) (by decide) hqc) hZ4 (own_w hw 89 rfl) (own_w hw 11 rfl) (by decide) (by decide)) q6a q6c (g := (mkF m 39 #[.val (.ref o0), .val (.int 0)] [(.int ch0), (.ref sa4)])) rfl (by rw [hml]; rfl) (Steps.refl _) (argsL := [(.int ch0)]) (rest := []) (lenOf pd_10 rfl) rfl (by show 2 * 0 + _ ≤ _; exact Nat.le_of_eq rfl) (hb hby d1_39) (fun _ _ => ⟨rfl, e5, (by decide : 2 + 0 ≤ _), (by decide : 260 + 0 ≤ _)⟩)
  dsimp only [Pt.U, Pt.locs, Pt.cells, Pt.slots] at X6 l6 y6 z6 st6 hQ6
  subst l6 y6 z6
  obtain ⟨rfl, N6q, e6⟩ := hQ6
  have N6 := Fr.app N5 N6q
  obtain ⟨T7, L7, jz7, X7, e7, N7, st7⟩ := own_iv1 o0 (ch0 :: cr) tA kA zc fm sa4 tb4 kb4 hx hZ4 hw hby hml hown4 O4 (E_o0.ext E4) (F_value_o0.ext E4) (F_coder_o0.ext E4) (V_tA.ext E4) S_COMPACT_STRINGS hzc S_FM hfm hp l2 Ea4 Fv4 Fc4 VbA Lt4 (L := cr) (P := [ch0]) rfl X6 e6 N6 hall
  obtain ⟨fs, hr, hrun, hended, hRW⟩ := X7.leaveW Sn4 (by rw [e7]; exact hk4) (v := some (.int 1)) (fun h => by rw [Bd.returns] at h; cases h)
  refine ⟨_, _, pre0 _ ?_, hrun, hended, _, _, rfl, ?_, hRW.1, hRW.2.1, hRW.2.2.1, hRW.2.2.2.mono (by decide) (by decide)⟩
  · show oS p e below s₁ m 0 #[.val (.ref o0), .unset] [] _
    refine XS.aloadN X0.here hx rfl (hb hby d1_0) rfl rfl ?_
    show oS p e below s₁ m 1 #[.val (.ref o0), .unset] [(.ref o0)] _
    refine XS.ifnullNo X0.here hx rfl (hb hby d1_1) rfl ?_
    show oS p e below s₁ m 4 #[.val (.ref o0), .unset] [] _
    refine XS.aloadN X0.here hx rfl (hb hby d1_4) rfl rfl ?_
    show oS p e below s₁ m 5 #[.val (.ref o0), .unset] [(.ref o0)] _
    refine st1.trans ?_
    show oS p e below T1 m 8 #[.val (.ref o0), .unset] [(.int (if (ch0 :: cr).length = 0 then (1 : Int32) else 0))] _
    refine XS.ifNo X1.here hx rfl (hb hby d1_8) rfl ((if0 _ _).trans (teq (if_neg (by simp))).2) ?_
    show oS p e below T1 m 11 #[.val (.ref o0), .unset] [] _
    refine XS.aloadN X1.here hx rfl (hb hby d1_11) rfl rfl ?_
    show oS p e below T1 m 12 #[.val (.ref o0), .unset] [(.ref o0)] _
    refine st2.trans ?_
    show oS p e below T2 m 15 #[.val (.ref o0), .unset] [(.int (Int32.ofNat (ch0 :: cr).length))] _
    refine XS.bipush X2.here hx rfl (hb hby d1_15) ?_
    show oS p e below T2 m 17 #[.val (.ref o0), .unset] [(.int 16), (.int (Int32.ofNat (ch0 :: cr).length))] _
    refine XS.icmpYes X2.here hx rfl (pc0 := 17) (pc' := 22) rfl (hb hby d1_17) rfl (flt hqb).2.2.2 (by decide) (by decide) ?_
    show oS p e below T2 m 22 #[.val (.ref o0), .unset] [] _
    refine XS.iconst X2.here hx rfl (hb hby d1_22) ?_
    show oS p e below T2 m 23 #[.val (.ref o0), .unset] [(.int 0)] _
    refine XS.istoreN X2.here hx rfl (hb hby d1_23) rfl (l' := #[.val (.ref o0), .val (.int 0)]) rfl ?_
    show oS p e below T2 m 24 #[.val (.ref o0), .val (.int 0)] [] _
    refine XS.iloadN X2.here hx rfl (hb hby d1_24) rfl ?_
    show oS p e below T2 m 25 #[.val (.ref o0), .val (.int 0)] [(.int 0)] _
    refine XS.aloadN X2.here hx rfl (hb hby d1_25) rfl rfl ?_
    show oS p e below T2 m 26 #[.val (.ref o0), .val (.int 0)] [(.ref o0), (.int 0)] _
    refine st3.trans ?_
    show oS p e below T3 m 29 #[.val (.ref o0), .val (.int 0)] [(.int (Int32.ofNat (ch0 :: cr).length)), (.int 0)] _
    refine XS.icmpNo X3.here hx rfl (hb hby d1_29) rfl (tlt hqa).2.1 ?_
    show oS p e below T3 m 32 #[.val (.ref o0), .val (.int 0)] [] _
    refine st4 _ ?_
    show oS p e below T4 m 34 #[.val (.ref o0), .val (.int 0)] [(.ref sa4)] _
    refine XS.aloadN X4.here hx rfl (hb hby d1_34) rfl rfl ?_
    show oS p e below T4 m 35 #[.val (.ref o0), .val (.int 0)] [(.ref o0), (.ref sa4)] _
    refine XS.iloadN X4.here hx rfl (hb hby d1_35) rfl ?_
    show oS p e below T4 m 36 #[.val (.ref o0), .val (.int 0)] [(.int 0), (.ref o0), (.ref sa4)] _
    refine st5.trans ?_
    show oS p e below T5 m 39 #[.val (.ref o0), .val (.int 0)] [(.int ch0), (.ref sa4)] _
    refine st6.trans ?_
    show oS p e below T6 m 42 #[.val (.ref o0), .val (.int 0)] [(.int (own_find own_A (ch0.toInt8.toInt32) 0))] _
    refine XS.ifYes X6.here hx rfl (pc0 := 42) (pc' := 47) rfl (hb hby d1_42) rfl ((if0 _ _).trans (flt hqf).2.1) (by decide) (by decide) ?_
    show oS p e below T6 m 47 #[.val (.ref o0), .val (.int 0)] [] _
    refine XS.iinc X6.here hx rfl (hb hby d1_47) rfl (l' := #[.val (.ref o0), .val (.int 1)]) rfl ?_
    show oS p e below T6 m 50 #[.val (.ref o0), .val (.int 1)] [] _
    refine XS.goto X6.here hx rfl (pc0 := 50) (pc' := 24) rfl (hb hby d1_50) (by decide) (by decide) ?_
    show oS p e below T6 m 24 #[.val (.ref o0), .val (.int 1)] [] _
    refine st7 _ ?_
    show oS p e below T7 m 53 #[.val (.ref o0), .val (.int jz7)] [] _
    refine XS.iconst X7.here hx rfl (hb hby d1_53) ?_
    show oS p e below T7 m 54 #[.val (.ref o0), .val (.int jz7)] [(.int 1)] _
    exact retN X7 hx (t := .boolean) Bd.returns (by simp) (hb hby d1_54) hr
  · show own_QV (.int 1) Z n0 _ T7.heap _
    rw [e7]
    exact ⟨rfl, N7, O4⟩
theorem rmVA (l : Launch) (Z : State) (a0 : Array Value) (hw : ∀ d ∈ tables_1, d.before a0 Z = true) (ws : List Jvm.Cond) (o0 : Addr) (cs : List Int32) (tA : Addr) (kA : ClassId) (zc : Int32) (fm : Value) (h0 : Heap) (n0 : Nat) (O0 : Old Z n0 h0) (E_o0 : Exa Z h0 o0 "java/lang/String") (F_value_o0 : Fld Z h0 o0 "java/lang/String" "value" "[B" (.ref tA)) (F_coder_o0 : Fld Z h0 o0 "java/lang/String" "coder" "B" (.int 0)) (V_tA : Arv Z h0 tA kA .byte (Int32.ofNat cs.length) ((cs.map (fun c => c.toInt8.toInt32)).map Value.int) (.int 0)) (S_COMPACT_STRINGS : Sta Z Z.heap "java/lang/String" "COMPACT_STRINGS" "Z" (.int zc)) (hzc : ¬ zc = 0) (S_FM : Sta Z Z.heap "jdk/internal/util/Preconditions" "SIOOBE_FORMATTER" "Ljava/util/function/BiFunction;" fm) (hfm : fm.isRef = true) (hp : ∀ c ∈ cs, ¬ c < 0 ∧ ¬ (255 : Int32) < c) (l2 : cs.length ≤ 4000) (hqb : ¬ ((16 : Int32) < (Int32.ofNat cs.length))) (hqa : (0 : Int32) < (Int32.ofNat cs.length)) (hheldI : Jvm.Lit.constHeld Z "com/example/dispensd/dispensd/Identifier" 34) (hcw : Jvm.Lit.compactW.before a0 Z = true) (hall : ∀ c ∈ cs, ¬ (own_find own_A (c.toInt8.toInt32) 0) < 0) : MetFree l (⟨"com/example/dispensd/dispensd/Identifier", "isValid", "(Ljava/lang/String;)Z"⟩ : MethodName) (head1 (Jvm.Cond.code (⟨"com/example/dispensd/dispensd/Identifier", "isValid", "(Ljava/lang/String;)Z"⟩ : MethodName) prog_2_method_2_code 2 (some .boolean) :: ws) ({ frames := 4, cells := 2, slots := 260, locals := 60 } : Room)) (fun a U => a = #[(.ref o0)] ∧ Z.Warmed39 U.vm ∧ U.heap = h0 ∧ U.vm.interned = Z.vm.interned) (fun _ _ _ _ _ => True) (fun _ U o U' => ∃ v L, o = .returned v ∧ own_QV (.int 1) Z n0 v U'.heap L ∧ ReturnedEndW U o U' L ({ frames := 4, cells := 2, slots := 260, locals := 60 } : Room).cells ({ frames := 4, cells := 2, slots := 260, locals := 60 } : Room).slots) := by
  cases cs with
  | nil => exact absurd hqa (by decide)
  | cons ch0 cr =>
    exact rmV1 l Z a0 hw ws o0 ch0 cr tA kA zc fm h0 n0 O0 E_o0 F_value_o0 F_coder_o0 V_tA S_COMPACT_STRINGS hzc S_FM hfm hp l2 hqb hqa hheldI hcw (hall _ (by simp)) (fun c hc => hall c (List.mem_cons_of_mem _ hc))
theorem rmVB (l : Launch) (Z : State) (a0 : Array Value) (hw : ∀ d ∈ tables_1, d.before a0 Z = true) (ws : List Jvm.Cond) (o0 : Addr) (cs : List Int32) (tA : Addr) (kA : ClassId) (zc : Int32) (fm : Value) (h0 : Heap) (n0 : Nat) (O0 : Old Z n0 h0) (E_o0 : Exa Z h0 o0 "java/lang/String") (F_value_o0 : Fld Z h0 o0 "java/lang/String" "value" "[B" (.ref tA)) (F_coder_o0 : Fld Z h0 o0 "java/lang/String" "coder" "B" (.int 0)) (V_tA : Arv Z h0 tA kA .byte (Int32.ofNat cs.length) ((cs.map (fun c => c.toInt8.toInt32)).map Value.int) (.int 0)) (S_COMPACT_STRINGS : Sta Z Z.heap "java/lang/String" "COMPACT_STRINGS" "Z" (.int zc)) (hzc : ¬ zc = 0) (S_FM : Sta Z Z.heap "jdk/internal/util/Preconditions" "SIOOBE_FORMATTER" "Ljava/util/function/BiFunction;" fm) (hfm : fm.isRef = true) (hp : ∀ c ∈ cs, ¬ c < 0 ∧ ¬ (255 : Int32) < c) (l2 : cs.length ≤ 4000) (hqb : ¬ ((16 : Int32) < (Int32.ofNat cs.length))) (hqa : (0 : Int32) < (Int32.ofNat cs.length)) (hheldI : Jvm.Lit.constHeld Z "com/example/dispensd/dispensd/Identifier" 34) (hcw : Jvm.Lit.compactW.before a0 Z = true) (hex : ∃ c ∈ cs, (own_find own_A (c.toInt8.toInt32) 0) < 0) : MetFree l (⟨"com/example/dispensd/dispensd/Identifier", "isValid", "(Ljava/lang/String;)Z"⟩ : MethodName) (head1 (Jvm.Cond.code (⟨"com/example/dispensd/dispensd/Identifier", "isValid", "(Ljava/lang/String;)Z"⟩ : MethodName) prog_2_method_2_code 2 (some .boolean) :: ws) ({ frames := 4, cells := 2, slots := 260, locals := 60 } : Room)) (fun a U => a = #[(.ref o0)] ∧ Z.Warmed39 U.vm ∧ U.heap = h0 ∧ U.vm.interned = Z.vm.interned) (fun _ _ _ _ _ => True) (fun _ U o U' => ∃ v L, o = .returned v ∧ own_QV (.int 0) Z n0 v U'.heap L ∧ ReturnedEndW U o U' L ({ frames := 4, cells := 2, slots := 260, locals := 60 } : Room).cells ({ frames := 4, cells := 2, slots := 260, locals := 60 } : Room).slots) := by
  cases cs with
  | nil => exact absurd hqa (by decide)
  | cons ch0 cr =>
    by_cases hf : (own_find own_A (ch0.toInt8.toInt32) 0) < 0
    · exact rmV0a l Z a0 hw ws o0 ch0 cr tA kA zc fm h0 n0 O0 E_o0 F_value_o0 F_coder_o0 V_tA S_COMPACT_STRINGS hzc S_FM hfm hp l2 hqb hqa hheldI hcw hf
    · exact rmV0b l Z a0 hw ws o0 ch0 cr tA kA zc fm h0 n0 O0 E_o0 F_value_o0 F_coder_o0 V_tA S_COMPACT_STRINGS hzc S_FM hfm hp l2 hqb hqa hheldI hcw hf (by
        obtain ⟨c, hc, hq⟩ := hex
        rcases List.mem_cons.mp hc with rfl | hc
        · exact absurd hq hf
        · exact ⟨c, hc, hq⟩)
theorem own_c255 (x : Int32) : ¬ ((x &&& (255 : Int32)).toUInt32.toUInt16.toUInt32.toInt32) < (0 : Int32) ∧ ¬ (255 : Int32) < ((x &&& (255 : Int32)).toUInt32.toUInt16.toUInt32.toInt32) := by
  have e1 := c_mask x 255 8 (by decide) (by decide)
  have e2 := c_i2c (x &&& 255)
  have e3 : (0 : Int32).toInt = 0 := by decide
  have e4 : (255 : Int32).toInt = 255 := by decide
  have e5 : ((2 ^ 8 : Nat) : Int) = 256 := by decide
  rw [Int32.lt_iff_toInt_lt, Int32.lt_iff_toInt_lt, e3, e4]
  rw [e5] at e1
  omega
theorem own_rng {c : Int32} (h : ¬ c < (0 : Int32) ∧ ¬ (255 : Int32) < c) : 0 ≤ c.toInt ∧ c.toInt ≤ 255 := by
  have e3 : (0 : Int32).toInt = 0 := by decide
  have e4 : (255 : Int32).toInt = 255 := by decide
  rw [Int32.lt_iff_toInt_lt, Int32.lt_iff_toInt_lt, e3, e4] at h
  omega
theorem own_id {c : Int32} (h : ¬ c < (0 : Int32) ∧ ¬ (255 : Int32) < c) : nar .char c = c := by
  have e2 := c_i2c c
  have q := own_rng h
  have e6 : nar .char c = c.toUInt32.toUInt16.toUInt32.toInt32 := rfl
  apply Int32.toInt_inj.mp
  rw [e6]
  omega
theorem own_el {i s x y : Int32} (hx : ¬ x < (0 : Int32) ∧ ¬ (255 : Int32) < x) (hy : ¬ y < (0 : Int32) ∧ ¬ (255 : Int32) < y) : own_d i s x y = if i = s then x else y := by
  show nar .char (own_c i s x y) = _
  unfold own_c
  by_cases q : i = s
  · rw [if_pos q, own_id hx, own_id hx]
  · rw [if_neg q, own_id hy, own_id hy]
theorem own_mem {n : Nat} {s x y c : Int32} (hx : ¬ x < (0 : Int32) ∧ ¬ (255 : Int32) < x) (hy : ¬ y < (0 : Int32) ∧ ¬ (255 : Int32) < y) (hc : c ∈ own_cs n s x y) : (c = x ∧ 0 < n) ∨ (c = y ∧ ∃ i, i < n ∧ ¬ Int32.ofNat i = s) := by
  unfold own_cs at hc
  obtain ⟨i, hi, rfl⟩ := List.mem_map.mp hc
  have hi := List.mem_range.mp hi
  rw [own_el hx hy]
  by_cases q : Int32.ofNat i = s
  · rw [if_pos q]
    exact Or.inl ⟨rfl, by omega⟩
  · rw [if_neg q]
    exact Or.inr ⟨rfl, i, hi, q⟩
theorem own_hp {n : Nat} {s x y : Int32} (hx : ¬ x < (0 : Int32) ∧ ¬ (255 : Int32) < x) (hy : ¬ y < (0 : Int32) ∧ ¬ (255 : Int32) < y) : ∀ c ∈ own_cs n s x y, ¬ c < 0 ∧ ¬ (255 : Int32) < c := by
  intro c hc
  rcases own_mem hx hy hc with ⟨rfl, -⟩ | ⟨rfl, -⟩
  · exact hx
  · exact hy
theorem own_csl (n : Nat) (s x y : Int32) : (own_cs n s x y).length = n := by simp [own_cs]
theorem own_inx {n j : Nat} {s x y : Int32} (hx : ¬ x < (0 : Int32) ∧ ¬ (255 : Int32) < x) (hy : ¬ y < (0 : Int32) ∧ ¬ (255 : Int32) < y) (hs : s = Int32.ofNat j) (hj : j < n) : x ∈ own_cs n s x y := by
  refine List.mem_map.mpr ⟨j, List.mem_range.mpr hj, ?_⟩
  rw [own_el hx hy, if_pos hs.symm]
theorem own_iny {n : Nat} {s x y : Int32} (hx : ¬ x < (0 : Int32) ∧ ¬ (255 : Int32) < x) (hy : ¬ y < (0 : Int32) ∧ ¬ (255 : Int32) < y) (hn : 2 ≤ n) : y ∈ own_cs n s x y := by
  by_cases q : Int32.ofNat 0 = s
  · refine List.mem_map.mpr ⟨1, List.mem_range.mpr (by omega), ?_⟩
    rw [own_el hx hy, if_neg]
    intro z
    rw [← q] at z
    exact absurd z (by decide)
  · refine List.mem_map.mpr ⟨0, List.mem_range.mpr (by omega), ?_⟩
    rw [own_el hx hy, if_neg q]
set_option maxRecDepth 65536 in
theorem own_okA : ∀ n : Fin 256, (own_ok (Int32.ofNat n.val) = 1 ∧ ¬ own_find own_A ((Int32.ofNat n.val).toInt8.toInt32) 0 < 0) ∨ (own_ok (Int32.ofNat n.val) = 0 ∧ own_find own_A ((Int32.ofNat n.val).toInt8.toInt32) 0 < 0) := by decide +kernel
theorem own_okc {c : Int32} (h : ¬ c < (0 : Int32) ∧ ¬ (255 : Int32) < c) : (own_ok c = 1 ∧ ¬ own_find own_A (c.toInt8.toInt32) 0 < 0) ∨ (own_ok c = 0 ∧ own_find own_A (c.toInt8.toInt32) 0 < 0) := by
  have q := own_rng h
  have e : c = Int32.ofNat c.toInt.toNat := by
    apply Int32.toInt_inj.mp
    rw [own_ofNat (by omega)]
    omega
  have k := own_okA ⟨c.toInt.toNat, by omega⟩
  rw [← e] at k
  exact k
theorem own_and7 (p : Int32) : (p &&& (7 : Int32)) = 0 ∨ (p &&& (7 : Int32)) = 1 ∨ (p &&& (7 : Int32)) = 2 ∨ (p &&& (7 : Int32)) = 3 ∨ (p &&& (7 : Int32)) = 4 ∨ (p &&& (7 : Int32)) = 5 ∨ (p &&& (7 : Int32)) = 6 ∨ (p &&& (7 : Int32)) = 7 := by
  have e1 := c_mask p 7 3 (by decide) (by decide)
  have e5 : ((2 ^ 3 : Nat) : Int) = 8 := by decide
  rw [e5] at e1
  generalize (p &&& (7 : Int32)) = i at e1 ⊢
  have hk : i.toInt = 0 ∨ i.toInt = 1 ∨ i.toInt = 2 ∨ i.toInt = 3 ∨ i.toInt = 4 ∨ i.toInt = 5 ∨ i.toInt = 6 ∨ i.toInt = 7 := by omega
  rcases hk with hk | hk | hk | hk | hk | hk | hk | hk
  · exact Or.inl (Int32.toInt_inj.mp (hk.trans (by decide)))
  · exact Or.inr (Or.inl (Int32.toInt_inj.mp (hk.trans (by decide))))
  · exact Or.inr (Or.inr (Or.inl (Int32.toInt_inj.mp (hk.trans (by decide)))))
  · exact Or.inr (Or.inr (Or.inr (Or.inl (Int32.toInt_inj.mp (hk.trans (by decide))))))
  · exact Or.inr (Or.inr (Or.inr (Or.inr (Or.inl (Int32.toInt_inj.mp (hk.trans (by decide)))))))
  · exact Or.inr (Or.inr (Or.inr (Or.inr (Or.inr (Or.inl (Int32.toInt_inj.mp (hk.trans (by decide))))))))
  · exact Or.inr (Or.inr (Or.inr (Or.inr (Or.inr (Or.inr (Or.inl (Int32.toInt_inj.mp (hk.trans (by decide)))))))))
  · exact Or.inr (Or.inr (Or.inr (Or.inr (Or.inr (Or.inr (Or.inr (Int32.toInt_inj.mp (hk.trans (by decide)))))))))
theorem own_mod (p n : Int32) (hn : 0 < n.toInt) : 0 ≤ ((p &&& (2147483647 : Int32)) % n).toInt ∧ ((p &&& (2147483647 : Int32)) % n).toInt < n.toInt := by
  have e1 := c_mask p 2147483647 31 (by decide) (by decide)
  have e2 : 0 ≤ (p &&& (2147483647 : Int32)).toInt := by rw [e1]; exact Int.emod_nonneg _ (by decide)
  rw [Int32.toInt_mod, Int.tmod_eq_emod_of_nonneg e2]
  exact ⟨Int.emod_nonneg _ (by omega), Int.emod_lt_of_pos _ hn⟩
set_option maxRecDepth 65536 in
set_option maxHeartbeats 40000000 in
theorem lwN2 {p : Program} {l : Launch} {e : Env} {s : State} {m : MethodId} {args : Array Value} {below : List Frame} {meth : Method} {c : Code} {T0 : State} {locs : List Loc} {Z : State} {h0 : Heap} {p0 p1 p2 p3 px py : Int32} (X0 : Stand p l e room_1 s m args below meth c T0 locs 0 0) (hx : p.tables.exec = Jvm.exec) (hZ : Z.Warmed39 s.vm) (hby : c.code = code) (e0 : T0.heap = h0) (hkk : (p0 &&& (7 : Int32)) = (2 : Int32)) :
    ∀ target, Steps p.tables e below (T0.setTop (mkF m 119 #[.val (.int p0), .val (.int p1), .val (.int p2), .val (.int p3), .val (.int (p0 &&& (7 : Int32))), .val (.int px), .val (.int py), .val (.int 1), .unset, .unset, .unset] [])) target → Steps p.tables e below (T0.setTop (mkF m 22 #[.val (.int p0), .val (.int p1), .val (.int p2), .val (.int p3), .val (.int (p0 &&& (7 : Int32))), .val (.int px), .val (.int py), .unset, .unset, .unset, .unset] [])) target := by
  intro target kt
  show oS p e below T0 m 22 #[.val (.int p0), .val (.int p1), .val (.int p2), .val (.int p3), .val (.int (p0 &&& (7 : Int32))), .val (.int px), .val (.int py), .unset, .unset, .unset, .unset] [] _
  refine XS.iload X0.here hx rfl (hb hby at_22) rfl ?_
  show oS p e below T0 m 24 #[.val (.int p0), .val (.int p1), .val (.int p2), .val (.int p3), .val (.int (p0 &&& (7 : Int32))), .val (.int px), .val (.int py), .unset, .unset, .unset, .unset] [(.int (p0 &&& (7 : Int32)))] _
  refine XS.ifYes X0.here hx rfl (pc0 := 24) (pc' := 40) rfl (hb hby at_24) rfl ((if0 _ _).trans (feq (by rw [hkk]; decide)).2) (by decide) (by decide) ?_
  show oS p e below T0 m 40 #[.val (.int p0), .val (.int p1), .val (.int p2), .val (.int p3), .val (.int (p0 &&& (7 : Int32))), .val (.int px), .val (.int py), .unset, .unset, .unset, .unset] [] _
  refine XS.iload X0.here hx rfl (hb hby at_40) rfl ?_
  show oS p e below T0 m 42 #[.val (.int p0), .val (.int p1), .val (.int p2), .val (.int p3), .val (.int (p0 &&& (7 : Int32))), .val (.int px), .val (.int py), .unset, .unset, .unset, .unset] [(.int (p0 &&& (7 : Int32)))] _
  refine XS.iconst X0.here hx rfl (hb hby at_42) ?_
  show oS p e below T0 m 43 #[.val (.int p0), .val (.int p1), .val (.int p2), .val (.int p3), .val (.int (p0 &&& (7 : Int32))), .val (.int px), .val (.int py), .unset, .unset, .unset, .unset] [(.int 1), (.int (p0 &&& (7 : Int32)))] _
  refine XS.icmpYes X0.here hx rfl (pc0 := 43) (pc' := 52) rfl (hb hby at_43) rfl (feq (by rw [hkk]; decide)).2 (by decide) (by decide) ?_
  show oS p e below T0 m 52 #[.val (.int p0), .val (.int p1), .val (.int p2), .val (.int p3), .val (.int (p0 &&& (7 : Int32))), .val (.int px), .val (.int py), .unset, .unset, .unset, .unset] [] _
  refine XS.iload X0.here hx rfl (hb hby at_52) rfl ?_
  show oS p e below T0 m 54 #[.val (.int p0), .val (.int p1), .val (.int p2), .val (.int p3), .val (.int (p0 &&& (7 : Int32))), .val (.int px), .val (.int py), .unset, .unset, .unset, .unset] [(.int (p0 &&& (7 : Int32)))] _
  refine XS.iconst X0.here hx rfl (hb hby at_54) ?_
  show oS p e below T0 m 55 #[.val (.int p0), .val (.int p1), .val (.int p2), .val (.int p3), .val (.int (p0 &&& (7 : Int32))), .val (.int px), .val (.int py), .unset, .unset, .unset, .unset] [(.int 2), (.int (p0 &&& (7 : Int32)))] _
  refine XS.icmpNo X0.here hx rfl (hb hby at_55) rfl (teq hkk).2 ?_
  show oS p e below T0 m 58 #[.val (.int p0), .val (.int p1), .val (.int p2), .val (.int p3), .val (.int (p0 &&& (7 : Int32))), .val (.int px), .val (.int py), .unset, .unset, .unset, .unset] [] _
  refine XS.iconst X0.here hx rfl (hb hby at_58) ?_
  show oS p e below T0 m 59 #[.val (.int p0), .val (.int p1), .val (.int p2), .val (.int p3), .val (.int (p0 &&& (7 : Int32))), .val (.int px), .val (.int py), .unset, .unset, .unset, .unset] [(.int 1)] _
  refine XS.istore X0.here hx rfl (hb hby at_59) rfl (l' := #[.val (.int p0), .val (.int p1), .val (.int p2), .val (.int p3), .val (.int (p0 &&& (7 : Int32))), .val (.int px), .val (.int py), .val (.int 1), .unset, .unset, .unset]) rfl ?_
  show oS p e below T0 m 61 #[.val (.int p0), .val (.int p1), .val (.int p2), .val (.int p3), .val (.int (p0 &&& (7 : Int32))), .val (.int px), .val (.int py), .val (.int 1), .unset, .unset, .unset] [] _
  refine XS.goto X0.here hx rfl (pc0 := 61) (pc' := 119) rfl (hb hby at_61) (by decide) (by decide) ?_
  show oS p e below T0 m 119 #[.val (.int p0), .val (.int p1), .val (.int p2), .val (.int p3), .val (.int (p0 &&& (7 : Int32))), .val (.int px), .val (.int py), .val (.int 1), .unset, .unset, .unset] [] _
  exact kt
set_option maxRecDepth 65536 in
set_option maxHeartbeats 40000000 in
theorem lwN3 {p : Program} {l : Launch} {e : Env} {s : State} {m : MethodId} {args : Array Value} {below : List Frame} {meth : Method} {c : Code} {T0 : State} {locs : List Loc} {Z : State} {h0 : Heap} {p0 p1 p2 p3 px py : Int32} (X0 : Stand p l e room_1 s m args below meth c T0 locs 0 0) (hx : p.tables.exec = Jvm.exec) (hZ : Z.Warmed39 s.vm) (hby : c.code = code) (e0 : T0.heap = h0) (hkk : (p0 &&& (7 : Int32)) = (3 : Int32)) :
    ∀ target, Steps p.tables e below (T0.setTop (mkF m 119 #[.val (.int p0), .val (.int p1), .val (.int p2), .val (.int p3), .val (.int (p0 &&& (7 : Int32))), .val (.int px), .val (.int py), .val (.int 2), .unset, .unset, .unset] [])) target → Steps p.tables e below (T0.setTop (mkF m 22 #[.val (.int p0), .val (.int p1), .val (.int p2), .val (.int p3), .val (.int (p0 &&& (7 : Int32))), .val (.int px), .val (.int py), .unset, .unset, .unset, .unset] [])) target := by
  intro target kt
  show oS p e below T0 m 22 #[.val (.int p0), .val (.int p1), .val (.int p2), .val (.int p3), .val (.int (p0 &&& (7 : Int32))), .val (.int px), .val (.int py), .unset, .unset, .unset, .unset] [] _
  refine XS.iload X0.here hx rfl (hb hby at_22) rfl ?_
  show oS p e below T0 m 24 #[.val (.int p0), .val (.int p1), .val (.int p2), .val (.int p3), .val (.int (p0 &&& (7 : Int32))), .val (.int px), .val (.int py), .unset, .unset, .unset, .unset] [(.int (p0 &&& (7 : Int32)))] _
  refine XS.ifYes X0.here hx rfl (pc0 := 24) (pc' := 40) rfl (hb hby at_24) rfl ((if0 _ _).trans (feq (by rw [hkk]; decide)).2) (by decide) (by decide) ?_
  show oS p e below T0 m 40 #[.val (.int p0), .val (.int p1), .val (.int p2), .val (.int p3), .val (.int (p0 &&& (7 : Int32))), .val (.int px), .val (.int py), .unset, .unset, .unset, .unset] [] _
  refine XS.iload X0.here hx rfl (hb hby at_40) rfl ?_
  show oS p e below T0 m 42 #[.val (.int p0), .val (.int p1), .val (.int p2), .val (.int p3), .val (.int (p0 &&& (7 : Int32))), .val (.int px), .val (.int py), .unset, .unset, .unset, .unset] [(.int (p0 &&& (7 : Int32)))] _
  refine XS.iconst X0.here hx rfl (hb hby at_42) ?_
  show oS p e below T0 m 43 #[.val (.int p0), .val (.int p1), .val (.int p2), .val (.int p3), .val (.int (p0 &&& (7 : Int32))), .val (.int px), .val (.int py), .unset, .unset, .unset, .unset] [(.int 1), (.int (p0 &&& (7 : Int32)))] _
  refine XS.icmpYes X0.here hx rfl (pc0 := 43) (pc' := 52) rfl (hb hby at_43) rfl (feq (by rw [hkk]; decide)).2 (by decide) (by decide) ?_
  show oS p e below T0 m 52 #[.val (.int p0), .val (.int p1), .val (.int p2), .val (.int p3), .val (.int (p0 &&& (7 : Int32))), .val (.int px), .val (.int py), .unset, .unset, .unset, .unset] [] _
  refine XS.iload X0.here hx rfl (hb hby at_52) rfl ?_
  show oS p e below T0 m 54 #[.val (.int p0), .val (.int p1), .val (.int p2), .val (.int p3), .val (.int (p0 &&& (7 : Int32))), .val (.int px), .val (.int py), .unset, .unset, .unset, .unset] [(.int (p0 &&& (7 : Int32)))] _
  refine XS.iconst X0.here hx rfl (hb hby at_54) ?_
  show oS p e below T0 m 55 #[.val (.int p0), .val (.int p1), .val (.int p2), .val (.int p3), .val (.int (p0 &&& (7 : Int32))), .val (.int px), .val (.int py), .unset, .unset, .unset, .unset] [(.int 2), (.int (p0 &&& (7 : Int32)))] _
  refine XS.icmpYes X0.here hx rfl (pc0 := 55) (pc' := 64) rfl (hb hby at_55) rfl (feq (by rw [hkk]; decide)).2 (by decide) (by decide) ?_
  show oS p e below T0 m 64 #[.val (.int p0), .val (.int p1), .val (.int p2), .val (.int p3), .val (.int (p0 &&& (7 : Int32))), .val (.int px), .val (.int py), .unset, .unset, .unset, .unset] [] _
  refine XS.iload X0.here hx rfl (hb hby at_64) rfl ?_
  show oS p e below T0 m 66 #[.val (.int p0), .val (.int p1), .val (.int p2), .val (.int p3), .val (.int (p0 &&& (7 : Int32))), .val (.int px), .val (.int py), .unset, .unset, .unset, .unset] [(.int (p0 &&& (7 : Int32)))] _
  refine XS.iconst X0.here hx rfl (hb hby at_66) ?_
  show oS p e below T0 m 67 #[.val (.int p0), .val (.int p1), .val (.int p2), .val (.int p3), .val (.int (p0 &&& (7 : Int32))), .val (.int px), .val (.int py), .unset, .unset, .unset, .unset] [(.int 3), (.int (p0 &&& (7 : Int32)))] _
  refine XS.icmpNo X0.here hx rfl (hb hby at_67) rfl (teq hkk).2 ?_
  show oS p e below T0 m 70 #[.val (.int p0), .val (.int p1), .val (.int p2), .val (.int p3), .val (.int (p0 &&& (7 : Int32))), .val (.int px), .val (.int py), .unset, .unset, .unset, .unset] [] _
  refine XS.iconst X0.here hx rfl (hb hby at_70) ?_
  show oS p e below T0 m 71 #[.val (.int p0), .val (.int p1), .val (.int p2), .val (.int p3), .val (.int (p0 &&& (7 : Int32))), .val (.int px), .val (.int py), .unset, .unset, .unset, .unset] [(.int 2)] _
  refine XS.istore X0.here hx rfl (hb hby at_71) rfl (l' := #[.val (.int p0), .val (.int p1), .val (.int p2), .val (.int p3), .val (.int (p0 &&& (7 : Int32))), .val (.int px), .val (.int py), .val (.int 2), .unset, .unset, .unset]) rfl ?_
  show oS p e below T0 m 73 #[.val (.int p0), .val (.int p1), .val (.int p2), .val (.int p3), .val (.int (p0 &&& (7 : Int32))), .val (.int px), .val (.int py), .val (.int 2), .unset, .unset, .unset] [] _
  refine XS.goto X0.here hx rfl (pc0 := 73) (pc' := 119) rfl (hb hby at_73) (by decide) (by decide) ?_
  show oS p e below T0 m 119 #[.val (.int p0), .val (.int p1), .val (.int p2), .val (.int p3), .val (.int (p0 &&& (7 : Int32))), .val (.int px), .val (.int py), .val (.int 2), .unset, .unset, .unset] [] _
  exact kt
set_option maxRecDepth 65536 in
set_option maxHeartbeats 40000000 in
theorem lwN4 {p : Program} {l : Launch} {e : Env} {s : State} {m : MethodId} {args : Array Value} {below : List Frame} {meth : Method} {c : Code} {T0 : State} {locs : List Loc} {Z : State} {h0 : Heap} {p0 p1 p2 p3 px py : Int32} (X0 : Stand p l e room_1 s m args below meth c T0 locs 0 0) (hx : p.tables.exec = Jvm.exec) (hZ : Z.Warmed39 s.vm) (hby : c.code = code) (e0 : T0.heap = h0) (hkk : (p0 &&& (7 : Int32)) = (4 : Int32)) :
    ∀ target, Steps p.tables e below (T0.setTop (mkF m 119 #[.val (.int p0), .val (.int p1), .val (.int p2), .val (.int p3), .val (.int (p0 &&& (7 : Int32))), .val (.int px), .val (.int py), .val (.int 3), .unset, .unset, .unset] [])) target → Steps p.tables e below (T0.setTop (mkF m 22 #[.val (.int p0), .val (.int p1), .val (.int p2), .val (.int p3), .val (.int (p0 &&& (7 : Int32))), .val (.int px), .val (.int py), .unset, .unset, .unset, .unset] [])) target := by
  intro target kt
  show oS p e below T0 m 22 #[.val (.int p0), .val (.int p1), .val (.int p2), .val (.int p3), .val (.int (p0 &&& (7 : Int32))), .val (.int px), .val (.int py), .unset, .unset, .unset, .unset] [] _
  refine XS.iload X0.here hx rfl (hb hby at_22) rfl ?_
  show oS p e below T0 m 24 #[.val (.int p0), .val (.int p1), .val (.int p2), .val (.int p3), .val (.int (p0 &&& (7 : Int32))), .val (.int px), .val (.int py), .unset, .unset, .unset, .unset] [(.int (p0 &&& (7 : Int32)))] _
  refine XS.ifYes X0.here hx rfl (pc0 := 24) (pc' := 40) rfl (hb hby at_24) rfl ((if0 _ _).trans (feq (by rw [hkk]; decide)).2) (by decide) (by decide) ?_
  show oS p e below T0 m 40 #[.val (.int p0), .val (.int p1), .val (.int p2), .val (.int p3), .val (.int (p0 &&& (7 : Int32))), .val (.int px), .val (.int py), .unset, .unset, .unset, .unset] [] _
  refine XS.iload X0.here hx rfl (hb hby at_40) rfl ?_
  show oS p e below T0 m 42 #[.val (.int p0), .val (.int p1), .val (.int p2), .val (.int p3), .val (.int (p0 &&& (7 : Int32))), .val (.int px), .val (.int py), .unset, .unset, .unset, .unset] [(.int (p0 &&& (7 : Int32)))] _
  refine XS.iconst X0.here hx rfl (hb hby at_42) ?_
  show oS p e below T0 m 43 #[.val (.int p0), .val (.int p1), .val (.int p2), .val (.int p3), .val (.int (p0 &&& (7 : Int32))), .val (.int px), .val (.int py), .unset, .unset, .unset, .unset] [(.int 1), (.int (p0 &&& (7 : Int32)))] _
  refine XS.icmpYes X0.here hx rfl (pc0 := 43) (pc' := 52) rfl (hb hby at_43) rfl (feq (by rw [hkk]; decide)).2 (by decide) (by decide) ?_
  show oS p e below T0 m 52 #[.val (.int p0), .val (.int p1), .val (.int p2), .val (.int p3), .val (.int (p0 &&& (7 : Int32))), .val (.int px), .val (.int py), .unset, .unset, .unset, .unset] [] _
  refine XS.iload X0.here hx rfl (hb hby at_52) rfl ?_
  show oS p e below T0 m 54 #[.val (.int p0), .val (.int p1), .val (.int p2), .val (.int p3), .val (.int (p0 &&& (7 : Int32))), .val (.int px), .val (.int py), .unset, .unset, .unset, .unset] [(.int (p0 &&& (7 : Int32)))] _
  refine XS.iconst X0.here hx rfl (hb hby at_54) ?_
  show oS p e below T0 m 55 #[.val (.int p0), .val (.int p1), .val (.int p2), .val (.int p3), .val (.int (p0 &&& (7 : Int32))), .val (.int px), .val (.int py), .unset, .unset, .unset, .unset] [(.int 2), (.int (p0 &&& (7 : Int32)))] _
  refine XS.icmpYes X0.here hx rfl (pc0 := 55) (pc' := 64) rfl (hb hby at_55) rfl (feq (by rw [hkk]; decide)).2 (by decide) (by decide) ?_
  show oS p e below T0 m 64 #[.val (.int p0), .val (.int p1), .val (.int p2), .val (.int p3), .val (.int (p0 &&& (7 : Int32))), .val (.int px), .val (.int py), .unset, .unset, .unset, .unset] [] _
  refine XS.iload X0.here hx rfl (hb hby at_64) rfl ?_
  show oS p e below T0 m 66 #[.val (.int p0), .val (.int p1), .val (.int p2), .val (.int p3), .val (.int (p0 &&& (7 : Int32))), .val (.int px), .val (.int py), .unset, .unset, .unset, .unset] [(.int (p0 &&& (7 : Int32)))] _
  refine XS.iconst X0.here hx rfl (hb hby at_66) ?_
  show oS p e below T0 m 67 #[.val (.int p0), .val (.int p1), .val (.int p2), .val (.int p3), .val (.int (p0 &&& (7 : Int32))), .val (.int px), .val (.int py), .unset, .unset, .unset, .unset] [(.int 3), (.int (p0 &&& (7 : Int32)))] _
  refine XS.icmpYes X0.here hx rfl (pc0 := 67) (pc' := 76) rfl (hb hby at_67) rfl (feq (by rw [hkk]; decide)).2 (by decide) (by decide) ?_
  show oS p e below T0 m 76 #[.val (.int p0), .val (.int p1), .val (.int p2), .val (.int p3), .val (.int (p0 &&& (7 : Int32))), .val (.int px), .val (.int py), .unset, .unset, .unset, .unset] [] _
  refine XS.iload X0.here hx rfl (hb hby at_76) rfl ?_
  show oS p e below T0 m 78 #[.val (.int p0), .val (.int p1), .val (.int p2), .val (.int p3), .val (.int (p0 &&& (7 : Int32))), .val (.int px), .val (.int py), .unset, .unset, .unset, .unset] [(.int (p0 &&& (7 : Int32)))] _
  refine XS.iconst X0.here hx rfl (hb hby at_78) ?_
  show oS p e below T0 m 79 #[.val (.int p0), .val (.int p1), .val (.int p2), .val (.int p3), .val (.int (p0 &&& (7 : Int32))), .val (.int px), .val (.int py), .unset, .unset, .unset, .unset] [(.int 4), (.int (p0 &&& (7 : Int32)))] _
  refine XS.icmpNo X0.here hx rfl (hb hby at_79) rfl (teq hkk).2 ?_
  show oS p e below T0 m 82 #[.val (.int p0), .val (.int p1), .val (.int p2), .val (.int p3), .val (.int (p0 &&& (7 : Int32))), .val (.int px), .val (.int py), .unset, .unset, .unset, .unset] [] _
  refine XS.iconst X0.here hx rfl (hb hby at_82) ?_
  show oS p e below T0 m 83 #[.val (.int p0), .val (.int p1), .val (.int p2), .val (.int p3), .val (.int (p0 &&& (7 : Int32))), .val (.int px), .val (.int py), .unset, .unset, .unset, .unset] [(.int 3)] _
  refine XS.istore X0.here hx rfl (hb hby at_83) rfl (l' := #[.val (.int p0), .val (.int p1), .val (.int p2), .val (.int p3), .val (.int (p0 &&& (7 : Int32))), .val (.int px), .val (.int py), .val (.int 3), .unset, .unset, .unset]) rfl ?_
  show oS p e below T0 m 85 #[.val (.int p0), .val (.int p1), .val (.int p2), .val (.int p3), .val (.int (p0 &&& (7 : Int32))), .val (.int px), .val (.int py), .val (.int 3), .unset, .unset, .unset] [] _
  refine XS.goto X0.here hx rfl (pc0 := 85) (pc' := 119) rfl (hb hby at_85) (by decide) (by decide) ?_
  show oS p e below T0 m 119 #[.val (.int p0), .val (.int p1), .val (.int p2), .val (.int p3), .val (.int (p0 &&& (7 : Int32))), .val (.int px), .val (.int py), .val (.int 3), .unset, .unset, .unset] [] _
  exact kt
set_option maxRecDepth 65536 in
set_option maxHeartbeats 40000000 in
theorem lwN5 {p : Program} {l : Launch} {e : Env} {s : State} {m : MethodId} {args : Array Value} {below : List Frame} {meth : Method} {c : Code} {T0 : State} {locs : List Loc} {Z : State} {h0 : Heap} {p0 p1 p2 p3 px py : Int32} (X0 : Stand p l e room_1 s m args below meth c T0 locs 0 0) (hx : p.tables.exec = Jvm.exec) (hZ : Z.Warmed39 s.vm) (hby : c.code = code) (e0 : T0.heap = h0) (hkk : (p0 &&& (7 : Int32)) = (5 : Int32)) :
    ∀ target, Steps p.tables e below (T0.setTop (mkF m 119 #[.val (.int p0), .val (.int p1), .val (.int p2), .val (.int p3), .val (.int (p0 &&& (7 : Int32))), .val (.int px), .val (.int py), .val (.int 15), .unset, .unset, .unset] [])) target → Steps p.tables e below (T0.setTop (mkF m 22 #[.val (.int p0), .val (.int p1), .val (.int p2), .val (.int p3), .val (.int (p0 &&& (7 : Int32))), .val (.int px), .val (.int py), .unset, .unset, .unset, .unset] [])) target := by
  intro target kt
  show oS p e below T0 m 22 #[.val (.int p0), .val (.int p1), .val (.int p2), .val (.int p3), .val (.int (p0 &&& (7 : Int32))), .val (.int px), .val (.int py), .unset, .unset, .unset, .unset] [] _
  refine XS.iload X0.here hx rfl (hb hby at_22) rfl ?_
  show oS p e below T0 m 24 #[.val (.int p0), .val (.int p1), .val (.int p2), .val (.int p3), .val (.int (p0 &&& (7 : Int32))), .val (.int px), .val (.int py), .unset, .unset, .unset, .unset] [(.int (p0 &&& (7 : Int32)))] _
  refine XS.ifYes X0.here hx rfl (pc0 := 24) (pc' := 40) rfl (hb hby at_24) rfl ((if0 _ _).trans (feq (by rw [hkk]; decide)).2) (by decide) (by decide) ?_
  show oS p e below T0 m 40 #[.val (.int p0), .val (.int p1), .val (.int p2), .val (.int p3), .val (.int (p0 &&& (7 : Int32))), .val (.int px), .val (.int py), .unset, .unset, .unset, .unset] [] _
  refine XS.iload X0.here hx rfl (hb hby at_40) rfl ?_
  show oS p e below T0 m 42 #[.val (.int p0), .val (.int p1), .val (.int p2), .val (.int p3), .val (.int (p0 &&& (7 : Int32))), .val (.int px), .val (.int py), .unset, .unset, .unset, .unset] [(.int (p0 &&& (7 : Int32)))] _
  refine XS.iconst X0.here hx rfl (hb hby at_42) ?_
  show oS p e below T0 m 43 #[.val (.int p0), .val (.int p1), .val (.int p2), .val (.int p3), .val (.int (p0 &&& (7 : Int32))), .val (.int px), .val (.int py), .unset, .unset, .unset, .unset] [(.int 1), (.int (p0 &&& (7 : Int32)))] _
  refine XS.icmpYes X0.here hx rfl (pc0 := 43) (pc' := 52) rfl (hb hby at_43) rfl (feq (by rw [hkk]; decide)).2 (by decide) (by decide) ?_
  show oS p e below T0 m 52 #[.val (.int p0), .val (.int p1), .val (.int p2), .val (.int p3), .val (.int (p0 &&& (7 : Int32))), .val (.int px), .val (.int py), .unset, .unset, .unset, .unset] [] _
  refine XS.iload X0.here hx rfl (hb hby at_52) rfl ?_
  show oS p e below T0 m 54 #[.val (.int p0), .val (.int p1), .val (.int p2), .val (.int p3), .val (.int (p0 &&& (7 : Int32))), .val (.int px), .val (.int py), .unset, .unset, .unset, .unset] [(.int (p0 &&& (7 : Int32)))] _
  refine XS.iconst X0.here hx rfl (hb hby at_54) ?_
  show oS p e below T0 m 55 #[.val (.int p0), .val (.int p1), .val (.int p2), .val (.int p3), .val (.int (p0 &&& (7 : Int32))), .val (.int px), .val (.int py), .unset, .unset, .unset, .unset] [(.int 2), (.int (p0 &&& (7 : Int32)))] _
  refine XS.icmpYes X0.here hx rfl (pc0 := 55) (pc' := 64) rfl (hb hby at_55) rfl (feq (by rw [hkk]; decide)).2 (by decide) (by decide) ?_
  show oS p e below T0 m 64 #[.val (.int p0), .val (.int p1), .val (.int p2), .val (.int p3), .val (.int (p0 &&& (7 : Int32))), .val (.int px), .val (.int py), .unset, .unset, .unset, .unset] [] _
  refine XS.iload X0.here hx rfl (hb hby at_64) rfl ?_
  show oS p e below T0 m 66 #[.val (.int p0), .val (.int p1), .val (.int p2), .val (.int p3), .val (.int (p0 &&& (7 : Int32))), .val (.int px), .val (.int py), .unset, .unset, .unset, .unset] [(.int (p0 &&& (7 : Int32)))] _
  refine XS.iconst X0.here hx rfl (hb hby at_66) ?_
  show oS p e below T0 m 67 #[.val (.int p0), .val (.int p1), .val (.int p2), .val (.int p3), .val (.int (p0 &&& (7 : Int32))), .val (.int px), .val (.int py), .unset, .unset, .unset, .unset] [(.int 3), (.int (p0 &&& (7 : Int32)))] _
  refine XS.icmpYes X0.here hx rfl (pc0 := 67) (pc' := 76) rfl (hb hby at_67) rfl (feq (by rw [hkk]; decide)).2 (by decide) (by decide) ?_
  show oS p e below T0 m 76 #[.val (.int p0), .val (.int p1), .val (.int p2), .val (.int p3), .val (.int (p0 &&& (7 : Int32))), .val (.int px), .val (.int py), .unset, .unset, .unset, .unset] [] _
  refine XS.iload X0.here hx rfl (hb hby at_76) rfl ?_
  show oS p e below T0 m 78 #[.val (.int p0), .val (.int p1), .val (.int p2), .val (.int p3), .val (.int (p0 &&& (7 : Int32))), .val (.int px), .val (.int py), .unset, .unset, .unset, .unset] [(.int (p0 &&& (7 : Int32)))] _
  refine XS.iconst X0.here hx rfl (hb hby at_78) ?_
  show oS p e below T0 m 79 #[.val (.int p0), .val (.int p1), .val (.int p2), .val (.int p3), .val (.int (p0 &&& (7 : Int32))), .val (.int px), .val (.int py), .unset, .unset, .unset, .unset] [(.int 4), (.int (p0 &&& (7 : Int32)))] _
  refine XS.icmpYes X0.here hx rfl (pc0 := 79) (pc' := 88) rfl (hb hby at_79) rfl (feq (by rw [hkk]; decide)).2 (by decide) (by decide) ?_
  show oS p e below T0 m 88 #[.val (.int p0), .val (.int p1), .val (.int p2), .val (.int p3), .val (.int (p0 &&& (7 : Int32))), .val (.int px), .val (.int py), .unset, .unset, .unset, .unset] [] _
  refine XS.iload X0.here hx rfl (hb hby at_88) rfl ?_
  show oS p e below T0 m 90 #[.val (.int p0), .val (.int p1), .val (.int p2), .val (.int p3), .val (.int (p0 &&& (7 : Int32))), .val (.int px), .val (.int py), .unset, .unset, .unset, .unset] [(.int (p0 &&& (7 : Int32)))] _
  refine XS.iconst X0.here hx rfl (hb hby at_90) ?_
  show oS p e below T0 m 91 #[.val (.int p0), .val (.int p1), .val (.int p2), .val (.int p3), .val (.int (p0 &&& (7 : Int32))), .val (.int px), .val (.int py), .unset, .unset, .unset, .unset] [(.int 5), (.int (p0 &&& (7 : Int32)))] _
  refine XS.icmpNo X0.here hx rfl (hb hby at_91) rfl (teq hkk).2 ?_
  show oS p e below T0 m 94 #[.val (.int p0), .val (.int p1), .val (.int p2), .val (.int p3), .val (.int (p0 &&& (7 : Int32))), .val (.int px), .val (.int py), .unset, .unset, .unset, .unset] [] _
  refine XS.bipush X0.here hx rfl (hb hby at_94) ?_
  show oS p e below T0 m 96 #[.val (.int p0), .val (.int p1), .val (.int p2), .val (.int p3), .val (.int (p0 &&& (7 : Int32))), .val (.int px), .val (.int py), .unset, .unset, .unset, .unset] [(.int 15)] _
  refine XS.istore X0.here hx rfl (hb hby at_96) rfl (l' := #[.val (.int p0), .val (.int p1), .val (.int p2), .val (.int p3), .val (.int (p0 &&& (7 : Int32))), .val (.int px), .val (.int py), .val (.int 15), .unset, .unset, .unset]) rfl ?_
  show oS p e below T0 m 98 #[.val (.int p0), .val (.int p1), .val (.int p2), .val (.int p3), .val (.int (p0 &&& (7 : Int32))), .val (.int px), .val (.int py), .val (.int 15), .unset, .unset, .unset] [] _
  refine XS.goto X0.here hx rfl (pc0 := 98) (pc' := 119) rfl (hb hby at_98) (by decide) (by decide) ?_
  show oS p e below T0 m 119 #[.val (.int p0), .val (.int p1), .val (.int p2), .val (.int p3), .val (.int (p0 &&& (7 : Int32))), .val (.int px), .val (.int py), .val (.int 15), .unset, .unset, .unset] [] _
  exact kt
set_option maxRecDepth 65536 in
set_option maxHeartbeats 40000000 in
theorem lwN6 {p : Program} {l : Launch} {e : Env} {s : State} {m : MethodId} {args : Array Value} {below : List Frame} {meth : Method} {c : Code} {T0 : State} {locs : List Loc} {Z : State} {h0 : Heap} {p0 p1 p2 p3 px py : Int32} (X0 : Stand p l e room_1 s m args below meth c T0 locs 0 0) (hx : p.tables.exec = Jvm.exec) (hZ : Z.Warmed39 s.vm) (hby : c.code = code) (e0 : T0.heap = h0) (hkk : (p0 &&& (7 : Int32)) = (6 : Int32)) :
    ∀ target, Steps p.tables e below (T0.setTop (mkF m 119 #[.val (.int p0), .val (.int p1), .val (.int p2), .val (.int p3), .val (.int (p0 &&& (7 : Int32))), .val (.int px), .val (.int py), .val (.int 16), .unset, .unset, .unset] [])) target → Steps p.tables e below (T0.setTop (mkF m 22 #[.val (.int p0), .val (.int p1), .val (.int p2), .val (.int p3), .val (.int (p0 &&& (7 : Int32))), .val (.int px), .val (.int py), .unset, .unset, .unset, .unset] [])) target := by
  intro target kt
  show oS p e below T0 m 22 #[.val (.int p0), .val (.int p1), .val (.int p2), .val (.int p3), .val (.int (p0 &&& (7 : Int32))), .val (.int px), .val (.int py), .unset, .unset, .unset, .unset] [] _
  refine XS.iload X0.here hx rfl (hb hby at_22) rfl ?_
  show oS p e below T0 m 24 #[.val (.int p0), .val (.int p1), .val (.int p2), .val (.int p3), .val (.int (p0 &&& (7 : Int32))), .val (.int px), .val (.int py), .unset, .unset, .unset, .unset] [(.int (p0 &&& (7 : Int32)))] _
  refine XS.ifYes X0.here hx rfl (pc0 := 24) (pc' := 40) rfl (hb hby at_24) rfl ((if0 _ _).trans (feq (by rw [hkk]; decide)).2) (by decide) (by decide) ?_
  show oS p e below T0 m 40 #[.val (.int p0), .val (.int p1), .val (.int p2), .val (.int p3), .val (.int (p0 &&& (7 : Int32))), .val (.int px), .val (.int py), .unset, .unset, .unset, .unset] [] _
  refine XS.iload X0.here hx rfl (hb hby at_40) rfl ?_
  show oS p e below T0 m 42 #[.val (.int p0), .val (.int p1), .val (.int p2), .val (.int p3), .val (.int (p0 &&& (7 : Int32))), .val (.int px), .val (.int py), .unset, .unset, .unset, .unset] [(.int (p0 &&& (7 : Int32)))] _
  refine XS.iconst X0.here hx rfl (hb hby at_42) ?_
  show oS p e below T0 m 43 #[.val (.int p0), .val (.int p1), .val (.int p2), .val (.int p3), .val (.int (p0 &&& (7 : Int32))), .val (.int px), .val (.int py), .unset, .unset, .unset, .unset] [(.int 1), (.int (p0 &&& (7 : Int32)))] _
  refine XS.icmpYes X0.here hx rfl (pc0 := 43) (pc' := 52) rfl (hb hby at_43) rfl (feq (by rw [hkk]; decide)).2 (by decide) (by decide) ?_
  show oS p e below T0 m 52 #[.val (.int p0), .val (.int p1), .val (.int p2), .val (.int p3), .val (.int (p0 &&& (7 : Int32))), .val (.int px), .val (.int py), .unset, .unset, .unset, .unset] [] _
  refine XS.iload X0.here hx rfl (hb hby at_52) rfl ?_
  show oS p e below T0 m 54 #[.val (.int p0), .val (.int p1), .val (.int p2), .val (.int p3), .val (.int (p0 &&& (7 : Int32))), .val (.int px), .val (.int py), .unset, .unset, .unset, .unset] [(.int (p0 &&& (7 : Int32)))] _
  refine XS.iconst X0.here hx rfl (hb hby at_54) ?_
  show oS p e below T0 m 55 #[.val (.int p0), .val (.int p1), .val (.int p2), .val (.int p3), .val (.int (p0 &&& (7 : Int32))), .val (.int px), .val (.int py), .unset, .unset, .unset, .unset] [(.int 2), (.int (p0 &&& (7 : Int32)))] _
  refine XS.icmpYes X0.here hx rfl (pc0 := 55) (pc' := 64) rfl (hb hby at_55) rfl (feq (by rw [hkk]; decide)).2 (by decide) (by decide) ?_
  show oS p e below T0 m 64 #[.val (.int p0), .val (.int p1), .val (.int p2), .val (.int p3), .val (.int (p0 &&& (7 : Int32))), .val (.int px), .val (.int py), .unset, .unset, .unset, .unset] [] _
  refine XS.iload X0.here hx rfl (hb hby at_64) rfl ?_
  show oS p e below T0 m 66 #[.val (.int p0), .val (.int p1), .val (.int p2), .val (.int p3), .val (.int (p0 &&& (7 : Int32))), .val (.int px), .val (.int py), .unset, .unset, .unset, .unset] [(.int (p0 &&& (7 : Int32)))] _
  refine XS.iconst X0.here hx rfl (hb hby at_66) ?_
  show oS p e below T0 m 67 #[.val (.int p0), .val (.int p1), .val (.int p2), .val (.int p3), .val (.int (p0 &&& (7 : Int32))), .val (.int px), .val (.int py), .unset, .unset, .unset, .unset] [(.int 3), (.int (p0 &&& (7 : Int32)))] _
  refine XS.icmpYes X0.here hx rfl (pc0 := 67) (pc' := 76) rfl (hb hby at_67) rfl (feq (by rw [hkk]; decide)).2 (by decide) (by decide) ?_
  show oS p e below T0 m 76 #[.val (.int p0), .val (.int p1), .val (.int p2), .val (.int p3), .val (.int (p0 &&& (7 : Int32))), .val (.int px), .val (.int py), .unset, .unset, .unset, .unset] [] _
  refine XS.iload X0.here hx rfl (hb hby at_76) rfl ?_
  show oS p e below T0 m 78 #[.val (.int p0), .val (.int p1), .val (.int p2), .val (.int p3), .val (.int (p0 &&& (7 : Int32))), .val (.int px), .val (.int py), .unset, .unset, .unset, .unset] [(.int (p0 &&& (7 : Int32)))] _
  refine XS.iconst X0.here hx rfl (hb hby at_78) ?_
  show oS p e below T0 m 79 #[.val (.int p0), .val (.int p1), .val (.int p2), .val (.int p3), .val (.int (p0 &&& (7 : Int32))), .val (.int px), .val (.int py), .unset, .unset, .unset, .unset] [(.int 4), (.int (p0 &&& (7 : Int32)))] _
  refine XS.icmpYes X0.here hx rfl (pc0 := 79) (pc' := 88) rfl (hb hby at_79) rfl (feq (by rw [hkk]; decide)).2 (by decide) (by decide) ?_
  show oS p e below T0 m 88 #[.val (.int p0), .val (.int p1), .val (.int p2), .val (.int p3), .val (.int (p0 &&& (7 : Int32))), .val (.int px), .val (.int py), .unset, .unset, .unset, .unset] [] _
  refine XS.iload X0.here hx rfl (hb hby at_88) rfl ?_
  show oS p e below T0 m 90 #[.val (.int p0), .val (.int p1), .val (.int p2), .val (.int p3), .val (.int (p0 &&& (7 : Int32))), .val (.int px), .val (.int py), .unset, .unset, .unset, .unset] [(.int (p0 &&& (7 : Int32)))] _
  refine XS.iconst X0.here hx rfl (hb hby at_90) ?_
  show oS p e below T0 m 91 #[.val (.int p0), .val (.int p1), .val (.int p2), .val (.int p3), .val (.int (p0 &&& (7 : Int32))), .val (.int px), .val (.int py), .unset, .unset, .unset, .unset] [(.int 5), (.int (p0 &&& (7 : Int32)))] _
  refine XS.icmpYes X0.here hx rfl (pc0 := 91) (pc' := 101) rfl (hb hby at_91) rfl (feq (by rw [hkk]; decide)).2 (by decide) (by decide) ?_
  show oS p e below T0 m 101 #[.val (.int p0), .val (.int p1), .val (.int p2), .val (.int p3), .val (.int (p0 &&& (7 : Int32))), .val (.int px), .val (.int py), .unset, .unset, .unset, .unset] [] _
  refine XS.iload X0.here hx rfl (hb hby at_101) rfl ?_
  show oS p e below T0 m 103 #[.val (.int p0), .val (.int p1), .val (.int p2), .val (.int p3), .val (.int (p0 &&& (7 : Int32))), .val (.int px), .val (.int py), .unset, .unset, .unset, .unset] [(.int (p0 &&& (7 : Int32)))] _
  refine XS.bipush X0.here hx rfl (hb hby at_103) ?_
  show oS p e below T0 m 105 #[.val (.int p0), .val (.int p1), .val (.int p2), .val (.int p3), .val (.int (p0 &&& (7 : Int32))), .val (.int px), .val (.int py), .unset, .unset, .unset, .unset] [(.int 6), (.int (p0 &&& (7 : Int32)))] _
  refine XS.icmpNo X0.here hx rfl (hb hby at_105) rfl (teq hkk).2 ?_
  show oS p e below T0 m 108 #[.val (.int p0), .val (.int p1), .val (.int p2), .val (.int p3), .val (.int (p0 &&& (7 : Int32))), .val (.int px), .val (.int py), .unset, .unset, .unset, .unset] [] _
  refine XS.bipush X0.here hx rfl (hb hby at_108) ?_
  show oS p e below T0 m 110 #[.val (.int p0), .val (.int p1), .val (.int p2), .val (.int p3), .val (.int (p0 &&& (7 : Int32))), .val (.int px), .val (.int py), .unset, .unset, .unset, .unset] [(.int 16)] _
  refine XS.istore X0.here hx rfl (hb hby at_110) rfl (l' := #[.val (.int p0), .val (.int p1), .val (.int p2), .val (.int p3), .val (.int (p0 &&& (7 : Int32))), .val (.int px), .val (.int py), .val (.int 16), .unset, .unset, .unset]) rfl ?_
  show oS p e below T0 m 112 #[.val (.int p0), .val (.int p1), .val (.int p2), .val (.int p3), .val (.int (p0 &&& (7 : Int32))), .val (.int px), .val (.int py), .val (.int 16), .unset, .unset, .unset] [] _
  refine XS.goto X0.here hx rfl (pc0 := 112) (pc' := 119) rfl (hb hby at_112) (by decide) (by decide) ?_
  show oS p e below T0 m 119 #[.val (.int p0), .val (.int p1), .val (.int p2), .val (.int p3), .val (.int (p0 &&& (7 : Int32))), .val (.int px), .val (.int py), .val (.int 16), .unset, .unset, .unset] [] _
  exact kt
set_option maxRecDepth 65536 in
set_option maxHeartbeats 40000000 in
theorem lwN7 {p : Program} {l : Launch} {e : Env} {s : State} {m : MethodId} {args : Array Value} {below : List Frame} {meth : Method} {c : Code} {T0 : State} {locs : List Loc} {Z : State} {h0 : Heap} {p0 p1 p2 p3 px py : Int32} (X0 : Stand p l e room_1 s m args below meth c T0 locs 0 0) (hx : p.tables.exec = Jvm.exec) (hZ : Z.Warmed39 s.vm) (hby : c.code = code) (e0 : T0.heap = h0) (hkk : (p0 &&& (7 : Int32)) = (7 : Int32)) :
    ∀ target, Steps p.tables e below (T0.setTop (mkF m 119 #[.val (.int p0), .val (.int p1), .val (.int p2), .val (.int p3), .val (.int (p0 &&& (7 : Int32))), .val (.int px), .val (.int py), .val (.int 17), .unset, .unset, .unset] [])) target → Steps p.tables e below (T0.setTop (mkF m 22 #[.val (.int p0), .val (.int p1), .val (.int p2), .val (.int p3), .val (.int (p0 &&& (7 : Int32))), .val (.int px), .val (.int py), .unset, .unset, .unset, .unset] [])) target := by
  intro target kt
  show oS p e below T0 m 22 #[.val (.int p0), .val (.int p1), .val (.int p2), .val (.int p3), .val (.int (p0 &&& (7 : Int32))), .val (.int px), .val (.int py), .unset, .unset, .unset, .unset] [] _
  refine XS.iload X0.here hx rfl (hb hby at_22) rfl ?_
  show oS p e below T0 m 24 #[.val (.int p0), .val (.int p1), .val (.int p2), .val (.int p3), .val (.int (p0 &&& (7 : Int32))), .val (.int px), .val (.int py), .unset, .unset, .unset, .unset] [(.int (p0 &&& (7 : Int32)))] _
  refine XS.ifYes X0.here hx rfl (pc0 := 24) (pc' := 40) rfl (hb hby at_24) rfl ((if0 _ _).trans (feq (by rw [hkk]; decide)).2) (by decide) (by decide) ?_
  show oS p e below T0 m 40 #[.val (.int p0), .val (.int p1), .val (.int p2), .val (.int p3), .val (.int (p0 &&& (7 : Int32))), .val (.int px), .val (.int py), .unset, .unset, .unset, .unset] [] _
  refine XS.iload X0.here hx rfl (hb hby at_40) rfl ?_
  show oS p e below T0 m 42 #[.val (.int p0), .val (.int p1), .val (.int p2), .val (.int p3), .val (.int (p0 &&& (7 : Int32))), .val (.int px), .val (.int py), .unset, .unset, .unset, .unset] [(.int (p0 &&& (7 : Int32)))] _
  refine XS.iconst X0.here hx rfl (hb hby at_42) ?_
  show oS p e below T0 m 43 #[.val (.int p0), .val (.int p1), .val (.int p2), .val (.int p3), .val (.int (p0 &&& (7 : Int32))), .val (.int px), .val (.int py), .unset, .unset, .unset, .unset] [(.int 1), (.int (p0 &&& (7 : Int32)))] _
  refine XS.icmpYes X0.here hx rfl (pc0 := 43) (pc' := 52) rfl (hb hby at_43) rfl (feq (by rw [hkk]; decide)).2 (by decide) (by decide) ?_
  show oS p e below T0 m 52 #[.val (.int p0), .val (.int p1), .val (.int p2), .val (.int p3), .val (.int (p0 &&& (7 : Int32))), .val (.int px), .val (.int py), .unset, .unset, .unset, .unset] [] _
  refine XS.iload X0.here hx rfl (hb hby at_52) rfl ?_
  show oS p e below T0 m 54 #[.val (.int p0), .val (.int p1), .val (.int p2), .val (.int p3), .val (.int (p0 &&& (7 : Int32))), .val (.int px), .val (.int py), .unset, .unset, .unset, .unset] [(.int (p0 &&& (7 : Int32)))] _
  refine XS.iconst X0.here hx rfl (hb hby at_54) ?_
  show oS p e below T0 m 55 #[.val (.int p0), .val (.int p1), .val (.int p2), .val (.int p3), .val (.int (p0 &&& (7 : Int32))), .val (.int px), .val (.int py), .unset, .unset, .unset, .unset] [(.int 2), (.int (p0 &&& (7 : Int32)))] _
  refine XS.icmpYes X0.here hx rfl (pc0 := 55) (pc' := 64) rfl (hb hby at_55) rfl (feq (by rw [hkk]; decide)).2 (by decide) (by decide) ?_
  show oS p e below T0 m 64 #[.val (.int p0), .val (.int p1), .val (.int p2), .val (.int p3), .val (.int (p0 &&& (7 : Int32))), .val (.int px), .val (.int py), .unset, .unset, .unset, .unset] [] _
  refine XS.iload X0.here hx rfl (hb hby at_64) rfl ?_
  show oS p e below T0 m 66 #[.val (.int p0), .val (.int p1), .val (.int p2), .val (.int p3), .val (.int (p0 &&& (7 : Int32))), .val (.int px), .val (.int py), .unset, .unset, .unset, .unset] [(.int (p0 &&& (7 : Int32)))] _
  refine XS.iconst X0.here hx rfl (hb hby at_66) ?_
  show oS p e below T0 m 67 #[.val (.int p0), .val (.int p1), .val (.int p2), .val (.int p3), .val (.int (p0 &&& (7 : Int32))), .val (.int px), .val (.int py), .unset, .unset, .unset, .unset] [(.int 3), (.int (p0 &&& (7 : Int32)))] _
  refine XS.icmpYes X0.here hx rfl (pc0 := 67) (pc' := 76) rfl (hb hby at_67) rfl (feq (by rw [hkk]; decide)).2 (by decide) (by decide) ?_
  show oS p e below T0 m 76 #[.val (.int p0), .val (.int p1), .val (.int p2), .val (.int p3), .val (.int (p0 &&& (7 : Int32))), .val (.int px), .val (.int py), .unset, .unset, .unset, .unset] [] _
  refine XS.iload X0.here hx rfl (hb hby at_76) rfl ?_
  show oS p e below T0 m 78 #[.val (.int p0), .val (.int p1), .val (.int p2), .val (.int p3), .val (.int (p0 &&& (7 : Int32))), .val (.int px), .val (.int py), .unset, .unset, .unset, .unset] [(.int (p0 &&& (7 : Int32)))] _
  refine XS.iconst X0.here hx rfl (hb hby at_78) ?_
  show oS p e below T0 m 79 #[.val (.int p0), .val (.int p1), .val (.int p2), .val (.int p3), .val (.int (p0 &&& (7 : Int32))), .val (.int px), .val (.int py), .unset, .unset, .unset, .unset] [(.int 4), (.int (p0 &&& (7 : Int32)))] _
  refine XS.icmpYes X0.here hx rfl (pc0 := 79) (pc' := 88) rfl (hb hby at_79) rfl (feq (by rw [hkk]; decide)).2 (by decide) (by decide) ?_
  show oS p e below T0 m 88 #[.val (.int p0), .val (.int p1), .val (.int p2), .val (.int p3), .val (.int (p0 &&& (7 : Int32))), .val (.int px), .val (.int py), .unset, .unset, .unset, .unset] [] _
  refine XS.iload X0.here hx rfl (hb hby at_88) rfl ?_
  show oS p e below T0 m 90 #[.val (.int p0), .val (.int p1), .val (.int p2), .val (.int p3), .val (.int (p0 &&& (7 : Int32))), .val (.int px), .val (.int py), .unset, .unset, .unset, .unset] [(.int (p0 &&& (7 : Int32)))] _
  refine XS.iconst X0.here hx rfl (hb hby at_90) ?_
  show oS p e below T0 m 91 #[.val (.int p0), .val (.int p1), .val (.int p2), .val (.int p3), .val (.int (p0 &&& (7 : Int32))), .val (.int px), .val (.int py), .unset, .unset, .unset, .unset] [(.int 5), (.int (p0 &&& (7 : Int32)))] _
  refine XS.icmpYes X0.here hx rfl (pc0 := 91) (pc' := 101) rfl (hb hby at_91) rfl (feq (by rw [hkk]; decide)).2 (by decide) (by decide) ?_
  show oS p e below T0 m 101 #[.val (.int p0), .val (.int p1), .val (.int p2), .val (.int p3), .val (.int (p0 &&& (7 : Int32))), .val (.int px), .val (.int py), .unset, .unset, .unset, .unset] [] _
  refine XS.iload X0.here hx rfl (hb hby at_101) rfl ?_
  show oS p e below T0 m 103 #[.val (.int p0), .val (.int p1), .val (.int p2), .val (.int p3), .val (.int (p0 &&& (7 : Int32))), .val (.int px), .val (.int py), .unset, .unset, .unset, .unset] [(.int (p0 &&& (7 : Int32)))] _
  refine XS.bipush X0.here hx rfl (hb hby at_103) ?_
  show oS p e below T0 m 105 #[.val (.int p0), .val (.int p1), .val (.int p2), .val (.int p3), .val (.int (p0 &&& (7 : Int32))), .val (.int px), .val (.int py), .unset, .unset, .unset, .unset] [(.int 6), (.int (p0 &&& (7 : Int32)))] _
  refine XS.icmpYes X0.here hx rfl (pc0 := 105) (pc' := 115) rfl (hb hby at_105) rfl (feq (by rw [hkk]; decide)).2 (by decide) (by decide) ?_
  show oS p e below T0 m 115 #[.val (.int p0), .val (.int p1), .val (.int p2), .val (.int p3), .val (.int (p0 &&& (7 : Int32))), .val (.int px), .val (.int py), .unset, .unset, .unset, .unset] [] _
  refine XS.bipush X0.here hx rfl (hb hby at_115) ?_
  show oS p e below T0 m 117 #[.val (.int p0), .val (.int p1), .val (.int p2), .val (.int p3), .val (.int (p0 &&& (7 : Int32))), .val (.int px), .val (.int py), .unset, .unset, .unset, .unset] [(.int 17)] _
  refine XS.istore X0.here hx rfl (hb hby at_117) rfl (l' := #[.val (.int p0), .val (.int p1), .val (.int p2), .val (.int p3), .val (.int (p0 &&& (7 : Int32))), .val (.int px), .val (.int py), .val (.int 17), .unset, .unset, .unset]) rfl ?_
  show oS p e below T0 m 119 #[.val (.int p0), .val (.int p1), .val (.int p2), .val (.int p3), .val (.int (p0 &&& (7 : Int32))), .val (.int px), .val (.int py), .val (.int 17), .unset, .unset, .unset] [] _
  exact kt
theorem lwN {p : Program} {l : Launch} {e : Env} {s : State} {m : MethodId} {args : Array Value} {below : List Frame} {meth : Method} {c : Code} {T0 : State} {locs : List Loc} {Z : State} {h0 : Heap} {p0 p1 p2 p3 px py : Int32} {vn : Nat} (X0 : Stand p l e room_1 s m args below meth c T0 locs 0 0) (hx : p.tables.exec = Jvm.exec) (hZ : Z.Warmed39 s.vm) (hby : c.code = code) (e0 : T0.heap = h0) (hkn : ((p0 &&& (7 : Int32)) = (2 : Int32) ∧ vn = 1) ∨ ((p0 &&& (7 : Int32)) = (3 : Int32) ∧ vn = 2) ∨ ((p0 &&& (7 : Int32)) = (4 : Int32) ∧ vn = 3) ∨ ((p0 &&& (7 : Int32)) = (5 : Int32) ∧ vn = 15) ∨ ((p0 &&& (7 : Int32)) = (6 : Int32) ∧ vn = 16) ∨ ((p0 &&& (7 : Int32)) = (7 : Int32) ∧ vn = 17)) :
    ∀ target, Steps p.tables e below (T0.setTop (mkF m 119 #[.val (.int p0), .val (.int p1), .val (.int p2), .val (.int p3), .val (.int (p0 &&& (7 : Int32))), .val (.int px), .val (.int py), .val (.int (Int32.ofNat vn)), .unset, .unset, .unset] [])) target → Steps p.tables e below (T0.setTop (mkF m 22 #[.val (.int p0), .val (.int p1), .val (.int p2), .val (.int p3), .val (.int (p0 &&& (7 : Int32))), .val (.int px), .val (.int py), .unset, .unset, .unset, .unset] [])) target := by
  rcases hkn with ⟨hk, rfl⟩ | ⟨hk, rfl⟩ | ⟨hk, rfl⟩ | ⟨hk, rfl⟩ | ⟨hk, rfl⟩ | ⟨hk, rfl⟩
  · exact lwN2 X0 hx hZ hby e0 hk
  · exact lwN3 X0 hx hZ hby e0 hk
  · exact lwN4 X0 hx hZ hby e0 hk
  · exact lwN5 X0 hx hZ hby e0 hk
  · exact lwN6 X0 hx hZ hby e0 hk
  · exact lwN7 X0 hx hZ hby e0 hk
theorem pd_11 : parseMethodDescriptor "(IICC)Ljava/lang/String;" = some ⟨[.int, .int, .char, .char], some (.object "java/lang/String")⟩ := by decide +kernel
theorem pd_12 : parseMethodDescriptor "(C)Z" = some ⟨[.char], some .boolean⟩ := by decide +kernel
theorem pd_13 : parseMethodDescriptor "(Ljava/lang/String;)Z" = some ⟨[(.object "java/lang/String")], some .boolean⟩ := by decide +kernel
theorem ef_0 (m : MethodId) (x0 : Int32) (x1 : Int32) (x2 : Int32) (x3 : Int32) : entryFrame m #[(.int x0), (.int x1), (.int x2), (.int x3)] maxLocals = mkF m 0 #[.val (.int x0), .val (.int x1), .val (.int x2), .val (.int x3), .unset, .unset, .unset, .unset, .unset, .unset, .unset] [] := by first | (simp [entryFrame, mkF, argsToLocals, Value.category, maxLocals]; done) | rfl
theorem pn_0 : plainName "com/example/dispensd/dispensd/IdentifierIsValidPinLaw" = true := by first | (simp [plainName, overriddenIn]; done) | decide +kernel
set_option maxRecDepth 65536 in
set_option maxHeartbeats 40000000 in
theorem rm0A (l : Launch) (Z : State) (a0 : Array Value) (hw : ∀ d ∈ tables_1, d.before a0 Z = true) (ws : List Jvm.Cond) (p0 : Int32) (p1 : Int32) (p2 : Int32) (p3 : Int32) (zc : Int32) (px py ps : Int32) (vn : Nat) (fm : Value) (h0 : Heap) (n0 : Nat) (O0 : Old Z n0 h0) (S_COMPACT_STRINGS : Sta Z Z.heap "java/lang/String" "COMPACT_STRINGS" "Z" (.int zc)) (hzc : ¬ zc = 0) (S_FM : Sta Z Z.heap "jdk/internal/util/Preconditions" "SIOOBE_FORMATTER" "Ljava/util/function/BiFunction;" fm) (hfm : fm.isRef = true) (hpx : ((p2 &&& (255 : Int32)).toUInt32.toUInt16.toUInt32.toInt32) = px) (hpy : ((p3 &&& (255 : Int32)).toUInt32.toUInt16.toUInt32.toInt32) = py) (hkn : ((p0 &&& (7 : Int32)) = (2 : Int32) ∧ vn = 1) ∨ ((p0 &&& (7 : Int32)) = (3 : Int32) ∧ vn = 2) ∨ ((p0 &&& (7 : Int32)) = (4 : Int32) ∧ vn = 3) ∨ ((p0 &&& (7 : Int32)) = (5 : Int32) ∧ vn = 15) ∨ ((p0 &&& (7 : Int32)) = (6 : Int32) ∧ vn = 16) ∨ ((p0 &&& (7 : Int32)) = (7 : Int32) ∧ vn = 17)) (hv0 : ¬ ((Int32.ofNat vn) = (0 : Int32))) (hps : ((p1 &&& (2147483647 : Int32)) % (Int32.ofNat vn)) = ps) (hvn : vn = 1 ∨ vn = 2 ∨ vn = 3 ∨ vn = 15 ∨ vn = 16 ∨ vn = 17) (hpc : ∀ c ∈ (own_cs vn ps px py), ¬ c < 0 ∧ ¬ (255 : Int32) < c) (hv1 : ¬ ((Int32.ofNat vn) < (1 : Int32))) (hvl : (own_cs vn ps px py).length ≤ 4000) (hv16 : ¬ ((16 : Int32) < (Int32.ofNat vn))) (hqb : ¬ ((16 : Int32) < (Int32.ofNat (own_cs vn ps px py).length))) (hqa : (0 : Int32) < (Int32.ofNat (own_cs vn ps px py).length)) (hheldI : Jvm.Lit.constHeld Z "com/example/dispensd/dispensd/Identifier" 34) (hcw : Jvm.Lit.compactW.before a0 Z = true) (hokx : ¬ ((own_ok px) = (0 : Int32))) (hvo : (Int32.ofNat vn) = (1 : Int32)) (hall : ∀ c ∈ (own_cs vn ps px py), ¬ (own_find own_A (c.toInt8.toInt32) 0) < 0) :
    MetFree l x (head1 (Jvm.Cond.code x code maxLocals ret :: ws) room_1) (fun a U => a = #[(.int p0), (.int p1), (.int p2), (.int p3)] ∧ Z.Warmed39 U.vm ∧ U.heap = h0 ∧ U.vm.interned = Z.vm.interned) (fun _ _ _ _ _ => True) (fun _ U o U' => ∃ v L, o = .returned v ∧ own_R n0 v U'.heap L ∧ ReturnedEndW U o U' L room_1.cells room_1.slots) := by
  refine MetFree.of_bodySF (plainFor_of_name pn_0) hisR ?_
  intro p e s m args below meth c s₁ Bd hml0 hP hK
  obtain ⟨rfl, hZ, hh, hint⟩ := hP
  have hx := Bd.exec
  have hby := Bd.bytes
  have hml : c.maxLocals = 11 := hml0
  have hown : s.vm.findClass "com/example/dispensd/dispensd/IdentifierIsValidPinLaw" = some m.cls := findClass_of_methodNamed Bd.named
  have hnm := (name_of_methodNamed Bd.named Bd.method).1
  have X0 : Stand p l e room_1 s m #[(.int p0), (.int p1), (.int p2), (.int p3)] below meth c s₁ [] 0 0 := Stand.of_body Bd
  have e0 : s₁.heap = h0 := by rw [← hh, Bd.state]; rfl
  have N0 := Fr.nil n0
  have pre0 : ∀ t, Steps p.tables e below (s₁.setTop (mkF m 0 #[.val (.int p0), .val (.int p1), .val (.int p2), .val (.int p3), .unset, .unset, .unset, .unset, .unset, .unset, .unset] [])) t → Steps p.tables e below (s₁.setTop (entryFrame m #[(.int p0), (.int p1), (.int p2), (.int p3)] maxLocals)) t := fun t k => castTop (ef_0 m p0 p1 p2 p3) k
  obtain ⟨_, _, ⟨T1, L1, k1, n1⟩, -, X1, ⟨Lc1, hQ1, l1, y1, z1⟩, st1⟩ := Jvm.LawKit.callS X0 hx (y := (⟨"com/example/dispensd/dispensd/IdentifierIsValidPinLaw", "make", "(IICC)Ljava/lang/String;"⟩ : MethodName)) hown (mvT hZ (own_w hw 5 rfl)) (mvT hZ (own_w hw 6 rfl)) (mvT hZ (own_w hw 7 rfl)) (mvT hZ (own_w hw 8 rfl)) (by decide) (backOf (W := 0) (rmM l Z a0 hw [] vn ps px py zc  h0 n0 O0 hvn S_COMPACT_STRINGS hzc hpc) hZ (own_w hw 8 rfl) (own_w hw 7 rfl) (by decide) (by decide)) (g := (mkF m 145 #[.val (.int p0), .val (.int p1), .val (.int p2), .val (.int p3), .val (.int (p0 &&& (7 : Int32))), .val (.int px), .val (.int py), .val (.int (Int32.ofNat vn)), .val (.int ps), .unset, .unset] [(.int py), (.int px), (.int ps), (.int (Int32.ofNat vn))])) rfl (by rw [hml]; rfl) (argsL := [(.int (Int32.ofNat vn)), (.int ps), (.int px), (.int py)]) (rest := []) (lenOf pd_11 rfl) rfl (by show 2 * 0 + _ ≤ _; exact Nat.le_of_eq rfl) (hb hby at_145) (fun _ _ => ⟨rfl, e0, (by decide : 0 + 3 ≤ _), (by decide : 0 + 38 ≤ _)⟩)
  dsimp only [Pt.U, Pt.locs, Pt.cells, Pt.slots] at X1 l1 y1 z1 st1 hQ1
  subst l1 y1 z1
  obtain ⟨x1, t1, kt1, rfl, N1q, K1, Ex1, Fv1, Fc1, Vt1⟩ := hQ1
  have N1 := Fr.app N0 N1q
  have O1 := O0.keep K1 all0
  obtain ⟨_, _, ⟨T2, L2, k2, n2⟩, -, X2, ⟨Lc2, hQ2, l2, y2, z2⟩, st2⟩ := Jvm.LawKit.callS X1 hx (y := (⟨"com/example/dispensd/dispensd/IdentifierIsValidPinLaw", "ok", "(C)Z"⟩ : MethodName)) hown (mvT hZ (own_w hw 42 rfl)) (mvT hZ (own_w hw 43 rfl)) (mvT hZ (own_w hw 7 rfl)) (mvT hZ (own_w hw 44 rfl)) (by decide) (backOf (W := 0) (rmOk l Z a0 hw [] px  T1.heap n0 O1 ) hZ (own_w hw 44 rfl) (own_w hw 7 rfl) (by decide) (by decide)) (g := (mkF m 165 #[.val (.int p0), .val (.int p1), .val (.int p2), .val (.int p3), .val (.int (p0 &&& (7 : Int32))), .val (.int px), .val (.int py), .val (.int (Int32.ofNat vn)), .val (.int ps), .val (.ref x1), .unset] [(.int px)])) rfl (by rw [hml]; rfl) (argsL := [(.int px)]) (rest := []) (lenOf pd_12 rfl) rfl (by show 2 * 0 + _ ≤ _; exact Nat.le_of_eq rfl) (hb hby at_165) (fun _ _ => ⟨rfl, rfl, (by decide : 3 + 0 ≤ _), (by decide : 38 + 0 ≤ _)⟩)
  dsimp only [Pt.U, Pt.locs, Pt.cells, Pt.slots] at X2 l2 y2 z2 st2 hQ2
  subst l2 y2 z2
  obtain ⟨rfl, N2q, e2⟩ := hQ2
  have N2 := Fr.app N1 N2q
  obtain ⟨_, _, ⟨T3, L3, k3, n3⟩, -, X3, Sn3, sz3, ⟨Lc3, hQ3, l3, y3, z3⟩, st3⟩ := callSS X2 hx (y := (⟨"com/example/dispensd/dispensd/Identifier", "isValid", "(Ljava/lang/String;)Z"⟩ : MethodName)) hown (mvT hZ (own_w hw 0 rfl)) (mvT hZ (own_w hw 1 rfl)) (mvT hZ (own_w hw 2 rfl)) (mvT hZ (own_w hw 3 rfl)) (by decide) (own_backI (W := 0) (rmVA l Z a0 hw [] x1 (own_cs vn ps px py) t1 kt1 zc fm T1.heap n0 O1 Ex1 Fv1 Fc1 Vt1 S_COMPACT_STRINGS hzc S_FM hfm hpc hvl hqb hqa hheldI hcw hall) hZ (own_w hw 3 rfl) (own_w hw 2 rfl) (by decide) (by decide)) (g := (mkF m 194 #[.val (.int p0), .val (.int p1), .val (.int p2), .val (.int p3), .val (.int (p0 &&& (7 : Int32))), .val (.int px), .val (.int py), .val (.int (Int32.ofNat vn)), .val (.int ps), .val (.ref x1), .val (.int 1)] [(.ref x1)])) rfl (by rw [hml]; rfl) (argsL := [(.ref x1)]) (rest := []) (lenOf pd_13 rfl) rfl (by show 2 * 0 + _ ≤ _; exact Nat.le_of_eq rfl) (hb hby at_194) (fun vm1 hvm1 => ⟨rfl, e2, (by decide : 3 + 2 ≤ _), (by decide : 38 + 260 ≤ _), (own_int hvm1).trans hint⟩)
  have hZ3 : Z.Warmed39 (s.setVm T3.vm).vm := State.Warmed39.trans hZ Sn3.1
  have hown3 : (s.setVm T3.vm).vm.findClass "com/example/dispensd/dispensd/IdentifierIsValidPinLaw" = some m.cls := by rw [show (s.setVm T3.vm).vm = T3.vm from rfl, Sn3.1.alike.findClass]; exact hown
  dsimp only [Pt.U, Pt.locs, Pt.cells, Pt.slots] at X3 l3 y3 z3 st3 hQ3
  subst l3 y3 z3
  obtain ⟨rfl, N3q, O3⟩ := hQ3
  have N3 := Fr.app N2 N3q
  obtain ⟨fs, hr, hrun, hended, hRW⟩ := X3.leaveW Sn3 (Nat.le_refl _) (v := some (.int 1)) (fun h => by rw [Bd.returns] at h; cases h)
  refine ⟨_, _, pre0 _ ?_, hrun, hended, _, _, rfl, ?_, hRW.1, hRW.2.1, hRW.2.2.1, hRW.2.2.2.mono (by decide) (by decide)⟩
  · show oS p e below s₁ m 0 #[.val (.int p0), .val (.int p1), .val (.int p2), .val (.int p3), .unset, .unset, .unset, .unset, .unset, .unset, .unset] [] _
    refine XS.iloadN X0.here hx rfl (hb hby at_0) rfl ?_
    show oS p e below s₁ m 1 #[.val (.int p0), .val (.int p1), .val (.int p2), .val (.int p3), .unset, .unset, .unset, .unset, .unset, .unset, .unset] [(.int p0)] _
    refine XS.bipush X0.here hx rfl (hb hby at_1) ?_
    show oS p e below s₁ m 3 #[.val (.int p0), .val (.int p1), .val (.int p2), .val (.int p3), .unset, .unset, .unset, .unset, .unset, .unset, .unset] [(.int 7), (.int p0)] _
    refine XS.iand X0.here hx rfl (hb hby at_3) rfl ?_
    show oS p e below s₁ m 4 #[.val (.int p0), .val (.int p1), .val (.int p2), .val (.int p3), .unset, .unset, .unset, .unset, .unset, .unset, .unset] [(.int (p0 &&& (7 : Int32)))] _
    refine XS.istore X0.here hx rfl (hb hby at_4) rfl (l' := #[.val (.int p0), .val (.int p1), .val (.int p2), .val (.int p3), .val (.int (p0 &&& (7 : Int32))), .unset, .unset, .unset, .unset, .unset, .unset]) rfl ?_
    show oS p e below s₁ m 6 #[.val (.int p0), .val (.int p1), .val (.int p2), .val (.int p3), .val (.int (p0 &&& (7 : Int32))), .unset, .unset, .unset, .unset, .unset, .unset] [] _
    refine XS.iloadN X0.here hx rfl (hb hby at_6) rfl ?_
    show oS p e below s₁ m 7 #[.val (.int p0), .val (.int p1), .val (.int p2), .val (.int p3), .val (.int (p0 &&& (7 : Int32))), .unset, .unset, .unset, .unset, .unset, .unset] [(.int p2)] _
    refine XS.sipush X0.here hx rfl (hb hby at_7) ?_
    show oS p e below s₁ m 10 #[.val (.int p0), .val (.int p1), .val (.int p2), .val (.int p3), .val (.int (p0 &&& (7 : Int32))), .unset, .unset, .unset, .unset, .unset, .unset] [(.int 255), (.int p2)] _
    refine XS.iand X0.here hx rfl (hb hby at_10) rfl ?_
    show oS p e below s₁ m 11 #[.val (.int p0), .val (.int p1), .val (.int p2), .val (.int p3), .val (.int (p0 &&& (7 : Int32))), .unset, .unset, .unset, .unset, .unset, .unset] [(.int (p2 &&& (255 : Int32)))] _
    refine XS.i2c X0.here hx rfl (hb hby at_11) rfl ?_
    show oS p e below s₁ m 12 #[.val (.int p0), .val (.int p1), .val (.int p2), .val (.int p3), .val (.int (p0 &&& (7 : Int32))), .unset, .unset, .unset, .unset, .unset, .unset] [(.int ((p2 &&& (255 : Int32)).toUInt32.toUInt16.toUInt32.toInt32))] _
    rw [hpx]
    show oS p e below s₁ m 12 #[.val (.int p0), .val (.int p1), .val (.int p2), .val (.int p3), .val (.int (p0 &&& (7 : Int32))), .unset, .unset, .unset, .unset, .unset, .unset] [(.int px)] _
    refine XS.istore X0.here hx rfl (hb hby at_12) rfl (l' := #[.val (.int p0), .val (.int p1), .val (.int p2), .val (.int p3), .val (.int (p0 &&& (7 : Int32))), .val (.int px), .unset, .unset, .unset, .unset, .unset]) rfl ?_
    show oS p e below s₁ m 14 #[.val (.int p0), .val (.int p1), .val (.int p2), .val (.int p3), .val (.int (p0 &&& (7 : Int32))), .val (.int px), .unset, .unset, .unset, .unset, .unset] [] _
    refine XS.iloadN X0.here hx rfl (hb hby at_14) rfl ?_
    show oS p e below s₁ m 15 #[.val (.int p0), .val (.int p1), .val (.int p2), .val (.int p3), .val (.int (p0 &&& (7 : Int32))), .val (.int px), .unset, .unset, .unset, .unset, .unset] [(.int p3)] _
    refine XS.sipush X0.here hx rfl (hb hby at_15) ?_
    show oS p e below s₁ m 18 #[.val (.int p0), .val (.int p1), .val (.int p2), .val (.int p3), .val (.int (p0 &&& (7 : Int32))), .val (.int px), .unset, .unset, .unset, .unset, .unset] [(.int 255), (.int p3)] _
    refine XS.iand X0.here hx rfl (hb hby at_18) rfl ?_
    show oS p e below s₁ m 19 #[.val (.int p0), .val (.int p1), .val (.int p2), .val (.int p3), .val (.int (p0 &&& (7 : Int32))), .val (.int px), .unset, .unset, .unset, .unset, .unset] [(.int (p3 &&& (255 : Int32)))] _
    refine XS.i2c X0.here hx rfl (hb hby at_19) rfl ?_
    show oS p e below s₁ m 20 #[.val (.int p0), .val (.int p1), .val (.int p2), .val (.int p3), .val (.int (p0 &&& (7 : Int32))), .val (.int px), .unset, .unset, .unset, .unset, .unset] [(.int ((p3 &&& (255 : Int32)).toUInt32.toUInt16.toUInt32.toInt32))] _
    rw [hpy]
    show oS p e below s₁ m 20 #[.val (.int p0), .val (.int p1), .val (.int p2), .val (.int p3), .val (.int (p0 &&& (7 : Int32))), .val (.int px), .unset, .unset, .unset, .unset, .unset] [(.int py)] _
    refine XS.istore X0.here hx rfl (hb hby at_20) rfl (l' := #[.val (.int p0), .val (.int p1), .val (.int p2), .val (.int p3), .val (.int (p0 &&& (7 : Int32))), .val (.int px), .val (.int py), .unset, .unset, .unset, .unset]) rfl ?_
    show oS p e below s₁ m 22 #[.val (.int p0), .val (.int p1), .val (.int p2), .val (.int p3), .val (.int (p0 &&& (7 : Int32))), .val (.int px), .val (.int py), .unset, .unset, .unset, .unset] [] _
    refine lwN X0 hx hZ hby e0 hkn _ ?_
    show oS p e below s₁ m 119 #[.val (.int p0), .val (.int p1), .val (.int p2), .val (.int p3), .val (.int (p0 &&& (7 : Int32))), .val (.int px), .val (.int py), .val (.int (Int32.ofNat vn)), .unset, .unset, .unset] [] _
    refine XS.iload X0.here hx rfl (hb hby at_119) rfl ?_
    show oS p e below s₁ m 121 #[.val (.int p0), .val (.int p1), .val (.int p2), .val (.int p3), .val (.int (p0 &&& (7 : Int32))), .val (.int px), .val (.int py), .val (.int (Int32.ofNat vn)), .unset, .unset, .unset] [(.int (Int32.ofNat vn))] _
    refine XS.ifYes X0.here hx rfl (pc0 := 121) (pc' := 128) rfl (hb hby at_121) rfl ((if0 _ _).trans (feq hv0).2) (by decide) (by decide) ?_
    show oS p e below s₁ m 128 #[.val (.int p0), .val (.int p1), .val (.int p2), .val (.int p3), .val (.int (p0 &&& (7 : Int32))), .val (.int px), .val (.int py), .val (.int (Int32.ofNat vn)), .unset, .unset, .unset] [] _
    refine XS.iloadN X0.here hx rfl (hb hby at_128) rfl ?_
    show oS p e below s₁ m 129 #[.val (.int p0), .val (.int p1), .val (.int p2), .val (.int p3), .val (.int (p0 &&& (7 : Int32))), .val (.int px), .val (.int py), .val (.int (Int32.ofNat vn)), .unset, .unset, .unset] [(.int p1)] _
    refine X0.ldcInt hx hown (mvT hZ (own_w hw 4 rfl)) (g := (mkF m 129 #[.val (.int p0), .val (.int p1), .val (.int p2), .val (.int p3), .val (.int (p0 &&& (7 : Int32))), .val (.int px), .val (.int py), .val (.int (Int32.ofNat vn)), .unset, .unset, .unset] [(.int p1)])) rfl (hb hby at_129) _ ?_
    show oS p e below s₁ m 131 #[.val (.int p0), .val (.int p1), .val (.int p2), .val (.int p3), .val (.int (p0 &&& (7 : Int32))), .val (.int px), .val (.int py), .val (.int (Int32.ofNat vn)), .unset, .unset, .unset] [(.int 2147483647), (.int p1)] _
    refine XS.iand X0.here hx rfl (hb hby at_131) rfl ?_
    show oS p e below s₁ m 132 #[.val (.int p0), .val (.int p1), .val (.int p2), .val (.int p3), .val (.int (p0 &&& (7 : Int32))), .val (.int px), .val (.int py), .val (.int (Int32.ofNat vn)), .unset, .unset, .unset] [(.int (p1 &&& (2147483647 : Int32)))] _
    refine XS.iload X0.here hx rfl (hb hby at_132) rfl ?_
    show oS p e below s₁ m 134 #[.val (.int p0), .val (.int p1), .val (.int p2), .val (.int p3), .val (.int (p0 &&& (7 : Int32))), .val (.int px), .val (.int py), .val (.int (Int32.ofNat vn)), .unset, .unset, .unset] [(.int (Int32.ofNat vn)), (.int (p1 &&& (2147483647 : Int32)))] _
    refine iremM X0 hx rfl (hb hby at_134) rfl hv0 ?_
    show oS p e below s₁ m 135 #[.val (.int p0), .val (.int p1), .val (.int p2), .val (.int p3), .val (.int (p0 &&& (7 : Int32))), .val (.int px), .val (.int py), .val (.int (Int32.ofNat vn)), .unset, .unset, .unset] [(.int ((p1 &&& (2147483647 : Int32)) % (Int32.ofNat vn)))] _
    rw [hps]
    show oS p e below s₁ m 135 #[.val (.int p0), .val (.int p1), .val (.int p2), .val (.int p3), .val (.int (p0 &&& (7 : Int32))), .val (.int px), .val (.int py), .val (.int (Int32.ofNat vn)), .unset, .unset, .unset] [(.int ps)] _
    refine XS.istore X0.here hx rfl (hb hby at_135) rfl (l' := #[.val (.int p0), .val (.int p1), .val (.int p2), .val (.int p3), .val (.int (p0 &&& (7 : Int32))), .val (.int px), .val (.int py), .val (.int (Int32.ofNat vn)), .val (.int ps), .unset, .unset]) rfl ?_
    show oS p e below s₁ m 137 #[.val (.int p0), .val (.int p1), .val (.int p2), .val (.int p3), .val (.int (p0 &&& (7 : Int32))), .val (.int px), .val (.int py), .val (.int (Int32.ofNat vn)), .val (.int ps), .unset, .unset] [] _
    refine XS.iload X0.here hx rfl (hb hby at_137) rfl ?_
    show oS p e below s₁ m 139 #[.val (.int p0), .val (.int p1), .val (.int p2), .val (.int p3), .val (.int (p0 &&& (7 : Int32))), .val (.int px), .val (.int py), .val (.int (Int32.ofNat vn)), .val (.int ps), .unset, .unset] [(.int (Int32.ofNat vn))] _
    refine XS.iload X0.here hx rfl (hb hby at_139) rfl ?_
    show oS p e below s₁ m 141 #[.val (.int p0), .val (.int p1), .val (.int p2), .val (.int p3), .val (.int (p0 &&& (7 : Int32))), .val (.int px), .val (.int py), .val (.int (Int32.ofNat vn)), .val (.int ps), .unset, .unset] [(.int ps), (.int (Int32.ofNat vn))] _
    refine XS.iload X0.here hx rfl (hb hby at_141) rfl ?_
    show oS p e below s₁ m 143 #[.val (.int p0), .val (.int p1), .val (.int p2), .val (.int p3), .val (.int (p0 &&& (7 : Int32))), .val (.int px), .val (.int py), .val (.int (Int32.ofNat vn)), .val (.int ps), .unset, .unset] [(.int px), (.int ps), (.int (Int32.ofNat vn))] _
    refine XS.iload X0.here hx rfl (hb hby at_143) rfl ?_
    show oS p e below s₁ m 145 #[.val (.int p0), .val (.int p1), .val (.int p2), .val (.int p3), .val (.int (p0 &&& (7 : Int32))), .val (.int px), .val (.int py), .val (.int (Int32.ofNat vn)), .val (.int ps), .unset, .unset] [(.int py), (.int px), (.int ps), (.int (Int32.ofNat vn))] _
    refine st1 _ ?_
    show oS p e below T1 m 148 #[.val (.int p0), .val (.int p1), .val (.int p2), .val (.int p3), .val (.int (p0 &&& (7 : Int32))), .val (.int px), .val (.int py), .val (.int (Int32.ofNat vn)), .val (.int ps), .unset, .unset] [(.ref x1)] _
    refine XS.astore X1.here hx rfl (hb hby at_148) rfl rfl (l' := #[.val (.int p0), .val (.int p1), .val (.int p2), .val (.int p3), .val (.int (p0 &&& (7 : Int32))), .val (.int px), .val (.int py), .val (.int (Int32.ofNat vn)), .val (.int ps), .val (.ref x1), .unset]) rfl ?_
    show oS p e below T1 m 150 #[.val (.int p0), .val (.int p1), .val (.int p2), .val (.int p3), .val (.int (p0 &&& (7 : Int32))), .val (.int px), .val (.int py), .val (.int (Int32.ofNat vn)), .val (.int ps), .val (.ref x1), .unset] [] _
    refine XS.iload X1.here hx rfl (hb hby at_150) rfl ?_
    show oS p e below T1 m 152 #[.val (.int p0), .val (.int p1), .val (.int p2), .val (.int p3), .val (.int (p0 &&& (7 : Int32))), .val (.int px), .val (.int py), .val (.int (Int32.ofNat vn)), .val (.int ps), .val (.ref x1), .unset] [(.int (Int32.ofNat vn))] _
    refine XS.iconst X1.here hx rfl (hb hby at_152) ?_
    show oS p e below T1 m 153 #[.val (.int p0), .val (.int p1), .val (.int p2), .val (.int p3), .val (.int (p0 &&& (7 : Int32))), .val (.int px), .val (.int py), .val (.int (Int32.ofNat vn)), .val (.int ps), .val (.ref x1), .unset] [(.int 1), (.int (Int32.ofNat vn))] _
    refine XS.icmpNo X1.here hx rfl (hb hby at_153) rfl (flt hv1).1 ?_
    show oS p e below T1 m 156 #[.val (.int p0), .val (.int p1), .val (.int p2), .val (.int p3), .val (.int (p0 &&& (7 : Int32))), .val (.int px), .val (.int py), .val (.int (Int32.ofNat vn)), .val (.int ps), .val (.ref x1), .unset] [] _
    refine XS.iload X1.here hx rfl (hb hby at_156) rfl ?_
    show oS p e below T1 m 158 #[.val (.int p0), .val (.int p1), .val (.int p2), .val (.int p3), .val (.int (p0 &&& (7 : Int32))), .val (.int px), .val (.int py), .val (.int (Int32.ofNat vn)), .val (.int ps), .val (.ref x1), .unset] [(.int (Int32.ofNat vn))] _
    refine XS.bipush X1.here hx rfl (hb hby at_158) ?_
    show oS p e below T1 m 160 #[.val (.int p0), .val (.int p1), .val (.int p2), .val (.int p3), .val (.int (p0 &&& (7 : Int32))), .val (.int px), .val (.int py), .val (.int (Int32.ofNat vn)), .val (.int ps), .val (.ref x1), .unset] [(.int 16), (.int (Int32.ofNat vn))] _
    refine XS.icmpNo X1.here hx rfl (hb hby at_160) rfl (flt hv16).2.2.1 ?_
    show oS p e below T1 m 163 #[.val (.int p0), .val (.int p1), .val (.int p2), .val (.int p3), .val (.int (p0 &&& (7 : Int32))), .val (.int px), .val (.int py), .val (.int (Int32.ofNat vn)), .val (.int ps), .val (.ref x1), .unset] [] _
    refine XS.iload X1.here hx rfl (hb hby at_163) rfl ?_
    show oS p e below T1 m 165 #[.val (.int p0), .val (.int p1), .val (.int p2), .val (.int p3), .val (.int (p0 &&& (7 : Int32))), .val (.int px), .val (.int py), .val (.int (Int32.ofNat vn)), .val (.int ps), .val (.ref x1), .unset] [(.int px)] _
    refine st2 _ ?_
    show oS p e below T2 m 168 #[.val (.int p0), .val (.int p1), .val (.int p2), .val (.int p3), .val (.int (p0 &&& (7 : Int32))), .val (.int px), .val (.int py), .val (.int (Int32.ofNat vn)), .val (.int ps), .val (.ref x1), .unset] [(.int (own_ok px))] _
    refine XS.ifNo X2.here hx rfl (hb hby at_168) rfl ((if0 _ _).trans (feq hokx).1) ?_
    show oS p e below T2 m 171 #[.val (.int p0), .val (.int p1), .val (.int p2), .val (.int p3), .val (.int (p0 &&& (7 : Int32))), .val (.int px), .val (.int py), .val (.int (Int32.ofNat vn)), .val (.int ps), .val (.ref x1), .unset] [] _
    refine XS.iload X2.here hx rfl (hb hby at_171) rfl ?_
    show oS p e below T2 m 173 #[.val (.int p0), .val (.int p1), .val (.int p2), .val (.int p3), .val (.int (p0 &&& (7 : Int32))), .val (.int px), .val (.int py), .val (.int (Int32.ofNat vn)), .val (.int ps), .val (.ref x1), .unset] [(.int (Int32.ofNat vn))] _
    refine XS.iconst X2.here hx rfl (hb hby at_173) ?_
    show oS p e below T2 m 174 #[.val (.int p0), .val (.int p1), .val (.int p2), .val (.int p3), .val (.int (p0 &&& (7 : Int32))), .val (.int px), .val (.int py), .val (.int (Int32.ofNat vn)), .val (.int ps), .val (.ref x1), .unset] [(.int 1), (.int (Int32.ofNat vn))] _
    refine XS.icmpYes X2.here hx rfl (pc0 := 174) (pc' := 185) rfl (hb hby at_174) rfl (teq hvo).1 (by decide) (by decide) ?_
    show oS p e below T2 m 185 #[.val (.int p0), .val (.int p1), .val (.int p2), .val (.int p3), .val (.int (p0 &&& (7 : Int32))), .val (.int px), .val (.int py), .val (.int (Int32.ofNat vn)), .val (.int ps), .val (.ref x1), .unset] [] _
    refine XS.iconst X2.here hx rfl (hb hby at_185) ?_
    show oS p e below T2 m 186 #[.val (.int p0), .val (.int p1), .val (.int p2), .val (.int p3), .val (.int (p0 &&& (7 : Int32))), .val (.int px), .val (.int py), .val (.int (Int32.ofNat vn)), .val (.int ps), .val (.ref x1), .unset] [(.int 1)] _
    refine XS.goto X2.here hx rfl (pc0 := 186) (pc' := 190) rfl (hb hby at_186) (by decide) (by decide) ?_
    show oS p e below T2 m 190 #[.val (.int p0), .val (.int p1), .val (.int p2), .val (.int p3), .val (.int (p0 &&& (7 : Int32))), .val (.int px), .val (.int py), .val (.int (Int32.ofNat vn)), .val (.int ps), .val (.ref x1), .unset] [(.int 1)] _
    refine XS.istore X2.here hx rfl (hb hby at_190) rfl (l' := #[.val (.int p0), .val (.int p1), .val (.int p2), .val (.int p3), .val (.int (p0 &&& (7 : Int32))), .val (.int px), .val (.int py), .val (.int (Int32.ofNat vn)), .val (.int ps), .val (.ref x1), .val (.int 1)]) rfl ?_
    show oS p e below T2 m 192 #[.val (.int p0), .val (.int p1), .val (.int p2), .val (.int p3), .val (.int (p0 &&& (7 : Int32))), .val (.int px), .val (.int py), .val (.int (Int32.ofNat vn)), .val (.int ps), .val (.ref x1), .val (.int 1)] [] _
    refine XS.aload X2.here hx rfl (hb hby at_192) rfl rfl ?_
    show oS p e below T2 m 194 #[.val (.int p0), .val (.int p1), .val (.int p2), .val (.int p3), .val (.int (p0 &&& (7 : Int32))), .val (.int px), .val (.int py), .val (.int (Int32.ofNat vn)), .val (.int ps), .val (.ref x1), .val (.int 1)] [(.ref x1)] _
    refine st3.trans ?_
    show oS p e below T3 m 197 #[.val (.int p0), .val (.int p1), .val (.int p2), .val (.int p3), .val (.int (p0 &&& (7 : Int32))), .val (.int px), .val (.int py), .val (.int (Int32.ofNat vn)), .val (.int ps), .val (.ref x1), .val (.int 1)] [(.int 1)] _
    refine XS.iload X3.here hx rfl (hb hby at_197) rfl ?_
    show oS p e below T3 m 199 #[.val (.int p0), .val (.int p1), .val (.int p2), .val (.int p3), .val (.int (p0 &&& (7 : Int32))), .val (.int px), .val (.int py), .val (.int (Int32.ofNat vn)), .val (.int ps), .val (.ref x1), .val (.int 1)] [(.int 1), (.int 1)] _
    refine XS.icmpNo X3.here hx rfl (hb hby at_199) rfl (teq (by decide : (1 : Int32) = (1 : Int32))).2 ?_
    show oS p e below T3 m 202 #[.val (.int p0), .val (.int p1), .val (.int p2), .val (.int p3), .val (.int (p0 &&& (7 : Int32))), .val (.int px), .val (.int py), .val (.int (Int32.ofNat vn)), .val (.int ps), .val (.ref x1), .val (.int 1)] [] _
    refine XS.iconst X3.here hx rfl (hb hby at_202) ?_
    show oS p e below T3 m 203 #[.val (.int p0), .val (.int p1), .val (.int p2), .val (.int p3), .val (.int (p0 &&& (7 : Int32))), .val (.int px), .val (.int py), .val (.int (Int32.ofNat vn)), .val (.int ps), .val (.ref x1), .val (.int 1)] [(.int 1)] _
    refine XS.goto X3.here hx rfl (pc0 := 203) (pc' := 207) rfl (hb hby at_203) (by decide) (by decide) ?_
    show oS p e below T3 m 207 #[.val (.int p0), .val (.int p1), .val (.int p2), .val (.int p3), .val (.int (p0 &&& (7 : Int32))), .val (.int px), .val (.int py), .val (.int (Int32.ofNat vn)), .val (.int ps), .val (.ref x1), .val (.int 1)] [(.int 1)] _
    exact retN X3 hx (t := .boolean) Bd.returns (by simp) (hb hby at_207) hr
  · show own_R n0 _ T3.heap _
    exact ⟨rfl, N3⟩
set_option maxRecDepth 65536 in
set_option maxHeartbeats 40000000 in
theorem rm0B (l : Launch) (Z : State) (a0 : Array Value) (hw : ∀ d ∈ tables_1, d.before a0 Z = true) (ws : List Jvm.Cond) (p0 : Int32) (p1 : Int32) (p2 : Int32) (p3 : Int32) (zc : Int32) (px py ps : Int32) (vn : Nat) (fm : Value) (h0 : Heap) (n0 : Nat) (O0 : Old Z n0 h0) (S_COMPACT_STRINGS : Sta Z Z.heap "java/lang/String" "COMPACT_STRINGS" "Z" (.int zc)) (hzc : ¬ zc = 0) (S_FM : Sta Z Z.heap "jdk/internal/util/Preconditions" "SIOOBE_FORMATTER" "Ljava/util/function/BiFunction;" fm) (hfm : fm.isRef = true) (hpx : ((p2 &&& (255 : Int32)).toUInt32.toUInt16.toUInt32.toInt32) = px) (hpy : ((p3 &&& (255 : Int32)).toUInt32.toUInt16.toUInt32.toInt32) = py) (hkn : ((p0 &&& (7 : Int32)) = (2 : Int32) ∧ vn = 1) ∨ ((p0 &&& (7 : Int32)) = (3 : Int32) ∧ vn = 2) ∨ ((p0 &&& (7 : Int32)) = (4 : Int32) ∧ vn = 3) ∨ ((p0 &&& (7 : Int32)) = (5 : Int32) ∧ vn = 15) ∨ ((p0 &&& (7 : Int32)) = (6 : Int32) ∧ vn = 16) ∨ ((p0 &&& (7 : Int32)) = (7 : Int32) ∧ vn = 17)) (hv0 : ¬ ((Int32.ofNat vn) = (0 : Int32))) (hps : ((p1 &&& (2147483647 : Int32)) % (Int32.ofNat vn)) = ps) (hvn : vn = 1 ∨ vn = 2 ∨ vn = 3 ∨ vn = 15 ∨ vn = 16 ∨ vn = 17) (hpc : ∀ c ∈ (own_cs vn ps px py), ¬ c < 0 ∧ ¬ (255 : Int32) < c) (hv1 : ¬ ((Int32.ofNat vn) < (1 : Int32))) (hvl : (own_cs vn ps px py).length ≤ 4000) (hv16 : ¬ ((16 : Int32) < (Int32.ofNat vn))) (hqb : ¬ ((16 : Int32) < (Int32.ofNat (own_cs vn ps px py).length))) (hqa : (0 : Int32) < (Int32.ofNat (own_cs vn ps px py).length)) (hheldI : Jvm.Lit.constHeld Z "com/example/dispensd/dispensd/Identifier" 34) (hcw : Jvm.Lit.compactW.before a0 Z = true) (hokx : ¬ ((own_ok px) = (0 : Int32))) (hvo : ¬ ((Int32.ofNat vn) = (1 : Int32))) (hoky : ¬ ((own_ok py) = (0 : Int32))) (hall : ∀ c ∈ (own_cs vn ps px py), ¬ (own_find own_A (c.toInt8.toInt32) 0) < 0) :
    MetFree l x (head1 (Jvm.Cond.code x code maxLocals ret :: ws) room_1) (fun a U => a = #[(.int p0), (.int p1), (.int p2), (.int p3)] ∧ Z.Warmed39 U.vm ∧ U.heap = h0 ∧ U.vm.interned = Z.vm.interned) (fun _ _ _ _ _ => True) (fun _ U o U' => ∃ v L, o = .returned v ∧ own_R n0 v U'.heap L ∧ ReturnedEndW U o U' L room_1.cells room_1.slots) := by
  refine MetFree.of_bodySF (plainFor_of_name pn_0) hisR ?_
  intro p e s m args below meth c s₁ Bd hml0 hP hK
  obtain ⟨rfl, hZ, hh, hint⟩ := hP
  have hx := Bd.exec
  have hby := Bd.bytes
  have hml : c.maxLocals = 11 := hml0
  have hown : s.vm.findClass "com/example/dispensd/dispensd/IdentifierIsValidPinLaw" = some m.cls := findClass_of_methodNamed Bd.named
  have hnm := (name_of_methodNamed Bd.named Bd.method).1
  have X0 : Stand p l e room_1 s m #[(.int p0), (.int p1), (.int p2), (.int p3)] below meth c s₁ [] 0 0 := Stand.of_body Bd
  have e0 : s₁.heap = h0 := by rw [← hh, Bd.state]; rfl
  have N0 := Fr.nil n0
  have pre0 : ∀ t, Steps p.tables e below (s₁.setTop (mkF m 0 #[.val (.int p0), .val (.int p1), .val (.int p2), .val (.int p3), .unset, .unset, .unset, .unset, .unset, .unset, .unset] [])) t → Steps p.tables e below (s₁.setTop (entryFrame m #[(.int p0), (.int p1), (.int p2), (.int p3)] maxLocals)) t := fun t k => castTop (ef_0 m p0 p1 p2 p3) k
  obtain ⟨_, _, ⟨T1, L1, k1, n1⟩, -, X1, ⟨Lc1, hQ1, l1, y1, z1⟩, st1⟩ := Jvm.LawKit.callS X0 hx (y := (⟨"com/example/dispensd/dispensd/IdentifierIsValidPinLaw", "make", "(IICC)Ljava/lang/String;"⟩ : MethodName)) hown (mvT hZ (own_w hw 5 rfl)) (mvT hZ (own_w hw 6 rfl)) (mvT hZ (own_w hw 7 rfl)) (mvT hZ (own_w hw 8 rfl)) (by decide) (backOf (W := 0) (rmM l Z a0 hw [] vn ps px py zc  h0 n0 O0 hvn S_COMPACT_STRINGS hzc hpc) hZ (own_w hw 8 rfl) (own_w hw 7 rfl) (by decide) (by decide)) (g := (mkF m 145 #[.val (.int p0), .val (.int p1), .val (.int p2), .val (.int p3), .val (.int (p0 &&& (7 : Int32))), .val (.int px), .val (.int py), .val (.int (Int32.ofNat vn)), .val (.int ps), .unset, .unset] [(.int py), (.int px), (.int ps), (.int (Int32.ofNat vn))])) rfl (by rw [hml]; rfl) (argsL := [(.int (Int32.ofNat vn)), (.int ps), (.int px), (.int py)]) (rest := []) (lenOf pd_11 rfl) rfl (by show 2 * 0 + _ ≤ _; exact Nat.le_of_eq rfl) (hb hby at_145) (fun _ _ => ⟨rfl, e0, (by decide : 0 + 3 ≤ _), (by decide : 0 + 38 ≤ _)⟩)
  dsimp only [Pt.U, Pt.locs, Pt.cells, Pt.slots] at X1 l1 y1 z1 st1 hQ1
  subst l1 y1 z1
  obtain ⟨x1, t1, kt1, rfl, N1q, K1, Ex1, Fv1, Fc1, Vt1⟩ := hQ1
  have N1 := Fr.app N0 N1q
  have O1 := O0.keep K1 all0
  obtain ⟨_, _, ⟨T2, L2, k2, n2⟩, -, X2, ⟨Lc2, hQ2, l2, y2, z2⟩, st2⟩ := Jvm.LawKit.callS X1 hx (y := (⟨"com/example/dispensd/dispensd/IdentifierIsValidPinLaw", "ok", "(C)Z"⟩ : MethodName)) hown (mvT hZ (own_w hw 42 rfl)) (mvT hZ (own_w hw 43 rfl)) (mvT hZ (own_w hw 7 rfl)) (mvT hZ (own_w hw 44 rfl)) (by decide) (backOf (W := 0) (rmOk l Z a0 hw [] px  T1.heap n0 O1 ) hZ (own_w hw 44 rfl) (own_w hw 7 rfl) (by decide) (by decide)) (g := (mkF m 165 #[.val (.int p0), .val (.int p1), .val (.int p2), .val (.int p3), .val (.int (p0 &&& (7 : Int32))), .val (.int px), .val (.int py), .val (.int (Int32.ofNat vn)), .val (.int ps), .val (.ref x1), .unset] [(.int px)])) rfl (by rw [hml]; rfl) (argsL := [(.int px)]) (rest := []) (lenOf pd_12 rfl) rfl (by show 2 * 0 + _ ≤ _; exact Nat.le_of_eq rfl) (hb hby at_165) (fun _ _ => ⟨rfl, rfl, (by decide : 3 + 0 ≤ _), (by decide : 38 + 0 ≤ _)⟩)
  dsimp only [Pt.U, Pt.locs, Pt.cells, Pt.slots] at X2 l2 y2 z2 st2 hQ2
  subst l2 y2 z2
  obtain ⟨rfl, N2q, e2⟩ := hQ2
  have N2 := Fr.app N1 N2q
  obtain ⟨_, _, ⟨T3, L3, k3, n3⟩, -, X3, ⟨Lc3, hQ3, l3, y3, z3⟩, st3⟩ := Jvm.LawKit.callS X2 hx (y := (⟨"com/example/dispensd/dispensd/IdentifierIsValidPinLaw", "ok", "(C)Z"⟩ : MethodName)) hown (mvT hZ (own_w hw 42 rfl)) (mvT hZ (own_w hw 43 rfl)) (mvT hZ (own_w hw 7 rfl)) (mvT hZ (own_w hw 44 rfl)) (by decide) (backOf (W := 0) (rmOk l Z a0 hw [] py  T1.heap n0 O1 ) hZ (own_w hw 44 rfl) (own_w hw 7 rfl) (by decide) (by decide)) (g := (mkF m 179 #[.val (.int p0), .val (.int p1), .val (.int p2), .val (.int p3), .val (.int (p0 &&& (7 : Int32))), .val (.int px), .val (.int py), .val (.int (Int32.ofNat vn)), .val (.int ps), .val (.ref x1), .unset] [(.int py)])) rfl (by rw [hml]; rfl) (argsL := [(.int py)]) (rest := []) (lenOf pd_12 rfl) rfl (by show 2 * 0 + _ ≤ _; exact Nat.le_of_eq rfl) (hb hby at_179) (fun _ _ => ⟨rfl, e2, (by decide : 3 + 0 ≤ _), (by decide : 38 + 0 ≤ _)⟩)
  dsimp only [Pt.U, Pt.locs, Pt.cells, Pt.slots] at X3 l3 y3 z3 st3 hQ3
  subst l3 y3 z3
  obtain ⟨rfl, N3q, e3⟩ := hQ3
  have N3 := Fr.app N2 N3q
  obtain ⟨_, _, ⟨T4, L4, k4, n4⟩, -, X4, Sn4, sz4, ⟨Lc4, hQ4, l4, y4, z4⟩, st4⟩ := callSS X3 hx (y := (⟨"com/example/dispensd/dispensd/Identifier", "isValid", "(Ljava/lang/String;)Z"⟩ : MethodName)) hown (mvT hZ (own_w hw 0 rfl)) (mvT hZ (own_w hw 1 rfl)) (mvT hZ (own_w hw 2 rfl)) (mvT hZ (own_w hw 3 rfl)) (by decide) (own_backI (W := 0) (rmVA l Z a0 hw [] x1 (own_cs vn ps px py) t1 kt1 zc fm T1.heap n0 O1 Ex1 Fv1 Fc1 Vt1 S_COMPACT_STRINGS hzc S_FM hfm hpc hvl hqb hqa hheldI hcw hall) hZ (own_w hw 3 rfl) (own_w hw 2 rfl) (by decide) (by decide)) (g := (mkF m 194 #[.val (.int p0), .val (.int p1), .val (.int p2), .val (.int p3), .val (.int (p0 &&& (7 : Int32))), .val (.int px), .val (.int py), .val (.int (Int32.ofNat vn)), .val (.int ps), .val (.ref x1), .val (.int 1)] [(.ref x1)])) rfl (by rw [hml]; rfl) (argsL := [(.ref x1)]) (rest := []) (lenOf pd_13 rfl) rfl (by show 2 * 0 + _ ≤ _; exact Nat.le_of_eq rfl) (hb hby at_194) (fun vm1 hvm1 => ⟨rfl, e3, (by decide : 3 + 2 ≤ _), (by decide : 38 + 260 ≤ _), (own_int hvm1).trans hint⟩)
  have hZ4 : Z.Warmed39 (s.setVm T4.vm).vm := State.Warmed39.trans hZ Sn4.1
  have hown4 : (s.setVm T4.vm).vm.findClass "com/example/dispensd/dispensd/IdentifierIsValidPinLaw" = some m.cls := by rw [show (s.setVm T4.vm).vm = T4.vm from rfl, Sn4.1.alike.findClass]; exact hown
  dsimp only [Pt.U, Pt.locs, Pt.cells, Pt.slots] at X4 l4 y4 z4 st4 hQ4
  subst l4 y4 z4
  obtain ⟨rfl, N4q, O4⟩ := hQ4
  have N4 := Fr.app N3 N4q
  obtain ⟨fs, hr, hrun, hended, hRW⟩ := X4.leaveW Sn4 (Nat.le_refl _) (v := some (.int 1)) (fun h => by rw [Bd.returns] at h; cases h)
  refine ⟨_, _, pre0 _ ?_, hrun, hended, _, _, rfl, ?_, hRW.1, hRW.2.1, hRW.2.2.1, hRW.2.2.2.mono (by decide) (by decide)⟩
  · show oS p e below s₁ m 0 #[.val (.int p0), .val (.int p1), .val (.int p2), .val (.int p3), .unset, .unset, .unset, .unset, .unset, .unset, .unset] [] _
    refine XS.iloadN X0.here hx rfl (hb hby at_0) rfl ?_
    show oS p e below s₁ m 1 #[.val (.int p0), .val (.int p1), .val (.int p2), .val (.int p3), .unset, .unset, .unset, .unset, .unset, .unset, .unset] [(.int p0)] _
    refine XS.bipush X0.here hx rfl (hb hby at_1) ?_
    show oS p e below s₁ m 3 #[.val (.int p0), .val (.int p1), .val (.int p2), .val (.int p3), .unset, .unset, .unset, .unset, .unset, .unset, .unset] [(.int 7), (.int p0)] _
    refine XS.iand X0.here hx rfl (hb hby at_3) rfl ?_
    show oS p e below s₁ m 4 #[.val (.int p0), .val (.int p1), .val (.int p2), .val (.int p3), .unset, .unset, .unset, .unset, .unset, .unset, .unset] [(.int (p0 &&& (7 : Int32)))] _
    refine XS.istore X0.here hx rfl (hb hby at_4) rfl (l' := #[.val (.int p0), .val (.int p1), .val (.int p2), .val (.int p3), .val (.int (p0 &&& (7 : Int32))), .unset, .unset, .unset, .unset, .unset, .unset]) rfl ?_
    show oS p e below s₁ m 6 #[.val (.int p0), .val (.int p1), .val (.int p2), .val (.int p3), .val (.int (p0 &&& (7 : Int32))), .unset, .unset, .unset, .unset, .unset, .unset] [] _
    refine XS.iloadN X0.here hx rfl (hb hby at_6) rfl ?_
    show oS p e below s₁ m 7 #[.val (.int p0), .val (.int p1), .val (.int p2), .val (.int p3), .val (.int (p0 &&& (7 : Int32))), .unset, .unset, .unset, .unset, .unset, .unset] [(.int p2)] _
    refine XS.sipush X0.here hx rfl (hb hby at_7) ?_
    show oS p e below s₁ m 10 #[.val (.int p0), .val (.int p1), .val (.int p2), .val (.int p3), .val (.int (p0 &&& (7 : Int32))), .unset, .unset, .unset, .unset, .unset, .unset] [(.int 255), (.int p2)] _
    refine XS.iand X0.here hx rfl (hb hby at_10) rfl ?_
    show oS p e below s₁ m 11 #[.val (.int p0), .val (.int p1), .val (.int p2), .val (.int p3), .val (.int (p0 &&& (7 : Int32))), .unset, .unset, .unset, .unset, .unset, .unset] [(.int (p2 &&& (255 : Int32)))] _
    refine XS.i2c X0.here hx rfl (hb hby at_11) rfl ?_
    show oS p e below s₁ m 12 #[.val (.int p0), .val (.int p1), .val (.int p2), .val (.int p3), .val (.int (p0 &&& (7 : Int32))), .unset, .unset, .unset, .unset, .unset, .unset] [(.int ((p2 &&& (255 : Int32)).toUInt32.toUInt16.toUInt32.toInt32))] _
    rw [hpx]
    show oS p e below s₁ m 12 #[.val (.int p0), .val (.int p1), .val (.int p2), .val (.int p3), .val (.int (p0 &&& (7 : Int32))), .unset, .unset, .unset, .unset, .unset, .unset] [(.int px)] _
    refine XS.istore X0.here hx rfl (hb hby at_12) rfl (l' := #[.val (.int p0), .val (.int p1), .val (.int p2), .val (.int p3), .val (.int (p0 &&& (7 : Int32))), .val (.int px), .unset, .unset, .unset, .unset, .unset]) rfl ?_
    show oS p e below s₁ m 14 #[.val (.int p0), .val (.int p1), .val (.int p2), .val (.int p3), .val (.int (p0 &&& (7 : Int32))), .val (.int px), .unset, .unset, .unset, .unset, .unset] [] _
    refine XS.iloadN X0.here hx rfl (hb hby at_14) rfl ?_
    show oS p e below s₁ m 15 #[.val (.int p0), .val (.int p1), .val (.int p2), .val (.int p3), .val (.int (p0 &&& (7 : Int32))), .val (.int px), .unset, .unset, .unset, .unset, .unset] [(.int p3)] _
    refine XS.sipush X0.here hx rfl (hb hby at_15) ?_
    show oS p e below s₁ m 18 #[.val (.int p0), .val (.int p1), .val (.int p2), .val (.int p3), .val (.int (p0 &&& (7 : Int32))), .val (.int px), .unset, .unset, .unset, .unset, .unset] [(.int 255), (.int p3)] _
    refine XS.iand X0.here hx rfl (hb hby at_18) rfl ?_
    show oS p e below s₁ m 19 #[.val (.int p0), .val (.int p1), .val (.int p2), .val (.int p3), .val (.int (p0 &&& (7 : Int32))), .val (.int px), .unset, .unset, .unset, .unset, .unset] [(.int (p3 &&& (255 : Int32)))] _
    refine XS.i2c X0.here hx rfl (hb hby at_19) rfl ?_
    show oS p e below s₁ m 20 #[.val (.int p0), .val (.int p1), .val (.int p2), .val (.int p3), .val (.int (p0 &&& (7 : Int32))), .val (.int px), .unset, .unset, .unset, .unset, .unset] [(.int ((p3 &&& (255 : Int32)).toUInt32.toUInt16.toUInt32.toInt32))] _
    rw [hpy]
    show oS p e below s₁ m 20 #[.val (.int p0), .val (.int p1), .val (.int p2), .val (.int p3), .val (.int (p0 &&& (7 : Int32))), .val (.int px), .unset, .unset, .unset, .unset, .unset] [(.int py)] _
    refine XS.istore X0.here hx rfl (hb hby at_20) rfl (l' := #[.val (.int p0), .val (.int p1), .val (.int p2), .val (.int p3), .val (.int (p0 &&& (7 : Int32))), .val (.int px), .val (.int py), .unset, .unset, .unset, .unset]) rfl ?_
    show oS p e below s₁ m 22 #[.val (.int p0), .val (.int p1), .val (.int p2), .val (.int p3), .val (.int (p0 &&& (7 : Int32))), .val (.int px), .val (.int py), .unset, .unset, .unset, .unset] [] _
    refine lwN X0 hx hZ hby e0 hkn _ ?_
    show oS p e below s₁ m 119 #[.val (.int p0), .val (.int p1), .val (.int p2), .val (.int p3), .val (.int (p0 &&& (7 : Int32))), .val (.int px), .val (.int py), .val (.int (Int32.ofNat vn)), .unset, .unset, .unset] [] _
    refine XS.iload X0.here hx rfl (hb hby at_119) rfl ?_
    show oS p e below s₁ m 121 #[.val (.int p0), .val (.int p1), .val (.int p2), .val (.int p3), .val (.int (p0 &&& (7 : Int32))), .val (.int px), .val (.int py), .val (.int (Int32.ofNat vn)), .unset, .unset, .unset] [(.int (Int32.ofNat vn))] _
    refine XS.ifYes X0.here hx rfl (pc0 := 121) (pc' := 128) rfl (hb hby at_121) rfl ((if0 _ _).trans (feq hv0).2) (by decide) (by decide) ?_
    show oS p e below s₁ m 128 #[.val (.int p0), .val (.int p1), .val (.int p2), .val (.int p3), .val (.int (p0 &&& (7 : Int32))), .val (.int px), .val (.int py), .val (.int (Int32.ofNat vn)), .unset, .unset, .unset] [] _
    refine XS.iloadN X0.here hx rfl (hb hby at_128) rfl ?_
    show oS p e below s₁ m 129 #[.val (.int p0), .val (.int p1), .val (.int p2), .val (.int p3), .val (.int (p0 &&& (7 : Int32))), .val (.int px), .val (.int py), .val (.int (Int32.ofNat vn)), .unset, .unset, .unset] [(.int p1)] _
    refine X0.ldcInt hx hown (mvT hZ (own_w hw 4 rfl)) (g := (mkF m 129 #[.val (.int p0), .val (.int p1), .val (.int p2), .val (.int p3), .val (.int (p0 &&& (7 : Int32))), .val (.int px), .val (.int py), .val (.int (Int32.ofNat vn)), .unset, .unset, .unset] [(.int p1)])) rfl (hb hby at_129) _ ?_
    show oS p e below s₁ m 131 #[.val (.int p0), .val (.int p1), .val (.int p2), .val (.int p3), .val (.int (p0 &&& (7 : Int32))), .val (.int px), .val (.int py), .val (.int (Int32.ofNat vn)), .unset, .unset, .unset] [(.int 2147483647), (.int p1)] _
    refine XS.iand X0.here hx rfl (hb hby at_131) rfl ?_
    show oS p e below s₁ m 132 #[.val (.int p0), .val (.int p1), .val (.int p2), .val (.int p3), .val (.int (p0 &&& (7 : Int32))), .val (.int px), .val (.int py), .val (.int (Int32.ofNat vn)), .unset, .unset, .unset] [(.int (p1 &&& (2147483647 : Int32)))] _
    refine XS.iload X0.here hx rfl (hb hby at_132) rfl ?_
    show oS p e below s₁ m 134 #[.val (.int p0), .val (.int p1), .val (.int p2), .val (.int p3), .val (.int (p0 &&& (7 : Int32))), .val (.int px), .val (.int py), .val (.int (Int32.ofNat vn)), .unset, .unset, .unset] [(.int (Int32.ofNat vn)), (.int (p1 &&& (2147483647 : Int32)))] _
    refine iremM X0 hx rfl (hb hby at_134) rfl hv0 ?_
    show oS p e below s₁ m 135 #[.val (.int p0), .val (.int p1), .val (.int p2), .val (.int p3), .val (.int (p0 &&& (7 : Int32))), .val (.int px), .val (.int py), .val (.int (Int32.ofNat vn)), .unset, .unset, .unset] [(.int ((p1 &&& (2147483647 : Int32)) % (Int32.ofNat vn)))] _
    rw [hps]
    show oS p e below s₁ m 135 #[.val (.int p0), .val (.int p1), .val (.int p2), .val (.int p3), .val (.int (p0 &&& (7 : Int32))), .val (.int px), .val (.int py), .val (.int (Int32.ofNat vn)), .unset, .unset, .unset] [(.int ps)] _
    refine XS.istore X0.here hx rfl (hb hby at_135) rfl (l' := #[.val (.int p0), .val (.int p1), .val (.int p2), .val (.int p3), .val (.int (p0 &&& (7 : Int32))), .val (.int px), .val (.int py), .val (.int (Int32.ofNat vn)), .val (.int ps), .unset, .unset]) rfl ?_
    show oS p e below s₁ m 137 #[.val (.int p0), .val (.int p1), .val (.int p2), .val (.int p3), .val (.int (p0 &&& (7 : Int32))), .val (.int px), .val (.int py), .val (.int (Int32.ofNat vn)), .val (.int ps), .unset, .unset] [] _
    refine XS.iload X0.here hx rfl (hb hby at_137) rfl ?_
    show oS p e below s₁ m 139 #[.val (.int p0), .val (.int p1), .val (.int p2), .val (.int p3), .val (.int (p0 &&& (7 : Int32))), .val (.int px), .val (.int py), .val (.int (Int32.ofNat vn)), .val (.int ps), .unset, .unset] [(.int (Int32.ofNat vn))] _
    refine XS.iload X0.here hx rfl (hb hby at_139) rfl ?_
    show oS p e below s₁ m 141 #[.val (.int p0), .val (.int p1), .val (.int p2), .val (.int p3), .val (.int (p0 &&& (7 : Int32))), .val (.int px), .val (.int py), .val (.int (Int32.ofNat vn)), .val (.int ps), .unset, .unset] [(.int ps), (.int (Int32.ofNat vn))] _
    refine XS.iload X0.here hx rfl (hb hby at_141) rfl ?_
    show oS p e below s₁ m 143 #[.val (.int p0), .val (.int p1), .val (.int p2), .val (.int p3), .val (.int (p0 &&& (7 : Int32))), .val (.int px), .val (.int py), .val (.int (Int32.ofNat vn)), .val (.int ps), .unset, .unset] [(.int px), (.int ps), (.int (Int32.ofNat vn))] _
    refine XS.iload X0.here hx rfl (hb hby at_143) rfl ?_
    show oS p e below s₁ m 145 #[.val (.int p0), .val (.int p1), .val (.int p2), .val (.int p3), .val (.int (p0 &&& (7 : Int32))), .val (.int px), .val (.int py), .val (.int (Int32.ofNat vn)), .val (.int ps), .unset, .unset] [(.int py), (.int px), (.int ps), (.int (Int32.ofNat vn))] _
    refine st1 _ ?_
    show oS p e below T1 m 148 #[.val (.int p0), .val (.int p1), .val (.int p2), .val (.int p3), .val (.int (p0 &&& (7 : Int32))), .val (.int px), .val (.int py), .val (.int (Int32.ofNat vn)), .val (.int ps), .unset, .unset] [(.ref x1)] _
    refine XS.astore X1.here hx rfl (hb hby at_148) rfl rfl (l' := #[.val (.int p0), .val (.int p1), .val (.int p2), .val (.int p3), .val (.int (p0 &&& (7 : Int32))), .val (.int px), .val (.int py), .val (.int (Int32.ofNat vn)), .val (.int ps), .val (.ref x1), .unset]) rfl ?_
    show oS p e below T1 m 150 #[.val (.int p0), .val (.int p1), .val (.int p2), .val (.int p3), .val (.int (p0 &&& (7 : Int32))), .val (.int px), .val (.int py), .val (.int (Int32.ofNat vn)), .val (.int ps), .val (.ref x1), .unset] [] _
    refine XS.iload X1.here hx rfl (hb hby at_150) rfl ?_
    show oS p e below T1 m 152 #[.val (.int p0), .val (.int p1), .val (.int p2), .val (.int p3), .val (.int (p0 &&& (7 : Int32))), .val (.int px), .val (.int py), .val (.int (Int32.ofNat vn)), .val (.int ps), .val (.ref x1), .unset] [(.int (Int32.ofNat vn))] _
    refine XS.iconst X1.here hx rfl (hb hby at_152) ?_
    show oS p e below T1 m 153 #[.val (.int p0), .val (.int p1), .val (.int p2), .val (.int p3), .val (.int (p0 &&& (7 : Int32))), .val (.int px), .val (.int py), .val (.int (Int32.ofNat vn)), .val (.int ps), .val (.ref x1), .unset] [(.int 1), (.int (Int32.ofNat vn))] _
    refine XS.icmpNo X1.here hx rfl (hb hby at_153) rfl (flt hv1).1 ?_
    show oS p e below T1 m 156 #[.val (.int p0), .val (.int p1), .val (.int p2), .val (.int p3), .val (.int (p0 &&& (7 : Int32))), .val (.int px), .val (.int py), .val (.int (Int32.ofNat vn)), .val (.int ps), .val (.ref x1), .unset] [] _
    refine XS.iload X1.here hx rfl (hb hby at_156) rfl ?_
    show oS p e below T1 m 158 #[.val (.int p0), .val (.int p1), .val (.int p2), .val (.int p3), .val (.int (p0 &&& (7 : Int32))), .val (.int px), .val (.int py), .val (.int (Int32.ofNat vn)), .val (.int ps), .val (.ref x1), .unset] [(.int (Int32.ofNat vn))] _
    refine XS.bipush X1.here hx rfl (hb hby at_158) ?_
    show oS p e below T1 m 160 #[.val (.int p0), .val (.int p1), .val (.int p2), .val (.int p3), .val (.int (p0 &&& (7 : Int32))), .val (.int px), .val (.int py), .val (.int (Int32.ofNat vn)), .val (.int ps), .val (.ref x1), .unset] [(.int 16), (.int (Int32.ofNat vn))] _
    refine XS.icmpNo X1.here hx rfl (hb hby at_160) rfl (flt hv16).2.2.1 ?_
    show oS p e below T1 m 163 #[.val (.int p0), .val (.int p1), .val (.int p2), .val (.int p3), .val (.int (p0 &&& (7 : Int32))), .val (.int px), .val (.int py), .val (.int (Int32.ofNat vn)), .val (.int ps), .val (.ref x1), .unset] [] _
    refine XS.iload X1.here hx rfl (hb hby at_163) rfl ?_
    show oS p e below T1 m 165 #[.val (.int p0), .val (.int p1), .val (.int p2), .val (.int p3), .val (.int (p0 &&& (7 : Int32))), .val (.int px), .val (.int py), .val (.int (Int32.ofNat vn)), .val (.int ps), .val (.ref x1), .unset] [(.int px)] _
    refine st2 _ ?_
    show oS p e below T2 m 168 #[.val (.int p0), .val (.int p1), .val (.int p2), .val (.int p3), .val (.int (p0 &&& (7 : Int32))), .val (.int px), .val (.int py), .val (.int (Int32.ofNat vn)), .val (.int ps), .val (.ref x1), .unset] [(.int (own_ok px))] _
    refine XS.ifNo X2.here hx rfl (hb hby at_168) rfl ((if0 _ _).trans (feq hokx).1) ?_
    show oS p e below T2 m 171 #[.val (.int p0), .val (.int p1), .val (.int p2), .val (.int p3), .val (.int (p0 &&& (7 : Int32))), .val (.int px), .val (.int py), .val (.int (Int32.ofNat vn)), .val (.int ps), .val (.ref x1), .unset] [] _
    refine XS.iload X2.here hx rfl (hb hby at_171) rfl ?_
    show oS p e below T2 m 173 #[.val (.int p0), .val (.int p1), .val (.int p2), .val (.int p3), .val (.int (p0 &&& (7 : Int32))), .val (.int px), .val (.int py), .val (.int (Int32.ofNat vn)), .val (.int ps), .val (.ref x1), .unset] [(.int (Int32.ofNat vn))] _
    refine XS.iconst X2.here hx rfl (hb hby at_173) ?_
    show oS p e below T2 m 174 #[.val (.int p0), .val (.int p1), .val (.int p2), .val (.int p3), .val (.int (p0 &&& (7 : Int32))), .val (.int px), .val (.int py), .val (.int (Int32.ofNat vn)), .val (.int ps), .val (.ref x1), .unset] [(.int 1), (.int (Int32.ofNat vn))] _
    refine XS.icmpNo X2.here hx rfl (hb hby at_174) rfl (feq hvo).1 ?_
    show oS p e below T2 m 177 #[.val (.int p0), .val (.int p1), .val (.int p2), .val (.int p3), .val (.int (p0 &&& (7 : Int32))), .val (.int px), .val (.int py), .val (.int (Int32.ofNat vn)), .val (.int ps), .val (.ref x1), .unset] [] _
    refine XS.iload X2.here hx rfl (hb hby at_177) rfl ?_
    show oS p e below T2 m 179 #[.val (.int p0), .val (.int p1), .val (.int p2), .val (.int p3), .val (.int (p0 &&& (7 : Int32))), .val (.int px), .val (.int py), .val (.int (Int32.ofNat vn)), .val (.int ps), .val (.ref x1), .unset] [(.int py)] _
    refine st3 _ ?_
    show oS p e below T3 m 182 #[.val (.int p0), .val (.int p1), .val (.int p2), .val (.int p3), .val (.int (p0 &&& (7 : Int32))), .val (.int px), .val (.int py), .val (.int (Int32.ofNat vn)), .val (.int ps), .val (.ref x1), .unset] [(.int (own_ok py))] _
    refine XS.ifNo X3.here hx rfl (hb hby at_182) rfl ((if0 _ _).trans (feq hoky).1) ?_
    show oS p e below T3 m 185 #[.val (.int p0), .val (.int p1), .val (.int p2), .val (.int p3), .val (.int (p0 &&& (7 : Int32))), .val (.int px), .val (.int py), .val (.int (Int32.ofNat vn)), .val (.int ps), .val (.ref x1), .unset] [] _
    refine XS.iconst X3.here hx rfl (hb hby at_185) ?_
    show oS p e below T3 m 186 #[.val (.int p0), .val (.int p1), .val (.int p2), .val (.int p3), .val (.int (p0 &&& (7 : Int32))), .val (.int px), .val (.int py), .val (.int (Int32.ofNat vn)), .val (.int ps), .val (.ref x1), .unset] [(.int 1)] _
    refine XS.goto X3.here hx rfl (pc0 := 186) (pc' := 190) rfl (hb hby at_186) (by decide) (by decide) ?_
    show oS p e below T3 m 190 #[.val (.int p0), .val (.int p1), .val (.int p2), .val (.int p3), .val (.int (p0 &&& (7 : Int32))), .val (.int px), .val (.int py), .val (.int (Int32.ofNat vn)), .val (.int ps), .val (.ref x1), .unset] [(.int 1)] _
    refine XS.istore X3.here hx rfl (hb hby at_190) rfl (l' := #[.val (.int p0), .val (.int p1), .val (.int p2), .val (.int p3), .val (.int (p0 &&& (7 : Int32))), .val (.int px), .val (.int py), .val (.int (Int32.ofNat vn)), .val (.int ps), .val (.ref x1), .val (.int 1)]) rfl ?_
    show oS p e below T3 m 192 #[.val (.int p0), .val (.int p1), .val (.int p2), .val (.int p3), .val (.int (p0 &&& (7 : Int32))), .val (.int px), .val (.int py), .val (.int (Int32.ofNat vn)), .val (.int ps), .val (.ref x1), .val (.int 1)] [] _
    refine XS.aload X3.here hx rfl (hb hby at_192) rfl rfl ?_
    show oS p e below T3 m 194 #[.val (.int p0), .val (.int p1), .val (.int p2), .val (.int p3), .val (.int (p0 &&& (7 : Int32))), .val (.int px), .val (.int py), .val (.int (Int32.ofNat vn)), .val (.int ps), .val (.ref x1), .val (.int 1)] [(.ref x1)] _
    refine st4.trans ?_
    show oS p e below T4 m 197 #[.val (.int p0), .val (.int p1), .val (.int p2), .val (.int p3), .val (.int (p0 &&& (7 : Int32))), .val (.int px), .val (.int py), .val (.int (Int32.ofNat vn)), .val (.int ps), .val (.ref x1), .val (.int 1)] [(.int 1)] _
    refine XS.iload X4.here hx rfl (hb hby at_197) rfl ?_
    show oS p e below T4 m 199 #[.val (.int p0), .val (.int p1), .val (.int p2), .val (.int p3), .val (.int (p0 &&& (7 : Int32))), .val (.int px), .val (.int py), .val (.int (Int32.ofNat vn)), .val (.int ps), .val (.ref x1), .val (.int 1)] [(.int 1), (.int 1)] _
    refine XS.icmpNo X4.here hx rfl (hb hby at_199) rfl (teq (by decide : (1 : Int32) = (1 : Int32))).2 ?_
    show oS p e below T4 m 202 #[.val (.int p0), .val (.int p1), .val (.int p2), .val (.int p3), .val (.int (p0 &&& (7 : Int32))), .val (.int px), .val (.int py), .val (.int (Int32.ofNat vn)), .val (.int ps), .val (.ref x1), .val (.int 1)] [] _
    refine XS.iconst X4.here hx rfl (hb hby at_202) ?_
    show oS p e below T4 m 203 #[.val (.int p0), .val (.int p1), .val (.int p2), .val (.int p3), .val (.int (p0 &&& (7 : Int32))), .val (.int px), .val (.int py), .val (.int (Int32.ofNat vn)), .val (.int ps), .val (.ref x1), .val (.int 1)] [(.int 1)] _
    refine XS.goto X4.here hx rfl (pc0 := 203) (pc' := 207) rfl (hb hby at_203) (by decide) (by decide) ?_
    show oS p e below T4 m 207 #[.val (.int p0), .val (.int p1), .val (.int p2), .val (.int p3), .val (.int (p0 &&& (7 : Int32))), .val (.int px), .val (.int py), .val (.int (Int32.ofNat vn)), .val (.int ps), .val (.ref x1), .val (.int 1)] [(.int 1)] _
    exact retN X4 hx (t := .boolean) Bd.returns (by simp) (hb hby at_207) hr
  · show own_R n0 _ T4.heap _
    exact ⟨rfl, N4⟩
set_option maxRecDepth 65536 in
set_option maxHeartbeats 40000000 in
theorem rm0C (l : Launch) (Z : State) (a0 : Array Value) (hw : ∀ d ∈ tables_1, d.before a0 Z = true) (ws : List Jvm.Cond) (p0 : Int32) (p1 : Int32) (p2 : Int32) (p3 : Int32) (zc : Int32) (px py ps : Int32) (vn : Nat) (fm : Value) (h0 : Heap) (n0 : Nat) (O0 : Old Z n0 h0) (S_COMPACT_STRINGS : Sta Z Z.heap "java/lang/String" "COMPACT_STRINGS" "Z" (.int zc)) (hzc : ¬ zc = 0) (S_FM : Sta Z Z.heap "jdk/internal/util/Preconditions" "SIOOBE_FORMATTER" "Ljava/util/function/BiFunction;" fm) (hfm : fm.isRef = true) (hpx : ((p2 &&& (255 : Int32)).toUInt32.toUInt16.toUInt32.toInt32) = px) (hpy : ((p3 &&& (255 : Int32)).toUInt32.toUInt16.toUInt32.toInt32) = py) (hkn : ((p0 &&& (7 : Int32)) = (2 : Int32) ∧ vn = 1) ∨ ((p0 &&& (7 : Int32)) = (3 : Int32) ∧ vn = 2) ∨ ((p0 &&& (7 : Int32)) = (4 : Int32) ∧ vn = 3) ∨ ((p0 &&& (7 : Int32)) = (5 : Int32) ∧ vn = 15) ∨ ((p0 &&& (7 : Int32)) = (6 : Int32) ∧ vn = 16) ∨ ((p0 &&& (7 : Int32)) = (7 : Int32) ∧ vn = 17)) (hv0 : ¬ ((Int32.ofNat vn) = (0 : Int32))) (hps : ((p1 &&& (2147483647 : Int32)) % (Int32.ofNat vn)) = ps) (hvn : vn = 1 ∨ vn = 2 ∨ vn = 3 ∨ vn = 15 ∨ vn = 16 ∨ vn = 17) (hpc : ∀ c ∈ (own_cs vn ps px py), ¬ c < 0 ∧ ¬ (255 : Int32) < c) (hv1 : ¬ ((Int32.ofNat vn) < (1 : Int32))) (hvl : (own_cs vn ps px py).length ≤ 4000) (hv16 : ¬ ((16 : Int32) < (Int32.ofNat vn))) (hqb : ¬ ((16 : Int32) < (Int32.ofNat (own_cs vn ps px py).length))) (hqa : (0 : Int32) < (Int32.ofNat (own_cs vn ps px py).length)) (hheldI : Jvm.Lit.constHeld Z "com/example/dispensd/dispensd/Identifier" 34) (hcw : Jvm.Lit.compactW.before a0 Z = true) (hokx : (own_ok px) = (0 : Int32)) (hex : ∃ c ∈ (own_cs vn ps px py), (own_find own_A (c.toInt8.toInt32) 0) < 0) :
    MetFree l x (head1 (Jvm.Cond.code x code maxLocals ret :: ws) room_1) (fun a U => a = #[(.int p0), (.int p1), (.int p2), (.int p3)] ∧ Z.Warmed39 U.vm ∧ U.heap = h0 ∧ U.vm.interned = Z.vm.interned) (fun _ _ _ _ _ => True) (fun _ U o U' => ∃ v L, o = .returned v ∧ own_R n0 v U'.heap L ∧ ReturnedEndW U o U' L room_1.cells room_1.slots) := by
  refine MetFree.of_bodySF (plainFor_of_name pn_0) hisR ?_
  intro p e s m args below meth c s₁ Bd hml0 hP hK
  obtain ⟨rfl, hZ, hh, hint⟩ := hP
  have hx := Bd.exec
  have hby := Bd.bytes
  have hml : c.maxLocals = 11 := hml0
  have hown : s.vm.findClass "com/example/dispensd/dispensd/IdentifierIsValidPinLaw" = some m.cls := findClass_of_methodNamed Bd.named
  have hnm := (name_of_methodNamed Bd.named Bd.method).1
  have X0 : Stand p l e room_1 s m #[(.int p0), (.int p1), (.int p2), (.int p3)] below meth c s₁ [] 0 0 := Stand.of_body Bd
  have e0 : s₁.heap = h0 := by rw [← hh, Bd.state]; rfl
  have N0 := Fr.nil n0
  have pre0 : ∀ t, Steps p.tables e below (s₁.setTop (mkF m 0 #[.val (.int p0), .val (.int p1), .val (.int p2), .val (.int p3), .unset, .unset, .unset, .unset, .unset, .unset, .unset] [])) t → Steps p.tables e below (s₁.setTop (entryFrame m #[(.int p0), (.int p1), (.int p2), (.int p3)] maxLocals)) t := fun t k => castTop (ef_0 m p0 p1 p2 p3) k
  obtain ⟨_, _, ⟨T1, L1, k1, n1⟩, -, X1, ⟨Lc1, hQ1, l1, y1, z1⟩, st1⟩ := Jvm.LawKit.callS X0 hx (y := (⟨"com/example/dispensd/dispensd/IdentifierIsValidPinLaw", "make", "(IICC)Ljava/lang/String;"⟩ : MethodName)) hown (mvT hZ (own_w hw 5 rfl)) (mvT hZ (own_w hw 6 rfl)) (mvT hZ (own_w hw 7 rfl)) (mvT hZ (own_w hw 8 rfl)) (by decide) (backOf (W := 0) (rmM l Z a0 hw [] vn ps px py zc  h0 n0 O0 hvn S_COMPACT_STRINGS hzc hpc) hZ (own_w hw 8 rfl) (own_w hw 7 rfl) (by decide) (by decide)) (g := (mkF m 145 #[.val (.int p0), .val (.int p1), .val (.int p2), .val (.int p3), .val (.int (p0 &&& (7 : Int32))), .val (.int px), .val (.int py), .val (.int (Int32.ofNat vn)), .val (.int ps), .unset, .unset] [(.int py), (.int px), (.int ps), (.int (Int32.ofNat vn))])) rfl (by rw [hml]; rfl) (argsL := [(.int (Int32.ofNat vn)), (.int ps), (.int px), (.int py)]) (rest := []) (lenOf pd_11 rfl) rfl (by show 2 * 0 + _ ≤ _; exact Nat.le_of_eq rfl) (hb hby at_145) (fun _ _ => ⟨rfl, e0, (by decide : 0 + 3 ≤ _), (by decide : 0 + 38 ≤ _)⟩)
  dsimp only [Pt.U, Pt.locs, Pt.cells, Pt.slots] at X1 l1 y1 z1 st1 hQ1
  subst l1 y1 z1
  obtain ⟨x1, t1, kt1, rfl, N1q, K1, Ex1, Fv1, Fc1, Vt1⟩ := hQ1
  have N1 := Fr.app N0 N1q
  have O1 := O0.keep K1 all0
  obtain ⟨_, _, ⟨T2, L2, k2, n2⟩, -, X2, ⟨Lc2, hQ2, l2, y2, z2⟩, st2⟩ := Jvm.LawKit.callS X1 hx (y := (⟨"com/example/dispensd/dispensd/IdentifierIsValidPinLaw", "ok", "(C)Z"⟩ : MethodName)) hown (mvT hZ (own_w hw 42 rfl)) (mvT hZ (own_w hw 43 rfl)) (mvT hZ (own_w hw 7 rfl)) (mvT hZ (own_w hw 44 rfl)) (by decide) (backOf (W := 0) (rmOk l Z a0 hw [] px  T1.heap n0 O1 ) hZ (own_w hw 44 rfl) (own_w hw 7 rfl) (by decide) (by decide)) (g := (mkF m 165 #[.val (.int p0), .val (.int p1), .val (.int p2), .val (.int p3), .val (.int (p0 &&& (7 : Int32))), .val (.int px), .val (.int py), .val (.int (Int32.ofNat vn)), .val (.int ps), .val (.ref x1), .unset] [(.int px)])) rfl (by rw [hml]; rfl) (argsL := [(.int px)]) (rest := []) (lenOf pd_12 rfl) rfl (by show 2 * 0 + _ ≤ _; exact Nat.le_of_eq rfl) (hb hby at_165) (fun _ _ => ⟨rfl, rfl, (by decide : 3 + 0 ≤ _), (by decide : 38 + 0 ≤ _)⟩)
  dsimp only [Pt.U, Pt.locs, Pt.cells, Pt.slots] at X2 l2 y2 z2 st2 hQ2
  subst l2 y2 z2
  obtain ⟨rfl, N2q, e2⟩ := hQ2
  have N2 := Fr.app N1 N2q
  obtain ⟨_, _, ⟨T3, L3, k3, n3⟩, -, X3, Sn3, sz3, ⟨Lc3, hQ3, l3, y3, z3⟩, st3⟩ := callSS X2 hx (y := (⟨"com/example/dispensd/dispensd/Identifier", "isValid", "(Ljava/lang/String;)Z"⟩ : MethodName)) hown (mvT hZ (own_w hw 0 rfl)) (mvT hZ (own_w hw 1 rfl)) (mvT hZ (own_w hw 2 rfl)) (mvT hZ (own_w hw 3 rfl)) (by decide) (own_backI (W := 0) (rmVB l Z a0 hw [] x1 (own_cs vn ps px py) t1 kt1 zc fm T1.heap n0 O1 Ex1 Fv1 Fc1 Vt1 S_COMPACT_STRINGS hzc S_FM hfm hpc hvl hqb hqa hheldI hcw hex) hZ (own_w hw 3 rfl) (own_w hw 2 rfl) (by decide) (by decide)) (g := (mkF m 194 #[.val (.int p0), .val (.int p1), .val (.int p2), .val (.int p3), .val (.int (p0 &&& (7 : Int32))), .val (.int px), .val (.int py), .val (.int (Int32.ofNat vn)), .val (.int ps), .val (.ref x1), .val (.int 0)] [(.ref x1)])) rfl (by rw [hml]; rfl) (argsL := [(.ref x1)]) (rest := []) (lenOf pd_13 rfl) rfl (by show 2 * 0 + _ ≤ _; exact Nat.le_of_eq rfl) (hb hby at_194) (fun vm1 hvm1 => ⟨rfl, e2, (by decide : 3 + 2 ≤ _), (by decide : 38 + 260 ≤ _), (own_int hvm1).trans hint⟩)
  have hZ3 : Z.Warmed39 (s.setVm T3.vm).vm := State.Warmed39.trans hZ Sn3.1
  have hown3 : (s.setVm T3.vm).vm.findClass "com/example/dispensd/dispensd/IdentifierIsValidPinLaw" = some m.cls := by rw [show (s.setVm T3.vm).vm = T3.vm from rfl, Sn3.1.alike.findClass]; exact hown
  dsimp only [Pt.U, Pt.locs, Pt.cells, Pt.slots] at X3 l3 y3 z3 st3 hQ3
  subst l3 y3 z3
  obtain ⟨rfl, N3q, O3⟩ := hQ3
  have N3 := Fr.app N2 N3q
  obtain ⟨fs, hr, hrun, hended, hRW⟩ := X3.leaveW Sn3 (Nat.le_refl _) (v := some (.int 1)) (fun h => by rw [Bd.returns] at h; cases h)
  refine ⟨_, _, pre0 _ ?_, hrun, hended, _, _, rfl, ?_, hRW.1, hRW.2.1, hRW.2.2.1, hRW.2.2.2.mono (by decide) (by decide)⟩
  · show oS p e below s₁ m 0 #[.val (.int p0), .val (.int p1), .val (.int p2), .val (.int p3), .unset, .unset, .unset, .unset, .unset, .unset, .unset] [] _
    refine XS.iloadN X0.here hx rfl (hb hby at_0) rfl ?_
    show oS p e below s₁ m 1 #[.val (.int p0), .val (.int p1), .val (.int p2), .val (.int p3), .unset, .unset, .unset, .unset, .unset, .unset, .unset] [(.int p0)] _
    refine XS.bipush X0.here hx rfl (hb hby at_1) ?_
    show oS p e below s₁ m 3 #[.val (.int p0), .val (.int p1), .val (.int p2), .val (.int p3), .unset, .unset, .unset, .unset, .unset, .unset, .unset] [(.int 7), (.int p0)] _
    refine XS.iand X0.here hx rfl (hb hby at_3) rfl ?_
    show oS p e below s₁ m 4 #[.val (.int p0), .val (.int p1), .val (.int p2), .val (.int p3), .unset, .unset, .unset, .unset, .unset, .unset, .unset] [(.int (p0 &&& (7 : Int32)))] _
    refine XS.istore X0.here hx rfl (hb hby at_4) rfl (l' := #[.val (.int p0), .val (.int p1), .val (.int p2), .val (.int p3), .val (.int (p0 &&& (7 : Int32))), .unset, .unset, .unset, .unset, .unset, .unset]) rfl ?_
    show oS p e below s₁ m 6 #[.val (.int p0), .val (.int p1), .val (.int p2), .val (.int p3), .val (.int (p0 &&& (7 : Int32))), .unset, .unset, .unset, .unset, .unset, .unset] [] _
    refine XS.iloadN X0.here hx rfl (hb hby at_6) rfl ?_
    show oS p e below s₁ m 7 #[.val (.int p0), .val (.int p1), .val (.int p2), .val (.int p3), .val (.int (p0 &&& (7 : Int32))), .unset, .unset, .unset, .unset, .unset, .unset] [(.int p2)] _
    refine XS.sipush X0.here hx rfl (hb hby at_7) ?_
    show oS p e below s₁ m 10 #[.val (.int p0), .val (.int p1), .val (.int p2), .val (.int p3), .val (.int (p0 &&& (7 : Int32))), .unset, .unset, .unset, .unset, .unset, .unset] [(.int 255), (.int p2)] _
    refine XS.iand X0.here hx rfl (hb hby at_10) rfl ?_
    show oS p e below s₁ m 11 #[.val (.int p0), .val (.int p1), .val (.int p2), .val (.int p3), .val (.int (p0 &&& (7 : Int32))), .unset, .unset, .unset, .unset, .unset, .unset] [(.int (p2 &&& (255 : Int32)))] _
    refine XS.i2c X0.here hx rfl (hb hby at_11) rfl ?_
    show oS p e below s₁ m 12 #[.val (.int p0), .val (.int p1), .val (.int p2), .val (.int p3), .val (.int (p0 &&& (7 : Int32))), .unset, .unset, .unset, .unset, .unset, .unset] [(.int ((p2 &&& (255 : Int32)).toUInt32.toUInt16.toUInt32.toInt32))] _
    rw [hpx]
    show oS p e below s₁ m 12 #[.val (.int p0), .val (.int p1), .val (.int p2), .val (.int p3), .val (.int (p0 &&& (7 : Int32))), .unset, .unset, .unset, .unset, .unset, .unset] [(.int px)] _
    refine XS.istore X0.here hx rfl (hb hby at_12) rfl (l' := #[.val (.int p0), .val (.int p1), .val (.int p2), .val (.int p3), .val (.int (p0 &&& (7 : Int32))), .val (.int px), .unset, .unset, .unset, .unset, .unset]) rfl ?_
    show oS p e below s₁ m 14 #[.val (.int p0), .val (.int p1), .val (.int p2), .val (.int p3), .val (.int (p0 &&& (7 : Int32))), .val (.int px), .unset, .unset, .unset, .unset, .unset] [] _
    refine XS.iloadN X0.here hx rfl (hb hby at_14) rfl ?_
    show oS p e below s₁ m 15 #[.val (.int p0), .val (.int p1), .val (.int p2), .val (.int p3), .val (.int (p0 &&& (7 : Int32))), .val (.int px), .unset, .unset, .unset, .unset, .unset] [(.int p3)] _
    refine XS.sipush X0.here hx rfl (hb hby at_15) ?_
    show oS p e below s₁ m 18 #[.val (.int p0), .val (.int p1), .val (.int p2), .val (.int p3), .val (.int (p0 &&& (7 : Int32))), .val (.int px), .unset, .unset, .unset, .unset, .unset] [(.int 255), (.int p3)] _
    refine XS.iand X0.here hx rfl (hb hby at_18) rfl ?_
    show oS p e below s₁ m 19 #[.val (.int p0), .val (.int p1), .val (.int p2), .val (.int p3), .val (.int (p0 &&& (7 : Int32))), .val (.int px), .unset, .unset, .unset, .unset, .unset] [(.int (p3 &&& (255 : Int32)))] _
    refine XS.i2c X0.here hx rfl (hb hby at_19) rfl ?_
    show oS p e below s₁ m 20 #[.val (.int p0), .val (.int p1), .val (.int p2), .val (.int p3), .val (.int (p0 &&& (7 : Int32))), .val (.int px), .unset, .unset, .unset, .unset, .unset] [(.int ((p3 &&& (255 : Int32)).toUInt32.toUInt16.toUInt32.toInt32))] _
    rw [hpy]
    show oS p e below s₁ m 20 #[.val (.int p0), .val (.int p1), .val (.int p2), .val (.int p3), .val (.int (p0 &&& (7 : Int32))), .val (.int px), .unset, .unset, .unset, .unset, .unset] [(.int py)] _
    refine XS.istore X0.here hx rfl (hb hby at_20) rfl (l' := #[.val (.int p0), .val (.int p1), .val (.int p2), .val (.int p3), .val (.int (p0 &&& (7 : Int32))), .val (.int px), .val (.int py), .unset, .unset, .unset, .unset]) rfl ?_
    show oS p e below s₁ m 22 #[.val (.int p0), .val (.int p1), .val (.int p2), .val (.int p3), .val (.int (p0 &&& (7 : Int32))), .val (.int px), .val (.int py), .unset, .unset, .unset, .unset] [] _
    refine lwN X0 hx hZ hby e0 hkn _ ?_
    show oS p e below s₁ m 119 #[.val (.int p0), .val (.int p1), .val (.int p2), .val (.int p3), .val (.int (p0 &&& (7 : Int32))), .val (.int px), .val (.int py), .val (.int (Int32.ofNat vn)), .unset, .unset, .unset] [] _
    refine XS.iload X0.here hx rfl (hb hby at_119) rfl ?_
    show oS p e below s₁ m 121 #[.val (.int p0), .val (.int p1), .val (.int p2), .val (.int p3), .val (.int (p0 &&& (7 : Int32))), .val (.int px), .val (.int py), .val (.int (Int32.ofNat vn)), .unset, .unset, .unset] [(.int (Int32.ofNat vn))] _
    refine XS.ifYes X0.here hx rfl (pc0 := 121) (pc' := 128) rfl (hb hby at_121) rfl ((if0 _ _).trans (feq hv0).2) (by decide) (by decide) ?_
    show oS p e below s₁ m 128 #[.val (.int p0), .val (.int p1), .val (.int p2), .val (.int p3), .val (.int (p0 &&& (7 : Int32))), .val (.int px), .val (.int py), .val (.int (Int32.ofNat vn)), .unset, .unset, .unset] [] _
    refine XS.iloadN X0.here hx rfl (hb hby at_128) rfl ?_
    show oS p e below s₁ m 129 #[.val (.int p0), .val (.int p1), .val (.int p2), .val (.int p3), .val (.int (p0 &&& (7 : Int32))), .val (.int px), .val (.int py), .val (.int (Int32.ofNat vn)), .unset, .unset, .unset] [(.int p1)] _
    refine X0.ldcInt hx hown (mvT hZ (own_w hw 4 rfl)) (g := (mkF m 129 #[.val (.int p0), .val (.int p1), .val (.int p2), .val (.int p3), .val (.int (p0 &&& (7 : Int32))), .val (.int px), .val (.int py), .val (.int (Int32.ofNat vn)), .unset, .unset, .unset] [(.int p1)])) rfl (hb hby at_129) _ ?_
    show oS p e below s₁ m 131 #[.val (.int p0), .val (.int p1), .val (.int p2), .val (.int p3), .val (.int (p0 &&& (7 : Int32))), .val (.int px), .val (.int py), .val (.int (Int32.ofNat vn)), .unset, .unset, .unset] [(.int 2147483647), (.int p1)] _
    refine XS.iand X0.here hx rfl (hb hby at_131) rfl ?_
    show oS p e below s₁ m 132 #[.val (.int p0), .val (.int p1), .val (.int p2), .val (.int p3), .val (.int (p0 &&& (7 : Int32))), .val (.int px), .val (.int py), .val (.int (Int32.ofNat vn)), .unset, .unset, .unset] [(.int (p1 &&& (2147483647 : Int32)))] _
    refine XS.iload X0.here hx rfl (hb hby at_132) rfl ?_
    show oS p e below s₁ m 134 #[.val (.int p0), .val (.int p1), .val (.int p2), .val (.int p3), .val (.int (p0 &&& (7 : Int32))), .val (.int px), .val (.int py), .val (.int (Int32.ofNat vn)), .unset, .unset, .unset] [(.int (Int32.ofNat vn)), (.int (p1 &&& (2147483647 : Int32)))] _
    refine iremM X0 hx rfl (hb hby at_134) rfl hv0 ?_
    show oS p e below s₁ m 135 #[.val (.int p0), .val (.int p1), .val (.int p2), .val (.int p3), .val (.int (p0 &&& (7 : Int32))), .val (.int px), .val (.int py), .val (.int (Int32.ofNat vn)), .unset, .unset, .unset] [(.int ((p1 &&& (2147483647 : Int32)) % (Int32.ofNat vn)))] _
    rw [hps]
    show oS p e below s₁ m 135 #[.val (.int p0), .val (.int p1), .val (.int p2), .val (.int p3), .val (.int (p0 &&& (7 : Int32))), .val (.int px), .val (.int py), .val (.int (Int32.ofNat vn)), .unset, .unset, .unset] [(.int ps)] _
    refine XS.istore X0.here hx rfl (hb hby at_135) rfl (l' := #[.val (.int p0), .val (.int p1), .val (.int p2), .val (.int p3), .val (.int (p0 &&& (7 : Int32))), .val (.int px), .val (.int py), .val (.int (Int32.ofNat vn)), .val (.int ps), .unset, .unset]) rfl ?_
    show oS p e below s₁ m 137 #[.val (.int p0), .val (.int p1), .val (.int p2), .val (.int p3), .val (.int (p0 &&& (7 : Int32))), .val (.int px), .val (.int py), .val (.int (Int32.ofNat vn)), .val (.int ps), .unset, .unset] [] _
    refine XS.iload X0.here hx rfl (hb hby at_137) rfl ?_
    show oS p e below s₁ m 139 #[.val (.int p0), .val (.int p1), .val (.int p2), .val (.int p3), .val (.int (p0 &&& (7 : Int32))), .val (.int px), .val (.int py), .val (.int (Int32.ofNat vn)), .val (.int ps), .unset, .unset] [(.int (Int32.ofNat vn))] _
    refine XS.iload X0.here hx rfl (hb hby at_139) rfl ?_
    show oS p e below s₁ m 141 #[.val (.int p0), .val (.int p1), .val (.int p2), .val (.int p3), .val (.int (p0 &&& (7 : Int32))), .val (.int px), .val (.int py), .val (.int (Int32.ofNat vn)), .val (.int ps), .unset, .unset] [(.int ps), (.int (Int32.ofNat vn))] _
    refine XS.iload X0.here hx rfl (hb hby at_141) rfl ?_
    show oS p e below s₁ m 143 #[.val (.int p0), .val (.int p1), .val (.int p2), .val (.int p3), .val (.int (p0 &&& (7 : Int32))), .val (.int px), .val (.int py), .val (.int (Int32.ofNat vn)), .val (.int ps), .unset, .unset] [(.int px), (.int ps), (.int (Int32.ofNat vn))] _
    refine XS.iload X0.here hx rfl (hb hby at_143) rfl ?_
    show oS p e below s₁ m 145 #[.val (.int p0), .val (.int p1), .val (.int p2), .val (.int p3), .val (.int (p0 &&& (7 : Int32))), .val (.int px), .val (.int py), .val (.int (Int32.ofNat vn)), .val (.int ps), .unset, .unset] [(.int py), (.int px), (.int ps), (.int (Int32.ofNat vn))] _
    refine st1 _ ?_
    show oS p e below T1 m 148 #[.val (.int p0), .val (.int p1), .val (.int p2), .val (.int p3), .val (.int (p0 &&& (7 : Int32))), .val (.int px), .val (.int py), .val (.int (Int32.ofNat vn)), .val (.int ps), .unset, .unset] [(.ref x1)] _
    refine XS.astore X1.here hx rfl (hb hby at_148) rfl rfl (l' := #[.val (.int p0), .val (.int p1), .val (.int p2), .val (.int p3), .val (.int (p0 &&& (7 : Int32))), .val (.int px), .val (.int py), .val (.int (Int32.ofNat vn)), .val (.int ps), .val (.ref x1), .unset]) rfl ?_
    show oS p e below T1 m 150 #[.val (.int p0), .val (.int p1), .val (.int p2), .val (.int p3), .val (.int (p0 &&& (7 : Int32))), .val (.int px), .val (.int py), .val (.int (Int32.ofNat vn)), .val (.int ps), .val (.ref x1), .unset] [] _
    refine XS.iload X1.here hx rfl (hb hby at_150) rfl ?_
    show oS p e below T1 m 152 #[.val (.int p0), .val (.int p1), .val (.int p2), .val (.int p3), .val (.int (p0 &&& (7 : Int32))), .val (.int px), .val (.int py), .val (.int (Int32.ofNat vn)), .val (.int ps), .val (.ref x1), .unset] [(.int (Int32.ofNat vn))] _
    refine XS.iconst X1.here hx rfl (hb hby at_152) ?_
    show oS p e below T1 m 153 #[.val (.int p0), .val (.int p1), .val (.int p2), .val (.int p3), .val (.int (p0 &&& (7 : Int32))), .val (.int px), .val (.int py), .val (.int (Int32.ofNat vn)), .val (.int ps), .val (.ref x1), .unset] [(.int 1), (.int (Int32.ofNat vn))] _
    refine XS.icmpNo X1.here hx rfl (hb hby at_153) rfl (flt hv1).1 ?_
    show oS p e below T1 m 156 #[.val (.int p0), .val (.int p1), .val (.int p2), .val (.int p3), .val (.int (p0 &&& (7 : Int32))), .val (.int px), .val (.int py), .val (.int (Int32.ofNat vn)), .val (.int ps), .val (.ref x1), .unset] [] _
    refine XS.iload X1.here hx rfl (hb hby at_156) rfl ?_
    show oS p e below T1 m 158 #[.val (.int p0), .val (.int p1), .val (.int p2), .val (.int p3), .val (.int (p0 &&& (7 : Int32))), .val (.int px), .val (.int py), .val (.int (Int32.ofNat vn)), .val (.int ps), .val (.ref x1), .unset] [(.int (Int32.ofNat vn))] _
    refine XS.bipush X1.here hx rfl (hb hby at_158) ?_
    show oS p e below T1 m 160 #[.val (.int p0), .val (.int p1), .val (.int p2), .val (.int p3), .val (.int (p0 &&& (7 : Int32))), .val (.int px), .val (.int py), .val (.int (Int32.ofNat vn)), .val (.int ps), .val (.ref x1), .unset] [(.int 16), (.int (Int32.ofNat vn))] _
    refine XS.icmpNo X1.here hx rfl (hb hby at_160) rfl (flt hv16).2.2.1 ?_
    show oS p e below T1 m 163 #[.val (.int p0), .val (.int p1), .val (.int p2), .val (.int p3), .val (.int (p0 &&& (7 : Int32))), .val (.int px), .val (.int py), .val (.int (Int32.ofNat vn)), .val (.int ps), .val (.ref x1), .unset] [] _
    refine XS.iload X1.here hx rfl (hb hby at_163) rfl ?_
    show oS p e below T1 m 165 #[.val (.int p0), .val (.int p1), .val (.int p2), .val (.int p3), .val (.int (p0 &&& (7 : Int32))), .val (.int px), .val (.int py), .val (.int (Int32.ofNat vn)), .val (.int ps), .val (.ref x1), .unset] [(.int px)] _
    refine st2 _ ?_
    show oS p e below T2 m 168 #[.val (.int p0), .val (.int p1), .val (.int p2), .val (.int p3), .val (.int (p0 &&& (7 : Int32))), .val (.int px), .val (.int py), .val (.int (Int32.ofNat vn)), .val (.int ps), .val (.ref x1), .unset] [(.int (own_ok px))] _
    refine XS.ifYes X2.here hx rfl (pc0 := 168) (pc' := 189) rfl (hb hby at_168) rfl ((if0 _ _).trans (teq hokx).1) (by decide) (by decide) ?_
    show oS p e below T2 m 189 #[.val (.int p0), .val (.int p1), .val (.int p2), .val (.int p3), .val (.int (p0 &&& (7 : Int32))), .val (.int px), .val (.int py), .val (.int (Int32.ofNat vn)), .val (.int ps), .val (.ref x1), .unset] [] _
    refine XS.iconst X2.here hx rfl (hb hby at_189) ?_
    show oS p e below T2 m 190 #[.val (.int p0), .val (.int p1), .val (.int p2), .val (.int p3), .val (.int (p0 &&& (7 : Int32))), .val (.int px), .val (.int py), .val (.int (Int32.ofNat vn)), .val (.int ps), .val (.ref x1), .unset] [(.int 0)] _
    refine XS.istore X2.here hx rfl (hb hby at_190) rfl (l' := #[.val (.int p0), .val (.int p1), .val (.int p2), .val (.int p3), .val (.int (p0 &&& (7 : Int32))), .val (.int px), .val (.int py), .val (.int (Int32.ofNat vn)), .val (.int ps), .val (.ref x1), .val (.int 0)]) rfl ?_
    show oS p e below T2 m 192 #[.val (.int p0), .val (.int p1), .val (.int p2), .val (.int p3), .val (.int (p0 &&& (7 : Int32))), .val (.int px), .val (.int py), .val (.int (Int32.ofNat vn)), .val (.int ps), .val (.ref x1), .val (.int 0)] [] _
    refine XS.aload X2.here hx rfl (hb hby at_192) rfl rfl ?_
    show oS p e below T2 m 194 #[.val (.int p0), .val (.int p1), .val (.int p2), .val (.int p3), .val (.int (p0 &&& (7 : Int32))), .val (.int px), .val (.int py), .val (.int (Int32.ofNat vn)), .val (.int ps), .val (.ref x1), .val (.int 0)] [(.ref x1)] _
    refine st3.trans ?_
    show oS p e below T3 m 197 #[.val (.int p0), .val (.int p1), .val (.int p2), .val (.int p3), .val (.int (p0 &&& (7 : Int32))), .val (.int px), .val (.int py), .val (.int (Int32.ofNat vn)), .val (.int ps), .val (.ref x1), .val (.int 0)] [(.int 0)] _
    refine XS.iload X3.here hx rfl (hb hby at_197) rfl ?_
    show oS p e below T3 m 199 #[.val (.int p0), .val (.int p1), .val (.int p2), .val (.int p3), .val (.int (p0 &&& (7 : Int32))), .val (.int px), .val (.int py), .val (.int (Int32.ofNat vn)), .val (.int ps), .val (.ref x1), .val (.int 0)] [(.int 0), (.int 0)] _
    refine XS.icmpNo X3.here hx rfl (hb hby at_199) rfl (teq (by decide : (0 : Int32) = (0 : Int32))).2 ?_
    show oS p e below T3 m 202 #[.val (.int p0), .val (.int p1), .val (.int p2), .val (.int p3), .val (.int (p0 &&& (7 : Int32))), .val (.int px), .val (.int py), .val (.int (Int32.ofNat vn)), .val (.int ps), .val (.ref x1), .val (.int 0)] [] _
    refine XS.iconst X3.here hx rfl (hb hby at_202) ?_
    show oS p e below T3 m 203 #[.val (.int p0), .val (.int p1), .val (.int p2), .val (.int p3), .val (.int (p0 &&& (7 : Int32))), .val (.int px), .val (.int py), .val (.int (Int32.ofNat vn)), .val (.int ps), .val (.ref x1), .val (.int 0)] [(.int 1)] _
    refine XS.goto X3.here hx rfl (pc0 := 203) (pc' := 207) rfl (hb hby at_203) (by decide) (by decide) ?_
    show oS p e below T3 m 207 #[.val (.int p0), .val (.int p1), .val (.int p2), .val (.int p3), .val (.int (p0 &&& (7 : Int32))), .val (.int px), .val (.int py), .val (.int (Int32.ofNat vn)), .val (.int ps), .val (.ref x1), .val (.int 0)] [(.int 1)] _
    exact retN X3 hx (t := .boolean) Bd.returns (by simp) (hb hby at_207) hr
  · show own_R n0 _ T3.heap _
    exact ⟨rfl, N3⟩
set_option maxRecDepth 65536 in
set_option maxHeartbeats 40000000 in
theorem rm0D (l : Launch) (Z : State) (a0 : Array Value) (hw : ∀ d ∈ tables_1, d.before a0 Z = true) (ws : List Jvm.Cond) (p0 : Int32) (p1 : Int32) (p2 : Int32) (p3 : Int32) (zc : Int32) (px py ps : Int32) (vn : Nat) (fm : Value) (h0 : Heap) (n0 : Nat) (O0 : Old Z n0 h0) (S_COMPACT_STRINGS : Sta Z Z.heap "java/lang/String" "COMPACT_STRINGS" "Z" (.int zc)) (hzc : ¬ zc = 0) (S_FM : Sta Z Z.heap "jdk/internal/util/Preconditions" "SIOOBE_FORMATTER" "Ljava/util/function/BiFunction;" fm) (hfm : fm.isRef = true) (hpx : ((p2 &&& (255 : Int32)).toUInt32.toUInt16.toUInt32.toInt32) = px) (hpy : ((p3 &&& (255 : Int32)).toUInt32.toUInt16.toUInt32.toInt32) = py) (hkn : ((p0 &&& (7 : Int32)) = (2 : Int32) ∧ vn = 1) ∨ ((p0 &&& (7 : Int32)) = (3 : Int32) ∧ vn = 2) ∨ ((p0 &&& (7 : Int32)) = (4 : Int32) ∧ vn = 3) ∨ ((p0 &&& (7 : Int32)) = (5 : Int32) ∧ vn = 15) ∨ ((p0 &&& (7 : Int32)) = (6 : Int32) ∧ vn = 16) ∨ ((p0 &&& (7 : Int32)) = (7 : Int32) ∧ vn = 17)) (hv0 : ¬ ((Int32.ofNat vn) = (0 : Int32))) (hps : ((p1 &&& (2147483647 : Int32)) % (Int32.ofNat vn)) = ps) (hvn : vn = 1 ∨ vn = 2 ∨ vn = 3 ∨ vn = 15 ∨ vn = 16 ∨ vn = 17) (hpc : ∀ c ∈ (own_cs vn ps px py), ¬ c < 0 ∧ ¬ (255 : Int32) < c) (hv1 : ¬ ((Int32.ofNat vn) < (1 : Int32))) (hvl : (own_cs vn ps px py).length ≤ 4000) (hv16 : ¬ ((16 : Int32) < (Int32.ofNat vn))) (hqb : ¬ ((16 : Int32) < (Int32.ofNat (own_cs vn ps px py).length))) (hqa : (0 : Int32) < (Int32.ofNat (own_cs vn ps px py).length)) (hheldI : Jvm.Lit.constHeld Z "com/example/dispensd/dispensd/Identifier" 34) (hcw : Jvm.Lit.compactW.before a0 Z = true) (hokx : ¬ ((own_ok px) = (0 : Int32))) (hvo : ¬ ((Int32.ofNat vn) = (1 : Int32))) (hoky : (own_ok py) = (0 : Int32)) (hex : ∃ c ∈ (own_cs vn ps px py), (own_find own_A (c.toInt8.toInt32) 0) < 0) :
    MetFree l x (head1 (Jvm.Cond.code x code maxLocals ret :: ws) room_1) (fun a U => a = #[(.int p0), (.int p1), (.int p2), (.int p3)] ∧ Z.Warmed39 U.vm ∧ U.heap = h0 ∧ U.vm.interned = Z.vm.interned) (fun _ _ _ _ _ => True) (fun _ U o U' => ∃ v L, o = .returned v ∧ own_R n0 v U'.heap L ∧ ReturnedEndW U o U' L room_1.cells room_1.slots) := by
  refine MetFree.of_bodySF (plainFor_of_name pn_0) hisR ?_
  intro p e s m args below meth c s₁ Bd hml0 hP hK
  obtain ⟨rfl, hZ, hh, hint⟩ := hP
  have hx := Bd.exec
  have hby := Bd.bytes
  have hml : c.maxLocals = 11 := hml0
  have hown : s.vm.findClass "com/example/dispensd/dispensd/IdentifierIsValidPinLaw" = some m.cls := findClass_of_methodNamed Bd.named
  have hnm := (name_of_methodNamed Bd.named Bd.method).1
  have X0 : Stand p l e room_1 s m #[(.int p0), (.int p1), (.int p2), (.int p3)] below meth c s₁ [] 0 0 := Stand.of_body Bd
  have e0 : s₁.heap = h0 := by rw [← hh, Bd.state]; rfl
  have N0 := Fr.nil n0
  have pre0 : ∀ t, Steps p.tables e below (s₁.setTop (mkF m 0 #[.val (.int p0), .val (.int p1), .val (.int p2), .val (.int p3), .unset, .unset, .unset, .unset, .unset, .unset, .unset] [])) t → Steps p.tables e below (s₁.setTop (entryFrame m #[(.int p0), (.int p1), (.int p2), (.int p3)] maxLocals)) t := fun t k => castTop (ef_0 m p0 p1 p2 p3) k
  obtain ⟨_, _, ⟨T1, L1, k1, n1⟩, -, X1, ⟨Lc1, hQ1, l1, y1, z1⟩, st1⟩ := Jvm.LawKit.callS X0 hx (y := (⟨"com/example/dispensd/dispensd/IdentifierIsValidPinLaw", "make", "(IICC)Ljava/lang/String;"⟩ : MethodName)) hown (mvT hZ (own_w hw 5 rfl)) (mvT hZ (own_w hw 6 rfl)) (mvT hZ (own_w hw 7 rfl)) (mvT hZ (own_w hw 8 rfl)) (by decide) (backOf (W := 0) (rmM l Z a0 hw [] vn ps px py zc  h0 n0 O0 hvn S_COMPACT_STRINGS hzc hpc) hZ (own_w hw 8 rfl) (own_w hw 7 rfl) (by decide) (by decide)) (g := (mkF m 145 #[.val (.int p0), .val (.int p1), .val (.int p2), .val (.int p3), .val (.int (p0 &&& (7 : Int32))), .val (.int px), .val (.int py), .val (.int (Int32.ofNat vn)), .val (.int ps), .unset, .unset] [(.int py), (.int px), (.int ps), (.int (Int32.ofNat vn))])) rfl (by rw [hml]; rfl) (argsL := [(.int (Int32.ofNat vn)), (.int ps), (.int px), (.int py)]) (rest := []) (lenOf pd_11 rfl) rfl (by show 2 * 0 + _ ≤ _; exact Nat.le_of_eq rfl) (hb hby at_145) (fun _ _ => ⟨rfl, e0, (by decide : 0 + 3 ≤ _), (by decide : 0 + 38 ≤ _)⟩)
  dsimp only [Pt.U, Pt.locs, Pt.cells, Pt.slots] at X1 l1 y1 z1 st1 hQ1
  subst l1 y1 z1
  obtain ⟨x1, t1, kt1, rfl, N1q, K1, Ex1, Fv1, Fc1, Vt1⟩ := hQ1
  have N1 := Fr.app N0 N1q
  have O1 := O0.keep K1 all0
  obtain ⟨_, _, ⟨T2, L2, k2, n2⟩, -, X2, ⟨Lc2, hQ2, l2, y2, z2⟩, st2⟩ := Jvm.LawKit.callS X1 hx (y := (⟨"com/example/dispensd/dispensd/IdentifierIsValidPinLaw", "ok", "(C)Z"⟩ : MethodName)) hown (mvT hZ (own_w hw 42 rfl)) (mvT hZ (own_w hw 43 rfl)) (mvT hZ (own_w hw 7 rfl)) (mvT hZ (own_w hw 44 rfl)) (by decide) (backOf (W := 0) (rmOk l Z a0 hw [] px  T1.heap n0 O1 ) hZ (own_w hw 44 rfl) (own_w hw 7 rfl) (by decide) (by decide)) (g := (mkF m 165 #[.val (.int p0), .val (.int p1), .val (.int p2), .val (.int p3), .val (.int (p0 &&& (7 : Int32))), .val (.int px), .val (.int py), .val (.int (Int32.ofNat vn)), .val (.int ps), .val (.ref x1), .unset] [(.int px)])) rfl (by rw [hml]; rfl) (argsL := [(.int px)]) (rest := []) (lenOf pd_12 rfl) rfl (by show 2 * 0 + _ ≤ _; exact Nat.le_of_eq rfl) (hb hby at_165) (fun _ _ => ⟨rfl, rfl, (by decide : 3 + 0 ≤ _), (by decide : 38 + 0 ≤ _)⟩)
  dsimp only [Pt.U, Pt.locs, Pt.cells, Pt.slots] at X2 l2 y2 z2 st2 hQ2
  subst l2 y2 z2
  obtain ⟨rfl, N2q, e2⟩ := hQ2
  have N2 := Fr.app N1 N2q
  obtain ⟨_, _, ⟨T3, L3, k3, n3⟩, -, X3, ⟨Lc3, hQ3, l3, y3, z3⟩, st3⟩ := Jvm.LawKit.callS X2 hx (y := (⟨"com/example/dispensd/dispensd/IdentifierIsValidPinLaw", "ok", "(C)Z"⟩ : MethodName)) hown (mvT hZ (own_w hw 42 rfl)) (mvT hZ (own_w hw 43 rfl)) (mvT hZ (own_w hw 7 rfl)) (mvT hZ (own_w hw 44 rfl)) (by decide) (backOf (W := 0) (rmOk l Z a0 hw [] py  T1.heap n0 O1 ) hZ (own_w hw 44 rfl) (own_w hw 7 rfl) (by decide) (by decide)) (g := (mkF m 179 #[.val (.int p0), .val (.int p1), .val (.int p2), .val (.int p3), .val (.int (p0 &&& (7 : Int32))), .val (.int px), .val (.int py), .val (.int (Int32.ofNat vn)), .val (.int ps), .val (.ref x1), .unset] [(.int py)])) rfl (by rw [hml]; rfl) (argsL := [(.int py)]) (rest := []) (lenOf pd_12 rfl) rfl (by show 2 * 0 + _ ≤ _; exact Nat.le_of_eq rfl) (hb hby at_179) (fun _ _ => ⟨rfl, e2, (by decide : 3 + 0 ≤ _), (by decide : 38 + 0 ≤ _)⟩)
  dsimp only [Pt.U, Pt.locs, Pt.cells, Pt.slots] at X3 l3 y3 z3 st3 hQ3
  subst l3 y3 z3
  obtain ⟨rfl, N3q, e3⟩ := hQ3
  have N3 := Fr.app N2 N3q
  obtain ⟨_, _, ⟨T4, L4, k4, n4⟩, -, X4, Sn4, sz4, ⟨Lc4, hQ4, l4, y4, z4⟩, st4⟩ := callSS X3 hx (y := (⟨"com/example/dispensd/dispensd/Identifier", "isValid", "(Ljava/lang/String;)Z"⟩ : MethodName)) hown (mvT hZ (own_w hw 0 rfl)) (mvT hZ (own_w hw 1 rfl)) (mvT hZ (own_w hw 2 rfl)) (mvT hZ (own_w hw 3 rfl)) (by decide) (own_backI (W := 0) (rmVB l Z a0 hw [] x1 (own_cs vn ps px py) t1 kt1 zc fm T1.heap n0 O1 Ex1 Fv1 Fc1 Vt1 S_COMPACT_STRINGS hzc S_FM hfm hpc hvl hqb hqa hheldI hcw hex) hZ (own_w hw 3 rfl) (own_w hw 2 rfl) (by decide) (by decide)) (g := (mkF m 194 #[.val (.int p0), .val (.int p1), .val (.int p2), .val (.int p3), .val (.int (p0 &&& (7 : Int32))), .val (.int px), .val (.int py), .val (.int (Int32.ofNat vn)), .val (.int ps), .val (.ref x1), .val (.int 0)] [(.ref x1)])) rfl (by rw [hml]; rfl) (argsL := [(.ref x1)]) (rest := []) (lenOf pd_13 rfl) rfl (by show 2 * 0 + _ ≤ _; exact Nat.le_of_eq rfl) (hb hby at_194) (fun vm1 hvm1 => ⟨rfl, e3, (by decide : 3 + 2 ≤ _), (by decide : 38 + 260 ≤ _), (own_int hvm1).trans hint⟩)
  have hZ4 : Z.Warmed39 (s.setVm T4.vm).vm := State.Warmed39.trans hZ Sn4.1
  have hown4 : (s.setVm T4.vm).vm.findClass "com/example/dispensd/dispensd/IdentifierIsValidPinLaw" = some m.cls := by rw [show (s.setVm T4.vm).vm = T4.vm from rfl, Sn4.1.alike.findClass]; exact hown
  dsimp only [Pt.U, Pt.locs, Pt.cells, Pt.slots] at X4 l4 y4 z4 st4 hQ4
  subst l4 y4 z4
  obtain ⟨rfl, N4q, O4⟩ := hQ4
  have N4 := Fr.app N3 N4q
  obtain ⟨fs, hr, hrun, hended, hRW⟩ := X4.leaveW Sn4 (Nat.le_refl _) (v := some (.int 1)) (fun h => by rw [Bd.returns] at h; cases h)
  refine ⟨_, _, pre0 _ ?_, hrun, hended, _, _, rfl, ?_, hRW.1, hRW.2.1, hRW.2.2.1, hRW.2.2.2.mono (by decide) (by decide)⟩
  · show oS p e below s₁ m 0 #[.val (.int p0), .val (.int p1), .val (.int p2), .val (.int p3), .unset, .unset, .unset, .unset, .unset, .unset, .unset] [] _
    refine XS.iloadN X0.here hx rfl (hb hby at_0) rfl ?_
    show oS p e below s₁ m 1 #[.val (.int p0), .val (.int p1), .val (.int p2), .val (.int p3), .unset, .unset, .unset, .unset, .unset, .unset, .unset] [(.int p0)] _
    refine XS.bipush X0.here hx rfl (hb hby at_1) ?_
    show oS p e below s₁ m 3 #[.val (.int p0), .val (.int p1), .val (.int p2), .val (.int p3), .unset, .unset, .unset, .unset, .unset, .unset, .unset] [(.int 7), (.int p0)] _
    refine XS.iand X0.here hx rfl (hb hby at_3) rfl ?_
    show oS p e below s₁ m 4 #[.val (.int p0), .val (.int p1), .val (.int p2), .val (.int p3), .unset, .unset, .unset, .unset, .unset, .unset, .unset] [(.int (p0 &&& (7 : Int32)))] _
    refine XS.istore X0.here hx rfl (hb hby at_4) rfl (l' := #[.val (.int p0), .val (.int p1), .val (.int p2), .val (.int p3), .val (.int (p0 &&& (7 : Int32))), .unset, .unset, .unset, .unset, .unset, .unset]) rfl ?_
    show oS p e below s₁ m 6 #[.val (.int p0), .val (.int p1), .val (.int p2), .val (.int p3), .val (.int (p0 &&& (7 : Int32))), .unset, .unset, .unset, .unset, .unset, .unset] [] _
    refine XS.iloadN X0.here hx rfl (hb hby at_6) rfl ?_
    show oS p e below s₁ m 7 #[.val (.int p0), .val (.int p1), .val (.int p2), .val (.int p3), .val (.int (p0 &&& (7 : Int32))), .unset, .unset, .unset, .unset, .unset, .unset] [(.int p2)] _
    refine XS.sipush X0.here hx rfl (hb hby at_7) ?_
    show oS p e below s₁ m 10 #[.val (.int p0), .val (.int p1), .val (.int p2), .val (.int p3), .val (.int (p0 &&& (7 : Int32))), .unset, .unset, .unset, .unset, .unset, .unset] [(.int 255), (.int p2)] _
    refine XS.iand X0.here hx rfl (hb hby at_10) rfl ?_
    show oS p e below s₁ m 11 #[.val (.int p0), .val (.int p1), .val (.int p2), .val (.int p3), .val (.int (p0 &&& (7 : Int32))), .unset, .unset, .unset, .unset, .unset, .unset] [(.int (p2 &&& (255 : Int32)))] _
    refine XS.i2c X0.here hx rfl (hb hby at_11) rfl ?_
    show oS p e below s₁ m 12 #[.val (.int p0), .val (.int p1), .val (.int p2), .val (.int p3), .val (.int (p0 &&& (7 : Int32))), .unset, .unset, .unset, .unset, .unset, .unset] [(.int ((p2 &&& (255 : Int32)).toUInt32.toUInt16.toUInt32.toInt32))] _
    rw [hpx]
    show oS p e below s₁ m 12 #[.val (.int p0), .val (.int p1), .val (.int p2), .val (.int p3), .val (.int (p0 &&& (7 : Int32))), .unset, .unset, .unset, .unset, .unset, .unset] [(.int px)] _
    refine XS.istore X0.here hx rfl (hb hby at_12) rfl (l' := #[.val (.int p0), .val (.int p1), .val (.int p2), .val (.int p3), .val (.int (p0 &&& (7 : Int32))), .val (.int px), .unset, .unset, .unset, .unset, .unset]) rfl ?_
    show oS p e below s₁ m 14 #[.val (.int p0), .val (.int p1), .val (.int p2), .val (.int p3), .val (.int (p0 &&& (7 : Int32))), .val (.int px), .unset, .unset, .unset, .unset, .unset] [] _
    refine XS.iloadN X0.here hx rfl (hb hby at_14) rfl ?_
    show oS p e below s₁ m 15 #[.val (.int p0), .val (.int p1), .val (.int p2), .val (.int p3), .val (.int (p0 &&& (7 : Int32))), .val (.int px), .unset, .unset, .unset, .unset, .unset] [(.int p3)] _
    refine XS.sipush X0.here hx rfl (hb hby at_15) ?_
    show oS p e below s₁ m 18 #[.val (.int p0), .val (.int p1), .val (.int p2), .val (.int p3), .val (.int (p0 &&& (7 : Int32))), .val (.int px), .unset, .unset, .unset, .unset, .unset] [(.int 255), (.int p3)] _
    refine XS.iand X0.here hx rfl (hb hby at_18) rfl ?_
    show oS p e below s₁ m 19 #[.val (.int p0), .val (.int p1), .val (.int p2), .val (.int p3), .val (.int (p0 &&& (7 : Int32))), .val (.int px), .unset, .unset, .unset, .unset, .unset] [(.int (p3 &&& (255 : Int32)))] _
    refine XS.i2c X0.here hx rfl (hb hby at_19) rfl ?_
    show oS p e below s₁ m 20 #[.val (.int p0), .val (.int p1), .val (.int p2), .val (.int p3), .val (.int (p0 &&& (7 : Int32))), .val (.int px), .unset, .unset, .unset, .unset, .unset] [(.int ((p3 &&& (255 : Int32)).toUInt32.toUInt16.toUInt32.toInt32))] _
    rw [hpy]
    show oS p e below s₁ m 20 #[.val (.int p0), .val (.int p1), .val (.int p2), .val (.int p3), .val (.int (p0 &&& (7 : Int32))), .val (.int px), .unset, .unset, .unset, .unset, .unset] [(.int py)] _
    refine XS.istore X0.here hx rfl (hb hby at_20) rfl (l' := #[.val (.int p0), .val (.int p1), .val (.int p2), .val (.int p3), .val (.int (p0 &&& (7 : Int32))), .val (.int px), .val (.int py), .unset, .unset, .unset, .unset]) rfl ?_
    show oS p e below s₁ m 22 #[.val (.int p0), .val (.int p1), .val (.int p2), .val (.int p3), .val (.int (p0 &&& (7 : Int32))), .val (.int px), .val (.int py), .unset, .unset, .unset, .unset] [] _
    refine lwN X0 hx hZ hby e0 hkn _ ?_
    show oS p e below s₁ m 119 #[.val (.int p0), .val (.int p1), .val (.int p2), .val (.int p3), .val (.int (p0 &&& (7 : Int32))), .val (.int px), .val (.int py), .val (.int (Int32.ofNat vn)), .unset, .unset, .unset] [] _
    refine XS.iload X0.here hx rfl (hb hby at_119) rfl ?_
    show oS p e below s₁ m 121 #[.val (.int p0), .val (.int p1), .val (.int p2), .val (.int p3), .val (.int (p0 &&& (7 : Int32))), .val (.int px), .val (.int py), .val (.int (Int32.ofNat vn)), .unset, .unset, .unset] [(.int (Int32.ofNat vn))] _
    refine XS.ifYes X0.here hx rfl (pc0 := 121) (pc' := 128) rfl (hb hby at_121) rfl ((if0 _ _).trans (feq hv0).2) (by decide) (by decide) ?_
    show oS p e below s₁ m 128 #[.val (.int p0), .val (.int p1), .val (.int p2), .val (.int p3), .val (.int (p0 &&& (7 : Int32))), .val (.int px), .val (.int py), .val (.int (Int32.ofNat vn)), .unset, .unset, .unset] [] _
    refine XS.iloadN X0.here hx rfl (hb hby at_128) rfl ?_
    show oS p e below s₁ m 129 #[.val (.int p0), .val (.int p1), .val (.int p2), .val (.int p3), .val (.int (p0 &&& (7 : Int32))), .val (.int px), .val (.int py), .val (.int (Int32.ofNat vn)), .unset, .unset, .unset] [(.int p1)] _
    refine X0.ldcInt hx hown (mvT hZ (own_w hw 4 rfl)) (g := (mkF m 129 #[.val (.int p0), .val (.int p1), .val (.int p2), .val (.int p3), .val (.int (p0 &&& (7 : Int32))), .val (.int px), .val (.int py), .val (.int (Int32.ofNat vn)), .unset, .unset, .unset] [(.int p1)])) rfl (hb hby at_129) _ ?_
    show oS p e below s₁ m 131 #[.val (.int p0), .val (.int p1), .val (.int p2), .val (.int p3), .val (.int (p0 &&& (7 : Int32))), .val (.int px), .val (.int py), .val (.int (Int32.ofNat vn)), .unset, .unset, .unset] [(.int 2147483647), (.int p1)] _
    refine XS.iand X0.here hx rfl (hb hby at_131) rfl ?_
    show oS p e below s₁ m 132 #[.val (.int p0), .val (.int p1), .val (.int p2), .val (.int p3), .val (.int (p0 &&& (7 : Int32))), .val (.int px), .val (.int py), .val (.int (Int32.ofNat vn)), .unset, .unset, .unset] [(.int (p1 &&& (2147483647 : Int32)))] _
    refine XS.iload X0.here hx rfl (hb hby at_132) rfl ?_
    show oS p e below s₁ m 134 #[.val (.int p0), .val (.int p1), .val (.int p2), .val (.int p3), .val (.int (p0 &&& (7 : Int32))), .val (.int px), .val (.int py), .val (.int (Int32.ofNat vn)), .unset, .unset, .unset] [(.int (Int32.ofNat vn)), (.int (p1 &&& (2147483647 : Int32)))] _
    refine iremM X0 hx rfl (hb hby at_134) rfl hv0 ?_
    show oS p e below s₁ m 135 #[.val (.int p0), .val (.int p1), .val (.int p2), .val (.int p3), .val (.int (p0 &&& (7 : Int32))), .val (.int px), .val (.int py), .val (.int (Int32.ofNat vn)), .unset, .unset, .unset] [(.int ((p1 &&& (2147483647 : Int32)) % (Int32.ofNat vn)))] _
    rw [hps]
    show oS p e below s₁ m 135 #[.val (.int p0), .val (.int p1), .val (.int p2), .val (.int p3), .val (.int (p0 &&& (7 : Int32))), .val (.int px), .val (.int py), .val (.int (Int32.ofNat vn)), .unset, .unset, .unset] [(.int ps)] _
    refine XS.istore X0.here hx rfl (hb hby at_135) rfl (l' := #[.val (.int p0), .val (.int p1), .val (.int p2), .val (.int p3), .val (.int (p0 &&& (7 : Int32))), .val (.int px), .val (.int py), .val (.int (Int32.ofNat vn)), .val (.int ps), .unset, .unset]) rfl ?_
    show oS p e below s₁ m 137 #[.val (.int p0), .val (.int p1), .val (.int p2), .val (.int p3), .val (.int (p0 &&& (7 : Int32))), .val (.int px), .val (.int py), .val (.int (Int32.ofNat vn)), .val (.int ps), .unset, .unset] [] _
    refine XS.iload X0.here hx rfl (hb hby at_137) rfl ?_
    show oS p e below s₁ m 139 #[.val (.int p0), .val (.int p1), .val (.int p2), .val (.int p3), .val (.int (p0 &&& (7 : Int32))), .val (.int px), .val (.int py), .val (.int (Int32.ofNat vn)), .val (.int ps), .unset, .unset] [(.int (Int32.ofNat vn))] _
    refine XS.iload X0.here hx rfl (hb hby at_139) rfl ?_
    show oS p e below s₁ m 141 #[.val (.int p0), .val (.int p1), .val (.int p2), .val (.int p3), .val (.int (p0 &&& (7 : Int32))), .val (.int px), .val (.int py), .val (.int (Int32.ofNat vn)), .val (.int ps), .unset, .unset] [(.int ps), (.int (Int32.ofNat vn))] _
    refine XS.iload X0.here hx rfl (hb hby at_141) rfl ?_
    show oS p e below s₁ m 143 #[.val (.int p0), .val (.int p1), .val (.int p2), .val (.int p3), .val (.int (p0 &&& (7 : Int32))), .val (.int px), .val (.int py), .val (.int (Int32.ofNat vn)), .val (.int ps), .unset, .unset] [(.int px), (.int ps), (.int (Int32.ofNat vn))] _
    refine XS.iload X0.here hx rfl (hb hby at_143) rfl ?_
    show oS p e below s₁ m 145 #[.val (.int p0), .val (.int p1), .val (.int p2), .val (.int p3), .val (.int (p0 &&& (7 : Int32))), .val (.int px), .val (.int py), .val (.int (Int32.ofNat vn)), .val (.int ps), .unset, .unset] [(.int py), (.int px), (.int ps), (.int (Int32.ofNat vn))] _
    refine st1 _ ?_
    show oS p e below T1 m 148 #[.val (.int p0), .val (.int p1), .val (.int p2), .val (.int p3), .val (.int (p0 &&& (7 : Int32))), .val (.int px), .val (.int py), .val (.int (Int32.ofNat vn)), .val (.int ps), .unset, .unset] [(.ref x1)] _
    refine XS.astore X1.here hx rfl (hb hby at_148) rfl rfl (l' := #[.val (.int p0), .val (.int p1), .val (.int p2), .val (.int p3), .val (.int (p0 &&& (7 : Int32))), .val (.int px), .val (.int py), .val (.int (Int32.ofNat vn)), .val (.int ps), .val (.ref x1), .unset]) rfl ?_
    show oS p e below T1 m 150 #[.val (.int p0), .val (.int p1), .val (.int p2), .val (.int p3), .val (.int (p0 &&& (7 : Int32))), .val (.int px), .val (.int py), .val (.int (Int32.ofNat vn)), .val (.int ps), .val (.ref x1), .unset] [] _
    refine XS.iload X1.here hx rfl (hb hby at_150) rfl ?_
    show oS p e below T1 m 152 #[.val (.int p0), .val (.int p1), .val (.int p2), .val (.int p3), .val (.int (p0 &&& (7 : Int32))), .val (.int px), .val (.int py), .val (.int (Int32.ofNat vn)), .val (.int ps), .val (.ref x1), .unset] [(.int (Int32.ofNat vn))] _
    refine XS.iconst X1.here hx rfl (hb hby at_152) ?_
    show oS p e below T1 m 153 #[.val (.int p0), .val (.int p1), .val (.int p2), .val (.int p3), .val (.int (p0 &&& (7 : Int32))), .val (.int px), .val (.int py), .val (.int (Int32.ofNat vn)), .val (.int ps), .val (.ref x1), .unset] [(.int 1), (.int (Int32.ofNat vn))] _
    refine XS.icmpNo X1.here hx rfl (hb hby at_153) rfl (flt hv1).1 ?_
    show oS p e below T1 m 156 #[.val (.int p0), .val (.int p1), .val (.int p2), .val (.int p3), .val (.int (p0 &&& (7 : Int32))), .val (.int px), .val (.int py), .val (.int (Int32.ofNat vn)), .val (.int ps), .val (.ref x1), .unset] [] _
    refine XS.iload X1.here hx rfl (hb hby at_156) rfl ?_
    show oS p e below T1 m 158 #[.val (.int p0), .val (.int p1), .val (.int p2), .val (.int p3), .val (.int (p0 &&& (7 : Int32))), .val (.int px), .val (.int py), .val (.int (Int32.ofNat vn)), .val (.int ps), .val (.ref x1), .unset] [(.int (Int32.ofNat vn))] _
    refine XS.bipush X1.here hx rfl (hb hby at_158) ?_
    show oS p e below T1 m 160 #[.val (.int p0), .val (.int p1), .val (.int p2), .val (.int p3), .val (.int (p0 &&& (7 : Int32))), .val (.int px), .val (.int py), .val (.int (Int32.ofNat vn)), .val (.int ps), .val (.ref x1), .unset] [(.int 16), (.int (Int32.ofNat vn))] _
    refine XS.icmpNo X1.here hx rfl (hb hby at_160) rfl (flt hv16).2.2.1 ?_
    show oS p e below T1 m 163 #[.val (.int p0), .val (.int p1), .val (.int p2), .val (.int p3), .val (.int (p0 &&& (7 : Int32))), .val (.int px), .val (.int py), .val (.int (Int32.ofNat vn)), .val (.int ps), .val (.ref x1), .unset] [] _
    refine XS.iload X1.here hx rfl (hb hby at_163) rfl ?_
    show oS p e below T1 m 165 #[.val (.int p0), .val (.int p1), .val (.int p2), .val (.int p3), .val (.int (p0 &&& (7 : Int32))), .val (.int px), .val (.int py), .val (.int (Int32.ofNat vn)), .val (.int ps), .val (.ref x1), .unset] [(.int px)] _
    refine st2 _ ?_
    show oS p e below T2 m 168 #[.val (.int p0), .val (.int p1), .val (.int p2), .val (.int p3), .val (.int (p0 &&& (7 : Int32))), .val (.int px), .val (.int py), .val (.int (Int32.ofNat vn)), .val (.int ps), .val (.ref x1), .unset] [(.int (own_ok px))] _
    refine XS.ifNo X2.here hx rfl (hb hby at_168) rfl ((if0 _ _).trans (feq hokx).1) ?_
    show oS p e below T2 m 171 #[.val (.int p0), .val (.int p1), .val (.int p2), .val (.int p3), .val (.int (p0 &&& (7 : Int32))), .val (.int px), .val (.int py), .val (.int (Int32.ofNat vn)), .val (.int ps), .val (.ref x1), .unset] [] _
    refine XS.iload X2.here hx rfl (hb hby at_171) rfl ?_
    show oS p e below T2 m 173 #[.val (.int p0), .val (.int p1), .val (.int p2), .val (.int p3), .val (.int (p0 &&& (7 : Int32))), .val (.int px), .val (.int py), .val (.int (Int32.ofNat vn)), .val (.int ps), .val (.ref x1), .unset] [(.int (Int32.ofNat vn))] _
    refine XS.iconst X2.here hx rfl (hb hby at_173) ?_
    show oS p e below T2 m 174 #[.val (.int p0), .val (.int p1), .val (.int p2), .val (.int p3), .val (.int (p0 &&& (7 : Int32))), .val (.int px), .val (.int py), .val (.int (Int32.ofNat vn)), .val (.int ps), .val (.ref x1), .unset] [(.int 1), (.int (Int32.ofNat vn))] _
    refine XS.icmpNo X2.here hx rfl (hb hby at_174) rfl (feq hvo).1 ?_
    show oS p e below T2 m 177 #[.val (.int p0), .val (.int p1), .val (.int p2), .val (.int p3), .val (.int (p0 &&& (7 : Int32))), .val (.int px), .val (.int py), .val (.int (Int32.ofNat vn)), .val (.int ps), .val (.ref x1), .unset] [] _
    refine XS.iload X2.here hx rfl (hb hby at_177) rfl ?_
    show oS p e below T2 m 179 #[.val (.int p0), .val (.int p1), .val (.int p2), .val (.int p3), .val (.int (p0 &&& (7 : Int32))), .val (.int px), .val (.int py), .val (.int (Int32.ofNat vn)), .val (.int ps), .val (.ref x1), .unset] [(.int py)] _
    refine st3 _ ?_
    show oS p e below T3 m 182 #[.val (.int p0), .val (.int p1), .val (.int p2), .val (.int p3), .val (.int (p0 &&& (7 : Int32))), .val (.int px), .val (.int py), .val (.int (Int32.ofNat vn)), .val (.int ps), .val (.ref x1), .unset] [(.int (own_ok py))] _
    refine XS.ifYes X3.here hx rfl (pc0 := 182) (pc' := 189) rfl (hb hby at_182) rfl ((if0 _ _).trans (teq hoky).1) (by decide) (by decide) ?_
    show oS p e below T3 m 189 #[.val (.int p0), .val (.int p1), .val (.int p2), .val (.int p3), .val (.int (p0 &&& (7 : Int32))), .val (.int px), .val (.int py), .val (.int (Int32.ofNat vn)), .val (.int ps), .val (.ref x1), .unset] [] _
    refine XS.iconst X3.here hx rfl (hb hby at_189) ?_
    show oS p e below T3 m 190 #[.val (.int p0), .val (.int p1), .val (.int p2), .val (.int p3), .val (.int (p0 &&& (7 : Int32))), .val (.int px), .val (.int py), .val (.int (Int32.ofNat vn)), .val (.int ps), .val (.ref x1), .unset] [(.int 0)] _
    refine XS.istore X3.here hx rfl (hb hby at_190) rfl (l' := #[.val (.int p0), .val (.int p1), .val (.int p2), .val (.int p3), .val (.int (p0 &&& (7 : Int32))), .val (.int px), .val (.int py), .val (.int (Int32.ofNat vn)), .val (.int ps), .val (.ref x1), .val (.int 0)]) rfl ?_
    show oS p e below T3 m 192 #[.val (.int p0), .val (.int p1), .val (.int p2), .val (.int p3), .val (.int (p0 &&& (7 : Int32))), .val (.int px), .val (.int py), .val (.int (Int32.ofNat vn)), .val (.int ps), .val (.ref x1), .val (.int 0)] [] _
    refine XS.aload X3.here hx rfl (hb hby at_192) rfl rfl ?_
    show oS p e below T3 m 194 #[.val (.int p0), .val (.int p1), .val (.int p2), .val (.int p3), .val (.int (p0 &&& (7 : Int32))), .val (.int px), .val (.int py), .val (.int (Int32.ofNat vn)), .val (.int ps), .val (.ref x1), .val (.int 0)] [(.ref x1)] _
    refine st4.trans ?_
    show oS p e below T4 m 197 #[.val (.int p0), .val (.int p1), .val (.int p2), .val (.int p3), .val (.int (p0 &&& (7 : Int32))), .val (.int px), .val (.int py), .val (.int (Int32.ofNat vn)), .val (.int ps), .val (.ref x1), .val (.int 0)] [(.int 0)] _
    refine XS.iload X4.here hx rfl (hb hby at_197) rfl ?_
    show oS p e below T4 m 199 #[.val (.int p0), .val (.int p1), .val (.int p2), .val (.int p3), .val (.int (p0 &&& (7 : Int32))), .val (.int px), .val (.int py), .val (.int (Int32.ofNat vn)), .val (.int ps), .val (.ref x1), .val (.int 0)] [(.int 0), (.int 0)] _
    refine XS.icmpNo X4.here hx rfl (hb hby at_199) rfl (teq (by decide : (0 : Int32) = (0 : Int32))).2 ?_
    show oS p e below T4 m 202 #[.val (.int p0), .val (.int p1), .val (.int p2), .val (.int p3), .val (.int (p0 &&& (7 : Int32))), .val (.int px), .val (.int py), .val (.int (Int32.ofNat vn)), .val (.int ps), .val (.ref x1), .val (.int 0)] [] _
    refine XS.iconst X4.here hx rfl (hb hby at_202) ?_
    show oS p e below T4 m 203 #[.val (.int p0), .val (.int p1), .val (.int p2), .val (.int p3), .val (.int (p0 &&& (7 : Int32))), .val (.int px), .val (.int py), .val (.int (Int32.ofNat vn)), .val (.int ps), .val (.ref x1), .val (.int 0)] [(.int 1)] _
    refine XS.goto X4.here hx rfl (pc0 := 203) (pc' := 207) rfl (hb hby at_203) (by decide) (by decide) ?_
    show oS p e below T4 m 207 #[.val (.int p0), .val (.int p1), .val (.int p2), .val (.int p3), .val (.int (p0 &&& (7 : Int32))), .val (.int px), .val (.int py), .val (.int (Int32.ofNat vn)), .val (.int ps), .val (.ref x1), .val (.int 0)] [(.int 1)] _
    exact retN X4 hx (t := .boolean) Bd.returns (by simp) (hb hby at_207) hr
  · show own_R n0 _ T4.heap _
    exact ⟨rfl, N4⟩
set_option maxRecDepth 65536 in
set_option maxHeartbeats 40000000 in
theorem rm0L (l : Launch) (Z : State) (a0 : Array Value) (hw : ∀ d ∈ tables_1, d.before a0 Z = true) (ws : List Jvm.Cond) (p0 : Int32) (p1 : Int32) (p2 : Int32) (p3 : Int32) (zc : Int32) (px py ps : Int32) (vn : Nat) (fm : Value) (h0 : Heap) (n0 : Nat) (O0 : Old Z n0 h0) (S_COMPACT_STRINGS : Sta Z Z.heap "java/lang/String" "COMPACT_STRINGS" "Z" (.int zc)) (hzc : ¬ zc = 0) (S_FM : Sta Z Z.heap "jdk/internal/util/Preconditions" "SIOOBE_FORMATTER" "Ljava/util/function/BiFunction;" fm) (hfm : fm.isRef = true) (hpx : ((p2 &&& (255 : Int32)).toUInt32.toUInt16.toUInt32.toInt32) = px) (hpy : ((p3 &&& (255 : Int32)).toUInt32.toUInt16.toUInt32.toInt32) = py) (hkn : ((p0 &&& (7 : Int32)) = (2 : Int32) ∧ vn = 1) ∨ ((p0 &&& (7 : Int32)) = (3 : Int32) ∧ vn = 2) ∨ ((p0 &&& (7 : Int32)) = (4 : Int32) ∧ vn = 3) ∨ ((p0 &&& (7 : Int32)) = (5 : Int32) ∧ vn = 15) ∨ ((p0 &&& (7 : Int32)) = (6 : Int32) ∧ vn = 16) ∨ ((p0 &&& (7 : Int32)) = (7 : Int32) ∧ vn = 17)) (hv0 : ¬ ((Int32.ofNat vn) = (0 : Int32))) (hps : ((p1 &&& (2147483647 : Int32)) % (Int32.ofNat vn)) = ps) (hvn : vn = 1 ∨ vn = 2 ∨ vn = 3 ∨ vn = 15 ∨ vn = 16 ∨ vn = 17) (hpc : ∀ c ∈ (own_cs vn ps px py), ¬ c < 0 ∧ ¬ (255 : Int32) < c) (hv1 : ¬ ((Int32.ofNat vn) < (1 : Int32))) (hvl : (own_cs vn ps px py).length ≤ 4000) (hv16 : (16 : Int32) < (Int32.ofNat vn)) (hne : ¬ (own_cs vn ps px py).length = 0) (hqb : (16 : Int32) < (Int32.ofNat (own_cs vn ps px py).length)) :
    MetFree l x (head1 (Jvm.Cond.code x code maxLocals ret :: ws) room_1) (fun a U => a = #[(.int p0), (.int p1), (.int p2), (.int p3)] ∧ Z.Warmed39 U.vm ∧ U.heap = h0 ∧ U.vm.interned = Z.vm.interned) (fun _ _ _ _ _ => True) (fun _ U o U' => ∃ v L, o = .returned v ∧ own_R n0 v U'.heap L ∧ ReturnedEndW U o U' L room_1.cells room_1.slots) := by
  refine MetFree.of_bodySF (plainFor_of_name pn_0) hisR ?_
  intro p e s m args below meth c s₁ Bd hml0 hP hK
  obtain ⟨rfl, hZ, hh, hint⟩ := hP
  have hx := Bd.exec
  have hby := Bd.bytes
  have hml : c.maxLocals = 11 := hml0
  have hown : s.vm.findClass "com/example/dispensd/dispensd/IdentifierIsValidPinLaw" = some m.cls := findClass_of_methodNamed Bd.named
  have hnm := (name_of_methodNamed Bd.named Bd.method).1
  have X0 : Stand p l e room_1 s m #[(.int p0), (.int p1), (.int p2), (.int p3)] below meth c s₁ [] 0 0 := Stand.of_body Bd
  have e0 : s₁.heap = h0 := by rw [← hh, Bd.state]; rfl
  have N0 := Fr.nil n0
  have pre0 : ∀ t, Steps p.tables e below (s₁.setTop (mkF m 0 #[.val (.int p0), .val (.int p1), .val (.int p2), .val (.int p3), .unset, .unset, .unset, .unset, .unset, .unset, .unset] [])) t → Steps p.tables e below (s₁.setTop (entryFrame m #[(.int p0), (.int p1), (.int p2), (.int p3)] maxLocals)) t := fun t k => castTop (ef_0 m p0 p1 p2 p3) k
  obtain ⟨_, _, ⟨T1, L1, k1, n1⟩, -, X1, ⟨Lc1, hQ1, l1, y1, z1⟩, st1⟩ := Jvm.LawKit.callS X0 hx (y := (⟨"com/example/dispensd/dispensd/IdentifierIsValidPinLaw", "make", "(IICC)Ljava/lang/String;"⟩ : MethodName)) hown (mvT hZ (own_w hw 5 rfl)) (mvT hZ (own_w hw 6 rfl)) (mvT hZ (own_w hw 7 rfl)) (mvT hZ (own_w hw 8 rfl)) (by decide) (backOf (W := 0) (rmM l Z a0 hw [] vn ps px py zc  h0 n0 O0 hvn S_COMPACT_STRINGS hzc hpc) hZ (own_w hw 8 rfl) (own_w hw 7 rfl) (by decide) (by decide)) (g := (mkF m 145 #[.val (.int p0), .val (.int p1), .val (.int p2), .val (.int p3), .val (.int (p0 &&& (7 : Int32))), .val (.int px), .val (.int py), .val (.int (Int32.ofNat vn)), .val (.int ps), .unset, .unset] [(.int py), (.int px), (.int ps), (.int (Int32.ofNat vn))])) rfl (by rw [hml]; rfl) (argsL := [(.int (Int32.ofNat vn)), (.int ps), (.int px), (.int py)]) (rest := []) (lenOf pd_11 rfl) rfl (by show 2 * 0 + _ ≤ _; exact Nat.le_of_eq rfl) (hb hby at_145) (fun _ _ => ⟨rfl, e0, (by decide : 0 + 3 ≤ _), (by decide : 0 + 38 ≤ _)⟩)
  dsimp only [Pt.U, Pt.locs, Pt.cells, Pt.slots] at X1 l1 y1 z1 st1 hQ1
  subst l1 y1 z1
  obtain ⟨x1, t1, kt1, rfl, N1q, K1, Ex1, Fv1, Fc1, Vt1⟩ := hQ1
  have N1 := Fr.app N0 N1q
  have O1 := O0.keep K1 all0
  obtain ⟨_, _, ⟨T2, L2, k2, n2⟩, -, X2, ⟨Lc2, hQ2, l2, y2, z2⟩, st2⟩ := Jvm.LawKit.callS X1 hx (y := (⟨"com/example/dispensd/dispensd/Identifier", "isValid", "(Ljava/lang/String;)Z"⟩ : MethodName)) hown (mvT hZ (own_w hw 0 rfl)) (mvT hZ (own_w hw 1 rfl)) (mvT hZ (own_w hw 2 rfl)) (mvT hZ (own_w hw 3 rfl)) (by decide) (backOf (W := 0) (rmVL l Z a0 hw [] x1 (own_cs vn ps px py) t1 kt1 zc fm T1.heap n0 O1 Ex1 Fv1 Fc1 Vt1 S_COMPACT_STRINGS hzc S_FM hfm hpc hvl hne hqb) hZ (own_w hw 3 rfl) (own_w hw 2 rfl) (by decide) (by decide)) (g := (mkF m 194 #[.val (.int p0), .val (.int p1), .val (.int p2), .val (.int p3), .val (.int (p0 &&& (7 : Int32))), .val (.int px), .val (.int py), .val (.int (Int32.ofNat vn)), .val (.int ps), .val (.ref x1), .val (.int 0)] [(.ref x1)])) rfl (by rw [hml]; rfl) (argsL := [(.ref x1)]) (rest := []) (lenOf pd_13 rfl) rfl (by show 2 * 0 + _ ≤ _; exact Nat.le_of_eq rfl) (hb hby at_194) (fun _ _ => ⟨rfl, rfl, (by decide : 3 + 0 ≤ _), (by decide : 38 + 0 ≤ _)⟩)
  dsimp only [Pt.U, Pt.locs, Pt.cells, Pt.slots] at X2 l2 y2 z2 st2 hQ2
  subst l2 y2 z2
  obtain ⟨rfl, N2q, e2⟩ := hQ2
  have N2 := Fr.app N1 N2q
  have Sn0 : s.Since s.vm 0 := (State.WarmedH.refl s).since 0
  have XS0 : Stand p l e room_1 (s.setVm s.vm) m #[(.int p0), (.int p1), (.int p2), (.int p3)] below meth c T2 _ 3 38 := X2
  have hZS : Z.Warmed39 s.vm := hZ
  have hownS : s.vm.findClass "com/example/dispensd/dispensd/IdentifierIsValidPinLaw" = some m.cls := hown
  obtain ⟨fs, hr, hrun, hended, hRW⟩ := XS0.leaveW Sn0 (by rw [e2]; exact (Nat.zero_le _)) (v := some (.int 1)) (fun h => by rw [Bd.returns] at h; cases h)
  refine ⟨_, _, pre0 _ ?_, hrun, hended, _, _, rfl, ?_, hRW.1, hRW.2.1, hRW.2.2.1, hRW.2.2.2.mono (by decide) (by decide)⟩
  · show oS p e below s₁ m 0 #[.val (.int p0), .val (.int p1), .val (.int p2), .val (.int p3), .unset, .unset, .unset, .unset, .unset, .unset, .unset] [] _
    refine XS.iloadN X0.here hx rfl (hb hby at_0) rfl ?_
    show oS p e below s₁ m 1 #[.val (.int p0), .val (.int p1), .val (.int p2), .val (.int p3), .unset, .unset, .unset, .unset, .unset, .unset, .unset] [(.int p0)] _
    refine XS.bipush X0.here hx rfl (hb hby at_1) ?_
    show oS p e below s₁ m 3 #[.val (.int p0), .val (.int p1), .val (.int p2), .val (.int p3), .unset, .unset, .unset, .unset, .unset, .unset, .unset] [(.int 7), (.int p0)] _
    refine XS.iand X0.here hx rfl (hb hby at_3) rfl ?_
    show oS p e below s₁ m 4 #[.val (.int p0), .val (.int p1), .val (.int p2), .val (.int p3), .unset, .unset, .unset, .unset, .unset, .unset, .unset] [(.int (p0 &&& (7 : Int32)))] _
    refine XS.istore X0.here hx rfl (hb hby at_4) rfl (l' := #[.val (.int p0), .val (.int p1), .val (.int p2), .val (.int p3), .val (.int (p0 &&& (7 : Int32))), .unset, .unset, .unset, .unset, .unset, .unset]) rfl ?_
    show oS p e below s₁ m 6 #[.val (.int p0), .val (.int p1), .val (.int p2), .val (.int p3), .val (.int (p0 &&& (7 : Int32))), .unset, .unset, .unset, .unset, .unset, .unset] [] _
    refine XS.iloadN X0.here hx rfl (hb hby at_6) rfl ?_
    show oS p e below s₁ m 7 #[.val (.int p0), .val (.int p1), .val (.int p2), .val (.int p3), .val (.int (p0 &&& (7 : Int32))), .unset, .unset, .unset, .unset, .unset, .unset] [(.int p2)] _
    refine XS.sipush X0.here hx rfl (hb hby at_7) ?_
    show oS p e below s₁ m 10 #[.val (.int p0), .val (.int p1), .val (.int p2), .val (.int p3), .val (.int (p0 &&& (7 : Int32))), .unset, .unset, .unset, .unset, .unset, .unset] [(.int 255), (.int p2)] _
    refine XS.iand X0.here hx rfl (hb hby at_10) rfl ?_
    show oS p e below s₁ m 11 #[.val (.int p0), .val (.int p1), .val (.int p2), .val (.int p3), .val (.int (p0 &&& (7 : Int32))), .unset, .unset, .unset, .unset, .unset, .unset] [(.int (p2 &&& (255 : Int32)))] _
    refine XS.i2c X0.here hx rfl (hb hby at_11) rfl ?_
    show oS p e below s₁ m 12 #[.val (.int p0), .val (.int p1), .val (.int p2), .val (.int p3), .val (.int (p0 &&& (7 : Int32))), .unset, .unset, .unset, .unset, .unset, .unset] [(.int ((p2 &&& (255 : Int32)).toUInt32.toUInt16.toUInt32.toInt32))] _
    rw [hpx]
    show oS p e below s₁ m 12 #[.val (.int p0), .val (.int p1), .val (.int p2), .val (.int p3), .val (.int (p0 &&& (7 : Int32))), .unset, .unset, .unset, .unset, .unset, .unset] [(.int px)] _
    refine XS.istore X0.here hx rfl (hb hby at_12) rfl (l' := #[.val (.int p0), .val (.int p1), .val (.int p2), .val (.int p3), .val (.int (p0 &&& (7 : Int32))), .val (.int px), .unset, .unset, .unset, .unset, .unset]) rfl ?_
    show oS p e below s₁ m 14 #[.val (.int p0), .val (.int p1), .val (.int p2), .val (.int p3), .val (.int (p0 &&& (7 : Int32))), .val (.int px), .unset, .unset, .unset, .unset, .unset] [] _
    refine XS.iloadN X0.here hx rfl (hb hby at_14) rfl ?_
    show oS p e below s₁ m 15 #[.val (.int p0), .val (.int p1), .val (.int p2), .val (.int p3), .val (.int (p0 &&& (7 : Int32))), .val (.int px), .unset, .unset, .unset, .unset, .unset] [(.int p3)] _
    refine XS.sipush X0.here hx rfl (hb hby at_15) ?_
    show oS p e below s₁ m 18 #[.val (.int p0), .val (.int p1), .val (.int p2), .val (.int p3), .val (.int (p0 &&& (7 : Int32))), .val (.int px), .unset, .unset, .unset, .unset, .unset] [(.int 255), (.int p3)] _
    refine XS.iand X0.here hx rfl (hb hby at_18) rfl ?_
    show oS p e below s₁ m 19 #[.val (.int p0), .val (.int p1), .val (.int p2), .val (.int p3), .val (.int (p0 &&& (7 : Int32))), .val (.int px), .unset, .unset, .unset, .unset, .unset] [(.int (p3 &&& (255 : Int32)))] _
    refine XS.i2c X0.here hx rfl (hb hby at_19) rfl ?_
    show oS p e below s₁ m 20 #[.val (.int p0), .val (.int p1), .val (.int p2), .val (.int p3), .val (.int (p0 &&& (7 : Int32))), .val (.int px), .unset, .unset, .unset, .unset, .unset] [(.int ((p3 &&& (255 : Int32)).toUInt32.toUInt16.toUInt32.toInt32))] _
    rw [hpy]
    show oS p e below s₁ m 20 #[.val (.int p0), .val (.int p1), .val (.int p2), .val (.int p3), .val (.int (p0 &&& (7 : Int32))), .val (.int px), .unset, .unset, .unset, .unset, .unset] [(.int py)] _
    refine XS.istore X0.here hx rfl (hb hby at_20) rfl (l' := #[.val (.int p0), .val (.int p1), .val (.int p2), .val (.int p3), .val (.int (p0 &&& (7 : Int32))), .val (.int px), .val (.int py), .unset, .unset, .unset, .unset]) rfl ?_
    show oS p e below s₁ m 22 #[.val (.int p0), .val (.int p1), .val (.int p2), .val (.int p3), .val (.int (p0 &&& (7 : Int32))), .val (.int px), .val (.int py), .unset, .unset, .unset, .unset] [] _
    refine lwN X0 hx hZ hby e0 hkn _ ?_
    show oS p e below s₁ m 119 #[.val (.int p0), .val (.int p1), .val (.int p2), .val (.int p3), .val (.int (p0 &&& (7 : Int32))), .val (.int px), .val (.int py), .val (.int (Int32.ofNat vn)), .unset, .unset, .unset] [] _
    refine XS.iload X0.here hx rfl (hb hby at_119) rfl ?_
    show oS p e below s₁ m 121 #[.val (.int p0), .val (.int p1), .val (.int p2), .val (.int p3), .val (.int (p0 &&& (7 : Int32))), .val (.int px), .val (.int py), .val (.int (Int32.ofNat vn)), .unset, .unset, .unset] [(.int (Int32.ofNat vn))] _
    refine XS.ifYes X0.here hx rfl (pc0 := 121) (pc' := 128) rfl (hb hby at_121) rfl ((if0 _ _).trans (feq hv0).2) (by decide) (by decide) ?_
    show oS p e below s₁ m 128 #[.val (.int p0), .val (.int p1), .val (.int p2), .val (.int p3), .val (.int (p0 &&& (7 : Int32))), .val (.int px), .val (.int py), .val (.int (Int32.ofNat vn)), .unset, .unset, .unset] [] _
    refine XS.iloadN X0.here hx rfl (hb hby at_128) rfl ?_
    show oS p e below s₁ m 129 #[.val (.int p0), .val (.int p1), .val (.int p2), .val (.int p3), .val (.int (p0 &&& (7 : Int32))), .val (.int px), .val (.int py), .val (.int (Int32.ofNat vn)), .unset, .unset, .unset] [(.int p1)] _
    refine X0.ldcInt hx hown (mvT hZ (own_w hw 4 rfl)) (g := (mkF m 129 #[.val (.int p0), .val (.int p1), .val (.int p2), .val (.int p3), .val (.int (p0 &&& (7 : Int32))), .val (.int px), .val (.int py), .val (.int (Int32.ofNat vn)), .unset, .unset, .unset] [(.int p1)])) rfl (hb hby at_129) _ ?_
    show oS p e below s₁ m 131 #[.val (.int p0), .val (.int p1), .val (.int p2), .val (.int p3), .val (.int (p0 &&& (7 : Int32))), .val (.int px), .val (.int py), .val (.int (Int32.ofNat vn)), .unset, .unset, .unset] [(.int 2147483647), (.int p1)] _
    refine XS.iand X0.here hx rfl (hb hby at_131) rfl ?_
    show oS p e below s₁ m 132 #[.val (.int p0), .val (.int p1), .val (.int p2), .val (.int p3), .val (.int (p0 &&& (7 : Int32))), .val (.int px), .val (.int py), .val (.int (Int32.ofNat vn)), .unset, .unset, .unset] [(.int (p1 &&& (2147483647 : Int32)))] _
    refine XS.iload X0.here hx rfl (hb hby at_132) rfl ?_
    show oS p e below s₁ m 134 #[.val (.int p0), .val (.int p1), .val (.int p2), .val (.int p3), .val (.int (p0 &&& (7 : Int32))), .val (.int px), .val (.int py), .val (.int (Int32.ofNat vn)), .unset, .unset, .unset] [(.int (Int32.ofNat vn)), (.int (p1 &&& (2147483647 : Int32)))] _
    refine iremM X0 hx rfl (hb hby at_134) rfl hv0 ?_
    show oS p e below s₁ m 135 #[.val (.int p0), .val (.int p1), .val (.int p2), .val (.int p3), .val (.int (p0 &&& (7 : Int32))), .val (.int px), .val (.int py), .val (.int (Int32.ofNat vn)), .unset, .unset, .unset] [(.int ((p1 &&& (2147483647 : Int32)) % (Int32.ofNat vn)))] _
    rw [hps]
    show oS p e below s₁ m 135 #[.val (.int p0), .val (.int p1), .val (.int p2), .val (.int p3), .val (.int (p0 &&& (7 : Int32))), .val (.int px), .val (.int py), .val (.int (Int32.ofNat vn)), .unset, .unset, .unset] [(.int ps)] _
    refine XS.istore X0.here hx rfl (hb hby at_135) rfl (l' := #[.val (.int p0), .val (.int p1), .val (.int p2), .val (.int p3), .val (.int (p0 &&& (7 : Int32))), .val (.int px), .val (.int py), .val (.int (Int32.ofNat vn)), .val (.int ps), .unset, .unset]) rfl ?_
    show oS p e below s₁ m 137 #[.val (.int p0), .val (.int p1), .val (.int p2), .val (.int p3), .val (.int (p0 &&& (7 : Int32))), .val (.int px), .val (.int py), .val (.int (Int32.ofNat vn)), .val (.int ps), .unset, .unset] [] _
    refine XS.iload X0.here hx rfl (hb hby at_137) rfl ?_
    show oS p e below s₁ m 139 #[.val (.int p0), .val (.int p1), .val (.int p2), .val (.int p3), .val (.int (p0 &&& (7 : Int32))), .val (.int px), .val (.int py), .val (.int (Int32.ofNat vn)), .val (.int ps), .unset, .unset] [(.int (Int32.ofNat vn))] _
    refine XS.iload X0.here hx rfl (hb hby at_139) rfl ?_
    show oS p e below s₁ m 141 #[.val (.int p0), .val (.int p1), .val (.int p2), .val (.int p3), .val (.int (p0 &&& (7 : Int32))), .val (.int px), .val (.int py), .val (.int (Int32.ofNat vn)), .val (.int ps), .unset, .unset] [(.int ps), (.int (Int32.ofNat vn))] _
    refine XS.iload X0.here hx rfl (hb hby at_141) rfl ?_
    show oS p e below s₁ m 143 #[.val (.int p0), .val (.int p1), .val (.int p2), .val (.int p3), .val (.int (p0 &&& (7 : Int32))), .val (.int px), .val (.int py), .val (.int (Int32.ofNat vn)), .val (.int ps), .unset, .unset] [(.int px), (.int ps), (.int (Int32.ofNat vn))] _
    refine XS.iload X0.here hx rfl (hb hby at_143) rfl ?_
    show oS p e below s₁ m 145 #[.val (.int p0), .val (.int p1), .val (.int p2), .val (.int p3), .val (.int (p0 &&& (7 : Int32))), .val (.int px), .val (.int py), .val (.int (Int32.ofNat vn)), .val (.int ps), .unset, .unset] [(.int py), (.int px), (.int ps), (.int (Int32.ofNat vn))] _
    refine st1 _ ?_
    show oS p e below T1 m 148 #[.val (.int p0), .val (.int p1), .val (.int p2), .val (.int p3), .val (.int (p0 &&& (7 : Int32))), .val (.int px), .val (.int py), .val (.int (Int32.ofNat vn)), .val (.int ps), .unset, .unset] [(.ref x1)] _
    refine XS.astore X1.here hx rfl (hb hby at_148) rfl rfl (l' := #[.val (.int p0), .val (.int p1), .val (.int p2), .val (.int p3), .val (.int (p0 &&& (7 : Int32))), .val (.int px), .val (.int py), .val (.int (Int32.ofNat vn)), .val (.int ps), .val (.ref x1), .unset]) rfl ?_
    show oS p e below T1 m 150 #[.val (.int p0), .val (.int p1), .val (.int p2), .val (.int p3), .val (.int (p0 &&& (7 : Int32))), .val (.int px), .val (.int py), .val (.int (Int32.ofNat vn)), .val (.int ps), .val (.ref x1), .unset] [] _
    refine XS.iload X1.here hx rfl (hb hby at_150) rfl ?_
    show oS p e below T1 m 152 #[.val (.int p0), .val (.int p1), .val (.int p2), .val (.int p3), .val (.int (p0 &&& (7 : Int32))), .val (.int px), .val (.int py), .val (.int (Int32.ofNat vn)), .val (.int ps), .val (.ref x1), .unset] [(.int (Int32.ofNat vn))] _
    refine XS.iconst X1.here hx rfl (hb hby at_152) ?_
    show oS p e below T1 m 153 #[.val (.int p0), .val (.int p1), .val (.int p2), .val (.int p3), .val (.int (p0 &&& (7 : Int32))), .val (.int px), .val (.int py), .val (.int (Int32.ofNat vn)), .val (.int ps), .val (.ref x1), .unset] [(.int 1), (.int (Int32.ofNat vn))] _
    refine XS.icmpNo X1.here hx rfl (hb hby at_153) rfl (flt hv1).1 ?_
    show oS p e below T1 m 156 #[.val (.int p0), .val (.int p1), .val (.int p2), .val (.int p3), .val (.int (p0 &&& (7 : Int32))), .val (.int px), .val (.int py), .val (.int (Int32.ofNat vn)), .val (.int ps), .val (.ref x1), .unset] [] _
    refine XS.iload X1.here hx rfl (hb hby at_156) rfl ?_
    show oS p e below T1 m 158 #[.val (.int p0), .val (.int p1), .val (.int p2), .val (.int p3), .val (.int (p0 &&& (7 : Int32))), .val (.int px), .val (.int py), .val (.int (Int32.ofNat vn)), .val (.int ps), .val (.ref x1), .unset] [(.int (Int32.ofNat vn))] _
    refine XS.bipush X1.here hx rfl (hb hby at_158) ?_
    show oS p e below T1 m 160 #[.val (.int p0), .val (.int p1), .val (.int p2), .val (.int p3), .val (.int (p0 &&& (7 : Int32))), .val (.int px), .val (.int py), .val (.int (Int32.ofNat vn)), .val (.int ps), .val (.ref x1), .unset] [(.int 16), (.int (Int32.ofNat vn))] _
    refine XS.icmpYes X1.here hx rfl (pc0 := 160) (pc' := 189) rfl (hb hby at_160) rfl (tlt hv16).2.2.1 (by decide) (by decide) ?_
    show oS p e below T1 m 189 #[.val (.int p0), .val (.int p1), .val (.int p2), .val (.int p3), .val (.int (p0 &&& (7 : Int32))), .val (.int px), .val (.int py), .val (.int (Int32.ofNat vn)), .val (.int ps), .val (.ref x1), .unset] [] _
    refine XS.iconst X1.here hx rfl (hb hby at_189) ?_
    show oS p e below T1 m 190 #[.val (.int p0), .val (.int p1), .val (.int p2), .val (.int p3), .val (.int (p0 &&& (7 : Int32))), .val (.int px), .val (.int py), .val (.int (Int32.ofNat vn)), .val (.int ps), .val (.ref x1), .unset] [(.int 0)] _
    refine XS.istore X1.here hx rfl (hb hby at_190) rfl (l' := #[.val (.int p0), .val (.int p1), .val (.int p2), .val (.int p3), .val (.int (p0 &&& (7 : Int32))), .val (.int px), .val (.int py), .val (.int (Int32.ofNat vn)), .val (.int ps), .val (.ref x1), .val (.int 0)]) rfl ?_
    show oS p e below T1 m 192 #[.val (.int p0), .val (.int p1), .val (.int p2), .val (.int p3), .val (.int (p0 &&& (7 : Int32))), .val (.int px), .val (.int py), .val (.int (Int32.ofNat vn)), .val (.int ps), .val (.ref x1), .val (.int 0)] [] _
    refine XS.aload X1.here hx rfl (hb hby at_192) rfl rfl ?_
    show oS p e below T1 m 194 #[.val (.int p0), .val (.int p1), .val (.int p2), .val (.int p3), .val (.int (p0 &&& (7 : Int32))), .val (.int px), .val (.int py), .val (.int (Int32.ofNat vn)), .val (.int ps), .val (.ref x1), .val (.int 0)] [(.ref x1)] _
    refine st2 _ ?_
    show oS p e below T2 m 197 #[.val (.int p0), .val (.int p1), .val (.int p2), .val (.int p3), .val (.int (p0 &&& (7 : Int32))), .val (.int px), .val (.int py), .val (.int (Int32.ofNat vn)), .val (.int ps), .val (.ref x1), .val (.int 0)] [(.int 0)] _
    refine XS.iload X2.here hx rfl (hb hby at_197) rfl ?_
    show oS p e below T2 m 199 #[.val (.int p0), .val (.int p1), .val (.int p2), .val (.int p3), .val (.int (p0 &&& (7 : Int32))), .val (.int px), .val (.int py), .val (.int (Int32.ofNat vn)), .val (.int ps), .val (.ref x1), .val (.int 0)] [(.int 0), (.int 0)] _
    refine XS.icmpNo X2.here hx rfl (hb hby at_199) rfl (teq (by decide : (0 : Int32) = (0 : Int32))).2 ?_
    show oS p e below T2 m 202 #[.val (.int p0), .val (.int p1), .val (.int p2), .val (.int p3), .val (.int (p0 &&& (7 : Int32))), .val (.int px), .val (.int py), .val (.int (Int32.ofNat vn)), .val (.int ps), .val (.ref x1), .val (.int 0)] [] _
    refine XS.iconst X2.here hx rfl (hb hby at_202) ?_
    show oS p e below T2 m 203 #[.val (.int p0), .val (.int p1), .val (.int p2), .val (.int p3), .val (.int (p0 &&& (7 : Int32))), .val (.int px), .val (.int py), .val (.int (Int32.ofNat vn)), .val (.int ps), .val (.ref x1), .val (.int 0)] [(.int 1)] _
    refine XS.goto X2.here hx rfl (pc0 := 203) (pc' := 207) rfl (hb hby at_203) (by decide) (by decide) ?_
    show oS p e below T2 m 207 #[.val (.int p0), .val (.int p1), .val (.int p2), .val (.int p3), .val (.int (p0 &&& (7 : Int32))), .val (.int px), .val (.int py), .val (.int (Int32.ofNat vn)), .val (.int ps), .val (.ref x1), .val (.int 0)] [(.int 1)] _
    exact retN X2 hx (t := .boolean) Bd.returns (by simp) (hb hby at_207) hr
  · show own_R n0 _ T2.heap _
    rw [e2]
    exact ⟨rfl, N2⟩
set_option maxRecDepth 65536 in
set_option maxHeartbeats 40000000 in
theorem rm0K (l : Launch) (Z : State) (a0 : Array Value) (hw : ∀ d ∈ tables_1, d.before a0 Z = true) (ws : List Jvm.Cond) (p0 : Int32) (p1 : Int32) (p2 : Int32) (p3 : Int32) (h0 : Heap) (n0 : Nat) (O0 : Old Z n0 h0) (hkk : (p0 &&& (7 : Int32)) = (0 : Int32)) :
    MetFree l x (head1 (Jvm.Cond.code x code maxLocals ret :: ws) room_1) (fun a U => a = #[(.int p0), (.int p1), (.int p2), (.int p3)] ∧ Z.Warmed39 U.vm ∧ U.heap = h0 ∧ U.vm.interned = Z.vm.interned) (fun _ _ _ _ _ => True) (fun _ U o U' => ∃ v L, o = .returned v ∧ own_R n0 v U'.heap L ∧ ReturnedEndW U o U' L room_1.cells room_1.slots) := by
  refine MetFree.of_bodySF (plainFor_of_name pn_0) hisR ?_
  intro p e s m args below meth c s₁ Bd hml0 hP hK
  obtain ⟨rfl, hZ, hh, hint⟩ := hP
  have hx := Bd.exec
  have hby := Bd.bytes
  have hml : c.maxLocals = 11 := hml0
  have hown : s.vm.findClass "com/example/dispensd/dispensd/IdentifierIsValidPinLaw" = some m.cls := findClass_of_methodNamed Bd.named
  have hnm := (name_of_methodNamed Bd.named Bd.method).1
  have X0 : Stand p l e room_1 s m #[(.int p0), (.int p1), (.int p2), (.int p3)] below meth c s₁ [] 0 0 := Stand.of_body Bd
  have e0 : s₁.heap = h0 := by rw [← hh, Bd.state]; rfl
  have N0 := Fr.nil n0
  have pre0 : ∀ t, Steps p.tables e below (s₁.setTop (mkF m 0 #[.val (.int p0), .val (.int p1), .val (.int p2), .val (.int p3), .unset, .unset, .unset, .unset, .unset, .unset, .unset] [])) t → Steps p.tables e below (s₁.setTop (entryFrame m #[(.int p0), (.int p1), (.int p2), (.int p3)] maxLocals)) t := fun t k => castTop (ef_0 m p0 p1 p2 p3) k
  obtain ⟨_, _, ⟨T1, L1, k1, n1⟩, -, X1, ⟨Lc1, hQ1, l1, y1, z1⟩, st1⟩ := Jvm.LawKit.callS X0 hx (y := (⟨"com/example/dispensd/dispensd/Identifier", "isValid", "(Ljava/lang/String;)Z"⟩ : MethodName)) hown (mvT hZ (own_w hw 0 rfl)) (mvT hZ (own_w hw 1 rfl)) (mvT hZ (own_w hw 2 rfl)) (mvT hZ (own_w hw 3 rfl)) (by decide) (backOf (W := 0) (rmVN l Z a0 hw []   h0 n0 O0 ) hZ (own_w hw 3 rfl) (own_w hw 2 rfl) (by decide) (by decide)) (g := (mkF m 28 #[.val (.int p0), .val (.int p1), .val (.int p2), .val (.int p3), .val (.int (p0 &&& (7 : Int32))), .val (.int ((p2 &&& (255 : Int32)).toUInt32.toUInt16.toUInt32.toInt32)), .val (.int ((p3 &&& (255 : Int32)).toUInt32.toUInt16.toUInt32.toInt32)), .unset, .unset, .unset, .unset] [.null])) rfl (by rw [hml]; rfl) (argsL := [.null]) (rest := []) (lenOf pd_13 rfl) rfl (by show 2 * 0 + _ ≤ _; exact Nat.le_of_eq rfl) (hb hby at_28) (fun _ _ => ⟨rfl, e0, (by decide : 0 + 0 ≤ _), (by decide : 0 + 0 ≤ _)⟩)
  dsimp only [Pt.U, Pt.locs, Pt.cells, Pt.slots] at X1 l1 y1 z1 st1 hQ1
  subst l1 y1 z1
  obtain ⟨rfl, N1q, e1⟩ := hQ1
  have N1 := Fr.app N0 N1q
  have Sn0 : s.Since s.vm 0 := (State.WarmedH.refl s).since 0
  have XS0 : Stand p l e room_1 (s.setVm s.vm) m #[(.int p0), (.int p1), (.int p2), (.int p3)] below meth c T1 _ 0 0 := X1
  have hZS : Z.Warmed39 s.vm := hZ
  have hownS : s.vm.findClass "com/example/dispensd/dispensd/IdentifierIsValidPinLaw" = some m.cls := hown
  obtain ⟨fs, hr, hrun, hended, hRW⟩ := XS0.leaveW Sn0 (by rw [e1]; exact (Nat.zero_le _)) (v := some (.int 1)) (fun h => by rw [Bd.returns] at h; cases h)
  refine ⟨_, _, pre0 _ ?_, hrun, hended, _, _, rfl, ?_, hRW.1, hRW.2.1, hRW.2.2.1, hRW.2.2.2.mono (by decide) (by decide)⟩
  · show oS p e below s₁ m 0 #[.val (.int p0), .val (.int p1), .val (.int p2), .val (.int p3), .unset, .unset, .unset, .unset, .unset, .unset, .unset] [] _
    refine XS.iloadN X0.here hx rfl (hb hby at_0) rfl ?_
    show oS p e below s₁ m 1 #[.val (.int p0), .val (.int p1), .val (.int p2), .val (.int p3), .unset, .unset, .unset, .unset, .unset, .unset, .unset] [(.int p0)] _
    refine XS.bipush X0.here hx rfl (hb hby at_1) ?_
    show oS p e below s₁ m 3 #[.val (.int p0), .val (.int p1), .val (.int p2), .val (.int p3), .unset, .unset, .unset, .unset, .unset, .unset, .unset] [(.int 7), (.int p0)] _
    refine XS.iand X0.here hx rfl (hb hby at_3) rfl ?_
    show oS p e below s₁ m 4 #[.val (.int p0), .val (.int p1), .val (.int p2), .val (.int p3), .unset, .unset, .unset, .unset, .unset, .unset, .unset] [(.int (p0 &&& (7 : Int32)))] _
    refine XS.istore X0.here hx rfl (hb hby at_4) rfl (l' := #[.val (.int p0), .val (.int p1), .val (.int p2), .val (.int p3), .val (.int (p0 &&& (7 : Int32))), .unset, .unset, .unset, .unset, .unset, .unset]) rfl ?_
    show oS p e below s₁ m 6 #[.val (.int p0), .val (.int p1), .val (.int p2), .val (.int p3), .val (.int (p0 &&& (7 : Int32))), .unset, .unset, .unset, .unset, .unset, .unset] [] _
    refine XS.iloadN X0.here hx rfl (hb hby at_6) rfl ?_
    show oS p e below s₁ m 7 #[.val (.int p0), .val (.int p1), .val (.int p2), .val (.int p3), .val (.int (p0 &&& (7 : Int32))), .unset, .unset, .unset, .unset, .unset, .unset] [(.int p2)] _
    refine XS.sipush X0.here hx rfl (hb hby at_7) ?_
    show oS p e below s₁ m 10 #[.val (.int p0), .val (.int p1), .val (.int p2), .val (.int p3), .val (.int (p0 &&& (7 : Int32))), .unset, .unset, .unset, .unset, .unset, .unset] [(.int 255), (.int p2)] _
    refine XS.iand X0.here hx rfl (hb hby at_10) rfl ?_
    show oS p e below s₁ m 11 #[.val (.int p0), .val (.int p1), .val (.int p2), .val (.int p3), .val (.int (p0 &&& (7 : Int32))), .unset, .unset, .unset, .unset, .unset, .unset] [(.int (p2 &&& (255 : Int32)))] _
    refine XS.i2c X0.here hx rfl (hb hby at_11) rfl ?_
    show oS p e below s₁ m 12 #[.val (.int p0), .val (.int p1), .val (.int p2), .val (.int p3), .val (.int (p0 &&& (7 : Int32))), .unset, .unset, .unset, .unset, .unset, .unset] [(.int ((p2 &&& (255 : Int32)).toUInt32.toUInt16.toUInt32.toInt32))] _
    refine XS.istore X0.here hx rfl (hb hby at_12) rfl (l' := #[.val (.int p0), .val (.int p1), .val (.int p2), .val (.int p3), .val (.int (p0 &&& (7 : Int32))), .val (.int ((p2 &&& (255 : Int32)).toUInt32.toUInt16.toUInt32.toInt32)), .unset, .unset, .unset, .unset, .unset]) rfl ?_
    show oS p e below s₁ m 14 #[.val (.int p0), .val (.int p1), .val (.int p2), .val (.int p3), .val (.int (p0 &&& (7 : Int32))), .val (.int ((p2 &&& (255 : Int32)).toUInt32.toUInt16.toUInt32.toInt32)), .unset, .unset, .unset, .unset, .unset] [] _
    refine XS.iloadN X0.here hx rfl (hb hby at_14) rfl ?_
    show oS p e below s₁ m 15 #[.val (.int p0), .val (.int p1), .val (.int p2), .val (.int p3), .val (.int (p0 &&& (7 : Int32))), .val (.int ((p2 &&& (255 : Int32)).toUInt32.toUInt16.toUInt32.toInt32)), .unset, .unset, .unset, .unset, .unset] [(.int p3)] _
    refine XS.sipush X0.here hx rfl (hb hby at_15) ?_
    show oS p e below s₁ m 18 #[.val (.int p0), .val (.int p1), .val (.int p2), .val (.int p3), .val (.int (p0 &&& (7 : Int32))), .val (.int ((p2 &&& (255 : Int32)).toUInt32.toUInt16.toUInt32.toInt32)), .unset, .unset, .unset, .unset, .unset] [(.int 255), (.int p3)] _
    refine XS.iand X0.here hx rfl (hb hby at_18) rfl ?_
    show oS p e below s₁ m 19 #[.val (.int p0), .val (.int p1), .val (.int p2), .val (.int p3), .val (.int (p0 &&& (7 : Int32))), .val (.int ((p2 &&& (255 : Int32)).toUInt32.toUInt16.toUInt32.toInt32)), .unset, .unset, .unset, .unset, .unset] [(.int (p3 &&& (255 : Int32)))] _
    refine XS.i2c X0.here hx rfl (hb hby at_19) rfl ?_
    show oS p e below s₁ m 20 #[.val (.int p0), .val (.int p1), .val (.int p2), .val (.int p3), .val (.int (p0 &&& (7 : Int32))), .val (.int ((p2 &&& (255 : Int32)).toUInt32.toUInt16.toUInt32.toInt32)), .unset, .unset, .unset, .unset, .unset] [(.int ((p3 &&& (255 : Int32)).toUInt32.toUInt16.toUInt32.toInt32))] _
    refine XS.istore X0.here hx rfl (hb hby at_20) rfl (l' := #[.val (.int p0), .val (.int p1), .val (.int p2), .val (.int p3), .val (.int (p0 &&& (7 : Int32))), .val (.int ((p2 &&& (255 : Int32)).toUInt32.toUInt16.toUInt32.toInt32)), .val (.int ((p3 &&& (255 : Int32)).toUInt32.toUInt16.toUInt32.toInt32)), .unset, .unset, .unset, .unset]) rfl ?_
    show oS p e below s₁ m 22 #[.val (.int p0), .val (.int p1), .val (.int p2), .val (.int p3), .val (.int (p0 &&& (7 : Int32))), .val (.int ((p2 &&& (255 : Int32)).toUInt32.toUInt16.toUInt32.toInt32)), .val (.int ((p3 &&& (255 : Int32)).toUInt32.toUInt16.toUInt32.toInt32)), .unset, .unset, .unset, .unset] [] _
    refine XS.iload X0.here hx rfl (hb hby at_22) rfl ?_
    show oS p e below s₁ m 24 #[.val (.int p0), .val (.int p1), .val (.int p2), .val (.int p3), .val (.int (p0 &&& (7 : Int32))), .val (.int ((p2 &&& (255 : Int32)).toUInt32.toUInt16.toUInt32.toInt32)), .val (.int ((p3 &&& (255 : Int32)).toUInt32.toUInt16.toUInt32.toInt32)), .unset, .unset, .unset, .unset] [(.int (p0 &&& (7 : Int32)))] _
    refine XS.ifNo X0.here hx rfl (hb hby at_24) rfl ((if0 _ _).trans (teq hkk).2) ?_
    show oS p e below s₁ m 27 #[.val (.int p0), .val (.int p1), .val (.int p2), .val (.int p3), .val (.int (p0 &&& (7 : Int32))), .val (.int ((p2 &&& (255 : Int32)).toUInt32.toUInt16.toUInt32.toInt32)), .val (.int ((p3 &&& (255 : Int32)).toUInt32.toUInt16.toUInt32.toInt32)), .unset, .unset, .unset, .unset] [] _
    refine XS.aconstNull X0.here hx rfl (hb hby at_27) ?_
    show oS p e below s₁ m 28 #[.val (.int p0), .val (.int p1), .val (.int p2), .val (.int p3), .val (.int (p0 &&& (7 : Int32))), .val (.int ((p2 &&& (255 : Int32)).toUInt32.toUInt16.toUInt32.toInt32)), .val (.int ((p3 &&& (255 : Int32)).toUInt32.toUInt16.toUInt32.toInt32)), .unset, .unset, .unset, .unset] [.null] _
    refine st1 _ ?_
    show oS p e below T1 m 31 #[.val (.int p0), .val (.int p1), .val (.int p2), .val (.int p3), .val (.int (p0 &&& (7 : Int32))), .val (.int ((p2 &&& (255 : Int32)).toUInt32.toUInt16.toUInt32.toInt32)), .val (.int ((p3 &&& (255 : Int32)).toUInt32.toUInt16.toUInt32.toInt32)), .unset, .unset, .unset, .unset] [(.int 0)] _
    refine XS.ifNo X1.here hx rfl (hb hby at_31) rfl ((if0 _ _).trans (teq (by decide : (0 : Int32) = (0 : Int32))).2) ?_
    show oS p e below T1 m 34 #[.val (.int p0), .val (.int p1), .val (.int p2), .val (.int p3), .val (.int (p0 &&& (7 : Int32))), .val (.int ((p2 &&& (255 : Int32)).toUInt32.toUInt16.toUInt32.toInt32)), .val (.int ((p3 &&& (255 : Int32)).toUInt32.toUInt16.toUInt32.toInt32)), .unset, .unset, .unset, .unset] [] _
    refine XS.iconst X1.here hx rfl (hb hby at_34) ?_
    show oS p e below T1 m 35 #[.val (.int p0), .val (.int p1), .val (.int p2), .val (.int p3), .val (.int (p0 &&& (7 : Int32))), .val (.int ((p2 &&& (255 : Int32)).toUInt32.toUInt16.toUInt32.toInt32)), .val (.int ((p3 &&& (255 : Int32)).toUInt32.toUInt16.toUInt32.toInt32)), .unset, .unset, .unset, .unset] [(.int 1)] _
    refine XS.goto X1.here hx rfl (pc0 := 35) (pc' := 39) rfl (hb hby at_35) (by decide) (by decide) ?_
    show oS p e below T1 m 39 #[.val (.int p0), .val (.int p1), .val (.int p2), .val (.int p3), .val (.int (p0 &&& (7 : Int32))), .val (.int ((p2 &&& (255 : Int32)).toUInt32.toUInt16.toUInt32.toInt32)), .val (.int ((p3 &&& (255 : Int32)).toUInt32.toUInt16.toUInt32.toInt32)), .unset, .unset, .unset, .unset] [(.int 1)] _
    exact retN X1 hx (t := .boolean) Bd.returns (by simp) (hb hby at_39) hr
  · show own_R n0 _ T1.heap _
    rw [e1]
    exact ⟨rfl, N1⟩
set_option maxRecDepth 65536 in
set_option maxHeartbeats 40000000 in
theorem rm0Z (l : Launch) (Z : State) (a0 : Array Value) (hw : ∀ d ∈ tables_1, d.before a0 Z = true) (ws : List Jvm.Cond) (p0 : Int32) (p1 : Int32) (p2 : Int32) (p3 : Int32) (h0 : Heap) (n0 : Nat) (O0 : Old Z n0 h0) (hkk : (p0 &&& (7 : Int32)) = (1 : Int32)) (hheld : Jvm.Lit.constHeld Z "java/lang/String" 7) (hcw : Jvm.Lit.compactW.before a0 Z = true) :
    MetFree l x (head1 (Jvm.Cond.code x code maxLocals ret :: ws) room_1) (fun a U => a = #[(.int p0), (.int p1), (.int p2), (.int p3)] ∧ Z.Warmed39 U.vm ∧ U.heap = h0 ∧ U.vm.interned = Z.vm.interned) (fun _ _ _ _ _ => True) (fun _ U o U' => ∃ v L, o = .returned v ∧ own_R n0 v U'.heap L ∧ ReturnedEndW U o U' L room_1.cells room_1.slots) := by
  refine MetFree.of_bodySF (plainFor_of_name pn_0) hisR ?_
  intro p e s m args below meth c s₁ Bd hml0 hP hK
  obtain ⟨rfl, hZ, hh, hint⟩ := hP
  have hx := Bd.exec
  have hby := Bd.bytes
  have hml : c.maxLocals = 11 := hml0
  have hown : s.vm.findClass "com/example/dispensd/dispensd/IdentifierIsValidPinLaw" = some m.cls := findClass_of_methodNamed Bd.named
  have hnm := (name_of_methodNamed Bd.named Bd.method).1
  have X0 : Stand p l e room_1 s m #[(.int p0), (.int p1), (.int p2), (.int p3)] below meth c s₁ [] 0 0 := Stand.of_body Bd
  have e0 : s₁.heap = h0 := by rw [← hh, Bd.state]; rfl
  have N0 := Fr.nil n0
  have pre0 : ∀ t, Steps p.tables e below (s₁.setTop (mkF m 0 #[.val (.int p0), .val (.int p1), .val (.int p2), .val (.int p3), .unset, .unset, .unset, .unset, .unset, .unset, .unset] [])) t → Steps p.tables e below (s₁.setTop (entryFrame m #[(.int p0), (.int p1), (.int p2), (.int p3)] maxLocals)) t := fun t k => castTop (ef_0 m p0 p1 p2 p3) k
  obtain ⟨_, _, ⟨T1, L1, k1, n1⟩, -, X1, Sn1, sz1, ⟨Lc1, hQ1, l1, y1, z1⟩, st1⟩ := callSS X0 hx (y := (⟨"com/example/dispensd/dispensd/IdentifierIsValidPinLaw", "make", "(IICC)Ljava/lang/String;"⟩ : MethodName)) hown (mvT hZ (own_w hw 5 rfl)) (mvT hZ (own_w hw 6 rfl)) (mvT hZ (own_w hw 7 rfl)) (mvT hZ (own_w hw 8 rfl)) (by decide) (own_backI (W := 0) (rmM0 l Z a0 hw [] (0 : Int32) ((p2 &&& (255 : Int32)).toUInt32.toUInt16.toUInt32.toInt32) ((p3 &&& (255 : Int32)).toUInt32.toUInt16.toUInt32.toInt32)  h0 n0 O0 hheld hcw) hZ (own_w hw 8 rfl) (own_w hw 7 rfl) (by decide) (by decide)) (g := (mkF m 145 #[.val (.int p0), .val (.int p1), .val (.int p2), .val (.int p3), .val (.int (p0 &&& (7 : Int32))), .val (.int ((p2 &&& (255 : Int32)).toUInt32.toUInt16.toUInt32.toInt32)), .val (.int ((p3 &&& (255 : Int32)).toUInt32.toUInt16.toUInt32.toInt32)), .val (.int 0), .val (.int 0), .unset, .unset] [(.int ((p3 &&& (255 : Int32)).toUInt32.toUInt16.toUInt32.toInt32)), (.int ((p2 &&& (255 : Int32)).toUInt32.toUInt16.toUInt32.toInt32)), (.int 0), (.int 0)])) rfl (by rw [hml]; rfl) (argsL := [(.int 0), (.int 0), (.int ((p2 &&& (255 : Int32)).toUInt32.toUInt16.toUInt32.toInt32)), (.int ((p3 &&& (255 : Int32)).toUInt32.toUInt16.toUInt32.toInt32))]) (rest := []) (lenOf pd_11 rfl) rfl (by show 2 * 0 + _ ≤ _; exact Nat.le_of_eq rfl) (hb hby at_145) (fun vm1 hvm1 => ⟨rfl, e0, (by decide : 0 + 4 ≤ _), (by decide : 0 + 8 ≤ _), (own_int hvm1).trans hint⟩)
  have hZ1 : Z.Warmed39 (s.setVm T1.vm).vm := State.Warmed39.trans hZ Sn1.1
  have hown1 : (s.setVm T1.vm).vm.findClass "com/example/dispensd/dispensd/IdentifierIsValidPinLaw" = some m.cls := by rw [show (s.setVm T1.vm).vm = T1.vm from rfl, Sn1.1.alike.findClass]; exact hown
  dsimp only [Pt.U, Pt.locs, Pt.cells, Pt.slots] at X1 l1 y1 z1 st1 hQ1
  subst l1 y1 z1
  obtain ⟨x1, t1, kt1, rfl, N1q, O1, Ex1, Fv1, Vt1⟩ := hQ1
  have N1 := Fr.app N0 N1q
  obtain ⟨_, _, ⟨T2, L2, k2, n2⟩, -, X2, ⟨Lc2, hQ2, l2, y2, z2⟩, st2⟩ := Jvm.LawKit.callS X1 hx (y := (⟨"com/example/dispensd/dispensd/Identifier", "isValid", "(Ljava/lang/String;)Z"⟩ : MethodName)) hown1 (mvT hZ1 (own_w hw 0 rfl)) (mvT hZ1 (own_w hw 1 rfl)) (mvT hZ1 (own_w hw 2 rfl)) (mvT hZ1 (own_w hw 3 rfl)) (by decide) (backOf (W := 0) (rmVE l Z a0 hw [] x1 t1 kt1 T1.heap n0 O1 Ex1 Fv1 Vt1) hZ1 (own_w hw 3 rfl) (own_w hw 2 rfl) (by decide) (by decide)) (g := (mkF m 194 #[.val (.int p0), .val (.int p1), .val (.int p2), .val (.int p3), .val (.int (p0 &&& (7 : Int32))), .val (.int ((p2 &&& (255 : Int32)).toUInt32.toUInt16.toUInt32.toInt32)), .val (.int ((p3 &&& (255 : Int32)).toUInt32.toUInt16.toUInt32.toInt32)), .val (.int 0), .val (.int 0), .val (.ref x1), .val (.int 0)] [(.ref x1)])) rfl (by rw [hml]; rfl) (argsL := [(.ref x1)]) (rest := []) (lenOf pd_13 rfl) rfl (by show 2 * 0 + _ ≤ _; exact Nat.le_of_eq rfl) (hb hby at_194) (fun _ _ => ⟨rfl, rfl, (by decide : 4 + 0 ≤ _), (by decide : 8 + 0 ≤ _)⟩)
  dsimp only [Pt.U, Pt.locs, Pt.cells, Pt.slots] at X2 l2 y2 z2 st2 hQ2
  subst l2 y2 z2
  obtain ⟨rfl, N2q, e2⟩ := hQ2
  have N2 := Fr.app N1 N2q
  obtain ⟨fs, hr, hrun, hended, hRW⟩ := X2.leaveW Sn1 (by rw [e2]; exact (Nat.le_refl _)) (v := some (.int 1)) (fun h => by rw [Bd.returns] at h; cases h)
  refine ⟨_, _, pre0 _ ?_, hrun, hended, _, _, rfl, ?_, hRW.1, hRW.2.1, hRW.2.2.1, hRW.2.2.2.mono (by decide) (by decide)⟩
  · show oS p e below s₁ m 0 #[.val (.int p0), .val (.int p1), .val (.int p2), .val (.int p3), .unset, .unset, .unset, .unset, .unset, .unset, .unset] [] _
    refine XS.iloadN X0.here hx rfl (hb hby at_0) rfl ?_
    show oS p e below s₁ m 1 #[.val (.int p0), .val (.int p1), .val (.int p2), .val (.int p3), .unset, .unset, .unset, .unset, .unset, .unset, .unset] [(.int p0)] _
    refine XS.bipush X0.here hx rfl (hb hby at_1) ?_
    show oS p e below s₁ m 3 #[.val (.int p0), .val (.int p1), .val (.int p2), .val (.int p3), .unset, .unset, .unset, .unset, .unset, .unset, .unset] [(.int 7), (.int p0)] _
    refine XS.iand X0.here hx rfl (hb hby at_3) rfl ?_
    show oS p e below s₁ m 4 #[.val (.int p0), .val (.int p1), .val (.int p2), .val (.int p3), .unset, .unset, .unset, .unset, .unset, .unset, .unset] [(.int (p0 &&& (7 : Int32)))] _
    refine XS.istore X0.here hx rfl (hb hby at_4) rfl (l' := #[.val (.int p0), .val (.int p1), .val (.int p2), .val (.int p3), .val (.int (p0 &&& (7 : Int32))), .unset, .unset, .unset, .unset, .unset, .unset]) rfl ?_
    show oS p e below s₁ m 6 #[.val (.int p0), .val (.int p1), .val (.int p2), .val (.int p3), .val (.int (p0 &&& (7 : Int32))), .unset, .unset, .unset, .unset, .unset, .unset] [] _
    refine XS.iloadN X0.here hx rfl (hb hby at_6) rfl ?_
    show oS p e below s₁ m 7 #[.val (.int p0), .val (.int p1), .val (.int p2), .val (.int p3), .val (.int (p0 &&& (7 : Int32))), .unset, .unset, .unset, .unset, .unset, .unset] [(.int p2)] _
    refine XS.sipush X0.here hx rfl (hb hby at_7) ?_
    show oS p e below s₁ m 10 #[.val (.int p0), .val (.int p1), .val (.int p2), .val (.int p3), .val (.int (p0 &&& (7 : Int32))), .unset, .unset, .unset, .unset, .unset, .unset] [(.int 255), (.int p2)] _
    refine XS.iand X0.here hx rfl (hb hby at_10) rfl ?_
    show oS p e below s₁ m 11 #[.val (.int p0), .val (.int p1), .val (.int p2), .val (.int p3), .val (.int (p0 &&& (7 : Int32))), .unset, .unset, .unset, .unset, .unset, .unset] [(.int (p2 &&& (255 : Int32)))] _
    refine XS.i2c X0.here hx rfl (hb hby at_11) rfl ?_
    show oS p e below s₁ m 12 #[.val (.int p0), .val (.int p1), .val (.int p2), .val (.int p3), .val (.int (p0 &&& (7 : Int32))), .unset, .unset, .unset, .unset, .unset, .unset] [(.int ((p2 &&& (255 : Int32)).toUInt32.toUInt16.toUInt32.toInt32))] _
    refine XS.istore X0.here hx rfl (hb hby at_12) rfl (l' := #[.val (.int p0), .val (.int p1), .val (.int p2), .val (.int p3), .val (.int (p0 &&& (7 : Int32))), .val (.int ((p2 &&& (255 : Int32)).toUInt32.toUInt16.toUInt32.toInt32)), .unset, .unset, .unset, .unset, .unset]) rfl ?_
    show oS p e below s₁ m 14 #[.val (.int p0), .val (.int p1), .val (.int p2), .val (.int p3), .val (.int (p0 &&& (7 : Int32))), .val (.int ((p2 &&& (255 : Int32)).toUInt32.toUInt16.toUInt32.toInt32)), .unset, .unset, .unset, .unset, .unset] [] _
    refine XS.iloadN X0.here hx rfl (hb hby at_14) rfl ?_
    show oS p e below s₁ m 15 #[.val (.int p0), .val (.int p1), .val (.int p2), .val (.int p3), .val (.int (p0 &&& (7 : Int32))), .val (.int ((p2 &&& (255 : Int32)).toUInt32.toUInt16.toUInt32.toInt32)), .unset, .unset, .unset, .unset, .unset] [(.int p3)] _
    refine XS.sipush X0.here hx rfl (hb hby at_15) ?_
    show oS p e below s₁ m 18 #[.val (.int p0), .val (.int p1), .val (.int p2), .val (.int p3), .val (.int (p0 &&& (7 : Int32))), .val (.int ((p2 &&& (255 : Int32)).toUInt32.toUInt16.toUInt32.toInt32)), .unset, .unset, .unset, .unset, .unset] [(.int 255), (.int p3)] _
    refine XS.iand X0.here hx rfl (hb hby at_18) rfl ?_
    show oS p e below s₁ m 19 #[.val (.int p0), .val (.int p1), .val (.int p2), .val (.int p3), .val (.int (p0 &&& (7 : Int32))), .val (.int ((p2 &&& (255 : Int32)).toUInt32.toUInt16.toUInt32.toInt32)), .unset, .unset, .unset, .unset, .unset] [(.int (p3 &&& (255 : Int32)))] _
    refine XS.i2c X0.here hx rfl (hb hby at_19) rfl ?_
    show oS p e below s₁ m 20 #[.val (.int p0), .val (.int p1), .val (.int p2), .val (.int p3), .val (.int (p0 &&& (7 : Int32))), .val (.int ((p2 &&& (255 : Int32)).toUInt32.toUInt16.toUInt32.toInt32)), .unset, .unset, .unset, .unset, .unset] [(.int ((p3 &&& (255 : Int32)).toUInt32.toUInt16.toUInt32.toInt32))] _
    refine XS.istore X0.here hx rfl (hb hby at_20) rfl (l' := #[.val (.int p0), .val (.int p1), .val (.int p2), .val (.int p3), .val (.int (p0 &&& (7 : Int32))), .val (.int ((p2 &&& (255 : Int32)).toUInt32.toUInt16.toUInt32.toInt32)), .val (.int ((p3 &&& (255 : Int32)).toUInt32.toUInt16.toUInt32.toInt32)), .unset, .unset, .unset, .unset]) rfl ?_
    show oS p e below s₁ m 22 #[.val (.int p0), .val (.int p1), .val (.int p2), .val (.int p3), .val (.int (p0 &&& (7 : Int32))), .val (.int ((p2 &&& (255 : Int32)).toUInt32.toUInt16.toUInt32.toInt32)), .val (.int ((p3 &&& (255 : Int32)).toUInt32.toUInt16.toUInt32.toInt32)), .unset, .unset, .unset, .unset] [] _
    refine XS.iload X0.here hx rfl (hb hby at_22) rfl ?_
    show oS p e below s₁ m 24 #[.val (.int p0), .val (.int p1), .val (.int p2), .val (.int p3), .val (.int (p0 &&& (7 : Int32))), .val (.int ((p2 &&& (255 : Int32)).toUInt32.toUInt16.toUInt32.toInt32)), .val (.int ((p3 &&& (255 : Int32)).toUInt32.toUInt16.toUInt32.toInt32)), .unset, .unset, .unset, .unset] [(.int (p0 &&& (7 : Int32)))] _
    refine XS.ifYes X0.here hx rfl (pc0 := 24) (pc' := 40) rfl (hb hby at_24) rfl ((if0 _ _).trans (feq (by rw [hkk]; decide)).2) (by decide) (by decide) ?_
    show oS p e below s₁ m 40 #[.val (.int p0), .val (.int p1), .val (.int p2), .val (.int p3), .val (.int (p0 &&& (7 : Int32))), .val (.int ((p2 &&& (255 : Int32)).toUInt32.toUInt16.toUInt32.toInt32)), .val (.int ((p3 &&& (255 : Int32)).toUInt32.toUInt16.toUInt32.toInt32)), .unset, .unset, .unset, .unset] [] _
    refine XS.iload X0.here hx rfl (hb hby at_40) rfl ?_
    show oS p e below s₁ m 42 #[.val (.int p0), .val (.int p1), .val (.int p2), .val (.int p3), .val (.int (p0 &&& (7 : Int32))), .val (.int ((p2 &&& (255 : Int32)).toUInt32.toUInt16.toUInt32.toInt32)), .val (.int ((p3 &&& (255 : Int32)).toUInt32.toUInt16.toUInt32.toInt32)), .unset, .unset, .unset, .unset] [(.int (p0 &&& (7 : Int32)))] _
    refine XS.iconst X0.here hx rfl (hb hby at_42) ?_
    show oS p e below s₁ m 43 #[.val (.int p0), .val (.int p1), .val (.int p2), .val (.int p3), .val (.int (p0 &&& (7 : Int32))), .val (.int ((p2 &&& (255 : Int32)).toUInt32.toUInt16.toUInt32.toInt32)), .val (.int ((p3 &&& (255 : Int32)).toUInt32.toUInt16.toUInt32.toInt32)), .unset, .unset, .unset, .unset] [(.int 1), (.int (p0 &&& (7 : Int32)))] _
    refine XS.icmpNo X0.here hx rfl (hb hby at_43) rfl (teq hkk).2 ?_
    show oS p e below s₁ m 46 #[.val (.int p0), .val (.int p1), .val (.int p2), .val (.int p3), .val (.int (p0 &&& (7 : Int32))), .val (.int ((p2 &&& (255 : Int32)).toUInt32.toUInt16.toUInt32.toInt32)), .val (.int ((p3 &&& (255 : Int32)).toUInt32.toUInt16.toUInt32.toInt32)), .unset, .unset, .unset, .unset] [] _
    refine XS.iconst X0.here hx rfl (hb hby at_46) ?_
    show oS p e below s₁ m 47 #[.val (.int p0), .val (.int p1), .val (.int p2), .val (.int p3), .val (.int (p0 &&& (7 : Int32))), .val (.int ((p2 &&& (255 : Int32)).toUInt32.toUInt16.toUInt32.toInt32)), .val (.int ((p3 &&& (255 : Int32)).toUInt32.toUInt16.toUInt32.toInt32)), .unset, .unset, .unset, .unset] [(.int 0)] _
    refine XS.istore X0.here hx rfl (hb hby at_47) rfl (l' := #[.val (.int p0), .val (.int p1), .val (.int p2), .val (.int p3), .val (.int (p0 &&& (7 : Int32))), .val (.int ((p2 &&& (255 : Int32)).toUInt32.toUInt16.toUInt32.toInt32)), .val (.int ((p3 &&& (255 : Int32)).toUInt32.toUInt16.toUInt32.toInt32)), .val (.int 0), .unset, .unset, .unset]) rfl ?_
    show oS p e below s₁ m 49 #[.val (.int p0), .val (.int p1), .val (.int p2), .val (.int p3), .val (.int (p0 &&& (7 : Int32))), .val (.int ((p2 &&& (255 : Int32)).toUInt32.toUInt16.toUInt32.toInt32)), .val (.int ((p3 &&& (255 : Int32)).toUInt32.toUInt16.toUInt32.toInt32)), .val (.int 0), .unset, .unset, .unset] [] _
    refine XS.goto X0.here hx rfl (pc0 := 49) (pc' := 119) rfl (hb hby at_49) (by decide) (by decide) ?_
    show oS p e below s₁ m 119 #[.val (.int p0), .val (.int p1), .val (.int p2), .val (.int p3), .val (.int (p0 &&& (7 : Int32))), .val (.int ((p2 &&& (255 : Int32)).toUInt32.toUInt16.toUInt32.toInt32)), .val (.int ((p3 &&& (255 : Int32)).toUInt32.toUInt16.toUInt32.toInt32)), .val (.int 0), .unset, .unset, .unset] [] _
    refine XS.iload X0.here hx rfl (hb hby at_119) rfl ?_
    show oS p e below s₁ m 121 #[.val (.int p0), .val (.int p1), .val (.int p2), .val (.int p3), .val (.int (p0 &&& (7 : Int32))), .val (.int ((p2 &&& (255 : Int32)).toUInt32.toUInt16.toUInt32.toInt32)), .val (.int ((p3 &&& (255 : Int32)).toUInt32.toUInt16.toUInt32.toInt32)), .val (.int 0), .unset, .unset, .unset] [(.int 0)] _
    refine XS.ifNo X0.here hx rfl (hb hby at_121) rfl ((if0 _ _).trans (teq (by decide : (0 : Int32) = (0 : Int32))).2) ?_
    show oS p e below s₁ m 124 #[.val (.int p0), .val (.int p1), .val (.int p2), .val (.int p3), .val (.int (p0 &&& (7 : Int32))), .val (.int ((p2 &&& (255 : Int32)).toUInt32.toUInt16.toUInt32.toInt32)), .val (.int ((p3 &&& (255 : Int32)).toUInt32.toUInt16.toUInt32.toInt32)), .val (.int 0), .unset, .unset, .unset] [] _
    refine XS.iconst X0.here hx rfl (hb hby at_124) ?_
    show oS p e below s₁ m 125 #[.val (.int p0), .val (.int p1), .val (.int p2), .val (.int p3), .val (.int (p0 &&& (7 : Int32))), .val (.int ((p2 &&& (255 : Int32)).toUInt32.toUInt16.toUInt32.toInt32)), .val (.int ((p3 &&& (255 : Int32)).toUInt32.toUInt16.toUInt32.toInt32)), .val (.int 0), .unset, .unset, .unset] [(.int 0)] _
    refine XS.goto X0.here hx rfl (pc0 := 125) (pc' := 135) rfl (hb hby at_125) (by decide) (by decide) ?_
    show oS p e below s₁ m 135 #[.val (.int p0), .val (.int p1), .val (.int p2), .val (.int p3), .val (.int (p0 &&& (7 : Int32))), .val (.int ((p2 &&& (255 : Int32)).toUInt32.toUInt16.toUInt32.toInt32)), .val (.int ((p3 &&& (255 : Int32)).toUInt32.toUInt16.toUInt32.toInt32)), .val (.int 0), .unset, .unset, .unset] [(.int 0)] _
    refine XS.istore X0.here hx rfl (hb hby at_135) rfl (l' := #[.val (.int p0), .val (.int p1), .val (.int p2), .val (.int p3), .val (.int (p0 &&& (7 : Int32))), .val (.int ((p2 &&& (255 : Int32)).toUInt32.toUInt16.toUInt32.toInt32)), .val (.int ((p3 &&& (255 : Int32)).toUInt32.toUInt16.toUInt32.toInt32)), .val (.int 0), .val (.int 0), .unset, .unset]) rfl ?_
    show oS p e below s₁ m 137 #[.val (.int p0), .val (.int p1), .val (.int p2), .val (.int p3), .val (.int (p0 &&& (7 : Int32))), .val (.int ((p2 &&& (255 : Int32)).toUInt32.toUInt16.toUInt32.toInt32)), .val (.int ((p3 &&& (255 : Int32)).toUInt32.toUInt16.toUInt32.toInt32)), .val (.int 0), .val (.int 0), .unset, .unset] [] _
    refine XS.iload X0.here hx rfl (hb hby at_137) rfl ?_
    show oS p e below s₁ m 139 #[.val (.int p0), .val (.int p1), .val (.int p2), .val (.int p3), .val (.int (p0 &&& (7 : Int32))), .val (.int ((p2 &&& (255 : Int32)).toUInt32.toUInt16.toUInt32.toInt32)), .val (.int ((p3 &&& (255 : Int32)).toUInt32.toUInt16.toUInt32.toInt32)), .val (.int 0), .val (.int 0), .unset, .unset] [(.int 0)] _
    refine XS.iload X0.here hx rfl (hb hby at_139) rfl ?_
    show oS p e below s₁ m 141 #[.val (.int p0), .val (.int p1), .val (.int p2), .val (.int p3), .val (.int (p0 &&& (7 : Int32))), .val (.int ((p2 &&& (255 : Int32)).toUInt32.toUInt16.toUInt32.toInt32)), .val (.int ((p3 &&& (255 : Int32)).toUInt32.toUInt16.toUInt32.toInt32)), .val (.int 0), .val (.int 0), .unset, .unset] [(.int 0), (.int 0)] _
    refine XS.iload X0.here hx rfl (hb hby at_141) rfl ?_
    show oS p e below s₁ m 143 #[.val (.int p0), .val (.int p1), .val (.int p2), .val (.int p3), .val (.int (p0 &&& (7 : Int32))), .val (.int ((p2 &&& (255 : Int32)).toUInt32.toUInt16.toUInt32.toInt32)), .val (.int ((p3 &&& (255 : Int32)).toUInt32.toUInt16.toUInt32.toInt32)), .val (.int 0), .val (.int 0), .unset, .unset] [(.int ((p2 &&& (255 : Int32)).toUInt32.toUInt16.toUInt32.toInt32)), (.int 0), (.int 0)] _
    refine XS.iload X0.here hx rfl (hb hby at_143) rfl ?_
    show oS p e below s₁ m 145 #[.val (.int p0), .val (.int p1), .val (.int p2), .val (.int p3), .val (.int (p0 &&& (7 : Int32))), .val (.int ((p2 &&& (255 : Int32)).toUInt32.toUInt16.toUInt32.toInt32)), .val (.int ((p3 &&& (255 : Int32)).toUInt32.toUInt16.toUInt32.toInt32)), .val (.int 0), .val (.int 0), .unset, .unset] [(.int ((p3 &&& (255 : Int32)).toUInt32.toUInt16.toUInt32.toInt32)), (.int ((p2 &&& (255 : Int32)).toUInt32.toUInt16.toUInt32.toInt32)), (.int 0), (.int 0)] _
    refine st1.trans ?_
    show oS p e below T1 m 148 #[.val (.int p0), .val (.int p1), .val (.int p2), .val (.int p3), .val (.int (p0 &&& (7 : Int32))), .val (.int ((p2 &&& (255 : Int32)).toUInt32.toUInt16.toUInt32.toInt32)), .val (.int ((p3 &&& (255 : Int32)).toUInt32.toUInt16.toUInt32.toInt32)), .val (.int 0), .val (.int 0), .unset, .unset] [(.ref x1)] _
    refine XS.astore X1.here hx rfl (hb hby at_148) rfl rfl (l' := #[.val (.int p0), .val (.int p1), .val (.int p2), .val (.int p3), .val (.int (p0 &&& (7 : Int32))), .val (.int ((p2 &&& (255 : Int32)).toUInt32.toUInt16.toUInt32.toInt32)), .val (.int ((p3 &&& (255 : Int32)).toUInt32.toUInt16.toUInt32.toInt32)), .val (.int 0), .val (.int 0), .val (.ref x1), .unset]) rfl ?_
    show oS p e below T1 m 150 #[.val (.int p0), .val (.int p1), .val (.int p2), .val (.int p3), .val (.int (p0 &&& (7 : Int32))), .val (.int ((p2 &&& (255 : Int32)).toUInt32.toUInt16.toUInt32.toInt32)), .val (.int ((p3 &&& (255 : Int32)).toUInt32.toUInt16.toUInt32.toInt32)), .val (.int 0), .val (.int 0), .val (.ref x1), .unset] [] _
    refine XS.iload X1.here hx rfl (hb hby at_150) rfl ?_
    show oS p e below T1 m 152 #[.val (.int p0), .val (.int p1), .val (.int p2), .val (.int p3), .val (.int (p0 &&& (7 : Int32))), .val (.int ((p2 &&& (255 : Int32)).toUInt32.toUInt16.toUInt32.toInt32)), .val (.int ((p3 &&& (255 : Int32)).toUInt32.toUInt16.toUInt32.toInt32)), .val (.int 0), .val (.int 0), .val (.ref x1), .unset] [(.int 0)] _
    refine XS.iconst X1.here hx rfl (hb hby at_152) ?_
    show oS p e below T1 m 153 #[.val (.int p0), .val (.int p1), .val (.int p2), .val (.int p3), .val (.int (p0 &&& (7 : Int32))), .val (.int ((p2 &&& (255 : Int32)).toUInt32.toUInt16.toUInt32.toInt32)), .val (.int ((p3 &&& (255 : Int32)).toUInt32.toUInt16.toUInt32.toInt32)), .val (.int 0), .val (.int 0), .val (.ref x1), .unset] [(.int 1), (.int 0)] _
    refine XS.icmpYes X1.here hx rfl (pc0 := 153) (pc' := 189) rfl (hb hby at_153) rfl (tlt (by decide : (0 : Int32) < (1 : Int32))).1 (by decide) (by decide) ?_
    show oS p e below T1 m 189 #[.val (.int p0), .val (.int p1), .val (.int p2), .val (.int p3), .val (.int (p0 &&& (7 : Int32))), .val (.int ((p2 &&& (255 : Int32)).toUInt32.toUInt16.toUInt32.toInt32)), .val (.int ((p3 &&& (255 : Int32)).toUInt32.toUInt16.toUInt32.toInt32)), .val (.int 0), .val (.int 0), .val (.ref x1), .unset] [] _
    refine XS.iconst X1.here hx rfl (hb hby at_189) ?_
    show oS p e below T1 m 190 #[.val (.int p0), .val (.int p1), .val (.int p2), .val (.int p3), .val (.int (p0 &&& (7 : Int32))), .val (.int ((p2 &&& (255 : Int32)).toUInt32.toUInt16.toUInt32.toInt32)), .val (.int ((p3 &&& (255 : Int32)).toUInt32.toUInt16.toUInt32.toInt32)), .val (.int 0), .val (.int 0), .val (.ref x1), .unset] [(.int 0)] _
    refine XS.istore X1.here hx rfl (hb hby at_190) rfl (l' := #[.val (.int p0), .val (.int p1), .val (.int p2), .val (.int p3), .val (.int (p0 &&& (7 : Int32))), .val (.int ((p2 &&& (255 : Int32)).toUInt32.toUInt16.toUInt32.toInt32)), .val (.int ((p3 &&& (255 : Int32)).toUInt32.toUInt16.toUInt32.toInt32)), .val (.int 0), .val (.int 0), .val (.ref x1), .val (.int 0)]) rfl ?_
    show oS p e below T1 m 192 #[.val (.int p0), .val (.int p1), .val (.int p2), .val (.int p3), .val (.int (p0 &&& (7 : Int32))), .val (.int ((p2 &&& (255 : Int32)).toUInt32.toUInt16.toUInt32.toInt32)), .val (.int ((p3 &&& (255 : Int32)).toUInt32.toUInt16.toUInt32.toInt32)), .val (.int 0), .val (.int 0), .val (.ref x1), .val (.int 0)] [] _
    refine XS.aload X1.here hx rfl (hb hby at_192) rfl rfl ?_
    show oS p e below T1 m 194 #[.val (.int p0), .val (.int p1), .val (.int p2), .val (.int p3), .val (.int (p0 &&& (7 : Int32))), .val (.int ((p2 &&& (255 : Int32)).toUInt32.toUInt16.toUInt32.toInt32)), .val (.int ((p3 &&& (255 : Int32)).toUInt32.toUInt16.toUInt32.toInt32)), .val (.int 0), .val (.int 0), .val (.ref x1), .val (.int 0)] [(.ref x1)] _
    refine st2 _ ?_
    show oS p e below T2 m 197 #[.val (.int p0), .val (.int p1), .val (.int p2), .val (.int p3), .val (.int (p0 &&& (7 : Int32))), .val (.int ((p2 &&& (255 : Int32)).toUInt32.toUInt16.toUInt32.toInt32)), .val (.int ((p3 &&& (255 : Int32)).toUInt32.toUInt16.toUInt32.toInt32)), .val (.int 0), .val (.int 0), .val (.ref x1), .val (.int 0)] [(.int 0)] _
    refine XS.iload X2.here hx rfl (hb hby at_197) rfl ?_
    show oS p e below T2 m 199 #[.val (.int p0), .val (.int p1), .val (.int p2), .val (.int p3), .val (.int (p0 &&& (7 : Int32))), .val (.int ((p2 &&& (255 : Int32)).toUInt32.toUInt16.toUInt32.toInt32)), .val (.int ((p3 &&& (255 : Int32)).toUInt32.toUInt16.toUInt32.toInt32)), .val (.int 0), .val (.int 0), .val (.ref x1), .val (.int 0)] [(.int 0), (.int 0)] _
    refine XS.icmpNo X2.here hx rfl (hb hby at_199) rfl (teq (by decide : (0 : Int32) = (0 : Int32))).2 ?_
    show oS p e below T2 m 202 #[.val (.int p0), .val (.int p1), .val (.int p2), .val (.int p3), .val (.int (p0 &&& (7 : Int32))), .val (.int ((p2 &&& (255 : Int32)).toUInt32.toUInt16.toUInt32.toInt32)), .val (.int ((p3 &&& (255 : Int32)).toUInt32.toUInt16.toUInt32.toInt32)), .val (.int 0), .val (.int 0), .val (.ref x1), .val (.int 0)] [] _
    refine XS.iconst X2.here hx rfl (hb hby at_202) ?_
    show oS p e below T2 m 203 #[.val (.int p0), .val (.int p1), .val (.int p2), .val (.int p3), .val (.int (p0 &&& (7 : Int32))), .val (.int ((p2 &&& (255 : Int32)).toUInt32.toUInt16.toUInt32.toInt32)), .val (.int ((p3 &&& (255 : Int32)).toUInt32.toUInt16.toUInt32.toInt32)), .val (.int 0), .val (.int 0), .val (.ref x1), .val (.int 0)] [(.int 1)] _
    refine XS.goto X2.here hx rfl (pc0 := 203) (pc' := 207) rfl (hb hby at_203) (by decide) (by decide) ?_
    show oS p e below T2 m 207 #[.val (.int p0), .val (.int p1), .val (.int p2), .val (.int p3), .val (.int (p0 &&& (7 : Int32))), .val (.int ((p2 &&& (255 : Int32)).toUInt32.toUInt16.toUInt32.toInt32)), .val (.int ((p3 &&& (255 : Int32)).toUInt32.toUInt16.toUInt32.toInt32)), .val (.int 0), .val (.int 0), .val (.ref x1), .val (.int 0)] [(.int 1)] _
    exact retN X2 hx (t := .boolean) Bd.returns (by simp) (hb hby at_207) hr
  · show own_R n0 _ T2.heap _
    rw [e2]
    exact ⟨rfl, N2⟩
theorem rm0N (l : Launch) (Z : State) (a0 : Array Value) (hw : ∀ d ∈ tables_1, d.before a0 Z = true) (ws : List Jvm.Cond) (p0 p1 p2 p3 zc px py ps : Int32) (vn : Nat) (fm : Value) (h0 : Heap) (n0 : Nat) (O0 : Old Z n0 h0) (S_COMPACT_STRINGS : Sta Z Z.heap "java/lang/String" "COMPACT_STRINGS" "Z" (.int zc)) (hzc : ¬ zc = 0) (S_FM : Sta Z Z.heap "jdk/internal/util/Preconditions" "SIOOBE_FORMATTER" "Ljava/util/function/BiFunction;" fm) (hfm : fm.isRef = true) (hpx : ((p2 &&& (255 : Int32)).toUInt32.toUInt16.toUInt32.toInt32) = px) (hpy : ((p3 &&& (255 : Int32)).toUInt32.toUInt16.toUInt32.toInt32) = py) (hkn : ((p0 &&& (7 : Int32)) = (2 : Int32) ∧ vn = 1) ∨ ((p0 &&& (7 : Int32)) = (3 : Int32) ∧ vn = 2) ∨ ((p0 &&& (7 : Int32)) = (4 : Int32) ∧ vn = 3) ∨ ((p0 &&& (7 : Int32)) = (5 : Int32) ∧ vn = 15) ∨ ((p0 &&& (7 : Int32)) = (6 : Int32) ∧ vn = 16) ∨ ((p0 &&& (7 : Int32)) = (7 : Int32) ∧ vn = 17)) (hps : ((p1 &&& (2147483647 : Int32)) % (Int32.ofNat vn)) = ps) (hheldI : Jvm.Lit.constHeld Z "com/example/dispensd/dispensd/Identifier" 34) (hcw : Jvm.Lit.compactW.before a0 Z = true) : MetFree l x (head1 (Jvm.Cond.code x code maxLocals ret :: ws) room_1) (fun a U => a = #[(.int p0), (.int p1), (.int p2), (.int p3)] ∧ Z.Warmed39 U.vm ∧ U.heap = h0 ∧ U.vm.interned = Z.vm.interned) (fun _ _ _ _ _ => True) (fun _ U o U' => ∃ v L, o = .returned v ∧ own_R n0 v U'.heap L ∧ ReturnedEndW U o U' L room_1.cells room_1.slots) := by
  have hvn : vn = 1 ∨ vn = 2 ∨ vn = 3 ∨ vn = 15 ∨ vn = 16 ∨ vn = 17 := by
    rcases hkn with q | q | q | q | q | q <;> omega
  have hbd : 1 ≤ vn ∧ vn ≤ 17 := by omega
  have htn : (Int32.ofNat vn).toInt = vn := own_ofNat (by omega)
  have z0 : (0 : Int32).toInt = 0 := by decide
  have z1 : (1 : Int32).toInt = 1 := by decide
  have z16 : (16 : Int32).toInt = 16 := by decide
  have hv0 : ¬ ((Int32.ofNat vn) = (0 : Int32)) := fun q => by
    rw [q, z0] at htn
    omega
  have hv1 : ¬ ((Int32.ofNat vn) < (1 : Int32)) := by
    rw [Int32.lt_iff_toInt_lt, htn, z1]
    omega
  have gx : ¬ px < (0 : Int32) ∧ ¬ (255 : Int32) < px := hpx ▸ own_c255 p2
  have gy : ¬ py < (0 : Int32) ∧ ¬ (255 : Int32) < py := hpy ▸ own_c255 p3
  have hpc := own_hp (n := vn) (s := ps) gx gy
  have hcl := own_csl vn ps px py
  have hvl : (own_cs vn ps px py).length ≤ 4000 := by omega
  have hne : ¬ (own_cs vn ps px py).length = 0 := by omega
  have hm := own_mod p1 (Int32.ofNat vn) (by rw [htn]; omega)
  rw [hps, htn] at hm
  have hse : ps = Int32.ofNat ps.toInt.toNat := by
    apply Int32.toInt_inj.mp
    rw [own_ofNat (by omega)]
    omega
  have hix : px ∈ own_cs vn ps px py := own_inx gx gy hse (by omega)
  have hqa : (0 : Int32) < (Int32.ofNat (own_cs vn ps px py).length) := by
    rw [hcl, Int32.lt_iff_toInt_lt, htn, z0]
    omega
  by_cases h17 : vn = 17
  · have hv16 : (16 : Int32) < (Int32.ofNat vn) := by
      rw [Int32.lt_iff_toInt_lt, htn, z16]
      omega
    have hqb : (16 : Int32) < (Int32.ofNat (own_cs vn ps px py).length) := by
      rw [hcl]
      exact hv16
    exact rm0L l Z a0 hw ws p0 p1 p2 p3 zc px py ps vn fm h0 n0 O0 S_COMPACT_STRINGS hzc S_FM hfm hpx hpy hkn hv0 hps hvn hpc hv1 hvl hv16 hne hqb
  have hv16 : ¬ ((16 : Int32) < (Int32.ofNat vn)) := by
    rw [Int32.lt_iff_toInt_lt, htn, z16]
    omega
  have hqb : ¬ ((16 : Int32) < (Int32.ofNat (own_cs vn ps px py).length)) := by
    rw [hcl]
    exact hv16
  rcases own_okc gx with ⟨ox, fx⟩ | ⟨hokx, fx⟩
  · have hokx : ¬ ((own_ok px) = (0 : Int32)) := by
      rw [ox]
      decide
    by_cases h1 : vn = 1
    · have hvo : (Int32.ofNat vn) = (1 : Int32) := by
        rw [h1]
        rfl
      have hall : ∀ c ∈ own_cs vn ps px py, ¬ own_find own_A (c.toInt8.toInt32) 0 < 0 := by
        intro c hc
        rcases own_mem gx gy hc with ⟨q, -⟩ | ⟨-, i, hi, hi2⟩
        · rw [q]
          exact fx
        · exfalso
          apply hi2
          rw [hse]
          have e1 : i = ps.toInt.toNat := by omega
          rw [e1]
      exact rm0A l Z a0 hw ws p0 p1 p2 p3 zc px py ps vn fm h0 n0 O0 S_COMPACT_STRINGS hzc S_FM hfm hpx hpy hkn hv0 hps hvn hpc hv1 hvl hv16 hqb hqa hheldI hcw hokx hvo hall
    · have hvo : ¬ ((Int32.ofNat vn) = (1 : Int32)) := fun q => by
        rw [q, z1] at htn
        omega
      rcases own_okc gy with ⟨oy, fy⟩ | ⟨hoky, fy⟩
      · have hoky : ¬ ((own_ok py) = (0 : Int32)) := by
          rw [oy]
          decide
        have hall : ∀ c ∈ own_cs vn ps px py, ¬ own_find own_A (c.toInt8.toInt32) 0 < 0 := by
          intro c hc
          rcases own_mem gx gy hc with ⟨q, -⟩ | ⟨q, -⟩
          · rw [q]
            exact fx
          · rw [q]
            exact fy
        exact rm0B l Z a0 hw ws p0 p1 p2 p3 zc px py ps vn fm h0 n0 O0 S_COMPACT_STRINGS hzc S_FM hfm hpx hpy hkn hv0 hps hvn hpc hv1 hvl hv16 hqb hqa hheldI hcw hokx hvo hoky hall
      · have hex : ∃ c ∈ own_cs vn ps px py, own_find own_A (c.toInt8.toInt32) 0 < 0 := ⟨py, own_iny gx gy (by omega), fy⟩
        exact rm0D l Z a0 hw ws p0 p1 p2 p3 zc px py ps vn fm h0 n0 O0 S_COMPACT_STRINGS hzc S_FM hfm hpx hpy hkn hv0 hps hvn hpc hv1 hvl hv16 hqb hqa hheldI hcw hokx hvo hoky hex
  · have hex : ∃ c ∈ own_cs vn ps px py, own_find own_A (c.toInt8.toInt32) 0 < 0 := ⟨px, hix, fx⟩
    exact rm0C l Z a0 hw ws p0 p1 p2 p3 zc px py ps vn fm h0 n0 O0 S_COMPACT_STRINGS hzc S_FM hfm hpx hpy hkn hv0 hps hvn hpc hv1 hvl hv16 hqb hqa hheldI hcw hokx hex
set_option maxRecDepth 65536 in
set_option maxHeartbeats 40000000 in
theorem comes_1 {Post : Tables → Env → Array Value → State → Outcome → State → Prop} (hpost : ∀ tb e args s v u, (limb_1_1.after args s (.returned v) u = true ∧ limb_1_2.after args s (.returned v) u = true ∧ True) → ReturnedEndW s (.returned v) u (Jvm.fieldLocs frame_1_writes args s ++ Jvm.arrayLocs frame_1_arrays args s ++ Jvm.staticLocs frame_1_statics s) 24 2240 → Post tb e args s (.returned v) u) :
    ArmFor flags0 classFile x code maxLocals ret World_1 tables_1 room_1 Calls_1 rest_1 Pre_1 Post := by
  intro l hfl _ _ p e ha hc hk s m args below hf hA hF happ hP
  obtain ⟨hcalls, hrest, hpre⟩ := hP
  obtain ⟨-, -, -, hnamed, -, -, -, hat⟩ := (Spec.applies_iff hf).mp happ
  obtain ⟨hg, hn⟩ := and_e (Cond.before_iff.mp (show (Jvm.Cond.and given_1 narrow_1).before args s = true from hpre))
  obtain ⟨gc, gr0⟩ := and_e hg
  obtain ⟨ga0, gr1⟩ := and_e gr0
  obtain ⟨ga1, gr2⟩ := and_e gr1
  obtain ⟨ga2, gr3⟩ := and_e gr2
  obtain ⟨w0, w1, w2, w3, rfl⟩ : ∃ w0 w1 w2 w3 : Value, args = #[w0, w1, w2, w3] := by
    have hs : args.size = 4 := by simpa [Cond.value, given_1] using gc
    obtain ⟨L⟩ := args
    match L, hs with
    | [w0, w1, w2, w3], _ => exact ⟨w0, w1, w2, w3, rfl⟩
  have hw := fun d (hd : d ∈ tables_1) => atoms_spec (ws := Jvm.Cond.code x code maxLocals ret :: tables_1) hat d (List.mem_cons_of_mem _ hd)
  have hfit : Fit s := fun {y c} hc i hi => by
    obtain ⟨ha, rfl⟩ := Array.getElem?_eq_some_iff.mp hc
    have q := List.all_eq_true.mp ((Array.all_eq_true_iff_forall_mem.mp hF) _ (Array.getElem_mem ha)) i (List.mem_range.mpr hi)
    simpa [Array.getElem?_eq_getElem hi] using q
  obtain ⟨hsets, hown0⟩ := atoms_of _ (rest_1_c_eq ▸ (show rest_1_c.before _ s = true from hrest))
  obtain ⟨i0, ei0⟩ := is_v ga0
  obtain rfl : w0 = (.int i0) := Option.some.inj ei0
  obtain ⟨i1, ei1⟩ := is_v ga1
  obtain rfl : w1 = (.int i1) := Option.some.inj ei1
  obtain ⟨i2, ei2⟩ := is_v ga2
  obtain rfl : w2 = (.int i2) := Option.some.inj ei2
  obtain ⟨i3, ei3⟩ := is_v gr3
  obtain rfl : w3 = (.int i3) := Option.some.inj ei3
  obtain ⟨zc, evz⟩ := is_v (Cond.before_iff.mp (hsets _ (List.mem_of_getElem? (i := 1) rfl)))
  have S_COMPACT_STRINGS := Sta.start evz (Or.inl (hsets _ (List.mem_of_getElem? (i := 0) rfl)))
  have hzc : ¬ zc = 0 := gotF (Cond.eq_ints evz (Term.int_eval 0)) (not_v (Cond.before_iff.mp (hsets _ (List.mem_of_getElem? (i := 2) rfl))))
  have hcw : Jvm.Lit.compactW.before _ s = true := (hsets _ (List.mem_of_getElem? (i := 2) rfl))
  have hheld : Jvm.Lit.constHeld s "java/lang/String" 7 := hcalls.1 ("java/lang/String", 7) (by decide)
  have hheldI : Jvm.Lit.constHeld s "com/example/dispensd/dispensd/Identifier" 34 := hcalls.1 ("com/example/dispensd/dispensd/Identifier", 34) (by decide)
  obtain ⟨fm, evf, hfm⟩ := isR_v (Cond.before_iff.mp (hsets _ (List.mem_of_getElem? (i := 8) rfl)))
  have S_FM := Sta.start evf (Or.inl (hsets _ (List.mem_of_getElem? (i := 7) rfl)))
  have key : MetFree l x (head1 (Jvm.Cond.code x code maxLocals ret :: tables_1) room_1) (fun a U => a = #[(.int i0), (.int i1), (.int i2), (.int i3)] ∧ s.Warmed39 U.vm ∧ U.heap = s.heap ∧ U.vm.interned = s.vm.interned) (fun _ _ _ _ _ => True) (fun _ U o U' => ∃ v L, o = .returned v ∧ own_R s.heap.size v U'.heap L ∧ ReturnedEndW U o U' L room_1.cells room_1.slots) := by
    rcases own_and7 i0 with hkk | hkk | hk | hk | hk | hk | hk | hk
    · exact rm0K l s _ hw tables_1 i0 i1 i2 i3 s.heap s.heap.size (Old.start s) hkk
    · exact rm0Z l s _ hw tables_1 i0 i1 i2 i3 s.heap s.heap.size (Old.start s) hkk hheld hcw
    · exact rm0N l s _ hw tables_1 i0 i1 i2 i3 zc _ _ _ 1 fm s.heap s.heap.size (Old.start s) S_COMPACT_STRINGS hzc S_FM hfm rfl rfl (Or.inl ⟨hk, rfl⟩) rfl hheldI hcw
    · exact rm0N l s _ hw tables_1 i0 i1 i2 i3 zc _ _ _ 2 fm s.heap s.heap.size (Old.start s) S_COMPACT_STRINGS hzc S_FM hfm rfl rfl (Or.inr (Or.inl ⟨hk, rfl⟩)) rfl hheldI hcw
    · exact rm0N l s _ hw tables_1 i0 i1 i2 i3 zc _ _ _ 3 fm s.heap s.heap.size (Old.start s) S_COMPACT_STRINGS hzc S_FM hfm rfl rfl (Or.inr (Or.inr (Or.inl ⟨hk, rfl⟩))) rfl hheldI hcw
    · exact rm0N l s _ hw tables_1 i0 i1 i2 i3 zc _ _ _ 15 fm s.heap s.heap.size (Old.start s) S_COMPACT_STRINGS hzc S_FM hfm rfl rfl (Or.inr (Or.inr (Or.inr (Or.inl ⟨hk, rfl⟩)))) rfl hheldI hcw
    · exact rm0N l s _ hw tables_1 i0 i1 i2 i3 zc _ _ _ 16 fm s.heap s.heap.size (Old.start s) S_COMPACT_STRINGS hzc S_FM hfm rfl rfl (Or.inr (Or.inr (Or.inr (Or.inr (Or.inl ⟨hk, rfl⟩))))) rfl hheldI hcw
    · exact rm0N l s _ hw tables_1 i0 i1 i2 i3 zc _ _ _ 17 fm s.heap s.heap.size (Old.start s) S_COMPACT_STRINGS hzc S_FM hfm rfl rfl (Or.inr (Or.inr (Or.inr (Or.inr (Or.inr (⟨hk, rfl⟩)))))) rfl hheldI hcw
  obtain ⟨n, o, h1, h2, h3, _, L, rfl, ⟨rfl, N⟩, hq⟩ := key p e ha hc hk s m _ below hf ((Spec.applies_iff_loose hf).mp happ).1 ⟨rfl, State.Warmed39.refl s, rfl, rfl⟩ trivial
  refine ⟨n, _, h1, h2, h3, hpost _ _ _ _ _ _ ⟨Cond.after_iff.mpr rfl, Cond.after_iff.mpr (eq_i res_at (Term.int_eval (1)) rfl), trivial⟩ ⟨hq.1, hq.2.1, hq.2.2.1, (hq.2.2.2.sift fun y hy => Or.inr (N y hy)).mono (by decide) (by decide)⟩⟩
theorem main_1_1 : Claimed_1_1 := comes_1 fun _ _ _ _ _ _ h hF => ⟨h.1, hF⟩
theorem main_1_2 : Claimed_1_2 := comes_1 fun _ _ _ _ _ _ h hF => ⟨h.2.1, hF⟩
end Jvm.Pilot.@@N@@
namespace Jvm.Pilot.@@N@@
open Jvm Jvm.ClassFile Sem Op Lib Jvm.Free Jvm.Stand Jvm.Pilot.@@N@@.Jvm.D
/-! MADE BY PROGRAM (witnessworld.py) out of the Statement's table words and the real class files: 22 classes; the members and pool entries that the words name. The judged class is class 1, her method 4. -/
namespace start1
open Jvm.ClassFile
def u (s : String) : CpInfo := .utf8 (stringToUtf16 s)
/-- a pool by its gaps: so many unusable entries, then the entry; so many at the end -/
def gap : Nat → List CpInfo → List CpInfo
  | 0, r => r
  | n + 1, r => .unusable :: gap n r
def poolList (es : List (Nat × CpInfo)) (last : Nat) : List CpInfo := es.foldr (fun e r => gap e.1 (e.2 :: r)) (gap last [])
def pool (es : List (Nat × CpInfo)) (last : Nat) : Array CpInfo := ⟨poolList es last⟩
def fileOf (pool : Array CpInfo) (this : Nat) (attrs : Array Attribute := #[]) (ms : Array MethodInfo := #[]) (fl : Nat := 33) (sup : Nat := 0) (ifs : Array Nat := #[]) (fds : Array FieldInfo := #[]) : ClassFile where
  minorVersion := 0
  majorVersion := 65
  constantPool := pool
  accessFlags := fl
  thisClass := this
  superClass := sup
  interfaces := ifs
  fields := fds
  methods := ms
  attributes := attrs
def plain (name : String) (sup : Option ClassId) : Class where
  name := name
  kind := .ordinary
  loader := none
  accessFlags := 33
  super := sup
  interfaces := #[]
  cf := none
  fields := #[]
  methods := #[]
  instanceTypes := #[]
  staticTypes := #[]
  resolved := #[]
  callSites := []
  init := .initialized
  statics := none
  mirror := none

def pool0 : Array CpInfo := pool [(5, u "<init>"), (0, u "()V"), (1, .class_ 10), (1, u "java/lang/Object")] 113

def k0c0 : Code := { maxStack := 0, maxLocals := 1, code := object_method_1_code, exceptionTable := #[], attributes := #[] }
def k0m0 : Method := { name := "<init>", desc := "()V", sig := { parameters := [], returnType := none }, accessFlags := 1, code := some k0c0 }
/-- java/lang/Object -/
def k0 : Class := { plain "java/lang/Object" none with
  accessFlags := 33
  interfaces := #[]
  cf := some (fileOf pool0 8 #[] #[{ accessFlags := 1, nameIndex := 5, descriptorIndex := 6, attributes := #[] }] 33 0 #[] #[])
  fields := #[]
  methods := #[k0m0]
  instanceTypes := #[]
  staticTypes := #[]
  resolved := Array.replicate 124 none
  statics := none }

def pool1 : Array CpInfo := pool [(2, .class_ 4), (1, u "java/lang/Object"), (0, u "<init>"), (0, u "()V"), (0, .class_ 8), (0, u "java/lang/String"), (0, .methodref 7 10), (0, .nameAndType 5 11), (0, u "([C)V"), (0, .methodref 13 14), (0, .class_ 15), (0, .nameAndType 16 17), (0, u "com/example/dispensd/dispensd/IdentifierIsValidPinLaw"), (0, u "at"), (0, u "(IICC)C"), (0, .methodref 19 20), (0, .class_ 21), (0, .nameAndType 22 23), (0, u "com/example/dispensd/dispensd/Identifier"), (0, u "isValid"), (0, u "(Ljava/lang/String;)Z"), (0, .integer 2147483647), (0, .methodref 13 26), (0, .nameAndType 27 28), (0, u "make"), (0, u "(IICC)Ljava/lang/String;"), (0, .methodref 13 30), (0, .nameAndType 31 32), (0, u "ok"), (0, u "(C)Z"), (3, u "law"), (0, u "(IIII)Z")] 2

def k1m0 : Method := { name := "<init>", desc := "()V", sig := { parameters := [], returnType := none }, accessFlags := 1, code := none }
def k1c1 : Code := { maxStack := 2, maxLocals := 1, code := method_2_code, exceptionTable := #[], attributes := #[] }
def k1m1 : Method := { name := "ok", desc := "(C)Z", sig := { parameters := [.char], returnType := some .boolean }, accessFlags := 10, code := some k1c1 }
def k1c2 : Code := { maxStack := 2, maxLocals := 4, code := method_3_code, exceptionTable := #[], attributes := #[] }
def k1m2 : Method := { name := "at", desc := "(IICC)C", sig := { parameters := [.int, .int, .char, .char], returnType := some .char }, accessFlags := 10, code := some k1c2 }
def k1c3 : Code := { maxStack := 9, maxLocals := 4, code := method_4_code, exceptionTable := #[], attributes := #[] }
def k1m3 : Method := { name := "make", desc := "(IICC)Ljava/lang/String;", sig := { parameters := [.int, .int, .char, .char], returnType := some (.object "java/lang/String") }, accessFlags := 10, code := some k1c3 }
def k1c4 : Code := { maxStack := 4, maxLocals := 11, code := code, exceptionTable := #[], attributes := #[] }
def k1m4 : Method := { name := "law", desc := "(IIII)Z", sig := { parameters := [.int, .int, .int, .int], returnType := some .boolean }, accessFlags := 9, code := some k1c4 }
/-- com/example/dispensd/dispensd/IdentifierIsValidPinLaw -/
def k1 : Class := { plain "com/example/dispensd/dispensd/IdentifierIsValidPinLaw" (some 0) with
  accessFlags := 49
  interfaces := #[]
  cf := some (fileOf pool1 13 #[] #[{ accessFlags := 1, nameIndex := 5, descriptorIndex := 6, attributes := #[] }, { accessFlags := 10, nameIndex := 31, descriptorIndex := 32, attributes := #[] }, { accessFlags := 10, nameIndex := 16, descriptorIndex := 17, attributes := #[] }, { accessFlags := 10, nameIndex := 27, descriptorIndex := 28, attributes := #[] }, { accessFlags := 9, nameIndex := 36, descriptorIndex := 37, attributes := #[] }] 49 2 #[] #[])
  fields := #[]
  methods := #[k1m0, k1m1, k1m2, k1m3, k1m4]
  instanceTypes := #[]
  staticTypes := #[]
  resolved := Array.replicate 40 none
  statics := none }

def pool2 : Array CpInfo := pool [(2, .class_ 4), (1, u "java/lang/Object"), (0, u "<init>"), (0, u "()V"), (0, .class_ 8), (0, u "java/lang/Record")] 13

def k2m0 : Method := { name := "<init>", desc := "()V", sig := { parameters := [], returnType := none }, accessFlags := 4, code := none }
/-- java/lang/Record -/
def k2 : Class := { plain "java/lang/Record" (some 0) with
  accessFlags := 1057
  interfaces := #[]
  cf := some (fileOf pool2 7 #[] #[{ accessFlags := 4, nameIndex := 5, descriptorIndex := 6, attributes := #[] }] 1057 2 #[] #[])
  fields := #[]
  methods := #[k2m0]
  instanceTypes := #[]
  staticTypes := #[]
  resolved := Array.replicate 22 none
  statics := none }

def pool3 : Array CpInfo := pool [(2, .class_ 4), (1, u "java/lang/Record"), (3, .class_ 10), (1, u "com/example/dispensd/dispensd/Identifier"), (0, u "isValid"), (0, u "(Ljava/lang/String;)Z"), (9, u "value"), (0, u "Ljava/lang/String;"), (0, .methodref 25 26), (0, .class_ 27), (0, .nameAndType 28 29), (0, u "java/lang/String"), (0, u "isEmpty"), (0, u "()Z"), (0, .methodref 25 31), (0, .nameAndType 32 33), (0, u "length"), (0, u "()I"), (0, .string 35), (0, u "ABCDEFGHIJKLMNOPQRSTUVWXYZabcdefghijklmnopqrstuvwxyz0123456789-_"), (0, .methodref 25 37), (0, .nameAndType 38 39), (0, u "charAt"), (0, u "(I)C"), (0, .methodref 25 41), (0, .nameAndType 42 43), (0, u "indexOf"), (0, u "(I)I"), (12, u "MAX_LENGTH"), (0, u "I"), (2, u "ALLOWED")] 25

def k3c0 : Code := { maxStack := 3, maxLocals := 2, code := prog_2_method_2_code, exceptionTable := #[], attributes := #[] }
def k3m0 : Method := { name := "isValid", desc := "(Ljava/lang/String;)Z", sig := { parameters := [(.object "java/lang/String")], returnType := some .boolean }, accessFlags := 9, code := some k3c0 }
/-- com/example/dispensd/dispensd/Identifier -/
def k3 : Class := { plain "com/example/dispensd/dispensd/Identifier" (some 2) with
  accessFlags := 49
  interfaces := #[]
  cf := some (fileOf pool3 8 #[] #[{ accessFlags := 9, nameIndex := 11, descriptorIndex := 12, attributes := #[] }] 49 2 #[] #[{ accessFlags := 18, nameIndex := 22, descriptorIndex := 23, attributes := #[] }, { accessFlags := 26, nameIndex := 56, descriptorIndex := 57, attributes := #[] }, { accessFlags := 26, nameIndex := 60, descriptorIndex := 23, attributes := #[] }])
  fields := #[{ name := "value", type := (.object "java/lang/String"), accessFlags := 18, slot := 0, constantValue := 0 }, { name := "MAX_LENGTH", type := .int, accessFlags := 26, slot := 0, constantValue := 0 }, { name := "ALLOWED", type := (.object "java/lang/String"), accessFlags := 26, slot := 1, constantValue := 0 }]
  methods := #[k3m0]
  instanceTypes := #[(.object "java/lang/String")]
  staticTypes := #[.int, (.object "java/lang/String")]
  resolved := Array.replicate 86 none
  statics := none }

def pool4 : Array CpInfo := pool [(1, .class_ 2), (0, u "java/io/Serializable"), (0, .class_ 4), (0, u "java/lang/Object")] 2

/-- java/io/Serializable -/
def k4 : Class := { plain "java/io/Serializable" (some 0) with
  accessFlags := 1537
  interfaces := #[]
  cf := some (fileOf pool4 1 #[] #[] 1537 3 #[] #[])
  fields := #[]
  methods := #[]
  instanceTypes := #[]
  staticTypes := #[]
  resolved := Array.replicate 7 none
  statics := none }

def pool5 : Array CpInfo := pool [(1, .class_ 2), (0, u "java/lang/Comparable"), (0, .class_ 4), (0, u "java/lang/Object")] 7

/-- java/lang/Comparable -/
def k5 : Class := { plain "java/lang/Comparable" (some 0) with
  accessFlags := 1537
  interfaces := #[]
  cf := some (fileOf pool5 1 #[] #[] 1537 3 #[] #[])
  fields := #[]
  methods := #[]
  instanceTypes := #[]
  staticTypes := #[]
  resolved := Array.replicate 12 none
  statics := none }

def pool6 : Array CpInfo := pool [(2, .class_ 4), (1, u "java/lang/CharSequence"), (42, .class_ 48), (0, u "java/lang/CharSequence$1CodePointIterator"), (10, .class_ 60), (0, u "java/lang/CharSequence$1CharIterator"), (5, .class_ 67), (0, u "java/lang/Object")] 63

/-- java/lang/CharSequence -/
def k6 : Class := { plain "java/lang/CharSequence" (some 0) with
  accessFlags := 1537
  interfaces := #[]
  cf := some (fileOf pool6 2 #[.nestMembers #[47, 59]] #[] 1537 66 #[] #[])
  fields := #[]
  methods := #[]
  instanceTypes := #[]
  staticTypes := #[]
  resolved := Array.replicate 131 none
  statics := none }

def pool7 : Array CpInfo := pool [(1, .class_ 2), (0, u "java/lang/constant/Constable"), (0, .class_ 4), (0, u "java/lang/Object")] 6

/-- java/lang/constant/Constable -/
def k7 : Class := { plain "java/lang/constant/Constable" (some 0) with
  accessFlags := 1537
  interfaces := #[]
  cf := some (fileOf pool7 1 #[] #[] 1537 3 #[] #[])
  fields := #[]
  methods := #[]
  instanceTypes := #[]
  staticTypes := #[]
  resolved := Array.replicate 11 none
  statics := none }

def pool8 : Array CpInfo := pool [(1, .class_ 2), (0, u "java/lang/constant/ConstantDesc"), (0, .class_ 4), (0, u "java/lang/Object")] 32

/-- java/lang/constant/ConstantDesc -/
def k8 : Class := { plain "java/lang/constant/ConstantDesc" (some 0) with
  accessFlags := 1537
  interfaces := #[]
  cf := some (fileOf pool8 1 #[] #[] 1537 3 #[] #[])
  fields := #[]
  methods := #[]
  instanceTypes := #[]
  staticTypes := #[]
  resolved := Array.replicate 37 none
  statics := none }

def pool9 : Array CpInfo := pool [(1, .methodref 2 3), (0, .class_ 4), (0, .nameAndType 5 6), (0, u "java/lang/Object"), (0, u "<init>"), (0, u "()V"), (0, .string 8), (0, u ""), (0, .fieldref 10 11), (0, .class_ 12), (0, .nameAndType 13 14), (0, u "java/lang/String"), (0, u "value"), (0, u "[B"), (0, .fieldref 10 16), (0, .nameAndType 17 18), (0, u "coder"), (0, u "B"), (2, u "hash"), (0, u "I"), (2, u "hashIsZero"), (0, u "Z"), (0, .methodref 10 28), (0, .nameAndType 5 29), (0, u "([CIILjava/lang/Void;)V"), (8, .fieldref 10 39), (0, .nameAndType 40 26), (0, u "COMPACT_STRINGS"), (1, .class_ 44), (1, u "java/lang/StringUTF16"), (0, u "compress"), (1, .methodref 42 48), (0, .nameAndType 49 50), (0, u "coderFromArrayLen"), (0, u "([BI)B"), (56, .class_ 109), (1, u "java/lang/StringLatin1"), (32, u "()Z"), (34, .methodref 42 178), (0, .nameAndType 45 179), (0, u "([CII)[B"), (154, u "()I"), (0, .methodref 10 336), (0, .nameAndType 17 337), (0, u "()B"), (25, u "([BI)C"), (27, u "(II)V"), (35, u "(I)C"), (64, .methodref 10 493), (0, .nameAndType 494 142), (0, u "isLatin1"), (0, .methodref 107 496), (0, .nameAndType 497 363), (0, u "charAt"), (3, u "checkIndex"), (3, .methodref 10 506), (0, .nameAndType 507 334), (0, u "length"), (67, .class_ 576), (0, u "java/lang/CharSequence"), (22, u "CASE_INSENSITIVE_ORDER"), (0, u "Ljava/util/Comparator;"), (32, .methodref 10 634), (0, .nameAndType 635 636), (0, u "indexOf"), (0, u "(II)I"), (0, .methodref 107 638), (0, .nameAndType 635 639), (0, u "([BIII)I"), (52, u "isEmpty"), (72, u "(I)I"), (244, u "([C)V"), (42, .fieldref 1054 1055), (0, .class_ 1056), (0, .nameAndType 1057 1058), (0, u "jdk/internal/util/Preconditions"), (0, u "SIOOBE_FORMATTER"), (0, u "Ljava/util/function/BiFunction;"), (0, .methodref 1054 1060), (0, .nameAndType 501 1061), (0, u "(IILjava/util/function/BiFunction;)I"), (39, u "serialPersistentFields"), (0, u "[Ljava/io/ObjectStreamField;"), (0, .class_ 1104), (0, u "java/lang/String$CaseInsensitiveComparator"), (1, .class_ 1107), (0, u "java/io/Serializable"), (0, .class_ 1109), (0, u "java/lang/Comparable"), (0, .class_ 1111), (0, u "java/lang/constant/Constable"), (0, .class_ 1113), (0, u "java/lang/constant/ConstantDesc"), (2, u "serialVersionUID"), (0, u "J"), (3, u "REPL"), (0, u "C"), (2, u "LATIN1"), (1, u "UTF16")] 323

def k9m0 : Method := { name := "<init>", desc := "()V", sig := { parameters := [], returnType := none }, accessFlags := 1, code := none }
def k9c1 : Code := { maxStack := 5, maxLocals := 2, code := jdk_42_method_3_code, exceptionTable := #[], attributes := #[] }
def k9m1 : Method := { name := "<init>", desc := "([C)V", sig := { parameters := [(.array .char)], returnType := none }, accessFlags := 1, code := some k9c1 }
def k9c2 : Code := { maxStack := 2, maxLocals := 1, code := jdk_42_method_54_code, exceptionTable := #[], attributes := #[] }
def k9m2 : Method := { name := "length", desc := "()I", sig := { parameters := [], returnType := some .int }, accessFlags := 1, code := some k9c2 }
def k9c3 : Code := { maxStack := 1, maxLocals := 1, code := jdk_42_method_55_code, exceptionTable := #[], attributes := #[] }
def k9m3 : Method := { name := "isEmpty", desc := "()Z", sig := { parameters := [], returnType := some .boolean }, accessFlags := 1, code := some k9c3 }
def k9c4 : Code := { maxStack := 2, maxLocals := 2, code := jdk_42_method_56_code, exceptionTable := #[], attributes := #[] }
def k9m4 : Method := { name := "charAt", desc := "(I)C", sig := { parameters := [.int], returnType := some .char }, accessFlags := 1, code := some k9c4 }
def k9c5 : Code := { maxStack := 3, maxLocals := 2, code := jdk_42_method_79_code, exceptionTable := #[], attributes := #[] }
def k9m5 : Method := { name := "indexOf", desc := "(I)I", sig := { parameters := [.int], returnType := some .int }, accessFlags := 1, code := some k9c5 }
def k9c6 : Code := { maxStack := 4, maxLocals := 3, code := jdk_42_method_80_code, exceptionTable := #[], attributes := #[] }
def k9m6 : Method := { name := "indexOf", desc := "(II)I", sig := { parameters := [.int, .int], returnType := some .int }, accessFlags := 1, code := some k9c6 }
def k9c7 : Code := { maxStack := 4, maxLocals := 6, code := jdk_42_method_149_code, exceptionTable := #[], attributes := #[] }
def k9m7 : Method := { name := "<init>", desc := "([CIILjava/lang/Void;)V", sig := { parameters := [(.array .char), .int, .int, (.object "java/lang/Void")], returnType := none }, accessFlags := 2, code := some k9c7 }
def k9c8 : Code := { maxStack := 1, maxLocals := 1, code := jdk_42_method_152_code, exceptionTable := #[], attributes := #[] }
def k9m8 : Method := { name := "coder", desc := "()B", sig := { parameters := [], returnType := some .byte }, accessFlags := 0, code := some k9c8 }
def k9c9 : Code := { maxStack := 1, maxLocals := 1, code := jdk_42_method_154_code, exceptionTable := #[], attributes := #[] }
def k9m9 : Method := { name := "isLatin1", desc := "()Z", sig := { parameters := [], returnType := some .boolean }, accessFlags := 0, code := some k9c9 }
def k9c10 : Code := { maxStack := 3, maxLocals := 2, code := jdk_42_method_155_code, exceptionTable := #[], attributes := #[] }
def k9m10 : Method := { name := "checkIndex", desc := "(II)V", sig := { parameters := [.int, .int], returnType := none }, accessFlags := 8, code := some k9c10 }
/-- java/lang/String -/
def k9 : Class := { plain "java/lang/String" (some 0) with
  accessFlags := 49
  interfaces := #[4, 5, 6, 7, 8]
  cf := some (fileOf pool9 10 #[.nestMembers #[1103]] #[{ accessFlags := 1, nameIndex := 5, descriptorIndex := 6, attributes := #[] }, { accessFlags := 1, nameIndex := 5, descriptorIndex := 1010, attributes := #[] }, { accessFlags := 1, nameIndex := 507, descriptorIndex := 334, attributes := #[] }, { accessFlags := 1, nameIndex := 692, descriptorIndex := 142, attributes := #[] }, { accessFlags := 1, nameIndex := 497, descriptorIndex := 427, attributes := #[] }, { accessFlags := 1, nameIndex := 635, descriptorIndex := 765, attributes := #[] }, { accessFlags := 1, nameIndex := 635, descriptorIndex := 636, attributes := #[] }, { accessFlags := 2, nameIndex := 5, descriptorIndex := 29, attributes := #[] }, { accessFlags := 0, nameIndex := 17, descriptorIndex := 337, attributes := #[] }, { accessFlags := 0, nameIndex := 494, descriptorIndex := 142, attributes := #[] }, { accessFlags := 8, nameIndex := 501, descriptorIndex := 391, attributes := #[] }] 49 2 #[1106, 1108, 575, 1110, 1112] #[{ accessFlags := 18, nameIndex := 13, descriptorIndex := 14, attributes := #[] }, { accessFlags := 18, nameIndex := 17, descriptorIndex := 18, attributes := #[] }, { accessFlags := 2, nameIndex := 21, descriptorIndex := 22, attributes := #[] }, { accessFlags := 2, nameIndex := 25, descriptorIndex := 26, attributes := #[] }, { accessFlags := 26, nameIndex := 1116, descriptorIndex := 1117, attributes := #[] }, { accessFlags := 24, nameIndex := 40, descriptorIndex := 26, attributes := #[] }, { accessFlags := 26, nameIndex := 1101, descriptorIndex := 1102, attributes := #[] }, { accessFlags := 26, nameIndex := 1121, descriptorIndex := 1122, attributes := #[] }, { accessFlags := 25, nameIndex := 599, descriptorIndex := 600, attributes := #[] }, { accessFlags := 24, nameIndex := 1125, descriptorIndex := 18, attributes := #[] }, { accessFlags := 24, nameIndex := 1127, descriptorIndex := 18, attributes := #[] }])
  fields := #[{ name := "value", type := (.array .byte), accessFlags := 18, slot := 0, constantValue := 0 }, { name := "coder", type := .byte, accessFlags := 18, slot := 1, constantValue := 0 }, { name := "hash", type := .int, accessFlags := 2, slot := 2, constantValue := 0 }, { name := "hashIsZero", type := .boolean, accessFlags := 2, slot := 3, constantValue := 0 }, { name := "serialVersionUID", type := .long, accessFlags := 26, slot := 0, constantValue := 0 }, { name := "COMPACT_STRINGS", type := .boolean, accessFlags := 24, slot := 1, constantValue := 0 }, { name := "serialPersistentFields", type := (.array (.object "java/io/ObjectStreamField")), accessFlags := 26, slot := 2, constantValue := 0 }, { name := "REPL", type := .char, accessFlags := 26, slot := 3, constantValue := 0 }, { name := "CASE_INSENSITIVE_ORDER", type := (.object "java/util/Comparator"), accessFlags := 25, slot := 4, constantValue := 0 }, { name := "LATIN1", type := .byte, accessFlags := 24, slot := 5, constantValue := 0 }, { name := "UTF16", type := .byte, accessFlags := 24, slot := 6, constantValue := 0 }]
  methods := #[k9m0, k9m1, k9m2, k9m3, k9m4, k9m5, k9m6, k9m7, k9m8, k9m9, k9m10]
  instanceTypes := #[(.array .byte), .byte, .int, .boolean]
  staticTypes := #[.long, .boolean, (.array (.object "java/io/ObjectStreamField")), .char, (.object "java/util/Comparator"), .byte, .byte]
  resolved := Array.replicate 1451 none
  statics := some 0 }

def pool10 : Array CpInfo := pool [(6, .class_ 8), (1, u "java/lang/Object"), (0, u "<init>"), (0, u "()V"), (1, .class_ 14), (1, u "java/lang/StringUTF16"), (31, u "$assertionsDisabled"), (0, u "Z"), (13, u "HI_BYTE_SHIFT"), (0, u "I"), (2, u "LO_BYTE_SHIFT"), (49, .methodref 12 116), (0, .nameAndType 117 118), (0, u "compress"), (0, u "([CI[BII)I"), (3, u "([CII)[B"), (138, u "coderFromArrayLen"), (0, u "([BI)B"), (106, .class_ 371), (1, u "java/lang/StringUTF16$LinesSpliterator"), (58, u "MAX_LENGTH"), (196, .class_ 628), (0, u "java/lang/StringUTF16$CodePointsSpliterator"), (0, .class_ 630), (0, u "java/lang/StringUTF16$CharsSpliterator")] 4

def k10m0 : Method := { name := "<init>", desc := "()V", sig := { parameters := [], returnType := none }, accessFlags := 0, code := none }
def k10c1 : Code := { maxStack := 2, maxLocals := 2, code := jdk_52_method_15_code, exceptionTable := #[], attributes := #[] }
def k10m1 : Method := { name := "coderFromArrayLen", desc := "([BI)B", sig := { parameters := [(.array .byte), .int], returnType := some .byte }, accessFlags := 8, code := some k10c1 }
def k10c2 : Code := { maxStack := 5, maxLocals := 6, code := jdk_52_method_16_code, exceptionTable := #[], attributes := #[] }
def k10m2 : Method := { name := "compress", desc := "([CII)[B", sig := { parameters := [(.array .char), .int, .int], returnType := some (.array .byte) }, accessFlags := 9, code := some k10c2 }
def k10c3 : Code := { maxStack := 3, maxLocals := 7, code := jdk_52_method_21_code, exceptionTable := #[], attributes := #[] }
def k10m3 : Method := { name := "compress", desc := "([CI[BII)I", sig := { parameters := [(.array .char), .int, (.array .byte), .int, .int], returnType := some .int }, accessFlags := 9, code := some k10c3 }
/-- java/lang/StringUTF16 -/
def k10 : Class := { plain "java/lang/StringUTF16" (some 0) with
  accessFlags := 48
  interfaces := #[]
  cf := some (fileOf pool10 12 #[.nestMembers #[627, 629, 369]] #[{ accessFlags := 0, nameIndex := 9, descriptorIndex := 10, attributes := #[] }, { accessFlags := 8, nameIndex := 261, descriptorIndex := 262, attributes := #[] }, { accessFlags := 9, nameIndex := 117, descriptorIndex := 122, attributes := #[] }, { accessFlags := 9, nameIndex := 117, descriptorIndex := 118, attributes := #[] }] 48 6 #[] #[{ accessFlags := 26, nameIndex := 61, descriptorIndex := 62, attributes := #[] }, { accessFlags := 26, nameIndex := 65, descriptorIndex := 62, attributes := #[] }, { accessFlags := 24, nameIndex := 430, descriptorIndex := 62, attributes := #[] }, { accessFlags := 4120, nameIndex := 46, descriptorIndex := 47, attributes := #[] }])
  fields := #[{ name := "HI_BYTE_SHIFT", type := .int, accessFlags := 26, slot := 0, constantValue := 0 }, { name := "LO_BYTE_SHIFT", type := .int, accessFlags := 26, slot := 1, constantValue := 0 }, { name := "MAX_LENGTH", type := .int, accessFlags := 24, slot := 2, constantValue := 0 }, { name := "$assertionsDisabled", type := .boolean, accessFlags := 4120, slot := 3, constantValue := 0 }]
  methods := #[k10m0, k10m1, k10m2, k10m3]
  instanceTypes := #[]
  staticTypes := #[.int, .int, .int, .boolean]
  resolved := Array.replicate 635 none
  statics := none }

def pool11 : Array CpInfo := pool [(1, .class_ 2), (0, u "java/lang/String"), (1, .class_ 6), (1, u "java/lang/Object"), (0, u "<init>"), (0, u "()V"), (0, .methodref 1 10), (0, .nameAndType 11 12), (0, u "checkIndex"), (0, u "(II)V"), (1, .class_ 16), (1, u "java/lang/StringLatin1"), (21, .methodref 39 40), (0, .class_ 41), (0, .nameAndType 42 43), (0, u "java/lang/Math"), (0, u "min"), (0, u "(II)I"), (9, u "([BI)C"), (34, .methodref 14 89), (0, .nameAndType 90 91), (0, u "canEncode"), (0, u "(I)Z"), (0, .methodref 39 93), (0, .nameAndType 94 43), (0, u "max"), (0, .methodref 14 96), (0, .nameAndType 97 98), (0, u "indexOfChar"), (0, u "([BIII)I"), (2, u "indexOf"), (19, u "$assertionsDisabled"), (0, u "Z"), (98, .class_ 223), (1, u "java/lang/StringLatin1$LinesSpliterator"), (28, u "charAt"), (137, .class_ 391), (0, u "java/lang/StringLatin1$CharsSpliterator")] 3

def k11m0 : Method := { name := "<init>", desc := "()V", sig := { parameters := [], returnType := none }, accessFlags := 0, code := none }
def k11c1 : Code := { maxStack := 2, maxLocals := 2, code := jdk_43_method_2_code, exceptionTable := #[], attributes := #[] }
def k11m1 : Method := { name := "charAt", desc := "([BI)C", sig := { parameters := [(.array .byte), .int], returnType := some .char }, accessFlags := 9, code := some k11c1 }
def k11c2 : Code := { maxStack := 2, maxLocals := 1, code := jdk_43_method_4_code, exceptionTable := #[], attributes := #[] }
def k11m2 : Method := { name := "canEncode", desc := "(I)Z", sig := { parameters := [.int], returnType := some .boolean }, accessFlags := 9, code := some k11c2 }
def k11c3 : Code := { maxStack := 4, maxLocals := 4, code := jdk_43_method_22_code, exceptionTable := #[], attributes := #[] }
def k11m3 : Method := { name := "indexOf", desc := "([BIII)I", sig := { parameters := [(.array .byte), .int, .int, .int], returnType := some .int }, accessFlags := 9, code := some k11c3 }
def k11c4 : Code := { maxStack := 2, maxLocals := 6, code := jdk_43_method_23_code, exceptionTable := #[], attributes := #[] }
def k11m4 : Method := { name := "indexOfChar", desc := "([BIII)I", sig := { parameters := [(.array .byte), .int, .int, .int], returnType := some .int }, accessFlags := 10, code := some k11c4 }
/-- java/lang/StringLatin1 -/
def k11 : Class := { plain "java/lang/StringLatin1" (some 0) with
  accessFlags := 48
  interfaces := #[]
  cf := some (fileOf pool11 14 #[.nestMembers #[390, 221]] #[{ accessFlags := 0, nameIndex := 7, descriptorIndex := 8, attributes := #[] }, { accessFlags := 9, nameIndex := 252, descriptorIndex := 53, attributes := #[] }, { accessFlags := 9, nameIndex := 90, descriptorIndex := 91, attributes := #[] }, { accessFlags := 9, nameIndex := 101, descriptorIndex := 98, attributes := #[] }, { accessFlags := 10, nameIndex := 97, descriptorIndex := 98, attributes := #[] }] 48 4 #[] #[{ accessFlags := 4120, nameIndex := 121, descriptorIndex := 122, attributes := #[] }])
  fields := #[{ name := "$assertionsDisabled", type := .boolean, accessFlags := 4120, slot := 0, constantValue := 0 }]
  methods := #[k11m0, k11m1, k11m2, k11m3, k11m4]
  instanceTypes := #[]
  staticTypes := #[.boolean]
  resolved := Array.replicate 395 none
  statics := none }

def pool12 : Array CpInfo := pool [(2, .class_ 4), (1, u "java/lang/Object"), (0, u "<init>"), (0, u "()V"), (17, .class_ 26), (1, u "jdk/internal/util/Preconditions"), (6, u "checkIndex"), (21, .class_ 56), (0, u "jdk/internal/util/Preconditions$4"), (57, .class_ 115), (0, u "jdk/internal/util/Preconditions$1"), (7, u "SIOOBE_FORMATTER"), (0, u "Ljava/util/function/BiFunction;"), (0, .class_ 126), (0, u "jdk/internal/util/Preconditions$2"), (3, u "AIOOBE_FORMATTER"), (0, .class_ 132), (0, u "jdk/internal/util/Preconditions$3"), (3, u "IOOBE_FORMATTER"), (41, u "(IILjava/util/function/BiFunction;)I")] 15

def k12m0 : Method := { name := "<init>", desc := "()V", sig := { parameters := [], returnType := none }, accessFlags := 1, code := none }
def k12c1 : Code := { maxStack := 3, maxLocals := 3, code := jdk_41_method_11_code, exceptionTable := #[], attributes := #[] }
def k12m1 : Method := { name := "checkIndex", desc := "(IILjava/util/function/BiFunction;)I", sig := { parameters := [.int, .int, (.object "java/util/function/BiFunction")], returnType := some .int }, accessFlags := 9, code := some k12c1 }
/-- jdk/internal/util/Preconditions -/
def k12 : Class := { plain "jdk/internal/util/Preconditions" (some 0) with
  accessFlags := 33
  interfaces := #[]
  cf := some (fileOf pool12 24 #[.nestMembers #[55, 131, 125, 114]] #[{ accessFlags := 1, nameIndex := 5, descriptorIndex := 6, attributes := #[] }, { accessFlags := 9, nameIndex := 33, descriptorIndex := 178, attributes := #[] }] 33 2 #[] #[{ accessFlags := 25, nameIndex := 123, descriptorIndex := 124, attributes := #[] }, { accessFlags := 25, nameIndex := 130, descriptorIndex := 124, attributes := #[] }, { accessFlags := 25, nameIndex := 136, descriptorIndex := 124, attributes := #[] }])
  fields := #[{ name := "SIOOBE_FORMATTER", type := (.object "java/util/function/BiFunction"), accessFlags := 25, slot := 0, constantValue := 0 }, { name := "AIOOBE_FORMATTER", type := (.object "java/util/function/BiFunction"), accessFlags := 25, slot := 1, constantValue := 0 }, { name := "IOOBE_FORMATTER", type := (.object "java/util/function/BiFunction"), accessFlags := 25, slot := 2, constantValue := 0 }]
  methods := #[k12m0, k12m1]
  instanceTypes := #[]
  staticTypes := #[(.object "java/util/function/BiFunction"), (.object "java/util/function/BiFunction"), (.object "java/util/function/BiFunction")]
  resolved := Array.replicate 194 none
  statics := some 1 }

def pool13 : Array CpInfo := pool [(1, .class_ 2), (0, u "java/lang/Math"), (1, .class_ 6), (1, u "java/lang/Object"), (0, u "<init>"), (0, u "()V"), (89, .class_ 100), (1, u "java/lang/Math$RandomNumberGeneratorHolder"), (71, u "negativeZeroFloatBits"), (0, u "J"), (2, u "negativeZeroDoubleBits"), (21, u "max"), (2, u "min"), (43, u "$assertionsDisabled"), (0, u "Z"), (88, u "(II)I"), (2, u "twoToTheDoubleScaleDown"), (0, u "D"), (4, u "twoToTheDoubleScaleUp"), (9, u "E"), (3, u "PI"), (2, u "TAU"), (2, u "DEGREES_TO_RADIANS"), (0, u "RADIANS_TO_DEGREES")] 94

def k13m0 : Method := { name := "<init>", desc := "()V", sig := { parameters := [], returnType := none }, accessFlags := 2, code := none }
def k13c1 : Code := { maxStack := 2, maxLocals := 2, code := jdk_29_method_65_code, exceptionTable := #[], attributes := #[] }
def k13m1 : Method := { name := "max", desc := "(II)I", sig := { parameters := [.int, .int], returnType := some .int }, accessFlags := 9, code := some k13c1 }
def k13c2 : Code := { maxStack := 2, maxLocals := 2, code := jdk_29_method_69_code, exceptionTable := #[], attributes := #[] }
def k13m2 : Method := { name := "min", desc := "(II)I", sig := { parameters := [.int, .int], returnType := some .int }, accessFlags := 9, code := some k13c2 }
/-- java/lang/Math -/
def k13 : Class := { plain "java/lang/Math" (some 0) with
  accessFlags := 49
  interfaces := #[]
  cf := some (fileOf pool13 1 #[.nestMembers #[98]] #[{ accessFlags := 2, nameIndex := 7, descriptorIndex := 8, attributes := #[] }, { accessFlags := 9, nameIndex := 198, descriptorIndex := 335, attributes := #[] }, { accessFlags := 9, nameIndex := 201, descriptorIndex := 335, attributes := #[] }] 49 4 #[] #[{ accessFlags := 25, nameIndex := 354, descriptorIndex := 339, attributes := #[] }, { accessFlags := 25, nameIndex := 358, descriptorIndex := 339, attributes := #[] }, { accessFlags := 25, nameIndex := 361, descriptorIndex := 339, attributes := #[] }, { accessFlags := 26, nameIndex := 364, descriptorIndex := 339, attributes := #[] }, { accessFlags := 26, nameIndex := 365, descriptorIndex := 339, attributes := #[] }, { accessFlags := 26, nameIndex := 172, descriptorIndex := 173, attributes := #[] }, { accessFlags := 26, nameIndex := 176, descriptorIndex := 173, attributes := #[] }, { accessFlags := 8, nameIndex := 344, descriptorIndex := 339, attributes := #[] }, { accessFlags := 8, nameIndex := 338, descriptorIndex := 339, attributes := #[] }, { accessFlags := 4120, nameIndex := 245, descriptorIndex := 246, attributes := #[] }])
  fields := #[{ name := "E", type := .double, accessFlags := 25, slot := 0, constantValue := 0 }, { name := "PI", type := .double, accessFlags := 25, slot := 1, constantValue := 0 }, { name := "TAU", type := .double, accessFlags := 25, slot := 2, constantValue := 0 }, { name := "DEGREES_TO_RADIANS", type := .double, accessFlags := 26, slot := 3, constantValue := 0 }, { name := "RADIANS_TO_DEGREES", type := .double, accessFlags := 26, slot := 4, constantValue := 0 }, { name := "negativeZeroFloatBits", type := .long, accessFlags := 26, slot := 5, constantValue := 0 }, { name := "negativeZeroDoubleBits", type := .long, accessFlags := 26, slot := 6, constantValue := 0 }, { name := "twoToTheDoubleScaleUp", type := .double, accessFlags := 8, slot := 7, constantValue := 0 }, { name := "twoToTheDoubleScaleDown", type := .double, accessFlags := 8, slot := 8, constantValue := 0 }, { name := "$assertionsDisabled", type := .boolean, accessFlags := 4120, slot := 9, constantValue := 0 }]
  methods := #[k13m0, k13m1, k13m2]
  instanceTypes := #[]
  staticTypes := #[.double, .double, .double, .double, .double, .long, .long, .double, .double, .boolean]
  resolved := Array.replicate 460 none
  statics := none }

def pool14 : Array CpInfo := pool [(9, u "<init>"), (6, .class_ 18), (1, u "java/lang/Object"), (0, u "()V"), (1, .class_ 23), (1, u "jdk/internal/util/ArraysSupport"), (0, u "LOG2_ARRAY_LONG_INDEX_SCALE"), (0, u "I"), (2, u "U"), (0, u "Ljdk/internal/misc/Unsafe;"), (8, u "BIG_ENDIAN"), (0, u "Z"), (8, u "LOG2_BYTE_BIT_SIZE"), (4, u "LOG2_ARRAY_INT_INDEX_SCALE"), (54, u "JLA"), (0, u "Ljdk/internal/access/JavaLangAccess;"), (11, u "LOG2_ARRAY_BOOLEAN_INDEX_SCALE"), (9, u "LOG2_ARRAY_BYTE_INDEX_SCALE"), (5, u "LOG2_ARRAY_CHAR_INDEX_SCALE"), (5, u "LOG2_ARRAY_SHORT_INDEX_SCALE"), (18, u "LOG2_ARRAY_FLOAT_INDEX_SCALE"), (24, u "LOG2_ARRAY_DOUBLE_INDEX_SCALE"), (89, u "T_BOOLEAN"), (2, u "T_CHAR"), (1, u "T_FLOAT"), (1, u "T_DOUBLE"), (1, u "T_BYTE"), (1, u "T_SHORT"), (1, u "T_INT"), (1, u "T_LONG"), (1, u "SOFT_MAX_ARRAY_LENGTH")] 83

def k14m0 : Method := { name := "<init>", desc := "()V", sig := { parameters := [], returnType := none }, accessFlags := 2, code := none }
/-- jdk/internal/util/ArraysSupport -/
def k14 : Class := { plain "jdk/internal/util/ArraysSupport" (some 0) with
  accessFlags := 33
  interfaces := #[]
  cf := some (fileOf pool14 21 #[] #[{ accessFlags := 2, nameIndex := 9, descriptorIndex := 19, attributes := #[] }] 33 16 #[] #[{ accessFlags := 24, nameIndex := 28, descriptorIndex := 29, attributes := #[] }, { accessFlags := 26, nameIndex := 38, descriptorIndex := 39, attributes := #[] }, { accessFlags := 25, nameIndex := 121, descriptorIndex := 25, attributes := #[] }, { accessFlags := 25, nameIndex := 131, descriptorIndex := 25, attributes := #[] }, { accessFlags := 25, nameIndex := 137, descriptorIndex := 25, attributes := #[] }, { accessFlags := 25, nameIndex := 143, descriptorIndex := 25, attributes := #[] }, { accessFlags := 25, nameIndex := 53, descriptorIndex := 25, attributes := #[] }, { accessFlags := 25, nameIndex := 24, descriptorIndex := 25, attributes := #[] }, { accessFlags := 25, nameIndex := 162, descriptorIndex := 25, attributes := #[] }, { accessFlags := 25, nameIndex := 187, descriptorIndex := 25, attributes := #[] }, { accessFlags := 26, nameIndex := 48, descriptorIndex := 25, attributes := #[] }, { accessFlags := 25, nameIndex := 277, descriptorIndex := 25, attributes := #[] }, { accessFlags := 25, nameIndex := 280, descriptorIndex := 25, attributes := #[] }, { accessFlags := 25, nameIndex := 282, descriptorIndex := 25, attributes := #[] }, { accessFlags := 25, nameIndex := 284, descriptorIndex := 25, attributes := #[] }, { accessFlags := 25, nameIndex := 286, descriptorIndex := 25, attributes := #[] }, { accessFlags := 25, nameIndex := 288, descriptorIndex := 25, attributes := #[] }, { accessFlags := 25, nameIndex := 290, descriptorIndex := 25, attributes := #[] }, { accessFlags := 25, nameIndex := 292, descriptorIndex := 25, attributes := #[] }, { accessFlags := 26, nameIndex := 108, descriptorIndex := 109, attributes := #[] }, { accessFlags := 25, nameIndex := 294, descriptorIndex := 25, attributes := #[] }])
  fields := #[{ name := "U", type := (.object "jdk/internal/misc/Unsafe"), accessFlags := 24, slot := 0, constantValue := 0 }, { name := "BIG_ENDIAN", type := .boolean, accessFlags := 26, slot := 1, constantValue := 0 }, { name := "LOG2_ARRAY_BOOLEAN_INDEX_SCALE", type := .int, accessFlags := 25, slot := 2, constantValue := 0 }, { name := "LOG2_ARRAY_BYTE_INDEX_SCALE", type := .int, accessFlags := 25, slot := 3, constantValue := 0 }, { name := "LOG2_ARRAY_CHAR_INDEX_SCALE", type := .int, accessFlags := 25, slot := 4, constantValue := 0 }, { name := "LOG2_ARRAY_SHORT_INDEX_SCALE", type := .int, accessFlags := 25, slot := 5, constantValue := 0 }, { name := "LOG2_ARRAY_INT_INDEX_SCALE", type := .int, accessFlags := 25, slot := 6, constantValue := 0 }, { name := "LOG2_ARRAY_LONG_INDEX_SCALE", type := .int, accessFlags := 25, slot := 7, constantValue := 0 }, { name := "LOG2_ARRAY_FLOAT_INDEX_SCALE", type := .int, accessFlags := 25, slot := 8, constantValue := 0 }, { name := "LOG2_ARRAY_DOUBLE_INDEX_SCALE", type := .int, accessFlags := 25, slot := 9, constantValue := 0 }, { name := "LOG2_BYTE_BIT_SIZE", type := .int, accessFlags := 26, slot := 10, constantValue := 0 }, { name := "T_BOOLEAN", type := .int, accessFlags := 25, slot := 11, constantValue := 0 }, { name := "T_CHAR", type := .int, accessFlags := 25, slot := 12, constantValue := 0 }, { name := "T_FLOAT", type := .int, accessFlags := 25, slot := 13, constantValue := 0 }, { name := "T_DOUBLE", type := .int, accessFlags := 25, slot := 14, constantValue := 0 }, { name := "T_BYTE", type := .int, accessFlags := 25, slot := 15, constantValue := 0 }, { name := "T_SHORT", type := .int, accessFlags := 25, slot := 16, constantValue := 0 }, { name := "T_INT", type := .int, accessFlags := 25, slot := 17, constantValue := 0 }, { name := "T_LONG", type := .int, accessFlags := 25, slot := 18, constantValue := 0 }, { name := "JLA", type := (.object "jdk/internal/access/JavaLangAccess"), accessFlags := 26, slot := 19, constantValue := 0 }, { name := "SOFT_MAX_ARRAY_LENGTH", type := .int, accessFlags := 25, slot := 20, constantValue := 0 }]
  methods := #[k14m0]
  instanceTypes := #[]
  staticTypes := #[(.object "jdk/internal/misc/Unsafe"), .boolean, .int, .int, .int, .int, .int, .int, .int, .int, .int, .int, .int, .int, .int, .int, .int, .int, .int, (.object "jdk/internal/access/JavaLangAccess"), .int]
  resolved := Array.replicate 378 none
  statics := none }

def pool15 : Array CpInfo := pool [(1, u "java/lang/Cloneable"), (0, .class_ 1), (0, u "java/lang/Object"), (0, .class_ 3)] 3

/-- java/lang/Cloneable -/
def k15 : Class := { plain "java/lang/Cloneable" (some 0) with
  accessFlags := 1537
  interfaces := #[]
  cf := some (fileOf pool15 2 #[] #[] 1537 4 #[] #[])
  fields := #[]
  methods := #[]
  instanceTypes := #[]
  staticTypes := #[]
  resolved := Array.replicate 8 none
  statics := none }

/-- the primitive byte -/
def k16 : Class := { plain "byte" none with kind := .primitive 'B', accessFlags := 0x411 }
/-- [B -/
def k17 : Class := { plain "[B" (some 0) with kind := .array 16 .byte, interfaces := #[15, 4], accessFlags := 1041 }

/-- the primitive char -/
def k18 : Class := { plain "char" none with kind := .primitive 'C', accessFlags := 0x411 }
/-- [C -/
def k19 : Class := { plain "[C" (some 0) with kind := .array 18 .char, interfaces := #[15, 4], accessFlags := 1041 }

/-- the primitive int -/
def k20 : Class := { plain "int" none with kind := .primitive 'I', accessFlags := 0x411 }
/-- [I -/
def k21 : Class := { plain "[I" (some 0) with kind := .array 20 .int, interfaces := #[15, 4], accessFlags := 1041 }

def heap : Heap := #[{ cls := 9, slots := #[.long 0, .int 1, .null, .int 0, .null, .int 0, .int 0], vm := .statics 9 },
  { cls := 12, slots := #[.null, .null, .null], vm := .statics 12 }]
def classes : Array Class := #[k0, k1, k2, k3, k4, k5, k6, k7, k8, k9, k10, k11, k12, k13, k14, k15, k16, k17, k18, k19, k20, k21]
def interned : List (Array UInt16 × Addr) := []
def slotsUsed : Nat := 10
def theMethod : MethodId := ⟨1, 4⟩
def args0 : Array Value := #[.int 1, .int 2, .int 3, .int 4]
def aboutOver (below : List Frame) : State where
  vm := { classes := classes, interned := interned.toArray }
  heap := heap
  slotsUsed := slotsUsed
  threads := #[{ frames := .invoking theMethod args0 :: below }]
def below0 : List Frame := [.native { method := ⟨0, 0⟩, args := #[] }]
def about1 : State := aboutOver below0
def p0 : Program := .bare "" "" ""
def e0 : Env := launch0.env 0 0 0
theorem w_frames : about1.frames = Frame.invoking theMethod args0 :: below0 := rfl
set_option maxRecDepth 65536 in
theorem w_args : argsFit about1.vm theMethod args0 = true := by decide +kernel
set_option maxRecDepth 65536 in
theorem w_heap : heapFits about1 = true := by decide +kernel
set_option maxRecDepth 65536 in
theorem w_runnable : about1.curStatus? = some .runnable := by decide +kernel
set_option maxRecDepth 65536 in
theorem w_alone : about1.alone = true := by decide +kernel
set_option maxRecDepth 65536 in
theorem w_named : about1.methodNamed? x = some theMethod := by decide +kernel
set_option maxRecDepth 65536 in
theorem w_hears : about1.hears theMethod below0 = true := by decide +kernel
set_option maxRecDepth 65536 in
theorem w_ripe : about1.ripe theMethod args0 below0 = true := by decide +kernel
theorem w_running : about1.status = .running := rfl
set_option maxRecDepth 65536 in
theorem w_room : about1.hasRoom e0.platform room_1 = true :=
  launch0.hasRoom_least _ room_1 (by decide +kernel) (by decide +kernel) (by decide +kernel) (by decide +kernel) (by decide +kernel) (by decide +kernel)
theorem allAtoms_all (ts : List Jvm.Cond) (a : Array Jvm.Value) (st : Jvm.State) : (allAtoms ts).before a st = ts.all (fun c => c.before a st) := by
  induction ts with
  | nil => rfl
  | cons c t ih =>
    show (Jvm.Cond.and c (allAtoms t)).before a st = _
    rw [Jvm.Cond.before_and, ih, List.all_cons]
def words1 : List Jvm.Cond := Jvm.Cond.code x code maxLocals ret :: tables_1
/-- a 'code' word, met by the world's own term for the bytes: nothing is compared byte by byte -/
theorem code_word {y : MethodName} {bytes : ByteArray} {mx : Nat} {rt : Option FieldType} {a : Array Value} {s : State} {m : MethodId} {meth : Method} {c : Code} (h1 : s.methodNamed? y = some m) (h2 : s.vm.method? m = some meth) (h3 : meth.code = some c) (h4 : c.code = bytes)
    (h5 : (c.maxLocals == mx && c.exceptionTable.isEmpty && decide (c.maxStack ≤ mostOperands) && decide (meth.sig.returnType = rt) && !meth.locks && decide (parseMethodDescriptor y.desc = some meth.sig)) = true) : (Jvm.Cond.code y bytes mx rt).before a s = true := by
  simp only [Bool.and_eq_true, beq_iff_eq, Bool.not_eq_true', decide_eq_true_eq] at h5
  obtain ⟨⟨⟨⟨⟨g1, g2⟩, g3⟩, g4⟩, g5⟩, g6⟩ := h5
  simp [Cond.before, Cond.holds, Cond.value, h1, h2, h3, h4, g1, g2, g3, g4, g5, g6]
def isCode : Jvm.Cond → Bool
  | .code _ _ _ _ => true
  | _ => false
theorem all_split {L : List Jvm.Cond} {P : Jvm.Cond → Bool} (h1 : L.all (fun c => isCode c || P c) = true) (h2 : ∀ c ∈ L.filter isCode, P c = true) : L.all P = true := by
  refine List.all_eq_true.mpr fun c hc => ?_
  have h := List.all_eq_true.mp h1 c hc
  rcases Bool.eq_false_or_eq_true (isCode c) with hi | hi
  · exact h2 c (List.mem_filter.mpr ⟨hc, hi⟩)
  · simpa [hi] using h
set_option maxRecDepth 65536 in
theorem w_c0 : (Jvm.Cond.code x code maxLocals ret).before args0 about1 = true := code_word (m := ⟨1, 4⟩) (meth := k1m4) (c := k1c4) (by decide +kernel) rfl rfl rfl (by decide +kernel)
set_option maxRecDepth 65536 in
theorem w_c1 : (Jvm.Cond.code ({ cls := "com/example/dispensd/dispensd/Identifier", name := "isValid", desc := "(Ljava/lang/String;)Z" } : Jvm.MethodName) prog_2_method_2_code (2 : Nat) (Option.some Jvm.ClassFile.FieldType.boolean)).before args0 about1 = true := code_word (m := ⟨3, 0⟩) (meth := k3m0) (c := k3c0) (by decide +kernel) rfl rfl rfl (by decide +kernel)
set_option maxRecDepth 65536 in
theorem w_c2 : (Jvm.Cond.code ({ cls := "com/example/dispensd/dispensd/IdentifierIsValidPinLaw", name := "make", desc := "(IICC)Ljava/lang/String;" } : Jvm.MethodName) method_4_code (4 : Nat) (Option.some (Jvm.ClassFile.FieldType.object "java/lang/String"))).before args0 about1 = true := code_word (m := ⟨1, 3⟩) (meth := k1m3) (c := k1c3) (by decide +kernel) rfl rfl rfl (by decide +kernel)
set_option maxRecDepth 65536 in
theorem w_c3 : (Jvm.Cond.code ({ cls := "com/example/dispensd/dispensd/IdentifierIsValidPinLaw", name := "at", desc := "(IICC)C" } : Jvm.MethodName) method_3_code (4 : Nat) (Option.some Jvm.ClassFile.FieldType.char)).before args0 about1 = true := code_word (m := ⟨1, 2⟩) (meth := k1m2) (c := k1c2) (by decide +kernel) rfl rfl rfl (by decide +kernel)
set_option maxRecDepth 65536 in
theorem w_c4 : (Jvm.Cond.code ({ cls := "java/lang/String", name := "<init>", desc := "([C)V" } : Jvm.MethodName) jdk_42_method_3_code (2 : Nat) (Option.none : Option Jvm.ClassFile.FieldType)).before args0 about1 = true := code_word (m := ⟨9, 1⟩) (meth := k9m1) (c := k9c1) (by decide +kernel) rfl rfl rfl (by decide +kernel)
set_option maxRecDepth 65536 in
theorem w_c5 : (Jvm.Cond.code ({ cls := "java/lang/String", name := "<init>", desc := "([CIILjava/lang/Void;)V" } : Jvm.MethodName) jdk_42_method_149_code (6 : Nat) (Option.none : Option Jvm.ClassFile.FieldType)).before args0 about1 = true := code_word (m := ⟨9, 7⟩) (meth := k9m7) (c := k9c7) (by decide +kernel) rfl rfl rfl (by decide +kernel)
set_option maxRecDepth 65536 in
theorem w_c6 : (Jvm.Cond.code ({ cls := "java/lang/Object", name := "<init>", desc := "()V" } : Jvm.MethodName) object_method_1_code (1 : Nat) (Option.none : Option Jvm.ClassFile.FieldType)).before args0 about1 = true := code_word (m := ⟨0, 0⟩) (meth := k0m0) (c := k0c0) (by decide +kernel) rfl rfl rfl (by decide +kernel)
set_option maxRecDepth 65536 in
theorem w_c7 : (Jvm.Cond.code ({ cls := "java/lang/StringUTF16", name := "compress", desc := "([CII)[B" } : Jvm.MethodName) jdk_52_method_16_code (6 : Nat) (Option.some (Jvm.ClassFile.FieldType.array Jvm.ClassFile.FieldType.byte))).before args0 about1 = true := code_word (m := ⟨10, 2⟩) (meth := k10m2) (c := k10c2) (by decide +kernel) rfl rfl rfl (by decide +kernel)
set_option maxRecDepth 65536 in
theorem w_c8 : (Jvm.Cond.code ({ cls := "java/lang/StringUTF16", name := "compress", desc := "([CI[BII)I" } : Jvm.MethodName) jdk_52_method_21_code (7 : Nat) (Option.some Jvm.ClassFile.FieldType.int)).before args0 about1 = true := code_word (m := ⟨10, 3⟩) (meth := k10m3) (c := k10c3) (by decide +kernel) rfl rfl rfl (by decide +kernel)
set_option maxRecDepth 65536 in
theorem w_c9 : (Jvm.Cond.code ({ cls := "java/lang/StringUTF16", name := "coderFromArrayLen", desc := "([BI)B" } : Jvm.MethodName) jdk_52_method_15_code (2 : Nat) (Option.some Jvm.ClassFile.FieldType.byte)).before args0 about1 = true := code_word (m := ⟨10, 1⟩) (meth := k10m1) (c := k10c1) (by decide +kernel) rfl rfl rfl (by decide +kernel)
set_option maxRecDepth 65536 in
theorem w_c10 : (Jvm.Cond.code ({ cls := "com/example/dispensd/dispensd/IdentifierIsValidPinLaw", name := "ok", desc := "(C)Z" } : Jvm.MethodName) method_2_code (1 : Nat) (Option.some Jvm.ClassFile.FieldType.boolean)).before args0 about1 = true := code_word (m := ⟨1, 1⟩) (meth := k1m1) (c := k1c1) (by decide +kernel) rfl rfl rfl (by decide +kernel)
set_option maxRecDepth 65536 in
theorem w_c11 : (Jvm.Cond.code ({ cls := "java/lang/String", name := "isEmpty", desc := "()Z" } : Jvm.MethodName) jdk_42_method_55_code (1 : Nat) (Option.some Jvm.ClassFile.FieldType.boolean)).before args0 about1 = true := code_word (m := ⟨9, 3⟩) (meth := k9m3) (c := k9c3) (by decide +kernel) rfl rfl rfl (by decide +kernel)
set_option maxRecDepth 65536 in
theorem w_c12 : (Jvm.Cond.code ({ cls := "java/lang/String", name := "length", desc := "()I" } : Jvm.MethodName) jdk_42_method_54_code (1 : Nat) (Option.some Jvm.ClassFile.FieldType.int)).before args0 about1 = true := code_word (m := ⟨9, 2⟩) (meth := k9m2) (c := k9c2) (by decide +kernel) rfl rfl rfl (by decide +kernel)
set_option maxRecDepth 65536 in
theorem w_c13 : (Jvm.Cond.code ({ cls := "java/lang/String", name := "coder", desc := "()B" } : Jvm.MethodName) jdk_42_method_152_code (1 : Nat) (Option.some Jvm.ClassFile.FieldType.byte)).before args0 about1 = true := code_word (m := ⟨9, 8⟩) (meth := k9m8) (c := k9c8) (by decide +kernel) rfl rfl rfl (by decide +kernel)
set_option maxRecDepth 65536 in
theorem w_c14 : (Jvm.Cond.code ({ cls := "java/lang/String", name := "charAt", desc := "(I)C" } : Jvm.MethodName) jdk_42_method_56_code (2 : Nat) (Option.some Jvm.ClassFile.FieldType.char)).before args0 about1 = true := code_word (m := ⟨9, 4⟩) (meth := k9m4) (c := k9c4) (by decide +kernel) rfl rfl rfl (by decide +kernel)
set_option maxRecDepth 65536 in
theorem w_c15 : (Jvm.Cond.code ({ cls := "java/lang/String", name := "isLatin1", desc := "()Z" } : Jvm.MethodName) jdk_42_method_154_code (1 : Nat) (Option.some Jvm.ClassFile.FieldType.boolean)).before args0 about1 = true := code_word (m := ⟨9, 9⟩) (meth := k9m9) (c := k9c9) (by decide +kernel) rfl rfl rfl (by decide +kernel)
set_option maxRecDepth 65536 in
theorem w_c16 : (Jvm.Cond.code ({ cls := "java/lang/StringLatin1", name := "charAt", desc := "([BI)C" } : Jvm.MethodName) jdk_43_method_2_code (2 : Nat) (Option.some Jvm.ClassFile.FieldType.char)).before args0 about1 = true := code_word (m := ⟨11, 1⟩) (meth := k11m1) (c := k11c1) (by decide +kernel) rfl rfl rfl (by decide +kernel)
set_option maxRecDepth 65536 in
theorem w_c17 : (Jvm.Cond.code ({ cls := "java/lang/String", name := "checkIndex", desc := "(II)V" } : Jvm.MethodName) jdk_42_method_155_code (2 : Nat) (Option.none : Option Jvm.ClassFile.FieldType)).before args0 about1 = true := code_word (m := ⟨9, 10⟩) (meth := k9m10) (c := k9c10) (by decide +kernel) rfl rfl rfl (by decide +kernel)
set_option maxRecDepth 65536 in
theorem w_c18 : (Jvm.Cond.code ({ cls := "jdk/internal/util/Preconditions", name := "checkIndex", desc := "(IILjava/util/function/BiFunction;)I" } : Jvm.MethodName) jdk_41_method_11_code (3 : Nat) (Option.some Jvm.ClassFile.FieldType.int)).before args0 about1 = true := code_word (m := ⟨12, 1⟩) (meth := k12m1) (c := k12c1) (by decide +kernel) rfl rfl rfl (by decide +kernel)
set_option maxRecDepth 65536 in
theorem w_c19 : (Jvm.Cond.code ({ cls := "java/lang/String", name := "indexOf", desc := "(I)I" } : Jvm.MethodName) jdk_42_method_79_code (2 : Nat) (Option.some Jvm.ClassFile.FieldType.int)).before args0 about1 = true := code_word (m := ⟨9, 5⟩) (meth := k9m5) (c := k9c5) (by decide +kernel) rfl rfl rfl (by decide +kernel)
set_option maxRecDepth 65536 in
theorem w_c20 : (Jvm.Cond.code ({ cls := "java/lang/String", name := "indexOf", desc := "(II)I" } : Jvm.MethodName) jdk_42_method_80_code (3 : Nat) (Option.some Jvm.ClassFile.FieldType.int)).before args0 about1 = true := code_word (m := ⟨9, 6⟩) (meth := k9m6) (c := k9c6) (by decide +kernel) rfl rfl rfl (by decide +kernel)
set_option maxRecDepth 65536 in
theorem w_c21 : (Jvm.Cond.code ({ cls := "java/lang/StringLatin1", name := "indexOf", desc := "([BIII)I" } : Jvm.MethodName) jdk_43_method_22_code (4 : Nat) (Option.some Jvm.ClassFile.FieldType.int)).before args0 about1 = true := code_word (m := ⟨11, 3⟩) (meth := k11m3) (c := k11c3) (by decide +kernel) rfl rfl rfl (by decide +kernel)
set_option maxRecDepth 65536 in
theorem w_c22 : (Jvm.Cond.code ({ cls := "java/lang/StringLatin1", name := "canEncode", desc := "(I)Z" } : Jvm.MethodName) jdk_43_method_4_code (1 : Nat) (Option.some Jvm.ClassFile.FieldType.boolean)).before args0 about1 = true := code_word (m := ⟨11, 2⟩) (meth := k11m2) (c := k11c2) (by decide +kernel) rfl rfl rfl (by decide +kernel)
set_option maxRecDepth 65536 in
theorem w_c23 : (Jvm.Cond.code ({ cls := "java/lang/Math", name := "max", desc := "(II)I" } : Jvm.MethodName) jdk_29_method_65_code (2 : Nat) (Option.some Jvm.ClassFile.FieldType.int)).before args0 about1 = true := code_word (m := ⟨13, 1⟩) (meth := k13m1) (c := k13c1) (by decide +kernel) rfl rfl rfl (by decide +kernel)
set_option maxRecDepth 65536 in
theorem w_c24 : (Jvm.Cond.code ({ cls := "java/lang/Math", name := "min", desc := "(II)I" } : Jvm.MethodName) jdk_29_method_69_code (2 : Nat) (Option.some Jvm.ClassFile.FieldType.int)).before args0 about1 = true := code_word (m := ⟨13, 2⟩) (meth := k13m2) (c := k13c2) (by decide +kernel) rfl rfl rfl (by decide +kernel)
set_option maxRecDepth 65536 in
theorem w_c25 : (Jvm.Cond.code ({ cls := "java/lang/StringLatin1", name := "indexOfChar", desc := "([BIII)I" } : Jvm.MethodName) jdk_43_method_23_code (6 : Nat) (Option.some Jvm.ClassFile.FieldType.int)).before args0 about1 = true := code_word (m := ⟨11, 4⟩) (meth := k11m4) (c := k11c4) (by decide +kernel) rfl rfl rfl (by decide +kernel)
def codes1 : List Jvm.Cond := [Jvm.Cond.code x code maxLocals ret, Jvm.Cond.code ({ cls := "com/example/dispensd/dispensd/Identifier", name := "isValid", desc := "(Ljava/lang/String;)Z" } : Jvm.MethodName) prog_2_method_2_code (2 : Nat) (Option.some Jvm.ClassFile.FieldType.boolean), Jvm.Cond.code ({ cls := "com/example/dispensd/dispensd/IdentifierIsValidPinLaw", name := "make", desc := "(IICC)Ljava/lang/String;" } : Jvm.MethodName) method_4_code (4 : Nat) (Option.some (Jvm.ClassFile.FieldType.object "java/lang/String")), Jvm.Cond.code ({ cls := "com/example/dispensd/dispensd/IdentifierIsValidPinLaw", name := "at", desc := "(IICC)C" } : Jvm.MethodName) method_3_code (4 : Nat) (Option.some Jvm.ClassFile.FieldType.char), Jvm.Cond.code ({ cls := "java/lang/String", name := "<init>", desc := "([C)V" } : Jvm.MethodName) jdk_42_method_3_code (2 : Nat) (Option.none : Option Jvm.ClassFile.FieldType), Jvm.Cond.code ({ cls := "java/lang/String", name := "<init>", desc := "([CIILjava/lang/Void;)V" } : Jvm.MethodName) jdk_42_method_149_code (6 : Nat) (Option.none : Option Jvm.ClassFile.FieldType), Jvm.Cond.code ({ cls := "java/lang/Object", name := "<init>", desc := "()V" } : Jvm.MethodName) object_method_1_code (1 : Nat) (Option.none : Option Jvm.ClassFile.FieldType), Jvm.Cond.code ({ cls := "java/lang/StringUTF16", name := "compress", desc := "([CII)[B" } : Jvm.MethodName) jdk_52_method_16_code (6 : Nat) (Option.some (Jvm.ClassFile.FieldType.array Jvm.ClassFile.FieldType.byte)), Jvm.Cond.code ({ cls := "java/lang/StringUTF16", name := "compress", desc := "([CI[BII)I" } : Jvm.MethodName) jdk_52_method_21_code (7 : Nat) (Option.some Jvm.ClassFile.FieldType.int), Jvm.Cond.code ({ cls := "java/lang/StringUTF16", name := "coderFromArrayLen", desc := "([BI)B" } : Jvm.MethodName) jdk_52_method_15_code (2 : Nat) (Option.some Jvm.ClassFile.FieldType.byte), Jvm.Cond.code ({ cls := "com/example/dispensd/dispensd/IdentifierIsValidPinLaw", name := "ok", desc := "(C)Z" } : Jvm.MethodName) method_2_code (1 : Nat) (Option.some Jvm.ClassFile.FieldType.boolean), Jvm.Cond.code ({ cls := "java/lang/String", name := "isEmpty", desc := "()Z" } : Jvm.MethodName) jdk_42_method_55_code (1 : Nat) (Option.some Jvm.ClassFile.FieldType.boolean), Jvm.Cond.code ({ cls := "java/lang/String", name := "length", desc := "()I" } : Jvm.MethodName) jdk_42_method_54_code (1 : Nat) (Option.some Jvm.ClassFile.FieldType.int), Jvm.Cond.code ({ cls := "java/lang/String", name := "coder", desc := "()B" } : Jvm.MethodName) jdk_42_method_152_code (1 : Nat) (Option.some Jvm.ClassFile.FieldType.byte), Jvm.Cond.code ({ cls := "java/lang/String", name := "charAt", desc := "(I)C" } : Jvm.MethodName) jdk_42_method_56_code (2 : Nat) (Option.some Jvm.ClassFile.FieldType.char), Jvm.Cond.code ({ cls := "java/lang/String", name := "isLatin1", desc := "()Z" } : Jvm.MethodName) jdk_42_method_154_code (1 : Nat) (Option.some Jvm.ClassFile.FieldType.boolean), Jvm.Cond.code ({ cls := "java/lang/StringLatin1", name := "charAt", desc := "([BI)C" } : Jvm.MethodName) jdk_43_method_2_code (2 : Nat) (Option.some Jvm.ClassFile.FieldType.char), Jvm.Cond.code ({ cls := "java/lang/String", name := "checkIndex", desc := "(II)V" } : Jvm.MethodName) jdk_42_method_155_code (2 : Nat) (Option.none : Option Jvm.ClassFile.FieldType), Jvm.Cond.code ({ cls := "jdk/internal/util/Preconditions", name := "checkIndex", desc := "(IILjava/util/function/BiFunction;)I" } : Jvm.MethodName) jdk_41_method_11_code (3 : Nat) (Option.some Jvm.ClassFile.FieldType.int), Jvm.Cond.code ({ cls := "java/lang/String", name := "indexOf", desc := "(I)I" } : Jvm.MethodName) jdk_42_method_79_code (2 : Nat) (Option.some Jvm.ClassFile.FieldType.int), Jvm.Cond.code ({ cls := "java/lang/String", name := "indexOf", desc := "(II)I" } : Jvm.MethodName) jdk_42_method_80_code (3 : Nat) (Option.some Jvm.ClassFile.FieldType.int), Jvm.Cond.code ({ cls := "java/lang/StringLatin1", name := "indexOf", desc := "([BIII)I" } : Jvm.MethodName) jdk_43_method_22_code (4 : Nat) (Option.some Jvm.ClassFile.FieldType.int), Jvm.Cond.code ({ cls := "java/lang/StringLatin1", name := "canEncode", desc := "(I)Z" } : Jvm.MethodName) jdk_43_method_4_code (1 : Nat) (Option.some Jvm.ClassFile.FieldType.boolean), Jvm.Cond.code ({ cls := "java/lang/Math", name := "max", desc := "(II)I" } : Jvm.MethodName) jdk_29_method_65_code (2 : Nat) (Option.some Jvm.ClassFile.FieldType.int), Jvm.Cond.code ({ cls := "java/lang/Math", name := "min", desc := "(II)I" } : Jvm.MethodName) jdk_29_method_69_code (2 : Nat) (Option.some Jvm.ClassFile.FieldType.int), Jvm.Cond.code ({ cls := "java/lang/StringLatin1", name := "indexOfChar", desc := "([BIII)I" } : Jvm.MethodName) jdk_43_method_23_code (6 : Nat) (Option.some Jvm.ClassFile.FieldType.int)]
set_option maxRecDepth 65536 in
theorem codes_eq : words1.filter isCode = codes1 := rfl
theorem w_codes : ∀ c ∈ words1.filter isCode, c.before args0 about1 = true := by
  rw [codes_eq]
  intro c hc
  simp only [codes1, List.mem_cons, List.not_mem_nil, or_false] at hc
  rcases hc with rfl | rfl | rfl | rfl | rfl | rfl | rfl | rfl | rfl | rfl | rfl | rfl | rfl | rfl | rfl | rfl | rfl | rfl | rfl | rfl | rfl | rfl | rfl | rfl | rfl | rfl
  · exact w_c0
  · exact w_c1
  · exact w_c2
  · exact w_c3
  · exact w_c4
  · exact w_c5
  · exact w_c6
  · exact w_c7
  · exact w_c8
  · exact w_c9
  · exact w_c10
  · exact w_c11
  · exact w_c12
  · exact w_c13
  · exact w_c14
  · exact w_c15
  · exact w_c16
  · exact w_c17
  · exact w_c18
  · exact w_c19
  · exact w_c20
  · exact w_c21
  · exact w_c22
  · exact w_c23
  · exact w_c24
  · exact w_c25
set_option maxRecDepth 65536 in
theorem w_t1 : (words1.take 24).all (fun c => isCode c || c.before args0 about1) = true := by decide +kernel
set_option maxRecDepth 65536 in
theorem w_t2 : ((words1.drop 24).take 24).all (fun c => isCode c || c.before args0 about1) = true := by decide +kernel
set_option maxRecDepth 65536 in
theorem w_t3 : (((words1.drop 24).drop 24).take 24).all (fun c => isCode c || c.before args0 about1) = true := by decide +kernel
set_option maxRecDepth 65536 in
theorem w_t4 : ((((words1.drop 24).drop 24).drop 24).take 24).all (fun c => isCode c || c.before args0 about1) = true := by decide +kernel
set_option maxRecDepth 65536 in
theorem w_t5 : ((((words1.drop 24).drop 24).drop 24).drop 24).all (fun c => isCode c || c.before args0 about1) = true := by decide +kernel
theorem w_tables : (allAtoms (Jvm.Cond.code x code maxLocals ret :: tables_1)).before args0 about1 = true := by
  rw [allAtoms_all]
  show words1.all (fun c => c.before args0 about1) = true
  refine all_split ?_ w_codes
  rw [← List.take_append_drop 24 words1, List.all_append, w_t1, ← List.take_append_drop 24 (words1.drop 24), List.all_append, w_t2, ← List.take_append_drop 24 ((words1.drop 24).drop 24), List.all_append, w_t3, ← List.take_append_drop 24 (((words1.drop 24).drop 24).drop 24), List.all_append, w_t4, w_t5]
  rfl
set_option maxRecDepth 65536 in
theorem w_rest : rest_1_c.before args0 about1 = true := by decide +kernel
set_option maxRecDepth 65536 in
theorem w_case : (Jvm.Cond.and given_1 narrow_1).before args0 about1 = true := by decide +kernel
set_option maxRecDepth 65536 in
theorem w_consts : constsHeld consts_1 about1 := Jvm.Lit.constsHeldB_iff.mp (by decide +kernel)
theorem w_applies : (headSpec (Jvm.Cond.code x code maxLocals ret :: tables_1) room_1).applies x e0.platform about1 = true :=
  (Spec.applies_iff w_frames).mpr ⟨w_running, w_runnable, w_alone, w_named, w_hears, w_ripe, w_room, w_tables⟩
theorem atStart : AtStart classFile x code maxLocals ret World_1 tables_1 room_1 Calls_1 rest_1 Pre_1 launch0 p0 e0 about1 theMethod args0 below0 :=
  ⟨lists_1, trivial, launch0.admits_env _ _ _, launch0.least_env, fairChoices_fair.cas, fairChoices_fair.clock, w_frames, w_args, w_heap, w_applies, ⟨w_consts, trivial⟩, w_rest, w_case⟩
end start1
theorem witness_1 : WitnessClaimed_1 := ⟨start1.p0, start1.e0, start1.about1, start1.theMethod, start1.args0, start1.below0, start1.atStart⟩
end Jvm.Pilot.@@N@@
