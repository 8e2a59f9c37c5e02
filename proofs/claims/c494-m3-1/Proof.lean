import JvmDerived
import JvmDerived.Pilot.@@N@@Statement
import JvmDerived.Pilot.@@N@@Code
set_option linter.unusedVariables false
set_option linter.unusedSimpArgs false
/- laws to paste: Road.backV, Road.lenW, Road.chN, Road.eqW, Road.codOf (cut by pick.py; bodies as the Statement names them) -/
namespace Jvm.Pilot.@@N@@
namespace StrChars
open Jvm Sem ClassFile Op Lib Jvm.Stand Jvm.Free.XT Jvm.Free.ALB Jvm.Free.JM Jvm.Free
open Jvm.Lib.Cold (StaticIs)
/-- a char array whose places are chars -/
def Ch (a : Addr) (A : Cell) (U : State) : Prop := Arr .char a A U ∧ Typed .char A
theorem Ch.mv {a : Addr} {A : Cell} {U U' : State} (h : Ch a A U) (hal : U.vm.Alike U'.vm) (hh : U'.heap = U.heap) : Ch a A U' := ⟨h.1.mv hal hh, h.2⟩
theorem Ch.keep {a : Addr} {A : Cell} {U U' : State} (h : Ch a A U) (hal : U.vm.Alike U'.vm) (hk : U'.heap[a]? = some A) : Ch a A U' := ⟨h.1.keep hal hk, h.2⟩
/-- what place i of a char[]'s cell holds -/
def cv (A : Cell) (i : Nat) : Int32 := match A.slots[i]? with | some (.int x) => x | _ => 0
theorem Ch.get {a : Addr} {A : Cell} {U : State} (h : Ch a A U) {i : Nat} (hi : i < A.slots.size) : A.slots[i]? = some (.int (cv A i)) := by
  have e := Array.getElem?_eq_getElem hi
  have f := h.2 i _ e
  unfold cv; rw [e]
  generalize A.slots[i] = v at f
  cases v <;> simp [fits] at f ⊢
/-- the byte that i2b leaves of a char -/
def lo8 (x : Int32) : Int32 := x.toInt8.toInt32
theorem fits_lo8 (y : Int32) : fits .byte (.int (lo8 y)) = true := by
  have h1 := y.toInt8.le_toInt
  have h2 := y.toInt8.toInt_lt
  simp only [lo8, fits, Bool.and_eq_true, decide_eq_true_eq, Int32.le_iff_toInt_le, Int8.toInt_toInt32, show (-128 : Int32).toInt = -128 from by decide, show (127 : Int32).toInt = 127 from by decide]
  omega
/-- A' is A but that each place j of lo .. hi - 1 holds f j -/
def Laid (A A' : Cell) (lo hi : Nat) (f : Nat → Value) : Prop := A'.cls = A.cls ∧ A'.vm = A.vm ∧ A'.slots.size = A.slots.size ∧ ∀ i, A'.slots[i]? = if lo ≤ i ∧ i < hi then some (f i) else A.slots[i]?
theorem Laid.zero (A : Cell) (lo : Nat) (f : Nat → Value) : Laid A A lo (lo + 0) f := ⟨rfl, rfl, rfl, fun i => by rw [if_neg (by omega)]⟩
theorem Laid.step {A Ak : Cell} {lo k : Nat} {f : Nat → Value} {v : Value} (h : Laid A Ak lo k f) (hlo : lo ≤ k) (hk : k < Ak.slots.size) (hv : v = f k) : Laid A (Ak.setSlot k v) lo (k + 1) f := by
  refine ⟨h.1, h.2.1, by simpa [Cell.setSlot] using h.2.2.1, fun i => ?_⟩
  by_cases e : k = i
  · subst e; rw [Cell.slots_setSlot_self v hk, if_pos (by omega), hv]
  · rw [Cell.slots_setSlot_ne v e, h.2.2.2 i]
    by_cases q : lo ≤ i ∧ i < k
    · rw [if_pos q, if_pos (by omega)]
    · rw [if_neg q, if_neg (by omega)]
def U16 : String := "java/lang/StringUTF16"
namespace Cmp5
def yN : MethodName := ⟨"java/lang/StringUTF16", "compress", "([CI[BII)I"⟩
abbrev yB : ByteArray := jdk_52_method_21_code
theorem d0 : decode yB 0 = .ok (.iconst 0, 1) := by decide +kernel
theorem d1 : decode yB 1 = .ok (.istore 5, 2) := by decide +kernel
theorem d3 : decode yB 3 = .ok (.iload 5, 2) := by decide +kernel
theorem d5 : decode yB 5 = .ok (.iload 4, 2) := by decide +kernel
theorem d7 : decode yB 7 = .ok (.if_icmp (.ge) 37, 3) := by decide +kernel
theorem d10 : decode yB 10 = .ok (.aload_n 0, 1) := by decide +kernel
theorem d11 : decode yB 11 = .ok (.iload_n 1, 1) := by decide +kernel
theorem d12 : decode yB 12 = .ok (.caload, 1) := by decide +kernel
theorem d13 : decode yB 13 = .ok (.istore 6, 2) := by decide +kernel
theorem d15 : decode yB 15 = .ok (.iload 6, 2) := by decide +kernel
theorem d17 : decode yB 17 = .ok (.sipush 255, 3) := by decide +kernel
theorem d20 : decode yB 20 = .ok (.if_icmp (.le) 6, 3) := by decide +kernel
theorem d26 : decode yB 26 = .ok (.aload_n 2, 1) := by decide +kernel
theorem d27 : decode yB 27 = .ok (.iload_n 3, 1) := by decide +kernel
theorem d28 : decode yB 28 = .ok (.iload 6, 2) := by decide +kernel
theorem d30 : decode yB 30 = .ok (.i2b, 1) := by decide +kernel
theorem d31 : decode yB 31 = .ok (.bastore, 1) := by decide +kernel
theorem d32 : decode yB 32 = .ok (.iinc 1 1, 3) := by decide +kernel
theorem d35 : decode yB 35 = .ok (.iinc 3 1, 3) := by decide +kernel
theorem d38 : decode yB 38 = .ok (.iinc 5 1, 3) := by decide +kernel
theorem d41 : decode yB 41 = .ok (.goto (-38), 3) := by decide +kernel
theorem d44 : decode yB 44 = .ok (.iload 4, 2) := by decide +kernel
theorem d46 : decode yB 46 = .ok (.ireturn, 1) := by decide +kernel
def site : List Cond := []
def tab : Cond := tabOf yN yB 7 (some .int) site
def P (b : Addr) (A : Cell) (d : Addr) (B : Cell) (o q len : Nat) (args : Array Value) (s : State) : Prop := args = #[.ref b, .int (Int32.ofNat o), .ref d, .int (Int32.ofNat q), .int (Int32.ofNat len)] ∧ Ch b A s ∧ Arr .byte d B s ∧ b ≠ d ∧ o + len ≤ A.slots.size ∧ q + len ≤ B.slots.size ∧ ∀ i, i < len → ¬ 255 < cv A (o + i)
def E (b : Addr) (A : Cell) (d : Addr) (B : Cell) (o q len : Nat) (r : Option Value) (s u : State) : Prop := r = some (.int (Int32.ofNat len)) ∧ ∃ B', Put d B' s u ∧ Laid B B' q (q + len) (fun j => Value.int (lo8 (cv A (o + (j - q)))))
/-- no char of the range above 255: len; the places written hold each char's low byte -/
theorem law (l : Launch) (b : Addr) (A : Cell) (d : Addr) (B : Cell) (o q len : Nat) : Law l yN 5 5 0 0 yB 7 (some .int) site (P b A d B o q len) (E b A d B o q len) (copyLocs d q len) 0 0 := by
  refine Law.of_walk (plainFor_of_name (by decide +kernel)) (by decide +kernel) (by decide +kernel) (by decide) (fun _ _ h => by rw [h.1]; rfl) (fun _ U U' hal hh h => ⟨h.1, h.2.1.mv hal hh, h.2.2.1.mv hal hh, h.2.2.2⟩) (fun r U U' V V' h1 hal h2 h => ⟨h.1, h.2.elim fun B' q => ⟨B', q.1.mv h1 h2, q.2⟩⟩) ?_
  intro p e s m args below meth c s₁ X0 hexec hbytes hml hret hlk hnm hown hh0 W hP
  obtain ⟨rfl, hA, hB, hne, l1, l2, hp⟩ := hP
  have c1 : Steps p.tables e below (s₁.setTop (entryFrame m #[.ref b, .int (Int32.ofNat o), .ref d, .int (Int32.ofNat q), .int (Int32.ofNat len)] 7)) (s₁.setTop (mkF m 0 #[.val (.ref b), .val (.int (Int32.ofNat o)), .val (.ref d), .val (.int (Int32.ofNat q)), .val (.int (Int32.ofNat len)), .unset, .unset] [])) := entry rfl
  have hA0 := hA.1.mv X0.warmed.alike hh0
  have hB0 := hB.mv X0.warmed.alike hh0
  have a31 := hA.1.2.2.2
  have c2 : Steps p.tables e below (s₁.setTop (entryFrame m #[.ref b, .int (Int32.ofNat o), .ref d, .int (Int32.ofNat q), .int (Int32.ofNat len)] 7)) (s₁.setTop (mkF m 3 #[.val (.ref b), .val (.int (Int32.ofNat o)), .val (.ref d), .val (.int (Int32.ofNat q)), .val (.int (Int32.ofNat len)), .val (.int 0), .unset] [])) := c1.trans (by
    refine iconstV X0.here hexec rfl 0 (hb hbytes d0) (by decide) ?_
    refine XS.istore X0.here hexec rfl (hb hbytes d1) rfl rfl ?_
    exact Steps.refl _)
  have loop : ∀ (r i : Nat), i + r = len → ∀ (z : Slot), (z = .unset ∨ ∃ w, z = .val w ∧ w.category = 1) → ∀ (Tl : State) (Bk : Cell), Stand p l e { frames := 0, locals := 0, cells := 0, slots := 0 } s m #[.ref b, .int (Int32.ofNat o), .ref d, .int (Int32.ofNat q), .int (Int32.ofNat len)] below meth c Tl ([] ++ copyLocs d q i) 0 0 → Put d Bk s₁ Tl → Laid B Bk q (q + i) (fun j => Value.int (lo8 (cv A (o + (j - q))))) →
      Steps p.tables e below (s₁.setTop (entryFrame m #[.ref b, .int (Int32.ofNat o), .ref d, .int (Int32.ofNat q), .int (Int32.ofNat len)] 7)) (Tl.setTop (mkF m 3 #[.val (.ref b), .val (.int (Int32.ofNat (o + i))), .val (.ref d), .val (.int (Int32.ofNat (q + i))), .val (.int (Int32.ofNat len)), .val (.int (Int32.ofNat i)), z] [])) → ∃ (T' : State) (B' : Cell) (z' : Slot), Stand p l e { frames := 0, locals := 0, cells := 0, slots := 0 } s m #[.ref b, .int (Int32.ofNat o), .ref d, .int (Int32.ofNat q), .int (Int32.ofNat len)] below meth c T' ([] ++ copyLocs d q len) 0 0 ∧ Put d B' s₁ T' ∧ Laid B B' q (q + len) (fun j => Value.int (lo8 (cv A (o + (j - q))))) ∧
      Steps p.tables e below (s₁.setTop (entryFrame m #[.ref b, .int (Int32.ofNat o), .ref d, .int (Int32.ofNat q), .int (Int32.ofNat len)] 7)) (T'.setTop (mkF m 3 #[.val (.ref b), .val (.int (Int32.ofNat (o + len))), .val (.ref d), .val (.int (Int32.ofNat (q + len))), .val (.int (Int32.ofNat len)), .val (.int (Int32.ofNat len)), z'] [])) := by
    intro r
    induction r with
    | zero =>
      intro i hi z hz Tl Bk Xl pl fl cl
      have hil : i = len := by omega
      rw [hil] at Xl fl cl
      exact ⟨Tl, Bk, z, Xl, pl, fl, cl⟩
    | succ r ih =>
      intro i hi z hz Tl Bk Xl pl fl cl
      have all := X0.warmed.alike.symm.trans Xl.warmed.alike
      have hAl := hA0.keep all (pl.other hne hA0.1)
      have hBk := hB0.like all pl.1 fl.1 fl.2.1 fl.2.2.1
      have hlt : q + i < Bk.slots.size := by rw [fl.2.2.1]; omega
      have c3 : Steps p.tables e below (s₁.setTop (entryFrame m #[.ref b, .int (Int32.ofNat o), .ref d, .int (Int32.ofNat q), .int (Int32.ofNat len)] 7)) (Tl.setTop (mkF m 12 #[.val (.ref b), .val (.int (Int32.ofNat (o + i))), .val (.ref d), .val (.int (Int32.ofNat (q + i))), .val (.int (Int32.ofNat len)), .val (.int (Int32.ofNat i)), z] [.int (Int32.ofNat (o + i)), .ref b])) := cl.trans (by
        refine XS.iload Xl.here hexec rfl (hb hbytes d3) rfl ?_
        refine XS.iload Xl.here hexec rfl (hb hbytes d5) rfl ?_
        refine XS.icmpNo Xl.here hexec rfl (hb hbytes d7) rfl (ii_ge_f (lt32 (by omega) (by omega))) ?_
        refine XS.aloadN Xl.here hexec rfl (hb hbytes d10) rfl rfl ?_
        refine XS.iloadN Xl.here hexec rfl (hb hbytes d11) rfl ?_
        exact Steps.refl _)
      have c4 : Steps p.tables e below (s₁.setTop (entryFrame m #[.ref b, .int (Int32.ofNat o), .ref d, .int (Int32.ofNat q), .int (Int32.ofNat len)] 7)) (Tl.setTop (mkF m 13 #[.val (.ref b), .val (.int (Int32.ofNat (o + i))), .val (.ref d), .val (.int (Int32.ofNat (q + i))), .val (.int (Int32.ofNat len)), .val (.int (Int32.ofNat i)), z] [.int (cv A (o + i))])) := c3.trans (by
        refine Xl.aget hexec hAl rfl (hA.get (i := o + i) (by omega)) rfl rfl (hb hbytes d12) ?_
        exact Steps.refl _)
      have c5 : Steps p.tables e below (s₁.setTop (entryFrame m #[.ref b, .int (Int32.ofNat o), .ref d, .int (Int32.ofNat q), .int (Int32.ofNat len)] 7)) (Tl.setTop (mkF m 15 #[.val (.ref b), .val (.int (Int32.ofNat (o + i))), .val (.ref d), .val (.int (Int32.ofNat (q + i))), .val (.int (Int32.ofNat len)), .val (.int (Int32.ofNat i)), .val (.int (cv A (o + i)))] [])) := c4.trans (by
        refine XS.istoreS Xl.here hexec rfl (hb hbytes d13) rfl rfl hz ?_
        exact Steps.refl _)
      have c6 : Steps p.tables e below (s₁.setTop (entryFrame m #[.ref b, .int (Int32.ofNat o), .ref d, .int (Int32.ofNat q), .int (Int32.ofNat len)] 7)) (Tl.setTop (mkF m 31 #[.val (.ref b), .val (.int (Int32.ofNat (o + i))), .val (.ref d), .val (.int (Int32.ofNat (q + i))), .val (.int (Int32.ofNat len)), .val (.int (Int32.ofNat i)), .val (.int (cv A (o + i)))] [.int (lo8 (cv A (o + i))), .int (Int32.ofNat (q + i)), .ref d])) := c5.trans (by
        refine XS.iload Xl.here hexec rfl (hb hbytes d15) rfl ?_
        refine sipushV Xl.here hexec rfl 255 (hb hbytes d17) (by decide) ?_
        refine XS.icmpYes Xl.here hexec rfl (pc0 := 20) rfl (hb hbytes d20) rfl (ii_le_t (hp i (by omega))) (by decide) rfl ?_
        refine XS.aloadN Xl.here hexec rfl (hb hbytes d26) rfl rfl ?_
        refine XS.iloadN Xl.here hexec rfl (hb hbytes d27) rfl ?_
        refine XS.iload Xl.here hexec rfl (hb hbytes d28) rfl ?_
        refine i2b Xl.here hexec rfl (hb hbytes d30) rfl ?_
        exact Steps.refl _)
      obtain ⟨T7, X7, p7, st7⟩ := Xl.aput hexec hBk rfl hlt rfl (fits_lo8 (cv A (o + i))) (g := (mkF m 31 #[.val (.ref b), .val (.int (Int32.ofNat (o + i))), .val (.ref d), .val (.int (Int32.ofNat (q + i))), .val (.int (Int32.ofNat len)), .val (.int (Int32.ofNat i)), .val (.int (cv A (o + i)))] [.int (lo8 (cv A (o + i))), .int (Int32.ofNat (q + i)), .ref d])) rfl (rest := []) rfl (hb hbytes d31)
      have c8 : Steps p.tables e below (s₁.setTop (entryFrame m #[.ref b, .int (Int32.ofNat o), .ref d, .int (Int32.ofNat q), .int (Int32.ofNat len)] 7)) (T7.setTop (mkF m 32 #[.val (.ref b), .val (.int (Int32.ofNat (o + i))), .val (.ref d), .val (.int (Int32.ofNat (q + i))), .val (.int (Int32.ofNat len)), .val (.int (Int32.ofNat i)), .val (.int (cv A (o + i)))] [])) := c6.trans (st7 _ (Steps.refl _))
      have c9 : Steps p.tables e below (s₁.setTop (entryFrame m #[.ref b, .int (Int32.ofNat o), .ref d, .int (Int32.ofNat q), .int (Int32.ofNat len)] 7)) (T7.setTop (mkF m 3 #[.val (.ref b), .val (.int (Int32.ofNat (o + i) + 1)), .val (.ref d), .val (.int (Int32.ofNat (q + i) + 1)), .val (.int (Int32.ofNat len)), .val (.int (Int32.ofNat i + 1)), .val (.int (cv A (o + i)))] [])) := c8.trans (by
        refine iincV X7.here hexec rfl 1 (hb hbytes d32) (by decide) rfl rfl ?_
        refine iincV X7.here hexec rfl 1 (hb hbytes d35) (by decide) rfl rfl ?_
        refine iincV X7.here hexec rfl 1 (hb hbytes d38) (by decide) rfl rfl ?_
        refine XS.goto X7.here hexec rfl (pc0 := 41) rfl (hb hbytes d41) (by decide) rfl ?_
        exact Steps.refl _)
      have c10 : Steps p.tables e below (s₁.setTop (entryFrame m #[.ref b, .int (Int32.ofNat o), .ref d, .int (Int32.ofNat q), .int (Int32.ofNat len)] 7)) (T7.setTop (mkF m 3 #[.val (.ref b), .val (.int (Int32.ofNat (o + (i + 1)))), .val (.ref d), .val (.int (Int32.ofNat (q + (i + 1)))), .val (.int (Int32.ofNat len)), .val (.int (Int32.ofNat (i + 1))), .val (.int (cv A (o + i)))] [])) := by
        have := c9
        rw [succ32, succ32, succ32] at this
        exact this
      exact ih (i + 1) (by omega) _ (Or.inr ⟨_, rfl, rfl⟩) T7 _ (by rw [copyLocs_step, ← List.append_assoc]; exact X7) (pl.trans p7) (fl.step (by omega) hlt (by simp)) c10
  obtain ⟨T9, B9, z9, X9, p9, f9, g9⟩ := loop len 0 (by omega) .unset (Or.inl rfl) s₁ B (by simpa [copyLocs] using X0) ⟨hB0.1, fun _ _ => rfl, rfl⟩ (Laid.zero _ _ _) c2
  have c11 : Steps p.tables e below (s₁.setTop (entryFrame m #[.ref b, .int (Int32.ofNat o), .ref d, .int (Int32.ofNat q), .int (Int32.ofNat len)] 7)) (T9.setTop (mkF m 46 #[.val (.ref b), .val (.int (Int32.ofNat (o + len))), .val (.ref d), .val (.int (Int32.ofNat (q + len))), .val (.int (Int32.ofNat len)), .val (.int (Int32.ofNat len)), z9] [.int (Int32.ofNat len)])) := g9.trans (by
    refine XS.iload X9.here hexec rfl (hb hbytes d3) rfl ?_
    refine XS.iload X9.here hexec rfl (hb hbytes d5) rfl ?_
    refine XS.icmpYes X9.here hexec rfl (pc0 := 7) rfl (hb hbytes d7) rfl (ii_ge_t (nlt32 (by omega) (Nat.le_refl _))) (by decide) rfl ?_
    refine XS.iload X9.here hexec rfl (hb hbytes d44) rfl ?_
    exact Steps.refl _)
  exact ⟨T9, some (.int (Int32.ofNat len)), _, _, _, X9, by simp, rfl, rfl, (fun h => by cases h), ⟨rfl, B9, p9.from hh0, f9⟩, fun fs hl => c11.trans (X9.ireturnOut hexec hret rfl (Or.inl rfl) (hb hbytes d46) hl)⟩
end Cmp5
namespace Cmp3
def yN : MethodName := ⟨"java/lang/StringUTF16", "compress", "([CII)[B"⟩
abbrev yB : ByteArray := jdk_52_method_16_code
theorem d0 : decode yB 0 = .ok (.iload_n 2, 1) := by decide +kernel
theorem d1 : decode yB 1 = .ok (.newarray .byte, 2) := by decide +kernel
theorem d3 : decode yB 3 = .ok (.astore_n 3, 1) := by decide +kernel
theorem d4 : decode yB 4 = .ok (.aload_n 0, 1) := by decide +kernel
theorem d5 : decode yB 5 = .ok (.iload_n 1, 1) := by decide +kernel
theorem d6 : decode yB 6 = .ok (.aload_n 3, 1) := by decide +kernel
theorem d7 : decode yB 7 = .ok (.iconst 0, 1) := by decide +kernel
theorem d8 : decode yB 8 = .ok (.iload_n 2, 1) := by decide +kernel
theorem d9 : decode yB 9 = .ok (.invokestatic 115, 3) := by decide +kernel
theorem d12 : decode yB 12 = .ok (.istore 4, 2) := by decide +kernel
theorem d14 : decode yB 14 = .ok (.iload 4, 2) := by decide +kernel
theorem d16 : decode yB 16 = .ok (.iload_n 2, 1) := by decide +kernel
theorem d17 : decode yB 17 = .ok (.if_icmp (.eq) 40, 3) := by decide +kernel
theorem d57 : decode yB 57 = .ok (.aload_n 3, 1) := by decide +kernel
theorem d58 : decode yB 58 = .ok (.areturn, 1) := by decide +kernel
def site : List Cond := [.arrayClass .byte, Cmp5.tab] ++ staticW U16 115 Cmp5.yN
def tab : Cond := tabOf yN yB 6 (some (.array .byte)) site
def P (b : Addr) (A : Cell) (o len : Nat) (args : Array Value) (s : State) : Prop := args = #[.ref b, .int (Int32.ofNat o), .int (Int32.ofNat len)] ∧ Ch b A s ∧ o + len ≤ A.slots.size ∧ len ≤ 536870912 ∧ ∀ i, i < len → ¬ 255 < cv A (o + i)
def E (b : Addr) (A : Cell) (o len : Nat) (r : Option Value) (s u : State) : Prop := NewArr .byte "[B" len (fun j => .int (lo8 (cv A (o + j)))) r s u ∧ u.heap.size = s.heap.size + 1
/-- no char of the range above 255: a new byte[] of their low bytes -/
theorem law (l : Launch) (b : Addr) (A : Cell) (o len : Nat) : Law l yN 3 3 1 18 yB 6 (some (.array .byte)) site (P b A o len) (E b A o len) [] 1 len := by
  refine Law.of_walk (plainFor_of_name (by decide +kernel)) (by decide +kernel) (by decide +kernel) (by decide) (fun _ _ h => by rw [h.1]; rfl) (fun _ U U' hal hh h => ⟨h.1, h.2.1.mv hal hh, h.2.2⟩) (fun r U U' V V' h1 hal h2 h => ⟨NewArr.mv r U U' V V' h1 hal h2 h.1, by rw [h1, h2]; exact h.2⟩) ?_
  intro p e s m args below meth c s₁ X0 hexec hbytes hml hret hlk hnm hown hh0 W hP
  obtain ⟨rfl, hA, l1, l2, hp⟩ := hP
  have a31 := hA.1.2.2.2
  have c1 : Steps p.tables e below (s₁.setTop (entryFrame m #[.ref b, .int (Int32.ofNat o), .int (Int32.ofNat len)] 6)) (s₁.setTop (mkF m 0 #[.val (.ref b), .val (.int (Int32.ofNat o)), .val (.int (Int32.ofNat len)), .unset, .unset, .unset] [])) := entry rfl
  have c2 : Steps p.tables e below (s₁.setTop (entryFrame m #[.ref b, .int (Int32.ofNat o), .int (Int32.ofNat len)] 6)) (s₁.setTop (mkF m 1 #[.val (.ref b), .val (.int (Int32.ofNat o)), .val (.int (Int32.ofNat len)), .unset, .unset, .unset] [.int (Int32.ofNat len)])) := c1.trans (by
    refine XS.iloadN X0.here hexec rfl (hb hbytes d0) rfl ?_
    exact Steps.refl _)
  obtain ⟨T3, B3, X3, ba3, bs3, bv3, bh3, bf3, st3⟩ := X0.anew hexec (atype := .byte) (wk W (.arrayClass .byte)) rfl (by show len * 1 ≤ _; omega) (by omega) (g := (mkF m 1 #[.val (.ref b), .val (.int (Int32.ofNat o)), .val (.int (Int32.ofNat len)), .unset, .unset, .unset] [.int (Int32.ofNat len)])) rfl (hb hbytes d1) (rest := []) rfl (Nat.le_refl _) (by show 0 + len ≤ len; omega)
  rw [hh0] at ba3 st3
  have kp3 : XT.Kept s T3 := (XT.Kept.of_eq hh0).push bh3
  have hA3 := hA.keep X3.warmed.alike (kp3 _ _ hA.1.1)
  have hne : b ≠ s.heap.size := hA.1.ne
  have c4 : Steps p.tables e below (s₁.setTop (entryFrame m #[.ref b, .int (Int32.ofNat o), .int (Int32.ofNat len)] 6)) (T3.setTop (mkF m 3 #[.val (.ref b), .val (.int (Int32.ofNat o)), .val (.int (Int32.ofNat len)), .unset, .unset, .unset] [.ref s.heap.size])) := c2.trans (st3 _ (Steps.refl _))
  have c5 : Steps p.tables e below (s₁.setTop (entryFrame m #[.ref b, .int (Int32.ofNat o), .int (Int32.ofNat len)] 6)) (T3.setTop (mkF m 9 #[.val (.ref b), .val (.int (Int32.ofNat o)), .val (.int (Int32.ofNat len)), .val (.ref s.heap.size), .unset, .unset] [.int (Int32.ofNat len), .int 0, .ref s.heap.size, .int (Int32.ofNat o), .ref b])) := c4.trans (by
    refine XS.astoreN X3.here hexec rfl (hb hbytes d3) rfl rfl rfl ?_
    refine XS.aloadN X3.here hexec rfl (hb hbytes d4) rfl rfl ?_
    refine XS.iloadN X3.here hexec rfl (hb hbytes d5) rfl ?_
    refine XS.aloadN X3.here hexec rfl (hb hbytes d6) rfl rfl ?_
    refine iconstV X3.here hexec rfl 0 (hb hbytes d7) (by decide) ?_
    refine XS.iloadN X3.here hexec rfl (hb hbytes d8) rfl ?_
    exact Steps.refl _)
  obtain ⟨v6, T6, X6, E6, g6⟩ := X3.callS hexec (Cmp5.law l b A s.heap.size B3 o 0 len) hown (wks W (staticW U16 115 Cmp5.yN)) (wk W Cmp5.tab) (W := 0) (Nat.le_of_ble_eq_true rfl) (Nat.le_of_ble_eq_true rfl) (Nat.le_refl _) (by show 0 + len + 0 ≤ len; omega) (g := (mkF m 9 #[.val (.ref b), .val (.int (Int32.ofNat o)), .val (.int (Int32.ofNat len)), .val (.ref s.heap.size), .unset, .unset] [.int (Int32.ofNat len), .int (Int32.ofNat 0), .ref s.heap.size, .int (Int32.ofNat o), .ref b])) rfl (by rw [hml]; rfl) c5 (argsL := [.ref b, .int (Int32.ofNat o), .ref s.heap.size, .int (Int32.ofNat 0), .int (Int32.ofNat len)]) (rest := []) rfl rfl (by show 2 * 0 + 0 ≤ _; decide) (hb hbytes d9) (⟨rfl, hA3, ba3, hne, l1, by rw [bs3]; simp, hp⟩)
  obtain ⟨rfl, B6, p6, f6⟩ := E6
  have c7 : Steps p.tables e below (s₁.setTop (entryFrame m #[.ref b, .int (Int32.ofNat o), .int (Int32.ofNat len)] 6)) (T6.setTop (mkF m 12 #[.val (.ref b), .val (.int (Int32.ofNat o)), .val (.int (Int32.ofNat len)), .val (.ref s.heap.size), .unset, .unset] [.int (Int32.ofNat len)])) := g6
  have c8 : Steps p.tables e below (s₁.setTop (entryFrame m #[.ref b, .int (Int32.ofNat o), .int (Int32.ofNat len)] 6)) (T6.setTop (mkF m 58 #[.val (.ref b), .val (.int (Int32.ofNat o)), .val (.int (Int32.ofNat len)), .val (.ref s.heap.size), .val (.int (Int32.ofNat len)), .unset] [.ref s.heap.size])) := c7.trans (by
    refine XS.istore X6.here hexec rfl (hb hbytes d12) rfl rfl ?_
    refine XS.iload X6.here hexec rfl (hb hbytes d14) rfl ?_
    refine XS.iloadN X6.here hexec rfl (hb hbytes d16) rfl ?_
    refine XS.icmpYes X6.here hexec rfl (pc0 := 17) rfl (hb hbytes d17) rfl (ii_eq_t rfl) (by decide) rfl ?_
    refine XS.aloadN X6.here hexec rfl (hb hbytes d57) rfl rfl ?_
    exact Steps.refl _)
  have X8 := X6.wide (L' := []) (cells' := 1) (slots' := len) (fun x hx hlt => by
    simp only [List.nil_append, copyLocs, List.mem_map, List.mem_range] at hx
    obtain ⟨i, -, rfl⟩ := hx
    exact absurd hlt (Nat.lt_irrefl _)) (Nat.le_refl _) (by omega)
  exact ⟨T6, some (.ref s.heap.size), _, _, _, X8, rfl, rfl, rfl, (fun h => by cases h), ⟨⟨rfl, B6, ba3.like (X3.warmed.alike.symm.trans X6.warmed.alike) p6.1 f6.1 f6.2.1 f6.2.2.1, f6.2.1.trans bv3, by rw [X6.warmed.alike.findClass, f6.1]; exact bf3, by rw [f6.2.2.1, bs3]; simp, fun j hj => by rw [f6.2.2.2 j, if_pos (by omega)]; rfl, kp3.put p6 (Nat.le_refl _)⟩, by rw [p6.2.2, bh3, hh0]; simp⟩, fun fs hl => c8.trans (X8.areturnOut hexec rfl hret rfl (hb hbytes d58) hl)⟩
end Cmp3
namespace CodL
def yN : MethodName := ⟨"java/lang/StringUTF16", "coderFromArrayLen", "([BI)B"⟩
abbrev yB : ByteArray := jdk_52_method_15_code
theorem d0 : decode yB 0 = .ok (.iload_n 1, 1) := by decide +kernel
theorem d1 : decode yB 1 = .ok (.aload_n 0, 1) := by decide +kernel
theorem d2 : decode yB 2 = .ok (.arraylength, 1) := by decide +kernel
theorem d3 : decode yB 3 = .ok (.isub, 1) := by decide +kernel
theorem d4 : decode yB 4 = .ok (.bipush 31, 2) := by decide +kernel
theorem d6 : decode yB 6 = .ok (.iushr, 1) := by decide +kernel
theorem d7 : decode yB 7 = .ok (.i2b, 1) := by decide +kernel
theorem d8 : decode yB 8 = .ok (.ireturn, 1) := by decide +kernel
def site : List Cond := []
def tab : Cond := tabOf yN yB 2 (some .byte) site
def P (d : Addr) (B : Cell) (args : Array Value) (s : State) : Prop := args = #[.ref d, .int (Int32.ofNat B.slots.size)] ∧ Arr .byte d B s
def E (r : Option Value) (s u : State) : Prop := XT.PureE (some (.int 0)) r s u
/-- an array as long as the number of chars: LATIN1 -/
theorem law (l : Launch) (d : Addr) (B : Cell) : Law l yN 2 2 0 0 yB 2 (some .byte) site (P d B) E [] 0 0 := by
  refine Law.of_walk (plainFor_of_name (by decide +kernel)) (by decide +kernel) (by decide +kernel) (by decide) (fun _ _ h => by rw [h.1]; rfl) (fun _ U U' hal hh h => ⟨h.1, h.2.mv hal hh⟩) (fun r U U' V V' h1 hal h2 h => XT.PureE.mv r U U' V V' h1 hal h2 h) ?_
  intro p e s m args below meth c s₁ X0 hexec hbytes hml hret hlk hnm hown hh0 W hP
  obtain ⟨rfl, hB⟩ := hP
  have hB0 := hB.mv X0.warmed.alike hh0
  have c1 : Steps p.tables e below (s₁.setTop (entryFrame m #[.ref d, .int (Int32.ofNat B.slots.size)] 2)) (s₁.setTop (mkF m 0 #[.val (.ref d), .val (.int (Int32.ofNat B.slots.size))] [])) := entry rfl
  have c2 : Steps p.tables e below (s₁.setTop (entryFrame m #[.ref d, .int (Int32.ofNat B.slots.size)] 2)) (s₁.setTop (mkF m 2 #[.val (.ref d), .val (.int (Int32.ofNat B.slots.size))] [.ref d, .int (Int32.ofNat B.slots.size)])) := c1.trans (by
    refine XS.iloadN X0.here hexec rfl (hb hbytes d0) rfl ?_
    refine XS.aloadN X0.here hexec rfl (hb hbytes d1) rfl rfl ?_
    exact Steps.refl _)
  have c3 : Steps p.tables e below (s₁.setTop (entryFrame m #[.ref d, .int (Int32.ofNat B.slots.size)] 2)) (s₁.setTop (mkF m 8 #[.val (.ref d), .val (.int (Int32.ofNat B.slots.size))] [.int (lo8 (ushr (Int32.ofNat B.slots.size - Int32.ofNat B.slots.size) 31))])) := c2.trans (by
    refine X0.alen hexec hB0 rfl rfl (hb hbytes d2) ?_
    refine XS.isub X0.here hexec rfl (hb hbytes d3) rfl ?_
    refine bipushV X0.here hexec rfl 31 (hb hbytes d4) (by decide) ?_
    refine iushr X0.here hexec rfl (hb hbytes d6) rfl ?_
    refine i2b X0.here hexec rfl (hb hbytes d7) rfl ?_
    exact Steps.refl _)
  have e0 : lo8 (ushr (Int32.ofNat B.slots.size - Int32.ofNat B.slots.size) 31) = 0 := by rw [Int32.sub_self]; decide
  rw [e0] at c3
  exact ⟨s₁, some (.int 0), _, _, _, X0, rfl, rfl, rfl, (fun h => by cases h), ⟨rfl, hh0⟩, fun fs hl => c3.trans (X0.ireturnOut hexec hret rfl (Or.inr (Or.inr (Or.inl rfl))) (hb hbytes d8) hl)⟩
end CodL
/-- the String at a is Latin-1 over a new byte[] (the heap's one new cell): the low bytes of the len chars of A from o on; every cell but a is kept -/
def Got (a : Addr) (D : Cell) (fV fC : Field) (A : Cell) (o len : Nat) (r : Option Value) (s u : State) : Prop := r = none ∧ ∃ D' V : Cell, Blank "java/lang/String" a D' u ∧ Same D D' [fV.slot, fC.slot] ∧ D'.slots[fV.slot]? = some (.ref s.heap.size) ∧ D'.slots[fC.slot]? = some (.int 0) ∧ Arr .byte s.heap.size V u ∧ V.vm = .none ∧ u.vm.findClass "[B" = some V.cls ∧ V.slots.size = len ∧ (∀ j, j < len → V.slots[j]? = some (.int (lo8 (cv A (o + j))))) ∧ (∀ (y : Addr) (c : Cell), y ≠ a → s.heap[y]? = some c → u.heap[y]? = some c) ∧ u.heap.size = s.heap.size + 1
theorem Got.mv {a : Addr} {D A : Cell} {fV fC : Field} {o len : Nat} : ∀ r (U U' V V' : State), U'.heap = U.heap → V.vm.Alike V'.vm → V'.heap = V.heap → Got a D fV fC A o len r U V → Got a D fV fC A o len r U' V' :=
  fun r U U' V V' h1 hal h2 ⟨e0, D', X, a1, a2, a3, a4, a5, a6, a7, a8, a9, a10, a11⟩ => ⟨e0, D', X, a1.mv hal h2, a2, by rw [h1]; exact a3, a4, by rw [h1]; exact a5.mv hal h2, a6, by rw [hal.findClass]; exact a7, a8, a9, by rw [h1, h2]; exact a10, by rw [h1, h2]; exact a11⟩
namespace New4
def yN : MethodName := ⟨"java/lang/String", "<init>", "([CIILjava/lang/Void;)V"⟩
abbrev yB : ByteArray := jdk_42_method_149_code
theorem d0 : decode yB 0 = .ok (.aload_n 0, 1) := by decide +kernel
theorem d1 : decode yB 1 = .ok (.invokespecial 1, 3) := by decide +kernel
theorem d4 : decode yB 4 = .ok (.iload_n 3, 1) := by decide +kernel
theorem d5 : decode yB 5 = .ok (.ifCond (.ne) 22, 3) := by decide +kernel
theorem d27 : decode yB 27 = .ok (.getstatic 38, 3) := by decide +kernel
theorem d30 : decode yB 30 = .ok (.ifCond (.eq) 28, 3) := by decide +kernel
theorem d33 : decode yB 33 = .ok (.aload_n 1, 1) := by decide +kernel
theorem d34 : decode yB 34 = .ok (.iload_n 2, 1) := by decide +kernel
theorem d35 : decode yB 35 = .ok (.iload_n 3, 1) := by decide +kernel
theorem d36 : decode yB 36 = .ok (.invokestatic 177, 3) := by decide +kernel
theorem d39 : decode yB 39 = .ok (.astore 5, 2) := by decide +kernel
theorem d41 : decode yB 41 = .ok (.aload_n 0, 1) := by decide +kernel
theorem d42 : decode yB 42 = .ok (.aload 5, 2) := by decide +kernel
theorem d44 : decode yB 44 = .ok (.iload_n 3, 1) := by decide +kernel
theorem d45 : decode yB 45 = .ok (.invokestatic 47, 3) := by decide +kernel
theorem d48 : decode yB 48 = .ok (.putfield 15, 3) := by decide +kernel
theorem d51 : decode yB 51 = .ok (.aload_n 0, 1) := by decide +kernel
theorem d52 : decode yB 52 = .ok (.aload 5, 2) := by decide +kernel
theorem d54 : decode yB 54 = .ok (.putfield 9, 3) := by decide +kernel
theorem d57 : decode yB 57 = .ok (.return_, 1) := by decide +kernel
def site : List Cond := [.fieldLink "java/lang/String" 38 "java/lang/String" "COMPACT_STRINGS" "Z", Cmp3.tab, CodL.tab, .laysFinal "java/lang/String" "java/lang/String" "value" "[B", .fieldLink "java/lang/String" 9 "java/lang/String" "value" "[B", .laysFinal "java/lang/String" "java/lang/String" "coder" "B", .fieldLink "java/lang/String" 15 "java/lang/String" "coder" "B"] ++ objW "java/lang/String" 1 ++ staticW "java/lang/String" 177 Cmp3.yN ++ staticW "java/lang/String" 47 CodL.yN
def tab : Cond := tabOf yN yB 6 none site
def P (a : Addr) (D : Cell) (fV fC : Field) (b : Addr) (A : Cell) (z : Int32) (o len : Nat) (args : Array Value) (s : State) : Prop := args = #[.ref a, .ref b, .int (Int32.ofNat o), .int (Int32.ofNat len), .null] ∧ Blank "java/lang/String" a D s ∧ Found "java/lang/String" "value" "[B" fV s ∧ Found "java/lang/String" "coder" "B" fC s ∧ Ch b A s ∧ StaticIs s "java/lang/String" "COMPACT_STRINGS" "Z" (.int z) ∧ ¬ z = 0 ∧ 0 < len ∧ o + len ≤ A.slots.size ∧ len ≤ 536870912 ∧ ∀ i, i < len → ¬ 255 < cv A (o + i)
def E (a : Addr) (D : Cell) (fV fC : Field) (A : Cell) (o len : Nat) (r : Option Value) (s u : State) : Prop := Got a D fV fC A o len r s u
/-- len > 0, no char of the range above 255: a Latin-1 String of their low bytes -/
theorem law (l : Launch) (a : Addr) (D : Cell) (fV fC : Field) (b : Addr) (A : Cell) (z : Int32) (o len : Nat) : Law l yN 5 4 2 35 yB 6 none site (P a D fV fC b A z o len) (E a D fV fC A o len) [⟨a, fC.slot⟩, ⟨a, fV.slot⟩] 1 len := by
  refine Law.of_walk (plainFor_of_name (by decide +kernel)) (by decide +kernel) (by decide +kernel) (by decide) (fun _ _ h => by rw [h.1]; rfl) (fun _ U U' hal hh h => ⟨h.1, h.2.1.mv hal hh, h.2.2.1.al hal, h.2.2.2.1.al hal, h.2.2.2.2.1.mv hal hh, h.2.2.2.2.2.1.there hal hh, h.2.2.2.2.2.2⟩) (fun r U U' V V' h1 hal h2 h => Got.mv r U U' V V' h1 hal h2 h) ?_
  intro p e s m args below meth c s₁ X0 hexec hbytes hml hret hlk hnm hown hh0 W hP
  obtain ⟨rfl, hB, f1, f2, hA, s1, hz, l0, l1, l2, hp⟩ := hP
  have a31 := hA.1.2.2.2
  have c1 : Steps p.tables e below (s₁.setTop (entryFrame m #[.ref a, .ref b, .int (Int32.ofNat o), .int (Int32.ofNat len), .null] 6)) (s₁.setTop (mkF m 0 #[.val (.ref a), .val (.ref b), .val (.int (Int32.ofNat o)), .val (.int (Int32.ofNat len)), .val .null, .unset] [])) := entry rfl
  have c2 : Steps p.tables e below (s₁.setTop (entryFrame m #[.ref a, .ref b, .int (Int32.ofNat o), .int (Int32.ofNat len), .null] 6)) (s₁.setTop (mkF m 1 #[.val (.ref a), .val (.ref b), .val (.int (Int32.ofNat o)), .val (.int (Int32.ofNat len)), .val .null, .unset] [.ref a])) := c1.trans (by
    refine XS.aloadN X0.here hexec rfl (hb hbytes d0) rfl rfl ?_
    exact Steps.refl _)
  obtain ⟨T3, X3, q3, st3⟩ := X0.oinit hexec hown (wks W (objW "java/lang/String" 1)) (g := (mkF m 1 #[.val (.ref a), .val (.ref b), .val (.int (Int32.ofNat o)), .val (.int (Int32.ofNat len)), .val .null, .unset] [.ref a])) rfl (by rw [hml]; rfl) (rest := []) rfl (hb hbytes d1) (W := 0) (by show 2 * 0 + 0 ≤ _; decide) (Nat.le_of_ble_eq_true rfl) (Nat.le_of_ble_eq_true rfl)
  have hh3 := q3.trans hh0
  have c4 : Steps p.tables e below (s₁.setTop (entryFrame m #[.ref a, .ref b, .int (Int32.ofNat o), .int (Int32.ofNat len), .null] 6)) (T3.setTop (mkF m 27 #[.val (.ref a), .val (.ref b), .val (.int (Int32.ofNat o)), .val (.int (Int32.ofNat len)), .val .null, .unset] [])) := (c2.trans (st3 _ (Steps.refl _))).trans (by
    refine XS.iloadN X3.here hexec rfl (hb hbytes d4) rfl ?_
    refine XS.ifYes X3.here hexec rfl (pc0 := 5) rfl (hb hbytes d5) rfl (i0_ne_t (nz32 (by omega) l0)) (by decide) rfl ?_
    exact Steps.refl _)
  obtain ⟨T5, X5, q5, st5⟩ := X3.sget hexec hown (wk W (.fieldLink "java/lang/String" 38 "java/lang/String" "COMPACT_STRINGS" "Z")) s1 (fun _ _ h => by rw [hh3]; exact h) (g := (mkF m 27 #[.val (.ref a), .val (.ref b), .val (.int (Int32.ofNat o)), .val (.int (Int32.ofNat len)), .val .null, .unset] [])) rfl (hb hbytes d27)
  have hh5 := q5.trans hh3
  have c6 : Steps p.tables e below (s₁.setTop (entryFrame m #[.ref a, .ref b, .int (Int32.ofNat o), .int (Int32.ofNat len), .null] 6)) (T5.setTop (mkF m 30 #[.val (.ref a), .val (.ref b), .val (.int (Int32.ofNat o)), .val (.int (Int32.ofNat len)), .val .null, .unset] [.int z])) := c4.trans (st5 _ (Steps.refl _))
  have c7 : Steps p.tables e below (s₁.setTop (entryFrame m #[.ref a, .ref b, .int (Int32.ofNat o), .int (Int32.ofNat len), .null] 6)) (T5.setTop (mkF m 36 #[.val (.ref a), .val (.ref b), .val (.int (Int32.ofNat o)), .val (.int (Int32.ofNat len)), .val .null, .unset] [.int (Int32.ofNat len), .int (Int32.ofNat o), .ref b])) := c6.trans (by
    refine XS.ifNo X5.here hexec rfl (hb hbytes d30) rfl (i0_eq_f hz) ?_
    refine XS.aloadN X5.here hexec rfl (hb hbytes d33) rfl rfl ?_
    refine XS.iloadN X5.here hexec rfl (hb hbytes d34) rfl ?_
    refine XS.iloadN X5.here hexec rfl (hb hbytes d35) rfl ?_
    exact Steps.refl _)
  obtain ⟨v8, T8, X8, E8, g8⟩ := X5.callS hexec (Cmp3.law l b A o len) hown (wks W (staticW "java/lang/String" 177 Cmp3.yN)) (wk W Cmp3.tab) (W := 0) (Nat.le_of_ble_eq_true rfl) (Nat.le_of_ble_eq_true rfl) (Nat.le_refl _) (by show 0 + len ≤ len; omega) (g := (mkF m 36 #[.val (.ref a), .val (.ref b), .val (.int (Int32.ofNat o)), .val (.int (Int32.ofNat len)), .val .null, .unset] [.int (Int32.ofNat len), .int (Int32.ofNat o), .ref b])) rfl (by rw [hml]; rfl) c7 (argsL := [.ref b, .int (Int32.ofNat o), .int (Int32.ofNat len)]) (rest := []) rfl rfl (by show 2 * 0 + 0 ≤ _; decide) (hb hbytes d36) (⟨rfl, hA.mv X5.warmed.alike hh5, l1, l2, hp⟩)
  obtain ⟨e8, z8⟩ := E8
  obtain ⟨rfl, N, n1, n2, n3, n4, n5, n6⟩ := NewArr.mv _ T5 s _ _ hh5.symm (Vm.Alike.refl _) rfl e8
  rw [hh5] at z8
  have hB1 := hB.keep X8.warmed.alike (n6 _ _ hB.1)
  have hne : s.heap.size ≠ a := (Nat.ne_of_lt (Array.getElem?_eq_some_iff.mp hB.1).1).symm
  have c9 : Steps p.tables e below (s₁.setTop (entryFrame m #[.ref a, .ref b, .int (Int32.ofNat o), .int (Int32.ofNat len), .null] 6)) (T8.setTop (mkF m 39 #[.val (.ref a), .val (.ref b), .val (.int (Int32.ofNat o)), .val (.int (Int32.ofNat len)), .val .null, .unset] [.ref s.heap.size])) := g8
  have c10 : Steps p.tables e below (s₁.setTop (entryFrame m #[.ref a, .ref b, .int (Int32.ofNat o), .int (Int32.ofNat len), .null] 6)) (T8.setTop (mkF m 45 #[.val (.ref a), .val (.ref b), .val (.int (Int32.ofNat o)), .val (.int (Int32.ofNat len)), .val .null, .val (.ref s.heap.size)] [.int (Int32.ofNat N.slots.size), .ref s.heap.size, .ref a])) := by
    have hc : Steps p.tables e below (s₁.setTop (entryFrame m #[.ref a, .ref b, .int (Int32.ofNat o), .int (Int32.ofNat len), .null] 6)) (T8.setTop (mkF m 45 #[.val (.ref a), .val (.ref b), .val (.int (Int32.ofNat o)), .val (.int (Int32.ofNat len)), .val .null, .val (.ref s.heap.size)] [.int (Int32.ofNat len), .ref s.heap.size, .ref a])) := c9.trans (by
      refine XS.astore X8.here hexec rfl (hb hbytes d39) rfl rfl rfl ?_
      refine XS.aloadN X8.here hexec rfl (hb hbytes d41) rfl rfl ?_
      refine XS.aload X8.here hexec rfl (hb hbytes d42) rfl rfl ?_
      refine XS.iloadN X8.here hexec rfl (hb hbytes d44) rfl ?_
      exact Steps.refl _)
    rw [n4]; exact hc
  obtain ⟨v11, T11, X11, E11, g11⟩ := X8.callS hexec (CodL.law l s.heap.size N) hown (wks W (staticW "java/lang/String" 47 CodL.yN)) (wk W CodL.tab) (W := 1) (Nat.le_of_ble_eq_true rfl) (Nat.le_of_ble_eq_true rfl) (Nat.le_refl _) (by show 0 + len + 0 ≤ len; omega) (g := (mkF m 45 #[.val (.ref a), .val (.ref b), .val (.int (Int32.ofNat o)), .val (.int (Int32.ofNat len)), .val .null, .val (.ref s.heap.size)] [.int (Int32.ofNat N.slots.size), .ref s.heap.size, .ref a])) rfl (by rw [hml]; rfl) c10 (argsL := [.ref s.heap.size, .int (Int32.ofNat N.slots.size)]) (rest := [.ref a]) rfl rfl (by show 2 * 0 + (1 + 0) ≤ _; decide) (hb hbytes d45) (⟨rfl, n1⟩)
  obtain ⟨rfl, q11⟩ := E11
  have hB11 := hB1.mv (X8.warmed.alike.symm.trans X11.warmed.alike) q11
  have c12 : Steps p.tables e below (s₁.setTop (entryFrame m #[.ref a, .ref b, .int (Int32.ofNat o), .int (Int32.ofNat len), .null] 6)) (T11.setTop (mkF m 48 #[.val (.ref a), .val (.ref b), .val (.int (Int32.ofNat o)), .val (.int (Int32.ofNat len)), .val .null, .val (.ref s.heap.size)] [.int 0, .ref a])) := g11
  obtain ⟨T13, X13, p13, bl13, sl13, st13⟩ := X11.finit hexec hown (wk W (.fieldLink "java/lang/String" 15 "java/lang/String" "coder" "B")) (Or.inr ⟨_, (wk W (.laysFinal "java/lang/String" "java/lang/String" "coder" "B"))⟩) (Or.inl ⟨rfl, hnm⟩) f2 (Or.inl rfl) hB11 (t := .byte) (by decide +kernel) rfl (g := (mkF m 48 #[.val (.ref a), .val (.ref b), .val (.int (Int32.ofNat o)), .val (.int (Int32.ofNat len)), .val .null, .val (.ref s.heap.size)] [.int 0, .ref a])) rfl (rest := []) rfl (hb hbytes d48)
  have c14 : Steps p.tables e below (s₁.setTop (entryFrame m #[.ref a, .ref b, .int (Int32.ofNat o), .int (Int32.ofNat len), .null] 6)) (T13.setTop (mkF m 54 #[.val (.ref a), .val (.ref b), .val (.int (Int32.ofNat o)), .val (.int (Int32.ofNat len)), .val .null, .val (.ref s.heap.size)] [.ref s.heap.size, .ref a])) := (c12.trans (st13 _ (Steps.refl _))).trans (by
    refine XS.aloadN X13.here hexec rfl (hb hbytes d51) rfl rfl ?_
    refine XS.aload X13.here hexec rfl (hb hbytes d52) rfl rfl ?_
    exact Steps.refl _)
  obtain ⟨T15, X15, p15, bl15, sl15, st15⟩ := X13.finit hexec hown (wk W (.fieldLink "java/lang/String" 9 "java/lang/String" "value" "[B")) (Or.inr ⟨_, (wk W (.laysFinal "java/lang/String" "java/lang/String" "value" "[B"))⟩) (Or.inl ⟨rfl, hnm⟩) f1 (Or.inl rfl) bl13 (t := (.array .byte)) (by decide +kernel) rfl (g := (mkF m 54 #[.val (.ref a), .val (.ref b), .val (.int (Int32.ofNat o)), .val (.int (Int32.ofNat len)), .val .null, .val (.ref s.heap.size)] [.ref s.heap.size, .ref a])) rfl (rest := []) rfl (hb hbytes d54)
  have c16 : Steps p.tables e below (s₁.setTop (entryFrame m #[.ref a, .ref b, .int (Int32.ofNat o), .int (Int32.ofNat len), .null] 6)) (T15.setTop (mkF m 57 #[.val (.ref a), .val (.ref b), .val (.int (Int32.ofNat o)), .val (.int (Int32.ofNat len)), .val .null, .val (.ref s.heap.size)] [])) := c14.trans (st15 _ (Steps.refl _))
  have ap := apart (Or.inr ⟨_, (wk W (.laysFinal "java/lang/String" "java/lang/String" "value" "[B"))⟩) (Or.inr ⟨_, (wk W (.laysFinal "java/lang/String" "java/lang/String" "coder" "B"))⟩) f1 f2 (t₁ := .array .byte) (t₂ := .byte) (by decide +kernel) (by decide +kernel) (by decide)
  have al := X8.warmed.alike.symm.trans X15.warmed.alike
  have n7 : T11.heap[s.heap.size]? = some N := by rw [q11]; exact n1.1
  exact ⟨T15, none, _, _, _, X15, by simp, rfl, by omega, (fun _ => rfl), ⟨rfl, _, N, bl15, ((Same.refl D _).set _ (by simp)).set _ (by simp), sl15, (Cell.slots_setSlot_ne _ ap).trans sl13, n1.keep al (p15.other hne (p13.other hne n7)), n2, by rw [al.findClass]; exact n3, n4, n5, fun y c h1 h2 => p15.other h1 (p13.other h1 (by rw [q11]; exact n6 y c h2)), by rw [p15.2.2, p13.2.2, q11]; exact z8⟩, fun fs hl => c16.trans (X15.returnOut hexec hret (hb hbytes d57) hl)⟩
end New4
namespace New1
def yN : MethodName := ⟨"java/lang/String", "<init>", "([C)V"⟩
abbrev yB : ByteArray := jdk_42_method_3_code
theorem d0 : decode yB 0 = .ok (.aload_n 0, 1) := by decide +kernel
theorem d1 : decode yB 1 = .ok (.aload_n 1, 1) := by decide +kernel
theorem d2 : decode yB 2 = .ok (.iconst 0, 1) := by decide +kernel
theorem d3 : decode yB 3 = .ok (.aload_n 1, 1) := by decide +kernel
theorem d4 : decode yB 4 = .ok (.arraylength, 1) := by decide +kernel
theorem d5 : decode yB 5 = .ok (.aconst_null, 1) := by decide +kernel
theorem d6 : decode yB 6 = .ok (.invokespecial 27, 3) := by decide +kernel
theorem d9 : decode yB 9 = .ok (.return_, 1) := by decide +kernel
def site : List Cond := [New4.tab] ++ initW "java/lang/String" 27 New4.yN
def tab : Cond := tabOf yN yB 2 none site
def P (a : Addr) (D : Cell) (fV fC : Field) (b : Addr) (A : Cell) (z : Int32) (args : Array Value) (s : State) : Prop := args = #[.ref a, .ref b] ∧ Blank "java/lang/String" a D s ∧ Found "java/lang/String" "value" "[B" fV s ∧ Found "java/lang/String" "coder" "B" fC s ∧ Ch b A s ∧ StaticIs s "java/lang/String" "COMPACT_STRINGS" "Z" (.int z) ∧ ¬ z = 0 ∧ 0 < A.slots.size ∧ A.slots.size ≤ 536870912 ∧ ∀ i, i < A.slots.size → ¬ 255 < cv A i
def E (a : Addr) (D : Cell) (fV fC : Field) (A : Cell) (r : Option Value) (s u : State) : Prop := Got a D fV fC A 0 A.slots.size r s u
/-- new String(chars), not empty, no char above 255: a Latin-1 String of their low bytes -/
theorem law (l : Launch) (a : Addr) (D : Cell) (fV fC : Field) (b : Addr) (A : Cell) (z : Int32) : Law l yN 2 1 3 52 yB 2 none site (P a D fV fC b A z) (E a D fV fC A) [⟨a, fC.slot⟩, ⟨a, fV.slot⟩] 1 A.slots.size := by
  refine Law.of_walk (plainFor_of_name (by decide +kernel)) (by decide +kernel) (by decide +kernel) (by decide) (fun _ _ h => by rw [h.1]; rfl) (fun _ U U' hal hh h => ⟨h.1, h.2.1.mv hal hh, h.2.2.1.al hal, h.2.2.2.1.al hal, h.2.2.2.2.1.mv hal hh, h.2.2.2.2.2.1.there hal hh, h.2.2.2.2.2.2⟩) (fun r U U' V V' h1 hal h2 h => Got.mv r U U' V V' h1 hal h2 h) ?_
  intro p e s m args below meth c s₁ X0 hexec hbytes hml hret hlk hnm hown hh0 W hP
  obtain ⟨rfl, hB, f1, f2, hA, s1, hz, l0, l2, hp⟩ := hP
  have c1 : Steps p.tables e below (s₁.setTop (entryFrame m #[.ref a, .ref b] 2)) (s₁.setTop (mkF m 0 #[.val (.ref a), .val (.ref b)] [])) := entry rfl
  have c2 : Steps p.tables e below (s₁.setTop (entryFrame m #[.ref a, .ref b] 2)) (s₁.setTop (mkF m 6 #[.val (.ref a), .val (.ref b)] [.null, .int (Int32.ofNat A.slots.size), .int 0, .ref b, .ref a])) := c1.trans (by
    refine XS.aloadN X0.here hexec rfl (hb hbytes d0) rfl rfl ?_
    refine XS.aloadN X0.here hexec rfl (hb hbytes d1) rfl rfl ?_
    refine iconstV X0.here hexec rfl 0 (hb hbytes d2) (by decide) ?_
    refine XS.aloadN X0.here hexec rfl (hb hbytes d3) rfl rfl ?_
    refine X0.alen hexec (hA.1.mv X0.warmed.alike hh0) rfl rfl (hb hbytes d4) ?_
    refine XS.aconstNull X0.here hexec rfl (hb hbytes d5) ?_
    exact Steps.refl _)
  obtain ⟨v3, T3, X3, E3, g3⟩ := X0.callN hexec (New4.law l a D fV fC b A z 0 A.slots.size) rfl hown (wks W (initW "java/lang/String" 27 New4.yN)) (W New4.tab (by simp only [site, List.mem_cons, List.mem_append, true_or, or_true])) (W := 0) (Nat.le_of_ble_eq_true rfl) (Nat.le_of_ble_eq_true rfl) (Nat.le_refl _) (by show 0 + A.slots.size ≤ A.slots.size; omega) (g := (mkF m 6 #[.val (.ref a), .val (.ref b)] [.null, .int (Int32.ofNat A.slots.size), .int (Int32.ofNat 0), .ref b, .ref a])) rfl (by rw [hml]; rfl) c2 (argsL := [.ref b, .int (Int32.ofNat 0), .int (Int32.ofNat A.slots.size), .null]) (rest := []) rfl rfl (by show 2 * 0 + 0 ≤ _; decide) (hb hbytes d6) (⟨rfl, hB.mv X0.warmed.alike hh0, f1.al X0.warmed.alike, f2.al X0.warmed.alike, hA.mv X0.warmed.alike hh0, s1.there X0.warmed.alike hh0, hz, l0, by omega, l2, fun i hi => by rw [Nat.zero_add]; exact hp i hi⟩)
  have e0 := Got.mv _ s₁ s _ _ hh0.symm (Vm.Alike.refl _) rfl E3
  obtain rfl := e0.1
  have c4 : Steps p.tables e below (s₁.setTop (entryFrame m #[.ref a, .ref b] 2)) (T3.setTop (mkF m 9 #[.val (.ref a), .val (.ref b)] [])) := g3
  exact ⟨T3, none, _, _, _, X3, by simp, rfl, by omega, (fun _ => rfl), e0, fun fs hl => c4.trans (X3.returnOut hexec hret (hb hbytes d9) hl)⟩
theorem pays {l : Launch} {R : Room} {p : Program} {e : Env} {below : List Frame} {s : State} {sargs : Array Value} {len W : Nat} (a : Addr) (D : Cell) (fV fC : Field) (b : Addr) (A : Cell) (z : Int32) (htab : tab.before sargs s = true) (hfr : 4 ≤ R.frames) (hlo : W + 65 ≤ R.locals) :
    Back l R p e below s sargs yN len W (fun A₁ a₁ => A₁.cells + 1 ≤ R.cells ∧ A₁.slots + A.slots.size ≤ R.slots ∧ P a D fV fC b A z a₁ A₁.U) (fun A₁ _ v₁ B₁ => E a D fV fC A v₁ A₁.U B₁.U ∧ B₁.locs = A₁.locs ++ [⟨a, fC.slot⟩, ⟨a, fV.slot⟩] ∧ B₁.cells = A₁.cells + 1 ∧ B₁.slots = A₁.slots + A.slots.size) :=
  (law l a D fV fC b A z).pays htab hfr (by omega)
end New1
/-- the byte, read back as charAt reads it, is the char -/
theorem lo8_mask {x : Int32} (h0 : ¬ x < 0) (h1 : ¬ 255 < x) : lo8 x &&& 255 = x := by
  have t : ∀ k : Fin 256, lo8 (Int32.ofNat k.val) &&& 255 = Int32.ofNat k.val := by decide +kernel
  rw [Int32.lt_iff_toInt_lt] at h0 h1
  have e0 : (0 : Int32).toInt = 0 := rfl
  have e1 : (255 : Int32).toInt = 255 := rfl
  obtain ⟨k, hk⟩ : ∃ k : Nat, x.toInt = k := ⟨x.toInt.toNat, by omega⟩
  have hx : x = Int32.ofNat k := Int32.toInt_inj.mp (by rw [hk, Int32.toInt_ofNat_small (by omega)])
  rw [hx]
  exact t ⟨k, by omega⟩
end StrChars
namespace StrChars.Road
open Jvm Sem ClassFile Op Lib Jvm.Stand Jvm.Free Jvm.Free.XT
open Jvm.Lib.Cold (StaticIs)
abbrev ST : String := "java/lang/String"
/-- every table word that New1's law asks, flat -/
abbrev words : List Jvm.Cond := [.code New1.yN New1.yB 2 none, .initialized ST, .methodLink ST 27 New4.yN, .instanceMethod New4.yN,
  .code New4.yN New4.yB 6 none, .fieldLink ST 38 ST "COMPACT_STRINGS" "Z", .laysFinal ST ST "value" "[B", .fieldLink ST 9 ST "value" "[B", .laysFinal ST ST "coder" "B", .fieldLink ST 15 ST "coder" "B",
  .methodLink ST 1 Lib.objectInit, .instanceMethod Lib.objectInit, .code Lib.objectInit ⟨#[0xb1]⟩ 1 none, .methodLink ST 177 Cmp3.yN, .static Cmp3.yN, .methodLink ST 47 CodL.yN, .static CodL.yN,
  .code Cmp3.yN Cmp3.yB 6 (some (.array .byte)), .initialized U16, .arrayClass .byte, .methodLink U16 115 Cmp5.yN, .static Cmp5.yN, .code Cmp5.yN Cmp5.yB 7 (some .int), .code CodL.yN CodL.yB 2 (some .byte)]
theorem tab_of {a : Array Value} {s : State} (h : ∀ w ∈ words, w.before a s = true) : New1.tab.before a s = true := by
  have h5 : Cmp5.tab.before a s = true := unparts (wk h (.code Cmp5.yN Cmp5.yB 7 (some .int))) (wks h (.initialized Cmp5.yN.cls :: Cmp5.site))
  have hc : CodL.tab.before a s = true := unparts (wk h (.code CodL.yN CodL.yB 2 (some .byte))) (wks h (.initialized CodL.yN.cls :: CodL.site))
  have q5 : ∀ w ∈ Cmp5.tab :: words, w.before a s = true := fun w hw => (List.mem_cons.mp hw).elim (fun e => e ▸ h5) (h w)
  have h3 : Cmp3.tab.before a s = true := unparts (wk q5 (.code Cmp3.yN Cmp3.yB 6 (some (.array .byte)))) (wks q5 (.initialized Cmp3.yN.cls :: Cmp3.site))
  have q3 : ∀ w ∈ Cmp3.tab :: CodL.tab :: words, w.before a s = true := fun w hw => (List.mem_cons.mp hw).elim (fun e => e ▸ h3) fun hw => (List.mem_cons.mp hw).elim (fun e => e ▸ hc) (h w)
  have h4 : New4.tab.before a s = true := unparts (wk q3 (.code New4.yN New4.yB 6 none)) (wks q3 (.initialized New4.yN.cls :: New4.site))
  have q4 : ∀ w ∈ New4.tab :: words, w.before a s = true := fun w hw => (List.mem_cons.mp hw).elim (fun e => e ▸ h4) (h w)
  exact unparts (wk q4 (.code New1.yN New1.yB 2 none)) (wks q4 (.initialized New1.yN.cls :: New1.site))
/-- the words ride from the start Z to the walk's own state -/
theorem moved {Z s : State} {a0 args : Array Value} (hZ : Z.Warmed39 s.vm) (hw : ∀ d ∈ words, d.before a0 Z = true) : ∀ d ∈ words, d.before args s = true := fun d hd => by
  have q := hw d hd
  have t : ∀ d ∈ words, d = .arrayClass .byte ∨ (d.onTables && d.keepsFace) = true := by decide +kernel
  rcases t d hd with rfl | t
  · exact RoadKit.mvA hZ q
  · exact RoadKit.mv hZ q t
/-- WHAT COMES BACK, over the tables of the start Z: h the heap at the call, h' behind it -/
def Q (Z : State) (x : Addr) (A : Cell) (h : Heap) (v : Option Value) (h' : Heap) (L : List Loc) : Prop := v = none ∧ (∀ y ∈ L, y.base = x) ∧ RoadKit.Keep h h' [x] ∧ h'.size = h.size + 1 ∧ RoadKit.Exa Z h' x ST ∧ RoadKit.Fld Z h' x ST "value" "[B" (.ref h.size) ∧ RoadKit.Fld Z h' x ST "coder" "B" (.int 0) ∧
  (∃ V : Cell, RoadKit.Arr Z h' h.size V .byte ∧ V.vm = .none ∧ Z.vm.findClass "[B" = some V.cls ∧ V.slots.size = A.slots.size ∧ ∀ j, j < A.slots.size → V.slots[j]? = some (.int (lo8 (cv A j)))) ∧
  ∀ (O n d : String) (w : Value), RoadKit.Fld Z h x O n d w → RoadKit.slotOf Z O n d ≠ RoadKit.slotOf Z ST "value" "[B" → RoadKit.slotOf Z O n d ≠ RoadKit.slotOf Z ST "coder" "B" → RoadKit.Fld Z h' x O n d w
/-- **new String(chars) AT A CALL, IN THE ROAD'S FORM**: for specialBack behind newO: x the fresh String, b the char[] with the cell A -/
theorem back {p : Program} {l : Launch} {e : Env} {R : Room} {s : State} {args : Array Value} {below : List Frame} {len W : Nat} {Z : State} {a0 : Array Value} {h : Heap} (hZ : Z.Warmed39 s.vm) (hw : ∀ d ∈ words, d.before a0 Z = true) {kI : Nat} (wi : (Jvm.Cond.instantiable ST kI).before a0 Z = true)
    {x b : Addr} {A : Cell} {z : Int32} {v0 c0 : Value} (E : RoadKit.Exa Z h x ST) (V : RoadKit.Fld Z h x ST "value" "[B" v0) (C : RoadKit.Fld Z h x ST "coder" "B" c0) (K : RoadKit.Arr Z h b A .char) (hty : Typed .char A) (S : RoadKit.Sta Z h ST "COMPACT_STRINGS" "Z" (.int z)) (hz : ¬ z = 0)
    (l0 : 0 < A.slots.size) (l2 : A.slots.size ≤ 536870912) (hp : ∀ i, i < A.slots.size → ¬ 255 < cv A i) (hfr : 4 ≤ R.frames) (hlo : W + 65 ≤ R.locals) :
    Back l R p e below s args New1.yN len W (fun P a => a = #[.ref x, .ref b] ∧ P.U.heap = h ∧ P.cells + 1 ≤ R.cells ∧ P.slots + A.slots.size ≤ R.slots)
      (fun P _ v B => ∃ L, Q Z x A h v B.U.heap L ∧ B.locs = P.locs ++ L ∧ B.cells = P.cells + 1 ∧ B.slots = P.slots + A.slots.size) := by
  intro m meth c P g ig mk a X hg hsize hdg hW hn hp'
  obtain ⟨rfl, rfl, r1, r2⟩ := hp'
  have al : Z.vm.Alike P.U.vm := hZ.alike.trans X.warmed.alike
  obtain ⟨D, cfV, kV, iV, fV, hD, gV, stV, knV, obV, asV, slV⟩ := id V
  obtain ⟨D', cfC, kC, iC, fC, hD', gC, stC, -, -, asC, slC⟩ := id C
  cases hD.symm.trans hD'
  obtain ⟨D2, kD, e1, e2, e3, e4, e5⟩ := id E
  cases hD.symm.trans e1
  obtain ⟨c2, k2, i1, i2, i3, -⟩ := Cond.instantiable_spec wi
  cases e2.symm.trans i1
  cases e3.symm.trans i2
  obtain ⟨kU, u1, u2⟩ := al.2.2 _ _ e3
  have hB : Blank ST x D P.U := ⟨hD, ⟨knV, fun q hq => by rw [hq] at obV; cases obV⟩, by rw [al.findClass]; exact e2, kU, u1, by rw [u2]; exact i3, by rw [u2]; exact e5 i3⟩
  have F1 : Found ST "value" "[B" fV P.U := ⟨SBG.found_only al ⟨cfV, kV, iV, gV⟩, stV⟩
  have F2 : Found ST "coder" "B" fC P.U := ⟨SBG.found_only al ⟨cfC, kC, iC, gC⟩, stC⟩
  have hA : Ch b A P.U := ⟨⟨K.1, State.isArrayOf_alike al K.2.1, K.2.2, by omega⟩, hty⟩
  have hS : StaticIs P.U ST "COMPACT_STRINGS" "Z" (.int z) := by
    obtain ⟨cfS, iS, kS, fS, st, cS, t1, t2, t3, t4, t5, t6, t7⟩ := S
    exact StaticIs.there (s := { Z with heap := P.U.heap }) ⟨cfS, iS, kS, fS, st, cS, t1, t2, t3, t4, t5, (fun q => by rw [q] at t6; cases t6), t7⟩ al rfl
  obtain ⟨v, B, X', ⟨⟨hv, E', V', q1, q2, q3, q4, q5, q6, q7, q8, q9, q10, q11⟩, hl, hc, hs⟩, st⟩ := New1.pays x D fV fC b A z (tab_of (moved hZ hw)) hfr hlo m meth c P g ig mk _ X hg hsize hdg hW hn ⟨r1, r2, rfl, hB, F1, F2, hA, hS, hz, l0, l2, hp⟩
  have al' : Z.vm.Alike B.U.vm := hZ.alike.trans X'.warmed.alike
  have hsz : E'.slots.size = D.slots.size := by
    obtain ⟨-, -, -, kB, w1, w2, w3⟩ := q1
    obtain ⟨kB', y1, y2⟩ := al'.2.2 _ _ e3
    rw [q2.2.1] at w1
    cases w1.symm.trans y1
    rw [w3, e5 i3, y2]
  refine ⟨v, B, X', ⟨_, ⟨hv, ?_, ⟨by omega, fun y cy hy hn' => q10 y cy (by simpa using hn') hy, fun y cy hy => ?_⟩, q11, ⟨E', _, q1.1, by rw [q2.2.1]; exact e2, by rw [q2.2.1]; exact e3, by rw [q2.1]; exact obV, fun _ => by rw [hsz]; exact e5 i3⟩,
    ⟨E', cfV, kV, iV, fV, q1.1, gV, stV, by rw [q2.1]; exact knV, by rw [q2.1]; exact obV, by rw [q2.2.1]; exact asV, q3⟩, ⟨E', cfC, kC, iC, fC, q1.1, gC, stC, by rw [q2.1]; exact knV, by rw [q2.1]; exact obV, by rw [q2.2.1]; exact asC, q4⟩,
    ⟨V', ⟨q5.1, State.isArrayOf_alike al'.symm q5.2.1, q5.2.2.1⟩, q6, by rw [← al'.findClass]; exact q7, q8, fun j hj => by have := q9 j hj; rwa [Nat.zero_add] at this⟩, fun O n d w F n1 n2 => ?_⟩, hl, hc, hs⟩, st⟩
  · intro y hy
    simp only [List.mem_cons, List.not_mem_nil, or_false] at hy
    rcases hy with rfl | rfl <;> rfl
  · by_cases q : y = x
    · subst q
      cases hD.symm.trans hy
      exact ⟨E', q1.1, q2.2.1, q2.1, hsz⟩
    · exact ⟨cy, q10 y cy q hy, rfl, rfl, rfl⟩
  · obtain ⟨D3, cf, k, i, f, g1, g2, g3, g4, g5, g6, g7⟩ := F
    cases hD.symm.trans g1
    simp only [RoadKit.slotOf, g2, gV, gC, Option.map_some, Option.getD_some] at n1 n2
    exact ⟨E', cf, k, i, f, q1.1, g2, g3, by rw [q2.1]; exact g4, by rw [q2.1]; exact g5, by rw [q2.2.1]; exact g6, by rw [q2.2.2 f.slot (by simp [n1, n2])]; exact g7⟩
end StrChars.Road
namespace StrChars.Road
open Jvm Sem ClassFile Op Lib Jvm.Stand Jvm.Free Jvm.Free.XT
/-- WHAT COMES BACK, the byte[] as a list of values -/
def QA (Z : State) (x : Addr) (zn : Int32) (cs : List Int32) (h : Heap) (v : Option Value) (h' : Heap) (L : List Loc) : Prop := v = none ∧ (∀ y ∈ L, y.base = x) ∧ RoadKit.Keep h h' [x] ∧ h'.size = h.size + 1 ∧ RoadKit.Exa Z h' x ST ∧ RoadKit.Fld Z h' x ST "value" "[B" (.ref h.size) ∧ RoadKit.Fld Z h' x ST "coder" "B" (.int 0) ∧
  (∃ kb, Z.vm.findClass "[B" = some kb ∧ RoadKit.Arv Z h' h.size kb .byte zn (cs.map fun c => .int (lo8 c)) (.int 0)) ∧
  ∀ (O n d : String) (w : Value), RoadKit.Fld Z h x O n d w → RoadKit.slotOf Z O n d ≠ RoadKit.slotOf Z ST "value" "[B" → RoadKit.slotOf Z O n d ≠ RoadKit.slotOf Z ST "coder" "B" → RoadKit.Fld Z h' x O n d w
/-- **new String(chars) AT A CALL, THE ARRAYS AS LISTS**: the char[] at b holds cs, not empty, no char above 255 -/
theorem backArv {p : Program} {l : Launch} {e : Env} {R : Room} {s : State} {args : Array Value} {below : List Frame} {len W : Nat} {Z : State} {a0 : Array Value} {h : Heap} (hZ : Z.Warmed39 s.vm) (hw : ∀ d ∈ words, d.before a0 Z = true) {kI : Nat} (wi : (Jvm.Cond.instantiable ST kI).before a0 Z = true)
    {x b : Addr} {k : ClassId} {zn z : Int32} {cs : List Int32} {dv v0 c0 : Value} (E : RoadKit.Exa Z h x ST) (V : RoadKit.Fld Z h x ST "value" "[B" v0) (C : RoadKit.Fld Z h x ST "coder" "B" c0) (K : RoadKit.Arv Z h b k .char zn (cs.map Value.int) dv) (S : RoadKit.Sta Z h ST "COMPACT_STRINGS" "Z" (.int z)) (hz : ¬ z = 0)
    (hlen : zn.toNatClampNeg = cs.length) (h0 : 0 < cs.length) (hbig : cs.length ≤ 536870912) (hall : ∀ c ∈ cs, ¬ 255 < c) (hfr : 4 ≤ R.frames) (hlo : W + 65 ≤ R.locals) :
    Back l R p e below s args New1.yN len W (fun P a => a = #[.ref x, .ref b] ∧ P.U.heap = h ∧ P.cells + 1 ≤ R.cells ∧ P.slots + cs.length ≤ R.slots)
      (fun P _ v B => ∃ L, QA Z x zn cs h v B.U.heap L ∧ B.locs = P.locs ++ L ∧ B.cells = P.cells + 1 ∧ B.slots = P.slots + cs.length) := by
  obtain ⟨A, K1, K2, K3, K4, K5, K6⟩ := K
  have e : A.slots.size = cs.length := K3.trans hlen
  have hat : ∀ (i : Nat) (hi : i < cs.length), A.slots[i]? = some (.int cs[i]) := fun i hi => by rw [K5 i (by omega)]; simp [List.getD_eq_getElem?_getD, hi]
  have hcv : ∀ (i : Nat) (hi : i < cs.length), cv A i = cs[i] := fun i hi => by unfold cv; rw [hat i hi]
  have hty : Typed .char A := fun i v hv => by
    have hi : i < A.slots.size := (Array.getElem?_eq_some_iff.mp hv).1
    have q := K5 i hi
    rw [hv] at q
    rw [Option.some.inj q]
    exact K6 i hi
  refine Back.mono (back hZ hw wi E V C K1 hty S hz (by omega) (by omega) (fun i hi => by rw [hcv i (by omega)]; exact hall _ (List.getElem_mem _)) hfr hlo) (fun P a hp => ⟨hp.1, hp.2.1, hp.2.2.1, by rw [e]; exact hp.2.2.2⟩) (fun P a v B hp hq => ?_)
  obtain ⟨L, ⟨q1, q2, q3, q4, q5, q6, q7, ⟨V', v1, v2, v3, v4, v5⟩, q9⟩, hl, hc, hs⟩ := hq
  refine ⟨L, ⟨q1, q2, q3, q4, q5, q6, q7, ⟨V'.cls, v3, V', v1, rfl, by rw [v4, e, hlen], K4, fun i hi => ?_, fun i hi => ?_⟩, q9⟩, hl, hc, by rw [hs, e]⟩
  · have hi' : i < cs.length := by omega
    rw [v5 i (by omega), hcv i hi']; simp [List.getD_eq_getElem?_getD, hi']
  · have hi' : i < cs.length := by omega
    simp only [List.getD_eq_getElem?_getD, List.getElem?_map, List.getElem?_eq_getElem hi', Option.map_some, Option.getD_some]
    exact fits_lo8 _
end StrChars.Road
namespace StrChars.Road
open Jvm Sem ClassFile Op Lib Jvm.Stand Jvm.Free Jvm.Free.XT
/-- WHAT COMES BACK, in the writer's own shape -/
def QV (Z : State) (x : Addr) (N : Int32) (bs : List Int32) (h : Heap) (n0 : Nat) (v : Option Value) (h' : Heap) (L : List Loc) : Prop := v = none ∧ RoadKit.Fr n0 L ∧ RoadKit.Keep h h' [x] ∧ RoadKit.Exa Z h' x ST ∧ RoadKit.Fld Z h' x ST "coder" "B" (.int 0) ∧
  ∃ (t : Addr) (kb : ClassId), n0 ≤ t ∧ h.size ≤ t ∧ ¬ t = x ∧ RoadKit.Fld Z h' x ST "value" "[B" (.ref t) ∧ RoadKit.Arv Z h' t kb .byte N (bs.map Value.int) (.int 0)
/-- **new String(chars) AT A CALL, FOR THE WRITER**: a char[] of n known ints, each 0 to 255 -/
theorem backV {p : Program} {l : Launch} {e : Env} {R : Room} {s : State} {args : Array Value} {below : List Frame} {len W : Nat} {Z : State} {a0 : Array Value} {h : Heap} (hZ : Z.Warmed39 s.vm) (hw : ∀ d ∈ words, d.before a0 Z = true) {kI : Nat} (wi : (Jvm.Cond.instantiable ST kI).before a0 Z = true)
    {x b : Addr} {kC : ClassId} {cs bs : List Int32} {d v0 c0 : Value} {z N : Int32} {n n0 : Nat} (hx0 : n0 ≤ x) (hh0 : n0 ≤ h.size) (E : RoadKit.Exa Z h x ST) (V : RoadKit.Fld Z h x ST "value" "[B" v0) (C : RoadKit.Fld Z h x ST "coder" "B" c0) (K : RoadKit.Arv Z h b kC .char N (cs.map Value.int) d) (S : RoadKit.Sta Z h ST "COMPACT_STRINGS" "Z" (.int z)) (hz : ¬ z = 0)
    (hn : cs.length = n) (hN : N = Int32.ofNat n) (l0 : 0 < n) (l2 : n ≤ 4000) (hp : ∀ c ∈ cs, ¬ c < 0 ∧ ¬ (255 : Int32) < c) (hb : bs = cs.map (fun c => c.toInt8.toInt32)) (hfr : 4 ≤ R.frames) (hlo : W + 65 ≤ R.locals) :
    Back l R p e below s args (⟨"java/lang/String", "<init>", "([C)V"⟩ : MethodName) len W (fun P a => a = #[.ref x, .ref b] ∧ P.U.heap = h ∧ P.cells + 1 ≤ R.cells ∧ P.slots + n ≤ R.slots)
      (fun P _ v B => ∃ L, QV Z x N bs h n0 v B.U.heap L ∧ B.locs = P.locs ++ L ∧ B.cells = P.cells + 1 ∧ B.slots = P.slots + n) := by
  subst hn hN hb
  refine Back.mono (backArv hZ hw wi E V C K S hz (n32 (by omega)) l0 (by omega) (fun c hc => (hp c hc).2) hfr hlo) (fun P a hp => hp) (fun P a v B hp hq => ?_)
  obtain ⟨L, ⟨q1, q2, q3, q4, q5, q6, q7, ⟨kb, v1, v2⟩, q9⟩, hl, hc, hs⟩ := hq
  exact ⟨L, ⟨q1, fun y hy => by rw [q2 y hy]; exact hx0, q3, q5, q7, h.size, kb, hh0, Nat.le_refl _, Nat.ne_of_gt E.lt, q6, by rw [List.map_map]; exact v2⟩, hl, hc, hs⟩
end StrChars.Road
namespace StrChars
open Jvm Sem ClassFile Op Lib Jvm.Stand Jvm.Free.XT Jvm.Free.ALB Jvm.Free.JM Jvm.Free
open Jvm.Lib.Cold (StaticIs)
def hi8 (x : Int32) : Int32 := lo8 (x >>> ((8 : Int32) &&& 31))
/-- what StringUTF16.getChar makes of two bytes -/
def pairCh (u v : Int32) : Int32 := (((u &&& 255) <<< ((0 : Int32) &&& 31)) ||| ((v &&& 255) <<< ((8 : Int32) &&& 31))).toUInt32.toUInt16.toUInt32.toInt32
theorem shr0 (c : Int32) : c >>> ((0 : Int32) &&& 31) = c := by
  have e : ((0 : Int32) &&& 31) = 0 := by decide
  rw [e]
  apply Int32.toBitVec_inj.mp
  rw [Int32.toBitVec_shiftRight]
  have e1 : ((0 : Int32).toBitVec.smod 32) = 0#32 := by decide
  rw [e1, BitVec.sshiftRight_eq']
  exact BitVec.sshiftRight_zero
theorem lo8_and (x : Int32) : (lo8 x &&& 255).toBitVec.toNat = x.toBitVec.toNat % 256 := by
  have h : (lo8 x).toBitVec = (x.toBitVec.signExtend 8).signExtend 32 := by rw [lo8, Int8.toBitVec_toInt32, Int32.toBitVec_toInt8]
  rw [Int32.toBitVec_and, BitVec.toNat_and, h]
  have e : ((x.toBitVec.signExtend 8).signExtend 32).toNat % 256 = x.toBitVec.toNat % 256 := by
    rw [BitVec.toNat_signExtend]
    have hlt := x.toBitVec.isLt
    simp only [BitVec.toNat_setWidth, BitVec.toNat_signExtend]
    split <;> split <;> omega
  rw [← e]
  exact Nat.and_two_pow_sub_one_eq_mod _ 8
theorem pair_says {c : Int32} (h0 : ¬ c < 0) (h1 : ¬ 65535 < c) : pairCh (lo8 c) (hi8 c) = c := by
  rw [Int32.lt_iff_toInt_lt] at h0 h1
  have e0 : (0 : Int32).toInt = 0 := rfl
  have e1 : (65535 : Int32).toInt = 65535 := rfl
  have hc : c.toInt = c.toBitVec.toNat := by
    have := c.toBitVec.isLt
    have e : c.toInt = c.toBitVec.toInt := rfl
    rw [e] at h0 h1
    rw [e]
    rw [BitVec.toInt_eq_toNat_cond] at h0 h1 ⊢
    split at h0 <;> split <;> omega
  have hn : c.toBitVec.toNat < 65536 := by omega
  have a1 := lo8_and c
  have a2 : (hi8 c &&& 255).toBitVec.toNat = c.toBitVec.toNat / 256 := by
    rw [hi8, lo8_and]
    have e : ((8 : Int32) &&& 31) = 8 := by decide
    rw [e, Int32.toBitVec_shiftRight]
    have e2 : ((8 : Int32).toBitVec.smod 32) = 8#32 := by decide
    rw [e2, BitVec.sshiftRight_eq', BitVec.toNat_sshiftRight_of_msb_false (by rw [BitVec.msb_eq_false_iff_two_mul_lt]; omega)]
    show c.toBitVec.toNat >>> 8 % 256 = _
    rw [Nat.shiftRight_eq_div_pow]
    omega
  unfold pairCh
  apply Int32.toBitVec_inj.mp
  apply BitVec.eq_of_toNat_eq
  have f0 : ((0 : Int32) &&& 31) = 0 := by decide
  have f8 : ((8 : Int32) &&& 31) = 8 := by decide
  rw [f0, f8]
  have g : (((lo8 c &&& 255) <<< (0 : Int32)) ||| ((hi8 c &&& 255) <<< (8 : Int32))).toBitVec.toNat = c.toBitVec.toNat := by
    rw [Int32.toBitVec_or, Int32.toBitVec_shiftLeft, Int32.toBitVec_shiftLeft]
    have s0 : ((0 : Int32).toBitVec.smod 32) = 0#32 := by decide
    have s8 : ((8 : Int32).toBitVec.smod 32) = 8#32 := by decide
    rw [s0, s8, BitVec.toNat_or]
    simp only [BitVec.shiftLeft_eq', BitVec.toNat_shiftLeft, a1, a2]
    show (c.toBitVec.toNat % 256) <<< 0 % 2 ^ 32 ||| (c.toBitVec.toNat / 256) <<< 8 % 2 ^ 32 = _
    rw [Nat.shiftLeft_zero, Nat.mod_eq_of_lt (show c.toBitVec.toNat % 256 < 2 ^ 32 by omega), Nat.mod_eq_of_lt (show (c.toBitVec.toNat / 256) <<< 8 < 2 ^ 32 by rw [Nat.shiftLeft_eq]; omega), Nat.or_comm, ← Nat.shiftLeft_add_eq_or_of_lt (by omega), Nat.shiftLeft_eq]
    omega
  show BitVec.toNat (((((lo8 c &&& 255) <<< (0 : Int32)) ||| ((hi8 c &&& 255) <<< (8 : Int32))).toBitVec.setWidth 16).setWidth 32) = _
  rw [BitVec.toNat_setWidth, BitVec.toNat_setWidth, g]
  omega
end StrChars
namespace StrChars
open Jvm Sem ClassFile Op Lib Jvm.Stand Jvm.Free.XT Jvm.Free.ALB Jvm.Free.JM Jvm.Free
open Jvm.Lib.Cold (StaticIs)
theorem shr1 {n : Nat} (h : 2 * n < 2 ^ 31) : Int32.ofNat (2 * n) >>> ((1 : Int32) &&& 31) = Int32.ofNat n := by
  have e : ((1 : Int32) &&& 31) = 1 := by decide
  rw [e]
  apply Int32.toBitVec_inj.mp
  rw [Int32.toBitVec_shiftRight]
  have e1 : ((1 : Int32).toBitVec.smod 32) = 1#32 := by decide
  have hm : (BitVec.ofNat 32 (2 * n)).toNat = 2 * n := by rw [BitVec.toNat_ofNat, Nat.mod_eq_of_lt (by omega)]
  rw [e1, BitVec.sshiftRight_eq']
  apply BitVec.eq_of_toNat_eq
  show ((BitVec.ofNat 32 (2 * n)).sshiftRight 1).toNat = (BitVec.ofNat 32 n).toNat
  rw [BitVec.toNat_sshiftRight_of_msb_false (by rw [BitVec.msb_eq_false_iff_two_mul_lt, hm]; omega), hm, BitVec.toNat_ofNat, Nat.shiftRight_eq_div_pow]
  omega
/-- charAt's cast of a byte read back -/
def chr8 (u : Int32) : Int32 := (u &&& 255).toUInt32.toUInt16.toUInt32.toInt32
theorem chr8_lo8 {c : Int32} (h0 : ¬ c < 0) (h1 : ¬ 255 < c) : chr8 (lo8 c) = c := by
  have t : ∀ k : Fin 256, (Int32.ofNat k.val).toUInt32.toUInt16.toUInt32.toInt32 = Int32.ofNat k.val := by decide +kernel
  unfold chr8
  rw [lo8_mask h0 h1]
  rw [Int32.lt_iff_toInt_lt] at h0 h1
  have e0 : (0 : Int32).toInt = 0 := rfl
  have e1 : (255 : Int32).toInt = 255 := rfl
  obtain ⟨k, hk⟩ : ∃ k : Nat, c.toInt = k := ⟨c.toInt.toNat, by omega⟩
  have hx : c = Int32.ofNat k := Int32.toInt_inj.mp (by rw [hk, Int32.toInt_ofNat_small (by omega)])
  rw [hx]
  exact t ⟨k, by omega⟩
theorem narrow_ch {c : Int32} (h0 : ¬ c < 0) (h1 : ¬ 65535 < c) : narrow .char (.int c) = .int c := by
  have q : narrow .char (.int (pairCh (lo8 c) (hi8 c))) = .int (pairCh (lo8 c) (hi8 c)) := narrow_c _
  rwa [pair_says h0 h1] at q
/-- the array's cell V codes the n chars f 0 .. f (n - 1) by the coder cd, as the JDK does: coder 1 just where some char is above 255 -/
def Cod (cd : Int32) (n : Nat) (f : Nat → Int32) (V : Cell) : Prop := (cd = 0 ∧ V.slots.size = n ∧ ∀ j, j < n → V.slots[j]? = some (.int (lo8 (f j))) ∧ ¬ 255 < f j) ∨ (cd = 1 ∧ V.slots.size = 2 * n ∧ (∀ j, j < n → V.slots[2 * j]? = some (.int (lo8 (f j))) ∧ V.slots[2 * j + 1]? = some (.int (hi8 (f j)))) ∧ ∃ j, j < n ∧ 255 < f j)
theorem Cod.cd {cd : Int32} {n : Nat} {f : Nat → Int32} {V : Cell} (h : Cod cd n f V) : cd = 0 ∨ cd = 1 := h.imp (fun q => q.1) fun q => q.1
theorem Cod.len {cd : Int32} {n : Nat} {f : Nat → Int32} {V : Cell} (h : Cod cd n f V) (hs : V.slots.size < 2 ^ 31) : Int32.ofNat V.slots.size >>> (cd &&& 31) = Int32.ofNat n := by
  rcases h with ⟨rfl, h, -⟩ | ⟨rfl, h, -⟩
  · rw [shr0, h]
  · rw [h, shr1 (by omega)]
/-- **x is a String of the n chars f 0 .. f (n - 1)**, Latin-1 or UTF-16; its array at t has the cell V -/
def Txt (x t : Addr) (V : Cell) (cd : Int32) (n : Nat) (f : Nat → Int32) (U : State) : Prop := Exact "java/lang/String" x U ∧ Has x "java/lang/String" "value" "[B" (.ref t) U ∧ Has x "java/lang/String" "coder" "B" (.int cd) U ∧ XT.Arr .byte t V U ∧ Cod cd n f V ∧ ∀ j, j < n → ¬ f j < 0 ∧ ¬ 65535 < f j
theorem Txt.mv {x t : Addr} {V : Cell} {cd : Int32} {n : Nat} {f : Nat → Int32} {U U' : State} (h : Txt x t V cd n f U) (hal : U.vm.Alike U'.vm) (hh : U'.heap = U.heap) : Txt x t V cd n f U' := ⟨h.1.mv hal hh, h.2.1.mv hal hh, h.2.2.1.mv hal hh, h.2.2.2.1.mv hal hh, h.2.2.2.2⟩
namespace Cdr
def yN : MethodName := ⟨"java/lang/String", "coder", "()B"⟩
abbrev yB : ByteArray := jdk_42_method_152_code
theorem d0 : decode yB 0 = .ok (.getstatic 38, 3) := by decide +kernel
theorem d3 : decode yB 3 = .ok (.ifCond (.eq) 10, 3) := by decide +kernel
theorem d6 : decode yB 6 = .ok (.aload_n 0, 1) := by decide +kernel
theorem d7 : decode yB 7 = .ok (.getfield 15, 3) := by decide +kernel
theorem d10 : decode yB 10 = .ok (.goto 4, 3) := by decide +kernel
theorem d14 : decode yB 14 = .ok (.ireturn, 1) := by decide +kernel
def site : List Cond := [.fieldLink "java/lang/String" 38 "java/lang/String" "COMPACT_STRINGS" "Z", .fieldLink "java/lang/String" 15 "java/lang/String" "coder" "B"]
def tab : Cond := tabOf yN yB 1 (some .byte) site
def P (x : Addr) (cd z : Int32) (args : Array Value) (s : State) : Prop := args = #[.ref x] ∧ Has x "java/lang/String" "coder" "B" (.int cd) s ∧ (cd = 0 ∨ cd = 1) ∧ StaticIs s "java/lang/String" "COMPACT_STRINGS" "Z" (.int z) ∧ ¬ z = 0
def E (cd : Int32) (r : Option Value) (s u : State) : Prop := XT.PureE (some (.int cd)) r s u
theorem law (l : Launch) (x : Addr) (cd z : Int32) : Law l yN 1 0 0 0 yB 1 (some .byte) site (P x cd z) (E cd) [] 0 0 := by
  refine Law.of_walk (plainFor_of_name (by decide +kernel)) (by decide +kernel) (by decide +kernel) (by decide) (fun _ _ h => by rw [h.1]; rfl) (fun _ U U' hal hh h => ⟨h.1, h.2.1.mv hal hh, h.2.2.1, h.2.2.2.1.there hal hh, h.2.2.2.2⟩) (fun r U U' V V' h1 hal h2 h => XT.PureE.mv r U U' V V' h1 hal h2 h) ?_
  intro p e s m args below meth c s₁ X0 hexec hbytes hml hret hlk hnm hown hh0 W hP
  obtain ⟨rfl, hx, hc, s1, hz⟩ := hP
  have c1 : Steps p.tables e below (s₁.setTop (entryFrame m #[.ref x] 1)) (s₁.setTop (mkF m 0 #[.val (.ref x)] [])) := entry rfl
  obtain ⟨T2, X2, q2, st2⟩ := X0.sget hexec hown (wk W (.fieldLink "java/lang/String" 38 "java/lang/String" "COMPACT_STRINGS" "Z")) s1 (fun _ _ h => by rw [hh0]; exact h) (g := (mkF m 0 #[.val (.ref x)] [])) rfl (hb hbytes d0)
  have hh2 := q2.trans hh0
  have c3 : Steps p.tables e below (s₁.setTop (entryFrame m #[.ref x] 1)) (T2.setTop (mkF m 7 #[.val (.ref x)] [.ref x])) := (c1.trans (st2 _ (Steps.refl _))).trans (by
    refine XS.ifNo X2.here hexec rfl (hb hbytes d3) rfl (i0_eq_f hz) ?_
    refine XS.aloadN X2.here hexec rfl (hb hbytes d6) rfl rfl ?_
    exact Steps.refl _)
  obtain ⟨T4, X4, q4, st4⟩ := X2.hget hexec hown (wk W (.fieldLink "java/lang/String" 15 "java/lang/String" "coder" "B")) (hx.mv X2.warmed.alike hh2) (g := (mkF m 7 #[.val (.ref x)] [.ref x])) rfl (rest := []) rfl (hb hbytes d7)
  have c5 : Steps p.tables e below (s₁.setTop (entryFrame m #[.ref x] 1)) (T4.setTop (mkF m 14 #[.val (.ref x)] [.int cd])) := (c3.trans (st4 _ (Steps.refl _))).trans (by
    refine XS.goto X4.here hexec rfl (pc0 := 10) rfl (hb hbytes d10) (by decide) rfl ?_
    exact Steps.refl _)
  exact ⟨T4, some (.int cd), _, _, _, X4, rfl, rfl, rfl, (fun h => by cases h), ⟨rfl, q4.trans hh2⟩, fun fs hl => c5.trans (X4.ireturnOut hexec hret (by rcases hc with rfl | rfl <;> rfl) (Or.inr (Or.inr (Or.inl rfl))) (hb hbytes d14) hl)⟩
end Cdr
namespace Len
def yN : MethodName := ⟨"java/lang/String", "length", "()I"⟩
abbrev yB : ByteArray := jdk_42_method_54_code
theorem d0 : decode yB 0 = .ok (.aload_n 0, 1) := by decide +kernel
theorem d1 : decode yB 1 = .ok (.getfield 9, 3) := by decide +kernel
theorem d4 : decode yB 4 = .ok (.arraylength, 1) := by decide +kernel
theorem d5 : decode yB 5 = .ok (.aload_n 0, 1) := by decide +kernel
theorem d6 : decode yB 6 = .ok (.invokevirtual 335, 3) := by decide +kernel
theorem d9 : decode yB 9 = .ok (.ishr, 1) := by decide +kernel
theorem d10 : decode yB 10 = .ok (.ireturn, 1) := by decide +kernel
def site : List Cond := [.fieldLink "java/lang/String" 9 "java/lang/String" "value" "[B", Cdr.tab] ++ virtW "java/lang/String" 335 "java/lang/String" Cdr.yN Cdr.yN
def tab : Cond := tabOf yN yB 1 (some .int) site
def P (x t : Addr) (V : Cell) (cd : Int32) (n : Nat) (f : Nat → Int32) (z : Int32) (args : Array Value) (s : State) : Prop := args = #[.ref x] ∧ Txt x t V cd n f s ∧ StaticIs s "java/lang/String" "COMPACT_STRINGS" "Z" (.int z) ∧ ¬ z = 0
def E (n : Nat) (r : Option Value) (s u : State) : Prop := XT.PureE (some (.int (Int32.ofNat n))) r s u
/-- length() of a String of n chars, in either coding -/
theorem law (l : Launch) (x t : Addr) (V : Cell) (cd : Int32) (n : Nat) (f : Nat → Int32) (z : Int32) : Law l yN 1 0 1 13 yB 1 (some .int) site (P x t V cd n f z) (E n) [] 0 0 := by
  refine Law.of_walk (plainFor_of_name (by decide +kernel)) (by decide +kernel) (by decide +kernel) (by decide) (fun _ _ h => by rw [h.1]; rfl) (fun _ U U' hal hh h => ⟨h.1, h.2.1.mv hal hh, h.2.2.1.there hal hh, h.2.2.2⟩) (fun r U U' V V' h1 hal h2 h => XT.PureE.mv r U U' V V' h1 hal h2 h) ?_
  intro p e s m args below meth c s₁ X0 hexec hbytes hml hret hlk hnm hown hh0 W hP
  obtain ⟨rfl, hx, s1, hz⟩ := hP
  have v31 := hx.2.2.2.1.2.2.2
  have c1 : Steps p.tables e below (s₁.setTop (entryFrame m #[.ref x] 1)) (s₁.setTop (mkF m 1 #[.val (.ref x)] [.ref x])) := Steps.trans (entry rfl) (by
    show Steps p.tables e below (s₁.setTop (mkF m 0 #[.val (.ref x)] [])) _
    refine XS.aloadN X0.here hexec rfl (hb hbytes d0) rfl rfl ?_
    exact Steps.refl _)
  obtain ⟨T2, X2, q2, st2⟩ := X0.hget hexec hown (wk W (.fieldLink "java/lang/String" 9 "java/lang/String" "value" "[B")) (hx.mv X0.warmed.alike hh0).2.1 (g := (mkF m 1 #[.val (.ref x)] [.ref x])) rfl (rest := []) rfl (hb hbytes d1)
  have hh2 := q2.trans hh0
  have hx2 := hx.mv X2.warmed.alike hh2
  have c3 : Steps p.tables e below (s₁.setTop (entryFrame m #[.ref x] 1)) (T2.setTop (mkF m 6 #[.val (.ref x)] [.ref x, .int (Int32.ofNat V.slots.size)])) := (c1.trans (st2 _ (Steps.refl _))).trans (by
    refine X2.alen hexec hx2.2.2.2.1 rfl rfl (hb hbytes d4) ?_
    refine XS.aloadN X2.here hexec rfl (hb hbytes d5) rfl rfl ?_
    exact Steps.refl _)
  obtain ⟨v4, T4, X4, E4, g4⟩ := X2.callV hexec (Cdr.law l x cd z) hown (wks W (virtW "java/lang/String" 335 "java/lang/String" Cdr.yN Cdr.yN)) rfl (by decide) (wk W Cdr.tab) (W := 1) (Nat.le_of_ble_eq_true rfl) (Nat.le_of_ble_eq_true rfl) (Nat.le_refl _) (Nat.le_refl _) (hx2.1.fc X2.warmed.alike) hx2.1.is (g := (mkF m 6 #[.val (.ref x)] [.ref x, .int (Int32.ofNat V.slots.size)])) rfl (by rw [hml]; rfl) c3 (argsL := []) (rest := [.int (Int32.ofNat V.slots.size)]) rfl rfl (by show 2 * 0 + (1 + 0) ≤ _; decide) (hb hbytes d6) (⟨rfl, hx2.2.2.1, hx.2.2.2.2.1.cd, s1.there X2.warmed.alike hh2, hz⟩)
  obtain ⟨rfl, q4⟩ := E4
  have c5 : Steps p.tables e below (s₁.setTop (entryFrame m #[.ref x] 1)) (T4.setTop (mkF m 10 #[.val (.ref x)] [.int (Int32.ofNat V.slots.size >>> (cd &&& 31))])) := Steps.trans g4 (by
    refine ishr X4.here hexec rfl (hb hbytes d9) rfl ?_
    exact Steps.refl _)
  rw [hx.2.2.2.2.1.len v31] at c5
  exact ⟨T4, some (.int (Int32.ofNat n)), _, _, _, X4, rfl, rfl, rfl, (fun h => by cases h), ⟨rfl, q4.trans hh2⟩, fun fs hl => c5.trans (X4.ireturnOut hexec hret rfl (Or.inl rfl) (hb hbytes d10) hl)⟩
theorem pays {l : Launch} {R : Room} {p : Program} {e : Env} {below : List Frame} {s : State} {sargs : Array Value} {len W : Nat} (x t : Addr) (V : Cell) (cd : Int32) (n : Nat) (f : Nat → Int32) (z : Int32) (htab : tab.before sargs s = true) (hfr : 2 ≤ R.frames) (hlo : W + 25 ≤ R.locals) :
    Back l R p e below s sargs yN len W (fun A₁ a₁ => A₁.cells + 0 ≤ R.cells ∧ A₁.slots + 0 ≤ R.slots ∧ P x t V cd n f z a₁ A₁.U) (fun A₁ _ v₁ B₁ => E n v₁ A₁.U B₁.U ∧ B₁.locs = A₁.locs ++ [] ∧ B₁.cells = A₁.cells + 0 ∧ B₁.slots = A₁.slots + 0) :=
  (law l x t V cd n f z).pays htab hfr (by omega)
end Len
namespace IsL
def yN : MethodName := ⟨"java/lang/String", "isLatin1", "()Z"⟩
abbrev yB : ByteArray := jdk_42_method_154_code
theorem d0 : decode yB 0 = .ok (.getstatic 38, 3) := by decide +kernel
theorem d3 : decode yB 3 = .ok (.ifCond (.eq) 14, 3) := by decide +kernel
theorem d6 : decode yB 6 = .ok (.aload_n 0, 1) := by decide +kernel
theorem d7 : decode yB 7 = .ok (.getfield 15, 3) := by decide +kernel
theorem d10 : decode yB 10 = .ok (.ifCond (.ne) 7, 3) := by decide +kernel
theorem d13 : decode yB 13 = .ok (.iconst 1, 1) := by decide +kernel
theorem d14 : decode yB 14 = .ok (.goto 4, 3) := by decide +kernel
theorem d17 : decode yB 17 = .ok (.iconst 0, 1) := by decide +kernel
theorem d18 : decode yB 18 = .ok (.ireturn, 1) := by decide +kernel
def site : List Cond := [.fieldLink "java/lang/String" 38 "java/lang/String" "COMPACT_STRINGS" "Z", .fieldLink "java/lang/String" 15 "java/lang/String" "coder" "B"]
def tab : Cond := tabOf yN yB 1 (some .boolean) site
def P (x : Addr) (cd z : Int32) (args : Array Value) (s : State) : Prop := args = #[.ref x] ∧ Has x "java/lang/String" "coder" "B" (.int cd) s ∧ (cd = 0 ∨ cd = 1) ∧ StaticIs s "java/lang/String" "COMPACT_STRINGS" "Z" (.int z) ∧ ¬ z = 0
def E (cd : Int32) (r : Option Value) (s u : State) : Prop := XT.PureE (some (.int (1 - cd))) r s u
theorem law (l : Launch) (x : Addr) (cd z : Int32) : Law l yN 1 0 0 0 yB 1 (some .boolean) site (P x cd z) (E cd) [] 0 0 := by
  refine Law.of_walk (plainFor_of_name (by decide +kernel)) (by decide +kernel) (by decide +kernel) (by decide) (fun _ _ h => by rw [h.1]; rfl) (fun _ U U' hal hh h => ⟨h.1, h.2.1.mv hal hh, h.2.2.1, h.2.2.2.1.there hal hh, h.2.2.2.2⟩) (fun r U U' V V' h1 hal h2 h => XT.PureE.mv r U U' V V' h1 hal h2 h) ?_
  intro p e s m args below meth c s₁ X0 hexec hbytes hml hret hlk hnm hown hh0 W hP
  obtain ⟨rfl, hx, hc, s1, hz⟩ := hP
  have c1 : Steps p.tables e below (s₁.setTop (entryFrame m #[.ref x] 1)) (s₁.setTop (mkF m 0 #[.val (.ref x)] [])) := entry rfl
  obtain ⟨T2, X2, q2, st2⟩ := X0.sget hexec hown (wk W (.fieldLink "java/lang/String" 38 "java/lang/String" "COMPACT_STRINGS" "Z")) s1 (fun _ _ h => by rw [hh0]; exact h) (g := (mkF m 0 #[.val (.ref x)] [])) rfl (hb hbytes d0)
  have hh2 := q2.trans hh0
  have c3 : Steps p.tables e below (s₁.setTop (entryFrame m #[.ref x] 1)) (T2.setTop (mkF m 7 #[.val (.ref x)] [.ref x])) := (c1.trans (st2 _ (Steps.refl _))).trans (by
    refine XS.ifNo X2.here hexec rfl (hb hbytes d3) rfl (i0_eq_f hz) ?_
    refine XS.aloadN X2.here hexec rfl (hb hbytes d6) rfl rfl ?_
    exact Steps.refl _)
  obtain ⟨T4, X4, q4, st4⟩ := X2.hget hexec hown (wk W (.fieldLink "java/lang/String" 15 "java/lang/String" "coder" "B")) (hx.mv X2.warmed.alike hh2) (g := (mkF m 7 #[.val (.ref x)] [.ref x])) rfl (rest := []) rfl (hb hbytes d7)
  have c5 : Steps p.tables e below (s₁.setTop (entryFrame m #[.ref x] 1)) (T4.setTop (mkF m 10 #[.val (.ref x)] [.int cd])) := c3.trans (st4 _ (Steps.refl _))
  have c6 : Steps p.tables e below (s₁.setTop (entryFrame m #[.ref x] 1)) (T4.setTop (mkF m 18 #[.val (.ref x)] [.int (1 - cd)])) := by
    rcases hc with rfl | rfl
    · exact c5.trans (by
        refine XS.ifNo X4.here hexec rfl (hb hbytes d10) rfl (i0_ne_f rfl) ?_
        refine iconstV X4.here hexec rfl 1 (hb hbytes d13) (by decide) ?_
        refine XS.goto X4.here hexec rfl (pc0 := 14) rfl (hb hbytes d14) (by decide) rfl ?_
        exact Steps.refl _)
    · exact c5.trans (by
        refine XS.ifYes X4.here hexec rfl (pc0 := 10) rfl (hb hbytes d10) rfl (i0_ne_t (by decide)) (by decide) rfl ?_
        refine iconstV X4.here hexec rfl 0 (hb hbytes d17) (by decide) ?_
        exact Steps.refl _)
  exact ⟨T4, some (.int (1 - cd)), _, _, _, X4, rfl, rfl, rfl, (fun h => by cases h), ⟨rfl, q4.trans hh2⟩, fun fs hl => c6.trans (X4.ireturnOut hexec hret (by rcases hc with rfl | rfl <;> rfl) (Or.inr (Or.inl rfl)) (hb hbytes d18) hl)⟩
end IsL
namespace LChA
def yN : MethodName := ⟨"java/lang/StringLatin1", "charAt", "([BI)C"⟩
abbrev yB : ByteArray := jdk_43_method_2_code
theorem d0 : decode yB 0 = .ok (.iload_n 1, 1) := by decide +kernel
theorem d1 : decode yB 1 = .ok (.aload_n 0, 1) := by decide +kernel
theorem d2 : decode yB 2 = .ok (.arraylength, 1) := by decide +kernel
theorem d3 : decode yB 3 = .ok (.invokestatic 9, 3) := by decide +kernel
theorem d6 : decode yB 6 = .ok (.aload_n 0, 1) := by decide +kernel
theorem d7 : decode yB 7 = .ok (.iload_n 1, 1) := by decide +kernel
theorem d8 : decode yB 8 = .ok (.baload, 1) := by decide +kernel
theorem d9 : decode yB 9 = .ok (.sipush 255, 3) := by decide +kernel
theorem d12 : decode yB 12 = .ok (.iand, 1) := by decide +kernel
theorem d13 : decode yB 13 = .ok (.i2c, 1) := by decide +kernel
theorem d14 : decode yB 14 = .ok (.ireturn, 1) := by decide +kernel
def site : List Cond := [JO.Str_checkIndex.tab] ++ staticW "java/lang/StringLatin1" 9 JO.Str_checkIndex.yN
def tab : Cond := tabOf yN yB 2 (some .char) site
def P (t : Addr) (V : Cell) (i : Nat) (u : Int32) (fm : Value) (args : Array Value) (s : State) : Prop := args = #[.ref t, .int (Int32.ofNat i)] ∧ XT.Arr .byte t V s ∧ V.slots[i]? = some (.int u) ∧ (StaticIs s "jdk/internal/util/Preconditions" "SIOOBE_FORMATTER" "Ljava/util/function/BiFunction;" fm ∧ fm.isRef = true)
def E (u : Int32) (r : Option Value) (s w : State) : Prop := XT.PureE (some (.int (chr8 u))) r s w
theorem law (l : Launch) (t : Addr) (V : Cell) (i : Nat) (u : Int32) (fm : Value) : Law l yN 2 2 2 27 yB 2 (some .char) site (P t V i u fm) (E u) [] 0 0 := by
  refine Law.of_walk (plainFor_of_name (by decide +kernel)) (by decide +kernel) (by decide +kernel) (by decide) (fun _ _ h => by rw [h.1]; rfl) (fun _ U U' hal hh h => ⟨h.1, h.2.1.mv hal hh, h.2.2.1, h.2.2.2.1.there hal hh, h.2.2.2.2⟩) (fun r U U' V V' h1 hal h2 h => XT.PureE.mv r U U' V V' h1 hal h2 h) ?_
  intro p e s m args below meth c s₁ X0 hexec hbytes hml hret hlk hnm hown hh0 W hP
  obtain ⟨rfl, hV, hu, s1, rf⟩ := hP
  have v31 := hV.2.2.2
  have hi : i < V.slots.size := (Array.getElem?_eq_some_iff.mp hu).1
  have c1 : Steps p.tables e below (s₁.setTop (entryFrame m #[.ref t, .int (Int32.ofNat i)] 2)) (s₁.setTop (mkF m 0 #[.val (.ref t), .val (.int (Int32.ofNat i))] [])) := entry rfl
  have c2 : Steps p.tables e below (s₁.setTop (entryFrame m #[.ref t, .int (Int32.ofNat i)] 2)) (s₁.setTop (mkF m 3 #[.val (.ref t), .val (.int (Int32.ofNat i))] [.int (Int32.ofNat V.slots.size), .int (Int32.ofNat i)])) := c1.trans (by
    refine XS.iloadN X0.here hexec rfl (hb hbytes d0) rfl ?_
    refine XS.aloadN X0.here hexec rfl (hb hbytes d1) rfl rfl ?_
    refine X0.alen hexec (hV.mv X0.warmed.alike hh0) rfl rfl (hb hbytes d2) ?_
    exact Steps.refl _)
  obtain ⟨v3, T3, X3, E3, g3⟩ := X0.callS hexec (JO.Str_checkIndex.law l (Int32.ofNat i) (Int32.ofNat V.slots.size) fm) hown (wks W (staticW "java/lang/StringLatin1" 9 JO.Str_checkIndex.yN)) (wk W JO.Str_checkIndex.tab) (W := 0) (Nat.le_of_ble_eq_true rfl) (Nat.le_of_ble_eq_true rfl) (Nat.le_refl _) (Nat.le_refl _) (g := (mkF m 3 #[.val (.ref t), .val (.int (Int32.ofNat i))] [.int (Int32.ofNat V.slots.size), .int (Int32.ofNat i)])) rfl (by rw [hml]; rfl) c2 (argsL := [.int (Int32.ofNat i), .int (Int32.ofNat V.slots.size)]) (rest := []) rfl rfl (by show 2 * 0 + 0 ≤ _; decide) (hb hbytes d3) (⟨rfl, rf, s1.there X0.warmed.alike hh0, Int32.ofNat_not_neg (by omega), lt32 v31 hi⟩)
  obtain ⟨rfl, q3⟩ := E3
  have hh3 := q3.trans hh0
  have c4 : Steps p.tables e below (s₁.setTop (entryFrame m #[.ref t, .int (Int32.ofNat i)] 2)) (T3.setTop (mkF m 14 #[.val (.ref t), .val (.int (Int32.ofNat i))] [.int (chr8 u)])) := Steps.trans g3 (by
    refine XS.aloadN X3.here hexec rfl (hb hbytes d6) rfl rfl ?_
    refine XS.iloadN X3.here hexec rfl (hb hbytes d7) rfl ?_
    refine X3.aget hexec (hV.mv X3.warmed.alike hh3) rfl hu rfl rfl (hb hbytes d8) ?_
    refine sipushV X3.here hexec rfl 255 (hb hbytes d9) (by decide) ?_
    refine XS.iand X3.here hexec rfl (hb hbytes d12) rfl ?_
    refine i2c X3.here hexec rfl (hb hbytes d13) rfl ?_
    exact Steps.refl _)
  exact ⟨T3, some (.int (chr8 u)), _, _, _, X3, rfl, rfl, rfl, (fun h => by cases h), ⟨rfl, hh3⟩, fun fs hl => c4.trans (X3.ireturnOut hexec hret (narrow_c _) (Or.inr (Or.inr (Or.inr (Or.inl rfl)))) (hb hbytes d14) hl)⟩
end LChA
end StrChars
namespace StrChars.Road
open Jvm Sem ClassFile Op Lib Jvm.Stand Jvm.Free Jvm.Free.XT
open Jvm.Lib.Cold (StaticIs)
theorem consq {a : Array Value} {s : State} {c : Jvm.Cond} {L : List Jvm.Cond} (h0 : c.before a s = true) (h : ∀ w ∈ L, w.before a s = true) : ∀ w ∈ c :: L, w.before a s = true := fun w hw => (List.mem_cons.mp hw).elim (fun e => e ▸ h0) (h w)
/-- the words of String.length(), either coding -/
abbrev wordsLen : List Jvm.Cond := [.code Len.yN Len.yB 1 (some .int), .initialized ST, .fieldLink ST 9 ST "value" "[B", .fieldLink ST 38 ST "COMPACT_STRINGS" "Z", .fieldLink ST 15 ST "coder" "B", .code Cdr.yN Cdr.yB 1 (some .byte), .methodLink ST 335 Cdr.yN, .declares Cdr.yN, .selects ST Cdr.yN Cdr.yN, .instanceMethod Cdr.yN]
theorem tabLen_of {a : Array Value} {s : State} (h : ∀ w ∈ wordsLen, w.before a s = true) : Len.tab.before a s = true := by
  have hc : Cdr.tab.before a s = true := unparts (wk h (.code Cdr.yN Cdr.yB 1 (some .byte))) (wks h (.initialized Cdr.yN.cls :: Cdr.site))
  have q := consq hc h
  exact unparts (wk q (.code Len.yN Len.yB 1 (some .int))) (wks q (.initialized Len.yN.cls :: Len.site))
theorem movedLen {Z s : State} {a0 args : Array Value} (hZ : Z.Warmed39 s.vm) (hw : ∀ d ∈ wordsLen, d.before a0 Z = true) : ∀ d ∈ wordsLen, d.before args s = true := fun d hd => by
  have q := hw d hd
  have t : ∀ d ∈ wordsLen, d = .arrayClass .byte ∨ (d.onTables && d.keepsFace) = true := by decide +kernel
  rcases t d hd with rfl | t
  · exact RoadKit.mvA hZ q
  · exact RoadKit.mv hZ q t
/-- the bytes of the chars cs, low before high -/
def wideBytes : List Int32 → List Value
  | [] => []
  | c :: cs => .int (lo8 c) :: .int (hi8 c) :: wideBytes cs
theorem wide_lo (d : Value) : ∀ (cs : List Int32) (j : Nat), j < cs.length → (wideBytes cs).getD (2 * j) d = .int (lo8 (cs.getD j 0))
  | [], j, h => absurd h (Nat.not_lt_zero j)
  | c :: cs, 0, _ => rfl
  | c :: cs, j + 1, h => by
    have q := wide_lo d cs j (by simpa using h)
    rw [show 2 * (j + 1) = 2 * j + 1 + 1 from by omega]
    simpa [wideBytes] using q
theorem wide_hi (d : Value) : ∀ (cs : List Int32) (j : Nat), j < cs.length → (wideBytes cs).getD (2 * j + 1) d = .int (hi8 (cs.getD j 0))
  | [], j, h => absurd h (Nat.not_lt_zero j)
  | c :: cs, 0, _ => rfl
  | c :: cs, j + 1, h => by
    have q := wide_hi d cs j (by simpa using h)
    rw [show 2 * (j + 1) + 1 = 2 * j + 1 + 1 + 1 from by omega]
    simpa [wideBytes] using q
theorem low_at (d : Value) (cs : List Int32) (j : Nat) (h : j < cs.length) : (cs.map fun c => Value.int (lo8 c)).getD j d = .int (lo8 (cs.getD j 0)) := by
  simp [List.getD_eq_getElem?_getD, h]
/-- an array of N2 bytes vs codes the chars cs by the coder cd -/
def CodA (cs : List Int32) (cd N2 : Int32) (vs : List Value) : Prop := (cd = 0 ∧ N2 = Int32.ofNat cs.length ∧ vs = (cs.map fun c => Value.int (lo8 c)) ∧ ∀ c ∈ cs, ¬ 255 < c) ∨ (cd = 1 ∧ N2 = Int32.ofNat (2 * cs.length) ∧ vs = wideBytes cs ∧ ∃ c ∈ cs, 255 < c)
theorem CodA.cod {cs : List Int32} {cd N2 : Int32} {vs : List Value} {V : Cell} (h : CodA cs cd N2 vs) (hn : 2 * cs.length < 2 ^ 31) (hs : V.slots.size = N2.toNatClampNeg) (hv : RoadKit.Has V vs (.int 0)) : Cod cd cs.length (fun j => cs.getD j 0) V := by
  rcases h with ⟨rfl, rfl, rfl, h⟩ | ⟨rfl, rfl, rfl, c, hc, hw⟩
  · rw [n32 (by omega)] at hs
    exact Or.inl ⟨rfl, hs, fun j hj => ⟨by rw [hv j (by omega), low_at _ _ _ hj], by
      have e : cs.getD j 0 = cs[j] := by simp [List.getD_eq_getElem?_getD, hj]
      show ¬ 255 < cs.getD j 0
      rw [e]; exact h _ (List.getElem_mem _)⟩⟩
  · rw [n32 (by omega)] at hs
    obtain ⟨j, hj, rfl⟩ := List.getElem_of_mem hc
    exact Or.inr ⟨rfl, hs, fun j hj => ⟨by rw [hv _ (by omega), wide_lo _ _ _ hj], by rw [hv _ (by omega), wide_hi _ _ _ hj]⟩, j, hj, by
      have e : cs.getD j 0 = cs[j] := by simp [List.getD_eq_getElem?_getD, hj]
      show 255 < cs.getD j 0
      rw [e]; exact hw⟩
/-- an object of exactly java/lang/String, its two fields found: as the laws ask it -/
theorem strObj {Z U : State} {a0 : Array Value} {kI : Nat} (wi : (Jvm.Cond.instantiable ST kI).before a0 Z = true) (al : Z.vm.Alike U.vm) {x : Addr} {v0 c0 : Value} (E : RoadKit.Exa Z U.heap x ST) (V : RoadKit.Fld Z U.heap x ST "value" "[B" v0) (C : RoadKit.Fld Z U.heap x ST "coder" "B" c0) :
    ∃ (D : Cell) (fV fC : Field), Blank ST x D U ∧ Found ST "value" "[B" fV U ∧ Found ST "coder" "B" fC U ∧ D.slots[fV.slot]? = some v0 ∧ D.slots[fC.slot]? = some c0 ∧ RoadKit.slotOf Z ST "value" "[B" = fV.slot ∧ RoadKit.slotOf Z ST "coder" "B" = fC.slot := by
  obtain ⟨D, cfV, kV, iV, fV, hD, gV, stV, knV, obV, asV, slV⟩ := V
  obtain ⟨D', cfC, kC, iC, fC, hD', gC, stC, -, -, asC, slC⟩ := C
  cases hD.symm.trans hD'
  obtain ⟨D2, kD, e1, e2, e3, e4, e5⟩ := E
  cases hD.symm.trans e1
  obtain ⟨c2, k2, i1, i2, i3, -⟩ := Cond.instantiable_spec wi
  cases e2.symm.trans i1
  cases e3.symm.trans i2
  obtain ⟨kU, u1, u2⟩ := al.2.2 _ _ e3
  exact ⟨D, fV, fC, ⟨hD, ⟨knV, fun q hq => by rw [hq] at obV; cases obV⟩, by rw [al.findClass]; exact e2, kU, u1, by rw [u2]; exact i3, by rw [u2]; exact e5 i3⟩, ⟨SBG.found_only al ⟨cfV, kV, iV, gV⟩, stV⟩, ⟨SBG.found_only al ⟨cfC, kC, iC, gC⟩, stC⟩, slV, slC, by simp [RoadKit.slotOf, gV], by simp [RoadKit.slotOf, gC]⟩
theorem sta_is {Z U : State} (al : Z.vm.Alike U.vm) {C n d : String} {v : Value} (S : RoadKit.Sta Z U.heap C n d v) : StaticIs U C n d v := by
  obtain ⟨cfS, iS, kS, fS, st, cS, t1, t2, t3, t4, t5, t6, t7⟩ := S
  exact StaticIs.there (s := { Z with heap := U.heap }) ⟨cfS, iS, kS, fS, st, cS, t1, t2, t3, t4, t5, (fun q => by rw [q] at t6; cases t6), t7⟩ al rfl
/-- **length() OF SUCH A STRING** -/
theorem lenW {p : Program} {l : Launch} {e : Env} {R : Room} {s : State} {args : Array Value} {below : List Frame} {len W : Nat} {Z : State} {a0 : Array Value} {h : Heap} (hZ : Z.Warmed39 s.vm) (hw : ∀ d ∈ wordsLen, d.before a0 Z = true) {kI : Nat} (wi : (Jvm.Cond.instantiable ST kI).before a0 Z = true)
    {x t : Addr} {kb : ClassId} {cs : List Int32} {cd N2 z : Int32} {vs : List Value} (E : RoadKit.Exa Z h x ST) (V : RoadKit.Fld Z h x ST "value" "[B" (.ref t)) (C : RoadKit.Fld Z h x ST "coder" "B" (.int cd)) (K : RoadKit.Arv Z h t kb .byte N2 vs (.int 0)) (hc : CodA cs cd N2 vs) (hb : ∀ c ∈ cs, ¬ c < 0 ∧ ¬ (65535 : Int32) < c)
    (S : RoadKit.Sta Z h ST "COMPACT_STRINGS" "Z" (.int z)) (hz : ¬ z = 0) (l2 : cs.length ≤ 4000) (hfr : 2 ≤ R.frames) (hlo : W + 25 ≤ R.locals) :
    Back l R p e below s args (⟨"java/lang/String", "length", "()I"⟩ : MethodName) len W (fun P a => a = #[.ref x] ∧ P.U.heap = h ∧ P.cells + 0 ≤ R.cells ∧ P.slots + 0 ≤ R.slots)
      (fun P _ v B => ∃ L, (v = some (.int (Int32.ofNat cs.length)) ∧ L = [] ∧ B.U.heap = h) ∧ B.locs = P.locs ++ L ∧ B.cells = P.cells + 0 ∧ B.slots = P.slots + 0) := by
  obtain ⟨A, K1, K2, K3, K4, K5, K6⟩ := K
  have hcod := hc.cod (by omega) K3 K5
  intro m meth c P g ig mk a X hg hsize hdg hW hn hp'
  obtain ⟨rfl, rfl, r1, r2⟩ := hp'
  have al : Z.vm.Alike P.U.vm := hZ.alike.trans X.warmed.alike
  obtain ⟨D, fV, fC, hB, F1, F2, g1, g2, -, -⟩ := strObj wi al E V C
  have hx : Txt x t A cd cs.length (fun j => cs.getD j 0) P.U := ⟨⟨_, hB.2.2.1, D, hB.1, rfl, by cases q : D.vm <;> first | rfl | exact absurd q (hB.2.1.2 _)⟩, Has.of hB F1 g1, Has.of hB F2 g2, ⟨K1.1, State.isArrayOf_alike al K1.2.1, K1.2.2, by rcases hcod with ⟨-, q, -⟩ | ⟨-, q, -⟩ <;> omega⟩, hcod, fun j hj => by
    have e : cs.getD j 0 = cs[j] := by simp [List.getD_eq_getElem?_getD, hj]
    show ¬ cs.getD j 0 < 0 ∧ ¬ 65535 < cs.getD j 0
    rw [e]; exact hb _ (List.getElem_mem _)⟩
  obtain ⟨v, B, X', ⟨⟨hv, hh⟩, hl, hk, hs⟩, st⟩ := Len.pays x t A cd cs.length (fun j => cs.getD j 0) z (tabLen_of (movedLen hZ hw)) hfr hlo m meth c P g ig mk _ X hg hsize hdg hW hn ⟨r1, r2, rfl, hx, sta_is al S, hz⟩
  exact ⟨v, B, X', ⟨[], ⟨hv, rfl, hh⟩, hl, hk, hs⟩, st⟩
end StrChars.Road
namespace StrChars
open Jvm Sem ClassFile Op Lib Jvm.Stand Jvm.Free.XT Jvm.Free.ALB Jvm.Free.JM Jvm.Free
open Jvm.Lib.Cold (StaticIs)
/-- what place i of a byte[]'s cell holds -/
def yv (A : Cell) (i : Nat) : Int32 := match A.slots[i]? with | some (.int x) => x | _ => 0
theorem yv_get {a : Addr} {A : Cell} {U : State} (h : XT.Arr .byte a A U) (ht : Typed .byte A) {i : Nat} (hi : i < A.slots.size) : A.slots[i]? = some (.int (yv A i)) := by
  have e := Array.getElem?_eq_getElem hi
  have f := ht i _ e
  unfold yv; rw [e]
  generalize A.slots[i] = v at f
  cases v <;> simp [fits] at f ⊢
/-- the two arrays are equal, place for place -/
def EqC (A B : Cell) : Prop := A.slots.size = B.slots.size ∧ ∀ i, i < A.slots.size → yv A i = yv B i
/-- a boolean that says whether p -/
def Says01 (q : Prop) (r : Option Value) (s u : State) : Prop := ∃ v : Int32, r = some (.int v) ∧ u.heap = s.heap ∧ ((v = 1 ∧ q) ∨ (v = 0 ∧ ¬ q))
theorem Says01.mv {q : Prop} : ∀ r (U U' V V' : State), U'.heap = U.heap → V.vm.Alike V'.vm → V'.heap = V.heap → Says01 q r U V → Says01 q r U' V' :=
  fun r U U' V V' h1 _ h2 ⟨v, a, b, c⟩ => ⟨v, a, by rw [h1, h2]; exact b, c⟩
namespace LEq
def yN : MethodName := ⟨"java/lang/StringLatin1", "equals", "([B[B)Z"⟩
abbrev yB : ByteArray := jdk_43_method_13_code
theorem d0 : decode yB 0 = .ok (.aload_n 0, 1) := by decide +kernel
theorem d1 : decode yB 1 = .ok (.arraylength, 1) := by decide +kernel
theorem d2 : decode yB 2 = .ok (.aload_n 1, 1) := by decide +kernel
theorem d3 : decode yB 3 = .ok (.arraylength, 1) := by decide +kernel
theorem d4 : decode yB 4 = .ok (.if_icmp (.ne) 30, 3) := by decide +kernel
theorem d7 : decode yB 7 = .ok (.iconst 0, 1) := by decide +kernel
theorem d8 : decode yB 8 = .ok (.istore_n 2, 1) := by decide +kernel
theorem d9 : decode yB 9 = .ok (.iload_n 2, 1) := by decide +kernel
theorem d10 : decode yB 10 = .ok (.aload_n 0, 1) := by decide +kernel
theorem d11 : decode yB 11 = .ok (.arraylength, 1) := by decide +kernel
theorem d12 : decode yB 12 = .ok (.if_icmp (.ge) 20, 3) := by decide +kernel
theorem d15 : decode yB 15 = .ok (.aload_n 0, 1) := by decide +kernel
theorem d16 : decode yB 16 = .ok (.iload_n 2, 1) := by decide +kernel
theorem d17 : decode yB 17 = .ok (.baload, 1) := by decide +kernel
theorem d18 : decode yB 18 = .ok (.aload_n 1, 1) := by decide +kernel
theorem d19 : decode yB 19 = .ok (.iload_n 2, 1) := by decide +kernel
theorem d20 : decode yB 20 = .ok (.baload, 1) := by decide +kernel
theorem d21 : decode yB 21 = .ok (.if_icmp (.eq) 5, 3) := by decide +kernel
theorem d24 : decode yB 24 = .ok (.iconst 0, 1) := by decide +kernel
theorem d25 : decode yB 25 = .ok (.ireturn, 1) := by decide +kernel
theorem d26 : decode yB 26 = .ok (.iinc 2 1, 3) := by decide +kernel
theorem d29 : decode yB 29 = .ok (.goto (-20), 3) := by decide +kernel
theorem d32 : decode yB 32 = .ok (.iconst 1, 1) := by decide +kernel
theorem d33 : decode yB 33 = .ok (.ireturn, 1) := by decide +kernel
theorem d34 : decode yB 34 = .ok (.iconst 0, 1) := by decide +kernel
theorem d35 : decode yB 35 = .ok (.ireturn, 1) := by decide +kernel
def site : List Cond := []
def tab : Cond := tabOf yN yB 3 (some .boolean) site
def P (a : Addr) (A : Cell) (b : Addr) (B : Cell) (args : Array Value) (s : State) : Prop := args = #[.ref a, .ref b] ∧ XT.Arr .byte a A s ∧ Typed .byte A ∧ XT.Arr .byte b B s ∧ Typed .byte B
/-- whether two byte[] are equal, place for place -/
theorem law (l : Launch) (a : Addr) (A : Cell) (b : Addr) (B : Cell) : Law l yN 2 2 0 0 yB 3 (some .boolean) site (P a A b B) (Says01 (EqC A B)) [] 0 0 := by
  refine Law.of_walk (plainFor_of_name (by decide +kernel)) (by decide +kernel) (by decide +kernel) (by decide) (fun _ _ h => by rw [h.1]; rfl) (fun _ U U' hal hh h => ⟨h.1, h.2.1.mv hal hh, h.2.2.1, h.2.2.2.1.mv hal hh, h.2.2.2.2⟩) (fun r U U' V V' h1 hal h2 h => Says01.mv r U U' V V' h1 hal h2 h) ?_
  intro p e s m args below meth c s₁ X0 hexec hbytes hml hret hlk hnm hown hh0 W hP
  obtain ⟨rfl, hA, tA, hB, tB⟩ := hP
  have a31 := hA.2.2.2
  have b31 := hB.2.2.2
  have hA0 := hA.mv X0.warmed.alike hh0
  have hB0 := hB.mv X0.warmed.alike hh0
  have c1 : Steps p.tables e below (s₁.setTop (entryFrame m #[.ref a, .ref b] 3)) (s₁.setTop (mkF m 0 #[.val (.ref a), .val (.ref b), .unset] [])) := entry rfl
  have c2 : Steps p.tables e below (s₁.setTop (entryFrame m #[.ref a, .ref b] 3)) (s₁.setTop (mkF m 4 #[.val (.ref a), .val (.ref b), .unset] [.int (Int32.ofNat B.slots.size), .int (Int32.ofNat A.slots.size)])) := c1.trans (by
    refine XS.aloadN X0.here hexec rfl (hb hbytes d0) rfl rfl ?_
    refine X0.alen hexec hA0 rfl rfl (hb hbytes d1) ?_
    refine XS.aloadN X0.here hexec rfl (hb hbytes d2) rfl rfl ?_
    refine X0.alen hexec hB0 rfl rfl (hb hbytes d3) ?_
    exact Steps.refl _)
  by_cases hs : A.slots.size = B.slots.size
  · have c3 : Steps p.tables e below (s₁.setTop (entryFrame m #[.ref a, .ref b] 3)) (s₁.setTop (mkF m 9 #[.val (.ref a), .val (.ref b), .val (.int 0)] [])) := c2.trans (by
      refine XS.icmpNo X0.here hexec rfl (hb hbytes d4) rfl (ii_ne_f (by rw [hs])) ?_
      refine iconstV X0.here hexec rfl 0 (hb hbytes d7) (by decide) ?_
      refine XS.istoreN X0.here hexec rfl (hb hbytes d8) rfl rfl ?_
      exact Steps.refl _)
    have loop : ∀ (r i : Nat), i + r = A.slots.size → (∀ j, j < i → yv A j = yv B j) → Steps p.tables e below (s₁.setTop (entryFrame m #[.ref a, .ref b] 3)) (s₁.setTop (mkF m 9 #[.val (.ref a), .val (.ref b), .val (.int (Int32.ofNat i))] [])) → ∃ (pc : Nat) (Ls : Array Slot) (v : Int32), (pc = 25 ∨ pc = 33) ∧ ((v = 1 ∧ EqC A B) ∨ (v = 0 ∧ ¬ EqC A B)) ∧ Steps p.tables e below (s₁.setTop (entryFrame m #[.ref a, .ref b] 3)) (s₁.setTop (mkF m pc Ls [.int v])) := by
      intro r
      induction r with
      | zero =>
        intro i hi he cl
        exact ⟨33, _, 1, Or.inr rfl, Or.inl ⟨rfl, hs, fun j hj => he j (by omega)⟩, cl.trans (by
          refine XS.iloadN X0.here hexec rfl (hb hbytes d9) rfl ?_
          refine XS.aloadN X0.here hexec rfl (hb hbytes d10) rfl rfl ?_
          refine X0.alen hexec hA0 rfl rfl (hb hbytes d11) ?_
          refine XS.icmpYes X0.here hexec rfl (pc0 := 12) rfl (hb hbytes d12) rfl (ii_ge_t (nlt32 (by omega) (by omega))) (by decide) rfl ?_
          refine iconstV X0.here hexec rfl 1 (hb hbytes d32) (by decide) ?_
          exact Steps.refl _)⟩
      | succ r ih =>
        intro i hi he cl
        have c4 : Steps p.tables e below (s₁.setTop (entryFrame m #[.ref a, .ref b] 3)) (s₁.setTop (mkF m 21 #[.val (.ref a), .val (.ref b), .val (.int (Int32.ofNat i))] [.int (yv B i), .int (yv A i)])) := cl.trans (by
          refine XS.iloadN X0.here hexec rfl (hb hbytes d9) rfl ?_
          refine XS.aloadN X0.here hexec rfl (hb hbytes d10) rfl rfl ?_
          refine X0.alen hexec hA0 rfl rfl (hb hbytes d11) ?_
          refine XS.icmpNo X0.here hexec rfl (hb hbytes d12) rfl (ii_ge_f (lt32 (by omega) (by omega))) ?_
          refine XS.aloadN X0.here hexec rfl (hb hbytes d15) rfl rfl ?_
          refine XS.iloadN X0.here hexec rfl (hb hbytes d16) rfl ?_
          refine X0.aget hexec hA0 rfl (yv_get hA tA (i := i) (by omega)) rfl rfl (hb hbytes d17) ?_
          refine XS.aloadN X0.here hexec rfl (hb hbytes d18) rfl rfl ?_
          refine XS.iloadN X0.here hexec rfl (hb hbytes d19) rfl ?_
          refine X0.aget hexec hB0 rfl (yv_get hB tB (i := i) (by omega)) rfl rfl (hb hbytes d20) ?_
          exact Steps.refl _)
        by_cases hv : yv A i = yv B i
        · have c5 : Steps p.tables e below (s₁.setTop (entryFrame m #[.ref a, .ref b] 3)) (s₁.setTop (mkF m 9 #[.val (.ref a), .val (.ref b), .val (.int (Int32.ofNat i + 1))] [])) := c4.trans (by
            refine XS.icmpYes X0.here hexec rfl (pc0 := 21) rfl (hb hbytes d21) rfl (ii_eq_t hv) (by decide) rfl ?_
            refine iincV X0.here hexec rfl 1 (hb hbytes d26) (by decide) rfl rfl ?_
            refine XS.goto X0.here hexec rfl (pc0 := 29) rfl (hb hbytes d29) (by decide) rfl ?_
            exact Steps.refl _)
          rw [succ32] at c5
          exact ih (i + 1) (by omega) (fun j hj => by
            by_cases e : j = i
            · rw [e]; exact hv
            · exact he j (by omega)) c5
        · exact ⟨25, _, 0, Or.inl rfl, Or.inr ⟨rfl, fun q => hv (q.2 i (by omega))⟩, c4.trans (by
            refine XS.icmpNo X0.here hexec rfl (hb hbytes d21) rfl (ii_eq_f hv) ?_
            refine iconstV X0.here hexec rfl 0 (hb hbytes d24) (by decide) ?_
            exact Steps.refl _)⟩
    obtain ⟨pc, Ls, v, hpc, hv, cz⟩ := loop A.slots.size 0 (by omega) (fun j hj => absurd hj (Nat.not_lt_zero j)) c3
    have nv : narrow .boolean (.int v) = .int v := by rcases hv with ⟨rfl, -⟩ | ⟨rfl, -⟩ <;> rfl
    rcases hpc with rfl | rfl
    · exact ⟨s₁, some (.int v), _, _, _, X0, rfl, rfl, rfl, (fun h => by cases h), ⟨v, rfl, hh0, hv⟩, fun fs hl => cz.trans (X0.ireturnOut hexec hret nv (Or.inr (Or.inl rfl)) (hb hbytes d25) hl)⟩
    · exact ⟨s₁, some (.int v), _, _, _, X0, rfl, rfl, rfl, (fun h => by cases h), ⟨v, rfl, hh0, hv⟩, fun fs hl => cz.trans (X0.ireturnOut hexec hret nv (Or.inr (Or.inl rfl)) (hb hbytes d33) hl)⟩
  · have c3 : Steps p.tables e below (s₁.setTop (entryFrame m #[.ref a, .ref b] 3)) (s₁.setTop (mkF m 35 #[.val (.ref a), .val (.ref b), .unset] [.int 0])) := c2.trans (by
      refine XS.icmpYes X0.here hexec rfl (pc0 := 4) rfl (hb hbytes d4) rfl (ii_ne_t (ne32 a31 b31 hs)) (by decide) rfl ?_
      refine iconstV X0.here hexec rfl 0 (hb hbytes d34) (by decide) ?_
      exact Steps.refl _)
    exact ⟨s₁, some (.int 0), _, _, _, X0, rfl, rfl, rfl, (fun h => by cases h), ⟨0, rfl, hh0, Or.inr ⟨rfl, fun q => hs q.1⟩⟩, fun fs hl => c3.trans (X0.ireturnOut hexec hret rfl (Or.inr (Or.inl rfl)) (hb hbytes d35) hl)⟩
end LEq
theorem Cod.ty {cd : Int32} {n : Nat} {f : Nat → Int32} {V : Cell} (h : Cod cd n f V) : Typed .byte V := fun i v hv => by
  have hi : i < V.slots.size := (Array.getElem?_eq_some_iff.mp hv).1
  rcases h with ⟨-, k1, k2⟩ | ⟨-, k1, k2, -⟩
  · rw [(k2 i (by omega)).1] at hv; cases hv; exact fits_lo8 _
  · rcases Nat.mod_two_eq_zero_or_one i with e | e
    · obtain ⟨j, rfl⟩ : ∃ j, i = 2 * j := ⟨i / 2, by omega⟩
      rw [(k2 j (by omega)).1] at hv; cases hv; exact fits_lo8 _
    · obtain ⟨j, rfl⟩ : ∃ j, i = 2 * j + 1 := ⟨i / 2, by omega⟩
      rw [(k2 j (by omega)).2] at hv; cases hv; exact fits_lo8 _
/-- the same text -/
def SameT (n : Nat) (f : Nat → Int32) (k : Nat) (g : Nat → Int32) : Prop := n = k ∧ ∀ j, j < n → f j = g j
theorem lo8_inj {x y : Int32} (h0 : ¬ x < 0) (h1 : ¬ 255 < x) (k0 : ¬ y < 0) (k1 : ¬ 255 < y) (h : lo8 x = lo8 y) : x = y := by
  rw [← lo8_mask h0 h1, ← lo8_mask k0 k1, h]
/-- arrays coded by one coder are equal just where the texts are -/
theorem Cod.eqv {cd : Int32} {n k : Nat} {f g : Nat → Int32} {V V' : Cell} (h : Cod cd n f V) (h' : Cod cd k g V') (hf : ∀ j, j < n → ¬ f j < 0 ∧ ¬ 65535 < f j) (hg : ∀ j, j < k → ¬ g j < 0 ∧ ¬ 65535 < g j) : EqC V V' ↔ SameT n f k g := by
  have yvv : ∀ {W : Cell} {i : Nat} {x : Int32}, W.slots[i]? = some (.int x) → yv W i = x := fun q => by unfold yv; rw [q]
  rcases h with ⟨rfl, k1, k2⟩ | ⟨rfl, k1, k2, -⟩
  · rcases h' with ⟨-, m1, m2⟩ | ⟨e, -⟩
    · constructor
      · rintro ⟨e1, e2⟩
        refine ⟨by omega, fun j hj => ?_⟩
        have q := e2 j (by omega)
        rw [yvv (k2 j hj).1, yvv (m2 j (by omega)).1] at q
        exact lo8_inj (hf j hj).1 (k2 j hj).2 (hg j (by omega)).1 (m2 j (by omega)).2 q
      · rintro ⟨rfl, e2⟩
        refine ⟨by omega, fun j hj => ?_⟩
        rw [yvv (k2 j (by omega)).1, yvv (m2 j (by omega)).1, e2 j (by omega)]
    · exact absurd e (by decide)
  · rcases h' with ⟨e, -⟩ | ⟨-, m1, m2, -⟩
    · exact absurd e (by decide)
    · constructor
      · rintro ⟨e1, e2⟩
        refine ⟨by omega, fun j hj => ?_⟩
        have q1 := e2 (2 * j) (by omega)
        have q2 := e2 (2 * j + 1) (by omega)
        rw [yvv (k2 j hj).1, yvv (m2 j (by omega)).1] at q1
        rw [yvv (k2 j hj).2, yvv (m2 j (by omega)).2] at q2
        rw [← pair_says (hf j hj).1 (hf j hj).2, ← pair_says (hg j (by omega)).1 (hg j (by omega)).2, q1, q2]
      · rintro ⟨rfl, e2⟩
        refine ⟨by omega, fun i hi => ?_⟩
        rcases Nat.mod_two_eq_zero_or_one i with e | e
        · obtain ⟨j, rfl⟩ : ∃ j, i = 2 * j := ⟨i / 2, by omega⟩
          rw [yvv (k2 j (by omega)).1, yvv (m2 j (by omega)).1, e2 j (by omega)]
        · obtain ⟨j, rfl⟩ : ∃ j, i = 2 * j + 1 := ⟨i / 2, by omega⟩
          rw [yvv (k2 j (by omega)).2, yvv (m2 j (by omega)).2, e2 j (by omega)]
/-- two codings differ: so do the texts -/
theorem Cod.dif {cd cd' : Int32} {n k : Nat} {f g : Nat → Int32} {V V' : Cell} (h : Cod cd n f V) (h' : Cod cd' k g V') (hne : ¬ cd = cd') : ¬ SameT n f k g := by
  rintro ⟨rfl, e⟩
  rcases h with ⟨rfl, -, k2⟩ | ⟨rfl, -, -, j, hj, hw⟩
  · rcases h' with ⟨rfl, -⟩ | ⟨-, -, -, j, hj, hw⟩
    · exact hne rfl
    · exact (k2 j hj).2 (by rw [e j hj]; exact hw)
  · rcases h' with ⟨-, -, m2⟩ | ⟨rfl, -⟩
    · exact (m2 j hj).2 (by rw [← e j hj]; exact hw)
    · exact hne rfl
/-- an object of exactly C is an instance of C -/
theorem cinst {p : Program} {l : Launch} {e : Env} {R : Room} {s : State} {m : MethodId} {args : Array Value} {below : List Frame} {meth : Method} {c : Code} {T : State} {locs : List Loc} {cells slots : Nat} (X : Stand p l e R s m args below meth c T locs cells slots) (hexec : p.tables.exec = Jvm.exec) {own C : String} {index : Nat} (hown : s.vm.findClass own = some m.cls) (hlink : (Cond.classLink own index C).before args s = true) {a : Addr} (hE : Exact C a T)
    {g : JFrame} (hg : g.method = m) {rest : List Value} (hstack : g.stack = .ref a :: rest) (hdg : decode c.code g.pc = .ok (.instanceof index, 3)) :
    ∃ T', Stand p l e R s m args below meth c T' locs cells slots ∧ T'.heap = T.heap ∧ ∀ target, Steps p.tables e below (T'.setTop { g with pc := g.pc + 3, stack := .int 1 :: rest }) target → Steps p.tables e below (T.setTop g) target := by
  obtain ⟨cB, h1, D, h2, h3, h4⟩ := hE
  have h1' : s.vm.findClass C = some cB := by rw [← X.warmed.alike.findClass]; exact h1
  obtain ⟨vm', X', st⟩ := X.instanceofYes hexec hown hlink h2 h4 h1' (by rw [h3]; exact Jvm.Free.SB.assignable_self _ _) hg hstack hdg
  exact ⟨_, X', rfl, st⟩
theorem cself {p : Program} {l : Launch} {e : Env} {R : Room} {s : State} {m : MethodId} {args : Array Value} {below : List Frame} {meth : Method} {c : Code} {T : State} {locs : List Loc} {cells slots : Nat} (X : Stand p l e R s m args below meth c T locs cells slots) (hexec : p.tables.exec = Jvm.exec) {own C : String} {index : Nat} (hown : s.vm.findClass own = some m.cls) (hlink : (Cond.classLink own index C).before args s = true) {a : Addr} (hE : Exact C a T)
    {g : JFrame} (hg : g.method = m) {rest : List Value} (hstack : g.stack = .ref a :: rest) (hdg : decode c.code g.pc = .ok (.checkcast index, 3)) :
    ∃ T', Stand p l e R s m args below meth c T' locs cells slots ∧ T'.heap = T.heap ∧ ∀ target, Steps p.tables e below (T'.setTop { g with pc := g.pc + 3, stack := .ref a :: rest }) target → Steps p.tables e below (T.setTop g) target := by
  obtain ⟨cB, h1, D, h2, h3, h4⟩ := hE
  have h1' : s.vm.findClass C = some cB := by rw [← X.warmed.alike.findClass]; exact h1
  obtain ⟨vm', X', st⟩ := X.checkcastYes hexec hown hlink h2 h4 h1' (by rw [h3]; exact Jvm.Free.SB.assignable_self _ _) hg hstack hdg
  exact ⟨_, X', rfl, fun t h => st t (by rw [← hstack] at h; exact h)⟩
namespace SEq
def yN : MethodName := ⟨"java/lang/String", "equals", "(Ljava/lang/Object;)Z"⟩
abbrev yB : ByteArray := jdk_42_method_66_code
theorem d0 : decode yB 0 = .ok (.aload_n 0, 1) := by decide +kernel
theorem d1 : decode yB 1 = .ok (.aload_n 1, 1) := by decide +kernel
theorem d2 : decode yB 2 = .ok (.if_acmp (.ne) 5, 3) := by decide +kernel
theorem d5 : decode yB 5 = .ok (.iconst 1, 1) := by decide +kernel
theorem d6 : decode yB 6 = .ok (.ireturn, 1) := by decide +kernel
theorem d7 : decode yB 7 = .ok (.aload_n 1, 1) := by decide +kernel
theorem d8 : decode yB 8 = .ok (.instanceof 10, 3) := by decide +kernel
theorem d11 : decode yB 11 = .ok (.ifCond (.eq) 43, 3) := by decide +kernel
theorem d14 : decode yB 14 = .ok (.aload_n 1, 1) := by decide +kernel
theorem d15 : decode yB 15 = .ok (.checkcast 10, 3) := by decide +kernel
theorem d18 : decode yB 18 = .ok (.astore_n 2, 1) := by decide +kernel
theorem d19 : decode yB 19 = .ok (.getstatic 38, 3) := by decide +kernel
theorem d22 : decode yB 22 = .ok (.ifCond (.eq) 14, 3) := by decide +kernel
theorem d25 : decode yB 25 = .ok (.aload_n 0, 1) := by decide +kernel
theorem d26 : decode yB 26 = .ok (.getfield 15, 3) := by decide +kernel
theorem d29 : decode yB 29 = .ok (.aload_n 2, 1) := by decide +kernel
theorem d30 : decode yB 30 = .ok (.getfield 15, 3) := by decide +kernel
theorem d33 : decode yB 33 = .ok (.if_icmp (.ne) 21, 3) := by decide +kernel
theorem d36 : decode yB 36 = .ok (.aload_n 0, 1) := by decide +kernel
theorem d37 : decode yB 37 = .ok (.getfield 9, 3) := by decide +kernel
theorem d40 : decode yB 40 = .ok (.aload_n 2, 1) := by decide +kernel
theorem d41 : decode yB 41 = .ok (.getfield 9, 3) := by decide +kernel
theorem d44 : decode yB 44 = .ok (.invokestatic 541, 3) := by decide +kernel
theorem d47 : decode yB 47 = .ok (.ifCond (.eq) 7, 3) := by decide +kernel
theorem d50 : decode yB 50 = .ok (.iconst 1, 1) := by decide +kernel
theorem d51 : decode yB 51 = .ok (.goto 4, 3) := by decide +kernel
theorem d54 : decode yB 54 = .ok (.iconst 0, 1) := by decide +kernel
theorem d55 : decode yB 55 = .ok (.ireturn, 1) := by decide +kernel
def site : List Cond := [.classLink "java/lang/String" 10 "java/lang/String", .fieldLink "java/lang/String" 38 "java/lang/String" "COMPACT_STRINGS" "Z", .fieldLink "java/lang/String" 15 "java/lang/String" "coder" "B", .fieldLink "java/lang/String" 9 "java/lang/String" "value" "[B", LEq.tab] ++ staticW "java/lang/String" 541 LEq.yN
def tab : Cond := tabOf yN yB 3 (some .boolean) site
def P (x t : Addr) (V : Cell) (cd : Int32) (n : Nat) (f : Nat → Int32) (y t' : Addr) (V' : Cell) (cd' : Int32) (k : Nat) (g : Nat → Int32) (z : Int32) (args : Array Value) (s : State) : Prop := args = #[.ref x, .ref y] ∧ Txt x t V cd n f s ∧ Txt y t' V' cd' k g s ∧ StaticIs s "java/lang/String" "COMPACT_STRINGS" "Z" (.int z) ∧ ¬ z = 0
/-- equals(Object) of two Strings: whether the texts are the same -/
theorem law (l : Launch) (x t : Addr) (V : Cell) (cd : Int32) (n : Nat) (f : Nat → Int32) (y t' : Addr) (V' : Cell) (cd' : Int32) (k : Nat) (g : Nat → Int32) (z : Int32) : Law l yN 2 1 1 14 yB 3 (some .boolean) site (P x t V cd n f y t' V' cd' k g z) (Says01 (SameT n f k g)) [] 0 0 := by
  refine Law.of_walk (plainFor_of_name (by decide +kernel)) (by decide +kernel) (by decide +kernel) (by decide) (fun _ _ h => by rw [h.1]; rfl) (fun _ U U' hal hh h => ⟨h.1, h.2.1.mv hal hh, h.2.2.1.mv hal hh, h.2.2.2.1.there hal hh, h.2.2.2.2⟩) (fun r U U' V V' h1 hal h2 h => Says01.mv r U U' V V' h1 hal h2 h) ?_
  intro p e s m args below meth c s₁ X0 hexec hbytes hml hret hlk hnm hown hh0 W hP
  obtain ⟨rfl, hx, hy, s1, hz⟩ := hP
  have c1 : Steps p.tables e below (s₁.setTop (entryFrame m #[.ref x, .ref y] 3)) (s₁.setTop (mkF m 2 #[.val (.ref x), .val (.ref y), .unset] [.ref y, .ref x])) := Steps.trans (entry rfl) (by
    show Steps p.tables e below (s₁.setTop (mkF m 0 #[.val (.ref x), .val (.ref y), .unset] [])) _
    refine XS.aloadN X0.here hexec rfl (hb hbytes d0) rfl rfl ?_
    refine XS.aloadN X0.here hexec rfl (hb hbytes d1) rfl rfl ?_
    exact Steps.refl _)
  by_cases hxy : x = y
  · have c2 : Steps p.tables e below (s₁.setTop (entryFrame m #[.ref x, .ref y] 3)) (s₁.setTop (mkF m 6 #[.val (.ref x), .val (.ref y), .unset] [.int 1])) := c1.trans (by
      refine acmpNo X0.here hexec rfl (hb hbytes d2) rfl rfl rfl (by simp [acmp, hxy]) ?_
      refine iconstV X0.here hexec rfl 1 (hb hbytes d5) (by decide) ?_
      exact Steps.refl _)
    subst hxy
    have ec : cd = cd' := by
      obtain ⟨D, fd, a1, a2, a3⟩ := hx.2.2.1
      obtain ⟨D', fd', b1, b2, b3⟩ := hy.2.2.1
      cases a1.symm.trans b1
      obtain ⟨q1, q2, q3, q4⟩ := a2.1
      obtain ⟨r1, r2, r3, r4⟩ := b2.1
      cases q4.symm.trans r4
      cases a3.symm.trans b3; rfl
    have et : t = t' := by
      obtain ⟨D, fd, a1, a2, a3⟩ := hx.2.1
      obtain ⟨D', fd', b1, b2, b3⟩ := hy.2.1
      cases a1.symm.trans b1
      obtain ⟨q1, q2, q3, q4⟩ := a2.1
      obtain ⟨r1, r2, r3, r4⟩ := b2.1
      cases q4.symm.trans r4
      cases a3.symm.trans b3; rfl
    subst ec et
    have ev : V = V' := by cases hx.2.2.2.1.1.symm.trans hy.2.2.2.1.1; rfl
    subst ev
    have hs : SameT n f k g := (Cod.eqv hx.2.2.2.2.1 hy.2.2.2.2.1 hx.2.2.2.2.2 hy.2.2.2.2.2).mp ⟨rfl, fun _ _ => rfl⟩
    exact ⟨s₁, some (.int 1), _, _, _, X0, rfl, rfl, rfl, (fun h => by cases h), ⟨1, rfl, hh0, Or.inl ⟨rfl, hs⟩⟩, fun fs hl => c2.trans (X0.ireturnOut hexec hret rfl (Or.inr (Or.inl rfl)) (hb hbytes d6) hl)⟩
  · have c2 : Steps p.tables e below (s₁.setTop (entryFrame m #[.ref x, .ref y] 3)) (s₁.setTop (mkF m 8 #[.val (.ref x), .val (.ref y), .unset] [.ref y])) := c1.trans (by
      refine acmpYes X0.here hexec rfl (pc0 := 2) rfl (hb hbytes d2) rfl rfl rfl (by simp [acmp, hxy]) (by decide) rfl ?_
      refine XS.aloadN X0.here hexec rfl (hb hbytes d7) rfl rfl ?_
      exact Steps.refl _)
    obtain ⟨T3, X3, q3, st3⟩ := cinst X0 hexec hown (wk W (.classLink "java/lang/String" 10 "java/lang/String")) (hy.mv X0.warmed.alike hh0).1 (g := (mkF m 8 #[.val (.ref x), .val (.ref y), .unset] [.ref y])) rfl (rest := []) rfl (hb hbytes d8)
    have hh3 := q3.trans hh0
    have c4 : Steps p.tables e below (s₁.setTop (entryFrame m #[.ref x, .ref y] 3)) (T3.setTop (mkF m 15 #[.val (.ref x), .val (.ref y), .unset] [.ref y])) := (c2.trans (st3 _ (Steps.refl _))).trans (by
      refine XS.ifNo X3.here hexec rfl (hb hbytes d11) rfl (i0_eq_f (by decide)) ?_
      refine XS.aloadN X3.here hexec rfl (hb hbytes d14) rfl rfl ?_
      exact Steps.refl _)
    obtain ⟨T5, X5, q5, st5⟩ := cself X3 hexec hown (wk W (.classLink "java/lang/String" 10 "java/lang/String")) (hy.mv X3.warmed.alike hh3).1 (g := (mkF m 15 #[.val (.ref x), .val (.ref y), .unset] [.ref y])) rfl (rest := []) rfl (hb hbytes d15)
    have hh5 := q5.trans hh3
    have c6 : Steps p.tables e below (s₁.setTop (entryFrame m #[.ref x, .ref y] 3)) (T5.setTop (mkF m 19 #[.val (.ref x), .val (.ref y), .val (.ref y)] [])) := (c4.trans (st5 _ (Steps.refl _))).trans (by
      refine XS.astoreN X5.here hexec rfl (hb hbytes d18) rfl rfl rfl ?_
      exact Steps.refl _)
    obtain ⟨T7, X7, q7, st7⟩ := X5.sget hexec hown (wk W (.fieldLink "java/lang/String" 38 "java/lang/String" "COMPACT_STRINGS" "Z")) s1 (fun _ _ h => by rw [hh5]; exact h) (g := (mkF m 19 #[.val (.ref x), .val (.ref y), .val (.ref y)] [])) rfl (hb hbytes d19)
    have hh7 := q7.trans hh5
    have c8 : Steps p.tables e below (s₁.setTop (entryFrame m #[.ref x, .ref y] 3)) (T7.setTop (mkF m 26 #[.val (.ref x), .val (.ref y), .val (.ref y)] [.ref x])) := (c6.trans (st7 _ (Steps.refl _))).trans (by
      refine XS.ifNo X7.here hexec rfl (hb hbytes d22) rfl (i0_eq_f hz) ?_
      refine XS.aloadN X7.here hexec rfl (hb hbytes d25) rfl rfl ?_
      exact Steps.refl _)
    obtain ⟨T9, X9, q9, st9⟩ := X7.hget hexec hown (wk W (.fieldLink "java/lang/String" 15 "java/lang/String" "coder" "B")) (hx.mv X7.warmed.alike hh7).2.2.1 (g := (mkF m 26 #[.val (.ref x), .val (.ref y), .val (.ref y)] [.ref x])) rfl (rest := []) rfl (hb hbytes d26)
    have hh9 := q9.trans hh7
    have c10 : Steps p.tables e below (s₁.setTop (entryFrame m #[.ref x, .ref y] 3)) (T9.setTop (mkF m 30 #[.val (.ref x), .val (.ref y), .val (.ref y)] [.ref y, .int cd])) := (c8.trans (st9 _ (Steps.refl _))).trans (by
      refine XS.aloadN X9.here hexec rfl (hb hbytes d29) rfl rfl ?_
      exact Steps.refl _)
    obtain ⟨T11, X11, q11, st11⟩ := X9.hget hexec hown (wk W (.fieldLink "java/lang/String" 15 "java/lang/String" "coder" "B")) (hy.mv X9.warmed.alike hh9).2.2.1 (g := (mkF m 30 #[.val (.ref x), .val (.ref y), .val (.ref y)] [.ref y, .int cd])) rfl (rest := [.int cd]) rfl (hb hbytes d30)
    have hh11 := q11.trans hh9
    have c12 : Steps p.tables e below (s₁.setTop (entryFrame m #[.ref x, .ref y] 3)) (T11.setTop (mkF m 33 #[.val (.ref x), .val (.ref y), .val (.ref y)] [.int cd', .int cd])) := c10.trans (st11 _ (Steps.refl _))
    by_cases hcd : cd = cd'
    · subst hcd
      have c13 : Steps p.tables e below (s₁.setTop (entryFrame m #[.ref x, .ref y] 3)) (T11.setTop (mkF m 37 #[.val (.ref x), .val (.ref y), .val (.ref y)] [.ref x])) := c12.trans (by
        refine XS.icmpNo X11.here hexec rfl (hb hbytes d33) rfl (ii_ne_f rfl) ?_
        refine XS.aloadN X11.here hexec rfl (hb hbytes d36) rfl rfl ?_
        exact Steps.refl _)
      obtain ⟨T14, X14, q14, st14⟩ := X11.hget hexec hown (wk W (.fieldLink "java/lang/String" 9 "java/lang/String" "value" "[B")) (hx.mv X11.warmed.alike hh11).2.1 (g := (mkF m 37 #[.val (.ref x), .val (.ref y), .val (.ref y)] [.ref x])) rfl (rest := []) rfl (hb hbytes d37)
      have hh14 := q14.trans hh11
      have c15 : Steps p.tables e below (s₁.setTop (entryFrame m #[.ref x, .ref y] 3)) (T14.setTop (mkF m 41 #[.val (.ref x), .val (.ref y), .val (.ref y)] [.ref y, .ref t])) := (c13.trans (st14 _ (Steps.refl _))).trans (by
        refine XS.aloadN X14.here hexec rfl (hb hbytes d40) rfl rfl ?_
        exact Steps.refl _)
      obtain ⟨T16, X16, q16, st16⟩ := X14.hget hexec hown (wk W (.fieldLink "java/lang/String" 9 "java/lang/String" "value" "[B")) (hy.mv X14.warmed.alike hh14).2.1 (g := (mkF m 41 #[.val (.ref x), .val (.ref y), .val (.ref y)] [.ref y, .ref t])) rfl (rest := [.ref t]) rfl (hb hbytes d41)
      have hh16 := q16.trans hh14
      have c17 : Steps p.tables e below (s₁.setTop (entryFrame m #[.ref x, .ref y] 3)) (T16.setTop (mkF m 44 #[.val (.ref x), .val (.ref y), .val (.ref y)] [.ref t', .ref t])) := c15.trans (st16 _ (Steps.refl _))
      obtain ⟨v18, T18, X18, E18, g18⟩ := X16.callS hexec (LEq.law l t V t' V') hown (wks W (staticW "java/lang/String" 541 LEq.yN)) (wk W LEq.tab) (W := 0) (Nat.le_of_ble_eq_true rfl) (Nat.le_of_ble_eq_true rfl) (Nat.le_refl _) (Nat.le_refl _) (g := (mkF m 44 #[.val (.ref x), .val (.ref y), .val (.ref y)] [.ref t', .ref t])) rfl (by rw [hml]; rfl) c17 (argsL := [.ref t, .ref t']) (rest := []) rfl rfl (by show 2 * 0 + 0 ≤ _; decide) (hb hbytes d44) (⟨rfl, hx.2.2.2.1.mv X16.warmed.alike hh16, hx.2.2.2.2.1.ty, hy.2.2.2.1.mv X16.warmed.alike hh16, hy.2.2.2.2.1.ty⟩)
      obtain ⟨v, rfl, q18, hv⟩ := E18
      have iff := Cod.eqv hx.2.2.2.2.1 hy.2.2.2.2.1 hx.2.2.2.2.2 hy.2.2.2.2.2
      rcases hv with ⟨rfl, he⟩ | ⟨rfl, he⟩
      · have c19 : Steps p.tables e below (s₁.setTop (entryFrame m #[.ref x, .ref y] 3)) (T18.setTop (mkF m 55 #[.val (.ref x), .val (.ref y), .val (.ref y)] [.int 1])) := Steps.trans g18 (by
          refine XS.ifNo X18.here hexec rfl (hb hbytes d47) rfl (i0_eq_f (by decide)) ?_
          refine iconstV X18.here hexec rfl 1 (hb hbytes d50) (by decide) ?_
          refine XS.goto X18.here hexec rfl (pc0 := 51) rfl (hb hbytes d51) (by decide) rfl ?_
          exact Steps.refl _)
        exact ⟨T18, some (.int 1), _, _, _, X18, rfl, rfl, rfl, (fun h => by cases h), ⟨1, rfl, q18.trans hh16, Or.inl ⟨rfl, iff.mp he⟩⟩, fun fs hl => c19.trans (X18.ireturnOut hexec hret rfl (Or.inr (Or.inl rfl)) (hb hbytes d55) hl)⟩
      · have c19 : Steps p.tables e below (s₁.setTop (entryFrame m #[.ref x, .ref y] 3)) (T18.setTop (mkF m 55 #[.val (.ref x), .val (.ref y), .val (.ref y)] [.int 0])) := Steps.trans g18 (by
          refine XS.ifYes X18.here hexec rfl (pc0 := 47) rfl (hb hbytes d47) rfl (i0_eq_t rfl) (by decide) rfl ?_
          refine iconstV X18.here hexec rfl 0 (hb hbytes d54) (by decide) ?_
          exact Steps.refl _)
        exact ⟨T18, some (.int 0), _, _, _, X18, rfl, rfl, rfl, (fun h => by cases h), ⟨0, rfl, q18.trans hh16, Or.inr ⟨rfl, fun q => he (iff.mpr q)⟩⟩, fun fs hl => c19.trans (X18.ireturnOut hexec hret rfl (Or.inr (Or.inl rfl)) (hb hbytes d55) hl)⟩
    · have c13 : Steps p.tables e below (s₁.setTop (entryFrame m #[.ref x, .ref y] 3)) (T11.setTop (mkF m 55 #[.val (.ref x), .val (.ref y), .val (.ref y)] [.int 0])) := c12.trans (by
        refine XS.icmpYes X11.here hexec rfl (pc0 := 33) rfl (hb hbytes d33) rfl (ii_ne_t hcd) (by decide) rfl ?_
        refine iconstV X11.here hexec rfl 0 (hb hbytes d54) (by decide) ?_
        exact Steps.refl _)
      exact ⟨T11, some (.int 0), _, _, _, X11, rfl, rfl, rfl, (fun h => by cases h), ⟨0, rfl, hh11, Or.inr ⟨rfl, Cod.dif hx.2.2.2.2.1 hy.2.2.2.2.1 hcd⟩⟩, fun fs hl => c13.trans (X11.ireturnOut hexec hret rfl (Or.inr (Or.inl rfl)) (hb hbytes d55) hl)⟩
theorem pays {l : Launch} {R : Room} {p : Program} {e : Env} {below : List Frame} {s : State} {sargs : Array Value} {len W : Nat} (x t : Addr) (V : Cell) (cd : Int32) (n : Nat) (f : Nat → Int32) (y t' : Addr) (V' : Cell) (cd' : Int32) (k : Nat) (g : Nat → Int32) (z : Int32) (htab : tab.before sargs s = true) (hfr : 2 ≤ R.frames) (hlo : W + 28 ≤ R.locals) :
    Back l R p e below s sargs yN len W (fun A₁ a₁ => A₁.cells + 0 ≤ R.cells ∧ A₁.slots + 0 ≤ R.slots ∧ P x t V cd n f y t' V' cd' k g z a₁ A₁.U) (fun A₁ _ v₁ B₁ => Says01 (SameT n f k g) v₁ A₁.U B₁.U ∧ B₁.locs = A₁.locs ++ [] ∧ B₁.cells = A₁.cells + 0 ∧ B₁.slots = A₁.slots + 0) :=
  (law l x t V cd n f y t' V' cd' k g z).pays htab hfr (by omega)
end SEq
end StrChars
namespace StrChars.Road
open Jvm Sem ClassFile Op Lib Jvm.Stand Jvm.Free Jvm.Free.XT
open Jvm.Lib.Cold (StaticIs)
/-- the words of String.equals(Object) -/
abbrev wordsEq : List Jvm.Cond := [.code SEq.yN SEq.yB 3 (some .boolean), .initialized ST, .classLink ST 10 ST, .fieldLink ST 38 ST "COMPACT_STRINGS" "Z", .fieldLink ST 15 ST "coder" "B", .fieldLink ST 9 ST "value" "[B", .methodLink ST 541 LEq.yN, .static LEq.yN, .code LEq.yN LEq.yB 3 (some .boolean), .initialized "java/lang/StringLatin1"]
theorem tabEq_of {a : Array Value} {s : State} (h : ∀ w ∈ wordsEq, w.before a s = true) : SEq.tab.before a s = true := by
  have hl : LEq.tab.before a s = true := unparts (wk h (.code LEq.yN LEq.yB 3 (some .boolean))) (wks h (.initialized LEq.yN.cls :: LEq.site))
  have q := consq hl h
  exact unparts (wk q (.code SEq.yN SEq.yB 3 (some .boolean))) (wks q (.initialized SEq.yN.cls :: SEq.site))
theorem movedEq {Z s : State} {a0 args : Array Value} (hZ : Z.Warmed39 s.vm) (hw : ∀ d ∈ wordsEq, d.before a0 Z = true) : ∀ d ∈ wordsEq, d.before args s = true := fun d hd => by
  have t : ∀ d ∈ wordsEq, (d.onTables && d.keepsFace) = true := by decide +kernel
  exact RoadKit.mv hZ (hw d hd) (t d hd)
/-- the road's facts of a String, as the laws ask it -/
theorem txt_of {Z U : State} {a0 : Array Value} {kI : Nat} (wi : (Jvm.Cond.instantiable ST kI).before a0 Z = true) (al : Z.vm.Alike U.vm) {x t : Addr} {kb : ClassId} {cs : List Int32} {cd N2 : Int32} {vs : List Value} (E : RoadKit.Exa Z U.heap x ST) (V : RoadKit.Fld Z U.heap x ST "value" "[B" (.ref t)) (C : RoadKit.Fld Z U.heap x ST "coder" "B" (.int cd)) (K : RoadKit.Arv Z U.heap t kb .byte N2 vs (.int 0)) (hc : CodA cs cd N2 vs) (hb : ∀ c ∈ cs, ¬ c < 0 ∧ ¬ (65535 : Int32) < c) (l2 : cs.length ≤ 4000) :
    ∃ A, Txt x t A cd cs.length (fun j => cs.getD j 0) U := by
  obtain ⟨A, K1, K2, K3, K4, K5, K6⟩ := K
  have hcod := hc.cod (by omega) K3 K5
  obtain ⟨D, fV, fC, hB, F1, F2, g1, g2, -, -⟩ := strObj wi al E V C
  exact ⟨A, ⟨_, hB.2.2.1, D, hB.1, rfl, by cases q : D.vm <;> first | rfl | exact absurd q (hB.2.1.2 _)⟩, Has.of hB F1 g1, Has.of hB F2 g2, ⟨K1.1, State.isArrayOf_alike al K1.2.1, K1.2.2, by rcases hcod with ⟨-, q, -⟩ | ⟨-, q, -⟩ <;> omega⟩, hcod, fun j hj => by
    have e : cs.getD j 0 = cs[j] := by simp [List.getD_eq_getElem?_getD, hj]
    show ¬ cs.getD j 0 < 0 ∧ ¬ 65535 < cs.getD j 0
    rw [e]; exact hb _ (List.getElem_mem _)⟩
theorem same_list (cs ds : List Int32) : SameT cs.length (fun j => cs.getD j 0) ds.length (fun j => ds.getD j 0) ↔ cs = ds := by
  constructor
  · rintro ⟨e, q⟩
    refine List.ext_getElem e fun j h1 h2 => ?_
    have := q j h1
    simpa [List.getD_eq_getElem?_getD, h1, h2] using this
  · rintro rfl
    exact ⟨rfl, fun _ _ => rfl⟩
/-- **equals(Object) OF TWO SUCH STRINGS**: 1 just where the chars are the same -/
theorem eqW {p : Program} {l : Launch} {e : Env} {R : Room} {s : State} {args : Array Value} {below : List Frame} {len W : Nat} {Z : State} {a0 : Array Value} {h : Heap} (hZ : Z.Warmed39 s.vm) (hw : ∀ d ∈ wordsEq, d.before a0 Z = true) {kI : Nat} (wi : (Jvm.Cond.instantiable ST kI).before a0 Z = true)
    {x t : Addr} {kb : ClassId} {cs : List Int32} {cd N2 : Int32} {vs : List Value} (E : RoadKit.Exa Z h x ST) (V : RoadKit.Fld Z h x ST "value" "[B" (.ref t)) (C : RoadKit.Fld Z h x ST "coder" "B" (.int cd)) (K : RoadKit.Arv Z h t kb .byte N2 vs (.int 0)) (hc : CodA cs cd N2 vs) (hb : ∀ c ∈ cs, ¬ c < 0 ∧ ¬ (65535 : Int32) < c) (l2 : cs.length ≤ 4000)
    {y t' : Addr} {kb' : ClassId} {ds : List Int32} {cd' N2' : Int32} {vs' : List Value} (E' : RoadKit.Exa Z h y ST) (V' : RoadKit.Fld Z h y ST "value" "[B" (.ref t')) (C' : RoadKit.Fld Z h y ST "coder" "B" (.int cd')) (K' : RoadKit.Arv Z h t' kb' .byte N2' vs' (.int 0)) (hc' : CodA ds cd' N2' vs') (hb' : ∀ c ∈ ds, ¬ c < 0 ∧ ¬ (65535 : Int32) < c) (l2' : ds.length ≤ 4000)
    {z : Int32} (S : RoadKit.Sta Z h ST "COMPACT_STRINGS" "Z" (.int z)) (hz : ¬ z = 0) (hfr : 2 ≤ R.frames) (hlo : W + 28 ≤ R.locals) :
    Back l R p e below s args (⟨"java/lang/String", "equals", "(Ljava/lang/Object;)Z"⟩ : MethodName) len W (fun P a => a = #[.ref x, .ref y] ∧ P.U.heap = h ∧ P.cells + 0 ≤ R.cells ∧ P.slots + 0 ≤ R.slots)
      (fun P _ v B => ∃ L, (((v = some (.int 1) ∧ cs = ds) ∨ (v = some (.int 0) ∧ ¬ cs = ds)) ∧ L = [] ∧ B.U.heap = h) ∧ B.locs = P.locs ++ L ∧ B.cells = P.cells + 0 ∧ B.slots = P.slots + 0) := by
  intro m meth c P g ig mk a X hg hsize hdg hW hn hp'
  obtain ⟨rfl, rfl, r1, r2⟩ := hp'
  have al : Z.vm.Alike P.U.vm := hZ.alike.trans X.warmed.alike
  obtain ⟨A, hx⟩ := txt_of wi al E V C K hc hb l2
  obtain ⟨A', hy⟩ := txt_of wi al E' V' C' K' hc' hb' l2'
  obtain ⟨v, B, X', ⟨⟨w, hv, hh, hq⟩, hl, hk, hs⟩, st⟩ := SEq.pays x t A cd cs.length (fun j => cs.getD j 0) y t' A' cd' ds.length (fun j => ds.getD j 0) z (tabEq_of (movedEq hZ hw)) hfr hlo m meth c P g ig mk _ X hg hsize hdg hW hn ⟨r1, r2, rfl, hx, hy, sta_is al S, hz⟩
  refine ⟨v, B, X', ⟨[], ⟨?_, rfl, hh⟩, hl, hk, hs⟩, st⟩
  rcases hq with ⟨rfl, q⟩ | ⟨rfl, q⟩
  · exact Or.inl ⟨hv, (same_list cs ds).mp q⟩
  · exact Or.inr ⟨hv, fun e => q ((same_list cs ds).mpr e)⟩
end StrChars.Road
namespace StrChars
open Jvm Sem ClassFile Op Lib Jvm.Stand Jvm.Free.XT Jvm.Free.ALB Jvm.Free.JM Jvm.Free
open Jvm.Lib.Cold (StaticIs)
namespace ChN
def yN : MethodName := ⟨"java/lang/String", "charAt", "(I)C"⟩
abbrev yB : ByteArray := jdk_42_method_56_code
theorem d0 : decode yB 0 = .ok (.aload_n 0, 1) := by decide +kernel
theorem d1 : decode yB 1 = .ok (.invokevirtual 492, 3) := by decide +kernel
theorem d4 : decode yB 4 = .ok (.ifCond (.eq) 12, 3) := by decide +kernel
theorem d7 : decode yB 7 = .ok (.aload_n 0, 1) := by decide +kernel
theorem d8 : decode yB 8 = .ok (.getfield 9, 3) := by decide +kernel
theorem d11 : decode yB 11 = .ok (.iload_n 1, 1) := by decide +kernel
theorem d12 : decode yB 12 = .ok (.invokestatic 495, 3) := by decide +kernel
theorem d15 : decode yB 15 = .ok (.ireturn, 1) := by decide +kernel
def site : List Cond := [.fieldLink "java/lang/String" 9 "java/lang/String" "value" "[B", IsL.tab, LChA.tab] ++ virtW "java/lang/String" 492 "java/lang/String" IsL.yN IsL.yN ++ staticW "java/lang/String" 495 LChA.yN
def tab : Cond := tabOf yN yB 2 (some .char) site
def P (x t : Addr) (V : Cell) (n : Nat) (f : Nat → Int32) (z : Int32) (fm : Value) (i : Nat) (args : Array Value) (s : State) : Prop := args = #[.ref x, .int (Int32.ofNat i)] ∧ Txt x t V 0 n f s ∧ i < n ∧ StaticIs s "java/lang/String" "COMPACT_STRINGS" "Z" (.int z) ∧ ¬ z = 0 ∧ StaticIs s "jdk/internal/util/Preconditions" "SIOOBE_FORMATTER" "Ljava/util/function/BiFunction;" fm ∧ fm.isRef = true
def E (f : Nat → Int32) (i : Nat) (r : Option Value) (s u : State) : Prop := XT.PureE (some (.int (f i))) r s u
/-- charAt(i) of a Latin-1 String of n chars, i < n: f i -/
theorem law (l : Launch) (x t : Addr) (V : Cell) (n : Nat) (f : Nat → Int32) (z : Int32) (fm : Value) (i : Nat) : Law l yN 2 1 3 40 yB 2 (some .char) site (P x t V n f z fm i) (E f i) [] 0 0 := by
  refine Law.of_walk (plainFor_of_name (by decide +kernel)) (by decide +kernel) (by decide +kernel) (by decide) (fun _ _ h => by rw [h.1]; rfl) (fun _ U U' hal hh h => ⟨h.1, h.2.1.mv hal hh, h.2.2.1, h.2.2.2.1.there hal hh, h.2.2.2.2.1, h.2.2.2.2.2.1.there hal hh, h.2.2.2.2.2.2⟩) (fun r U U' V V' h1 hal h2 h => XT.PureE.mv r U U' V V' h1 hal h2 h) ?_
  intro p e s m args below meth c s₁ X0 hexec hbytes hml hret hlk hnm hown hh0 W hP
  obtain ⟨rfl, hx, hi, s1, hz, s3, rf⟩ := hP
  have v31 := hx.2.2.2.1.2.2.2
  have hr := hx.2.2.2.2.2 i hi
  have hx0 := hx.mv X0.warmed.alike hh0
  have c1 : Steps p.tables e below (s₁.setTop (entryFrame m #[.ref x, .int (Int32.ofNat i)] 2)) (s₁.setTop (mkF m 1 #[.val (.ref x), .val (.int (Int32.ofNat i))] [.ref x])) := Steps.trans (entry rfl) (by
    show Steps p.tables e below (s₁.setTop (mkF m 0 #[.val (.ref x), .val (.int (Int32.ofNat i))] [])) _
    refine XS.aloadN X0.here hexec rfl (hb hbytes d0) rfl rfl ?_
    exact Steps.refl _)
  obtain ⟨v2, T2, X2, E2, g2⟩ := X0.callV hexec (IsL.law l x 0 z) hown (wks W (virtW "java/lang/String" 492 "java/lang/String" IsL.yN IsL.yN)) rfl (by decide) (wk W IsL.tab) (W := 0) (Nat.le_of_ble_eq_true rfl) (Nat.le_of_ble_eq_true rfl) (Nat.le_refl _) (Nat.le_refl _) (hx0.1.fc X0.warmed.alike) hx0.1.is (g := (mkF m 1 #[.val (.ref x), .val (.int (Int32.ofNat i))] [.ref x])) rfl (by rw [hml]; rfl) c1 (argsL := []) (rest := []) rfl rfl (by show 2 * 0 + 0 ≤ _; decide) (hb hbytes d1) (⟨rfl, hx0.2.2.1, hx.2.2.2.2.1.cd, s1.there X0.warmed.alike hh0, hz⟩)
  obtain ⟨rfl, q2⟩ := E2
  have hh2 := q2.trans hh0
  have hx2 := hx.mv X2.warmed.alike hh2
  obtain ⟨-, k1, k2⟩ | ⟨k0, -⟩ := hx.2.2.2.2.1
  · have c3 : Steps p.tables e below (s₁.setTop (entryFrame m #[.ref x, .int (Int32.ofNat i)] 2)) (T2.setTop (mkF m 8 #[.val (.ref x), .val (.int (Int32.ofNat i))] [.ref x])) := Steps.trans g2 (by
      refine XS.ifNo X2.here hexec rfl (hb hbytes d4) rfl (i0_eq_f (by decide)) ?_
      refine XS.aloadN X2.here hexec rfl (hb hbytes d7) rfl rfl ?_
      exact Steps.refl _)
    obtain ⟨T4, X4, q4, st4⟩ := X2.hget hexec hown (wk W (.fieldLink "java/lang/String" 9 "java/lang/String" "value" "[B")) hx2.2.1 (g := (mkF m 8 #[.val (.ref x), .val (.int (Int32.ofNat i))] [.ref x])) rfl (rest := []) rfl (hb hbytes d8)
    have hh4 := q4.trans hh2
    have c5 : Steps p.tables e below (s₁.setTop (entryFrame m #[.ref x, .int (Int32.ofNat i)] 2)) (T4.setTop (mkF m 12 #[.val (.ref x), .val (.int (Int32.ofNat i))] [.int (Int32.ofNat i), .ref t])) := (c3.trans (st4 _ (Steps.refl _))).trans (by
      refine XS.iloadN X4.here hexec rfl (hb hbytes d11) rfl ?_
      exact Steps.refl _)
    obtain ⟨v6, T6, X6, E6, g6⟩ := X4.callS hexec (LChA.law l t V i (lo8 (f i)) fm) hown (wks W (staticW "java/lang/String" 495 LChA.yN)) (wk W LChA.tab) (W := 0) (Nat.le_of_ble_eq_true rfl) (Nat.le_of_ble_eq_true rfl) (Nat.le_refl _) (Nat.le_refl _) (g := (mkF m 12 #[.val (.ref x), .val (.int (Int32.ofNat i))] [.int (Int32.ofNat i), .ref t])) rfl (by rw [hml]; rfl) c5 (argsL := [.ref t, .int (Int32.ofNat i)]) (rest := []) rfl rfl (by show 2 * 0 + 0 ≤ _; decide) (hb hbytes d12) (⟨rfl, hx.2.2.2.1.mv X4.warmed.alike hh4, (k2 i hi).1, s3.there X4.warmed.alike hh4, rf⟩)
    obtain ⟨rfl, q6⟩ := E6
    rw [chr8_lo8 hr.1 (k2 i hi).2] at g6
    exact ⟨T6, some (.int (f i)), _, _, _, X6, rfl, rfl, rfl, (fun h => by cases h), ⟨rfl, q6.trans hh4⟩, fun fs hl => Steps.trans g6 (X6.ireturnOut hexec hret (narrow_ch hr.1 hr.2) (Or.inr (Or.inr (Or.inr (Or.inl rfl)))) (hb hbytes d15) hl)⟩
  · exact absurd k0 (by decide)
theorem pays {l : Launch} {R : Room} {p : Program} {e : Env} {below : List Frame} {s : State} {sargs : Array Value} {len W : Nat} (x t : Addr) (V : Cell) (n : Nat) (f : Nat → Int32) (z : Int32) (fm : Value) (i : Nat) (htab : tab.before sargs s = true) (hfr : 4 ≤ R.frames) (hlo : W + 53 ≤ R.locals) :
    Back l R p e below s sargs yN len W (fun A₁ a₁ => A₁.cells + 0 ≤ R.cells ∧ A₁.slots + 0 ≤ R.slots ∧ P x t V n f z fm i a₁ A₁.U) (fun A₁ _ v₁ B₁ => E f i v₁ A₁.U B₁.U ∧ B₁.locs = A₁.locs ++ [] ∧ B₁.cells = A₁.cells + 0 ∧ B₁.slots = A₁.slots + 0) :=
  (law l x t V n f z fm i).pays htab hfr (by omega)
end ChN
end StrChars
namespace StrChars.Road
open Jvm Sem ClassFile Op Lib Jvm.Stand Jvm.Free Jvm.Free.XT
open Jvm.Lib.Cold (StaticIs)
/-- the words of String.charAt(int), the Latin-1 road alone -/
abbrev wordsChN : List Jvm.Cond := [.code ChN.yN ChN.yB 2 (some .char), .initialized ST, .fieldLink ST 9 ST "value" "[B", .fieldLink ST 38 ST "COMPACT_STRINGS" "Z", .fieldLink ST 15 ST "coder" "B", .code IsL.yN IsL.yB 1 (some .boolean), .methodLink ST 492 IsL.yN, .declares IsL.yN, .selects ST IsL.yN IsL.yN, .instanceMethod IsL.yN,
  .methodLink ST 495 LChA.yN, .static LChA.yN, .code LChA.yN LChA.yB 2 (some .char), .initialized "java/lang/StringLatin1", .methodLink "java/lang/StringLatin1" 9 JO.Str_checkIndex.yN, .static JO.Str_checkIndex.yN, .code JO.Str_checkIndex.yN JO.Str_checkIndex.yB 2 none,
  .fieldLink ST 1053 "jdk/internal/util/Preconditions" "SIOOBE_FORMATTER" "Ljava/util/function/BiFunction;", .methodLink ST 1059 JC.PreCheck.yN, .static JC.PreCheck.yN, .code JC.PreCheck.yN JC.PreCheck.yB 3 (some .int), .initialized "jdk/internal/util/Preconditions"]
theorem tabChN_of {a : Array Value} {s : State} (h : ∀ w ∈ wordsChN, w.before a s = true) : ChN.tab.before a s = true := by
  have hp : JC.PreCheck.tab.before a s = true := unparts (wk h (.code JC.PreCheck.yN JC.PreCheck.yB 3 (some .int))) (wks h (.initialized JC.PreCheck.yN.cls :: JC.PreCheck.site))
  have qk := consq hp h
  have hk : JO.Str_checkIndex.tab.before a s = true := unparts (wk qk (.code JO.Str_checkIndex.yN JO.Str_checkIndex.yB 2 none)) (wks qk (.initialized JO.Str_checkIndex.yN.cls :: JO.Str_checkIndex.site))
  have ql := consq hk h
  have hl : LChA.tab.before a s = true := unparts (wk ql (.code LChA.yN LChA.yB 2 (some .char))) (wks ql (.initialized LChA.yN.cls :: LChA.site))
  have hi : IsL.tab.before a s = true := unparts (wk h (.code IsL.yN IsL.yB 1 (some .boolean))) (wks h (.initialized IsL.yN.cls :: IsL.site))
  have q := consq hi (consq hl h)
  exact unparts (wk q (.code ChN.yN ChN.yB 2 (some .char))) (wks q (.initialized ChN.yN.cls :: ChN.site))
theorem movedChN {Z s : State} {a0 args : Array Value} (hZ : Z.Warmed39 s.vm) (hw : ∀ d ∈ wordsChN, d.before a0 Z = true) : ∀ d ∈ wordsChN, d.before args s = true := fun d hd => by
  have t : ∀ d ∈ wordsChN, (d.onTables && d.keepsFace) = true := by decide +kernel
  exact RoadKit.mv hZ (hw d hd) (t d hd)
/-- **charAt(i) OF A LATIN-1 STRING**, i < n: the char -/
theorem chN {p : Program} {l : Launch} {e : Env} {R : Room} {s : State} {args : Array Value} {below : List Frame} {len W : Nat} {Z : State} {a0 : Array Value} {h : Heap} (hZ : Z.Warmed39 s.vm) (hw : ∀ d ∈ wordsChN, d.before a0 Z = true) {kI : Nat} (wi : (Jvm.Cond.instantiable ST kI).before a0 Z = true)
    {x t : Addr} {kb : ClassId} {cs : List Int32} {N2 z : Int32} {vs : List Value} {fm : Value} {i : Nat} {j : Int32} (E : RoadKit.Exa Z h x ST) (V : RoadKit.Fld Z h x ST "value" "[B" (.ref t)) (C : RoadKit.Fld Z h x ST "coder" "B" (.int 0)) (K : RoadKit.Arv Z h t kb .byte N2 vs (.int 0)) (hc : CodA cs 0 N2 vs) (hb : ∀ c ∈ cs, ¬ c < 0 ∧ ¬ (65535 : Int32) < c)
    (S : RoadKit.Sta Z h ST "COMPACT_STRINGS" "Z" (.int z)) (hz : ¬ z = 0) (F : RoadKit.Sta Z h "jdk/internal/util/Preconditions" "SIOOBE_FORMATTER" "Ljava/util/function/BiFunction;" fm) (rf : fm.isRef = true) (l2 : cs.length ≤ 4000) (hi : i < cs.length) (hj : j = Int32.ofNat i) (hfr : 4 ≤ R.frames) (hlo : W + 53 ≤ R.locals) :
    Back l R p e below s args (⟨"java/lang/String", "charAt", "(I)C"⟩ : MethodName) len W (fun P a => a = #[.ref x, .int j] ∧ P.U.heap = h ∧ P.cells + 0 ≤ R.cells ∧ P.slots + 0 ≤ R.slots)
      (fun P _ v B => ∃ L, (v = some (.int (cs.getD i 0)) ∧ L = [] ∧ B.U.heap = h) ∧ B.locs = P.locs ++ L ∧ B.cells = P.cells + 0 ∧ B.slots = P.slots + 0) := by
  subst hj
  intro m meth c P g ig mk a X hg hsize hdg hW hn hp'
  obtain ⟨rfl, rfl, r1, r2⟩ := hp'
  have al : Z.vm.Alike P.U.vm := hZ.alike.trans X.warmed.alike
  obtain ⟨A, hx⟩ := txt_of wi al E V C K hc hb l2
  obtain ⟨v, B, X', ⟨⟨hv, hh⟩, hl, hk, hs⟩, st⟩ := ChN.pays x t A cs.length (fun j => cs.getD j 0) z fm i (tabChN_of (movedChN hZ hw)) hfr hlo m meth c P g ig mk _ X hg hsize hdg hW hn ⟨r1, r2, rfl, hx, hi, sta_is al S, hz, sta_is al F, rf⟩
  exact ⟨v, B, X', ⟨[], ⟨hv, rfl, hh⟩, hl, hk, hs⟩, st⟩
/-- what backV says of its String, as the contracts of this text ask it: cs's low bytes, coder 0 -/
theorem codOf {cs : List Int32} {n : Nat} (hn : cs.length = n) (hb : ∀ c ∈ cs, ¬ 255 < c) : CodA cs 0 (Int32.ofNat n) ((cs.map lo8).map Value.int) := Or.inl ⟨rfl, by rw [hn], by simp [List.map_map, Function.comp_def], hb⟩
end StrChars.Road
end Jvm.Pilot.@@N@@
namespace Jvm.Pilot.@@N@@
open Jvm Jvm.ClassFile Sem Op Lib Jvm.Free Jvm.Stand Jvm.LawKit Jvm.RoadKit Bundle Jvm.Pilot.@@N@@.Jvm.D
/-! ## Own: a walk forward: from here the run comes to an end that K takes -/
section Own
variable {p : Program} {l : Launch} {e : Env} {R : Room} {s : State} {m : MethodId} {args : Array Value} {below : List Frame} {meth : Method} {c : Code} {T : State} {locs : List Loc} {cells slots : Nat} {K : State → Prop}
def Go (p : Program) (e : Env) (below : List Frame) (K : State → Prop) (S : State) : Prop := ∃ t, Steps p.tables e below S t ∧ K t
theorem go {S S' : State} (h : ∀ t, Steps p.tables e below S' t → Steps p.tables e below S t) (g : Go p e below K S') : Go p e below K S := by
  obtain ⟨t, h1, h2⟩ := g
  exact ⟨t, h t h1, h2⟩
/-- the end of a body: what is returned, the heap and the written places fulfil Q, within so many cells and slots -/
def Dn (below : List Frame) (s : State) (Q : Option Value → Heap → List Loc → Prop) (C N : Nat) (t : State) : Prop := ∃ v L, t.status = .running ∧ Ended t below (.returned v) ∧ Q v t.heap L ∧ FrameEnd s (.returned v) t L C N
variable {Q : Option Value → Heap → List Loc → Prop} {C N : Nat}
theorem own_retI (X : Stand p l e R s m args below meth c T locs cells slots) (hx : p.tables.exec = Jvm.exec) (hlk : meth.locks = false) {pc : Nat} {Ls : Array Slot} {z : Int32} {rest : List Value} (hret : meth.sig.returnType = some .int) (hd : decode c.code pc = .ok (.ireturn, 1))
    (hC : cells ≤ C) (hN : slots ≤ N) (hQ : Q (some (.int z)) T.heap locs) : Go p e below (Dn below s Q C N) (T.setTop (mkF m pc Ls (.int z :: rest))) := by
  obtain ⟨fs, hr, hrun, hended, hW, hsame⟩ := X.leave (v := some (.int z)) (fun h => by rw [hret] at h; cases h) hlk
  refine ⟨_, ?_, _, _, hrun, hended, hQ, ⟨_, rfl⟩, hW, hsame.mono hC hN⟩
  have hm' : T.vm.method? m = some meth := X.method'
  have hn : narrow .int (.int z) = .int z := rfl
  show Steps p.tables e below (T.setTop { method := m, pc := pc, locals := Ls, stack := _ :: rest, locked := none }) _
  jvm_step X.here [X.here.top, hx, hd, hm', hret, hn]
  first | (intro acts; rw [hr _ acts rfl rfl rfl]) | rw [hr _ _ rfl rfl rfl]
  exact Steps.refl _
theorem own_retZ (X : Stand p l e R s m args below meth c T locs cells slots) (hx : p.tables.exec = Jvm.exec) (hlk : meth.locks = false) {pc : Nat} {Ls : Array Slot} {z z' : Int32} {rest : List Value} (hret : meth.sig.returnType = some .boolean) (hd : decode c.code pc = .ok (.ireturn, 1))
    (hC : cells ≤ C) (hN : slots ≤ N) (hz : nar .boolean z = z') (hQ : Q (some (.int z')) T.heap locs) : Go p e below (Dn below s Q C N) (T.setTop (mkF m pc Ls (.int z :: rest))) := by
  subst hz
  obtain ⟨fs, hr, hrun, hended, hW, hsame⟩ := X.leave (v := some (.int (nar .boolean z))) (fun h => by rw [hret] at h; cases h) hlk
  exact ⟨_, retN X hx (t := .boolean) hret (by simp) hd hr, _, _, hrun, hended, hQ, ⟨_, rfl⟩, hW, hsame.mono hC hN⟩
theorem own_retJ (X : Stand p l e R s m args below meth c T locs cells slots) (hx : p.tables.exec = Jvm.exec) (hlk : meth.locks = false) {pc : Nat} {Ls : Array Slot} {z : Int64} (hret : meth.sig.returnType = some .long) (hd : decode c.code pc = .ok (.lreturn, 1))
    (hC : cells ≤ C) (hN : slots ≤ N) (hQ : Q (some (.long z)) T.heap locs) : Go p e below (Dn below s Q C N) (T.setTop (mkF m pc Ls [.long z])) := by
  obtain ⟨fs, hr, hrun, hended, hW, hsame⟩ := X.leave (v := some (.long z)) (fun h => by rw [hret] at h; cases h) hlk
  exact ⟨_, X.lreturnOut hx hret hd hr, _, _, hrun, hended, hQ, ⟨_, rfl⟩, hW, hsame.mono hC hN⟩
theorem own_retA (X : Stand p l e R s m args below meth c T locs cells slots) (hx : p.tables.exec = Jvm.exec) (hlk : meth.locks = false) {pc : Nat} {Ls : Array Slot} {w : Value} {t : FieldType} (hw : w.isRef = true) (hret : meth.sig.returnType = some t) (ht : t.isReference = true) (hd : decode c.code pc = .ok (.areturn, 1))
    (hC : cells ≤ C) (hN : slots ≤ N) (hQ : Q (some w) T.heap locs) : Go p e below (Dn below s Q C N) (T.setTop (mkF m pc Ls [w])) := by
  obtain ⟨fs, hr, hrun, hended, hW, hsame⟩ := X.leave (v := some w) (fun h => by rw [hret] at h; cases h) hlk
  exact ⟨_, X.areturnOut hx hw hret ht hd hr, _, _, hrun, hended, hQ, ⟨_, rfl⟩, hW, hsame.mono hC hN⟩
theorem own_retV (X : Stand p l e R s m args below meth c T locs cells slots) (hx : p.tables.exec = Jvm.exec) (hlk : meth.locks = false) {pc : Nat} {Ls : Array Slot} (hret : meth.sig.returnType = none) (hd : decode c.code pc = .ok (.return_, 1))
    (hC : cells ≤ C) (hN : slots ≤ N) (hQ : Q none T.heap locs) : Go p e below (Dn below s Q C N) (T.setTop (mkF m pc Ls [])) := by
  obtain ⟨fs, hr, hrun, hended, hW, hsame⟩ := X.leave (v := none) (fun _ => rfl) hlk
  exact ⟨_, X.returnOut hx hret hd hr, _, _, hrun, hended, hQ, ⟨_, rfl⟩, hW, hsame.mono hC hN⟩
theorem own_lrem {g : JFrame} {target : State} (X : Stand p l e R s m args below meth c T locs cells slots) (hx : p.tables.exec = Jvm.exec) (hg : g.method = m) {x y : Int64} {rest : List Value} (hd : decode c.code g.pc = .ok (.lrem, 1)) (hs : g.stack = .long y :: .long x :: rest) (hy : y ≠ 0)
    (hr : Steps p.tables e below (T.setTop { g with pc := g.pc + 1, stack := .long (x % y) :: rest }) target) : Steps p.tables e below (T.setTop g) target := by
  have q : x - x / y * y = x % y := lrem_mod x y
  exact XS.lrem X.here hx hg hd hs hy (by rw [q]; exact hr)
/-- what a body's walk is handed -/
theorem own_met {x : MethodName} {code : ByteArray} {maxL : Nat} {ret : Option FieldType} {ws : List Jvm.Cond} {as' : Array Value} {L0 : Array Slot} {Z : State} {h0 : Heap} (hpl : plainFor x = true) (hef : ∀ m, entryFrame m as' maxL = mkF m 0 L0 [])
    (body : ∀ (p : Program) (e : Env) (s : State) (m : MethodId) (below : List Frame) (meth : Method) (c : Code) (T : State), p.tables.exec = Jvm.exec → c.code = code → c.maxLocals = maxL → s.vm.findClass x.cls = some m.cls → meth.name = x.name → meth.sig.returnType = ret → meth.locks = false → Z.Warmed39 s.vm →
      Stand p l e R s m as' below meth c T [] 0 0 → T.heap = h0 → Go p e below (Dn below s Q R.cells R.slots) (T.setTop (mkF m 0 L0 []))) :
    MetFree l x (head1 (Jvm.Cond.code x code maxL ret :: ws) R) (fun a U => a = as' ∧ Z.Warmed39 U.vm ∧ U.heap = h0) (fun _ _ _ _ _ => True) (fun _ U o U' => ∃ v L, o = .returned v ∧ Q v U'.heap L ∧ FrameEnd U o U' L R.cells R.slots) := by
  refine MetFree.of_bodySF hpl hisR ?_
  intro p e s m args below meth c s₁ Bd hml0 hP hK
  obtain ⟨rfl, hZ, hh⟩ := hP
  obtain ⟨t, h1, v, L, h2, h3, h4, h5⟩ := body p e s m below meth c s₁ Bd.exec Bd.bytes hml0 (findClass_of_methodNamed Bd.named) (name_of_methodNamed Bd.named Bd.method).1 Bd.returns (BodyLoose.notSynchronized Bd) hZ (Stand.of_body Bd) (by rw [← hh, Bd.state]; rfl)
  exact ⟨t, .returned v, castTop (hef m) h1, h2, h3, v, L, rfl, h4, h5⟩
section Calls
variable {Z : State} {a0 : Array Value} {own : String} {idx : Nat} {y : MethodName} {bytes : ByteArray} {maxL W : Nat} {ret : Option FieldType} {rm : Room} {as' : Array Value} {h : Heap}
/-- a static call by the callee's contract -/
theorem own_callS (X : Stand p l e R s m args below meth c T locs cells slots) (hx : p.tables.exec = Jvm.exec) (hZ : Z.Warmed39 s.vm) (hown : s.vm.findClass own = some m.cls) (eT : T.heap = h)
    (w1 : (Jvm.Cond.methodLink own idx y).before a0 Z = true) (w2 : (Jvm.Cond.static y).before a0 Z = true) (w3 : (Jvm.Cond.initialized y.cls).before a0 Z = true) (w4 : (Jvm.Cond.code y bytes maxL ret).before a0 Z = true)
    (hM : MetFree l y (head1 [Jvm.Cond.code y bytes maxL ret] rm) (fun a U => a = as' ∧ Z.Warmed39 U.vm ∧ U.heap = h) (fun _ _ _ _ _ => True) (fun _ U o U' => ∃ v L, o = .returned v ∧ Q v U'.heap L ∧ FrameEnd U o U' L rm.cells rm.slots))
    (hy : y.cls ≠ "java/lang/invoke/MethodHandle" ∧ y.cls ≠ "java/lang/invoke/VarHandle") (hf : rm.frames + 1 ≤ R.frames) (hl : W + (maxL + 11) + rm.locals ≤ R.locals) (hc : cells + rm.cells ≤ R.cells) (hs : slots + rm.slots ≤ R.slots)
    {g : JFrame} (hg : g.method = m) (hsize : g.locals.size = c.maxLocals) {argsL rest : List Value} (hst : g.stack = argsL.reverse ++ rest) (has : argsL.toArray = as') (hlen : ∀ sig, parseMethodDescriptor y.desc = some sig → argsL.length = sig.parameters.length)
    (hW : 2 * g.monitorRoom + (rest.map fun v => v.category).sum ≤ W) (hd : decode c.code g.pc = .ok (.invokestatic idx, 3))
    (k : ∀ v T' L, Stand p l e R s m args below meth c T' (locs ++ L) (cells + rm.cells) (slots + rm.slots) → Q v T'.heap L → Go p e below K (T'.setTop { g with pc := g.pc + 3, stack := v.toList ++ rest })) : Go p e below K (T.setTop g) := by
  obtain ⟨v, _, ⟨T', L', k', n'⟩, -, X', ⟨Lc, hQ, l1, y1, z1⟩, st⟩ := Jvm.LawKit.callS X hx (y := y) hown (mvT hZ w1) (mvT hZ w2) (mvT hZ w3) (mvT hZ w4) hy (backOf (W := W) hM hZ w4 w3 hf hl) hg hsize hlen hst hW hd (fun _ _ => ⟨has, eT, hc, hs⟩)
  dsimp only [Pt.U, Pt.locs, Pt.cells, Pt.slots] at X' l1 y1 z1 st hQ
  subst l1 y1 z1
  exact go st (k _ _ _ X' hQ)
/-- a constructor by its contract -/
theorem own_callC (X : Stand p l e R s m args below meth c T locs cells slots) (hx : p.tables.exec = Jvm.exec) (hZ : Z.Warmed39 s.vm) (hown : s.vm.findClass own = some m.cls) (eT : T.heap = h)
    (w1 : (Jvm.Cond.methodLink own idx y).before a0 Z = true) (w2 : (Jvm.Cond.instanceMethod y).before a0 Z = true) (w3 : (Jvm.Cond.initialized y.cls).before a0 Z = true) (w4 : (Jvm.Cond.code y bytes maxL none).before a0 Z = true)
    (hM : MetFree l y (head1 [Jvm.Cond.code y bytes maxL none] rm) (fun a U => a = as' ∧ Z.Warmed39 U.vm ∧ U.heap = h) (fun _ _ _ _ _ => True) (fun _ U o U' => ∃ v L, o = .returned v ∧ Q v U'.heap L ∧ FrameEnd U o U' L rm.cells rm.slots))
    (hyn : y.name = "<init>") (hy : y.cls ≠ "java/lang/invoke/MethodHandle" ∧ y.cls ≠ "java/lang/invoke/VarHandle") (hf : rm.frames + 1 ≤ R.frames) (hl : W + (maxL + 11) + rm.locals ≤ R.locals) (hc : cells + rm.cells ≤ R.cells) (hs : slots + rm.slots ≤ R.slots)
    {g : JFrame} (hg : g.method = m) (hsize : g.locals.size = c.maxLocals) {a : Addr} {argsL rest : List Value} (hst : g.stack = argsL.reverse ++ .ref a :: rest) (has : (.ref a :: argsL).toArray = as') (hlen : ∀ sig, parseMethodDescriptor y.desc = some sig → argsL.length = sig.parameters.length)
    (hW : 2 * g.monitorRoom + (rest.map fun v => v.category).sum ≤ W) (hd : decode c.code g.pc = .ok (.invokespecial idx, 3))
    (k : ∀ v T' L, Stand p l e R s m args below meth c T' (locs ++ L) (cells + rm.cells) (slots + rm.slots) → Q v T'.heap L → Go p e below K (T'.setTop { g with pc := g.pc + 3, stack := v.toList ++ rest })) : Go p e below K (T.setTop g) := by
  obtain ⟨v, _, ⟨T', L', k', n'⟩, -, X', ⟨Lc, hQ, l1, y1, z1⟩, st⟩ := X.specialBack hx (y := y) hyn hown (mvT hZ w1) (mvT hZ w2) (mvT hZ w4) hy (backOf (W := W) hM hZ w4 w3 hf hl) hg hsize (Steps.refl _) (a := a) hlen hst hW hd (fun _ _ => ⟨has, eT, hc, hs⟩)
  dsimp only [Pt.U, Pt.locs, Pt.cells, Pt.slots] at X' l1 y1 z1 st hQ
  subst l1 y1 z1
  exact go (fun t q => st.trans q) (k _ _ _ X' hQ)
/-- a virtual call of a method that the receiver's class declares itself -/
theorem own_callV (X : Stand p l e R s m args below meth c T locs cells slots) (hx : p.tables.exec = Jvm.exec) (hZ : Z.Warmed39 s.vm) (hown : s.vm.findClass own = some m.cls) (eT : T.heap = h)
    (w1 : (Jvm.Cond.methodLink own idx y).before a0 Z = true) (w2 : (Jvm.Cond.declares y).before a0 Z = true) (w5 : (Jvm.Cond.instanceMethod y).before a0 Z = true) (w6 : (Jvm.Cond.selects y.cls y y).before a0 Z = true) (w3 : (Jvm.Cond.initialized y.cls).before a0 Z = true) (w4 : (Jvm.Cond.code y bytes maxL ret).before a0 Z = true)
    (hM : MetFree l y (head1 [Jvm.Cond.code y bytes maxL ret] rm) (fun a U => a = as' ∧ Z.Warmed39 U.vm ∧ U.heap = h) (fun _ _ _ _ _ => True) (fun _ U o U' => ∃ v L, o = .returned v ∧ Q v U'.heap L ∧ FrameEnd U o U' L rm.cells rm.slots))
    (hy : y.cls ≠ "java/lang/invoke/MethodHandle" ∧ y.cls ≠ "java/lang/invoke/VarHandle") (hf : rm.frames + 1 ≤ R.frames) (hl : W + (maxL + 11) + rm.locals ≤ R.locals) (hc : cells + rm.cells ≤ R.cells) (hs : slots + rm.slots ≤ R.slots)
    {a : Addr} (E : Exa Z h a y.cls) {g : JFrame} (hg : g.method = m) (hsize : g.locals.size = c.maxLocals) {argsL rest : List Value} (hst : g.stack = argsL.reverse ++ .ref a :: rest) (has : (.ref a :: argsL).toArray = as') (hlen : ∀ sig, parseMethodDescriptor y.desc = some sig → argsL.length = sig.parameters.length)
    (hW : 2 * g.monitorRoom + (rest.map fun v => v.category).sum ≤ W) (hd : decode c.code g.pc = .ok (.invokevirtual idx, 3))
    (k : ∀ v T' L, Stand p l e R s m args below meth c T' (locs ++ L) (cells + rm.cells) (slots + rm.slots) → Q v T'.heap L → Go p e below K (T'.setTop { g with pc := g.pc + 3, stack := v.toList ++ rest })) : Go p e below K (T.setTop g) := by
  obtain ⟨cq, kq, qa, qb, qc⟩ := isOf hZ eT E
  obtain ⟨v, _, ⟨T', L', k', n'⟩, -, X', ⟨Lc, hQ, l1, y1, z1⟩, st⟩ := X.virtualBack hx (y := y) (z := y) hown (mvT hZ w1) (mvT hZ w2) (notFace_of_selects (args := #[]) (mvT hZ w6)) (mvT hZ w6) (mvT hZ w5) hy (backOf (W := W) hM hZ w4 w3 hf hl) qa qc hg hsize (Steps.refl _) hlen hst hW hd (fun _ _ => ⟨has, eT, hc, hs⟩)
  dsimp only [Pt.U, Pt.locs, Pt.cells, Pt.slots] at X' l1 y1 z1 st hQ
  subst l1 y1 z1
  exact go (fun t q => st.trans q) (k _ _ _ X' hQ)
end Calls
end Own
/-- a body that writes nothing: it returns r, the heap is what it was -/
def QP (r : Option Value) (h0 : Heap) (n0 : Nat) (v : Option Value) (h : Heap) (L : List Loc) : Prop := v = r ∧ Fr n0 L ∧ h = h0

/-! ## Own: bodies that may load literals (their ends in ReturnedEndW; what is booked kept up by CHr) -/
section OwnW
variable {p : Program} {l : Launch} {e : Env} {R : Room} {s : State} {m : MethodId} {args : Array Value} {below : List Frame} {meth : Method} {c : Code} {T : State} {locs : List Loc} {cells slots : Nat} {K : State → Prop}
variable {Q : Option Value → Heap → List Loc → Prop} {C N : Nat} {Z : State} {a0 : Array Value} {EL : List (String × Nat)} {vm vmS : Vm} {h hs0 : Heap} {k0 : Nat}
def DnW (below : List Frame) (s Z : State) (EL : List (String × Nat)) (vmS : Vm) (hs0 : Heap) (Q : Option Value → Heap → List Loc → Prop) (C N : Nat) (t : State) : Prop := ∃ v L, t.status = .running ∧ Ended t below (.returned v) ∧ Q v t.heap L ∧ CHr Z EL vmS hs0 t.vm t.heap ∧ ReturnedEndW s (.returned v) t L C N
theorem own_retAW (X : Stand p l e R (s.setVm vm) m args below meth c T locs cells slots) (hx : p.tables.exec = Jvm.exec) (hlk : meth.locks = false) (hS : s.Since vm k0) (hk : k0 ≤ h.size) (eT : T.heap = h) (CR : CHr Z EL vmS hs0 vm h) (hEL : EW Z a0 EL) (hZ : Z.Warmed39 vm)
    {pc : Nat} {Ls : Array Slot} {w : Value} {t : FieldType} (hw : w.isRef = true) (hret : meth.sig.returnType = some t) (ht : t.isReference = true) (hd : decode c.code pc = .ok (.areturn, 1))
    (hC : cells ≤ C) (hN : slots ≤ N) (hQ : Q (some w) T.heap locs) : Go p e below (DnW below s Z EL vmS hs0 Q C N) (T.setTop (mkF m pc Ls [w])) := by
  subst eT
  have CE := CR.trans (CHv.at X hZ hEL CR.1)
  obtain ⟨fs, hr, hrun, hended, h1, h2, h3, h4⟩ := X.leaveW hS hk (v := some w) (fun h => by rw [hret] at h; cases h) hlk
  exact ⟨_, X.areturnOut hx hw hret ht hd hr, _, _, hrun, hended, hQ, CE, h1, h2, h3, h4.mono hC hN⟩
theorem own_retVW (X : Stand p l e R (s.setVm vm) m args below meth c T locs cells slots) (hx : p.tables.exec = Jvm.exec) (hlk : meth.locks = false) (hS : s.Since vm k0) (hk : k0 ≤ h.size) (eT : T.heap = h) (CR : CHr Z EL vmS hs0 vm h) (hEL : EW Z a0 EL) (hZ : Z.Warmed39 vm)
    {pc : Nat} {Ls : Array Slot} (hret : meth.sig.returnType = none) (hd : decode c.code pc = .ok (.return_, 1))
    (hC : cells ≤ C) (hN : slots ≤ N) (hQ : Q none T.heap locs) : Go p e below (DnW below s Z EL vmS hs0 Q C N) (T.setTop (mkF m pc Ls [])) := by
  subst eT
  have CE := CR.trans (CHv.at X hZ hEL CR.1)
  obtain ⟨fs, hr, hrun, hended, h1, h2, h3, h4⟩ := X.leaveW hS hk (v := none) (fun _ => rfl) hlk
  exact ⟨_, X.returnOut hx hret hd hr, _, _, hrun, hended, hQ, CE, h1, h2, h3, h4.mono hC hN⟩
theorem own_retZW (X : Stand p l e R (s.setVm vm) m args below meth c T locs cells slots) (hx : p.tables.exec = Jvm.exec) (hlk : meth.locks = false) (hS : s.Since vm k0) (hk : k0 ≤ h.size) (eT : T.heap = h) (CR : CHr Z EL vmS hs0 vm h) (hEL : EW Z a0 EL) (hZ : Z.Warmed39 vm)
    {pc : Nat} {Ls : Array Slot} {z z' : Int32} {rest : List Value} (hret : meth.sig.returnType = some .boolean) (hd : decode c.code pc = .ok (.ireturn, 1))
    (hC : cells ≤ C) (hN : slots ≤ N) (hz : nar .boolean z = z') (hQ : Q (some (.int z')) T.heap locs) : Go p e below (DnW below s Z EL vmS hs0 Q C N) (T.setTop (mkF m pc Ls (.int z :: rest))) := by
  subst eT hz
  have CE := CR.trans (CHv.at X hZ hEL CR.1)
  obtain ⟨fs, hr, hrun, hended, h1, h2, h3, h4⟩ := X.leaveW hS hk (v := some (.int (nar .boolean z))) (fun h => by rw [hret] at h; cases h) hlk
  exact ⟨_, retN X hx (t := .boolean) hret (by simp) hd hr, _, _, hrun, hended, hQ, CE, h1, h2, h3, h4.mono hC hN⟩
/-- what such a body's walk is handed -/
theorem own_metW {x : MethodName} {code : ByteArray} {maxL : Nat} {ret : Option FieldType} {ws : List Jvm.Cond} {as' : Array Value} {L0 : Array Slot} {h0 : Heap} (hpl : plainFor x = true) (hef : ∀ m, entryFrame m as' maxL = mkF m 0 L0 [])
    (body : ∀ (p : Program) (e : Env) (s : State) (m : MethodId) (below : List Frame) (meth : Method) (c : Code) (T : State) (vm0 : Vm) (k0 : Nat), p.tables.exec = Jvm.exec → c.code = code → c.maxLocals = maxL → vm0.findClass x.cls = some m.cls → meth.name = x.name → meth.sig.returnType = ret → meth.locks = false → Z.Warmed39 vm0 →
      s.Since vm0 k0 → k0 ≤ h0.size → CHr Z EL vm0 h0 vm0 h0 →
      Stand p l e R (s.setVm vm0) m as' below meth c T [] 0 0 → T.heap = h0 → Go p e below (DnW below s Z EL vm0 h0 Q R.cells R.slots) (T.setTop (mkF m 0 L0 []))) :
    MetFree l x (head1 (Jvm.Cond.code x code maxL ret :: ws) R) (fun a U => a = as' ∧ Z.Warmed39 U.vm ∧ U.heap = h0 ∧ CHv Z EL U.vm h0) (fun _ _ _ _ _ => True) (fun _ U o U' => ∃ v L, o = .returned v ∧ Q v U'.heap L ∧ CHr Z EL U.vm U.heap U'.vm U'.heap ∧ ReturnedEndW U o U' L R.cells R.slots) := by
  refine MetFree.of_bodySF hpl hisR ?_
  intro p e s m args below meth c s₁ Bd hml0 hP hK
  obtain ⟨rfl, hZ, hh, hC⟩ := hP
  have X0 : Stand p l e R s m args below meth c s₁ [] 0 0 := Stand.of_body Bd
  obtain ⟨t, h1, v, L, h2, h3, h4, h5, h6⟩ := body p e s m below meth c s₁ s.vm s.heap.size Bd.exec Bd.bytes hml0 (findClass_of_methodNamed Bd.named) (name_of_methodNamed Bd.named Bd.method).1 Bd.returns (BodyLoose.notSynchronized Bd) hZ ((State.WarmedH.refl s).since _) (by rw [hh]; exact Nat.le_refl _) (CHr.refl hC) X0 (by rw [← hh, Bd.state]; rfl)
  exact ⟨t, .returned v, castTop (hef m) h1, h2, h3, v, L, rfl, h4, by rw [hh]; exact h5, h6⟩
section CallsW
variable {own : String} {idx : Nat} {y : MethodName} {bytes : ByteArray} {maxL W : Nat} {ret : Option FieldType} {rm : Room} {as' : Array Value}
theorem own_callSW (X : Stand p l e R (s.setVm vm) m args below meth c T locs cells slots) (hx : p.tables.exec = Jvm.exec) (hZ : Z.Warmed39 vm) (hown : vm.findClass own = some m.cls) (eT : T.heap = h) (hS : s.Since vm k0) (hk : k0 ≤ h.size) (hEL : EW Z a0 EL) (CR : CHr Z EL vmS hs0 vm h)
    (w1 : (Jvm.Cond.methodLink own idx y).before a0 Z = true) (w2 : (Jvm.Cond.static y).before a0 Z = true) (w3 : (Jvm.Cond.initialized y.cls).before a0 Z = true) (w4 : (Jvm.Cond.code y bytes maxL ret).before a0 Z = true)
    (hM : MetFree l y (head1 [Jvm.Cond.code y bytes maxL ret] rm) (fun a U => a = as' ∧ Z.Warmed39 U.vm ∧ U.heap = h ∧ CHv Z EL U.vm h) (fun _ _ _ _ _ => True) (fun _ U o U' => ∃ v L, o = .returned v ∧ Q v U'.heap L ∧ CHr Z EL U.vm U.heap U'.vm U'.heap ∧ ReturnedEndW U o U' L rm.cells rm.slots))
    (hy : y.cls ≠ "java/lang/invoke/MethodHandle" ∧ y.cls ≠ "java/lang/invoke/VarHandle") (hf : rm.frames + 1 ≤ R.frames) (hl : W + (maxL + 11) + rm.locals ≤ R.locals) (hc : cells + rm.cells ≤ R.cells) (hs : slots + rm.slots ≤ R.slots)
    {g : JFrame} (hg : g.method = m) (hsize : g.locals.size = c.maxLocals) {argsL rest : List Value} (hst : g.stack = argsL.reverse ++ rest) (has : argsL.toArray = as') (hlen : ∀ sig, parseMethodDescriptor y.desc = some sig → argsL.length = sig.parameters.length)
    (hW : 2 * g.monitorRoom + (rest.map fun v => v.category).sum ≤ W) (hd : decode c.code g.pc = .ok (.invokestatic idx, 3))
    (k : ∀ v T' L vm' k', Stand p l e R (s.setVm vm') m args below meth c T' (locs ++ L) (cells + rm.cells) (slots + rm.slots) → s.Since vm' k' → k' ≤ T'.heap.size → Z.Warmed39 vm' → vm'.findClass own = some m.cls → CHr Z EL vmS hs0 vm' T'.heap → Q v T'.heap L → Go p e below K (T'.setTop { g with pc := g.pc + 3, stack := v.toList ++ rest })) : Go p e below K (T.setTop g) := by
  subst eT
  obtain ⟨v, _, ⟨T', L', k', n'⟩, -, X', hS', hgr, ⟨Lc, hQ, l1, y1, z1, hC⟩, st⟩ := callSS X hx (y := y) hown (mvT (s := s.setVm vm) hZ w1) (mvT (s := s.setVm vm) hZ w2) (mvT (s := s.setVm vm) hZ w3) (mvT (s := s.setVm vm) hZ w4) hy (backOfSH (W := W) hM hZ w4 w3 hf hl hEL CR.1) hg hsize hlen hst hW hd (fun _ _ => ⟨has, rfl, hc, hs⟩)
  dsimp only [Pt.U, Pt.locs, Pt.cells, Pt.slots] at X' l1 y1 z1 st hQ hS' hgr hC
  subst l1 y1 z1
  exact go (fun t q => st.trans q) (k _ _ _ _ _ X' (hS.trans hS' (Nat.le_trans hk hgr)) (Nat.le_refl _) (State.Warmed39.trans (t := s.setVm vm) hZ hS'.1) (by rw [hS'.1.alike.findClass]; exact hown) (CR.trans hC) hQ)
theorem own_callCW (X : Stand p l e R (s.setVm vm) m args below meth c T locs cells slots) (hx : p.tables.exec = Jvm.exec) (hZ : Z.Warmed39 vm) (hown : vm.findClass own = some m.cls) (eT : T.heap = h) (hS : s.Since vm k0) (hk : k0 ≤ h.size) (hEL : EW Z a0 EL) (CR : CHr Z EL vmS hs0 vm h)
    (w1 : (Jvm.Cond.methodLink own idx y).before a0 Z = true) (w2 : (Jvm.Cond.instanceMethod y).before a0 Z = true) (w3 : (Jvm.Cond.initialized y.cls).before a0 Z = true) (w4 : (Jvm.Cond.code y bytes maxL none).before a0 Z = true)
    (hM : MetFree l y (head1 [Jvm.Cond.code y bytes maxL none] rm) (fun a U => a = as' ∧ Z.Warmed39 U.vm ∧ U.heap = h ∧ CHv Z EL U.vm h) (fun _ _ _ _ _ => True) (fun _ U o U' => ∃ v L, o = .returned v ∧ Q v U'.heap L ∧ CHr Z EL U.vm U.heap U'.vm U'.heap ∧ ReturnedEndW U o U' L rm.cells rm.slots))
    (hyn : y.name = "<init>") (hy : y.cls ≠ "java/lang/invoke/MethodHandle" ∧ y.cls ≠ "java/lang/invoke/VarHandle") (hf : rm.frames + 1 ≤ R.frames) (hl : W + (maxL + 11) + rm.locals ≤ R.locals) (hc : cells + rm.cells ≤ R.cells) (hs : slots + rm.slots ≤ R.slots)
    {g : JFrame} (hg : g.method = m) (hsize : g.locals.size = c.maxLocals) {a : Addr} {argsL rest : List Value} (hst : g.stack = argsL.reverse ++ .ref a :: rest) (has : (.ref a :: argsL).toArray = as') (hlen : ∀ sig, parseMethodDescriptor y.desc = some sig → argsL.length = sig.parameters.length)
    (hW : 2 * g.monitorRoom + (rest.map fun v => v.category).sum ≤ W) (hd : decode c.code g.pc = .ok (.invokespecial idx, 3))
    (k : ∀ v T' L vm' k', Stand p l e R (s.setVm vm') m args below meth c T' (locs ++ L) (cells + rm.cells) (slots + rm.slots) → s.Since vm' k' → k' ≤ T'.heap.size → Z.Warmed39 vm' → vm'.findClass own = some m.cls → CHr Z EL vmS hs0 vm' T'.heap → Q v T'.heap L → Go p e below K (T'.setTop { g with pc := g.pc + 3, stack := v.toList ++ rest })) : Go p e below K (T.setTop g) := by
  subst eT
  obtain ⟨v, _, ⟨T', L', k', n'⟩, -, X', hS', hgr, ⟨Lc, hQ, l1, y1, z1, hC⟩, st⟩ := X.specialBackS hx (y := y) hyn hown (mvT (s := s.setVm vm) hZ w1) (mvT (s := s.setVm vm) hZ w2) (mvT (s := s.setVm vm) hZ w4) hy (backOfSH (W := W) hM hZ w4 w3 hf hl hEL CR.1) hg hsize (Steps.refl _) (a := a) hlen hst hW hd (fun _ _ => ⟨has, rfl, hc, hs⟩)
  dsimp only [Pt.U, Pt.locs, Pt.cells, Pt.slots] at X' l1 y1 z1 st hQ hS' hgr hC
  subst l1 y1 z1
  exact go (fun t q => st.trans q) (k _ _ _ _ _ X' (hS.trans hS' (Nat.le_trans hk hgr)) (Nat.le_refl _) (State.Warmed39.trans (t := s.setVm vm) hZ hS'.1) (by rw [hS'.1.alike.findClass]; exact hown) (CR.trans hC) hQ)
/-- a virtual call that a pasted law pays -/
theorem own_payV {rc rn : Nat} (X : Stand p l e R s m args below meth c T locs cells slots) (hx : p.tables.exec = Jvm.exec) (hZ : Z.Warmed39 s.vm) (hown : s.vm.findClass own = some m.cls) (eT : T.heap = h)
    (w1 : (Jvm.Cond.methodLink own idx y).before a0 Z = true) (w2 : (Jvm.Cond.declares y).before a0 Z = true) (w5 : (Jvm.Cond.instanceMethod y).before a0 Z = true) (w6 : (Jvm.Cond.selects y.cls y y).before a0 Z = true)
    (hB : Back l R p e below s args y 3 W (fun P a => a = as' ∧ P.U.heap = h ∧ P.cells + rc ≤ R.cells ∧ P.slots + rn ≤ R.slots) (fun P _ v B => ∃ L, Q v B.U.heap L ∧ B.locs = P.locs ++ L ∧ B.cells = P.cells + rc ∧ B.slots = P.slots + rn))
    (hy : y.cls ≠ "java/lang/invoke/MethodHandle" ∧ y.cls ≠ "java/lang/invoke/VarHandle") (hc : cells + rc ≤ R.cells) (hs : slots + rn ≤ R.slots)
    {a : Addr} (E : Exa Z h a y.cls) {g : JFrame} (hg : g.method = m) (hsize : g.locals.size = c.maxLocals) {argsL rest : List Value} (hst : g.stack = argsL.reverse ++ .ref a :: rest) (has : (.ref a :: argsL).toArray = as') (hlen : ∀ sig, parseMethodDescriptor y.desc = some sig → argsL.length = sig.parameters.length)
    (hW : 2 * g.monitorRoom + (rest.map fun v => v.category).sum ≤ W) (hd : decode c.code g.pc = .ok (.invokevirtual idx, 3))
    (k : ∀ v T' L, Stand p l e R s m args below meth c T' (locs ++ L) (cells + rc) (slots + rn) → Q v T'.heap L → Go p e below K (T'.setTop { g with pc := g.pc + 3, stack := v.toList ++ rest })) : Go p e below K (T.setTop g) := by
  obtain ⟨cq, kq, qa, qb, qc⟩ := isOf hZ eT E
  obtain ⟨v, _, ⟨T', L', k', n'⟩, -, X', ⟨Lc, hQ, l1, y1, z1⟩, st⟩ := X.virtualBack hx (y := y) (z := y) hown (mvT hZ w1) (mvT hZ w2) (notFace_of_selects (args := #[]) (mvT hZ w6)) (mvT hZ w6) (mvT hZ w5) hy hB qa qc hg hsize (Steps.refl _) hlen hst hW hd (fun _ _ => ⟨has, eT, hc, hs⟩)
  dsimp only [Pt.U, Pt.locs, Pt.cells, Pt.slots] at X' l1 y1 z1 st hQ
  subst l1 y1 z1
  exact go (fun t q => st.trans q) (k _ _ _ X' hQ)
theorem own_payC {rc rn : Nat} (X : Stand p l e R s m args below meth c T locs cells slots) (hx : p.tables.exec = Jvm.exec) (hZ : Z.Warmed39 s.vm) (hown : s.vm.findClass own = some m.cls) (eT : T.heap = h)
    (w1 : (Jvm.Cond.methodLink own idx y).before a0 Z = true) (w2 : (Jvm.Cond.instanceMethod y).before a0 Z = true) (w4 : (Jvm.Cond.code y bytes maxL none).before a0 Z = true)
    (hB : Back l R p e below s args y 3 W (fun P a => a = as' ∧ P.U.heap = h ∧ P.cells + rc ≤ R.cells ∧ P.slots + rn ≤ R.slots) (fun P _ v B => ∃ L, Q v B.U.heap L ∧ B.locs = P.locs ++ L ∧ B.cells = P.cells + rc ∧ B.slots = P.slots + rn))
    (hyn : y.name = "<init>") (hy : y.cls ≠ "java/lang/invoke/MethodHandle" ∧ y.cls ≠ "java/lang/invoke/VarHandle") (hc : cells + rc ≤ R.cells) (hs : slots + rn ≤ R.slots)
    {g : JFrame} (hg : g.method = m) (hsize : g.locals.size = c.maxLocals) {a : Addr} {argsL rest : List Value} (hst : g.stack = argsL.reverse ++ .ref a :: rest) (has : (.ref a :: argsL).toArray = as') (hlen : ∀ sig, parseMethodDescriptor y.desc = some sig → argsL.length = sig.parameters.length)
    (hW : 2 * g.monitorRoom + (rest.map fun v => v.category).sum ≤ W) (hd : decode c.code g.pc = .ok (.invokespecial idx, 3))
    (k : ∀ v T' L, Stand p l e R s m args below meth c T' (locs ++ L) (cells + rc) (slots + rn) → Q v T'.heap L → Go p e below K (T'.setTop { g with pc := g.pc + 3, stack := v.toList ++ rest })) : Go p e below K (T.setTop g) := by
  obtain ⟨v, _, ⟨T', L', k', n'⟩, -, X', ⟨Lc, hQ, l1, y1, z1⟩, st⟩ := X.specialBack hx (y := y) hyn hown (mvT hZ w1) (mvT hZ w2) (mvT hZ w4) hy hB hg hsize (Steps.refl _) (a := a) hlen hst hW hd (fun _ _ => ⟨has, eT, hc, hs⟩)
  dsimp only [Pt.U, Pt.locs, Pt.cells, Pt.slots] at X' l1 y1 z1 st hQ
  subst l1 y1 z1
  exact go (fun t q => st.trans q) (k _ _ _ X' hQ)
end CallsW
end OwnW

/-! ## Own: Strings of at most two chars below 256, and what the statics say -/
abbrev EL1 : List (String × Nat) := [("java/lang/String", 7)]
def QI (r : Int32) (h0 : Heap) (v : Option Value) (h : Heap) (L : List Loc) : Prop := v = some (.int r) ∧ L = [] ∧ h = h0
section OwnS
variable {Z : State} {h h' h1 h2 : Heap} {a b : Addr} {cs ds : List Int32} {a0 : Array Value} {vm : Vm}
def Str (Z : State) (h : Heap) (a : Addr) (cs : List Int32) : Prop := ∃ (t : Addr) (k : ClassId), Exa Z h a "java/lang/String" ∧ Fld Z h a "java/lang/String" "value" "[B" (.ref t) ∧ Fld Z h a "java/lang/String" "coder" "B" (.int 0) ∧ Arv Z h t k .byte (Int32.ofNat cs.length) ((cs.map StrChars.lo8).map Value.int) (.int 0) ∧ (∀ c ∈ cs, ¬ c < 0 ∧ ¬ (255 : Int32) < c) ∧ cs.length ≤ 2
theorem Str.ext (F : Str Z h a cs) (E : Ext h h') : Str Z h' a cs := by
  obtain ⟨t, k, f1, f2, f3, f4, r⟩ := F
  exact ⟨t, k, f1.ext E, f2.ext E, f3.ext E, f4.ext E, r⟩
theorem Str.exa (F : Str Z h a cs) : Exa Z h a "java/lang/String" := by obtain ⟨t, k, f1, -⟩ := F; exact f1
theorem Str.lt (F : Str Z h a cs) : a < h.size := F.exa.lt
theorem Str.len (F : Str Z h a cs) : cs.length ≤ 2 := by obtain ⟨t, k, -, -, -, -, -, r⟩ := F; exact r
theorem Str.bd (F : Str Z h a cs) : ∀ c ∈ cs, ¬ c < 0 ∧ ¬ (255 : Int32) < c := by obtain ⟨t, k, -, -, -, -, r, -⟩ := F; exact r
def Wld (Z : State) (h : Heap) : Prop := ∃ (z : Int32) (fm : Value), Sta Z h "java/lang/String" "COMPACT_STRINGS" "Z" (.int z) ∧ ¬ z = 0 ∧ Sta Z h "jdk/internal/util/Preconditions" "SIOOBE_FORMATTER" "Ljava/util/function/BiFunction;" fm ∧ fm.isRef = true
theorem Wld.ext (F : Wld Z h) (E : Ext h h') : Wld Z h' := by obtain ⟨z, fm, f1, f2, f3, f4⟩ := F; exact ⟨z, fm, f1.ext E, f2, f3.ext E, f4⟩
theorem Wld.wr {sl : Nat} {v : Value} (F : Wld Z h) (W : Wr h h' a sl v) : Wld Z h' := by obtain ⟨z, fm, f1, f2, f3, f4⟩ := F; exact ⟨z, fm, f1.wr W, f2, f3.wr W, f4⟩
theorem own_extK (E : Ext h h1) (K : Keep h1 h2 [b]) (q : h.size ≤ b) : Ext h h2 := ⟨Nat.le_trans E.1 K.1, fun x c hx => K.2.1 x c (E.2 x c hx) fun hm => by
  cases List.mem_singleton.mp hm
  exact absurd (Array.getElem?_eq_some_iff.mp hx).1 (Nat.not_lt.mpr q)⟩
theorem own_extW {sl : Nat} {v : Value} (E : Ext h h1) (W : Wr h1 h2 b sl v) (q : h.size ≤ b) : Ext h h2 := own_extK E (Keep.of_wr W) q
theorem own_extT (E : Ext h h1) (E' : Ext h1 h2) : Ext h h2 := ⟨Nat.le_trans E.1 E'.1, fun x c hx => E'.2 x c (E.2 x c hx)⟩
theorem own_extR : Ext h h := ⟨Nat.le_refl _, fun _ _ q => q⟩
theorem own_wS (hw : ∀ d ∈ tables_1, d.before a0 Z = true) : ∀ a ∈ Bundle.stringAtoms, a.before a0 Z = true := fun d hd => hw d ((by decide +kernel : ∀ d ∈ Bundle.stringAtoms, d ∈ tables_1) d hd)
theorem own_EW (hw : ∀ d ∈ tables_1, d.before a0 Z = true) : EW Z a0 EL1 := EW.cons (text := "") (hw _ (List.mem_of_getElem? (i := 18) rfl)) (fun c hc => nomatch hc) EW.nil
theorem own_lo8 (c : Int32) : StrChars.lo8 c = nar .byte (c.toInt8.toInt32) := by
  show c.toInt8.toInt32 = c.toInt8.toInt32.toInt8.toInt32
  simp
/-- a String whose bytes are not there yet is no literal's -/
theorem own_safe {EL : List (String × Nat)} (hal : Z.vm.Alike vm) (E : Exa Z h a "java/lang/String") (F : Fld Z h a "java/lang/String" "value" "[B" .null) : Safe Z EL vm h a := by
  intro B
  obtain ⟨_, _, _, _, _, q, -, G, hor⟩ := B
  have hA := G.ha
  have hD := G.hd
  obtain ⟨_, ⟨⟨-, -, -, ⟨_, _, _, hfound, -⟩, -, -, -, hval, -⟩, -⟩, -, hbyte, -⟩ := G
  rcases hor with e | e
  · obtain ⟨cell, _, _, _, f, c1, c2, -, -, -, -, c7⟩ := F
    obtain ⟨_, back⟩ := ff_back (U := Wst Z vm h) hal hfound
    have ef := Option.some.inj (c2.symm.trans back)
    have ec : cell = q.sC := Option.some.inj (c1.symm.trans (e ▸ hA))
    have e2 : f = q.fSV := by injections
    rw [ec, e2, hval] at c7
    cases c7
  · obtain ⟨cell, _, c1, c2, -⟩ := E
    have ec : cell = q.SA := Option.some.inj (c1.symm.trans (e ▸ hD))
    have hb : vm.findClass "[B" = some q.SA.cls := hbyte
    rw [hal.findClass] at hb
    exact ids_ne (C := "java/lang/String") (K := "[B") c2 hb (by decide) (by rw [ec])
/-- a class whose superclasses lie off t lies off t -/
theorem own_off {t c : ClassId} {k : Class} (hk : Z.vm.classes[c]? = some k) (ne : (c == t) = false) (up : ∀ p, k.super = some p → ∀ f, Z.vm.isSubclassAux f p t = false) (f : Nat) : Z.vm.isSubclassAux f c t = false := by
  rcases f with _ | f
  · rfl
  · unfold Vm.isSubclassAux
    rw [ne, hk]
    cases q : k.super with
    | none => simp [q]
    | some p => simp [q, up p q f]
theorem own_far {t c : ClassId} {k kt : Class} (hk : Z.vm.classes[c]? = some k) (ht : Z.vm.classes[t]? = some kt) (o1 : k.kind = .ordinary) (o2 : kt.kind = .ordinary) (ni : kt.isInterface = false) (ne : (c == t) = false) (off : ∀ f, Z.vm.isSubclassAux f c t = false) : Z.vm.assignable c t = false := by
  unfold Vm.assignable Vm.assignableAux Vm.isSubclass
  rw [ne, hk, ht]
  simp only [o1, o2, ni, off]
  rfl
abbrev BN : String := "com/example/triview/triview/BlankNode"
theorem own_bn (hw : ∀ d ∈ tables_1, d.before a0 Z = true) : ∃ t kt, Z.vm.findClass BN = some t ∧ Z.vm.classes[t]? = some kt ∧ kt.kind = .ordinary ∧ kt.isInterface = false := by
  obtain ⟨t, kt, g1, g2, g3, g4, -⟩ := Cond.instantiable_spec (hw _ (List.mem_of_getElem? (i := 27) rfl))
  exact ⟨t, kt, g1, g2, g3, ((Bool.or_eq_false_iff).mp g4).1⟩
theorem own_nid {C : String} {c t : ClassId} (h : Z.vm.findClass C = some c) (g : Z.vm.findClass BN = some t) (hn : C ≠ BN) : (c == t) = false := by
  rw [beq_eq_false_iff_ne]; exact ids_ne h g hn
theorem own_offO (hw : ∀ d ∈ tables_1, d.before a0 Z = true) {t : ClassId} (g : Z.vm.findClass BN = some t) : ∃ c, Z.vm.findClass "java/lang/Object" = some c ∧ ∀ f, Z.vm.isSubclassAux f c t = false := by
  obtain ⟨c, k, h1, h2, h3, -⟩ := Cond.noSuperclass_spec (hw _ (List.mem_of_getElem? (i := 108) rfl))
  exact ⟨c, h1, own_off h2 (own_nid h1 g (by decide)) fun p hp => by rw [h3] at hp; cases hp⟩
theorem own_noS (hw : ∀ d ∈ tables_1, d.before a0 Z = true) : ∃ c t, Z.vm.findClass "java/lang/String" = some c ∧ Z.vm.findClass BN = some t ∧ Z.vm.assignable c t = false := by
  obtain ⟨t, kt, g1, g2, g3, g4⟩ := own_bn hw
  obtain ⟨o, o1, o2⟩ := own_offO hw g1
  obtain ⟨c, hc⟩ := found_sup (hw _ (List.mem_of_getElem? (i := 107) rfl))
  obtain ⟨p, k, _, q1, q2, -, q4, q5, -⟩ := Cond.superclass_spec hc (hw _ (List.mem_of_getElem? (i := 107) rfl))
  have ne := own_nid hc g1 (by decide)
  exact ⟨c, t, hc, g1, own_far q2 g2 q5 g3 g4 ne (own_off q2 ne fun r hr => by
    cases q4.symm.trans hr
    cases o1.symm.trans q1
    exact o2)⟩
theorem own_noI (hw : ∀ d ∈ tables_1, d.before a0 Z = true) : ∃ c t, Z.vm.findClass "com/example/triview/triview/Iri" = some c ∧ Z.vm.findClass BN = some t ∧ Z.vm.assignable c t = false := by
  obtain ⟨t, kt, g1, g2, g3, g4⟩ := own_bn hw
  obtain ⟨o, o1, o2⟩ := own_offO hw g1
  obtain ⟨c, hc⟩ := found_sup (hw _ (List.mem_of_getElem? (i := 122) rfl))
  obtain ⟨p, k, _, q1, q2, -, q4, q5, -⟩ := Cond.superclass_spec hc (hw _ (List.mem_of_getElem? (i := 122) rfl))
  obtain ⟨p', k', _, r1, r2, -, r4, -⟩ := Cond.superclass_spec q1 (hw _ (List.mem_of_getElem? (i := 123) rfl))
  have ne := own_nid hc g1 (by decide)
  exact ⟨c, t, hc, g1, own_far q2 g2 q5 g3 g4 ne (own_off q2 ne fun r hr => by
    cases q4.symm.trans hr
    exact own_off r2 (own_nid q1 g1 (by decide)) fun r' hr' => by
      cases r4.symm.trans hr'
      cases o1.symm.trans r1
      exact o2)⟩
/-- the bytes spell the chars -/
theorem own_cod (hb : ∀ c ∈ cs, ¬ c < 0 ∧ ¬ (255 : Int32) < c) : StrChars.Road.CodA cs 0 (Int32.ofNat cs.length) ((cs.map StrChars.lo8).map Value.int) := StrChars.Road.codOf rfl fun c hc => (hb c hc).2
theorem own_up (hb : ∀ c ∈ cs, ¬ c < 0 ∧ ¬ (255 : Int32) < c) : ∀ c ∈ cs, ¬ c < 0 ∧ ¬ (65535 : Int32) < c := fun c hc => ⟨(hb c hc).1, fun q => (hb c hc).2 (Int32.lt_trans (by decide) q)⟩
def QE (Z : State) (a1 : Addr) (cs : List Int32) (h0 : Heap) (n0 : Nat) (v : Option Value) (h : Heap) (L : List Loc) : Prop := v = none ∧ Fr n0 L ∧ Keep h0 h [a1] ∧ Str Z h a1 cs
variable {p : Program} {l : Launch} {e : Env} {R : Room} {s : State} {args : Array Value} {below : List Frame} {W : Nat}
theorem own_len (hZ : Z.Warmed39 s.vm) (hw : ∀ d ∈ tables_1, d.before a0 Z = true) (F : Str Z h a cs) (G : Wld Z h) (hfr : 2 ≤ R.frames) (hlo : W + 25 ≤ R.locals) :
    Back l R p e below s args (⟨"java/lang/String", "length", "()I"⟩ : MethodName) 3 W (fun P x => x = #[.ref a] ∧ P.U.heap = h ∧ P.cells + 0 ≤ R.cells ∧ P.slots + 0 ≤ R.slots)
      (fun P _ v B => ∃ L, QI (Int32.ofNat cs.length) h v B.U.heap L ∧ B.locs = P.locs ++ L ∧ B.cells = P.cells + 0 ∧ B.slots = P.slots + 0) := by
  obtain ⟨t, k, f1, f2, f3, f4, f5, f6⟩ := F
  obtain ⟨z, fm, g1, g2, g3, g4⟩ := G
  exact StrChars.Road.lenW hZ (fun d hd => hw d ((by decide +kernel : ∀ d ∈ StrChars.Road.wordsLen, d ∈ tables_1) d hd)) (kI := 4) (hw _ (List.mem_of_getElem? (i := 5) rfl)) f1 f2 f3 f4 (own_cod f5) (own_up f5) g1 g2 (by omega) hfr hlo
theorem own_ch {i : Nat} {j : Int32} (hZ : Z.Warmed39 s.vm) (hw : ∀ d ∈ tables_1, d.before a0 Z = true) (F : Str Z h a cs) (G : Wld Z h) (hi : i < cs.length) (hj : j = Int32.ofNat i) (hfr : 4 ≤ R.frames) (hlo : W + 53 ≤ R.locals) :
    Back l R p e below s args (⟨"java/lang/String", "charAt", "(I)C"⟩ : MethodName) 3 W (fun P x => x = #[.ref a, .int j] ∧ P.U.heap = h ∧ P.cells + 0 ≤ R.cells ∧ P.slots + 0 ≤ R.slots)
      (fun P _ v B => ∃ L, QI (cs.getD i 0) h v B.U.heap L ∧ B.locs = P.locs ++ L ∧ B.cells = P.cells + 0 ∧ B.slots = P.slots + 0) := by
  obtain ⟨t, k, f1, f2, f3, f4, f5, f6⟩ := F
  obtain ⟨z, fm, g1, g2, g3, g4⟩ := G
  exact StrChars.Road.chN hZ (fun d hd => hw d ((by decide +kernel : ∀ d ∈ StrChars.Road.wordsChN, d ∈ tables_1) d hd)) (kI := 4) (hw _ (List.mem_of_getElem? (i := 5) rfl)) f1 f2 f3 f4 (own_cod f5) (own_up f5) g1 g2 g3 g4 (by omega) hi hj hfr hlo
theorem own_eq (hZ : Z.Warmed39 s.vm) (hw : ∀ d ∈ tables_1, d.before a0 Z = true) (F : Str Z h a cs) (F' : Str Z h b ds) (G : Wld Z h) (hfr : 2 ≤ R.frames) (hlo : W + 28 ≤ R.locals) :
    Back l R p e below s args (⟨"java/lang/String", "equals", "(Ljava/lang/Object;)Z"⟩ : MethodName) 3 W (fun P x => x = #[.ref a, .ref b] ∧ P.U.heap = h ∧ P.cells + 0 ≤ R.cells ∧ P.slots + 0 ≤ R.slots)
      (fun P _ v B => ∃ L, QI (if cs = ds then (1 : Int32) else 0) h v B.U.heap L ∧ B.locs = P.locs ++ L ∧ B.cells = P.cells + 0 ∧ B.slots = P.slots + 0) := by
  obtain ⟨t, k, f1, f2, f3, f4, f5, f6⟩ := F
  obtain ⟨t', k', f1', f2', f3', f4', f5', f6'⟩ := F'
  obtain ⟨z, fm, g1, g2, g3, g4⟩ := G
  refine Back.mono (StrChars.Road.eqW hZ (fun d hd => hw d ((by decide +kernel : ∀ d ∈ StrChars.Road.wordsEq, d ∈ tables_1) d hd)) (kI := 4) (hw _ (List.mem_of_getElem? (i := 5) rfl)) f1 f2 f3 f4 (own_cod f5) (own_up f5) (by omega) f1' f2' f3' f4' (own_cod f5') (own_up f5') (by omega) g1 g2 hfr hlo) (fun P a hp => hp) (fun P a v B hp hq => ?_)
  obtain ⟨L, ⟨q1, q2⟩, r⟩ := hq
  refine ⟨L, ⟨?_, q2⟩, r⟩
  rcases q1 with ⟨q, e⟩ | ⟨q, e⟩
  · rw [q, if_pos e]
  · rw [q, if_neg e]
theorem own_newS {n0 : Nat} {kC : ClassId} {c0 c1 : Int32} {d v0 w0 : Value} (hZ : Z.Warmed39 s.vm) (hw : ∀ d ∈ tables_1, d.before a0 Z = true) (hx0 : n0 ≤ a) (hh0 : n0 ≤ h.size) (E : Exa Z h a "java/lang/String") (V : Fld Z h a "java/lang/String" "value" "[B" v0) (C : Fld Z h a "java/lang/String" "coder" "B" w0) (A : Arv Z h b kC .char (2 : Int32) [.int c0, .int c1] d) (G : Wld Z h)
    (hb : ∀ c ∈ [c0, c1], ¬ c < 0 ∧ ¬ (255 : Int32) < c) (hfr : 4 ≤ R.frames) (hlo : W + 65 ≤ R.locals) :
    Back l R p e below s args (⟨"java/lang/String", "<init>", "([C)V"⟩ : MethodName) 3 W (fun P x => x = #[.ref a, .ref b] ∧ P.U.heap = h ∧ P.cells + 1 ≤ R.cells ∧ P.slots + 2 ≤ R.slots)
      (fun P _ v B => ∃ L, QE Z a [c0, c1] h n0 v B.U.heap L ∧ B.locs = P.locs ++ L ∧ B.cells = P.cells + 1 ∧ B.slots = P.slots + 2) := by
  obtain ⟨z, fm, g1, g2, g3, g4⟩ := G
  refine Back.mono (StrChars.Road.backV (cs := [c0, c1]) (bs := [c0, c1].map fun c => c.toInt8.toInt32) (n := 2) hZ (fun d hd => hw d ((by decide +kernel : ∀ d ∈ StrChars.Road.words, d ∈ tables_1) d hd)) (kI := 4) (hw _ (List.mem_of_getElem? (i := 5) rfl)) hx0 hh0 E V C A g1 g2 rfl rfl (by omega) (by omega) hb rfl hfr hlo) (fun P a hp => hp) (fun P a v B hp hq => ?_)
  obtain ⟨L, ⟨q1, q2, q3, q4, q5, t, kb, q6, q7, q8, q9, q10⟩, r⟩ := hq
  exact ⟨L, ⟨q1, q2, q3, t, kb, q4, q9, q5, q10, hb, Nat.le_refl _⟩, r⟩
end OwnS

theorem d6_0 : decode jdk_30_method_1_code 0 = .ok (.aload_n 0, 1) := by decide +kernel
theorem d6_1 : decode jdk_30_method_1_code 1 = .ok (.invokespecial 1, 3) := by decide +kernel
theorem d6_4 : decode jdk_30_method_1_code 4 = .ok (.return_, 1) := by decide +kernel
theorem pn_6 : plainName "java/lang/Record" = true := by first | (simp [plainName, overriddenIn]; done) | decide +kernel
theorem ef_6 (m : MethodId) (x0 : Addr) : entryFrame m #[(.ref x0)] 1 = mkF m 0 #[.val (.ref x0)] [] := by first | (simp [entryFrame, mkF, argsToLocals, Value.category]; done) | rfl
set_option maxRecDepth 65536 in
set_option maxHeartbeats 40000000 in
theorem rm6 (l : Launch) (Z : State) (a0 : Array Value) (hw : ∀ d ∈ tables_1, d.before a0 Z = true) (ws : List Jvm.Cond) (a1 : Addr) (h0 : Heap) (n0 : Nat) :
    MetFree l (⟨"java/lang/Record", "<init>", "()V"⟩ : MethodName) (head1 (Jvm.Cond.code (⟨"java/lang/Record", "<init>", "()V"⟩ : MethodName) jdk_30_method_1_code 1 none :: ws) ({ frames := 1, cells := 0, slots := 0, locals := 12 } : Room)) (fun a U => a = #[(.ref a1)] ∧ Z.Warmed39 U.vm ∧ U.heap = h0) (fun _ _ _ _ _ => True) (fun _ U o U' => ∃ v L, o = .returned v ∧ (QP none h0 n0) v U'.heap L ∧ FrameEnd U o U' L ({ frames := 1, cells := 0, slots := 0, locals := 12 } : Room).cells ({ frames := 1, cells := 0, slots := 0, locals := 12 } : Room).slots) := by
  refine own_met (plainFor_of_name pn_6) (fun m => ef_6 m a1) ?_
  intro p e s m below meth c T0 hx hby hml hown hnm hret hlk hZ X0 e0
  have hown : s.vm.findClass "java/lang/Record" = some m.cls := hown
  have hnm : meth.name = "<init>" := hnm
  have hret : meth.sig.returnType = none := hret
  have N0 := Fr.nil n0
  show Go p e below _ (T0.setTop (mkF m 0 #[.val (.ref a1)] []))
  refine go (fun _ q => XS.aloadN X0.here hx rfl (hb hby d6_0) rfl rfl q) ?_
  show Go p e below _ (T0.setTop (mkF m 1 #[.val (.ref a1)] [(.ref a1)]))
  obtain ⟨T1, X1, e1, st1⟩ := initO X0 hx hZ hown (hw _ (List.mem_of_getElem? (i := 37) rfl)) (hw _ (List.mem_of_getElem? (i := 16) rfl)) (hw _ (List.mem_of_getElem? (i := 17) rfl)) e0 (g := (mkF m 1 #[.val (.ref a1)] [(.ref a1)])) rfl (by rw [hml]; rfl) rfl (hb hby d6_1) (by decide) (W := 0) (by show 2 * 0 + _ ≤ _; exact Nat.le_of_eq rfl) (by decide)
  refine go st1 ?_
  show Go p e below _ (T1.setTop (mkF m 4 #[.val (.ref a1)] []))
  exact own_retV X1 hx hlk hret (hb hby d6_4) (by decide) (by decide) ⟨rfl, N0, e1⟩
theorem d7_0 : decode jdk_31_method_11_code 0 = .ok (.aload_n 0, 1) := by decide +kernel
theorem d7_1 : decode jdk_31_method_11_code 1 = .ok (.ifnonnull 12, 3) := by decide +kernel
theorem d7_13 : decode jdk_31_method_11_code 13 = .ok (.aload_n 0, 1) := by decide +kernel
theorem d7_14 : decode jdk_31_method_11_code 14 = .ok (.areturn, 1) := by decide +kernel
theorem pn_7 : plainName "java/util/Objects" = true := by first | (simp [plainName, overriddenIn]; done) | decide +kernel
theorem ef_7 (m : MethodId) (x0 : Addr) (x1 : Addr) : entryFrame m #[(.ref x0), (.ref x1)] 2 = mkF m 0 #[.val (.ref x0), .val (.ref x1)] [] := by first | (simp [entryFrame, mkF, argsToLocals, Value.category]; done) | rfl
set_option maxRecDepth 65536 in
set_option maxHeartbeats 40000000 in
theorem rm7 (l : Launch) (Z : State) (a0 : Array Value) (hw : ∀ d ∈ tables_1, d.before a0 Z = true) (ws : List Jvm.Cond) (a1 : Addr) (a2 : Addr) (h0 : Heap) (n0 : Nat) :
    MetFree l (⟨"java/util/Objects", "requireNonNull", "(Ljava/lang/Object;Ljava/lang/String;)Ljava/lang/Object;"⟩ : MethodName) (head1 (Jvm.Cond.code (⟨"java/util/Objects", "requireNonNull", "(Ljava/lang/Object;Ljava/lang/String;)Ljava/lang/Object;"⟩ : MethodName) jdk_31_method_11_code 2 (some (.object "java/lang/Object")) :: ws) ({ frames := 0, cells := 0, slots := 0, locals := 0 } : Room)) (fun a U => a = #[(.ref a1), (.ref a2)] ∧ Z.Warmed39 U.vm ∧ U.heap = h0) (fun _ _ _ _ _ => True) (fun _ U o U' => ∃ v L, o = .returned v ∧ (QP (some (.ref a1)) h0 n0) v U'.heap L ∧ FrameEnd U o U' L ({ frames := 0, cells := 0, slots := 0, locals := 0 } : Room).cells ({ frames := 0, cells := 0, slots := 0, locals := 0 } : Room).slots) := by
  refine own_met (plainFor_of_name pn_7) (fun m => ef_7 m a1 a2) ?_
  intro p e s m below meth c T0 hx hby hml hown hnm hret hlk hZ X0 e0
  have hown : s.vm.findClass "java/util/Objects" = some m.cls := hown
  have hnm : meth.name = "requireNonNull" := hnm
  have hret : meth.sig.returnType = some (.object "java/lang/Object") := hret
  have N0 := Fr.nil n0
  show Go p e below _ (T0.setTop (mkF m 0 #[.val (.ref a1), .val (.ref a2)] []))
  refine go (fun _ q => XS.aloadN X0.here hx rfl (hb hby d7_0) rfl rfl q) ?_
  show Go p e below _ (T0.setTop (mkF m 1 #[.val (.ref a1), .val (.ref a2)] [(.ref a1)]))
  refine go (fun _ q => Jvm.Free.XT.ifnonnullYes X0.here hx rfl (pc0 := 1) (pc' := 13) rfl (hb hby d7_1) rfl (by decide) (by decide) q) ?_
  show Go p e below _ (T0.setTop (mkF m 13 #[.val (.ref a1), .val (.ref a2)] []))
  refine go (fun _ q => XS.aloadN X0.here hx rfl (hb hby d7_13) rfl rfl q) ?_
  show Go p e below _ (T0.setTop (mkF m 14 #[.val (.ref a1), .val (.ref a2)] [(.ref a1)]))
  exact own_retA X0 hx hlk rfl hret rfl (hb hby d7_14) (by decide) (by decide) ⟨rfl, N0, e0⟩
theorem own_sur {p : Int32} (h : ¬ (255 : Int32) < p) : p < (55296 : Int32) := Int32.lt_of_le_of_lt (Int32.not_lt.mp h) (by decide)
theorem d21_0 : decode jdk_89_method_16_code 0 = .ok (.iload_n 0, 1) := by decide +kernel
theorem d21_1 : decode jdk_89_method_16_code 1 = .ok (.ldc 75, 2) := by decide +kernel
theorem d21_3 : decode jdk_89_method_16_code 3 = .ok (.if_icmp .lt 13, 3) := by decide +kernel
theorem d21_16 : decode jdk_89_method_16_code 16 = .ok (.iconst 0, 1) := by decide +kernel
theorem d21_17 : decode jdk_89_method_16_code 17 = .ok (.ireturn, 1) := by decide +kernel
theorem pn_21 : plainName "java/lang/Character" = true := by first | (simp [plainName, overriddenIn]; done) | decide +kernel
theorem ef_21 (m : MethodId) (x0 : Int32) : entryFrame m #[(.int x0)] 1 = mkF m 0 #[.val (.int x0)] [] := by first | (simp [entryFrame, mkF, argsToLocals, Value.category]; done) | rfl
set_option maxRecDepth 65536 in
set_option maxHeartbeats 40000000 in
theorem rm21 (l : Launch) (Z : State) (a0 : Array Value) (hw : ∀ d ∈ tables_1, d.before a0 Z = true) (ws : List Jvm.Cond) (p1 : Int32) (h0 : Heap) (n0 : Nat) (hp : ¬ p1 < 0 ∧ ¬ (255 : Int32) < p1) :
    MetFree l (⟨"java/lang/Character", "isSurrogate", "(C)Z"⟩ : MethodName) (head1 (Jvm.Cond.code (⟨"java/lang/Character", "isSurrogate", "(C)Z"⟩ : MethodName) jdk_89_method_16_code 1 (some .boolean) :: ws) ({ frames := 0, cells := 0, slots := 0, locals := 0 } : Room)) (fun a U => a = #[(.int p1)] ∧ Z.Warmed39 U.vm ∧ U.heap = h0) (fun _ _ _ _ _ => True) (fun _ U o U' => ∃ v L, o = .returned v ∧ (QP (some (.int (0 : Int32))) h0 n0) v U'.heap L ∧ FrameEnd U o U' L ({ frames := 0, cells := 0, slots := 0, locals := 0 } : Room).cells ({ frames := 0, cells := 0, slots := 0, locals := 0 } : Room).slots) := by
  refine own_met (plainFor_of_name pn_21) (fun m => ef_21 m p1) ?_
  intro p e s m below meth c T0 hx hby hml hown hnm hret hlk hZ X0 e0
  have hown : s.vm.findClass "java/lang/Character" = some m.cls := hown
  have hnm : meth.name = "isSurrogate" := hnm
  have hret : meth.sig.returnType = some .boolean := hret
  have N0 := Fr.nil n0
  show Go p e below _ (T0.setTop (mkF m 0 #[.val (.int p1)] []))
  refine go (fun _ q => XS.iloadN X0.here hx rfl (hb hby d21_0) rfl q) ?_
  show Go p e below _ (T0.setTop (mkF m 1 #[.val (.int p1)] [(.int p1)]))
  refine go (X0.ldcInt hx hown (mvT hZ (hw _ (List.mem_of_getElem? (i := 105) rfl))) (g := (mkF m 1 #[.val (.int p1)] [(.int p1)])) rfl (hb hby d21_1)) ?_
  show Go p e below _ (T0.setTop (mkF m 3 #[.val (.int p1)] [(.int (55296 : Int32)), (.int p1)]))
  have hk1 : p1 < (55296 : Int32) := own_sur hp.2
  refine go (fun _ q => XS.icmpYes X0.here hx rfl (pc0 := 3) (pc' := 16) rfl (hb hby d21_3) rfl (tlt hk1).1 (by decide) (by decide) q) ?_
  show Go p e below _ (T0.setTop (mkF m 16 #[.val (.int p1)] []))
  refine go (fun _ q => XS.iconst X0.here hx rfl (hb hby d21_16) q) ?_
  show Go p e below _ (T0.setTop (mkF m 17 #[.val (.int p1)] [(.int (0 : Int32))]))
  exact own_retZ (z' := (0 : Int32)) X0 hx hlk hret (hb hby d21_17) (by decide) (by decide) rfl ⟨rfl, N0, e0⟩
theorem d13_0 : decode jdk_43_method_3_code 0 = .ok (.iload_n 0, 1) := by decide +kernel
theorem d13_1 : decode jdk_43_method_3_code 1 = .ok (.sipush 255, 3) := by decide +kernel
theorem d13_4 : decode jdk_43_method_3_code 4 = .ok (.if_icmp .gt 7, 3) := by decide +kernel
theorem d13_7 : decode jdk_43_method_3_code 7 = .ok (.iconst 1, 1) := by decide +kernel
theorem d13_8 : decode jdk_43_method_3_code 8 = .ok (.goto 4, 3) := by decide +kernel
theorem d13_12 : decode jdk_43_method_3_code 12 = .ok (.ireturn, 1) := by decide +kernel
theorem pn_13 : plainName "java/lang/StringLatin1" = true := by first | (simp [plainName, overriddenIn]; done) | decide +kernel
theorem ef_13 (m : MethodId) (x0 : Int32) : entryFrame m #[(.int x0)] 1 = mkF m 0 #[.val (.int x0)] [] := by first | (simp [entryFrame, mkF, argsToLocals, Value.category]; done) | rfl
set_option maxRecDepth 65536 in
set_option maxHeartbeats 40000000 in
theorem rm13 (l : Launch) (Z : State) (a0 : Array Value) (hw : ∀ d ∈ tables_1, d.before a0 Z = true) (ws : List Jvm.Cond) (p1 : Int32) (h0 : Heap) (n0 : Nat) (hp : ¬ p1 < 0 ∧ ¬ (255 : Int32) < p1) :
    MetFree l (⟨"java/lang/StringLatin1", "canEncode", "(C)Z"⟩ : MethodName) (head1 (Jvm.Cond.code (⟨"java/lang/StringLatin1", "canEncode", "(C)Z"⟩ : MethodName) jdk_43_method_3_code 1 (some .boolean) :: ws) ({ frames := 0, cells := 0, slots := 0, locals := 0 } : Room)) (fun a U => a = #[(.int p1)] ∧ Z.Warmed39 U.vm ∧ U.heap = h0) (fun _ _ _ _ _ => True) (fun _ U o U' => ∃ v L, o = .returned v ∧ (QP (some (.int (1 : Int32))) h0 n0) v U'.heap L ∧ FrameEnd U o U' L ({ frames := 0, cells := 0, slots := 0, locals := 0 } : Room).cells ({ frames := 0, cells := 0, slots := 0, locals := 0 } : Room).slots) := by
  refine own_met (plainFor_of_name pn_13) (fun m => ef_13 m p1) ?_
  intro p e s m below meth c T0 hx hby hml hown hnm hret hlk hZ X0 e0
  have hown : s.vm.findClass "java/lang/StringLatin1" = some m.cls := hown
  have hnm : meth.name = "canEncode" := hnm
  have hret : meth.sig.returnType = some .boolean := hret
  have N0 := Fr.nil n0
  show Go p e below _ (T0.setTop (mkF m 0 #[.val (.int p1)] []))
  refine go (fun _ q => XS.iloadN X0.here hx rfl (hb hby d13_0) rfl q) ?_
  show Go p e below _ (T0.setTop (mkF m 1 #[.val (.int p1)] [(.int p1)]))
  refine go (fun _ q => XS.sipush X0.here hx rfl (hb hby d13_1) q) ?_
  show Go p e below _ (T0.setTop (mkF m 4 #[.val (.int p1)] [(.int (255 : Int32)), (.int p1)]))
  have hk1 : ¬ ((255 : Int32) < p1) := hp.2
  refine go (fun _ q => XS.icmpNo X0.here hx rfl (hb hby d13_4) rfl (flt hk1).2.2.1 q) ?_
  show Go p e below _ (T0.setTop (mkF m 7 #[.val (.int p1)] []))
  refine go (fun _ q => XS.iconst X0.here hx rfl (hb hby d13_7) q) ?_
  show Go p e below _ (T0.setTop (mkF m 8 #[.val (.int p1)] [(.int (1 : Int32))]))
  refine go (fun _ q => XS.goto X0.here hx rfl (pc0 := 8) (pc' := 12) rfl (hb hby d13_8) (by decide) (by decide) q) ?_
  show Go p e below _ (T0.setTop (mkF m 12 #[.val (.int p1)] [(.int (1 : Int32))]))
  exact own_retZ (z' := (1 : Int32)) X0 hx hlk hret (hb hby d13_12) (by decide) (by decide) rfl ⟨rfl, N0, e0⟩
theorem own_ltn {a b : Nat} (ha : a < 1000) (hb : b < 1000) : (Int32.ofNat a < Int32.ofNat b) ↔ a < b := by
  rw [Int32.lt_iff_toInt_lt, Int32.toInt_ofNat_of_lt (by omega), Int32.toInt_ofNat_of_lt (by omega)]; omega
theorem own_succ (n : Nat) : Int32.ofNat n + (1 : Int32) = Int32.ofNat (n + 1) := (Int32.ofNat_add n 1).symm
theorem own_at {Z : State} {h : Heap} {a : Addr} {cs : List Int32} {i : Nat} (F : Str Z h a cs) (hi : i < cs.length) : ¬ cs.getD i 0 < 0 ∧ ¬ (255 : Int32) < cs.getD i 0 := by
  have e : cs.getD i 0 = cs[i] := by simp [List.getD_eq_getElem?_getD, hi]
  rw [e]; exact F.bd _ (List.getElem_mem _)
theorem d8_0 : decode prog_51_method_2_code 0 = .ok (.iconst 0, 1) := by decide +kernel
theorem d8_1 : decode prog_51_method_2_code 1 = .ok (.istore_n 2, 1) := by decide +kernel
theorem d8_2 : decode prog_51_method_2_code 2 = .ok (.iload_n 2, 1) := by decide +kernel
theorem d8_3 : decode prog_51_method_2_code 3 = .ok (.aload_n 0, 1) := by decide +kernel
theorem d8_4 : decode prog_51_method_2_code 4 = .ok (.invokevirtual 7, 3) := by decide +kernel
theorem d8_7 : decode prog_51_method_2_code 7 = .ok (.if_icmp .ge 83, 3) := by decide +kernel
theorem d8_10 : decode prog_51_method_2_code 10 = .ok (.aload_n 0, 1) := by decide +kernel
theorem d8_11 : decode prog_51_method_2_code 11 = .ok (.iload_n 2, 1) := by decide +kernel
theorem d8_12 : decode prog_51_method_2_code 12 = .ok (.invokevirtual 13, 3) := by decide +kernel
theorem d8_15 : decode prog_51_method_2_code 15 = .ok (.istore_n 3, 1) := by decide +kernel
theorem d8_16 : decode prog_51_method_2_code 16 = .ok (.iload_n 3, 1) := by decide +kernel
theorem d8_17 : decode prog_51_method_2_code 17 = .ok (.invokestatic 17, 3) := by decide +kernel
theorem d8_20 : decode prog_51_method_2_code 20 = .ok (.ifCond .eq 64, 3) := by decide +kernel
theorem d8_84 : decode prog_51_method_2_code 84 = .ok (.iinc 2 1, 3) := by decide +kernel
theorem d8_87 : decode prog_51_method_2_code 87 = .ok (.goto (-85), 3) := by decide +kernel
theorem d8_90 : decode prog_51_method_2_code 90 = .ok (.return_, 1) := by decide +kernel
theorem pd_8_0 : parseMethodDescriptor "()I" = some ⟨[], some .int⟩ := by decide +kernel
theorem pd_8_1 : parseMethodDescriptor "(I)C" = some ⟨[.int], some .char⟩ := by decide +kernel
theorem pd_8_2 : parseMethodDescriptor "(C)Z" = some ⟨[.char], some .boolean⟩ := by decide +kernel
theorem pn_8 : plainName "com/example/triview/triview/UnicodeText" = true := by first | (simp [plainName, overriddenIn]; done) | decide +kernel
theorem ef_8 (m : MethodId) (x0 : Addr) (x1 : Addr) : entryFrame m #[(.ref x0), (.ref x1)] 4 = mkF m 0 #[.val (.ref x0), .val (.ref x1), .unset, .unset] [] := by first | (simp [entryFrame, mkF, argsToLocals, Value.category]; done) | rfl
set_option maxRecDepth 65536 in
set_option maxHeartbeats 40000000 in
theorem own_chk {p : Program} {l : Launch} {e : Env} {s : State} {m : MethodId} {below : List Frame} {meth : Method} {c : Code} {Z : State} {a0 : Array Value} {K : State → Prop} {h : Heap} {n0 : Nat} {a1 a2 : Addr} {cs : List Int32} (hw : ∀ d ∈ tables_1, d.before a0 Z = true) (hx : p.tables.exec = Jvm.exec) (hZ : Z.Warmed39 s.vm) (hown : s.vm.findClass "com/example/triview/triview/UnicodeText" = some m.cls) (hby : c.code = prog_51_method_2_code) (hml : c.maxLocals = 4) (F : Str Z h a1 cs) (Wl : Wld Z h)
    (kont : ∀ (T : State) (locs : List Loc) (s3 : Slot), Stand p l e ({ frames := 4, cells := 0, slots := 0, locals := 54 } : Room) s m #[.ref a1, .ref a2] below meth c T locs 0 0 → Fr n0 locs → T.heap = h → Go p e below K (T.setTop (mkF m 90 #[.val (.ref a1), .val (.ref a2), .val (.int (Int32.ofNat cs.length)), s3] []))) :
    ∀ (r i : Nat) (T : State) (locs : List Loc) (s3 : Slot), Stand p l e ({ frames := 4, cells := 0, slots := 0, locals := 54 } : Room) s m #[.ref a1, .ref a2] below meth c T locs 0 0 → Fr n0 locs → T.heap = h → i + r = cs.length → (s3 = .unset ∨ ∃ w : Int32, s3 = .val (.int w)) → Go p e below K (T.setTop (mkF m 2 #[.val (.ref a1), .val (.ref a2), .val (.int (Int32.ofNat i)), s3] [])) := by
  have hlen := F.len
  intro r
  induction r with
  | zero =>
    intro i T locs s3 X Nf eT hi hs3
    obtain rfl : i = cs.length := hi
    show Go p e below _ (T.setTop (mkF m 2 #[.val (.ref a1), .val (.ref a2), .val (.int (Int32.ofNat cs.length)), s3] []))
    refine go (fun _ q => XS.iloadN X.here hx rfl (hb hby d8_2) rfl q) ?_
    show Go p e below _ (T.setTop (mkF m 3 #[.val (.ref a1), .val (.ref a2), .val (.int (Int32.ofNat cs.length)), s3] [(.int (Int32.ofNat cs.length))]))
    refine go (fun _ q => XS.aloadN X.here hx rfl (hb hby d8_3) rfl rfl q) ?_
    show Go p e below _ (T.setTop (mkF m 4 #[.val (.ref a1), .val (.ref a2), .val (.int (Int32.ofNat cs.length)), s3] [(.ref a1), (.int (Int32.ofNat cs.length))]))
    refine own_payV (Q := (QI (Int32.ofNat cs.length) h)) (W := 1) (rc := 0) (rn := 0) X hx hZ hown eT (hw _ (List.mem_of_getElem? (i := 48) rfl)) (hw _ (List.mem_of_getElem? (i := 49) rfl)) (hw _ (List.mem_of_getElem? (i := 50) rfl)) (hw _ (List.mem_of_getElem? (i := 51) rfl)) (own_len (R := ({ frames := 4, cells := 0, slots := 0, locals := 54 } : Room)) (W := 1) hZ hw F Wl (by decide) (by decide)) (by decide) (by decide) (by decide) (a := a1) (Str.exa F) (g := (mkF m 4 #[.val (.ref a1), .val (.ref a2), .val (.int (Int32.ofNat cs.length)), s3] [(.ref a1), (.int (Int32.ofNat cs.length))])) rfl (by rw [hml]; rfl) (argsL := []) (rest := [(.int (Int32.ofNat cs.length))]) rfl rfl (lenOf pd_8_0 rfl) (by show 2 * 0 + _ ≤ _; exact Nat.le_of_eq rfl) (hb hby d8_4) ?_
    rintro _ T1 L1 X1 ⟨rfl, rfl, e1⟩
    have N1 := Fr.app Nf (Fr.nil n0)
    show Go p e below _ (T1.setTop (mkF m 7 #[.val (.ref a1), .val (.ref a2), .val (.int (Int32.ofNat cs.length)), s3] [(.int (Int32.ofNat cs.length)), (.int (Int32.ofNat cs.length))]))
    have hk2 : ¬ ((Int32.ofNat cs.length) < (Int32.ofNat cs.length)) := fun q => Nat.lt_irrefl _ ((own_ltn (by omega) (by omega)).mp q)
    refine go (fun _ q => XS.icmpYes X1.here hx rfl (pc0 := 7) (pc' := 90) rfl (hb hby d8_7) rfl (flt hk2).2.1 (by decide) (by decide) q) ?_
    show Go p e below _ (T1.setTop (mkF m 90 #[.val (.ref a1), .val (.ref a2), .val (.int (Int32.ofNat cs.length)), s3] []))
    exact kont T1 _ _ X1 N1 e1
  | succ r ih =>
    intro i T locs s3 X Nf eT hi' hs3
    have hi : i < cs.length := by omega
    show Go p e below _ (T.setTop (mkF m 2 #[.val (.ref a1), .val (.ref a2), .val (.int (Int32.ofNat i)), s3] []))
    refine go (fun _ q => XS.iloadN X.here hx rfl (hb hby d8_2) rfl q) ?_
    show Go p e below _ (T.setTop (mkF m 3 #[.val (.ref a1), .val (.ref a2), .val (.int (Int32.ofNat i)), s3] [(.int (Int32.ofNat i))]))
    refine go (fun _ q => XS.aloadN X.here hx rfl (hb hby d8_3) rfl rfl q) ?_
    show Go p e below _ (T.setTop (mkF m 4 #[.val (.ref a1), .val (.ref a2), .val (.int (Int32.ofNat i)), s3] [(.ref a1), (.int (Int32.ofNat i))]))
    refine own_payV (Q := (QI (Int32.ofNat cs.length) h)) (W := 1) (rc := 0) (rn := 0) X hx hZ hown eT (hw _ (List.mem_of_getElem? (i := 48) rfl)) (hw _ (List.mem_of_getElem? (i := 49) rfl)) (hw _ (List.mem_of_getElem? (i := 50) rfl)) (hw _ (List.mem_of_getElem? (i := 51) rfl)) (own_len (R := ({ frames := 4, cells := 0, slots := 0, locals := 54 } : Room)) (W := 1) hZ hw F Wl (by decide) (by decide)) (by decide) (by decide) (by decide) (a := a1) (Str.exa F) (g := (mkF m 4 #[.val (.ref a1), .val (.ref a2), .val (.int (Int32.ofNat i)), s3] [(.ref a1), (.int (Int32.ofNat i))])) rfl (by rw [hml]; rfl) (argsL := []) (rest := [(.int (Int32.ofNat i))]) rfl rfl (lenOf pd_8_0 rfl) (by show 2 * 0 + _ ≤ _; exact Nat.le_of_eq rfl) (hb hby d8_4) ?_
    rintro _ T1 L1 X1 ⟨rfl, rfl, e1⟩
    have N1 := Fr.app Nf (Fr.nil n0)
    show Go p e below _ (T1.setTop (mkF m 7 #[.val (.ref a1), .val (.ref a2), .val (.int (Int32.ofNat i)), s3] [(.int (Int32.ofNat cs.length)), (.int (Int32.ofNat i))]))
    have hk2 : (Int32.ofNat i) < (Int32.ofNat cs.length) := (own_ltn (by omega) (by omega)).mpr hi
    refine go (fun _ q => XS.icmpNo X1.here hx rfl (hb hby d8_7) rfl (tlt hk2).2.1 q) ?_
    show Go p e below _ (T1.setTop (mkF m 10 #[.val (.ref a1), .val (.ref a2), .val (.int (Int32.ofNat i)), s3] []))
    refine go (fun _ q => XS.aloadN X1.here hx rfl (hb hby d8_10) rfl rfl q) ?_
    show Go p e below _ (T1.setTop (mkF m 11 #[.val (.ref a1), .val (.ref a2), .val (.int (Int32.ofNat i)), s3] [(.ref a1)]))
    refine go (fun _ q => XS.iloadN X1.here hx rfl (hb hby d8_11) rfl q) ?_
    show Go p e below _ (T1.setTop (mkF m 12 #[.val (.ref a1), .val (.ref a2), .val (.int (Int32.ofNat i)), s3] [(.int (Int32.ofNat i)), (.ref a1)]))
    refine own_payV (Q := (QI (cs.getD i 0) h)) (W := 0) (rc := 0) (rn := 0) X1 hx hZ hown e1 (hw _ (List.mem_of_getElem? (i := 80) rfl)) (hw _ (List.mem_of_getElem? (i := 81) rfl)) (hw _ (List.mem_of_getElem? (i := 82) rfl)) (hw _ (List.mem_of_getElem? (i := 83) rfl)) (own_ch (R := ({ frames := 4, cells := 0, slots := 0, locals := 54 } : Room)) (W := 0) hZ hw F Wl hi rfl (by decide) (by decide)) (by decide) (by decide) (by decide) (a := a1) (Str.exa F) (g := (mkF m 12 #[.val (.ref a1), .val (.ref a2), .val (.int (Int32.ofNat i)), s3] [(.int (Int32.ofNat i)), (.ref a1)])) rfl (by rw [hml]; rfl) (argsL := [(.int (Int32.ofNat i))]) (rest := []) rfl rfl (lenOf pd_8_1 rfl) (by show 2 * 0 + _ ≤ _; exact Nat.le_of_eq rfl) (hb hby d8_12) ?_
    rintro _ T3 L3 X3 ⟨rfl, rfl, e3⟩
    have N3 := Fr.app N1 (Fr.nil n0)
    show Go p e below _ (T3.setTop (mkF m 15 #[.val (.ref a1), .val (.ref a2), .val (.int (Int32.ofNat i)), s3] [(.int (cs.getD i 0))]))
    refine go (fun _ q => XS.istoreN X3.here hx rfl (hb hby d8_15) rfl (l' := #[.val (.ref a1), .val (.ref a2), .val (.int (Int32.ofNat i)), .val (.int (cs.getD i 0))]) (by rcases hs3 with rfl | ⟨w, rfl⟩ <;> rfl) q) ?_
    show Go p e below _ (T3.setTop (mkF m 16 #[.val (.ref a1), .val (.ref a2), .val (.int (Int32.ofNat i)), .val (.int (cs.getD i 0))] []))
    refine go (fun _ q => XS.iloadN X3.here hx rfl (hb hby d8_16) rfl q) ?_
    show Go p e below _ (T3.setTop (mkF m 17 #[.val (.ref a1), .val (.ref a2), .val (.int (Int32.ofNat i)), .val (.int (cs.getD i 0))] [(.int (cs.getD i 0))]))
    refine own_callS X3 hx hZ hown e3 (hw _ (List.mem_of_getElem? (i := 101) rfl)) (hw _ (List.mem_of_getElem? (i := 102) rfl)) (hw _ (List.mem_of_getElem? (i := 103) rfl)) (hw _ (List.mem_of_getElem? (i := 104) rfl)) (rm21 l Z a0 hw [] (cs.getD i 0) h n0 (own_at F hi)) (by decide) (by decide) (W := 0) (by decide) (by decide) (by decide) (g := (mkF m 17 #[.val (.ref a1), .val (.ref a2), .val (.int (Int32.ofNat i)), .val (.int (cs.getD i 0))] [(.int (cs.getD i 0))])) rfl (by rw [hml]; rfl) (argsL := [(.int (cs.getD i 0))]) (rest := []) rfl rfl (lenOf pd_8_2 rfl) (by show 2 * 0 + _ ≤ _; exact Nat.le_of_eq rfl) (hb hby d8_17) ?_
    rintro _ T4 L4 X4 ⟨rfl, N4q, e4⟩
    have N4 := Fr.app N3 N4q
    show Go p e below _ (T4.setTop (mkF m 20 #[.val (.ref a1), .val (.ref a2), .val (.int (Int32.ofNat i)), .val (.int (cs.getD i 0))] [(.int (0 : Int32))]))
    refine go (fun _ q => XS.ifYes X4.here hx rfl (pc0 := 20) (pc' := 84) rfl (hb hby d8_20) rfl ((if0 _ _).trans (teq (by decide : (0 : Int32) = (0 : Int32))).1) (by decide) (by decide) q) ?_
    show Go p e below _ (T4.setTop (mkF m 84 #[.val (.ref a1), .val (.ref a2), .val (.int (Int32.ofNat i)), .val (.int (cs.getD i 0))] []))
    refine go (fun _ q => XS.iinc X4.here hx rfl (hb hby d8_84) rfl (l' := #[.val (.ref a1), .val (.ref a2), .val (.int ((Int32.ofNat i) + (1 : Int32))), .val (.int (cs.getD i 0))]) rfl q) ?_
    show Go p e below _ (T4.setTop (mkF m 87 #[.val (.ref a1), .val (.ref a2), .val (.int ((Int32.ofNat i) + (1 : Int32))), .val (.int (cs.getD i 0))] []))
    refine go (fun _ q => XS.goto X4.here hx rfl (pc0 := 87) (pc' := 2) rfl (hb hby d8_87) (by decide) (by decide) q) ?_
    show Go p e below _ (T4.setTop (mkF m 2 #[.val (.ref a1), .val (.ref a2), .val (.int ((Int32.ofNat i) + (1 : Int32))), .val (.int (cs.getD i 0))] []))
    rw [own_succ]
    exact ih (i + 1) T4 _ _ X4 N4 e4 (by omega) (Or.inr ⟨_, rfl⟩)
set_option maxRecDepth 65536 in
set_option maxHeartbeats 40000000 in
theorem rm8 (l : Launch) (Z : State) (a0 : Array Value) (hw : ∀ d ∈ tables_1, d.before a0 Z = true) (ws : List Jvm.Cond) (a1 : Addr) (a2 : Addr) (h0 : Heap) (n0 : Nat) {cs : List Int32} (P_a1 : Str Z h0 a1 cs) (Wl : Wld Z h0) :
    MetFree l (⟨"com/example/triview/triview/UnicodeText", "check", "(Ljava/lang/String;Ljava/lang/String;)V"⟩ : MethodName) (head1 (Jvm.Cond.code (⟨"com/example/triview/triview/UnicodeText", "check", "(Ljava/lang/String;Ljava/lang/String;)V"⟩ : MethodName) prog_51_method_2_code 4 none :: ws) ({ frames := 4, cells := 0, slots := 0, locals := 54 } : Room)) (fun a U => a = #[(.ref a1), (.ref a2)] ∧ Z.Warmed39 U.vm ∧ U.heap = h0) (fun _ _ _ _ _ => True) (fun _ U o U' => ∃ v L, o = .returned v ∧ (QP none h0 n0) v U'.heap L ∧ FrameEnd U o U' L ({ frames := 4, cells := 0, slots := 0, locals := 54 } : Room).cells ({ frames := 4, cells := 0, slots := 0, locals := 54 } : Room).slots) := by
  refine own_met (plainFor_of_name pn_8) (fun m => ef_8 m a1 a2) ?_
  intro p e s m below meth c T0 hx hby hml hown hnm hret hlk hZ X0 e0
  have hown : s.vm.findClass "com/example/triview/triview/UnicodeText" = some m.cls := hown
  have hnm : meth.name = "check" := hnm
  have hret : meth.sig.returnType = none := hret
  have N0 := Fr.nil n0
  show Go p e below _ (T0.setTop (mkF m 0 #[.val (.ref a1), .val (.ref a2), .unset, .unset] []))
  refine go (fun _ q => XS.iconst X0.here hx rfl (hb hby d8_0) q) ?_
  show Go p e below _ (T0.setTop (mkF m 1 #[.val (.ref a1), .val (.ref a2), .unset, .unset] [(.int (0 : Int32))]))
  refine go (fun _ q => XS.istoreN X0.here hx rfl (hb hby d8_1) rfl (l' := #[.val (.ref a1), .val (.ref a2), .val (.int (0 : Int32)), .unset]) rfl q) ?_
  show Go p e below _ (T0.setTop (mkF m 2 #[.val (.ref a1), .val (.ref a2), .val (.int (0 : Int32)), .unset] []))
  refine own_chk hw hx hZ hown hby hml P_a1 Wl (fun T1 L1 s3 X1 N1 e1 => ?_) cs.length 0 T0 _ _ X0 N0 e0 (Nat.zero_add _) (Or.inl rfl)
  show Go p e below _ (T1.setTop (mkF m 90 #[.val (.ref a1), .val (.ref a2), .val (.int (Int32.ofNat cs.length)), s3] []))
  exact own_retV X1 hx hlk hret (hb hby d8_90) (by decide) (by decide) ⟨rfl, N1, e1⟩
def QB (Z : State) (C f : String) (a1 a2 : Addr) (h0 : Heap) (n0 : Nat) (v : Option Value) (h : Heap) (L : List Loc) : Prop := v = none ∧ Fr n0 L ∧ Keep h0 h [a1] ∧ Exa Z h a1 C ∧ Fld Z h a1 C f "Ljava/lang/String;" (.ref a2)
theorem d5_0 : decode prog_6_method_1_code 0 = .ok (.aload_n 0, 1) := by decide +kernel
theorem d5_1 : decode prog_6_method_1_code 1 = .ok (.invokespecial 1, 3) := by decide +kernel
theorem d5_4 : decode prog_6_method_1_code 4 = .ok (.aload_n 1, 1) := by decide +kernel
theorem d5_5 : decode prog_6_method_1_code 5 = .ok (.ldc 7, 2) := by decide +kernel
theorem d5_7 : decode prog_6_method_1_code 7 = .ok (.invokestatic 9, 3) := by decide +kernel
theorem d5_10 : decode prog_6_method_1_code 10 = .ok (.pop, 1) := by decide +kernel
theorem d5_11 : decode prog_6_method_1_code 11 = .ok (.aload_n 1, 1) := by decide +kernel
theorem d5_12 : decode prog_6_method_1_code 12 = .ok (.ldc 15, 2) := by decide +kernel
theorem d5_14 : decode prog_6_method_1_code 14 = .ok (.invokestatic 17, 3) := by decide +kernel
theorem d5_17 : decode prog_6_method_1_code 17 = .ok (.aload_n 0, 1) := by decide +kernel
theorem d5_18 : decode prog_6_method_1_code 18 = .ok (.aload_n 1, 1) := by decide +kernel
theorem d5_19 : decode prog_6_method_1_code 19 = .ok (.putfield 23, 3) := by decide +kernel
theorem d5_22 : decode prog_6_method_1_code 22 = .ok (.return_, 1) := by decide +kernel
theorem pd_5_0 : parseMethodDescriptor "()V" = some ⟨[], none⟩ := by decide +kernel
theorem pd_5_1 : parseMethodDescriptor "(Ljava/lang/Object;Ljava/lang/String;)Ljava/lang/Object;" = some ⟨[(.object "java/lang/Object"), (.object "java/lang/String")], some (.object "java/lang/Object")⟩ := by decide +kernel
theorem pd_5_2 : parseMethodDescriptor "(Ljava/lang/String;Ljava/lang/String;)V" = some ⟨[(.object "java/lang/String"), (.object "java/lang/String")], none⟩ := by decide +kernel
theorem pn_5 : plainName "com/example/triview/triview/BlankNode" = true := by first | (simp [plainName, overriddenIn]; done) | decide +kernel
theorem ef_5 (m : MethodId) (x0 : Addr) (x1 : Addr) : entryFrame m #[(.ref x0), (.ref x1)] 2 = mkF m 0 #[.val (.ref x0), .val (.ref x1)] [] := by first | (simp [entryFrame, mkF, argsToLocals, Value.category]; done) | rfl
set_option maxRecDepth 65536 in
set_option maxHeartbeats 40000000 in
theorem rm5 (l : Launch) (Z : State) (a0 : Array Value) (hw : ∀ d ∈ tables_1, d.before a0 Z = true) (ws : List Jvm.Cond) (a1 : Addr) (a2 : Addr) (h0 : Heap) (n0 : Nat) {cs : List Int32} {u_0 : Value} (Z0 : n0 ≤ h0.size) (g_a1 : n0 ≤ a1) (E_a1 : Exa Z h0 a1 "com/example/triview/triview/BlankNode") (F_a1 : Fld Z h0 a1 "com/example/triview/triview/BlankNode" "label" "Ljava/lang/String;" u_0) (P_a2 : Str Z h0 a2 cs) (Wl : Wld Z h0) :
    MetFree l (⟨"com/example/triview/triview/BlankNode", "<init>", "(Ljava/lang/String;)V"⟩ : MethodName) (head1 (Jvm.Cond.code (⟨"com/example/triview/triview/BlankNode", "<init>", "(Ljava/lang/String;)V"⟩ : MethodName) prog_6_method_1_code 2 none :: ws) ({ frames := 5, cells := 4, slots := 100, locals := 70 } : Room)) (fun a U => a = #[(.ref a1), (.ref a2)] ∧ Z.Warmed39 U.vm ∧ U.heap = h0 ∧ CHv Z EL1 U.vm h0) (fun _ _ _ _ _ => True) (fun _ U o U' => ∃ v L, o = .returned v ∧ (QB Z "com/example/triview/triview/BlankNode" "label" a1 a2 h0 n0) v U'.heap L ∧ CHr Z EL1 U.vm U.heap U'.vm U'.heap ∧ ReturnedEndW U o U' L ({ frames := 5, cells := 4, slots := 100, locals := 70 } : Room).cells ({ frames := 5, cells := 4, slots := 100, locals := 70 } : Room).slots) := by
  refine own_metW (plainFor_of_name pn_5) (fun m => ef_5 m a1 a2) ?_
  intro p e s m below meth c T0 vm0 k0 hx hby hml hown hnm hret hlk hZ hS hk CR X0 e0
  have hown : vm0.findClass "com/example/triview/triview/BlankNode" = some m.cls := hown
  have hnm : meth.name = "<init>" := hnm
  have hret : meth.sig.returnType = none := hret
  have N0 := Fr.nil n0
  have hEL : EW Z a0 EL1 := own_EW hw
  have hwS := own_wS hw
  have Sf_a1 : Safe Z EL1 vm0 h0 a1 := Safe.exa hZ.alike E_a1 (by decide) (by decide)
  show Go p e below _ (T0.setTop (mkF m 0 #[.val (.ref a1), .val (.ref a2)] []))
  refine go (fun _ q => XS.aloadN X0.here hx rfl (hb hby d5_0) rfl rfl q) ?_
  show Go p e below _ (T0.setTop (mkF m 1 #[.val (.ref a1), .val (.ref a2)] [(.ref a1)]))
  refine own_callC X0 hx hZ hown e0 (hw _ (List.mem_of_getElem? (i := 32) rfl)) (hw _ (List.mem_of_getElem? (i := 33) rfl)) (hw _ (List.mem_of_getElem? (i := 35) rfl)) (hw _ (List.mem_of_getElem? (i := 36) rfl)) (rm6 l Z a0 hw [] a1 h0 n0) rfl (by decide) (by decide) (W := 0) (by decide) (by decide) (by decide) (a := a1) (g := (mkF m 1 #[.val (.ref a1), .val (.ref a2)] [(.ref a1)])) rfl (by rw [hml]; rfl) (argsL := []) (rest := []) rfl rfl (lenOf pd_5_0 rfl) (by show 2 * 0 + _ ≤ _; exact Nat.le_of_eq rfl) (hb hby d5_1) ?_
  rintro _ T1 L1 X1 ⟨rfl, N1q, e1⟩
  have N1 := Fr.app N0 N1q
  show Go p e below _ (T1.setTop (mkF m 4 #[.val (.ref a1), .val (.ref a2)] []))
  refine go (fun _ q => XS.aloadN X1.here hx rfl (hb hby d5_4) rfl rfl q) ?_
  show Go p e below _ (T1.setTop (mkF m 5 #[.val (.ref a1), .val (.ref a2)] [(.ref a2)]))
  obtain ⟨b2, T2, h2, kk2, X2, e2, E2, hS, hk, hZ, hown, C2, Li2, st2⟩ := ldcOH X1 hx hZ hown (hw _ (List.mem_of_getElem? (i := 38) rfl)) hwS e1 hS hk hEL CR.1 (g := (mkF m 5 #[.val (.ref a1), .val (.ref a2)] [(.ref a2)])) rfl (hb hby d5_5) (n := 20) (by decide) (by decide) (by decide) (by decide)
  refine go st2 ?_
  have Sf_a1_2 := C2.safe E_a1.lt Sf_a1
  have CR := CR.trans C2
  have Z2 : n0 ≤ h2.size := Nat.le_trans Z0 E2.1
  have K2 : Keep h0 h2 [a1] := (Keep.refl h0 [a1]).ext E2
  have E_a1_3 : Exa Z h2 a1 "com/example/triview/triview/BlankNode" := E_a1.ext E2
  have F_a1_4 : Fld Z h2 a1 "com/example/triview/triview/BlankNode" "label" "Ljava/lang/String;" u_0 := F_a1.ext E2
  have P_5 : Str Z h2 a2 cs := P_a2.ext E2
  have Wl_6 : Wld Z h2 := Wl.ext E2
  show Go p e below _ (T2.setTop (mkF m 7 #[.val (.ref a1), .val (.ref a2)] [(.ref b2), (.ref a2)]))
  refine own_callS X2 hx hZ hown e2 (hw _ (List.mem_of_getElem? (i := 39) rfl)) (hw _ (List.mem_of_getElem? (i := 40) rfl)) (hw _ (List.mem_of_getElem? (i := 41) rfl)) (hw _ (List.mem_of_getElem? (i := 42) rfl)) (rm7 l Z a0 hw [] a2 b2 h2 n0) (by decide) (by decide) (W := 0) (by decide) (by decide) (by decide) (g := (mkF m 7 #[.val (.ref a1), .val (.ref a2)] [(.ref b2), (.ref a2)])) rfl (by rw [hml]; rfl) (argsL := [(.ref a2), (.ref b2)]) (rest := []) rfl rfl (lenOf pd_5_1 rfl) (by show 2 * 0 + _ ≤ _; exact Nat.le_of_eq rfl) (hb hby d5_7) ?_
  rintro _ T7 L7 X7 ⟨rfl, N7q, e7⟩
  have N7 := Fr.app N1 N7q
  show Go p e below _ (T7.setTop (mkF m 10 #[.val (.ref a1), .val (.ref a2)] [(.ref a2)]))
  refine go (fun _ q => XS.pop X7.here hx rfl (hb hby d5_10) rfl rfl q) ?_
  show Go p e below _ (T7.setTop (mkF m 11 #[.val (.ref a1), .val (.ref a2)] []))
  refine go (fun _ q => XS.aloadN X7.here hx rfl (hb hby d5_11) rfl rfl q) ?_
  show Go p e below _ (T7.setTop (mkF m 12 #[.val (.ref a1), .val (.ref a2)] [(.ref a2)]))
  obtain ⟨b8, T8, h8, kk8, X8, e8, E8, hS, hk, hZ, hown, C8, Li8, st8⟩ := ldcOH X7 hx hZ hown (hw _ (List.mem_of_getElem? (i := 43) rfl)) hwS e7 hS hk hEL CR.1 (g := (mkF m 12 #[.val (.ref a1), .val (.ref a2)] [(.ref a2)])) rfl (hb hby d5_12) (n := 72) (by decide) (by decide) (by decide) (by decide)
  refine go st8 ?_
  have Sf_a1_8 := C8.safe E_a1_3.lt Sf_a1_2
  have CR := CR.trans C8
  have Z8 : n0 ≤ h8.size := Nat.le_trans Z2 E8.1
  have K8 : Keep h0 h8 [a1] := K2.ext E8
  have E_a1_9 : Exa Z h8 a1 "com/example/triview/triview/BlankNode" := E_a1_3.ext E8
  have F_a1_10 : Fld Z h8 a1 "com/example/triview/triview/BlankNode" "label" "Ljava/lang/String;" u_0 := F_a1_4.ext E8
  have P_11 : Str Z h8 a2 cs := P_5.ext E8
  have Wl_12 : Wld Z h8 := Wl_6.ext E8
  show Go p e below _ (T8.setTop (mkF m 14 #[.val (.ref a1), .val (.ref a2)] [(.ref b8), (.ref a2)]))
  refine own_callS X8 hx hZ hown e8 (hw _ (List.mem_of_getElem? (i := 44) rfl)) (hw _ (List.mem_of_getElem? (i := 45) rfl)) (hw _ (List.mem_of_getElem? (i := 46) rfl)) (hw _ (List.mem_of_getElem? (i := 47) rfl)) (rm8 l Z a0 hw [] a2 b8 h8 n0 P_11 Wl_12) (by decide) (by decide) (W := 0) (by decide) (by decide) (by decide) (g := (mkF m 14 #[.val (.ref a1), .val (.ref a2)] [(.ref b8), (.ref a2)])) rfl (by rw [hml]; rfl) (argsL := [(.ref a2), (.ref b8)]) (rest := []) rfl rfl (lenOf pd_5_2 rfl) (by show 2 * 0 + _ ≤ _; exact Nat.le_of_eq rfl) (hb hby d5_14) ?_
  rintro _ T13 L13 X13 ⟨rfl, N13q, e13⟩
  have N13 := Fr.app N7 N13q
  show Go p e below _ (T13.setTop (mkF m 17 #[.val (.ref a1), .val (.ref a2)] []))
  refine go (fun _ q => XS.aloadN X13.here hx rfl (hb hby d5_17) rfl rfl q) ?_
  show Go p e below _ (T13.setTop (mkF m 18 #[.val (.ref a1), .val (.ref a2)] [(.ref a1)]))
  refine go (fun _ q => XS.aloadN X13.here hx rfl (hb hby d5_18) rfl rfl q) ?_
  show Go p e below _ (T13.setTop (mkF m 19 #[.val (.ref a1), .val (.ref a2)] [(.ref a2), (.ref a1)]))
  obtain ⟨T14, h14, X14, e14, W14, st14⟩ := putF X13 hx hZ hown (host := "") (Or.inl (hw _ (List.mem_of_getElem? (i := 59) rfl))) Via.refl e13 F_a1_10 E_a1_9 (Or.inr ⟨(hw _ (List.mem_of_getElem? (i := 60) rfl)), rfl, hnm⟩) (hw _ (List.mem_of_getElem? (i := 27) rfl)) (ty := (.object "java/lang/String")) (by decide) rfl rfl (g := (mkF m 19 #[.val (.ref a1), .val (.ref a2)] [(.ref a2), (.ref a1)])) rfl rfl (hb hby d5_19)
  refine go st14 ?_
  have F_a1_14 : Fld Z h14 a1 "com/example/triview/triview/BlankNode" "label" "Ljava/lang/String;" (.ref a2) := F_a1_10.same W14
  have E_a1_15 : Exa Z h14 a1 "com/example/triview/triview/BlankNode" := E_a1_9.wr W14
  have Wl_17 : Wld Z h14 := Wl_12.wr W14
  have N14 := Fr.snoc X14 N13 g_a1
  have K14 : Keep h0 h14 [a1] := K8.wr W14 (Or.inl (List.mem_of_getElem? (i := 0) rfl))
  have Z14 : n0 ≤ h14.size := Nat.le_trans Z8 (Nat.le_of_eq W14.size.symm)
  have Sf_a1_14 := Safe.wr W14 Sf_a1_8 CR.1 Sf_a1_8
  have hk := Nat.le_trans hk (Nat.le_of_eq W14.size.symm)
  have CR := CR.trans (CHr.wr W14 Sf_a1_8 CR.1)
  show Go p e below _ (T14.setTop (mkF m 22 #[.val (.ref a1), .val (.ref a2)] []))
  exact own_retVW X14 hx hlk hS hk e14 CR hEL hZ hret (hb hby d5_22) (by decide) (by decide) (by rw [e14]; exact ⟨rfl, N14, K14, E_a1_15, F_a1_14⟩)
theorem d22_0 : decode prog_21_method_1_code 0 = .ok (.aload_n 0, 1) := by decide +kernel
theorem d22_1 : decode prog_21_method_1_code 1 = .ok (.invokespecial 1, 3) := by decide +kernel
theorem d22_4 : decode prog_21_method_1_code 4 = .ok (.aload_n 1, 1) := by decide +kernel
theorem d22_5 : decode prog_21_method_1_code 5 = .ok (.ldc 7, 2) := by decide +kernel
theorem d22_7 : decode prog_21_method_1_code 7 = .ok (.invokestatic 9, 3) := by decide +kernel
theorem d22_10 : decode prog_21_method_1_code 10 = .ok (.pop, 1) := by decide +kernel
theorem d22_11 : decode prog_21_method_1_code 11 = .ok (.aload_n 1, 1) := by decide +kernel
theorem d22_12 : decode prog_21_method_1_code 12 = .ok (.ldc 15, 2) := by decide +kernel
theorem d22_14 : decode prog_21_method_1_code 14 = .ok (.invokestatic 17, 3) := by decide +kernel
theorem d22_17 : decode prog_21_method_1_code 17 = .ok (.aload_n 0, 1) := by decide +kernel
theorem d22_18 : decode prog_21_method_1_code 18 = .ok (.aload_n 1, 1) := by decide +kernel
theorem d22_19 : decode prog_21_method_1_code 19 = .ok (.putfield 23, 3) := by decide +kernel
theorem d22_22 : decode prog_21_method_1_code 22 = .ok (.return_, 1) := by decide +kernel
theorem pd_22_0 : parseMethodDescriptor "()V" = some ⟨[], none⟩ := by decide +kernel
theorem pd_22_1 : parseMethodDescriptor "(Ljava/lang/Object;Ljava/lang/String;)Ljava/lang/Object;" = some ⟨[(.object "java/lang/Object"), (.object "java/lang/String")], some (.object "java/lang/Object")⟩ := by decide +kernel
theorem pd_22_2 : parseMethodDescriptor "(Ljava/lang/String;Ljava/lang/String;)V" = some ⟨[(.object "java/lang/String"), (.object "java/lang/String")], none⟩ := by decide +kernel
theorem pn_22 : plainName "com/example/triview/triview/Iri" = true := by first | (simp [plainName, overriddenIn]; done) | decide +kernel
theorem ef_22 (m : MethodId) (x0 : Addr) (x1 : Addr) : entryFrame m #[(.ref x0), (.ref x1)] 2 = mkF m 0 #[.val (.ref x0), .val (.ref x1)] [] := by first | (simp [entryFrame, mkF, argsToLocals, Value.category]; done) | rfl
set_option maxRecDepth 65536 in
set_option maxHeartbeats 40000000 in
theorem rm22 (l : Launch) (Z : State) (a0 : Array Value) (hw : ∀ d ∈ tables_1, d.before a0 Z = true) (ws : List Jvm.Cond) (a1 : Addr) (a2 : Addr) (h0 : Heap) (n0 : Nat) {cs : List Int32} {u_0 : Value} (Z0 : n0 ≤ h0.size) (g_a1 : n0 ≤ a1) (E_a1 : Exa Z h0 a1 "com/example/triview/triview/Iri") (F_a1 : Fld Z h0 a1 "com/example/triview/triview/Iri" "value" "Ljava/lang/String;" u_0) (P_a2 : Str Z h0 a2 cs) (Wl : Wld Z h0) :
    MetFree l (⟨"com/example/triview/triview/Iri", "<init>", "(Ljava/lang/String;)V"⟩ : MethodName) (head1 (Jvm.Cond.code (⟨"com/example/triview/triview/Iri", "<init>", "(Ljava/lang/String;)V"⟩ : MethodName) prog_21_method_1_code 2 none :: ws) ({ frames := 5, cells := 4, slots := 100, locals := 70 } : Room)) (fun a U => a = #[(.ref a1), (.ref a2)] ∧ Z.Warmed39 U.vm ∧ U.heap = h0 ∧ CHv Z EL1 U.vm h0) (fun _ _ _ _ _ => True) (fun _ U o U' => ∃ v L, o = .returned v ∧ (QB Z "com/example/triview/triview/Iri" "value" a1 a2 h0 n0) v U'.heap L ∧ CHr Z EL1 U.vm U.heap U'.vm U'.heap ∧ ReturnedEndW U o U' L ({ frames := 5, cells := 4, slots := 100, locals := 70 } : Room).cells ({ frames := 5, cells := 4, slots := 100, locals := 70 } : Room).slots) := by
  refine own_metW (plainFor_of_name pn_22) (fun m => ef_22 m a1 a2) ?_
  intro p e s m below meth c T0 vm0 k0 hx hby hml hown hnm hret hlk hZ hS hk CR X0 e0
  have hown : vm0.findClass "com/example/triview/triview/Iri" = some m.cls := hown
  have hnm : meth.name = "<init>" := hnm
  have hret : meth.sig.returnType = none := hret
  have N0 := Fr.nil n0
  have hEL : EW Z a0 EL1 := own_EW hw
  have hwS := own_wS hw
  have Sf_a1 : Safe Z EL1 vm0 h0 a1 := Safe.exa hZ.alike E_a1 (by decide) (by decide)
  show Go p e below _ (T0.setTop (mkF m 0 #[.val (.ref a1), .val (.ref a2)] []))
  refine go (fun _ q => XS.aloadN X0.here hx rfl (hb hby d22_0) rfl rfl q) ?_
  show Go p e below _ (T0.setTop (mkF m 1 #[.val (.ref a1), .val (.ref a2)] [(.ref a1)]))
  refine own_callC X0 hx hZ hown e0 (hw _ (List.mem_of_getElem? (i := 115) rfl)) (hw _ (List.mem_of_getElem? (i := 33) rfl)) (hw _ (List.mem_of_getElem? (i := 35) rfl)) (hw _ (List.mem_of_getElem? (i := 36) rfl)) (rm6 l Z a0 hw [] a1 h0 n0) rfl (by decide) (by decide) (W := 0) (by decide) (by decide) (by decide) (a := a1) (g := (mkF m 1 #[.val (.ref a1), .val (.ref a2)] [(.ref a1)])) rfl (by rw [hml]; rfl) (argsL := []) (rest := []) rfl rfl (lenOf pd_22_0 rfl) (by show 2 * 0 + _ ≤ _; exact Nat.le_of_eq rfl) (hb hby d22_1) ?_
  rintro _ T1 L1 X1 ⟨rfl, N1q, e1⟩
  have N1 := Fr.app N0 N1q
  show Go p e below _ (T1.setTop (mkF m 4 #[.val (.ref a1), .val (.ref a2)] []))
  refine go (fun _ q => XS.aloadN X1.here hx rfl (hb hby d22_4) rfl rfl q) ?_
  show Go p e below _ (T1.setTop (mkF m 5 #[.val (.ref a1), .val (.ref a2)] [(.ref a2)]))
  obtain ⟨b2, T2, h2, kk2, X2, e2, E2, hS, hk, hZ, hown, C2, Li2, st2⟩ := ldcOH X1 hx hZ hown (hw _ (List.mem_of_getElem? (i := 116) rfl)) hwS e1 hS hk hEL CR.1 (g := (mkF m 5 #[.val (.ref a1), .val (.ref a2)] [(.ref a2)])) rfl (hb hby d22_5) (n := 20) (by decide) (by decide) (by decide) (by decide)
  refine go st2 ?_
  have Sf_a1_2 := C2.safe E_a1.lt Sf_a1
  have CR := CR.trans C2
  have Z2 : n0 ≤ h2.size := Nat.le_trans Z0 E2.1
  have K2 : Keep h0 h2 [a1] := (Keep.refl h0 [a1]).ext E2
  have E_a1_3 : Exa Z h2 a1 "com/example/triview/triview/Iri" := E_a1.ext E2
  have F_a1_4 : Fld Z h2 a1 "com/example/triview/triview/Iri" "value" "Ljava/lang/String;" u_0 := F_a1.ext E2
  have P_5 : Str Z h2 a2 cs := P_a2.ext E2
  have Wl_6 : Wld Z h2 := Wl.ext E2
  show Go p e below _ (T2.setTop (mkF m 7 #[.val (.ref a1), .val (.ref a2)] [(.ref b2), (.ref a2)]))
  refine own_callS X2 hx hZ hown e2 (hw _ (List.mem_of_getElem? (i := 117) rfl)) (hw _ (List.mem_of_getElem? (i := 40) rfl)) (hw _ (List.mem_of_getElem? (i := 41) rfl)) (hw _ (List.mem_of_getElem? (i := 42) rfl)) (rm7 l Z a0 hw [] a2 b2 h2 n0) (by decide) (by decide) (W := 0) (by decide) (by decide) (by decide) (g := (mkF m 7 #[.val (.ref a1), .val (.ref a2)] [(.ref b2), (.ref a2)])) rfl (by rw [hml]; rfl) (argsL := [(.ref a2), (.ref b2)]) (rest := []) rfl rfl (lenOf pd_22_1 rfl) (by show 2 * 0 + _ ≤ _; exact Nat.le_of_eq rfl) (hb hby d22_7) ?_
  rintro _ T7 L7 X7 ⟨rfl, N7q, e7⟩
  have N7 := Fr.app N1 N7q
  show Go p e below _ (T7.setTop (mkF m 10 #[.val (.ref a1), .val (.ref a2)] [(.ref a2)]))
  refine go (fun _ q => XS.pop X7.here hx rfl (hb hby d22_10) rfl rfl q) ?_
  show Go p e below _ (T7.setTop (mkF m 11 #[.val (.ref a1), .val (.ref a2)] []))
  refine go (fun _ q => XS.aloadN X7.here hx rfl (hb hby d22_11) rfl rfl q) ?_
  show Go p e below _ (T7.setTop (mkF m 12 #[.val (.ref a1), .val (.ref a2)] [(.ref a2)]))
  obtain ⟨b8, T8, h8, kk8, X8, e8, E8, hS, hk, hZ, hown, C8, Li8, st8⟩ := ldcOH X7 hx hZ hown (hw _ (List.mem_of_getElem? (i := 118) rfl)) hwS e7 hS hk hEL CR.1 (g := (mkF m 12 #[.val (.ref a1), .val (.ref a2)] [(.ref a2)])) rfl (hb hby d22_12) (n := 24) (by decide) (by decide) (by decide) (by decide)
  refine go st8 ?_
  have Sf_a1_8 := C8.safe E_a1_3.lt Sf_a1_2
  have CR := CR.trans C8
  have Z8 : n0 ≤ h8.size := Nat.le_trans Z2 E8.1
  have K8 : Keep h0 h8 [a1] := K2.ext E8
  have E_a1_9 : Exa Z h8 a1 "com/example/triview/triview/Iri" := E_a1_3.ext E8
  have F_a1_10 : Fld Z h8 a1 "com/example/triview/triview/Iri" "value" "Ljava/lang/String;" u_0 := F_a1_4.ext E8
  have P_11 : Str Z h8 a2 cs := P_5.ext E8
  have Wl_12 : Wld Z h8 := Wl_6.ext E8
  show Go p e below _ (T8.setTop (mkF m 14 #[.val (.ref a1), .val (.ref a2)] [(.ref b8), (.ref a2)]))
  refine own_callS X8 hx hZ hown e8 (hw _ (List.mem_of_getElem? (i := 119) rfl)) (hw _ (List.mem_of_getElem? (i := 45) rfl)) (hw _ (List.mem_of_getElem? (i := 46) rfl)) (hw _ (List.mem_of_getElem? (i := 47) rfl)) (rm8 l Z a0 hw [] a2 b8 h8 n0 P_11 Wl_12) (by decide) (by decide) (W := 0) (by decide) (by decide) (by decide) (g := (mkF m 14 #[.val (.ref a1), .val (.ref a2)] [(.ref b8), (.ref a2)])) rfl (by rw [hml]; rfl) (argsL := [(.ref a2), (.ref b8)]) (rest := []) rfl rfl (lenOf pd_22_2 rfl) (by show 2 * 0 + _ ≤ _; exact Nat.le_of_eq rfl) (hb hby d22_14) ?_
  rintro _ T13 L13 X13 ⟨rfl, N13q, e13⟩
  have N13 := Fr.app N7 N13q
  show Go p e below _ (T13.setTop (mkF m 17 #[.val (.ref a1), .val (.ref a2)] []))
  refine go (fun _ q => XS.aloadN X13.here hx rfl (hb hby d22_17) rfl rfl q) ?_
  show Go p e below _ (T13.setTop (mkF m 18 #[.val (.ref a1), .val (.ref a2)] [(.ref a1)]))
  refine go (fun _ q => XS.aloadN X13.here hx rfl (hb hby d22_18) rfl rfl q) ?_
  show Go p e below _ (T13.setTop (mkF m 19 #[.val (.ref a1), .val (.ref a2)] [(.ref a2), (.ref a1)]))
  obtain ⟨T14, h14, X14, e14, W14, st14⟩ := putF X13 hx hZ hown (host := "") (Or.inl (hw _ (List.mem_of_getElem? (i := 120) rfl))) Via.refl e13 F_a1_10 E_a1_9 (Or.inr ⟨(hw _ (List.mem_of_getElem? (i := 121) rfl)), rfl, hnm⟩) (hw _ (List.mem_of_getElem? (i := 110) rfl)) (ty := (.object "java/lang/String")) (by decide) rfl rfl (g := (mkF m 19 #[.val (.ref a1), .val (.ref a2)] [(.ref a2), (.ref a1)])) rfl rfl (hb hby d22_19)
  refine go st14 ?_
  have F_a1_14 : Fld Z h14 a1 "com/example/triview/triview/Iri" "value" "Ljava/lang/String;" (.ref a2) := F_a1_10.same W14
  have E_a1_15 : Exa Z h14 a1 "com/example/triview/triview/Iri" := E_a1_9.wr W14
  have Wl_17 : Wld Z h14 := Wl_12.wr W14
  have N14 := Fr.snoc X14 N13 g_a1
  have K14 : Keep h0 h14 [a1] := K8.wr W14 (Or.inl (List.mem_of_getElem? (i := 0) rfl))
  have Z14 : n0 ≤ h14.size := Nat.le_trans Z8 (Nat.le_of_eq W14.size.symm)
  have Sf_a1_14 := Safe.wr W14 Sf_a1_8 CR.1 Sf_a1_8
  have hk := Nat.le_trans hk (Nat.le_of_eq W14.size.symm)
  have CR := CR.trans (CHr.wr W14 Sf_a1_8 CR.1)
  show Go p e below _ (T14.setTop (mkF m 22 #[.val (.ref a1), .val (.ref a2)] []))
  exact own_retVW X14 hx hlk hS hk e14 CR hEL hZ hret (hb hby d22_22) (by decide) (by decide) (by rw [e14]; exact ⟨rfl, N14, K14, E_a1_15, F_a1_14⟩)
def QY (Z : State) (p1 : Int32) (h0 : Heap) (n0 : Nat) (v : Option Value) (h : Heap) (L : List Loc) : Prop := ∃ (r : Addr) (k : ClassId), v = some (.ref r) ∧ Fr n0 L ∧ Ext h0 h ∧ h0.size ≤ r ∧ Arv Z h r k .byte (1 : Int32) [.int (StrChars.lo8 p1)] (.int 0)
def QS (Z : State) (cs : List Int32) (h0 : Heap) (n0 : Nat) (v : Option Value) (h : Heap) (L : List Loc) : Prop := ∃ r : Addr, v = some (.ref r) ∧ Fr n0 L ∧ Ext h0 h ∧ Str Z h r cs
theorem d14_0 : decode jdk_43_method_46_code 0 = .ok (.iconst 1, 1) := by decide +kernel
theorem d14_1 : decode jdk_43_method_46_code 1 = .ok (.newarray .byte, 2) := by decide +kernel
theorem d14_3 : decode jdk_43_method_46_code 3 = .ok (.dup, 1) := by decide +kernel
theorem d14_4 : decode jdk_43_method_46_code 4 = .ok (.iconst 0, 1) := by decide +kernel
theorem d14_5 : decode jdk_43_method_46_code 5 = .ok (.iload_n 0, 1) := by decide +kernel
theorem d14_6 : decode jdk_43_method_46_code 6 = .ok (.i2b, 1) := by decide +kernel
theorem d14_7 : decode jdk_43_method_46_code 7 = .ok (.bastore, 1) := by decide +kernel
theorem d14_8 : decode jdk_43_method_46_code 8 = .ok (.areturn, 1) := by decide +kernel
theorem pn_14 : plainName "java/lang/StringLatin1" = true := by first | (simp [plainName, overriddenIn]; done) | decide +kernel
theorem ef_14 (m : MethodId) (x0 : Int32) : entryFrame m #[(.int x0)] 1 = mkF m 0 #[.val (.int x0)] [] := by first | (simp [entryFrame, mkF, argsToLocals, Value.category]; done) | rfl
set_option maxRecDepth 65536 in
set_option maxHeartbeats 40000000 in
theorem rm14 (l : Launch) (Z : State) (a0 : Array Value) (hw : ∀ d ∈ tables_1, d.before a0 Z = true) (ws : List Jvm.Cond) (p1 : Int32) (h0 : Heap) (n0 : Nat) (Z0 : n0 ≤ h0.size) :
    MetFree l (⟨"java/lang/StringLatin1", "toBytes", "(C)[B"⟩ : MethodName) (head1 (Jvm.Cond.code (⟨"java/lang/StringLatin1", "toBytes", "(C)[B"⟩ : MethodName) jdk_43_method_46_code 1 (some (.array .byte)) :: ws) ({ frames := 0, cells := 1, slots := 1, locals := 0 } : Room)) (fun a U => a = #[(.int p1)] ∧ Z.Warmed39 U.vm ∧ U.heap = h0) (fun _ _ _ _ _ => True) (fun _ U o U' => ∃ v L, o = .returned v ∧ (QY Z p1 h0 n0) v U'.heap L ∧ FrameEnd U o U' L ({ frames := 0, cells := 1, slots := 1, locals := 0 } : Room).cells ({ frames := 0, cells := 1, slots := 1, locals := 0 } : Room).slots) := by
  refine own_met (plainFor_of_name pn_14) (fun m => ef_14 m p1) ?_
  intro p e s m below meth c T0 hx hby hml hown hnm hret hlk hZ X0 e0
  have hown : s.vm.findClass "java/lang/StringLatin1" = some m.cls := hown
  have hnm : meth.name = "toBytes" := hnm
  have hret : meth.sig.returnType = some (.array .byte) := hret
  have N0 := Fr.nil n0
  show Go p e below _ (T0.setTop (mkF m 0 #[.val (.int p1)] []))
  refine go (fun _ q => XS.iconst X0.here hx rfl (hb hby d14_0) q) ?_
  show Go p e below _ (T0.setTop (mkF m 1 #[.val (.int p1)] [(.int (1 : Int32))]))
  obtain ⟨T1, h1, k1, X1, e1, E1, A1, st1⟩ := newP X0 hx hZ (hw _ (List.mem_of_getElem? (i := 19) rfl)) e0 (g := (mkF m 1 #[.val (.int p1)] [(.int (1 : Int32))])) rfl (hb hby d14_1) rfl (by decide) (cap := 1) (by decide) (by decide) (by decide) (by decide)
  obtain ⟨b1, g1⟩ : ∃ z, z = h0.size := ⟨_, rfl⟩
  rw [← g1] at A1 st1
  refine go st1 ?_
  have g_b1 : n0 ≤ b1 := Nat.le_trans Z0 (Nat.le_of_eq g1.symm)
  have sz_b1 : h0.size ≤ b1 := Nat.le_trans (Keep.refl h0 []).1 (Nat.le_of_eq g1.symm)
  have Z1 : n0 ≤ h1.size := Nat.le_trans Z0 E1.1
  have K1 : Keep h0 h1 [] := (Keep.refl h0 []).ext E1
  have V_b1 : Arv Z h1 b1 k1 .byte (1 : Int32) [(.int (0 : Int32))] (.int (0 : Int32)) := (Arv.new A1 (by decide)).pad (pad_rep [] (.int (0 : Int32)) 1)
  show Go p e below _ (T1.setTop (mkF m 3 #[.val (.int p1)] [(.ref b1)]))
  refine go (fun _ q => XS.dup X1.here hx rfl (hb hby d14_3) rfl rfl q) ?_
  show Go p e below _ (T1.setTop (mkF m 4 #[.val (.int p1)] [(.ref b1), (.ref b1)]))
  refine go (fun _ q => XS.iconst X1.here hx rfl (hb hby d14_4) q) ?_
  show Go p e below _ (T1.setTop (mkF m 5 #[.val (.int p1)] [(.int (0 : Int32)), (.ref b1), (.ref b1)]))
  refine go (fun _ q => XS.iloadN X1.here hx rfl (hb hby d14_5) rfl q) ?_
  show Go p e below _ (T1.setTop (mkF m 6 #[.val (.int p1)] [(.int p1), (.int (0 : Int32)), (.ref b1), (.ref b1)]))
  refine go (fun _ q => XS.i2b X1.here hx rfl (hb hby d14_6) rfl q) ?_
  show Go p e below _ (T1.setTop (mkF m 7 #[.val (.int p1)] [(.int ((p1).toInt8.toInt32)), (.int (0 : Int32)), (.ref b1), (.ref b1)]))
  obtain ⟨cl2, Ar2, q2, S2, Ng2, H2, G2⟩ := id V_b1
  obtain ⟨T3, h3, X3, e3, W3, st3⟩ := stB X1 hx hZ e1 Ar2 (j := (0 : Int32)) (inb_of S2 ⟨by decide, by decide⟩) (g := (mkF m 7 #[.val (.int p1)] [(.int ((p1).toInt8.toInt32)), (.int (0 : Int32)), (.ref b1), (.ref b1)])) rfl rfl (hb hby d14_7)
  refine go st3 ?_
  have V_b1_3 : Arv Z h3 b1 k1 .byte (1 : Int32) [(.int (nar .byte ((p1).toInt8.toInt32)))] (.int (0 : Int32)) := Arv.set Ar2 q2 S2 Ng2 H2 G2 (fits_nar_byte _) W3 0 rfl (Nat.le_of_ble_eq_true rfl)
  have N3 := Fr.snoc X3 N0 g_b1
  have K3 : Keep h0 h3 [] := K1.wr W3 (Or.inr sz_b1)
  have Z3 : n0 ≤ h3.size := Nat.le_trans Z1 (Nat.le_of_eq W3.size.symm)
  show Go p e below _ (T3.setTop (mkF m 8 #[.val (.int p1)] [(.ref b1)]))
  exact own_retA X3 hx hlk rfl hret rfl (hb hby d14_8) (by decide) (by decide) (by rw [e3]; exact ⟨_, _, rfl, N3, ⟨K3.1, fun x c q => K3.2.1 x c q (fun z => nomatch z)⟩, sz_b1, by rw [own_lo8]; exact V_b1_3⟩)
def Q15 (Z : State) (a1 : Addr) (a2 : Addr) (p3 : Int32) (h0 : Heap) (n0 : Nat) (v : Option Value) (h : Heap) (L : List Loc) : Prop := v = none ∧ Fr n0 L ∧ Keep h0 h [a1] ∧ Exa Z h a1 "java/lang/String" ∧ Fld Z h a1 "java/lang/String" "value" "[B" (.ref a2) ∧ Fld Z h a1 "java/lang/String" "coder" "B" (.int (nar .byte p3))
theorem d15_0 : decode jdk_42_method_151_code 0 = .ok (.aload_n 0, 1) := by decide +kernel
theorem d15_1 : decode jdk_42_method_151_code 1 = .ok (.invokespecial 1, 3) := by decide +kernel
theorem d15_4 : decode jdk_42_method_151_code 4 = .ok (.aload_n 0, 1) := by decide +kernel
theorem d15_5 : decode jdk_42_method_151_code 5 = .ok (.aload_n 1, 1) := by decide +kernel
theorem d15_6 : decode jdk_42_method_151_code 6 = .ok (.putfield 9, 3) := by decide +kernel
theorem d15_9 : decode jdk_42_method_151_code 9 = .ok (.aload_n 0, 1) := by decide +kernel
theorem d15_10 : decode jdk_42_method_151_code 10 = .ok (.iload_n 2, 1) := by decide +kernel
theorem d15_11 : decode jdk_42_method_151_code 11 = .ok (.putfield 15, 3) := by decide +kernel
theorem d15_14 : decode jdk_42_method_151_code 14 = .ok (.return_, 1) := by decide +kernel
theorem pn_15 : plainName "java/lang/String" = true := by first | (simp [plainName, overriddenIn]; done) | decide +kernel
theorem ef_15 (m : MethodId) (x0 : Addr) (x1 : Addr) (x2 : Int32) : entryFrame m #[(.ref x0), (.ref x1), (.int x2)] 3 = mkF m 0 #[.val (.ref x0), .val (.ref x1), .val (.int x2)] [] := by first | (simp [entryFrame, mkF, argsToLocals, Value.category]; done) | rfl
set_option maxRecDepth 65536 in
set_option maxHeartbeats 40000000 in
theorem rm15 (l : Launch) (Z : State) (a0 : Array Value) (hw : ∀ d ∈ tables_1, d.before a0 Z = true) (ws : List Jvm.Cond) (a1 : Addr) (a2 : Addr) (p3 : Int32) (h0 : Heap) (n0 : Nat) {u_value u_coder : Value} (Z0 : n0 ≤ h0.size) (g_a1 : n0 ≤ a1) (E_a1 : Exa Z h0 a1 "java/lang/String") (F_value_a1 : Fld Z h0 a1 "java/lang/String" "value" "[B" u_value) (F_coder_a1 : Fld Z h0 a1 "java/lang/String" "coder" "B" u_coder) :
    MetFree l (⟨"java/lang/String", "<init>", "([BB)V"⟩ : MethodName) (head1 (Jvm.Cond.code (⟨"java/lang/String", "<init>", "([BB)V"⟩ : MethodName) jdk_42_method_151_code 3 none :: ws) ({ frames := 1, cells := 0, slots := 0, locals := 12 } : Room)) (fun a U => a = #[(.ref a1), (.ref a2), (.int p3)] ∧ Z.Warmed39 U.vm ∧ U.heap = h0) (fun _ _ _ _ _ => True) (fun _ U o U' => ∃ v L, o = .returned v ∧ (Q15 Z a1 a2 p3 h0 n0) v U'.heap L ∧ FrameEnd U o U' L ({ frames := 1, cells := 0, slots := 0, locals := 12 } : Room).cells ({ frames := 1, cells := 0, slots := 0, locals := 12 } : Room).slots) := by
  refine own_met (plainFor_of_name pn_15) (fun m => ef_15 m a1 a2 p3) ?_
  intro p e s m below meth c T0 hx hby hml hown hnm hret hlk hZ X0 e0
  have hown : s.vm.findClass "java/lang/String" = some m.cls := hown
  have hnm : meth.name = "<init>" := hnm
  have hret : meth.sig.returnType = none := hret
  have N0 := Fr.nil n0
  show Go p e below _ (T0.setTop (mkF m 0 #[.val (.ref a1), .val (.ref a2), .val (.int p3)] []))
  refine go (fun _ q => XS.aloadN X0.here hx rfl (hb hby d15_0) rfl rfl q) ?_
  show Go p e below _ (T0.setTop (mkF m 1 #[.val (.ref a1), .val (.ref a2), .val (.int p3)] [(.ref a1)]))
  obtain ⟨T1, X1, e1, st1⟩ := initO X0 hx hZ hown (hw _ (List.mem_of_getElem? (i := 15) rfl)) (hw _ (List.mem_of_getElem? (i := 16) rfl)) (hw _ (List.mem_of_getElem? (i := 17) rfl)) e0 (g := (mkF m 1 #[.val (.ref a1), .val (.ref a2), .val (.int p3)] [(.ref a1)])) rfl (by rw [hml]; rfl) rfl (hb hby d15_1) (by decide) (W := 0) (by show 2 * 0 + _ ≤ _; exact Nat.le_of_eq rfl) (by decide)
  refine go st1 ?_
  show Go p e below _ (T1.setTop (mkF m 4 #[.val (.ref a1), .val (.ref a2), .val (.int p3)] []))
  refine go (fun _ q => XS.aloadN X1.here hx rfl (hb hby d15_4) rfl rfl q) ?_
  show Go p e below _ (T1.setTop (mkF m 5 #[.val (.ref a1), .val (.ref a2), .val (.int p3)] [(.ref a1)]))
  refine go (fun _ q => XS.aloadN X1.here hx rfl (hb hby d15_5) rfl rfl q) ?_
  show Go p e below _ (T1.setTop (mkF m 6 #[.val (.ref a1), .val (.ref a2), .val (.int p3)] [(.ref a2), (.ref a1)]))
  obtain ⟨T2, h2, X2, e2, W2, st2⟩ := putF X1 hx hZ hown (host := "") (Or.inl (hw _ (List.mem_of_getElem? (i := 24) rfl))) Via.refl e1 F_value_a1 E_a1 (Or.inr ⟨(hw _ (List.mem_of_getElem? (i := 20) rfl)), rfl, hnm⟩) (hw _ (List.mem_of_getElem? (i := 5) rfl)) (ty := (.array .byte)) (by decide) rfl rfl (g := (mkF m 6 #[.val (.ref a1), .val (.ref a2), .val (.int p3)] [(.ref a2), (.ref a1)])) rfl rfl (hb hby d15_6)
  refine go st2 ?_
  have F_value_a1_2 : Fld Z h2 a1 "java/lang/String" "value" "[B" (.ref a2) := F_value_a1.same W2
  have E_a1_3 : Exa Z h2 a1 "java/lang/String" := E_a1.wr W2
  have F_coder_a1_4 : Fld Z h2 a1 "java/lang/String" "coder" "B" u_coder := F_coder_a1.other W2 (Or.inr (slot_ne (Or.inr (hw _ (List.mem_of_getElem? (i := 21) rfl))) (Or.inr (hw _ (List.mem_of_getElem? (i := 20) rfl))) (by decide) (t := .byte) (t' := (.array .byte)) (by decide) (by decide)))
  have N2 := Fr.snoc X2 N0 g_a1
  have K2 : Keep h0 h2 [a1] := (Keep.refl h0 [a1]).wr W2 (Or.inl (List.mem_of_getElem? (i := 0) rfl))
  have Z2 : n0 ≤ h2.size := Nat.le_trans Z0 (Nat.le_of_eq W2.size.symm)
  show Go p e below _ (T2.setTop (mkF m 9 #[.val (.ref a1), .val (.ref a2), .val (.int p3)] []))
  refine go (fun _ q => XS.aloadN X2.here hx rfl (hb hby d15_9) rfl rfl q) ?_
  show Go p e below _ (T2.setTop (mkF m 10 #[.val (.ref a1), .val (.ref a2), .val (.int p3)] [(.ref a1)]))
  refine go (fun _ q => XS.iloadN X2.here hx rfl (hb hby d15_10) rfl q) ?_
  show Go p e below _ (T2.setTop (mkF m 11 #[.val (.ref a1), .val (.ref a2), .val (.int p3)] [(.int p3), (.ref a1)]))
  obtain ⟨T5, h5, X5, e5, W5, st5⟩ := putFN X2 hx hZ hown (hw _ (List.mem_of_getElem? (i := 25) rfl)) Via.refl e2 F_coder_a1_4 E_a1_3 (Or.inr ⟨(hw _ (List.mem_of_getElem? (i := 21) rfl)), rfl, hnm⟩) (hw _ (List.mem_of_getElem? (i := 5) rfl)) (ty := .byte) (v' := (.int (nar .byte p3))) (by decide) rfl (fits_nar_byte _) (g := (mkF m 11 #[.val (.ref a1), .val (.ref a2), .val (.int p3)] [(.int p3), (.ref a1)])) rfl rfl (hb hby d15_11)
  refine go st5 ?_
  have F_coder_a1_5 : Fld Z h5 a1 "java/lang/String" "coder" "B" (.int (nar .byte p3)) := F_coder_a1_4.same W5
  have E_a1_6 : Exa Z h5 a1 "java/lang/String" := E_a1_3.wr W5
  have F_value_a1_7 : Fld Z h5 a1 "java/lang/String" "value" "[B" (.ref a2) := F_value_a1_2.other W5 (Or.inr (slot_ne (Or.inr (hw _ (List.mem_of_getElem? (i := 20) rfl))) (Or.inr (hw _ (List.mem_of_getElem? (i := 21) rfl))) (by decide) (t := (.array .byte)) (t' := .byte) (by decide) (by decide)))
  have N5 := Fr.snoc X5 N2 g_a1
  have K5 : Keep h0 h5 [a1] := K2.wr W5 (Or.inl (List.mem_of_getElem? (i := 0) rfl))
  have Z5 : n0 ≤ h5.size := Nat.le_trans Z2 (Nat.le_of_eq W5.size.symm)
  show Go p e below _ (T5.setTop (mkF m 14 #[.val (.ref a1), .val (.ref a2), .val (.int p3)] []))
  exact own_retV X5 hx hlk hret (hb hby d15_14) (by decide) (by decide) (by rw [e5]; exact ⟨rfl, N5, K5, E_a1_6, F_value_a1_7, F_coder_a1_5⟩)
theorem d12_0 : decode jdk_42_method_139_code 0 = .ok (.getstatic 38, 3) := by decide +kernel
theorem d12_3 : decode jdk_42_method_139_code 3 = .ok (.ifCond .eq 23, 3) := by decide +kernel
theorem d12_6 : decode jdk_42_method_139_code 6 = .ok (.iload_n 0, 1) := by decide +kernel
theorem d12_7 : decode jdk_42_method_139_code 7 = .ok (.invokestatic 1015, 3) := by decide +kernel
theorem d12_10 : decode jdk_42_method_139_code 10 = .ok (.ifCond .eq 16, 3) := by decide +kernel
theorem d12_13 : decode jdk_42_method_139_code 13 = .ok (.new 10, 3) := by decide +kernel
theorem d12_16 : decode jdk_42_method_139_code 16 = .ok (.dup, 1) := by decide +kernel
theorem d12_17 : decode jdk_42_method_139_code 17 = .ok (.iload_n 0, 1) := by decide +kernel
theorem d12_18 : decode jdk_42_method_139_code 18 = .ok (.invokestatic 1018, 3) := by decide +kernel
theorem d12_21 : decode jdk_42_method_139_code 21 = .ok (.iconst 0, 1) := by decide +kernel
theorem d12_22 : decode jdk_42_method_139_code 22 = .ok (.invokespecial 209, 3) := by decide +kernel
theorem d12_25 : decode jdk_42_method_139_code 25 = .ok (.areturn, 1) := by decide +kernel
theorem pd_12_0 : parseMethodDescriptor "(C)Z" = some ⟨[.char], some .boolean⟩ := by decide +kernel
theorem pd_12_1 : parseMethodDescriptor "(C)[B" = some ⟨[.char], some (.array .byte)⟩ := by decide +kernel
theorem pd_12_2 : parseMethodDescriptor "([BB)V" = some ⟨[(.array .byte), .byte], none⟩ := by decide +kernel
theorem pn_12 : plainName "java/lang/String" = true := by first | (simp [plainName, overriddenIn]; done) | decide +kernel
theorem ef_12 (m : MethodId) (x0 : Int32) : entryFrame m #[(.int x0)] 1 = mkF m 0 #[.val (.int x0)] [] := by first | (simp [entryFrame, mkF, argsToLocals, Value.category]; done) | rfl
set_option maxRecDepth 65536 in
set_option maxHeartbeats 40000000 in
theorem rm12 (l : Launch) (Z : State) (a0 : Array Value) (hw : ∀ d ∈ tables_1, d.before a0 Z = true) (ws : List Jvm.Cond) (p1 : Int32) (h0 : Heap) (n0 : Nat) (Z0 : n0 ≤ h0.size) (hp : ¬ p1 < 0 ∧ ¬ (255 : Int32) < p1) (Wl : Wld Z h0) :
    MetFree l (⟨"java/lang/String", "valueOf", "(C)Ljava/lang/String;"⟩ : MethodName) (head1 (Jvm.Cond.code (⟨"java/lang/String", "valueOf", "(C)Ljava/lang/String;"⟩ : MethodName) jdk_42_method_139_code 1 (some (.object "java/lang/String")) :: ws) ({ frames := 2, cells := 2, slots := 5, locals := 30 } : Room)) (fun a U => a = #[(.int p1)] ∧ Z.Warmed39 U.vm ∧ U.heap = h0) (fun _ _ _ _ _ => True) (fun _ U o U' => ∃ v L, o = .returned v ∧ (QS Z [p1] h0 n0) v U'.heap L ∧ FrameEnd U o U' L ({ frames := 2, cells := 2, slots := 5, locals := 30 } : Room).cells ({ frames := 2, cells := 2, slots := 5, locals := 30 } : Room).slots) := by
  refine own_met (plainFor_of_name pn_12) (fun m => ef_12 m p1) ?_
  intro p e s m below meth c T0 hx hby hml hown hnm hret hlk hZ X0 e0
  have hown : s.vm.findClass "java/lang/String" = some m.cls := hown
  have hnm : meth.name = "valueOf" := hnm
  have hret : meth.sig.returnType = some (.object "java/lang/String") := hret
  have N0 := Fr.nil n0
  show Go p e below _ (T0.setTop (mkF m 0 #[.val (.int p1)] []))
  obtain ⟨zs1, fm1, sa1, sb1, sc1, sd1⟩ := id Wl
  obtain ⟨T1, X1, e1, st1⟩ := getS2 X0 hx hZ hown (host := "") (Or.inl (hw _ (List.mem_of_getElem? (i := 58) rfl))) Via.refl e0 sa1 (g := (mkF m 0 #[.val (.int p1)] [])) rfl (hb hby d12_0)
  refine go st1 ?_
  show Go p e below _ (T1.setTop (mkF m 3 #[.val (.int p1)] [(.int zs1)]))
  refine go (fun _ q => XS.ifNo X1.here hx rfl (hb hby d12_3) rfl ((if0 _ _).trans (feq sb1).1) q) ?_
  show Go p e below _ (T1.setTop (mkF m 6 #[.val (.int p1)] []))
  refine go (fun _ q => XS.iloadN X1.here hx rfl (hb hby d12_6) rfl q) ?_
  show Go p e below _ (T1.setTop (mkF m 7 #[.val (.int p1)] [(.int p1)]))
  refine own_callS X1 hx hZ hown e1 (hw _ (List.mem_of_getElem? (i := 69) rfl)) (hw _ (List.mem_of_getElem? (i := 70) rfl)) (hw _ (List.mem_of_getElem? (i := 71) rfl)) (hw _ (List.mem_of_getElem? (i := 72) rfl)) (rm13 l Z a0 hw [] p1 h0 n0 hp) (by decide) (by decide) (W := 0) (by decide) (by decide) (by decide) (g := (mkF m 7 #[.val (.int p1)] [(.int p1)])) rfl (by rw [hml]; rfl) (argsL := [(.int p1)]) (rest := []) rfl rfl (lenOf pd_12_0 rfl) (by show 2 * 0 + _ ≤ _; exact Nat.le_of_eq rfl) (hb hby d12_7) ?_
  rintro _ T2 L2 X2 ⟨rfl, N2q, e2⟩
  have N2 := Fr.app N0 N2q
  show Go p e below _ (T2.setTop (mkF m 10 #[.val (.int p1)] [(.int (1 : Int32))]))
  refine go (fun _ q => XS.ifNo X2.here hx rfl (hb hby d12_10) rfl ((if0 _ _).trans (feq (by decide : ¬ ((1 : Int32) = (0 : Int32)))).1) q) ?_
  show Go p e below _ (T2.setTop (mkF m 13 #[.val (.int p1)] []))
  obtain ⟨T3, h3, X3, e3, E3, A3, D3, -, st3⟩ := newO X2 hx hZ hown (hw _ (List.mem_of_getElem? (i := 73) rfl)) (hw _ (List.mem_of_getElem? (i := 5) rfl)) (hw _ (List.mem_of_getElem? (i := 6) rfl)) e2 (g := (mkF m 13 #[.val (.int p1)] [])) rfl (hb hby d12_13) (by decide) (by decide)
  obtain ⟨b3, g3⟩ : ∃ z, z = h0.size := ⟨_, rfl⟩
  rw [← g3] at A3 D3 st3
  refine go st3 ?_
  have g_b3 : n0 ≤ b3 := Nat.le_trans Z0 (Nat.le_of_eq g3.symm)
  have sz_b3 : h0.size ≤ b3 := Nat.le_trans (Keep.refl h0 []).1 (Nat.le_of_eq g3.symm)
  have Z3 : n0 ≤ h3.size := Nat.le_trans Z0 E3.1
  have Wl_4 : Wld Z h3 := Wl.ext E3
  have K3 : Keep h0 h3 [] := (Keep.refl h0 []).ext E3
  have F_value_b3 : Fld Z h3 b3 "java/lang/String" "value" "[B" .null := D3 (Or.inr (hw _ (List.mem_of_getElem? (i := 20) rfl))) (ty := (.array .byte)) (by decide)
  have F_coder_b3 : Fld Z h3 b3 "java/lang/String" "coder" "B" (.int (0 : Int32)) := D3 (Or.inr (hw _ (List.mem_of_getElem? (i := 21) rfl))) (ty := .byte) (by decide)
  show Go p e below _ (T3.setTop (mkF m 16 #[.val (.int p1)] [(.ref b3)]))
  refine go (fun _ q => XS.dup X3.here hx rfl (hb hby d12_16) rfl rfl q) ?_
  show Go p e below _ (T3.setTop (mkF m 17 #[.val (.int p1)] [(.ref b3), (.ref b3)]))
  refine go (fun _ q => XS.iloadN X3.here hx rfl (hb hby d12_17) rfl q) ?_
  show Go p e below _ (T3.setTop (mkF m 18 #[.val (.int p1)] [(.int p1), (.ref b3), (.ref b3)]))
  refine own_callS X3 hx hZ hown e3 (hw _ (List.mem_of_getElem? (i := 74) rfl)) (hw _ (List.mem_of_getElem? (i := 75) rfl)) (hw _ (List.mem_of_getElem? (i := 71) rfl)) (hw _ (List.mem_of_getElem? (i := 76) rfl)) (rm14 l Z a0 hw [] p1 h3 n0 Z3) (by decide) (by decide) (W := 2) (by decide) (by decide) (by decide) (g := (mkF m 18 #[.val (.int p1)] [(.int p1), (.ref b3), (.ref b3)])) rfl (by rw [hml]; rfl) (argsL := [(.int p1)]) (rest := [(.ref b3), (.ref b3)]) rfl rfl (lenOf pd_12_1 rfl) (by show 2 * 0 + _ ≤ _; exact Nat.le_of_eq rfl) (hb hby d12_18) ?_
  rintro _ T5 L5 X5 ⟨r5, kr5, rfl, N5q, E5, q5, V5⟩
  have N5 := Fr.app N2 N5q
  have Z5 : n0 ≤ T5.heap.size := Nat.le_trans Z3 E5.1
  have K5 : Keep h0 T5.heap [] := K3.ext E5
  have ne_b3_r5 : b3 ≠ r5 := Nat.ne_of_lt (Nat.lt_of_lt_of_le A3.lt q5)
  have Wl_6 : Wld Z T5.heap := Wl_4.ext E5
  have E_b3_7 : Exa Z T5.heap b3 "java/lang/String" := A3.ext E5
  have F_value_b3_8 : Fld Z T5.heap b3 "java/lang/String" "value" "[B" .null := F_value_b3.ext E5
  have F_coder_b3_9 : Fld Z T5.heap b3 "java/lang/String" "coder" "B" (.int (0 : Int32)) := F_coder_b3.ext E5
  show Go p e below _ (T5.setTop (mkF m 21 #[.val (.int p1)] [(.ref r5), (.ref b3), (.ref b3)]))
  refine go (fun _ q => XS.iconst X5.here hx rfl (hb hby d12_21) q) ?_
  show Go p e below _ (T5.setTop (mkF m 22 #[.val (.int p1)] [(.int (0 : Int32)), (.ref r5), (.ref b3), (.ref b3)]))
  refine own_callC X5 hx hZ hown rfl (hw _ (List.mem_of_getElem? (i := 77) rfl)) (hw _ (List.mem_of_getElem? (i := 78) rfl)) (hw _ (List.mem_of_getElem? (i := 6) rfl)) (hw _ (List.mem_of_getElem? (i := 79) rfl)) (rm15 l Z a0 hw [] b3 r5 (0 : Int32) T5.heap n0 Z5 g_b3 E_b3_7 F_value_b3_8 F_coder_b3_9) rfl (by decide) (by decide) (W := 1) (by decide) (by decide) (by decide) (a := b3) (g := (mkF m 22 #[.val (.int p1)] [(.int (0 : Int32)), (.ref r5), (.ref b3), (.ref b3)])) rfl (by rw [hml]; rfl) (argsL := [(.ref r5), (.int (0 : Int32))]) (rest := [(.ref b3)]) rfl rfl (lenOf pd_12_2 rfl) (by show 2 * 0 + _ ≤ _; exact Nat.le_of_eq rfl) (hb hby d12_22) ?_
  rintro _ T10 L10 X10 ⟨rfl, N10q, K10, E10, F10_0, F10_1⟩
  have N10 := Fr.app N5 N10q
  have Kt10 : Keep h0 T10.heap [] := K5.trans K10 (allS (Or.inr sz_b3) all0)
  have Z10 : n0 ≤ T10.heap.size := Nat.le_trans Z5 K10.1
  have V_r_12 : Arv Z T10.heap r5 kr5 .byte (1 : Int32) [(.int (StrChars.lo8 p1))] (.int 0) := V5.keep K10 (ninS (Ne.symm ne_b3_r5) nin0)
  show Go p e below _ (T10.setTop (mkF m 25 #[.val (.int p1)] [(.ref b3)]))
  exact own_retA X10 hx hlk rfl hret rfl (hb hby d12_25) (by decide) (by decide) ⟨b3, rfl, N10, ⟨Kt10.1, fun x c q => Kt10.2.1 x c q (fun z => nomatch z)⟩, _, _, E10, F10_0, F10_1, V_r_12, fun c hc => by cases List.mem_singleton.mp hc; exact hp, Nat.le_of_ble_eq_true rfl⟩
theorem d3_0 : decode jdk_42_method_149_code 0 = .ok (.aload_n 0, 1) := by decide +kernel
theorem d3_1 : decode jdk_42_method_149_code 1 = .ok (.invokespecial 1, 3) := by decide +kernel
theorem d3_4 : decode jdk_42_method_149_code 4 = .ok (.iload_n 3, 1) := by decide +kernel
theorem d3_5 : decode jdk_42_method_149_code 5 = .ok (.ifCond .ne 22, 3) := by decide +kernel
theorem d3_8 : decode jdk_42_method_149_code 8 = .ok (.aload_n 0, 1) := by decide +kernel
theorem d3_9 : decode jdk_42_method_149_code 9 = .ok (.ldc 7, 2) := by decide +kernel
theorem d3_11 : decode jdk_42_method_149_code 11 = .ok (.getfield 9, 3) := by decide +kernel
theorem d3_14 : decode jdk_42_method_149_code 14 = .ok (.putfield 9, 3) := by decide +kernel
theorem d3_17 : decode jdk_42_method_149_code 17 = .ok (.aload_n 0, 1) := by decide +kernel
theorem d3_18 : decode jdk_42_method_149_code 18 = .ok (.ldc 7, 2) := by decide +kernel
theorem d3_20 : decode jdk_42_method_149_code 20 = .ok (.getfield 15, 3) := by decide +kernel
theorem d3_23 : decode jdk_42_method_149_code 23 = .ok (.putfield 15, 3) := by decide +kernel
theorem d3_26 : decode jdk_42_method_149_code 26 = .ok (.return_, 1) := by decide +kernel
theorem pn_3 : plainName "java/lang/String" = true := by first | (simp [plainName, overriddenIn]; done) | decide +kernel
theorem ef_3 (m : MethodId) (x0 : Addr) (x1 : Addr) (x2 : Int32) (x3 : Int32) : entryFrame m #[(.ref x0), (.ref x1), (.int x2), (.int x3), .null] 6 = mkF m 0 #[.val (.ref x0), .val (.ref x1), .val (.int x2), .val (.int x3), .val .null, .unset] [] := by first | (simp [entryFrame, mkF, argsToLocals, Value.category]; done) | rfl
set_option maxRecDepth 65536 in
set_option maxHeartbeats 40000000 in
theorem rm3 (l : Launch) (Z : State) (a0 : Array Value) (hw : ∀ d ∈ tables_1, d.before a0 Z = true) (ws : List Jvm.Cond) (a1 : Addr) (a2 : Addr) (h0 : Heap) (n0 : Nat) {u_1 : Value} (Z0 : n0 ≤ h0.size) (g_a1 : n0 ≤ a1) (E_a1 : Exa Z h0 a1 "java/lang/String") (F_v : Fld Z h0 a1 "java/lang/String" "value" "[B" .null) (F_c : Fld Z h0 a1 "java/lang/String" "coder" "B" u_1) :
    MetFree l (⟨"java/lang/String", "<init>", "([CIILjava/lang/Void;)V"⟩ : MethodName) (head1 (Jvm.Cond.code (⟨"java/lang/String", "<init>", "([CIILjava/lang/Void;)V"⟩ : MethodName) jdk_42_method_149_code 6 none :: ws) ({ frames := 1, cells := 2, slots := 4, locals := 12 } : Room)) (fun a U => a = #[(.ref a1), (.ref a2), (.int (0 : Int32)), (.int (0 : Int32)), .null] ∧ Z.Warmed39 U.vm ∧ U.heap = h0 ∧ CHv Z EL1 U.vm h0) (fun _ _ _ _ _ => True) (fun _ U o U' => ∃ v L, o = .returned v ∧ (QE Z a1 [] h0 n0) v U'.heap L ∧ CHr Z EL1 U.vm U.heap U'.vm U'.heap ∧ ReturnedEndW U o U' L ({ frames := 1, cells := 2, slots := 4, locals := 12 } : Room).cells ({ frames := 1, cells := 2, slots := 4, locals := 12 } : Room).slots) := by
  refine own_metW (plainFor_of_name pn_3) (fun m => ef_3 m a1 a2 (0 : Int32) (0 : Int32)) ?_
  intro p e s m below meth c T0 vm0 k0 hx hby hml hown hnm hret hlk hZ hS hk CR X0 e0
  have hown : vm0.findClass "java/lang/String" = some m.cls := hown
  have hnm : meth.name = "<init>" := hnm
  have hret : meth.sig.returnType = none := hret
  have N0 := Fr.nil n0
  have hEL : EW Z a0 EL1 := own_EW hw
  have hwS := own_wS hw
  have Sf_a1 : Safe Z EL1 vm0 h0 a1 := own_safe hZ.alike E_a1 F_v
  show Go p e below _ (T0.setTop (mkF m 0 #[.val (.ref a1), .val (.ref a2), .val (.int (0 : Int32)), .val (.int (0 : Int32)), .val .null, .unset] []))
  refine go (fun _ q => XS.aloadN X0.here hx rfl (hb hby d3_0) rfl rfl q) ?_
  show Go p e below _ (T0.setTop (mkF m 1 #[.val (.ref a1), .val (.ref a2), .val (.int (0 : Int32)), .val (.int (0 : Int32)), .val .null, .unset] [(.ref a1)]))
  obtain ⟨T1, X1, e1, st1⟩ := initO X0 hx hZ hown (hw _ (List.mem_of_getElem? (i := 15) rfl)) (hw _ (List.mem_of_getElem? (i := 16) rfl)) (hw _ (List.mem_of_getElem? (i := 17) rfl)) e0 (g := (mkF m 1 #[.val (.ref a1), .val (.ref a2), .val (.int (0 : Int32)), .val (.int (0 : Int32)), .val .null, .unset] [(.ref a1)])) rfl (by rw [hml]; rfl) rfl (hb hby d3_1) (by decide) (W := 0) (by show 2 * 0 + _ ≤ _; exact Nat.le_of_eq rfl) (by decide)
  refine go st1 ?_
  show Go p e below _ (T1.setTop (mkF m 4 #[.val (.ref a1), .val (.ref a2), .val (.int (0 : Int32)), .val (.int (0 : Int32)), .val .null, .unset] []))
  refine go (fun _ q => XS.iloadN X1.here hx rfl (hb hby d3_4) rfl q) ?_
  show Go p e below _ (T1.setTop (mkF m 5 #[.val (.ref a1), .val (.ref a2), .val (.int (0 : Int32)), .val (.int (0 : Int32)), .val .null, .unset] [(.int (0 : Int32))]))
  refine go (fun _ q => XS.ifNo X1.here hx rfl (hb hby d3_5) rfl ((if0 _ _).trans (teq (by decide : (0 : Int32) = (0 : Int32))).2) q) ?_
  show Go p e below _ (T1.setTop (mkF m 8 #[.val (.ref a1), .val (.ref a2), .val (.int (0 : Int32)), .val (.int (0 : Int32)), .val .null, .unset] []))
  refine go (fun _ q => XS.aloadN X1.here hx rfl (hb hby d3_8) rfl rfl q) ?_
  show Go p e below _ (T1.setTop (mkF m 9 #[.val (.ref a1), .val (.ref a2), .val (.int (0 : Int32)), .val (.int (0 : Int32)), .val .null, .unset] [(.ref a1)]))
  obtain ⟨b2, T2, h2, kk2, bv2, kb2, X2, e2, E2, hS, hk, hZ, hown, Ea2, Fc2, Fv2, Vb2, -, -, C2, Li2, Nn2, st2⟩ := ldcCH X1 hx hZ hown (hw _ (List.mem_of_getElem? (i := 18) rfl)) hwS e1 hS hk hEL (List.mem_of_getElem? (i := 0) rfl) CR.1 (vs := []) (z := (0 : Int32)) ⟨(fun c hc => nomatch hc), rfl⟩ (by decide) rfl (g := (mkF m 9 #[.val (.ref a1), .val (.ref a2), .val (.int (0 : Int32)), .val (.int (0 : Int32)), .val .null, .unset] [(.ref a1)])) rfl (hb hby d3_9) (n := 0) (by decide) (by decide) (by decide) (by decide)
  refine go st2 ?_
  have Sf_a1_2 := C2.safe E_a1.lt Sf_a1
  have CR := CR.trans C2
  have Z2 : n0 ≤ h2.size := Nat.le_trans Z0 E2.1
  have K2 : Keep h0 h2 [a1] := (Keep.refl h0 [a1]).ext E2
  have E_a1_3 : Exa Z h2 a1 "java/lang/String" := E_a1.ext E2
  have F_v_4 : Fld Z h2 a1 "java/lang/String" "value" "[B" .null := F_v.ext E2
  have F_c_5 : Fld Z h2 a1 "java/lang/String" "coder" "B" u_1 := F_c.ext E2
  have ne_a1_b2 := (Nn2 _ Sf_a1_2).1
  have ne_a1_bv2 := (Nn2 _ Sf_a1_2).2
  show Go p e below _ (T2.setTop (mkF m 11 #[.val (.ref a1), .val (.ref a2), .val (.int (0 : Int32)), .val (.int (0 : Int32)), .val .null, .unset] [(.ref b2), (.ref a1)]))
  obtain ⟨T6, X6, e6, st6⟩ := getF X2 hx hZ hown (host := "") (Or.inl (hw _ (List.mem_of_getElem? (i := 24) rfl))) Via.refl e2 Fv2 (g := (mkF m 11 #[.val (.ref a1), .val (.ref a2), .val (.int (0 : Int32)), .val (.int (0 : Int32)), .val .null, .unset] [(.ref b2), (.ref a1)])) rfl rfl (hb hby d3_11)
  refine go st6 ?_
  show Go p e below _ (T6.setTop (mkF m 14 #[.val (.ref a1), .val (.ref a2), .val (.int (0 : Int32)), .val (.int (0 : Int32)), .val .null, .unset] [(.ref bv2), (.ref a1)]))
  obtain ⟨T7, h7, X7, e7, W7, st7⟩ := putF X6 hx hZ hown (host := "") (Or.inl (hw _ (List.mem_of_getElem? (i := 24) rfl))) Via.refl e6 F_v_4 E_a1_3 (Or.inr ⟨(hw _ (List.mem_of_getElem? (i := 20) rfl)), rfl, hnm⟩) (hw _ (List.mem_of_getElem? (i := 5) rfl)) (ty := (.array .byte)) (by decide) rfl rfl (g := (mkF m 14 #[.val (.ref a1), .val (.ref a2), .val (.int (0 : Int32)), .val (.int (0 : Int32)), .val .null, .unset] [(.ref bv2), (.ref a1)])) rfl rfl (hb hby d3_14)
  refine go st7 ?_
  have F_v_7 : Fld Z h7 a1 "java/lang/String" "value" "[B" (.ref bv2) := F_v_4.same W7
  have E_a1_8 : Exa Z h7 a1 "java/lang/String" := E_a1_3.wr W7
  have F_c_9 : Fld Z h7 a1 "java/lang/String" "coder" "B" u_1 := F_c_5.other W7 (Or.inr (slot_ne (Or.inr (hw _ (List.mem_of_getElem? (i := 21) rfl))) (Or.inr (hw _ (List.mem_of_getElem? (i := 20) rfl))) (by decide) (t := .byte) (t' := (.array .byte)) (by decide) (by decide)))
  have Ea_10 : Exa Z h7 b2 "java/lang/String" := Ea2.wr W7
  have Fc_11 : Fld Z h7 b2 "java/lang/String" "coder" "B" (.int (0 : Int32)) := Fc2.other W7 (Or.inl (Ne.symm ne_a1_b2))
  have Fv_12 : Fld Z h7 b2 "java/lang/String" "value" "[B" (.ref bv2) := Fv2.other W7 (Or.inl (Ne.symm ne_a1_b2))
  have Vb_13 : Arv Z h7 bv2 kb2 .byte (0 : Int32) [] (.int 0) := Vb2.other W7 (Ne.symm ne_a1_bv2)
  have N7 := Fr.snoc X7 N0 g_a1
  have K7 : Keep h0 h7 [a1] := K2.wr W7 (Or.inl (List.mem_of_getElem? (i := 0) rfl))
  have Z7 : n0 ≤ h7.size := Nat.le_trans Z2 (Nat.le_of_eq W7.size.symm)
  have Sf_a1_7 := Safe.wr W7 Sf_a1_2 CR.1 Sf_a1_2
  have hk := Nat.le_trans hk (Nat.le_of_eq W7.size.symm)
  have CR := CR.trans (CHr.wr W7 Sf_a1_2 CR.1)
  show Go p e below _ (T7.setTop (mkF m 17 #[.val (.ref a1), .val (.ref a2), .val (.int (0 : Int32)), .val (.int (0 : Int32)), .val .null, .unset] []))
  refine go (fun _ q => XS.aloadN X7.here hx rfl (hb hby d3_17) rfl rfl q) ?_
  show Go p e below _ (T7.setTop (mkF m 18 #[.val (.ref a1), .val (.ref a2), .val (.int (0 : Int32)), .val (.int (0 : Int32)), .val .null, .unset] [(.ref a1)]))
  refine go (ldcAgain X7 hx hZ hown (hw _ (List.mem_of_getElem? (i := 18) rfl)) Li2 (g := (mkF m 18 #[.val (.ref a1), .val (.ref a2), .val (.int (0 : Int32)), .val (.int (0 : Int32)), .val .null, .unset] [(.ref a1)])) rfl (hb hby d3_18)) ?_
  show Go p e below _ (T7.setTop (mkF m 20 #[.val (.ref a1), .val (.ref a2), .val (.int (0 : Int32)), .val (.int (0 : Int32)), .val .null, .unset] [(.ref b2), (.ref a1)]))
  obtain ⟨T15, X15, e15, st15⟩ := getF X7 hx hZ hown (host := "") (Or.inl (hw _ (List.mem_of_getElem? (i := 25) rfl))) Via.refl e7 Fc_11 (g := (mkF m 20 #[.val (.ref a1), .val (.ref a2), .val (.int (0 : Int32)), .val (.int (0 : Int32)), .val .null, .unset] [(.ref b2), (.ref a1)])) rfl rfl (hb hby d3_20)
  refine go st15 ?_
  show Go p e below _ (T15.setTop (mkF m 23 #[.val (.ref a1), .val (.ref a2), .val (.int (0 : Int32)), .val (.int (0 : Int32)), .val .null, .unset] [(.int (0 : Int32)), (.ref a1)]))
  obtain ⟨T16, h16, X16, e16, W16, st16⟩ := putFN X15 hx hZ hown (hw _ (List.mem_of_getElem? (i := 25) rfl)) Via.refl e15 F_c_9 E_a1_8 (Or.inr ⟨(hw _ (List.mem_of_getElem? (i := 21) rfl)), rfl, hnm⟩) (hw _ (List.mem_of_getElem? (i := 5) rfl)) (ty := .byte) (v' := (.int (0 : Int32))) (by decide) rfl rfl (g := (mkF m 23 #[.val (.ref a1), .val (.ref a2), .val (.int (0 : Int32)), .val (.int (0 : Int32)), .val .null, .unset] [(.int (0 : Int32)), (.ref a1)])) rfl rfl (hb hby d3_23)
  refine go st16 ?_
  have F_c_16 : Fld Z h16 a1 "java/lang/String" "coder" "B" (.int (0 : Int32)) := F_c_9.same W16
  have E_a1_17 : Exa Z h16 a1 "java/lang/String" := E_a1_8.wr W16
  have F_v_18 : Fld Z h16 a1 "java/lang/String" "value" "[B" (.ref bv2) := F_v_7.other W16 (Or.inr (slot_ne (Or.inr (hw _ (List.mem_of_getElem? (i := 20) rfl))) (Or.inr (hw _ (List.mem_of_getElem? (i := 21) rfl))) (by decide) (t := (.array .byte)) (t' := .byte) (by decide) (by decide)))
  have Ea_19 : Exa Z h16 b2 "java/lang/String" := Ea_10.wr W16
  have Fc_20 : Fld Z h16 b2 "java/lang/String" "coder" "B" (.int (0 : Int32)) := Fc_11.other W16 (Or.inl (Ne.symm ne_a1_b2))
  have Fv_21 : Fld Z h16 b2 "java/lang/String" "value" "[B" (.ref bv2) := Fv_12.other W16 (Or.inl (Ne.symm ne_a1_b2))
  have Vb_22 : Arv Z h16 bv2 kb2 .byte (0 : Int32) [] (.int 0) := Vb_13.other W16 (Ne.symm ne_a1_bv2)
  have N16 := Fr.snoc X16 N7 g_a1
  have K16 : Keep h0 h16 [a1] := K7.wr W16 (Or.inl (List.mem_of_getElem? (i := 0) rfl))
  have Z16 : n0 ≤ h16.size := Nat.le_trans Z7 (Nat.le_of_eq W16.size.symm)
  have Sf_a1_16 := Safe.wr W16 Sf_a1_7 CR.1 Sf_a1_7
  have hk := Nat.le_trans hk (Nat.le_of_eq W16.size.symm)
  have CR := CR.trans (CHr.wr W16 Sf_a1_7 CR.1)
  show Go p e below _ (T16.setTop (mkF m 26 #[.val (.ref a1), .val (.ref a2), .val (.int (0 : Int32)), .val (.int (0 : Int32)), .val .null, .unset] []))
  exact own_retVW X16 hx hlk hS hk e16 CR hEL hZ hret (hb hby d3_26) (by decide) (by decide) (by rw [e16]; exact ⟨rfl, N16, K16, _, _, E_a1_17, F_v_18, F_c_16, Vb_22, (fun c hc => nomatch hc), by decide⟩)
theorem d2_0 : decode jdk_42_method_3_code 0 = .ok (.aload_n 0, 1) := by decide +kernel
theorem d2_1 : decode jdk_42_method_3_code 1 = .ok (.aload_n 1, 1) := by decide +kernel
theorem d2_2 : decode jdk_42_method_3_code 2 = .ok (.iconst 0, 1) := by decide +kernel
theorem d2_3 : decode jdk_42_method_3_code 3 = .ok (.aload_n 1, 1) := by decide +kernel
theorem d2_4 : decode jdk_42_method_3_code 4 = .ok (.arraylength, 1) := by decide +kernel
theorem d2_5 : decode jdk_42_method_3_code 5 = .ok (.aconst_null, 1) := by decide +kernel
theorem d2_6 : decode jdk_42_method_3_code 6 = .ok (.invokespecial 27, 3) := by decide +kernel
theorem d2_9 : decode jdk_42_method_3_code 9 = .ok (.return_, 1) := by decide +kernel
theorem pd_2_0 : parseMethodDescriptor "([CIILjava/lang/Void;)V" = some ⟨[(.array .char), .int, .int, (.object "java/lang/Void")], none⟩ := by decide +kernel
theorem pn_2 : plainName "java/lang/String" = true := by first | (simp [plainName, overriddenIn]; done) | decide +kernel
theorem ef_2 (m : MethodId) (x0 : Addr) (x1 : Addr) : entryFrame m #[(.ref x0), (.ref x1)] 2 = mkF m 0 #[.val (.ref x0), .val (.ref x1)] [] := by first | (simp [entryFrame, mkF, argsToLocals, Value.category]; done) | rfl
set_option maxRecDepth 65536 in
set_option maxHeartbeats 40000000 in
theorem rm2 (l : Launch) (Z : State) (a0 : Array Value) (hw : ∀ d ∈ tables_1, d.before a0 Z = true) (ws : List Jvm.Cond) (a1 : Addr) (a2 : Addr) (h0 : Heap) (n0 : Nat) {u_1 : Value} {k2 : ClassId} (Z0 : n0 ≤ h0.size) (g_a1 : n0 ≤ a1) (E_a1 : Exa Z h0 a1 "java/lang/String") (F_v : Fld Z h0 a1 "java/lang/String" "value" "[B" .null) (F_c : Fld Z h0 a1 "java/lang/String" "coder" "B" u_1) (V_a2 : Arv Z h0 a2 k2 .char (0 : Int32) [] (.int (0 : Int32))) :
    MetFree l (⟨"java/lang/String", "<init>", "([C)V"⟩ : MethodName) (head1 (Jvm.Cond.code (⟨"java/lang/String", "<init>", "([C)V"⟩ : MethodName) jdk_42_method_3_code 2 none :: ws) ({ frames := 2, cells := 2, slots := 4, locals := 30 } : Room)) (fun a U => a = #[(.ref a1), (.ref a2)] ∧ Z.Warmed39 U.vm ∧ U.heap = h0 ∧ CHv Z EL1 U.vm h0) (fun _ _ _ _ _ => True) (fun _ U o U' => ∃ v L, o = .returned v ∧ (QE Z a1 [] h0 n0) v U'.heap L ∧ CHr Z EL1 U.vm U.heap U'.vm U'.heap ∧ ReturnedEndW U o U' L ({ frames := 2, cells := 2, slots := 4, locals := 30 } : Room).cells ({ frames := 2, cells := 2, slots := 4, locals := 30 } : Room).slots) := by
  refine own_metW (plainFor_of_name pn_2) (fun m => ef_2 m a1 a2) ?_
  intro p e s m below meth c T0 vm0 k0 hx hby hml hown hnm hret hlk hZ hS hk CR X0 e0
  have hown : vm0.findClass "java/lang/String" = some m.cls := hown
  have hnm : meth.name = "<init>" := hnm
  have hret : meth.sig.returnType = none := hret
  have N0 := Fr.nil n0
  have hEL : EW Z a0 EL1 := own_EW hw
  have hwS := own_wS hw
  have Sf_a1 : Safe Z EL1 vm0 h0 a1 := own_safe hZ.alike E_a1 F_v
  show Go p e below _ (T0.setTop (mkF m 0 #[.val (.ref a1), .val (.ref a2)] []))
  refine go (fun _ q => XS.aloadN X0.here hx rfl (hb hby d2_0) rfl rfl q) ?_
  show Go p e below _ (T0.setTop (mkF m 1 #[.val (.ref a1), .val (.ref a2)] [(.ref a1)]))
  refine go (fun _ q => XS.aloadN X0.here hx rfl (hb hby d2_1) rfl rfl q) ?_
  show Go p e below _ (T0.setTop (mkF m 2 #[.val (.ref a1), .val (.ref a2)] [(.ref a2), (.ref a1)]))
  refine go (fun _ q => XS.iconst X0.here hx rfl (hb hby d2_2) q) ?_
  show Go p e below _ (T0.setTop (mkF m 3 #[.val (.ref a1), .val (.ref a2)] [(.int (0 : Int32)), (.ref a2), (.ref a1)]))
  refine go (fun _ q => XS.aloadN X0.here hx rfl (hb hby d2_3) rfl rfl q) ?_
  show Go p e below _ (T0.setTop (mkF m 4 #[.val (.ref a1), .val (.ref a2)] [(.ref a2), (.int (0 : Int32)), (.ref a2), (.ref a1)]))
  obtain ⟨cl1, Ar1, q1, S1, Ng1, H1, G1⟩ := id V_a2
  refine go (X0.arraylength hx (by rw [e0]; exact Ar1.1) (State.isArrayOf_alike hZ.alike Ar1.2.1) (g := (mkF m 4 #[.val (.ref a1), .val (.ref a2)] [(.ref a2), (.int (0 : Int32)), (.ref a2), (.ref a1)])) rfl rfl (hb hby d2_4)) ?_
  rw [len_of S1 Ng1]
  show Go p e below _ (T0.setTop (mkF m 5 #[.val (.ref a1), .val (.ref a2)] [(.int (0 : Int32)), (.int (0 : Int32)), (.ref a2), (.ref a1)]))
  refine go (fun _ q => XS.aconstNull X0.here hx rfl (hb hby d2_5) q) ?_
  show Go p e below _ (T0.setTop (mkF m 6 #[.val (.ref a1), .val (.ref a2)] [.null, (.int (0 : Int32)), (.int (0 : Int32)), (.ref a2), (.ref a1)]))
  refine own_callCW X0 hx hZ hown e0 hS hk hEL CR (hw _ (List.mem_of_getElem? (i := 11) rfl)) (hw _ (List.mem_of_getElem? (i := 12) rfl)) (hw _ (List.mem_of_getElem? (i := 6) rfl)) (hw _ (List.mem_of_getElem? (i := 14) rfl)) (rm3 l Z a0 hw [] a1 a2 h0 n0 Z0 g_a1 E_a1 F_v F_c) rfl (by decide) (by decide) (W := 0) (by decide) (by decide) (by decide) (a := a1) (g := (mkF m 6 #[.val (.ref a1), .val (.ref a2)] [.null, (.int (0 : Int32)), (.int (0 : Int32)), (.ref a2), (.ref a1)])) rfl (by rw [hml]; rfl) (argsL := [(.ref a2), (.int (0 : Int32)), (.int (0 : Int32)), .null]) (rest := []) rfl rfl (lenOf pd_2_0 rfl) (by show 2 * 0 + _ ≤ _; exact Nat.le_of_eq rfl) (hb hby d2_6) ?_
  rintro _ T2 L2 vm2 kk2 X2 hS hk hZ hown CR ⟨rfl, N2q, K2, P2⟩
  have N2 := Fr.app N0 N2q
  have Z2 : n0 ≤ T2.heap.size := Nat.le_trans Z0 K2.1
  have Kt2 : Keep h0 T2.heap [a1] := (Keep.refl h0 [a1]).trans K2 (allS (Or.inl (List.mem_of_getElem? (i := 0) rfl)) all0)
  show Go p e below _ (T2.setTop (mkF m 9 #[.val (.ref a1), .val (.ref a2)] []))
  exact own_retVW X2 hx hlk hS hk rfl CR hEL hZ hret (hb hby d2_9) (by decide) (by decide) ⟨rfl, N2, Kt2, P2⟩
def own_txt (n c d : Int32) : List Int32 := if n = 0 then [] else if n = 1 then [c] else [c, d]
theorem own_two {P : Int32 → Prop} {c d : Int32} (h : P c) (k : P d) : ∀ x ∈ [c, d], P x := fun x hx => by
  rcases List.mem_cons.mp hx with e | hx
  · rw [e]; exact h
  · rw [List.mem_singleton.mp hx]; exact k
theorem own_small : ∀ t : Fin 256, nar .char (Int32.ofNat t.1) = Int32.ofNat t.1 := by decide +kernel
theorem own_narC {c : Int32} (h : ¬ c < 0 ∧ ¬ (255 : Int32) < c) : nar .char c = c := by
  obtain ⟨h1, h2⟩ := h
  rw [Int32.lt_iff_toInt_lt] at h1 h2
  have e0 : (0 : Int32).toInt = 0 := rfl
  have e1 : (255 : Int32).toInt = 255 := rfl
  have e : c = Int32.ofNat c.toInt.toNat := Int32.toInt_inj.mp (by rw [Int32.toInt_ofNat_of_lt (by omega)]; omega)
  have q := own_small ⟨c.toInt.toNat, by omega⟩
  rw [e]; exact q
theorem d1_0 : decode method_2_code 0 = .ok (.iload_n 0, 1) := by decide +kernel
theorem d1_1 : decode method_2_code 1 = .ok (.ifCond .ne 14, 3) := by decide +kernel
theorem d1_4 : decode method_2_code 4 = .ok (.new 7, 3) := by decide +kernel
theorem d1_7 : decode method_2_code 7 = .ok (.dup, 1) := by decide +kernel
theorem d1_8 : decode method_2_code 8 = .ok (.iconst 0, 1) := by decide +kernel
theorem d1_9 : decode method_2_code 9 = .ok (.newarray .char, 2) := by decide +kernel
theorem d1_11 : decode method_2_code 11 = .ok (.invokespecial 9, 3) := by decide +kernel
theorem d1_14 : decode method_2_code 14 = .ok (.areturn, 1) := by decide +kernel
theorem d1_15 : decode method_2_code 15 = .ok (.iload_n 0, 1) := by decide +kernel
theorem d1_16 : decode method_2_code 16 = .ok (.iconst 1, 1) := by decide +kernel
theorem d1_17 : decode method_2_code 17 = .ok (.if_icmp .ne 8, 3) := by decide +kernel
theorem d1_20 : decode method_2_code 20 = .ok (.iload_n 1, 1) := by decide +kernel
theorem d1_21 : decode method_2_code 21 = .ok (.invokestatic 12, 3) := by decide +kernel
theorem d1_24 : decode method_2_code 24 = .ok (.areturn, 1) := by decide +kernel
theorem d1_25 : decode method_2_code 25 = .ok (.new 7, 3) := by decide +kernel
theorem d1_28 : decode method_2_code 28 = .ok (.dup, 1) := by decide +kernel
theorem d1_29 : decode method_2_code 29 = .ok (.iconst 2, 1) := by decide +kernel
theorem d1_30 : decode method_2_code 30 = .ok (.newarray .char, 2) := by decide +kernel
theorem d1_32 : decode method_2_code 32 = .ok (.dup, 1) := by decide +kernel
theorem d1_33 : decode method_2_code 33 = .ok (.iconst 0, 1) := by decide +kernel
theorem d1_34 : decode method_2_code 34 = .ok (.iload_n 1, 1) := by decide +kernel
theorem d1_35 : decode method_2_code 35 = .ok (.castore, 1) := by decide +kernel
theorem d1_36 : decode method_2_code 36 = .ok (.dup, 1) := by decide +kernel
theorem d1_37 : decode method_2_code 37 = .ok (.iconst 1, 1) := by decide +kernel
theorem d1_38 : decode method_2_code 38 = .ok (.iload_n 2, 1) := by decide +kernel
theorem d1_39 : decode method_2_code 39 = .ok (.castore, 1) := by decide +kernel
theorem d1_40 : decode method_2_code 40 = .ok (.invokespecial 9, 3) := by decide +kernel
theorem d1_43 : decode method_2_code 43 = .ok (.areturn, 1) := by decide +kernel
theorem pd_1_0 : parseMethodDescriptor "([C)V" = some ⟨[(.array .char)], none⟩ := by decide +kernel
theorem pd_1_1 : parseMethodDescriptor "(C)Ljava/lang/String;" = some ⟨[.char], some (.object "java/lang/String")⟩ := by decide +kernel
theorem pn_1 : plainName "com/example/triview/triview/BlankNodeEqualsPinLaw" = true := by first | (simp [plainName, overriddenIn]; done) | decide +kernel
theorem ef_1 (m : MethodId) (x0 : Int32) (x1 : Int32) (x2 : Int32) : entryFrame m #[(.int x0), (.int x1), (.int x2)] 3 = mkF m 0 #[.val (.int x0), .val (.int x1), .val (.int x2)] [] := by first | (simp [entryFrame, mkF, argsToLocals, Value.category]; done) | rfl
set_option maxRecDepth 65536 in
set_option maxHeartbeats 40000000 in
theorem rm1 (l : Launch) (Z : State) (a0 : Array Value) (hw : ∀ d ∈ tables_1, d.before a0 Z = true) (ws : List Jvm.Cond) (p1 : Int32) (p2 : Int32) (p3 : Int32) (h0 : Heap) (n0 : Nat) (Z0 : n0 ≤ h0.size) (hp2 : ¬ p2 < 0 ∧ ¬ (255 : Int32) < p2) (hp3 : ¬ p3 < 0 ∧ ¬ (255 : Int32) < p3) (Wl : Wld Z h0) :
    MetFree l (⟨"com/example/triview/triview/BlankNodeEqualsPinLaw", "text", "(ICC)Ljava/lang/String;"⟩ : MethodName) (head1 (Jvm.Cond.code (⟨"com/example/triview/triview/BlankNodeEqualsPinLaw", "text", "(ICC)Ljava/lang/String;"⟩ : MethodName) method_2_code 3 (some (.object "java/lang/String")) :: ws) ({ frames := 4, cells := 4, slots := 8, locals := 70 } : Room)) (fun a U => a = #[(.int p1), (.int p2), (.int p3)] ∧ Z.Warmed39 U.vm ∧ U.heap = h0 ∧ CHv Z EL1 U.vm h0) (fun _ _ _ _ _ => True) (fun _ U o U' => ∃ v L, o = .returned v ∧ (QS Z (own_txt p1 p2 p3) h0 n0) v U'.heap L ∧ CHr Z EL1 U.vm U.heap U'.vm U'.heap ∧ ReturnedEndW U o U' L ({ frames := 4, cells := 4, slots := 8, locals := 70 } : Room).cells ({ frames := 4, cells := 4, slots := 8, locals := 70 } : Room).slots) := by
  refine own_metW (plainFor_of_name pn_1) (fun m => ef_1 m p1 p2 p3) ?_
  intro p e s m below meth c T0 vm0 k0 hx hby hml hown hnm hret hlk hZ hS hk CR X0 e0
  have hown : vm0.findClass "com/example/triview/triview/BlankNodeEqualsPinLaw" = some m.cls := hown
  have hnm : meth.name = "text" := hnm
  have hret : meth.sig.returnType = some (.object "java/lang/String") := hret
  have N0 := Fr.nil n0
  have hEL : EW Z a0 EL1 := own_EW hw
  have hwS := own_wS hw
  show Go p e below _ (T0.setTop (mkF m 0 #[.val (.int p1), .val (.int p2), .val (.int p3)] []))
  refine go (fun _ q => XS.iloadN X0.here hx rfl (hb hby d1_0) rfl q) ?_
  show Go p e below _ (T0.setTop (mkF m 1 #[.val (.int p1), .val (.int p2), .val (.int p3)] [(.int p1)]))
  by_cases hc1 : p1 = (0 : Int32)
  · refine go (fun _ q => XS.ifNo X0.here hx rfl (hb hby d1_1) rfl ((if0 _ _).trans (teq hc1).2) q) ?_
    show Go p e below _ (T0.setTop (mkF m 4 #[.val (.int p1), .val (.int p2), .val (.int p3)] []))
    obtain ⟨T2, h2, X2, e2, E2, A2, D2, -, st2⟩ := newO X0 hx hZ hown (hw _ (List.mem_of_getElem? (i := 4) rfl)) (hw _ (List.mem_of_getElem? (i := 5) rfl)) (hw _ (List.mem_of_getElem? (i := 6) rfl)) e0 (g := (mkF m 4 #[.val (.int p1), .val (.int p2), .val (.int p3)] [])) rfl (hb hby d1_4) (by decide) (by decide)
    obtain ⟨b2, g2⟩ : ∃ z, z = h0.size := ⟨_, rfl⟩
    rw [← g2] at A2 D2 st2
    refine go st2 ?_
    have g_b2 : n0 ≤ b2 := Nat.le_trans Z0 (Nat.le_of_eq g2.symm)
    have sz_b2 : h0.size ≤ b2 := Nat.le_trans (Keep.refl h0 []).1 (Nat.le_of_eq g2.symm)
    have Z2 : n0 ≤ h2.size := Nat.le_trans Z0 E2.1
    have Wl_3 : Wld Z h2 := Wl.ext E2
    have K2 : Keep h0 h2 [] := (Keep.refl h0 []).ext E2
    have Sf_b2 := Safe.ext E2 CR.1 (Safe.new (Nat.le_of_eq g2.symm))
    have hk := Nat.le_trans hk E2.1
    have CR := CR.trans (CHr.ext E2 CR.1)
    have F_value_b2 : Fld Z h2 b2 "java/lang/String" "value" "[B" .null := D2 (Or.inr (hw _ (List.mem_of_getElem? (i := 20) rfl))) (ty := (.array .byte)) (by decide)
    have F_coder_b2 : Fld Z h2 b2 "java/lang/String" "coder" "B" (.int (0 : Int32)) := D2 (Or.inr (hw _ (List.mem_of_getElem? (i := 21) rfl))) (ty := .byte) (by decide)
    show Go p e below _ (T2.setTop (mkF m 7 #[.val (.int p1), .val (.int p2), .val (.int p3)] [(.ref b2)]))
    refine go (fun _ q => XS.dup X2.here hx rfl (hb hby d1_7) rfl rfl q) ?_
    show Go p e below _ (T2.setTop (mkF m 8 #[.val (.int p1), .val (.int p2), .val (.int p3)] [(.ref b2), (.ref b2)]))
    refine go (fun _ q => XS.iconst X2.here hx rfl (hb hby d1_8) q) ?_
    show Go p e below _ (T2.setTop (mkF m 9 #[.val (.int p1), .val (.int p2), .val (.int p3)] [(.int (0 : Int32)), (.ref b2), (.ref b2)]))
    obtain ⟨T4, h4, k4, X4, e4, E4, A4, st4⟩ := newP X2 hx hZ (hw _ (List.mem_of_getElem? (i := 7) rfl)) e2 (g := (mkF m 9 #[.val (.int p1), .val (.int p2), .val (.int p3)] [(.int (0 : Int32)), (.ref b2), (.ref b2)])) rfl (hb hby d1_9) rfl (by decide) (cap := 0) (by decide) (by decide) (by decide) (by decide)
    obtain ⟨b4, g4⟩ : ∃ z, z = h2.size := ⟨_, rfl⟩
    rw [← g4] at A4 st4
    refine go st4 ?_
    have ne_b2_b4 : b2 ≠ b4 := Nat.ne_of_lt (Nat.lt_of_lt_of_le A2.lt (Nat.le_of_eq g4.symm))
    have g_b4 : n0 ≤ b4 := Nat.le_trans Z2 (Nat.le_of_eq g4.symm)
    have sz_b4 : h0.size ≤ b4 := Nat.le_trans K2.1 (Nat.le_of_eq g4.symm)
    have Z4 : n0 ≤ h4.size := Nat.le_trans Z2 E4.1
    have Wl_5 : Wld Z h4 := Wl_3.ext E4
    have E_b2_6 : Exa Z h4 b2 "java/lang/String" := A2.ext E4
    have F_value_b2_7 : Fld Z h4 b2 "java/lang/String" "value" "[B" .null := F_value_b2.ext E4
    have F_coder_b2_8 : Fld Z h4 b2 "java/lang/String" "coder" "B" (.int (0 : Int32)) := F_coder_b2.ext E4
    have K4 : Keep h0 h4 [] := K2.ext E4
    have Sf_b2_4 := Safe.ext E4 CR.1 Sf_b2
    have Sf_b4 := Safe.ext E4 CR.1 (Safe.new (Nat.le_of_eq g4.symm))
    have hk := Nat.le_trans hk E4.1
    have CR := CR.trans (CHr.ext E4 CR.1)
    have V_b4 : Arv Z h4 b4 k4 .char (0 : Int32) [] (.int (0 : Int32)) := (Arv.new A4 (by decide)).pad (pad_rep [] (.int (0 : Int32)) 0)
    show Go p e below _ (T4.setTop (mkF m 11 #[.val (.int p1), .val (.int p2), .val (.int p3)] [(.ref b4), (.ref b2), (.ref b2)]))
    refine own_callCW X4 hx hZ hown e4 hS hk hEL CR (hw _ (List.mem_of_getElem? (i := 8) rfl)) (hw _ (List.mem_of_getElem? (i := 9) rfl)) (hw _ (List.mem_of_getElem? (i := 6) rfl)) (hw _ (List.mem_of_getElem? (i := 10) rfl)) (rm2 l Z a0 hw [] b2 b4 h4 n0 Z4 g_b2 E_b2_6 F_value_b2_7 F_coder_b2_8 V_b4) rfl (by decide) (by decide) (W := 1) (by decide) (by decide) (by decide) (a := b2) (g := (mkF m 11 #[.val (.int p1), .val (.int p2), .val (.int p3)] [(.ref b4), (.ref b2), (.ref b2)])) rfl (by rw [hml]; rfl) (argsL := [(.ref b4)]) (rest := [(.ref b2)]) rfl rfl (lenOf pd_1_0 rfl) (by show 2 * 0 + _ ≤ _; exact Nat.le_of_eq rfl) (hb hby d1_11) ?_
    rintro _ T9 L9 vm9 kk9 X9 hS hk hZ hown CR ⟨rfl, N9q, K9, P9⟩
    have N9 := Fr.app N0 N9q
    have Z9 : n0 ≤ T9.heap.size := Nat.le_trans Z4 K9.1
    have Kt9 : Keep h0 T9.heap [] := K4.trans K9 (allS (Or.inr sz_b2) all0)
    show Go p e below _ (T9.setTop (mkF m 14 #[.val (.int p1), .val (.int p2), .val (.int p3)] [(.ref b2)]))
    exact own_retAW X9 hx hlk hS hk rfl CR hEL hZ rfl hret rfl (hb hby d1_14) (by decide) (by decide) ⟨b2, rfl, N9, ⟨Kt9.1, fun x c q => Kt9.2.1 x c q (fun z => nomatch z)⟩, by rw [own_txt, if_pos hc1]; exact P9⟩
  · refine go (fun _ q => XS.ifYes X0.here hx rfl (pc0 := 1) (pc' := 15) rfl (hb hby d1_1) rfl ((if0 _ _).trans (feq hc1).2) (by decide) (by decide) q) ?_
    show Go p e below _ (T0.setTop (mkF m 15 #[.val (.int p1), .val (.int p2), .val (.int p3)] []))
    refine go (fun _ q => XS.iloadN X0.here hx rfl (hb hby d1_15) rfl q) ?_
    show Go p e below _ (T0.setTop (mkF m 16 #[.val (.int p1), .val (.int p2), .val (.int p3)] [(.int p1)]))
    refine go (fun _ q => XS.iconst X0.here hx rfl (hb hby d1_16) q) ?_
    show Go p e below _ (T0.setTop (mkF m 17 #[.val (.int p1), .val (.int p2), .val (.int p3)] [(.int (1 : Int32)), (.int p1)]))
    by_cases hc10 : p1 = (1 : Int32)
    · refine go (fun _ q => XS.icmpNo X0.here hx rfl (hb hby d1_17) rfl (teq hc10).2 q) ?_
      show Go p e below _ (T0.setTop (mkF m 20 #[.val (.int p1), .val (.int p2), .val (.int p3)] []))
      refine go (fun _ q => XS.iloadN X0.here hx rfl (hb hby d1_20) rfl q) ?_
      show Go p e below _ (T0.setTop (mkF m 21 #[.val (.int p1), .val (.int p2), .val (.int p3)] [(.int p2)]))
      refine own_callS X0 hx hZ hown e0 (hw _ (List.mem_of_getElem? (i := 66) rfl)) (hw _ (List.mem_of_getElem? (i := 67) rfl)) (hw _ (List.mem_of_getElem? (i := 6) rfl)) (hw _ (List.mem_of_getElem? (i := 68) rfl)) (rm12 l Z a0 hw [] p2 h0 n0 Z0 hp2 Wl) (by decide) (by decide) (W := 0) (by decide) (by decide) (by decide) (g := (mkF m 21 #[.val (.int p1), .val (.int p2), .val (.int p3)] [(.int p2)])) rfl (by rw [hml]; rfl) (argsL := [(.int p2)]) (rest := []) rfl rfl (lenOf pd_1_1 rfl) (by show 2 * 0 + _ ≤ _; exact Nat.le_of_eq rfl) (hb hby d1_21) ?_
      rintro _ T11 L11 X11 ⟨r11, rfl, N11q, E11, P11⟩
      have N11 := Fr.app N0 N11q
      have CR := CR.trans (CHr.ext E11 CR.1)
      have hk := Nat.le_trans hk E11.1
      have K11 : Keep h0 T11.heap [] := (Keep.refl h0 []).ext E11
      show Go p e below _ (T11.setTop (mkF m 24 #[.val (.int p1), .val (.int p2), .val (.int p3)] [(.ref r11)]))
      exact own_retAW X11 hx hlk hS hk rfl CR hEL hZ rfl hret rfl (hb hby d1_24) (by decide) (by decide) ⟨r11, rfl, N11, ⟨K11.1, fun x c q => K11.2.1 x c q (fun z => nomatch z)⟩, by rw [own_txt, if_neg hc1, if_pos hc10]; exact P11⟩
    · refine go (fun _ q => XS.icmpYes X0.here hx rfl (pc0 := 17) (pc' := 25) rfl (hb hby d1_17) rfl (feq hc10).2 (by decide) (by decide) q) ?_
      show Go p e below _ (T0.setTop (mkF m 25 #[.val (.int p1), .val (.int p2), .val (.int p3)] []))
      obtain ⟨T12, h12, X12, e12, E12, A12, D12, -, st12⟩ := newO X0 hx hZ hown (hw _ (List.mem_of_getElem? (i := 4) rfl)) (hw _ (List.mem_of_getElem? (i := 5) rfl)) (hw _ (List.mem_of_getElem? (i := 6) rfl)) e0 (g := (mkF m 25 #[.val (.int p1), .val (.int p2), .val (.int p3)] [])) rfl (hb hby d1_25) (by decide) (by decide)
      obtain ⟨b12, g12⟩ : ∃ z, z = h0.size := ⟨_, rfl⟩
      rw [← g12] at A12 D12 st12
      refine go st12 ?_
      have g_b12 : n0 ≤ b12 := Nat.le_trans Z0 (Nat.le_of_eq g12.symm)
      have sz_b12 : h0.size ≤ b12 := Nat.le_trans (Keep.refl h0 []).1 (Nat.le_of_eq g12.symm)
      have Z12 : n0 ≤ h12.size := Nat.le_trans Z0 E12.1
      have Wl_13 : Wld Z h12 := Wl.ext E12
      have K12 : Keep h0 h12 [] := (Keep.refl h0 []).ext E12
      have Sf_b12 := Safe.ext E12 CR.1 (Safe.new (Nat.le_of_eq g12.symm))
      have hk := Nat.le_trans hk E12.1
      have CR := CR.trans (CHr.ext E12 CR.1)
      have F_value_b12 : Fld Z h12 b12 "java/lang/String" "value" "[B" .null := D12 (Or.inr (hw _ (List.mem_of_getElem? (i := 20) rfl))) (ty := (.array .byte)) (by decide)
      have F_coder_b12 : Fld Z h12 b12 "java/lang/String" "coder" "B" (.int (0 : Int32)) := D12 (Or.inr (hw _ (List.mem_of_getElem? (i := 21) rfl))) (ty := .byte) (by decide)
      show Go p e below _ (T12.setTop (mkF m 28 #[.val (.int p1), .val (.int p2), .val (.int p3)] [(.ref b12)]))
      refine go (fun _ q => XS.dup X12.here hx rfl (hb hby d1_28) rfl rfl q) ?_
      show Go p e below _ (T12.setTop (mkF m 29 #[.val (.int p1), .val (.int p2), .val (.int p3)] [(.ref b12), (.ref b12)]))
      refine go (fun _ q => XS.iconst X12.here hx rfl (hb hby d1_29) q) ?_
      show Go p e below _ (T12.setTop (mkF m 30 #[.val (.int p1), .val (.int p2), .val (.int p3)] [(.int (2 : Int32)), (.ref b12), (.ref b12)]))
      obtain ⟨T14, h14, k14, X14, e14, E14, A14, st14⟩ := newP X12 hx hZ (hw _ (List.mem_of_getElem? (i := 7) rfl)) e12 (g := (mkF m 30 #[.val (.int p1), .val (.int p2), .val (.int p3)] [(.int (2 : Int32)), (.ref b12), (.ref b12)])) rfl (hb hby d1_30) rfl (by decide) (cap := 2) (by decide) (by decide) (by decide) (by decide)
      obtain ⟨b14, g14⟩ : ∃ z, z = h12.size := ⟨_, rfl⟩
      rw [← g14] at A14 st14
      refine go st14 ?_
      have ne_b12_b14 : b12 ≠ b14 := Nat.ne_of_lt (Nat.lt_of_lt_of_le A12.lt (Nat.le_of_eq g14.symm))
      have g_b14 : n0 ≤ b14 := Nat.le_trans Z12 (Nat.le_of_eq g14.symm)
      have sz_b14 : h0.size ≤ b14 := Nat.le_trans K12.1 (Nat.le_of_eq g14.symm)
      have Z14 : n0 ≤ h14.size := Nat.le_trans Z12 E14.1
      have Wl_15 : Wld Z h14 := Wl_13.ext E14
      have E_b12_16 : Exa Z h14 b12 "java/lang/String" := A12.ext E14
      have F_value_b12_17 : Fld Z h14 b12 "java/lang/String" "value" "[B" .null := F_value_b12.ext E14
      have F_coder_b12_18 : Fld Z h14 b12 "java/lang/String" "coder" "B" (.int (0 : Int32)) := F_coder_b12.ext E14
      have K14 : Keep h0 h14 [] := K12.ext E14
      have Sf_b12_14 := Safe.ext E14 CR.1 Sf_b12
      have Sf_b14 := Safe.ext E14 CR.1 (Safe.new (Nat.le_of_eq g14.symm))
      have hk := Nat.le_trans hk E14.1
      have CR := CR.trans (CHr.ext E14 CR.1)
      have V_b14 : Arv Z h14 b14 k14 .char (2 : Int32) [(.int (0 : Int32)), (.int (0 : Int32))] (.int (0 : Int32)) := (Arv.new A14 (by decide)).pad (pad_rep [] (.int (0 : Int32)) 2)
      show Go p e below _ (T14.setTop (mkF m 32 #[.val (.int p1), .val (.int p2), .val (.int p3)] [(.ref b14), (.ref b12), (.ref b12)]))
      refine go (fun _ q => XS.dup X14.here hx rfl (hb hby d1_32) rfl rfl q) ?_
      show Go p e below _ (T14.setTop (mkF m 33 #[.val (.int p1), .val (.int p2), .val (.int p3)] [(.ref b14), (.ref b14), (.ref b12), (.ref b12)]))
      refine go (fun _ q => XS.iconst X14.here hx rfl (hb hby d1_33) q) ?_
      show Go p e below _ (T14.setTop (mkF m 34 #[.val (.int p1), .val (.int p2), .val (.int p3)] [(.int (0 : Int32)), (.ref b14), (.ref b14), (.ref b12), (.ref b12)]))
      refine go (fun _ q => XS.iloadN X14.here hx rfl (hb hby d1_34) rfl q) ?_
      show Go p e below _ (T14.setTop (mkF m 35 #[.val (.int p1), .val (.int p2), .val (.int p3)] [(.int p2), (.int (0 : Int32)), (.ref b14), (.ref b14), (.ref b12), (.ref b12)]))
      obtain ⟨cl19, Ar19, q19, S19, Ng19, H19, G19⟩ := id V_b14
      obtain ⟨T20, h20, X20, e20, W20, st20⟩ := stC X14 hx hZ e14 Ar19 (j := (0 : Int32)) (inb_of S19 ⟨by decide, by decide⟩) (g := (mkF m 35 #[.val (.int p1), .val (.int p2), .val (.int p3)] [(.int p2), (.int (0 : Int32)), (.ref b14), (.ref b14), (.ref b12), (.ref b12)])) rfl rfl (hb hby d1_35)
      refine go st20 ?_
      have V_b14_20 : Arv Z h20 b14 k14 .char (2 : Int32) [(.int (nar .char p2)), (.int (0 : Int32))] (.int (0 : Int32)) := Arv.set Ar19 q19 S19 Ng19 H19 G19 (fits_nar_char _) W20 0 rfl (Nat.le_of_ble_eq_true rfl)
      have Wl_21 : Wld Z h20 := Wl_15.wr W20
      have E_b12_22 : Exa Z h20 b12 "java/lang/String" := E_b12_16.wr W20
      have F_value_b12_23 : Fld Z h20 b12 "java/lang/String" "value" "[B" .null := F_value_b12_17.other W20 (Or.inl ne_b12_b14)
      have F_coder_b12_24 : Fld Z h20 b12 "java/lang/String" "coder" "B" (.int (0 : Int32)) := F_coder_b12_18.other W20 (Or.inl ne_b12_b14)
      have N20 := Fr.snoc X20 N0 g_b14
      have K20 : Keep h0 h20 [] := K14.wr W20 (Or.inr sz_b14)
      have Z20 : n0 ≤ h20.size := Nat.le_trans Z14 (Nat.le_of_eq W20.size.symm)
      have Sf_b12_20 := Safe.wr W20 Sf_b14 CR.1 Sf_b12_14
      have Sf_b14_20 := Safe.wr W20 Sf_b14 CR.1 Sf_b14
      have hk := Nat.le_trans hk (Nat.le_of_eq W20.size.symm)
      have CR := CR.trans (CHr.wr W20 Sf_b14 CR.1)
      show Go p e below _ (T20.setTop (mkF m 36 #[.val (.int p1), .val (.int p2), .val (.int p3)] [(.ref b14), (.ref b12), (.ref b12)]))
      refine go (fun _ q => XS.dup X20.here hx rfl (hb hby d1_36) rfl rfl q) ?_
      show Go p e below _ (T20.setTop (mkF m 37 #[.val (.int p1), .val (.int p2), .val (.int p3)] [(.ref b14), (.ref b14), (.ref b12), (.ref b12)]))
      refine go (fun _ q => XS.iconst X20.here hx rfl (hb hby d1_37) q) ?_
      show Go p e below _ (T20.setTop (mkF m 38 #[.val (.int p1), .val (.int p2), .val (.int p3)] [(.int (1 : Int32)), (.ref b14), (.ref b14), (.ref b12), (.ref b12)]))
      refine go (fun _ q => XS.iloadN X20.here hx rfl (hb hby d1_38) rfl q) ?_
      show Go p e below _ (T20.setTop (mkF m 39 #[.val (.int p1), .val (.int p2), .val (.int p3)] [(.int p3), (.int (1 : Int32)), (.ref b14), (.ref b14), (.ref b12), (.ref b12)]))
      obtain ⟨cl25, Ar25, q25, S25, Ng25, H25, G25⟩ := id V_b14_20
      obtain ⟨T26, h26, X26, e26, W26, st26⟩ := stC X20 hx hZ e20 Ar25 (j := (1 : Int32)) (inb_of S25 ⟨by decide, by decide⟩) (g := (mkF m 39 #[.val (.int p1), .val (.int p2), .val (.int p3)] [(.int p3), (.int (1 : Int32)), (.ref b14), (.ref b14), (.ref b12), (.ref b12)])) rfl rfl (hb hby d1_39)
      refine go st26 ?_
      have V_b14_26 : Arv Z h26 b14 k14 .char (2 : Int32) [(.int (nar .char p2)), (.int (nar .char p3))] (.int (0 : Int32)) := Arv.set Ar25 q25 S25 Ng25 H25 G25 (fits_nar_char _) W26 1 rfl (Nat.le_of_ble_eq_true rfl)
      have Wl_27 : Wld Z h26 := Wl_21.wr W26
      have E_b12_28 : Exa Z h26 b12 "java/lang/String" := E_b12_22.wr W26
      have F_value_b12_29 : Fld Z h26 b12 "java/lang/String" "value" "[B" .null := F_value_b12_23.other W26 (Or.inl ne_b12_b14)
      have F_coder_b12_30 : Fld Z h26 b12 "java/lang/String" "coder" "B" (.int (0 : Int32)) := F_coder_b12_24.other W26 (Or.inl ne_b12_b14)
      have N26 := Fr.snoc X26 N20 g_b14
      have K26 : Keep h0 h26 [] := K20.wr W26 (Or.inr sz_b14)
      have Z26 : n0 ≤ h26.size := Nat.le_trans Z20 (Nat.le_of_eq W26.size.symm)
      have Sf_b12_26 := Safe.wr W26 Sf_b14_20 CR.1 Sf_b12_20
      have Sf_b14_26 := Safe.wr W26 Sf_b14_20 CR.1 Sf_b14_20
      have hk := Nat.le_trans hk (Nat.le_of_eq W26.size.symm)
      have CR := CR.trans (CHr.wr W26 Sf_b14_20 CR.1)
      show Go p e below _ (T26.setTop (mkF m 40 #[.val (.int p1), .val (.int p2), .val (.int p3)] [(.ref b14), (.ref b12), (.ref b12)]))
      have Vc : Arv Z h26 b14 k14 .char (2 : Int32) [(.int p2), (.int p3)] (.int (0 : Int32)) := by have q := V_b14_26; rwa [own_narC hp2, own_narC hp3] at q
      refine own_payC (Q := (QE Z b12 [p2, p3] h26 n0)) (W := 1) (rc := 1) (rn := 2) X26 hx hZ hown e26 (hw _ (List.mem_of_getElem? (i := 8) rfl)) (hw _ (List.mem_of_getElem? (i := 9) rfl)) (hw _ (List.mem_of_getElem? (i := 10) rfl)) (own_newS (R := ({ frames := 4, cells := 4, slots := 8, locals := 70 } : Room)) (W := 1) (n0 := n0) hZ hw g_b12 Z26 E_b12_28 F_value_b12_29 F_coder_b12_30 Vc Wl_27 (own_two hp2 hp3) (by decide) (by decide)) rfl (by decide) (by decide) (by decide) (a := b12) (g := (mkF m 40 #[.val (.int p1), .val (.int p2), .val (.int p3)] [(.ref b14), (.ref b12), (.ref b12)])) rfl (by rw [hml]; rfl) (argsL := [(.ref b14)]) (rest := [(.ref b12)]) rfl rfl (lenOf pd_1_0 rfl) (by show 2 * 0 + _ ≤ _; exact Nat.le_of_eq rfl) (hb hby d1_40) ?_
      rintro _ T31 L31 X31 ⟨rfl, N31q, K31, P31⟩
      have N31 := Fr.app N26 N31q
      have CR := CR.trans (CHr.keep K31 (allS Sf_b12_26 all0) CR.1)
      have hk := Nat.le_trans hk K31.1
      have Z31 : n0 ≤ T31.heap.size := Nat.le_trans Z26 K31.1
      have Kt31 : Keep h0 T31.heap [] := K26.trans K31 (allS (Or.inr sz_b12) all0)
      show Go p e below _ (T31.setTop (mkF m 43 #[.val (.int p1), .val (.int p2), .val (.int p3)] [(.ref b12)]))
      exact own_retAW X31 hx hlk hS hk rfl CR hEL hZ rfl hret rfl (hb hby d1_43) (by decide) (by decide) ⟨b12, rfl, N31, ⟨Kt31.1, fun x c q => Kt31.2.1 x c q (fun z => nomatch z)⟩, by rw [own_txt, if_neg hc1, if_neg hc10]; exact P31⟩
theorem own_if1 {P : Prop} [Decidable P] (h : ¬ ((if P then (1 : Int32) else 0) = 0)) : (1 : Int32) = (if P then (1 : Int32) else 0) := by split at h <;> simp_all
theorem d11_0 : decode prog_6_method_3_code 0 = .ok (.aload_n 1, 1) := by decide +kernel
theorem d11_1 : decode prog_6_method_3_code 1 = .ok (.instanceof 24, 3) := by decide +kernel
theorem d11_4 : decode prog_6_method_3_code 4 = .ok (.ifCond .eq 26, 3) := by decide +kernel
theorem d11_7 : decode prog_6_method_3_code 7 = .ok (.aload_n 1, 1) := by decide +kernel
theorem d11_8 : decode prog_6_method_3_code 8 = .ok (.checkcast 24, 3) := by decide +kernel
theorem d11_11 : decode prog_6_method_3_code 11 = .ok (.astore_n 2, 1) := by decide +kernel
theorem d11_12 : decode prog_6_method_3_code 12 = .ok (.aload_n 0, 1) := by decide +kernel
theorem d11_13 : decode prog_6_method_3_code 13 = .ok (.getfield 23, 3) := by decide +kernel
theorem d11_16 : decode prog_6_method_3_code 16 = .ok (.aload_n 2, 1) := by decide +kernel
theorem d11_17 : decode prog_6_method_3_code 17 = .ok (.getfield 23, 3) := by decide +kernel
theorem d11_20 : decode prog_6_method_3_code 20 = .ok (.invokevirtual 32, 3) := by decide +kernel
theorem d11_23 : decode prog_6_method_3_code 23 = .ok (.ifCond .eq 7, 3) := by decide +kernel
theorem d11_26 : decode prog_6_method_3_code 26 = .ok (.iconst 1, 1) := by decide +kernel
theorem d11_27 : decode prog_6_method_3_code 27 = .ok (.goto 4, 3) := by decide +kernel
theorem d11_30 : decode prog_6_method_3_code 30 = .ok (.iconst 0, 1) := by decide +kernel
theorem d11_31 : decode prog_6_method_3_code 31 = .ok (.ireturn, 1) := by decide +kernel
theorem pd_11_0 : parseMethodDescriptor "(Ljava/lang/Object;)Z" = some ⟨[(.object "java/lang/Object")], some .boolean⟩ := by decide +kernel
theorem pn_11 : plainName "com/example/triview/triview/BlankNode" = true := by first | (simp [plainName, overriddenIn]; done) | decide +kernel
theorem ef_11 (m : MethodId) (x0 : Addr) (x1 : Addr) : entryFrame m #[(.ref x0), (.ref x1)] 3 = mkF m 0 #[.val (.ref x0), .val (.ref x1), .unset] [] := by first | (simp [entryFrame, mkF, argsToLocals, Value.category]; done) | rfl
set_option maxRecDepth 65536 in
set_option maxHeartbeats 40000000 in
theorem rmEB (l : Launch) (Z : State) (a0 : Array Value) (hw : ∀ d ∈ tables_1, d.before a0 Z = true) (ws : List Jvm.Cond) (a1 : Addr) (a2 : Addr) (h0 : Heap) (n0 : Nat) {s1 s2 : Addr} {cs ds : List Int32} (F_a1 : Fld Z h0 a1 "com/example/triview/triview/BlankNode" "label" "Ljava/lang/String;" (.ref s1)) (E_a2 : Exa Z h0 a2 "com/example/triview/triview/BlankNode") (F_a2 : Fld Z h0 a2 "com/example/triview/triview/BlankNode" "label" "Ljava/lang/String;" (.ref s2)) (P_1 : Str Z h0 s1 cs) (P_2 : Str Z h0 s2 ds) (Wl : Wld Z h0) :
    MetFree l (⟨"com/example/triview/triview/BlankNode", "equals", "(Ljava/lang/Object;)Z"⟩ : MethodName) (head1 (Jvm.Cond.code (⟨"com/example/triview/triview/BlankNode", "equals", "(Ljava/lang/Object;)Z"⟩ : MethodName) prog_6_method_3_code 3 (some .boolean) :: ws) ({ frames := 2, cells := 0, slots := 0, locals := 30 } : Room)) (fun a U => a = #[(.ref a1), (.ref a2)] ∧ Z.Warmed39 U.vm ∧ U.heap = h0) (fun _ _ _ _ _ => True) (fun _ U o U' => ∃ v L, o = .returned v ∧ (QP (some (.int (if cs = ds then (1 : Int32) else 0))) h0 n0) v U'.heap L ∧ FrameEnd U o U' L ({ frames := 2, cells := 0, slots := 0, locals := 30 } : Room).cells ({ frames := 2, cells := 0, slots := 0, locals := 30 } : Room).slots) := by
  refine own_met (plainFor_of_name pn_11) (fun m => ef_11 m a1 a2) ?_
  intro p e s m below meth c T0 hx hby hml hown hnm hret hlk hZ X0 e0
  have hown : s.vm.findClass "com/example/triview/triview/BlankNode" = some m.cls := hown
  have hnm : meth.name = "equals" := hnm
  have hret : meth.sig.returnType = some .boolean := hret
  have N0 := Fr.nil n0
  show Go p e below _ (T0.setTop (mkF m 0 #[.val (.ref a1), .val (.ref a2), .unset] []))
  refine go (fun _ q => XS.aloadN X0.here hx rfl (hb hby d11_0) rfl rfl q) ?_
  show Go p e below _ (T0.setTop (mkF m 1 #[.val (.ref a1), .val (.ref a2), .unset] [(.ref a2)]))
  obtain ⟨T1, X1, e1, st1⟩ := instY X0 hx hZ hown (hw _ (List.mem_of_getElem? (i := 106) rfl)) e0 (Ins.self E_a2) (g := (mkF m 1 #[.val (.ref a1), .val (.ref a2), .unset] [(.ref a2)])) rfl rfl (hb hby d11_1)
  refine go st1 ?_
  show Go p e below _ (T1.setTop (mkF m 4 #[.val (.ref a1), .val (.ref a2), .unset] [(.int (1 : Int32))]))
  refine go (fun _ q => XS.ifNo X1.here hx rfl (hb hby d11_4) rfl ((if0 _ _).trans (feq (by decide : ¬ ((1 : Int32) = (0 : Int32)))).1) q) ?_
  show Go p e below _ (T1.setTop (mkF m 7 #[.val (.ref a1), .val (.ref a2), .unset] []))
  refine go (fun _ q => XS.aloadN X1.here hx rfl (hb hby d11_7) rfl rfl q) ?_
  show Go p e below _ (T1.setTop (mkF m 8 #[.val (.ref a1), .val (.ref a2), .unset] [(.ref a2)]))
  obtain ⟨T2, X2, e2, st2⟩ := castY X1 hx hZ hown (hw _ (List.mem_of_getElem? (i := 106) rfl)) e1 (Ins.self E_a2) (g := (mkF m 8 #[.val (.ref a1), .val (.ref a2), .unset] [(.ref a2)])) rfl rfl (hb hby d11_8)
  refine go st2 ?_
  show Go p e below _ (T2.setTop (mkF m 11 #[.val (.ref a1), .val (.ref a2), .unset] [(.ref a2)]))
  refine go (fun _ q => XS.astoreN X2.here hx rfl (hb hby d11_11) rfl rfl (l' := #[.val (.ref a1), .val (.ref a2), .val (.ref a2)]) rfl q) ?_
  show Go p e below _ (T2.setTop (mkF m 12 #[.val (.ref a1), .val (.ref a2), .val (.ref a2)] []))
  refine go (fun _ q => XS.aloadN X2.here hx rfl (hb hby d11_12) rfl rfl q) ?_
  show Go p e below _ (T2.setTop (mkF m 13 #[.val (.ref a1), .val (.ref a2), .val (.ref a2)] [(.ref a1)]))
  obtain ⟨T3, X3, e3, st3⟩ := getF X2 hx hZ hown (host := "") (Or.inl (hw _ (List.mem_of_getElem? (i := 59) rfl))) Via.refl e2 F_a1 (g := (mkF m 13 #[.val (.ref a1), .val (.ref a2), .val (.ref a2)] [(.ref a1)])) rfl rfl (hb hby d11_13)
  refine go st3 ?_
  show Go p e below _ (T3.setTop (mkF m 16 #[.val (.ref a1), .val (.ref a2), .val (.ref a2)] [(.ref s1)]))
  refine go (fun _ q => XS.aloadN X3.here hx rfl (hb hby d11_16) rfl rfl q) ?_
  show Go p e below _ (T3.setTop (mkF m 17 #[.val (.ref a1), .val (.ref a2), .val (.ref a2)] [(.ref a2), (.ref s1)]))
  obtain ⟨T4, X4, e4, st4⟩ := getF X3 hx hZ hown (host := "") (Or.inl (hw _ (List.mem_of_getElem? (i := 59) rfl))) Via.refl e3 F_a2 (g := (mkF m 17 #[.val (.ref a1), .val (.ref a2), .val (.ref a2)] [(.ref a2), (.ref s1)])) rfl rfl (hb hby d11_17)
  refine go st4 ?_
  show Go p e below _ (T4.setTop (mkF m 20 #[.val (.ref a1), .val (.ref a2), .val (.ref a2)] [(.ref s2), (.ref s1)]))
  refine own_payV (Q := (QI (if cs = ds then (1 : Int32) else 0) h0)) (W := 0) (rc := 0) (rn := 0) X4 hx hZ hown e4 (hw _ (List.mem_of_getElem? (i := 135) rfl)) (hw _ (List.mem_of_getElem? (i := 136) rfl)) (hw _ (List.mem_of_getElem? (i := 137) rfl)) (hw _ (List.mem_of_getElem? (i := 138) rfl)) (own_eq (R := ({ frames := 2, cells := 0, slots := 0, locals := 30 } : Room)) (W := 0) hZ hw P_1 P_2 Wl (by decide) (by decide)) (by decide) (by decide) (by decide) (a := s1) (Str.exa P_1) (g := (mkF m 20 #[.val (.ref a1), .val (.ref a2), .val (.ref a2)] [(.ref s2), (.ref s1)])) rfl (by rw [hml]; rfl) (argsL := [(.ref s2)]) (rest := []) rfl rfl (lenOf pd_11_0 rfl) (by show 2 * 0 + _ ≤ _; exact Nat.le_of_eq rfl) (hb hby d11_20) ?_
  rintro _ T5 L5 X5 ⟨rfl, rfl, e5⟩
  have N5 := Fr.app N0 (Fr.nil n0)
  show Go p e below _ (T5.setTop (mkF m 23 #[.val (.ref a1), .val (.ref a2), .val (.ref a2)] [(.int (if cs = ds then (1 : Int32) else 0))]))
  by_cases hc6 : (if cs = ds then (1 : Int32) else 0) = (0 : Int32)
  · refine go (fun _ q => XS.ifYes X5.here hx rfl (pc0 := 23) (pc' := 30) rfl (hb hby d11_23) rfl ((if0 _ _).trans (teq hc6).1) (by decide) (by decide) q) ?_
    show Go p e below _ (T5.setTop (mkF m 30 #[.val (.ref a1), .val (.ref a2), .val (.ref a2)] []))
    refine go (fun _ q => XS.iconst X5.here hx rfl (hb hby d11_30) q) ?_
    show Go p e below _ (T5.setTop (mkF m 31 #[.val (.ref a1), .val (.ref a2), .val (.ref a2)] [(.int (0 : Int32))]))
    exact own_retZ (z' := (0 : Int32)) X5 hx hlk hret (hb hby d11_31) (by decide) (by decide) rfl ⟨congrArg (fun z => some (Value.int z)) hc6.symm, N5, e5⟩
  · refine go (fun _ q => XS.ifNo X5.here hx rfl (hb hby d11_23) rfl ((if0 _ _).trans (feq hc6).1) q) ?_
    show Go p e below _ (T5.setTop (mkF m 26 #[.val (.ref a1), .val (.ref a2), .val (.ref a2)] []))
    refine go (fun _ q => XS.iconst X5.here hx rfl (hb hby d11_26) q) ?_
    show Go p e below _ (T5.setTop (mkF m 27 #[.val (.ref a1), .val (.ref a2), .val (.ref a2)] [(.int (1 : Int32))]))
    refine go (fun _ q => XS.goto X5.here hx rfl (pc0 := 27) (pc' := 31) rfl (hb hby d11_27) (by decide) (by decide) q) ?_
    show Go p e below _ (T5.setTop (mkF m 31 #[.val (.ref a1), .val (.ref a2), .val (.ref a2)] [(.int (1 : Int32))]))
    exact own_retZ (z' := (1 : Int32)) X5 hx hlk hret (hb hby d11_31) (by decide) (by decide) rfl ⟨congrArg (fun z => some (Value.int z)) (own_if1 hc6), N5, e5⟩
set_option maxRecDepth 65536 in
set_option maxHeartbeats 40000000 in
theorem rmEO (l : Launch) (Z : State) (a0 : Array Value) (hw : ∀ d ∈ tables_1, d.before a0 Z = true) (ws : List Jvm.Cond) (a1 : Addr) (a2 : Addr) (h0 : Heap) (n0 : Nat) {C : String} (E_a2 : Exa Z h0 a2 C) (NO : ∃ c t, Z.vm.findClass C = some c ∧ Z.vm.findClass "com/example/triview/triview/BlankNode" = some t ∧ Z.vm.assignable c t = false) :
    MetFree l (⟨"com/example/triview/triview/BlankNode", "equals", "(Ljava/lang/Object;)Z"⟩ : MethodName) (head1 (Jvm.Cond.code (⟨"com/example/triview/triview/BlankNode", "equals", "(Ljava/lang/Object;)Z"⟩ : MethodName) prog_6_method_3_code 3 (some .boolean) :: ws) ({ frames := 2, cells := 0, slots := 0, locals := 30 } : Room)) (fun a U => a = #[(.ref a1), (.ref a2)] ∧ Z.Warmed39 U.vm ∧ U.heap = h0) (fun _ _ _ _ _ => True) (fun _ U o U' => ∃ v L, o = .returned v ∧ (QP (some (.int (0 : Int32))) h0 n0) v U'.heap L ∧ FrameEnd U o U' L ({ frames := 2, cells := 0, slots := 0, locals := 30 } : Room).cells ({ frames := 2, cells := 0, slots := 0, locals := 30 } : Room).slots) := by
  refine own_met (plainFor_of_name pn_11) (fun m => ef_11 m a1 a2) ?_
  intro p e s m below meth c T0 hx hby hml hown hnm hret hlk hZ X0 e0
  have hown : s.vm.findClass "com/example/triview/triview/BlankNode" = some m.cls := hown
  have hnm : meth.name = "equals" := hnm
  have hret : meth.sig.returnType = some .boolean := hret
  have N0 := Fr.nil n0
  show Go p e below _ (T0.setTop (mkF m 0 #[.val (.ref a1), .val (.ref a2), .unset] []))
  refine go (fun _ q => XS.aloadN X0.here hx rfl (hb hby d11_0) rfl rfl q) ?_
  show Go p e below _ (T0.setTop (mkF m 1 #[.val (.ref a1), .val (.ref a2), .unset] [(.ref a2)]))
  obtain ⟨T1, X1, e1, st1⟩ := instNo X0 hx hZ hown (hw _ (List.mem_of_getElem? (i := 106) rfl)) e0 E_a2 NO (g := (mkF m 1 #[.val (.ref a1), .val (.ref a2), .unset] [(.ref a2)])) rfl rfl (hb hby d11_1)
  refine go st1 ?_
  show Go p e below _ (T1.setTop (mkF m 4 #[.val (.ref a1), .val (.ref a2), .unset] [(.int (0 : Int32))]))
  refine go (fun _ q => XS.ifYes X1.here hx rfl (pc0 := 4) (pc' := 30) rfl (hb hby d11_4) rfl ((if0 _ _).trans (teq (by decide : (0 : Int32) = (0 : Int32))).1) (by decide) (by decide) q) ?_
  show Go p e below _ (T1.setTop (mkF m 30 #[.val (.ref a1), .val (.ref a2), .unset] []))
  refine go (fun _ q => XS.iconst X1.here hx rfl (hb hby d11_30) q) ?_
  show Go p e below _ (T1.setTop (mkF m 31 #[.val (.ref a1), .val (.ref a2), .unset] [(.int (0 : Int32))]))
  exact own_retZ (z' := (0 : Int32)) X1 hx hlk hret (hb hby d11_31) (by decide) (by decide) rfl ⟨rfl, N0, e1⟩
theorem ef_11n (m : MethodId) (x0 : Addr) : entryFrame m #[(.ref x0), .null] 3 = mkF m 0 #[.val (.ref x0), .val .null, .unset] [] := by first | (simp [entryFrame, mkF, argsToLocals, Value.category]; done) | rfl
set_option maxRecDepth 65536 in
set_option maxHeartbeats 40000000 in
theorem rmEN (l : Launch) (Z : State) (a0 : Array Value) (hw : ∀ d ∈ tables_1, d.before a0 Z = true) (ws : List Jvm.Cond) (a1 : Addr) (h0 : Heap) (n0 : Nat) :
    MetFree l (⟨"com/example/triview/triview/BlankNode", "equals", "(Ljava/lang/Object;)Z"⟩ : MethodName) (head1 (Jvm.Cond.code (⟨"com/example/triview/triview/BlankNode", "equals", "(Ljava/lang/Object;)Z"⟩ : MethodName) prog_6_method_3_code 3 (some .boolean) :: ws) ({ frames := 2, cells := 0, slots := 0, locals := 30 } : Room)) (fun a U => a = #[(.ref a1), .null] ∧ Z.Warmed39 U.vm ∧ U.heap = h0) (fun _ _ _ _ _ => True) (fun _ U o U' => ∃ v L, o = .returned v ∧ (QP (some (.int (0 : Int32))) h0 n0) v U'.heap L ∧ FrameEnd U o U' L ({ frames := 2, cells := 0, slots := 0, locals := 30 } : Room).cells ({ frames := 2, cells := 0, slots := 0, locals := 30 } : Room).slots) := by
  refine own_met (plainFor_of_name pn_11) (fun m => ef_11n m a1) ?_
  intro p e s m below meth c T0 hx hby hml hown hnm hret hlk hZ X0 e0
  have hown : s.vm.findClass "com/example/triview/triview/BlankNode" = some m.cls := hown
  have hnm : meth.name = "equals" := hnm
  have hret : meth.sig.returnType = some .boolean := hret
  have N0 := Fr.nil n0
  show Go p e below _ (T0.setTop (mkF m 0 #[.val (.ref a1), .val .null, .unset] []))
  refine go (fun _ q => XS.aloadN X0.here hx rfl (hb hby d11_0) rfl rfl q) ?_
  show Go p e below _ (T0.setTop (mkF m 1 #[.val (.ref a1), .val .null, .unset] [.null]))
  refine go (X0.instanceofNull hx (g := (mkF m 1 #[.val (.ref a1), .val .null, .unset] [.null])) rfl rfl (hb hby d11_1)) ?_
  show Go p e below _ (T0.setTop (mkF m 4 #[.val (.ref a1), .val .null, .unset] [(.int (0 : Int32))]))
  refine go (fun _ q => XS.ifYes X0.here hx rfl (pc0 := 4) (pc' := 30) rfl (hb hby d11_4) rfl ((if0 _ _).trans (teq (by decide : (0 : Int32) = (0 : Int32))).1) (by decide) (by decide) q) ?_
  show Go p e below _ (T0.setTop (mkF m 30 #[.val (.ref a1), .val .null, .unset] []))
  refine go (fun _ q => XS.iconst X0.here hx rfl (hb hby d11_30) q) ?_
  show Go p e below _ (T0.setTop (mkF m 31 #[.val (.ref a1), .val .null, .unset] [(.int (0 : Int32))]))
  exact own_retZ (z' := (0 : Int32)) X0 hx hlk hret (hb hby d11_31) (by decide) (by decide) rfl ⟨rfl, N0, e0⟩
def Q0 (n0 : Nat) (v : Option Value) (h : Heap) (L : List Loc) : Prop := v = some (.int (1 : Int32)) ∧ Fr n0 L
theorem own_chb {x v : Int32} (h : (x &&& (255 : Int32)).toUInt32.toUInt16.toUInt32.toInt32 = v) : ¬ v < 0 ∧ ¬ (255 : Int32) < v := by
  rw [i2c_mask] at h
  subst h
  have a := c_and x 255 (by decide)
  have e0 : (0 : Int32).toInt = 0 := rfl
  have e1 : (255 : Int32).toInt = 255 := rfl
  rw [Int32.lt_iff_toInt_lt, Int32.lt_iff_toInt_lt]
  omega
theorem own_r3 {x v : Int32} (h : (x &&& (3 : Int32)) % (3 : Int32) = v) : v = 0 ∨ v = 1 ∨ v = 2 := by
  subst h
  have a := c_and x 3 (by decide)
  have e3 : (3 : Int32).toInt = 3 := rfl
  have e0 : (0 : Int32).toInt = 0 := rfl
  have e1 : (1 : Int32).toInt = 1 := rfl
  have e2 : (2 : Int32).toInt = 2 := rfl
  simp only [← Int32.toInt_inj, Int32.toInt_mod]
  generalize (x &&& (3 : Int32)).toInt = y at a ⊢
  rw [e3] at a ⊢
  have : y = 0 ∨ y = 1 ∨ y = 2 ∨ y = 3 := by omega
  rcases this with rfl | rfl | rfl | rfl <;> decide
theorem own_sym {A B : List Int32} : (if A = B then (1 : Int32) else 0) = (if B = A then (1 : Int32) else 0) := by
  by_cases h : A = B
  · rw [if_pos h, if_pos h.symm]
  · rw [if_neg h, if_neg fun q => h q.symm]
theorem own_fin {a b c d c' d' : Int32} (ra : a = 0 ∨ a = 1 ∨ a = 2) (rb : b = 0 ∨ b = 1 ∨ b = 2) :
    (if own_txt a c d = own_txt b c' d' then (1 : Int32) else 0) = (if (if a = b then (if a < (1 : Int32) then (if a < (2 : Int32) then (1 : Int32) else (if d = d' then (1 : Int32) else (0 : Int32))) else (if c = c' then (if a < (2 : Int32) then (1 : Int32) else (if d = d' then (1 : Int32) else (0 : Int32))) else (0 : Int32))) else (0 : Int32)) = (0 : Int32) then (0 : Int32) else (1 : Int32)) := by
  rcases ra with rfl | rfl | rfl <;> rcases rb with rfl | rfl | rfl <;> by_cases h1 : c = c' <;> by_cases h2 : d = d' <;> simp [own_txt, h1, h2]

theorem pd_0_0 : parseMethodDescriptor "(ICC)Ljava/lang/String;" = some ⟨[.int, .char, .char], some (.object "java/lang/String")⟩ := by decide +kernel
theorem pd_0_1 : parseMethodDescriptor "(Ljava/lang/String;)V" = some ⟨[(.object "java/lang/String")], none⟩ := by decide +kernel
theorem pd_0_2 : parseMethodDescriptor "(Ljava/lang/Object;)Z" = some ⟨[(.object "java/lang/Object")], some .boolean⟩ := by decide +kernel
theorem pn_0 : plainName "com/example/triview/triview/BlankNodeEqualsPinLaw" = true := by first | (simp [plainName, overriddenIn]; done) | decide +kernel
theorem ef_0 (m : MethodId) (x0 : Int32) (x1 : Int32) (x2 : Int32) : entryFrame m #[(.int x0), (.int x1), (.int x2)] maxLocals = mkF m 0 #[.val (.int x0), .val (.int x1), .val (.int x2), .unset, .unset, .unset, .unset, .unset, .unset, .unset, .unset, .unset, .unset, .unset, .unset, .unset, .unset, .unset, .unset] [] := by first | (simp [entryFrame, mkF, argsToLocals, Value.category, maxLocals]; done) | rfl
set_option maxRecDepth 65536 in
set_option maxHeartbeats 40000000 in
theorem rm0 (l : Launch) (Z : State) (a0 : Array Value) (hw : ∀ d ∈ tables_1, d.before a0 Z = true) (ws : List Jvm.Cond) (p1 : Int32) (p2 : Int32) (p3 : Int32) (h0 : Heap) (n0 : Nat) (Z0 : n0 ≤ h0.size) (Wl : Wld Z h0) :
    MetFree l x (head1 (Jvm.Cond.code x code maxLocals ret :: ws) room_1) (fun a U => a = #[(.int p1), (.int p2), (.int p3)] ∧ Z.Warmed39 U.vm ∧ U.heap = h0 ∧ CHv Z EL1 U.vm h0) (fun _ _ _ _ _ => True) (fun _ U o U' => ∃ v L, o = .returned v ∧ (Q0 n0) v U'.heap L ∧ CHr Z EL1 U.vm U.heap U'.vm U'.heap ∧ ReturnedEndW U o U' L room_1.cells room_1.slots) := by
  refine own_metW (plainFor_of_name pn_0) (fun m => ef_0 m p1 p2 p3) ?_
  intro p e s m below meth c T0 vm0 k0 hx hby hml hown hnm hret hlk hZ hS hk CR X0 e0
  have hown : vm0.findClass "com/example/triview/triview/BlankNodeEqualsPinLaw" = some m.cls := hown
  have hnm : meth.name = "law" := hnm
  have hret : meth.sig.returnType = some .boolean := hret
  have N0 := Fr.nil n0
  have hEL : EW Z a0 EL1 := own_EW hw
  have hwS := own_wS hw
  show Go p e below _ (T0.setTop (mkF m 0 #[.val (.int p1), .val (.int p2), .val (.int p3), .unset, .unset, .unset, .unset, .unset, .unset, .unset, .unset, .unset, .unset, .unset, .unset, .unset, .unset, .unset, .unset] []))
  refine go (fun _ q => XS.iloadN X0.here hx rfl (hb hby at_0) rfl q) ?_
  show Go p e below _ (T0.setTop (mkF m 1 #[.val (.int p1), .val (.int p2), .val (.int p3), .unset, .unset, .unset, .unset, .unset, .unset, .unset, .unset, .unset, .unset, .unset, .unset, .unset, .unset, .unset, .unset] [(.int p1)]))
  refine go (fun _ q => XS.iconst X0.here hx rfl (hb hby at_1) q) ?_
  show Go p e below _ (T0.setTop (mkF m 2 #[.val (.int p1), .val (.int p2), .val (.int p3), .unset, .unset, .unset, .unset, .unset, .unset, .unset, .unset, .unset, .unset, .unset, .unset, .unset, .unset, .unset, .unset] [(.int (3 : Int32)), (.int p1)]))
  refine go (fun _ q => XS.iand X0.here hx rfl (hb hby at_2) rfl q) ?_
  show Go p e below _ (T0.setTop (mkF m 3 #[.val (.int p1), .val (.int p2), .val (.int p3), .unset, .unset, .unset, .unset, .unset, .unset, .unset, .unset, .unset, .unset, .unset, .unset, .unset, .unset, .unset, .unset] [(.int (p1 &&& (3 : Int32)))]))
  refine go (fun _ q => XS.iconst X0.here hx rfl (hb hby at_3) q) ?_
  show Go p e below _ (T0.setTop (mkF m 4 #[.val (.int p1), .val (.int p2), .val (.int p3), .unset, .unset, .unset, .unset, .unset, .unset, .unset, .unset, .unset, .unset, .unset, .unset, .unset, .unset, .unset, .unset] [(.int (3 : Int32)), (.int (p1 &&& (3 : Int32)))]))
  refine go (fun _ q => iremM X0 hx rfl (hb hby at_4) rfl (by decide) q) ?_
  show Go p e below _ (T0.setTop (mkF m 5 #[.val (.int p1), .val (.int p2), .val (.int p3), .unset, .unset, .unset, .unset, .unset, .unset, .unset, .unset, .unset, .unset, .unset, .unset, .unset, .unset, .unset, .unset] [(.int ((p1 &&& (3 : Int32)) % (3 : Int32)))]))
  generalize hv1 : ((p1 &&& (3 : Int32)) % (3 : Int32)) = v1
  show Go p e below _ (T0.setTop (mkF m 5 #[.val (.int p1), .val (.int p2), .val (.int p3), .unset, .unset, .unset, .unset, .unset, .unset, .unset, .unset, .unset, .unset, .unset, .unset, .unset, .unset, .unset, .unset] [(.int v1)]))
  refine go (fun _ q => XS.istoreN X0.here hx rfl (hb hby at_5) rfl (l' := #[.val (.int p1), .val (.int p2), .val (.int p3), .val (.int v1), .unset, .unset, .unset, .unset, .unset, .unset, .unset, .unset, .unset, .unset, .unset, .unset, .unset, .unset, .unset]) rfl q) ?_
  show Go p e below _ (T0.setTop (mkF m 6 #[.val (.int p1), .val (.int p2), .val (.int p3), .val (.int v1), .unset, .unset, .unset, .unset, .unset, .unset, .unset, .unset, .unset, .unset, .unset, .unset, .unset, .unset, .unset] []))
  refine go (fun _ q => XS.iloadN X0.here hx rfl (hb hby at_6) rfl q) ?_
  show Go p e below _ (T0.setTop (mkF m 7 #[.val (.int p1), .val (.int p2), .val (.int p3), .val (.int v1), .unset, .unset, .unset, .unset, .unset, .unset, .unset, .unset, .unset, .unset, .unset, .unset, .unset, .unset, .unset] [(.int p1)]))
  refine go (fun _ q => XS.iconst X0.here hx rfl (hb hby at_7) q) ?_
  show Go p e below _ (T0.setTop (mkF m 8 #[.val (.int p1), .val (.int p2), .val (.int p3), .val (.int v1), .unset, .unset, .unset, .unset, .unset, .unset, .unset, .unset, .unset, .unset, .unset, .unset, .unset, .unset, .unset] [(.int (2 : Int32)), (.int p1)]))
  refine go (fun _ q => XS.iushr X0.here hx rfl (hb hby at_8) rfl q) ?_
  show Go p e below _ (T0.setTop (mkF m 9 #[.val (.int p1), .val (.int p2), .val (.int p3), .val (.int v1), .unset, .unset, .unset, .unset, .unset, .unset, .unset, .unset, .unset, .unset, .unset, .unset, .unset, .unset, .unset] [(.int (((p1).toUInt32 >>> ((2 : Int32) &&& 31).toUInt32).toInt32))]))
  refine go (fun _ q => XS.sipush X0.here hx rfl (hb hby at_9) q) ?_
  show Go p e below _ (T0.setTop (mkF m 12 #[.val (.int p1), .val (.int p2), .val (.int p3), .val (.int v1), .unset, .unset, .unset, .unset, .unset, .unset, .unset, .unset, .unset, .unset, .unset, .unset, .unset, .unset, .unset] [(.int (255 : Int32)), (.int (((p1).toUInt32 >>> ((2 : Int32) &&& 31).toUInt32).toInt32))]))
  refine go (fun _ q => XS.iand X0.here hx rfl (hb hby at_12) rfl q) ?_
  show Go p e below _ (T0.setTop (mkF m 13 #[.val (.int p1), .val (.int p2), .val (.int p3), .val (.int v1), .unset, .unset, .unset, .unset, .unset, .unset, .unset, .unset, .unset, .unset, .unset, .unset, .unset, .unset, .unset] [(.int ((((p1).toUInt32 >>> ((2 : Int32) &&& 31).toUInt32).toInt32) &&& (255 : Int32)))]))
  refine go (fun _ q => XS.i2c X0.here hx rfl (hb hby at_13) rfl q) ?_
  show Go p e below _ (T0.setTop (mkF m 14 #[.val (.int p1), .val (.int p2), .val (.int p3), .val (.int v1), .unset, .unset, .unset, .unset, .unset, .unset, .unset, .unset, .unset, .unset, .unset, .unset, .unset, .unset, .unset] [(.int ((((((p1).toUInt32 >>> ((2 : Int32) &&& 31).toUInt32).toInt32) &&& (255 : Int32))).toUInt32.toUInt16.toUInt32.toInt32))]))
  generalize hv2 : ((((((p1).toUInt32 >>> ((2 : Int32) &&& 31).toUInt32).toInt32) &&& (255 : Int32))).toUInt32.toUInt16.toUInt32.toInt32) = v2
  show Go p e below _ (T0.setTop (mkF m 14 #[.val (.int p1), .val (.int p2), .val (.int p3), .val (.int v1), .unset, .unset, .unset, .unset, .unset, .unset, .unset, .unset, .unset, .unset, .unset, .unset, .unset, .unset, .unset] [(.int v2)]))
  refine go (fun _ q => XS.istore X0.here hx rfl (hb hby at_14) rfl (l' := #[.val (.int p1), .val (.int p2), .val (.int p3), .val (.int v1), .val (.int v2), .unset, .unset, .unset, .unset, .unset, .unset, .unset, .unset, .unset, .unset, .unset, .unset, .unset, .unset]) rfl q) ?_
  show Go p e below _ (T0.setTop (mkF m 16 #[.val (.int p1), .val (.int p2), .val (.int p3), .val (.int v1), .val (.int v2), .unset, .unset, .unset, .unset, .unset, .unset, .unset, .unset, .unset, .unset, .unset, .unset, .unset, .unset] []))
  refine go (fun _ q => XS.iloadN X0.here hx rfl (hb hby at_16) rfl q) ?_
  show Go p e below _ (T0.setTop (mkF m 17 #[.val (.int p1), .val (.int p2), .val (.int p3), .val (.int v1), .val (.int v2), .unset, .unset, .unset, .unset, .unset, .unset, .unset, .unset, .unset, .unset, .unset, .unset, .unset, .unset] [(.int p1)]))
  refine go (fun _ q => XS.bipush X0.here hx rfl (hb hby at_17) q) ?_
  show Go p e below _ (T0.setTop (mkF m 19 #[.val (.int p1), .val (.int p2), .val (.int p3), .val (.int v1), .val (.int v2), .unset, .unset, .unset, .unset, .unset, .unset, .unset, .unset, .unset, .unset, .unset, .unset, .unset, .unset] [(.int (10 : Int32)), (.int p1)]))
  refine go (fun _ q => XS.iushr X0.here hx rfl (hb hby at_19) rfl q) ?_
  show Go p e below _ (T0.setTop (mkF m 20 #[.val (.int p1), .val (.int p2), .val (.int p3), .val (.int v1), .val (.int v2), .unset, .unset, .unset, .unset, .unset, .unset, .unset, .unset, .unset, .unset, .unset, .unset, .unset, .unset] [(.int (((p1).toUInt32 >>> ((10 : Int32) &&& 31).toUInt32).toInt32))]))
  refine go (fun _ q => XS.sipush X0.here hx rfl (hb hby at_20) q) ?_
  show Go p e below _ (T0.setTop (mkF m 23 #[.val (.int p1), .val (.int p2), .val (.int p3), .val (.int v1), .val (.int v2), .unset, .unset, .unset, .unset, .unset, .unset, .unset, .unset, .unset, .unset, .unset, .unset, .unset, .unset] [(.int (255 : Int32)), (.int (((p1).toUInt32 >>> ((10 : Int32) &&& 31).toUInt32).toInt32))]))
  refine go (fun _ q => XS.iand X0.here hx rfl (hb hby at_23) rfl q) ?_
  show Go p e below _ (T0.setTop (mkF m 24 #[.val (.int p1), .val (.int p2), .val (.int p3), .val (.int v1), .val (.int v2), .unset, .unset, .unset, .unset, .unset, .unset, .unset, .unset, .unset, .unset, .unset, .unset, .unset, .unset] [(.int ((((p1).toUInt32 >>> ((10 : Int32) &&& 31).toUInt32).toInt32) &&& (255 : Int32)))]))
  refine go (fun _ q => XS.i2c X0.here hx rfl (hb hby at_24) rfl q) ?_
  show Go p e below _ (T0.setTop (mkF m 25 #[.val (.int p1), .val (.int p2), .val (.int p3), .val (.int v1), .val (.int v2), .unset, .unset, .unset, .unset, .unset, .unset, .unset, .unset, .unset, .unset, .unset, .unset, .unset, .unset] [(.int ((((((p1).toUInt32 >>> ((10 : Int32) &&& 31).toUInt32).toInt32) &&& (255 : Int32))).toUInt32.toUInt16.toUInt32.toInt32))]))
  generalize hv3 : ((((((p1).toUInt32 >>> ((10 : Int32) &&& 31).toUInt32).toInt32) &&& (255 : Int32))).toUInt32.toUInt16.toUInt32.toInt32) = v3
  show Go p e below _ (T0.setTop (mkF m 25 #[.val (.int p1), .val (.int p2), .val (.int p3), .val (.int v1), .val (.int v2), .unset, .unset, .unset, .unset, .unset, .unset, .unset, .unset, .unset, .unset, .unset, .unset, .unset, .unset] [(.int v3)]))
  refine go (fun _ q => XS.istore X0.here hx rfl (hb hby at_25) rfl (l' := #[.val (.int p1), .val (.int p2), .val (.int p3), .val (.int v1), .val (.int v2), .val (.int v3), .unset, .unset, .unset, .unset, .unset, .unset, .unset, .unset, .unset, .unset, .unset, .unset, .unset]) rfl q) ?_
  show Go p e below _ (T0.setTop (mkF m 27 #[.val (.int p1), .val (.int p2), .val (.int p3), .val (.int v1), .val (.int v2), .val (.int v3), .unset, .unset, .unset, .unset, .unset, .unset, .unset, .unset, .unset, .unset, .unset, .unset, .unset] []))
  refine go (fun _ q => XS.iloadN X0.here hx rfl (hb hby at_27) rfl q) ?_
  show Go p e below _ (T0.setTop (mkF m 28 #[.val (.int p1), .val (.int p2), .val (.int p3), .val (.int v1), .val (.int v2), .val (.int v3), .unset, .unset, .unset, .unset, .unset, .unset, .unset, .unset, .unset, .unset, .unset, .unset, .unset] [(.int p2)]))
  refine go (fun _ q => XS.iconst X0.here hx rfl (hb hby at_28) q) ?_
  show Go p e below _ (T0.setTop (mkF m 29 #[.val (.int p1), .val (.int p2), .val (.int p3), .val (.int v1), .val (.int v2), .val (.int v3), .unset, .unset, .unset, .unset, .unset, .unset, .unset, .unset, .unset, .unset, .unset, .unset, .unset] [(.int (2 : Int32)), (.int p2)]))
  refine go (fun _ q => XS.iushr X0.here hx rfl (hb hby at_29) rfl q) ?_
  show Go p e below _ (T0.setTop (mkF m 30 #[.val (.int p1), .val (.int p2), .val (.int p3), .val (.int v1), .val (.int v2), .val (.int v3), .unset, .unset, .unset, .unset, .unset, .unset, .unset, .unset, .unset, .unset, .unset, .unset, .unset] [(.int (((p2).toUInt32 >>> ((2 : Int32) &&& 31).toUInt32).toInt32))]))
  refine go (fun _ q => XS.sipush X0.here hx rfl (hb hby at_30) q) ?_
  show Go p e below _ (T0.setTop (mkF m 33 #[.val (.int p1), .val (.int p2), .val (.int p3), .val (.int v1), .val (.int v2), .val (.int v3), .unset, .unset, .unset, .unset, .unset, .unset, .unset, .unset, .unset, .unset, .unset, .unset, .unset] [(.int (255 : Int32)), (.int (((p2).toUInt32 >>> ((2 : Int32) &&& 31).toUInt32).toInt32))]))
  refine go (fun _ q => XS.iand X0.here hx rfl (hb hby at_33) rfl q) ?_
  show Go p e below _ (T0.setTop (mkF m 34 #[.val (.int p1), .val (.int p2), .val (.int p3), .val (.int v1), .val (.int v2), .val (.int v3), .unset, .unset, .unset, .unset, .unset, .unset, .unset, .unset, .unset, .unset, .unset, .unset, .unset] [(.int ((((p2).toUInt32 >>> ((2 : Int32) &&& 31).toUInt32).toInt32) &&& (255 : Int32)))]))
  refine go (fun _ q => XS.i2c X0.here hx rfl (hb hby at_34) rfl q) ?_
  show Go p e below _ (T0.setTop (mkF m 35 #[.val (.int p1), .val (.int p2), .val (.int p3), .val (.int v1), .val (.int v2), .val (.int v3), .unset, .unset, .unset, .unset, .unset, .unset, .unset, .unset, .unset, .unset, .unset, .unset, .unset] [(.int ((((((p2).toUInt32 >>> ((2 : Int32) &&& 31).toUInt32).toInt32) &&& (255 : Int32))).toUInt32.toUInt16.toUInt32.toInt32))]))
  generalize hv4 : ((((((p2).toUInt32 >>> ((2 : Int32) &&& 31).toUInt32).toInt32) &&& (255 : Int32))).toUInt32.toUInt16.toUInt32.toInt32) = v4
  show Go p e below _ (T0.setTop (mkF m 35 #[.val (.int p1), .val (.int p2), .val (.int p3), .val (.int v1), .val (.int v2), .val (.int v3), .unset, .unset, .unset, .unset, .unset, .unset, .unset, .unset, .unset, .unset, .unset, .unset, .unset] [(.int v4)]))
  refine go (fun _ q => XS.istore X0.here hx rfl (hb hby at_35) rfl (l' := #[.val (.int p1), .val (.int p2), .val (.int p3), .val (.int v1), .val (.int v2), .val (.int v3), .val (.int v4), .unset, .unset, .unset, .unset, .unset, .unset, .unset, .unset, .unset, .unset, .unset, .unset]) rfl q) ?_
  show Go p e below _ (T0.setTop (mkF m 37 #[.val (.int p1), .val (.int p2), .val (.int p3), .val (.int v1), .val (.int v2), .val (.int v3), .val (.int v4), .unset, .unset, .unset, .unset, .unset, .unset, .unset, .unset, .unset, .unset, .unset, .unset] []))
  refine go (fun _ q => XS.iloadN X0.here hx rfl (hb hby at_37) rfl q) ?_
  show Go p e below _ (T0.setTop (mkF m 38 #[.val (.int p1), .val (.int p2), .val (.int p3), .val (.int v1), .val (.int v2), .val (.int v3), .val (.int v4), .unset, .unset, .unset, .unset, .unset, .unset, .unset, .unset, .unset, .unset, .unset, .unset] [(.int p2)]))
  refine go (fun _ q => XS.bipush X0.here hx rfl (hb hby at_38) q) ?_
  show Go p e below _ (T0.setTop (mkF m 40 #[.val (.int p1), .val (.int p2), .val (.int p3), .val (.int v1), .val (.int v2), .val (.int v3), .val (.int v4), .unset, .unset, .unset, .unset, .unset, .unset, .unset, .unset, .unset, .unset, .unset, .unset] [(.int (10 : Int32)), (.int p2)]))
  refine go (fun _ q => XS.iushr X0.here hx rfl (hb hby at_40) rfl q) ?_
  show Go p e below _ (T0.setTop (mkF m 41 #[.val (.int p1), .val (.int p2), .val (.int p3), .val (.int v1), .val (.int v2), .val (.int v3), .val (.int v4), .unset, .unset, .unset, .unset, .unset, .unset, .unset, .unset, .unset, .unset, .unset, .unset] [(.int (((p2).toUInt32 >>> ((10 : Int32) &&& 31).toUInt32).toInt32))]))
  refine go (fun _ q => XS.sipush X0.here hx rfl (hb hby at_41) q) ?_
  show Go p e below _ (T0.setTop (mkF m 44 #[.val (.int p1), .val (.int p2), .val (.int p3), .val (.int v1), .val (.int v2), .val (.int v3), .val (.int v4), .unset, .unset, .unset, .unset, .unset, .unset, .unset, .unset, .unset, .unset, .unset, .unset] [(.int (255 : Int32)), (.int (((p2).toUInt32 >>> ((10 : Int32) &&& 31).toUInt32).toInt32))]))
  refine go (fun _ q => XS.iand X0.here hx rfl (hb hby at_44) rfl q) ?_
  show Go p e below _ (T0.setTop (mkF m 45 #[.val (.int p1), .val (.int p2), .val (.int p3), .val (.int v1), .val (.int v2), .val (.int v3), .val (.int v4), .unset, .unset, .unset, .unset, .unset, .unset, .unset, .unset, .unset, .unset, .unset, .unset] [(.int ((((p2).toUInt32 >>> ((10 : Int32) &&& 31).toUInt32).toInt32) &&& (255 : Int32)))]))
  refine go (fun _ q => XS.i2c X0.here hx rfl (hb hby at_45) rfl q) ?_
  show Go p e below _ (T0.setTop (mkF m 46 #[.val (.int p1), .val (.int p2), .val (.int p3), .val (.int v1), .val (.int v2), .val (.int v3), .val (.int v4), .unset, .unset, .unset, .unset, .unset, .unset, .unset, .unset, .unset, .unset, .unset, .unset] [(.int ((((((p2).toUInt32 >>> ((10 : Int32) &&& 31).toUInt32).toInt32) &&& (255 : Int32))).toUInt32.toUInt16.toUInt32.toInt32))]))
  generalize hv5 : ((((((p2).toUInt32 >>> ((10 : Int32) &&& 31).toUInt32).toInt32) &&& (255 : Int32))).toUInt32.toUInt16.toUInt32.toInt32) = v5
  show Go p e below _ (T0.setTop (mkF m 46 #[.val (.int p1), .val (.int p2), .val (.int p3), .val (.int v1), .val (.int v2), .val (.int v3), .val (.int v4), .unset, .unset, .unset, .unset, .unset, .unset, .unset, .unset, .unset, .unset, .unset, .unset] [(.int v5)]))
  refine go (fun _ q => XS.istore X0.here hx rfl (hb hby at_46) rfl (l' := #[.val (.int p1), .val (.int p2), .val (.int p3), .val (.int v1), .val (.int v2), .val (.int v3), .val (.int v4), .val (.int v5), .unset, .unset, .unset, .unset, .unset, .unset, .unset, .unset, .unset, .unset, .unset]) rfl q) ?_
  show Go p e below _ (T0.setTop (mkF m 48 #[.val (.int p1), .val (.int p2), .val (.int p3), .val (.int v1), .val (.int v2), .val (.int v3), .val (.int v4), .val (.int v5), .unset, .unset, .unset, .unset, .unset, .unset, .unset, .unset, .unset, .unset, .unset] []))
  refine go (fun _ q => XS.iloadN X0.here hx rfl (hb hby at_48) rfl q) ?_
  show Go p e below _ (T0.setTop (mkF m 49 #[.val (.int p1), .val (.int p2), .val (.int p3), .val (.int v1), .val (.int v2), .val (.int v3), .val (.int v4), .val (.int v5), .unset, .unset, .unset, .unset, .unset, .unset, .unset, .unset, .unset, .unset, .unset] [(.int p3)]))
  refine go (fun _ q => XS.iconst X0.here hx rfl (hb hby at_49) q) ?_
  show Go p e below _ (T0.setTop (mkF m 50 #[.val (.int p1), .val (.int p2), .val (.int p3), .val (.int v1), .val (.int v2), .val (.int v3), .val (.int v4), .val (.int v5), .unset, .unset, .unset, .unset, .unset, .unset, .unset, .unset, .unset, .unset, .unset] [(.int (4 : Int32)), (.int p3)]))
  refine go (fun _ q => XS.iand X0.here hx rfl (hb hby at_50) rfl q) ?_
  show Go p e below _ (T0.setTop (mkF m 51 #[.val (.int p1), .val (.int p2), .val (.int p3), .val (.int v1), .val (.int v2), .val (.int v3), .val (.int v4), .val (.int v5), .unset, .unset, .unset, .unset, .unset, .unset, .unset, .unset, .unset, .unset, .unset] [(.int (p3 &&& (4 : Int32)))]))
  suffices hj6 : ∀ (z14 : Int32), z14 = (if (p3 &&& (4 : Int32)) = (0 : Int32) then ((p2 &&& (3 : Int32)) % (3 : Int32)) else v1) → ∀ (z15 : Int32), z15 = (if (p3 &&& (4 : Int32)) = (0 : Int32) then v4 else (if (p3 &&& (8 : Int32)) = (0 : Int32) then v2 else v4)) → ∀ (z16 : Int32), z16 = (if (p3 &&& (4 : Int32)) = (0 : Int32) then v5 else (if (p3 &&& (16 : Int32)) = (0 : Int32) then v3 else v5)) → Go p e below (DnW below s Z EL1 vm0 h0 ((Q0 n0)) room_1.cells room_1.slots) (T0.setTop (mkF m 107 #[.val (.int p1), .val (.int p2), .val (.int p3), .val (.int v1), .val (.int v2), .val (.int v3), .val (.int v4), .val (.int v5), .val (.int z14), .val (.int z15), .val (.int z16), .unset, .unset, .unset, .unset, .unset, .unset, .unset, .unset] [])) by
    by_cases hc7 : (p3 &&& (4 : Int32)) = (0 : Int32)
    · refine go (fun _ q => XS.ifYes X0.here hx rfl (pc0 := 51) (pc' := 92) rfl (hb hby at_51) rfl ((if0 _ _).trans (teq hc7).1) (by decide) (by decide) q) ?_
      show Go p e below _ (T0.setTop (mkF m 92 #[.val (.int p1), .val (.int p2), .val (.int p3), .val (.int v1), .val (.int v2), .val (.int v3), .val (.int v4), .val (.int v5), .unset, .unset, .unset, .unset, .unset, .unset, .unset, .unset, .unset, .unset, .unset] []))
      refine go (fun _ q => XS.iloadN X0.here hx rfl (hb hby at_92) rfl q) ?_
      show Go p e below _ (T0.setTop (mkF m 93 #[.val (.int p1), .val (.int p2), .val (.int p3), .val (.int v1), .val (.int v2), .val (.int v3), .val (.int v4), .val (.int v5), .unset, .unset, .unset, .unset, .unset, .unset, .unset, .unset, .unset, .unset, .unset] [(.int p2)]))
      refine go (fun _ q => XS.iconst X0.here hx rfl (hb hby at_93) q) ?_
      show Go p e below _ (T0.setTop (mkF m 94 #[.val (.int p1), .val (.int p2), .val (.int p3), .val (.int v1), .val (.int v2), .val (.int v3), .val (.int v4), .val (.int v5), .unset, .unset, .unset, .unset, .unset, .unset, .unset, .unset, .unset, .unset, .unset] [(.int (3 : Int32)), (.int p2)]))
      refine go (fun _ q => XS.iand X0.here hx rfl (hb hby at_94) rfl q) ?_
      show Go p e below _ (T0.setTop (mkF m 95 #[.val (.int p1), .val (.int p2), .val (.int p3), .val (.int v1), .val (.int v2), .val (.int v3), .val (.int v4), .val (.int v5), .unset, .unset, .unset, .unset, .unset, .unset, .unset, .unset, .unset, .unset, .unset] [(.int (p2 &&& (3 : Int32)))]))
      refine go (fun _ q => XS.iconst X0.here hx rfl (hb hby at_95) q) ?_
      show Go p e below _ (T0.setTop (mkF m 96 #[.val (.int p1), .val (.int p2), .val (.int p3), .val (.int v1), .val (.int v2), .val (.int v3), .val (.int v4), .val (.int v5), .unset, .unset, .unset, .unset, .unset, .unset, .unset, .unset, .unset, .unset, .unset] [(.int (3 : Int32)), (.int (p2 &&& (3 : Int32)))]))
      refine go (fun _ q => iremM X0 hx rfl (hb hby at_96) rfl (by decide) q) ?_
      show Go p e below _ (T0.setTop (mkF m 97 #[.val (.int p1), .val (.int p2), .val (.int p3), .val (.int v1), .val (.int v2), .val (.int v3), .val (.int v4), .val (.int v5), .unset, .unset, .unset, .unset, .unset, .unset, .unset, .unset, .unset, .unset, .unset] [(.int ((p2 &&& (3 : Int32)) % (3 : Int32)))]))
      refine go (fun _ q => XS.istore X0.here hx rfl (hb hby at_97) rfl (l' := #[.val (.int p1), .val (.int p2), .val (.int p3), .val (.int v1), .val (.int v2), .val (.int v3), .val (.int v4), .val (.int v5), .val (.int ((p2 &&& (3 : Int32)) % (3 : Int32))), .unset, .unset, .unset, .unset, .unset, .unset, .unset, .unset, .unset, .unset]) rfl q) ?_
      show Go p e below _ (T0.setTop (mkF m 99 #[.val (.int p1), .val (.int p2), .val (.int p3), .val (.int v1), .val (.int v2), .val (.int v3), .val (.int v4), .val (.int v5), .val (.int ((p2 &&& (3 : Int32)) % (3 : Int32))), .unset, .unset, .unset, .unset, .unset, .unset, .unset, .unset, .unset, .unset] []))
      refine go (fun _ q => XS.iload X0.here hx rfl (hb hby at_99) rfl q) ?_
      show Go p e below _ (T0.setTop (mkF m 101 #[.val (.int p1), .val (.int p2), .val (.int p3), .val (.int v1), .val (.int v2), .val (.int v3), .val (.int v4), .val (.int v5), .val (.int ((p2 &&& (3 : Int32)) % (3 : Int32))), .unset, .unset, .unset, .unset, .unset, .unset, .unset, .unset, .unset, .unset] [(.int v4)]))
      refine go (fun _ q => XS.istore X0.here hx rfl (hb hby at_101) rfl (l' := #[.val (.int p1), .val (.int p2), .val (.int p3), .val (.int v1), .val (.int v2), .val (.int v3), .val (.int v4), .val (.int v5), .val (.int ((p2 &&& (3 : Int32)) % (3 : Int32))), .val (.int v4), .unset, .unset, .unset, .unset, .unset, .unset, .unset, .unset, .unset]) rfl q) ?_
      show Go p e below _ (T0.setTop (mkF m 103 #[.val (.int p1), .val (.int p2), .val (.int p3), .val (.int v1), .val (.int v2), .val (.int v3), .val (.int v4), .val (.int v5), .val (.int ((p2 &&& (3 : Int32)) % (3 : Int32))), .val (.int v4), .unset, .unset, .unset, .unset, .unset, .unset, .unset, .unset, .unset] []))
      refine go (fun _ q => XS.iload X0.here hx rfl (hb hby at_103) rfl q) ?_
      show Go p e below _ (T0.setTop (mkF m 105 #[.val (.int p1), .val (.int p2), .val (.int p3), .val (.int v1), .val (.int v2), .val (.int v3), .val (.int v4), .val (.int v5), .val (.int ((p2 &&& (3 : Int32)) % (3 : Int32))), .val (.int v4), .unset, .unset, .unset, .unset, .unset, .unset, .unset, .unset, .unset] [(.int v5)]))
      refine go (fun _ q => XS.istore X0.here hx rfl (hb hby at_105) rfl (l' := #[.val (.int p1), .val (.int p2), .val (.int p3), .val (.int v1), .val (.int v2), .val (.int v3), .val (.int v4), .val (.int v5), .val (.int ((p2 &&& (3 : Int32)) % (3 : Int32))), .val (.int v4), .val (.int v5), .unset, .unset, .unset, .unset, .unset, .unset, .unset, .unset]) rfl q) ?_
      show Go p e below _ (T0.setTop (mkF m 107 #[.val (.int p1), .val (.int p2), .val (.int p3), .val (.int v1), .val (.int v2), .val (.int v3), .val (.int v4), .val (.int v5), .val (.int ((p2 &&& (3 : Int32)) % (3 : Int32))), .val (.int v4), .val (.int v5), .unset, .unset, .unset, .unset, .unset, .unset, .unset, .unset] []))
      exact hj6 _ (by rw [if_pos hc7]) _ (by rw [if_pos hc7]) _ (by rw [if_pos hc7])
    · refine go (fun _ q => XS.ifNo X0.here hx rfl (hb hby at_51) rfl ((if0 _ _).trans (feq hc7).1) q) ?_
      show Go p e below _ (T0.setTop (mkF m 54 #[.val (.int p1), .val (.int p2), .val (.int p3), .val (.int v1), .val (.int v2), .val (.int v3), .val (.int v4), .val (.int v5), .unset, .unset, .unset, .unset, .unset, .unset, .unset, .unset, .unset, .unset, .unset] []))
      refine go (fun _ q => XS.iloadN X0.here hx rfl (hb hby at_54) rfl q) ?_
      show Go p e below _ (T0.setTop (mkF m 55 #[.val (.int p1), .val (.int p2), .val (.int p3), .val (.int v1), .val (.int v2), .val (.int v3), .val (.int v4), .val (.int v5), .unset, .unset, .unset, .unset, .unset, .unset, .unset, .unset, .unset, .unset, .unset] [(.int v1)]))
      refine go (fun _ q => XS.istore X0.here hx rfl (hb hby at_55) rfl (l' := #[.val (.int p1), .val (.int p2), .val (.int p3), .val (.int v1), .val (.int v2), .val (.int v3), .val (.int v4), .val (.int v5), .val (.int v1), .unset, .unset, .unset, .unset, .unset, .unset, .unset, .unset, .unset, .unset]) rfl q) ?_
      show Go p e below _ (T0.setTop (mkF m 57 #[.val (.int p1), .val (.int p2), .val (.int p3), .val (.int v1), .val (.int v2), .val (.int v3), .val (.int v4), .val (.int v5), .val (.int v1), .unset, .unset, .unset, .unset, .unset, .unset, .unset, .unset, .unset, .unset] []))
      refine go (fun _ q => XS.iloadN X0.here hx rfl (hb hby at_57) rfl q) ?_
      show Go p e below _ (T0.setTop (mkF m 58 #[.val (.int p1), .val (.int p2), .val (.int p3), .val (.int v1), .val (.int v2), .val (.int v3), .val (.int v4), .val (.int v5), .val (.int v1), .unset, .unset, .unset, .unset, .unset, .unset, .unset, .unset, .unset, .unset] [(.int p3)]))
      refine go (fun _ q => XS.bipush X0.here hx rfl (hb hby at_58) q) ?_
      show Go p e below _ (T0.setTop (mkF m 60 #[.val (.int p1), .val (.int p2), .val (.int p3), .val (.int v1), .val (.int v2), .val (.int v3), .val (.int v4), .val (.int v5), .val (.int v1), .unset, .unset, .unset, .unset, .unset, .unset, .unset, .unset, .unset, .unset] [(.int (8 : Int32)), (.int p3)]))
      refine go (fun _ q => XS.iand X0.here hx rfl (hb hby at_60) rfl q) ?_
      show Go p e below _ (T0.setTop (mkF m 61 #[.val (.int p1), .val (.int p2), .val (.int p3), .val (.int v1), .val (.int v2), .val (.int v3), .val (.int v4), .val (.int v5), .val (.int v1), .unset, .unset, .unset, .unset, .unset, .unset, .unset, .unset, .unset, .unset] [(.int (p3 &&& (8 : Int32)))]))
      suffices hj8 : ∀ (z10 : Int32), z10 = (if (p3 &&& (8 : Int32)) = (0 : Int32) then v2 else v4) → Go p e below (DnW below s Z EL1 vm0 h0 ((Q0 n0)) room_1.cells room_1.slots) (T0.setTop (mkF m 71 #[.val (.int p1), .val (.int p2), .val (.int p3), .val (.int v1), .val (.int v2), .val (.int v3), .val (.int v4), .val (.int v5), .val (.int v1), .unset, .unset, .unset, .unset, .unset, .unset, .unset, .unset, .unset, .unset] [(.int z10)])) by
        by_cases hc9 : (p3 &&& (8 : Int32)) = (0 : Int32)
        · refine go (fun _ q => XS.ifYes X0.here hx rfl (pc0 := 61) (pc' := 69) rfl (hb hby at_61) rfl ((if0 _ _).trans (teq hc9).1) (by decide) (by decide) q) ?_
          show Go p e below _ (T0.setTop (mkF m 69 #[.val (.int p1), .val (.int p2), .val (.int p3), .val (.int v1), .val (.int v2), .val (.int v3), .val (.int v4), .val (.int v5), .val (.int v1), .unset, .unset, .unset, .unset, .unset, .unset, .unset, .unset, .unset, .unset] []))
          refine go (fun _ q => XS.iload X0.here hx rfl (hb hby at_69) rfl q) ?_
          show Go p e below _ (T0.setTop (mkF m 71 #[.val (.int p1), .val (.int p2), .val (.int p3), .val (.int v1), .val (.int v2), .val (.int v3), .val (.int v4), .val (.int v5), .val (.int v1), .unset, .unset, .unset, .unset, .unset, .unset, .unset, .unset, .unset, .unset] [(.int v2)]))
          exact hj8 _ (by rw [if_pos hc9])
        · refine go (fun _ q => XS.ifNo X0.here hx rfl (hb hby at_61) rfl ((if0 _ _).trans (feq hc9).1) q) ?_
          show Go p e below _ (T0.setTop (mkF m 64 #[.val (.int p1), .val (.int p2), .val (.int p3), .val (.int v1), .val (.int v2), .val (.int v3), .val (.int v4), .val (.int v5), .val (.int v1), .unset, .unset, .unset, .unset, .unset, .unset, .unset, .unset, .unset, .unset] []))
          refine go (fun _ q => XS.iload X0.here hx rfl (hb hby at_64) rfl q) ?_
          show Go p e below _ (T0.setTop (mkF m 66 #[.val (.int p1), .val (.int p2), .val (.int p3), .val (.int v1), .val (.int v2), .val (.int v3), .val (.int v4), .val (.int v5), .val (.int v1), .unset, .unset, .unset, .unset, .unset, .unset, .unset, .unset, .unset, .unset] [(.int v4)]))
          refine go (fun _ q => XS.goto X0.here hx rfl (pc0 := 66) (pc' := 71) rfl (hb hby at_66) (by decide) (by decide) q) ?_
          show Go p e below _ (T0.setTop (mkF m 71 #[.val (.int p1), .val (.int p2), .val (.int p3), .val (.int v1), .val (.int v2), .val (.int v3), .val (.int v4), .val (.int v5), .val (.int v1), .unset, .unset, .unset, .unset, .unset, .unset, .unset, .unset, .unset, .unset] [(.int v4)]))
          exact hj8 _ (by rw [if_neg hc9])
      intro z10 hz10
      show Go p e below _ (T0.setTop (mkF m 71 #[.val (.int p1), .val (.int p2), .val (.int p3), .val (.int v1), .val (.int v2), .val (.int v3), .val (.int v4), .val (.int v5), .val (.int v1), .unset, .unset, .unset, .unset, .unset, .unset, .unset, .unset, .unset, .unset] [(.int z10)]))
      refine go (fun _ q => XS.istore X0.here hx rfl (hb hby at_71) rfl (l' := #[.val (.int p1), .val (.int p2), .val (.int p3), .val (.int v1), .val (.int v2), .val (.int v3), .val (.int v4), .val (.int v5), .val (.int v1), .val (.int z10), .unset, .unset, .unset, .unset, .unset, .unset, .unset, .unset, .unset]) rfl q) ?_
      show Go p e below _ (T0.setTop (mkF m 73 #[.val (.int p1), .val (.int p2), .val (.int p3), .val (.int v1), .val (.int v2), .val (.int v3), .val (.int v4), .val (.int v5), .val (.int v1), .val (.int z10), .unset, .unset, .unset, .unset, .unset, .unset, .unset, .unset, .unset] []))
      refine go (fun _ q => XS.iloadN X0.here hx rfl (hb hby at_73) rfl q) ?_
      show Go p e below _ (T0.setTop (mkF m 74 #[.val (.int p1), .val (.int p2), .val (.int p3), .val (.int v1), .val (.int v2), .val (.int v3), .val (.int v4), .val (.int v5), .val (.int v1), .val (.int z10), .unset, .unset, .unset, .unset, .unset, .unset, .unset, .unset, .unset] [(.int p3)]))
      refine go (fun _ q => XS.bipush X0.here hx rfl (hb hby at_74) q) ?_
      show Go p e below _ (T0.setTop (mkF m 76 #[.val (.int p1), .val (.int p2), .val (.int p3), .val (.int v1), .val (.int v2), .val (.int v3), .val (.int v4), .val (.int v5), .val (.int v1), .val (.int z10), .unset, .unset, .unset, .unset, .unset, .unset, .unset, .unset, .unset] [(.int (16 : Int32)), (.int p3)]))
      refine go (fun _ q => XS.iand X0.here hx rfl (hb hby at_76) rfl q) ?_
      show Go p e below _ (T0.setTop (mkF m 77 #[.val (.int p1), .val (.int p2), .val (.int p3), .val (.int v1), .val (.int v2), .val (.int v3), .val (.int v4), .val (.int v5), .val (.int v1), .val (.int z10), .unset, .unset, .unset, .unset, .unset, .unset, .unset, .unset, .unset] [(.int (p3 &&& (16 : Int32)))]))
      suffices hj11 : ∀ (z13 : Int32), z13 = (if (p3 &&& (16 : Int32)) = (0 : Int32) then v3 else v5) → Go p e below (DnW below s Z EL1 vm0 h0 ((Q0 n0)) room_1.cells room_1.slots) (T0.setTop (mkF m 87 #[.val (.int p1), .val (.int p2), .val (.int p3), .val (.int v1), .val (.int v2), .val (.int v3), .val (.int v4), .val (.int v5), .val (.int v1), .val (.int z10), .unset, .unset, .unset, .unset, .unset, .unset, .unset, .unset, .unset] [(.int z13)])) by
        by_cases hc12 : (p3 &&& (16 : Int32)) = (0 : Int32)
        · refine go (fun _ q => XS.ifYes X0.here hx rfl (pc0 := 77) (pc' := 85) rfl (hb hby at_77) rfl ((if0 _ _).trans (teq hc12).1) (by decide) (by decide) q) ?_
          show Go p e below _ (T0.setTop (mkF m 85 #[.val (.int p1), .val (.int p2), .val (.int p3), .val (.int v1), .val (.int v2), .val (.int v3), .val (.int v4), .val (.int v5), .val (.int v1), .val (.int z10), .unset, .unset, .unset, .unset, .unset, .unset, .unset, .unset, .unset] []))
          refine go (fun _ q => XS.iload X0.here hx rfl (hb hby at_85) rfl q) ?_
          show Go p e below _ (T0.setTop (mkF m 87 #[.val (.int p1), .val (.int p2), .val (.int p3), .val (.int v1), .val (.int v2), .val (.int v3), .val (.int v4), .val (.int v5), .val (.int v1), .val (.int z10), .unset, .unset, .unset, .unset, .unset, .unset, .unset, .unset, .unset] [(.int v3)]))
          exact hj11 _ (by rw [if_pos hc12])
        · refine go (fun _ q => XS.ifNo X0.here hx rfl (hb hby at_77) rfl ((if0 _ _).trans (feq hc12).1) q) ?_
          show Go p e below _ (T0.setTop (mkF m 80 #[.val (.int p1), .val (.int p2), .val (.int p3), .val (.int v1), .val (.int v2), .val (.int v3), .val (.int v4), .val (.int v5), .val (.int v1), .val (.int z10), .unset, .unset, .unset, .unset, .unset, .unset, .unset, .unset, .unset] []))
          refine go (fun _ q => XS.iload X0.here hx rfl (hb hby at_80) rfl q) ?_
          show Go p e below _ (T0.setTop (mkF m 82 #[.val (.int p1), .val (.int p2), .val (.int p3), .val (.int v1), .val (.int v2), .val (.int v3), .val (.int v4), .val (.int v5), .val (.int v1), .val (.int z10), .unset, .unset, .unset, .unset, .unset, .unset, .unset, .unset, .unset] [(.int v5)]))
          refine go (fun _ q => XS.goto X0.here hx rfl (pc0 := 82) (pc' := 87) rfl (hb hby at_82) (by decide) (by decide) q) ?_
          show Go p e below _ (T0.setTop (mkF m 87 #[.val (.int p1), .val (.int p2), .val (.int p3), .val (.int v1), .val (.int v2), .val (.int v3), .val (.int v4), .val (.int v5), .val (.int v1), .val (.int z10), .unset, .unset, .unset, .unset, .unset, .unset, .unset, .unset, .unset] [(.int v5)]))
          exact hj11 _ (by rw [if_neg hc12])
      intro z13 hz13
      show Go p e below _ (T0.setTop (mkF m 87 #[.val (.int p1), .val (.int p2), .val (.int p3), .val (.int v1), .val (.int v2), .val (.int v3), .val (.int v4), .val (.int v5), .val (.int v1), .val (.int z10), .unset, .unset, .unset, .unset, .unset, .unset, .unset, .unset, .unset] [(.int z13)]))
      refine go (fun _ q => XS.istore X0.here hx rfl (hb hby at_87) rfl (l' := #[.val (.int p1), .val (.int p2), .val (.int p3), .val (.int v1), .val (.int v2), .val (.int v3), .val (.int v4), .val (.int v5), .val (.int v1), .val (.int z10), .val (.int z13), .unset, .unset, .unset, .unset, .unset, .unset, .unset, .unset]) rfl q) ?_
      show Go p e below _ (T0.setTop (mkF m 89 #[.val (.int p1), .val (.int p2), .val (.int p3), .val (.int v1), .val (.int v2), .val (.int v3), .val (.int v4), .val (.int v5), .val (.int v1), .val (.int z10), .val (.int z13), .unset, .unset, .unset, .unset, .unset, .unset, .unset, .unset] []))
      refine go (fun _ q => XS.goto X0.here hx rfl (pc0 := 89) (pc' := 107) rfl (hb hby at_89) (by decide) (by decide) q) ?_
      show Go p e below _ (T0.setTop (mkF m 107 #[.val (.int p1), .val (.int p2), .val (.int p3), .val (.int v1), .val (.int v2), .val (.int v3), .val (.int v4), .val (.int v5), .val (.int v1), .val (.int z10), .val (.int z13), .unset, .unset, .unset, .unset, .unset, .unset, .unset, .unset] []))
      exact hj6 _ (by rw [if_neg hc7]) _ (by rw [if_neg hc7, hz10]) _ (by rw [if_neg hc7, hz13])
  intro z14 hz14 z15 hz15 z16 hz16
  show Go p e below _ (T0.setTop (mkF m 107 #[.val (.int p1), .val (.int p2), .val (.int p3), .val (.int v1), .val (.int v2), .val (.int v3), .val (.int v4), .val (.int v5), .val (.int z14), .val (.int z15), .val (.int z16), .unset, .unset, .unset, .unset, .unset, .unset, .unset, .unset] []))
  have b_v2 := own_chb hv2
  have b_v3 := own_chb hv3
  have b_v4 := own_chb hv4
  have b_v5 := own_chb hv5
  have b_z15 : ¬ z15 < 0 ∧ ¬ (255 : Int32) < z15 := by rw [hz15]; (repeat' split) <;> assumption
  have b_z16 : ¬ z16 < 0 ∧ ¬ (255 : Int32) < z16 := by rw [hz16]; (repeat' split) <;> assumption
  have ra := own_r3 hv1
  have rb : z14 = 0 ∨ z14 = 1 ∨ z14 = 2 := by rw [hz14]; (repeat' split) <;> first | exact ra | exact own_r3 rfl
  refine go (fun _ q => XS.iloadN X0.here hx rfl (hb hby at_107) rfl q) ?_
  show Go p e below _ (T0.setTop (mkF m 108 #[.val (.int p1), .val (.int p2), .val (.int p3), .val (.int v1), .val (.int v2), .val (.int v3), .val (.int v4), .val (.int v5), .val (.int z14), .val (.int z15), .val (.int z16), .unset, .unset, .unset, .unset, .unset, .unset, .unset, .unset] [(.int v1)]))
  refine go (fun _ q => XS.iload X0.here hx rfl (hb hby at_108) rfl q) ?_
  show Go p e below _ (T0.setTop (mkF m 110 #[.val (.int p1), .val (.int p2), .val (.int p3), .val (.int v1), .val (.int v2), .val (.int v3), .val (.int v4), .val (.int v5), .val (.int z14), .val (.int z15), .val (.int z16), .unset, .unset, .unset, .unset, .unset, .unset, .unset, .unset] [(.int v2), (.int v1)]))
  refine go (fun _ q => XS.iload X0.here hx rfl (hb hby at_110) rfl q) ?_
  show Go p e below _ (T0.setTop (mkF m 112 #[.val (.int p1), .val (.int p2), .val (.int p3), .val (.int v1), .val (.int v2), .val (.int v3), .val (.int v4), .val (.int v5), .val (.int z14), .val (.int z15), .val (.int z16), .unset, .unset, .unset, .unset, .unset, .unset, .unset, .unset] [(.int v3), (.int v2), (.int v1)]))
  refine own_callSW X0 hx hZ hown e0 hS hk hEL CR (hw _ (List.mem_of_getElem? (i := 0) rfl)) (hw _ (List.mem_of_getElem? (i := 1) rfl)) (hw _ (List.mem_of_getElem? (i := 2) rfl)) (hw _ (List.mem_of_getElem? (i := 3) rfl)) (rm1 l Z a0 hw [] v1 v2 v3 h0 n0 Z0 b_v2 b_v3 Wl) (by decide) (by decide) (W := 0) (by decide) (by decide) (by decide) (g := (mkF m 112 #[.val (.int p1), .val (.int p2), .val (.int p3), .val (.int v1), .val (.int v2), .val (.int v3), .val (.int v4), .val (.int v5), .val (.int z14), .val (.int z15), .val (.int z16), .unset, .unset, .unset, .unset, .unset, .unset, .unset, .unset] [(.int v3), (.int v2), (.int v1)])) rfl (by rw [hml]; rfl) (argsL := [(.int v1), (.int v2), (.int v3)]) (rest := []) rfl rfl (lenOf pd_0_0 rfl) (by show 2 * 0 + _ ≤ _; exact Nat.le_of_eq rfl) (hb hby at_112) ?_
  rintro _ T17 L17 vm17 kk17 X17 hS hk hZ hown CR ⟨r17, rfl, N17q, E17, P17⟩
  have N17 := Fr.app N0 N17q
  have Z17 : n0 ≤ T17.heap.size := Nat.le_trans Z0 E17.1
  have Wl_18 : Wld Z T17.heap := Wl.ext E17
  show Go p e below _ (T17.setTop (mkF m 115 #[.val (.int p1), .val (.int p2), .val (.int p3), .val (.int v1), .val (.int v2), .val (.int v3), .val (.int v4), .val (.int v5), .val (.int z14), .val (.int z15), .val (.int z16), .unset, .unset, .unset, .unset, .unset, .unset, .unset, .unset] [(.ref r17)]))
  refine go (fun _ q => XS.astore X17.here hx rfl (hb hby at_115) rfl rfl (l' := #[.val (.int p1), .val (.int p2), .val (.int p3), .val (.int v1), .val (.int v2), .val (.int v3), .val (.int v4), .val (.int v5), .val (.int z14), .val (.int z15), .val (.int z16), .val (.ref r17), .unset, .unset, .unset, .unset, .unset, .unset, .unset]) rfl q) ?_
  show Go p e below _ (T17.setTop (mkF m 117 #[.val (.int p1), .val (.int p2), .val (.int p3), .val (.int v1), .val (.int v2), .val (.int v3), .val (.int v4), .val (.int v5), .val (.int z14), .val (.int z15), .val (.int z16), .val (.ref r17), .unset, .unset, .unset, .unset, .unset, .unset, .unset] []))
  refine go (fun _ q => XS.iload X17.here hx rfl (hb hby at_117) rfl q) ?_
  show Go p e below _ (T17.setTop (mkF m 119 #[.val (.int p1), .val (.int p2), .val (.int p3), .val (.int v1), .val (.int v2), .val (.int v3), .val (.int v4), .val (.int v5), .val (.int z14), .val (.int z15), .val (.int z16), .val (.ref r17), .unset, .unset, .unset, .unset, .unset, .unset, .unset] [(.int z14)]))
  refine go (fun _ q => XS.iload X17.here hx rfl (hb hby at_119) rfl q) ?_
  show Go p e below _ (T17.setTop (mkF m 121 #[.val (.int p1), .val (.int p2), .val (.int p3), .val (.int v1), .val (.int v2), .val (.int v3), .val (.int v4), .val (.int v5), .val (.int z14), .val (.int z15), .val (.int z16), .val (.ref r17), .unset, .unset, .unset, .unset, .unset, .unset, .unset] [(.int z15), (.int z14)]))
  refine go (fun _ q => XS.iload X17.here hx rfl (hb hby at_121) rfl q) ?_
  show Go p e below _ (T17.setTop (mkF m 123 #[.val (.int p1), .val (.int p2), .val (.int p3), .val (.int v1), .val (.int v2), .val (.int v3), .val (.int v4), .val (.int v5), .val (.int z14), .val (.int z15), .val (.int z16), .val (.ref r17), .unset, .unset, .unset, .unset, .unset, .unset, .unset] [(.int z16), (.int z15), (.int z14)]))
  refine own_callSW X17 hx hZ hown rfl hS hk hEL CR (hw _ (List.mem_of_getElem? (i := 0) rfl)) (hw _ (List.mem_of_getElem? (i := 1) rfl)) (hw _ (List.mem_of_getElem? (i := 2) rfl)) (hw _ (List.mem_of_getElem? (i := 3) rfl)) (rm1 l Z a0 hw [] z14 z15 z16 T17.heap n0 Z17 b_z15 b_z16 Wl_18) (by decide) (by decide) (W := 0) (by decide) (by decide) (by decide) (g := (mkF m 123 #[.val (.int p1), .val (.int p2), .val (.int p3), .val (.int v1), .val (.int v2), .val (.int v3), .val (.int v4), .val (.int v5), .val (.int z14), .val (.int z15), .val (.int z16), .val (.ref r17), .unset, .unset, .unset, .unset, .unset, .unset, .unset] [(.int z16), (.int z15), (.int z14)])) rfl (by rw [hml]; rfl) (argsL := [(.int z14), (.int z15), (.int z16)]) (rest := []) rfl rfl (lenOf pd_0_0 rfl) (by show 2 * 0 + _ ≤ _; exact Nat.le_of_eq rfl) (hb hby at_123) ?_
  rintro _ T19 L19 vm19 kk19 X19 hS hk hZ hown CR ⟨r19, rfl, N19q, E19, P19⟩
  have N19 := Fr.app N17 N19q
  have Z19 : n0 ≤ T19.heap.size := Nat.le_trans Z17 E19.1
  have Wl_20 : Wld Z T19.heap := Wl_18.ext E19
  have P_21 : Str Z T19.heap r17 (own_txt v1 v2 v3) := P17.ext E19
  show Go p e below _ (T19.setTop (mkF m 126 #[.val (.int p1), .val (.int p2), .val (.int p3), .val (.int v1), .val (.int v2), .val (.int v3), .val (.int v4), .val (.int v5), .val (.int z14), .val (.int z15), .val (.int z16), .val (.ref r17), .unset, .unset, .unset, .unset, .unset, .unset, .unset] [(.ref r19)]))
  refine go (fun _ q => XS.astore X19.here hx rfl (hb hby at_126) rfl rfl (l' := #[.val (.int p1), .val (.int p2), .val (.int p3), .val (.int v1), .val (.int v2), .val (.int v3), .val (.int v4), .val (.int v5), .val (.int z14), .val (.int z15), .val (.int z16), .val (.ref r17), .val (.ref r19), .unset, .unset, .unset, .unset, .unset, .unset]) rfl q) ?_
  show Go p e below _ (T19.setTop (mkF m 128 #[.val (.int p1), .val (.int p2), .val (.int p3), .val (.int v1), .val (.int v2), .val (.int v3), .val (.int v4), .val (.int v5), .val (.int z14), .val (.int z15), .val (.int z16), .val (.ref r17), .val (.ref r19), .unset, .unset, .unset, .unset, .unset, .unset] []))
  obtain ⟨T22, h22, X22, e22, E22, A22, D22, -, st22⟩ := newO X19 hx hZ hown (hw _ (List.mem_of_getElem? (i := 26) rfl)) (hw _ (List.mem_of_getElem? (i := 27) rfl)) (hw _ (List.mem_of_getElem? (i := 28) rfl)) rfl (g := (mkF m 128 #[.val (.int p1), .val (.int p2), .val (.int p3), .val (.int v1), .val (.int v2), .val (.int v3), .val (.int v4), .val (.int v5), .val (.int z14), .val (.int z15), .val (.int z16), .val (.ref r17), .val (.ref r19), .unset, .unset, .unset, .unset, .unset, .unset] [])) rfl (hb hby at_128) (by decide) (by decide)
  obtain ⟨b22, g22⟩ : ∃ z, z = T19.heap.size := ⟨_, rfl⟩
  rw [← g22] at A22 D22 st22
  refine go st22 ?_
  have ne_r17_b22 : r17 ≠ b22 := Nat.ne_of_lt (Nat.lt_of_lt_of_le P_21.lt (Nat.le_of_eq g22.symm))
  have ne_r19_b22 : r19 ≠ b22 := Nat.ne_of_lt (Nat.lt_of_lt_of_le P19.lt (Nat.le_of_eq g22.symm))
  have g_b22 : n0 ≤ b22 := Nat.le_trans Z19 (Nat.le_of_eq g22.symm)
  have Z22 : n0 ≤ h22.size := Nat.le_trans Z19 E22.1
  have Wl_23 : Wld Z h22 := Wl_20.ext E22
  have P_24 : Str Z h22 r17 (own_txt v1 v2 v3) := P_21.ext E22
  have P_25 : Str Z h22 r19 (own_txt z14 z15 z16) := P19.ext E22
  have Sf_b22 := Safe.ext E22 CR.1 (Safe.new (Nat.le_of_eq g22.symm))
  have hk := Nat.le_trans hk E22.1
  have CR := CR.trans (CHr.ext E22 CR.1)
  have F_label_b22 : Fld Z h22 b22 "com/example/triview/triview/BlankNode" "label" "Ljava/lang/String;" .null := D22 (Or.inr (hw _ (List.mem_of_getElem? (i := 60) rfl))) (ty := (.object "java/lang/String")) (by decide)
  show Go p e below _ (T22.setTop (mkF m 131 #[.val (.int p1), .val (.int p2), .val (.int p3), .val (.int v1), .val (.int v2), .val (.int v3), .val (.int v4), .val (.int v5), .val (.int z14), .val (.int z15), .val (.int z16), .val (.ref r17), .val (.ref r19), .unset, .unset, .unset, .unset, .unset, .unset] [(.ref b22)]))
  refine go (fun _ q => XS.dup X22.here hx rfl (hb hby at_131) rfl rfl q) ?_
  show Go p e below _ (T22.setTop (mkF m 132 #[.val (.int p1), .val (.int p2), .val (.int p3), .val (.int v1), .val (.int v2), .val (.int v3), .val (.int v4), .val (.int v5), .val (.int z14), .val (.int z15), .val (.int z16), .val (.ref r17), .val (.ref r19), .unset, .unset, .unset, .unset, .unset, .unset] [(.ref b22), (.ref b22)]))
  refine go (fun _ q => XS.aload X22.here hx rfl (hb hby at_132) rfl rfl q) ?_
  show Go p e below _ (T22.setTop (mkF m 134 #[.val (.int p1), .val (.int p2), .val (.int p3), .val (.int v1), .val (.int v2), .val (.int v3), .val (.int v4), .val (.int v5), .val (.int z14), .val (.int z15), .val (.int z16), .val (.ref r17), .val (.ref r19), .unset, .unset, .unset, .unset, .unset, .unset] [(.ref r17), (.ref b22), (.ref b22)]))
  refine own_callCW X22 hx hZ hown e22 hS hk hEL CR (hw _ (List.mem_of_getElem? (i := 29) rfl)) (hw _ (List.mem_of_getElem? (i := 30) rfl)) (hw _ (List.mem_of_getElem? (i := 28) rfl)) (hw _ (List.mem_of_getElem? (i := 31) rfl)) (rm5 l Z a0 hw [] b22 r17 h22 n0 Z22 g_b22 A22 F_label_b22 P_24 Wl_23) rfl (by decide) (by decide) (W := 1) (by decide) (by decide) (by decide) (a := b22) (g := (mkF m 134 #[.val (.int p1), .val (.int p2), .val (.int p3), .val (.int v1), .val (.int v2), .val (.int v3), .val (.int v4), .val (.int v5), .val (.int z14), .val (.int z15), .val (.int z16), .val (.ref r17), .val (.ref r19), .unset, .unset, .unset, .unset, .unset, .unset] [(.ref r17), (.ref b22), (.ref b22)])) rfl (by rw [hml]; rfl) (argsL := [(.ref r17)]) (rest := [(.ref b22)]) rfl rfl (lenOf pd_0_1 rfl) (by show 2 * 0 + _ ≤ _; exact Nat.le_of_eq rfl) (hb hby at_134) ?_
  rintro _ T26 L26 vm26 kk26 X26 hS hk hZ hown CR ⟨rfl, N26q, K26, E26, F26⟩
  have N26 := Fr.app N19 N26q
  have Ex26 : Ext T19.heap T26.heap := own_extK E22 K26 (Nat.le_of_eq g22.symm)
  have Z26 : n0 ≤ T26.heap.size := Nat.le_trans Z22 K26.1
  have Wl_27 : Wld Z T26.heap := Wl_20.ext Ex26
  have P_28 : Str Z T26.heap r17 (own_txt v1 v2 v3) := P_21.ext Ex26
  have P_29 : Str Z T26.heap r19 (own_txt z14 z15 z16) := P19.ext Ex26
  show Go p e below _ (T26.setTop (mkF m 137 #[.val (.int p1), .val (.int p2), .val (.int p3), .val (.int v1), .val (.int v2), .val (.int v3), .val (.int v4), .val (.int v5), .val (.int z14), .val (.int z15), .val (.int z16), .val (.ref r17), .val (.ref r19), .unset, .unset, .unset, .unset, .unset, .unset] [(.ref b22)]))
  refine go (fun _ q => XS.astore X26.here hx rfl (hb hby at_137) rfl rfl (l' := #[.val (.int p1), .val (.int p2), .val (.int p3), .val (.int v1), .val (.int v2), .val (.int v3), .val (.int v4), .val (.int v5), .val (.int z14), .val (.int z15), .val (.int z16), .val (.ref r17), .val (.ref r19), .val (.ref b22), .unset, .unset, .unset, .unset, .unset]) rfl q) ?_
  show Go p e below _ (T26.setTop (mkF m 139 #[.val (.int p1), .val (.int p2), .val (.int p3), .val (.int v1), .val (.int v2), .val (.int v3), .val (.int v4), .val (.int v5), .val (.int z14), .val (.int z15), .val (.int z16), .val (.ref r17), .val (.ref r19), .val (.ref b22), .unset, .unset, .unset, .unset, .unset] []))
  refine go (fun _ q => XS.iloadN X26.here hx rfl (hb hby at_139) rfl q) ?_
  show Go p e below _ (T26.setTop (mkF m 140 #[.val (.int p1), .val (.int p2), .val (.int p3), .val (.int v1), .val (.int v2), .val (.int v3), .val (.int v4), .val (.int v5), .val (.int z14), .val (.int z15), .val (.int z16), .val (.ref r17), .val (.ref r19), .val (.ref b22), .unset, .unset, .unset, .unset, .unset] [(.int p3)]))
  refine go (fun _ q => XS.iconst X26.here hx rfl (hb hby at_140) q) ?_
  show Go p e below _ (T26.setTop (mkF m 141 #[.val (.int p1), .val (.int p2), .val (.int p3), .val (.int v1), .val (.int v2), .val (.int v3), .val (.int v4), .val (.int v5), .val (.int z14), .val (.int z15), .val (.int z16), .val (.ref r17), .val (.ref r19), .val (.ref b22), .unset, .unset, .unset, .unset, .unset] [(.int (3 : Int32)), (.int p3)]))
  refine go (fun _ q => XS.iand X26.here hx rfl (hb hby at_141) rfl q) ?_
  show Go p e below _ (T26.setTop (mkF m 142 #[.val (.int p1), .val (.int p2), .val (.int p3), .val (.int v1), .val (.int v2), .val (.int v3), .val (.int v4), .val (.int v5), .val (.int z14), .val (.int z15), .val (.int z16), .val (.ref r17), .val (.ref r19), .val (.ref b22), .unset, .unset, .unset, .unset, .unset] [(.int (p3 &&& (3 : Int32)))]))
  generalize hv30 : (p3 &&& (3 : Int32)) = v30
  show Go p e below _ (T26.setTop (mkF m 142 #[.val (.int p1), .val (.int p2), .val (.int p3), .val (.int v1), .val (.int v2), .val (.int v3), .val (.int v4), .val (.int v5), .val (.int z14), .val (.int z15), .val (.int z16), .val (.ref r17), .val (.ref r19), .val (.ref b22), .unset, .unset, .unset, .unset, .unset] [(.int v30)]))
  refine go (fun _ q => XS.istore X26.here hx rfl (hb hby at_142) rfl (l' := #[.val (.int p1), .val (.int p2), .val (.int p3), .val (.int v1), .val (.int v2), .val (.int v3), .val (.int v4), .val (.int v5), .val (.int z14), .val (.int z15), .val (.int z16), .val (.ref r17), .val (.ref r19), .val (.ref b22), .val (.int v30), .unset, .unset, .unset, .unset]) rfl q) ?_
  show Go p e below _ (T26.setTop (mkF m 144 #[.val (.int p1), .val (.int p2), .val (.int p3), .val (.int v1), .val (.int v2), .val (.int v3), .val (.int v4), .val (.int v5), .val (.int z14), .val (.int z15), .val (.int z16), .val (.ref r17), .val (.ref r19), .val (.ref b22), .val (.int v30), .unset, .unset, .unset, .unset] []))
  refine go (fun _ q => XS.iload X26.here hx rfl (hb hby at_144) rfl q) ?_
  show Go p e below _ (T26.setTop (mkF m 146 #[.val (.int p1), .val (.int p2), .val (.int p3), .val (.int v1), .val (.int v2), .val (.int v3), .val (.int v4), .val (.int v5), .val (.int z14), .val (.int z15), .val (.int z16), .val (.ref r17), .val (.ref r19), .val (.ref b22), .val (.int v30), .unset, .unset, .unset, .unset] [(.int v30)]))
  by_cases hc31 : v30 = (0 : Int32)
  · refine go (fun _ q => XS.ifNo X26.here hx rfl (hb hby at_146) rfl ((if0 _ _).trans (teq hc31).2) q) ?_
    show Go p e below _ (T26.setTop (mkF m 149 #[.val (.int p1), .val (.int p2), .val (.int p3), .val (.int v1), .val (.int v2), .val (.int v3), .val (.int v4), .val (.int v5), .val (.int z14), .val (.int z15), .val (.int z16), .val (.ref r17), .val (.ref r19), .val (.ref b22), .val (.int v30), .unset, .unset, .unset, .unset] []))
    obtain ⟨T32, h32, X32, e32, E32, A32, D32, -, st32⟩ := newO X26 hx hZ hown (hw _ (List.mem_of_getElem? (i := 26) rfl)) (hw _ (List.mem_of_getElem? (i := 27) rfl)) (hw _ (List.mem_of_getElem? (i := 28) rfl)) rfl (g := (mkF m 149 #[.val (.int p1), .val (.int p2), .val (.int p3), .val (.int v1), .val (.int v2), .val (.int v3), .val (.int v4), .val (.int v5), .val (.int z14), .val (.int z15), .val (.int z16), .val (.ref r17), .val (.ref r19), .val (.ref b22), .val (.int v30), .unset, .unset, .unset, .unset] [])) rfl (hb hby at_149) (by decide) (by decide)
    obtain ⟨b32, g32⟩ : ∃ z, z = T26.heap.size := ⟨_, rfl⟩
    rw [← g32] at A32 D32 st32
    refine go st32 ?_
    have ne_r17_b32 : r17 ≠ b32 := Nat.ne_of_lt (Nat.lt_of_lt_of_le P_28.lt (Nat.le_of_eq g32.symm))
    have ne_r19_b32 : r19 ≠ b32 := Nat.ne_of_lt (Nat.lt_of_lt_of_le P_29.lt (Nat.le_of_eq g32.symm))
    have ne_b22_b32 : b22 ≠ b32 := Nat.ne_of_lt (Nat.lt_of_lt_of_le E26.lt (Nat.le_of_eq g32.symm))
    have g_b32 : n0 ≤ b32 := Nat.le_trans Z26 (Nat.le_of_eq g32.symm)
    have Z32 : n0 ≤ h32.size := Nat.le_trans Z26 E32.1
    have Wl_33 : Wld Z h32 := Wl_27.ext E32
    have P_34 : Str Z h32 r17 (own_txt v1 v2 v3) := P_28.ext E32
    have P_35 : Str Z h32 r19 (own_txt z14 z15 z16) := P_29.ext E32
    have E_b22_36 : Exa Z h32 b22 "com/example/triview/triview/BlankNode" := E26.ext E32
    have F_b22_37 : Fld Z h32 b22 "com/example/triview/triview/BlankNode" "label" "Ljava/lang/String;" (.ref r17) := F26.ext E32
    have Sf_b32 := Safe.ext E32 CR.1 (Safe.new (Nat.le_of_eq g32.symm))
    have hk := Nat.le_trans hk E32.1
    have CR := CR.trans (CHr.ext E32 CR.1)
    have F_label_b32 : Fld Z h32 b32 "com/example/triview/triview/BlankNode" "label" "Ljava/lang/String;" .null := D32 (Or.inr (hw _ (List.mem_of_getElem? (i := 60) rfl))) (ty := (.object "java/lang/String")) (by decide)
    show Go p e below _ (T32.setTop (mkF m 152 #[.val (.int p1), .val (.int p2), .val (.int p3), .val (.int v1), .val (.int v2), .val (.int v3), .val (.int v4), .val (.int v5), .val (.int z14), .val (.int z15), .val (.int z16), .val (.ref r17), .val (.ref r19), .val (.ref b22), .val (.int v30), .unset, .unset, .unset, .unset] [(.ref b32)]))
    refine go (fun _ q => XS.dup X32.here hx rfl (hb hby at_152) rfl rfl q) ?_
    show Go p e below _ (T32.setTop (mkF m 153 #[.val (.int p1), .val (.int p2), .val (.int p3), .val (.int v1), .val (.int v2), .val (.int v3), .val (.int v4), .val (.int v5), .val (.int z14), .val (.int z15), .val (.int z16), .val (.ref r17), .val (.ref r19), .val (.ref b22), .val (.int v30), .unset, .unset, .unset, .unset] [(.ref b32), (.ref b32)]))
    refine go (fun _ q => XS.aload X32.here hx rfl (hb hby at_153) rfl rfl q) ?_
    show Go p e below _ (T32.setTop (mkF m 155 #[.val (.int p1), .val (.int p2), .val (.int p3), .val (.int v1), .val (.int v2), .val (.int v3), .val (.int v4), .val (.int v5), .val (.int z14), .val (.int z15), .val (.int z16), .val (.ref r17), .val (.ref r19), .val (.ref b22), .val (.int v30), .unset, .unset, .unset, .unset] [(.ref r19), (.ref b32), (.ref b32)]))
    refine own_callCW X32 hx hZ hown e32 hS hk hEL CR (hw _ (List.mem_of_getElem? (i := 29) rfl)) (hw _ (List.mem_of_getElem? (i := 30) rfl)) (hw _ (List.mem_of_getElem? (i := 28) rfl)) (hw _ (List.mem_of_getElem? (i := 31) rfl)) (rm5 l Z a0 hw [] b32 r19 h32 n0 Z32 g_b32 A32 F_label_b32 P_35 Wl_33) rfl (by decide) (by decide) (W := 1) (by decide) (by decide) (by decide) (a := b32) (g := (mkF m 155 #[.val (.int p1), .val (.int p2), .val (.int p3), .val (.int v1), .val (.int v2), .val (.int v3), .val (.int v4), .val (.int v5), .val (.int z14), .val (.int z15), .val (.int z16), .val (.ref r17), .val (.ref r19), .val (.ref b22), .val (.int v30), .unset, .unset, .unset, .unset] [(.ref r19), (.ref b32), (.ref b32)])) rfl (by rw [hml]; rfl) (argsL := [(.ref r19)]) (rest := [(.ref b32)]) rfl rfl (lenOf pd_0_1 rfl) (by show 2 * 0 + _ ≤ _; exact Nat.le_of_eq rfl) (hb hby at_155) ?_
    rintro _ T38 L38 vm38 kk38 X38 hS hk hZ hown CR ⟨rfl, N38q, K38, E38, F38⟩
    have N38 := Fr.app N26 N38q
    have Ex38 : Ext T26.heap T38.heap := own_extK E32 K38 (Nat.le_of_eq g32.symm)
    have Z38 : n0 ≤ T38.heap.size := Nat.le_trans Z32 K38.1
    have Wl_39 : Wld Z T38.heap := Wl_27.ext Ex38
    have P_40 : Str Z T38.heap r17 (own_txt v1 v2 v3) := P_28.ext Ex38
    have P_41 : Str Z T38.heap r19 (own_txt z14 z15 z16) := P_29.ext Ex38
    have E_b22_42 : Exa Z T38.heap b22 "com/example/triview/triview/BlankNode" := E26.ext Ex38
    have F_b22_43 : Fld Z T38.heap b22 "com/example/triview/triview/BlankNode" "label" "Ljava/lang/String;" (.ref r17) := F26.ext Ex38
    show Go p e below _ (T38.setTop (mkF m 158 #[.val (.int p1), .val (.int p2), .val (.int p3), .val (.int v1), .val (.int v2), .val (.int v3), .val (.int v4), .val (.int v5), .val (.int z14), .val (.int z15), .val (.int z16), .val (.ref r17), .val (.ref r19), .val (.ref b22), .val (.int v30), .unset, .unset, .unset, .unset] [(.ref b32)]))
    refine go (fun _ q => XS.astore X38.here hx rfl (hb hby at_158) rfl rfl (l' := #[.val (.int p1), .val (.int p2), .val (.int p3), .val (.int v1), .val (.int v2), .val (.int v3), .val (.int v4), .val (.int v5), .val (.int z14), .val (.int z15), .val (.int z16), .val (.ref r17), .val (.ref r19), .val (.ref b22), .val (.int v30), .val (.ref b32), .unset, .unset, .unset]) rfl q) ?_
    show Go p e below _ (T38.setTop (mkF m 160 #[.val (.int p1), .val (.int p2), .val (.int p3), .val (.int v1), .val (.int v2), .val (.int v3), .val (.int v4), .val (.int v5), .val (.int z14), .val (.int z15), .val (.int z16), .val (.ref r17), .val (.ref r19), .val (.ref b22), .val (.int v30), .val (.ref b32), .unset, .unset, .unset] []))
    refine go (fun _ q => XS.goto X38.here hx rfl (pc0 := 160) (pc' := 199) rfl (hb hby at_160) (by decide) (by decide) q) ?_
    show Go p e below _ (T38.setTop (mkF m 199 #[.val (.int p1), .val (.int p2), .val (.int p3), .val (.int v1), .val (.int v2), .val (.int v3), .val (.int v4), .val (.int v5), .val (.int z14), .val (.int z15), .val (.int z16), .val (.ref r17), .val (.ref r19), .val (.ref b22), .val (.int v30), .val (.ref b32), .unset, .unset, .unset] []))
    refine go (fun _ q => XS.iloadN X38.here hx rfl (hb hby at_199) rfl q) ?_
    show Go p e below _ (T38.setTop (mkF m 200 #[.val (.int p1), .val (.int p2), .val (.int p3), .val (.int v1), .val (.int v2), .val (.int v3), .val (.int v4), .val (.int v5), .val (.int z14), .val (.int z15), .val (.int z16), .val (.ref r17), .val (.ref r19), .val (.ref b22), .val (.int v30), .val (.ref b32), .unset, .unset, .unset] [(.int v1)]))
    refine go (fun _ q => XS.iload X38.here hx rfl (hb hby at_200) rfl q) ?_
    show Go p e below _ (T38.setTop (mkF m 202 #[.val (.int p1), .val (.int p2), .val (.int p3), .val (.int v1), .val (.int v2), .val (.int v3), .val (.int v4), .val (.int v5), .val (.int z14), .val (.int z15), .val (.int z16), .val (.ref r17), .val (.ref r19), .val (.ref b22), .val (.int v30), .val (.ref b32), .unset, .unset, .unset] [(.int z14), (.int v1)]))
    suffices hj44 : ∀ (z52 : Int32), z52 = (if v1 = z14 then (if v1 < (1 : Int32) then (if v1 < (2 : Int32) then (1 : Int32) else (if v3 = z16 then (1 : Int32) else (0 : Int32))) else (if v2 = z15 then (if v1 < (2 : Int32) then (1 : Int32) else (if v3 = z16 then (1 : Int32) else (0 : Int32))) else (0 : Int32))) else (0 : Int32)) → Go p e below (DnW below s Z EL1 vm0 h0 ((Q0 n0)) room_1.cells room_1.slots) (T38.setTop (mkF m 234 #[.val (.int p1), .val (.int p2), .val (.int p3), .val (.int v1), .val (.int v2), .val (.int v3), .val (.int v4), .val (.int v5), .val (.int z14), .val (.int z15), .val (.int z16), .val (.ref r17), .val (.ref r19), .val (.ref b22), .val (.int v30), .val (.ref b32), .unset, .unset, .unset] [(.int z52)])) by
      by_cases hc45 : v1 = z14
      · refine go (fun _ q => XS.icmpNo X38.here hx rfl (hb hby at_202) rfl (teq hc45).2 q) ?_
        show Go p e below _ (T38.setTop (mkF m 205 #[.val (.int p1), .val (.int p2), .val (.int p3), .val (.int v1), .val (.int v2), .val (.int v3), .val (.int v4), .val (.int v5), .val (.int z14), .val (.int z15), .val (.int z16), .val (.ref r17), .val (.ref r19), .val (.ref b22), .val (.int v30), .val (.ref b32), .unset, .unset, .unset] []))
        refine go (fun _ q => XS.iloadN X38.here hx rfl (hb hby at_205) rfl q) ?_
        show Go p e below _ (T38.setTop (mkF m 206 #[.val (.int p1), .val (.int p2), .val (.int p3), .val (.int v1), .val (.int v2), .val (.int v3), .val (.int v4), .val (.int v5), .val (.int z14), .val (.int z15), .val (.int z16), .val (.ref r17), .val (.ref r19), .val (.ref b22), .val (.int v30), .val (.ref b32), .unset, .unset, .unset] [(.int v1)]))
        refine go (fun _ q => XS.iconst X38.here hx rfl (hb hby at_206) q) ?_
        show Go p e below _ (T38.setTop (mkF m 207 #[.val (.int p1), .val (.int p2), .val (.int p3), .val (.int v1), .val (.int v2), .val (.int v3), .val (.int v4), .val (.int v5), .val (.int z14), .val (.int z15), .val (.int z16), .val (.ref r17), .val (.ref r19), .val (.ref b22), .val (.int v30), .val (.ref b32), .unset, .unset, .unset] [(.int (1 : Int32)), (.int v1)]))
        by_cases hc46 : v1 < (1 : Int32)
        · refine go (fun _ q => XS.icmpYes X38.here hx rfl (pc0 := 207) (pc' := 217) rfl (hb hby at_207) rfl (tlt hc46).1 (by decide) (by decide) q) ?_
          show Go p e below _ (T38.setTop (mkF m 217 #[.val (.int p1), .val (.int p2), .val (.int p3), .val (.int v1), .val (.int v2), .val (.int v3), .val (.int v4), .val (.int v5), .val (.int z14), .val (.int z15), .val (.int z16), .val (.ref r17), .val (.ref r19), .val (.ref b22), .val (.int v30), .val (.ref b32), .unset, .unset, .unset] []))
          refine go (fun _ q => XS.iloadN X38.here hx rfl (hb hby at_217) rfl q) ?_
          show Go p e below _ (T38.setTop (mkF m 218 #[.val (.int p1), .val (.int p2), .val (.int p3), .val (.int v1), .val (.int v2), .val (.int v3), .val (.int v4), .val (.int v5), .val (.int z14), .val (.int z15), .val (.int z16), .val (.ref r17), .val (.ref r19), .val (.ref b22), .val (.int v30), .val (.ref b32), .unset, .unset, .unset] [(.int v1)]))
          refine go (fun _ q => XS.iconst X38.here hx rfl (hb hby at_218) q) ?_
          show Go p e below _ (T38.setTop (mkF m 219 #[.val (.int p1), .val (.int p2), .val (.int p3), .val (.int v1), .val (.int v2), .val (.int v3), .val (.int v4), .val (.int v5), .val (.int z14), .val (.int z15), .val (.int z16), .val (.ref r17), .val (.ref r19), .val (.ref b22), .val (.int v30), .val (.ref b32), .unset, .unset, .unset] [(.int (2 : Int32)), (.int v1)]))
          by_cases hc47 : v1 < (2 : Int32)
          · refine go (fun _ q => XS.icmpYes X38.here hx rfl (pc0 := 219) (pc' := 229) rfl (hb hby at_219) rfl (tlt hc47).1 (by decide) (by decide) q) ?_
            show Go p e below _ (T38.setTop (mkF m 229 #[.val (.int p1), .val (.int p2), .val (.int p3), .val (.int v1), .val (.int v2), .val (.int v3), .val (.int v4), .val (.int v5), .val (.int z14), .val (.int z15), .val (.int z16), .val (.ref r17), .val (.ref r19), .val (.ref b22), .val (.int v30), .val (.ref b32), .unset, .unset, .unset] []))
            refine go (fun _ q => XS.iconst X38.here hx rfl (hb hby at_229) q) ?_
            show Go p e below _ (T38.setTop (mkF m 230 #[.val (.int p1), .val (.int p2), .val (.int p3), .val (.int v1), .val (.int v2), .val (.int v3), .val (.int v4), .val (.int v5), .val (.int z14), .val (.int z15), .val (.int z16), .val (.ref r17), .val (.ref r19), .val (.ref b22), .val (.int v30), .val (.ref b32), .unset, .unset, .unset] [(.int (1 : Int32))]))
            refine go (fun _ q => XS.goto X38.here hx rfl (pc0 := 230) (pc' := 234) rfl (hb hby at_230) (by decide) (by decide) q) ?_
            show Go p e below _ (T38.setTop (mkF m 234 #[.val (.int p1), .val (.int p2), .val (.int p3), .val (.int v1), .val (.int v2), .val (.int v3), .val (.int v4), .val (.int v5), .val (.int z14), .val (.int z15), .val (.int z16), .val (.ref r17), .val (.ref r19), .val (.ref b22), .val (.int v30), .val (.ref b32), .unset, .unset, .unset] [(.int (1 : Int32))]))
            exact hj44 _ (by rw [if_pos hc45, if_pos hc46, if_pos hc47])
          · refine go (fun _ q => XS.icmpNo X38.here hx rfl (hb hby at_219) rfl (flt hc47).1 q) ?_
            show Go p e below _ (T38.setTop (mkF m 222 #[.val (.int p1), .val (.int p2), .val (.int p3), .val (.int v1), .val (.int v2), .val (.int v3), .val (.int v4), .val (.int v5), .val (.int z14), .val (.int z15), .val (.int z16), .val (.ref r17), .val (.ref r19), .val (.ref b22), .val (.int v30), .val (.ref b32), .unset, .unset, .unset] []))
            refine go (fun _ q => XS.iload X38.here hx rfl (hb hby at_222) rfl q) ?_
            show Go p e below _ (T38.setTop (mkF m 224 #[.val (.int p1), .val (.int p2), .val (.int p3), .val (.int v1), .val (.int v2), .val (.int v3), .val (.int v4), .val (.int v5), .val (.int z14), .val (.int z15), .val (.int z16), .val (.ref r17), .val (.ref r19), .val (.ref b22), .val (.int v30), .val (.ref b32), .unset, .unset, .unset] [(.int v3)]))
            refine go (fun _ q => XS.iload X38.here hx rfl (hb hby at_224) rfl q) ?_
            show Go p e below _ (T38.setTop (mkF m 226 #[.val (.int p1), .val (.int p2), .val (.int p3), .val (.int v1), .val (.int v2), .val (.int v3), .val (.int v4), .val (.int v5), .val (.int z14), .val (.int z15), .val (.int z16), .val (.ref r17), .val (.ref r19), .val (.ref b22), .val (.int v30), .val (.ref b32), .unset, .unset, .unset] [(.int z16), (.int v3)]))
            by_cases hc48 : v3 = z16
            · refine go (fun _ q => XS.icmpNo X38.here hx rfl (hb hby at_226) rfl (teq hc48).2 q) ?_
              show Go p e below _ (T38.setTop (mkF m 229 #[.val (.int p1), .val (.int p2), .val (.int p3), .val (.int v1), .val (.int v2), .val (.int v3), .val (.int v4), .val (.int v5), .val (.int z14), .val (.int z15), .val (.int z16), .val (.ref r17), .val (.ref r19), .val (.ref b22), .val (.int v30), .val (.ref b32), .unset, .unset, .unset] []))
              refine go (fun _ q => XS.iconst X38.here hx rfl (hb hby at_229) q) ?_
              show Go p e below _ (T38.setTop (mkF m 230 #[.val (.int p1), .val (.int p2), .val (.int p3), .val (.int v1), .val (.int v2), .val (.int v3), .val (.int v4), .val (.int v5), .val (.int z14), .val (.int z15), .val (.int z16), .val (.ref r17), .val (.ref r19), .val (.ref b22), .val (.int v30), .val (.ref b32), .unset, .unset, .unset] [(.int (1 : Int32))]))
              refine go (fun _ q => XS.goto X38.here hx rfl (pc0 := 230) (pc' := 234) rfl (hb hby at_230) (by decide) (by decide) q) ?_
              show Go p e below _ (T38.setTop (mkF m 234 #[.val (.int p1), .val (.int p2), .val (.int p3), .val (.int v1), .val (.int v2), .val (.int v3), .val (.int v4), .val (.int v5), .val (.int z14), .val (.int z15), .val (.int z16), .val (.ref r17), .val (.ref r19), .val (.ref b22), .val (.int v30), .val (.ref b32), .unset, .unset, .unset] [(.int (1 : Int32))]))
              exact hj44 _ (by rw [if_pos hc45, if_pos hc46, if_neg hc47, if_pos hc48])
            · refine go (fun _ q => XS.icmpYes X38.here hx rfl (pc0 := 226) (pc' := 233) rfl (hb hby at_226) rfl (feq hc48).2 (by decide) (by decide) q) ?_
              show Go p e below _ (T38.setTop (mkF m 233 #[.val (.int p1), .val (.int p2), .val (.int p3), .val (.int v1), .val (.int v2), .val (.int v3), .val (.int v4), .val (.int v5), .val (.int z14), .val (.int z15), .val (.int z16), .val (.ref r17), .val (.ref r19), .val (.ref b22), .val (.int v30), .val (.ref b32), .unset, .unset, .unset] []))
              refine go (fun _ q => XS.iconst X38.here hx rfl (hb hby at_233) q) ?_
              show Go p e below _ (T38.setTop (mkF m 234 #[.val (.int p1), .val (.int p2), .val (.int p3), .val (.int v1), .val (.int v2), .val (.int v3), .val (.int v4), .val (.int v5), .val (.int z14), .val (.int z15), .val (.int z16), .val (.ref r17), .val (.ref r19), .val (.ref b22), .val (.int v30), .val (.ref b32), .unset, .unset, .unset] [(.int (0 : Int32))]))
              exact hj44 _ (by rw [if_pos hc45, if_pos hc46, if_neg hc47, if_neg hc48])
        · refine go (fun _ q => XS.icmpNo X38.here hx rfl (hb hby at_207) rfl (flt hc46).1 q) ?_
          show Go p e below _ (T38.setTop (mkF m 210 #[.val (.int p1), .val (.int p2), .val (.int p3), .val (.int v1), .val (.int v2), .val (.int v3), .val (.int v4), .val (.int v5), .val (.int z14), .val (.int z15), .val (.int z16), .val (.ref r17), .val (.ref r19), .val (.ref b22), .val (.int v30), .val (.ref b32), .unset, .unset, .unset] []))
          refine go (fun _ q => XS.iload X38.here hx rfl (hb hby at_210) rfl q) ?_
          show Go p e below _ (T38.setTop (mkF m 212 #[.val (.int p1), .val (.int p2), .val (.int p3), .val (.int v1), .val (.int v2), .val (.int v3), .val (.int v4), .val (.int v5), .val (.int z14), .val (.int z15), .val (.int z16), .val (.ref r17), .val (.ref r19), .val (.ref b22), .val (.int v30), .val (.ref b32), .unset, .unset, .unset] [(.int v2)]))
          refine go (fun _ q => XS.iload X38.here hx rfl (hb hby at_212) rfl q) ?_
          show Go p e below _ (T38.setTop (mkF m 214 #[.val (.int p1), .val (.int p2), .val (.int p3), .val (.int v1), .val (.int v2), .val (.int v3), .val (.int v4), .val (.int v5), .val (.int z14), .val (.int z15), .val (.int z16), .val (.ref r17), .val (.ref r19), .val (.ref b22), .val (.int v30), .val (.ref b32), .unset, .unset, .unset] [(.int z15), (.int v2)]))
          by_cases hc49 : v2 = z15
          · refine go (fun _ q => XS.icmpNo X38.here hx rfl (hb hby at_214) rfl (teq hc49).2 q) ?_
            show Go p e below _ (T38.setTop (mkF m 217 #[.val (.int p1), .val (.int p2), .val (.int p3), .val (.int v1), .val (.int v2), .val (.int v3), .val (.int v4), .val (.int v5), .val (.int z14), .val (.int z15), .val (.int z16), .val (.ref r17), .val (.ref r19), .val (.ref b22), .val (.int v30), .val (.ref b32), .unset, .unset, .unset] []))
            refine go (fun _ q => XS.iloadN X38.here hx rfl (hb hby at_217) rfl q) ?_
            show Go p e below _ (T38.setTop (mkF m 218 #[.val (.int p1), .val (.int p2), .val (.int p3), .val (.int v1), .val (.int v2), .val (.int v3), .val (.int v4), .val (.int v5), .val (.int z14), .val (.int z15), .val (.int z16), .val (.ref r17), .val (.ref r19), .val (.ref b22), .val (.int v30), .val (.ref b32), .unset, .unset, .unset] [(.int v1)]))
            refine go (fun _ q => XS.iconst X38.here hx rfl (hb hby at_218) q) ?_
            show Go p e below _ (T38.setTop (mkF m 219 #[.val (.int p1), .val (.int p2), .val (.int p3), .val (.int v1), .val (.int v2), .val (.int v3), .val (.int v4), .val (.int v5), .val (.int z14), .val (.int z15), .val (.int z16), .val (.ref r17), .val (.ref r19), .val (.ref b22), .val (.int v30), .val (.ref b32), .unset, .unset, .unset] [(.int (2 : Int32)), (.int v1)]))
            by_cases hc50 : v1 < (2 : Int32)
            · refine go (fun _ q => XS.icmpYes X38.here hx rfl (pc0 := 219) (pc' := 229) rfl (hb hby at_219) rfl (tlt hc50).1 (by decide) (by decide) q) ?_
              show Go p e below _ (T38.setTop (mkF m 229 #[.val (.int p1), .val (.int p2), .val (.int p3), .val (.int v1), .val (.int v2), .val (.int v3), .val (.int v4), .val (.int v5), .val (.int z14), .val (.int z15), .val (.int z16), .val (.ref r17), .val (.ref r19), .val (.ref b22), .val (.int v30), .val (.ref b32), .unset, .unset, .unset] []))
              refine go (fun _ q => XS.iconst X38.here hx rfl (hb hby at_229) q) ?_
              show Go p e below _ (T38.setTop (mkF m 230 #[.val (.int p1), .val (.int p2), .val (.int p3), .val (.int v1), .val (.int v2), .val (.int v3), .val (.int v4), .val (.int v5), .val (.int z14), .val (.int z15), .val (.int z16), .val (.ref r17), .val (.ref r19), .val (.ref b22), .val (.int v30), .val (.ref b32), .unset, .unset, .unset] [(.int (1 : Int32))]))
              refine go (fun _ q => XS.goto X38.here hx rfl (pc0 := 230) (pc' := 234) rfl (hb hby at_230) (by decide) (by decide) q) ?_
              show Go p e below _ (T38.setTop (mkF m 234 #[.val (.int p1), .val (.int p2), .val (.int p3), .val (.int v1), .val (.int v2), .val (.int v3), .val (.int v4), .val (.int v5), .val (.int z14), .val (.int z15), .val (.int z16), .val (.ref r17), .val (.ref r19), .val (.ref b22), .val (.int v30), .val (.ref b32), .unset, .unset, .unset] [(.int (1 : Int32))]))
              exact hj44 _ (by rw [if_pos hc45, if_neg hc46, if_pos hc49, if_pos hc50])
            · refine go (fun _ q => XS.icmpNo X38.here hx rfl (hb hby at_219) rfl (flt hc50).1 q) ?_
              show Go p e below _ (T38.setTop (mkF m 222 #[.val (.int p1), .val (.int p2), .val (.int p3), .val (.int v1), .val (.int v2), .val (.int v3), .val (.int v4), .val (.int v5), .val (.int z14), .val (.int z15), .val (.int z16), .val (.ref r17), .val (.ref r19), .val (.ref b22), .val (.int v30), .val (.ref b32), .unset, .unset, .unset] []))
              refine go (fun _ q => XS.iload X38.here hx rfl (hb hby at_222) rfl q) ?_
              show Go p e below _ (T38.setTop (mkF m 224 #[.val (.int p1), .val (.int p2), .val (.int p3), .val (.int v1), .val (.int v2), .val (.int v3), .val (.int v4), .val (.int v5), .val (.int z14), .val (.int z15), .val (.int z16), .val (.ref r17), .val (.ref r19), .val (.ref b22), .val (.int v30), .val (.ref b32), .unset, .unset, .unset] [(.int v3)]))
              refine go (fun _ q => XS.iload X38.here hx rfl (hb hby at_224) rfl q) ?_
              show Go p e below _ (T38.setTop (mkF m 226 #[.val (.int p1), .val (.int p2), .val (.int p3), .val (.int v1), .val (.int v2), .val (.int v3), .val (.int v4), .val (.int v5), .val (.int z14), .val (.int z15), .val (.int z16), .val (.ref r17), .val (.ref r19), .val (.ref b22), .val (.int v30), .val (.ref b32), .unset, .unset, .unset] [(.int z16), (.int v3)]))
              by_cases hc51 : v3 = z16
              · refine go (fun _ q => XS.icmpNo X38.here hx rfl (hb hby at_226) rfl (teq hc51).2 q) ?_
                show Go p e below _ (T38.setTop (mkF m 229 #[.val (.int p1), .val (.int p2), .val (.int p3), .val (.int v1), .val (.int v2), .val (.int v3), .val (.int v4), .val (.int v5), .val (.int z14), .val (.int z15), .val (.int z16), .val (.ref r17), .val (.ref r19), .val (.ref b22), .val (.int v30), .val (.ref b32), .unset, .unset, .unset] []))
                refine go (fun _ q => XS.iconst X38.here hx rfl (hb hby at_229) q) ?_
                show Go p e below _ (T38.setTop (mkF m 230 #[.val (.int p1), .val (.int p2), .val (.int p3), .val (.int v1), .val (.int v2), .val (.int v3), .val (.int v4), .val (.int v5), .val (.int z14), .val (.int z15), .val (.int z16), .val (.ref r17), .val (.ref r19), .val (.ref b22), .val (.int v30), .val (.ref b32), .unset, .unset, .unset] [(.int (1 : Int32))]))
                refine go (fun _ q => XS.goto X38.here hx rfl (pc0 := 230) (pc' := 234) rfl (hb hby at_230) (by decide) (by decide) q) ?_
                show Go p e below _ (T38.setTop (mkF m 234 #[.val (.int p1), .val (.int p2), .val (.int p3), .val (.int v1), .val (.int v2), .val (.int v3), .val (.int v4), .val (.int v5), .val (.int z14), .val (.int z15), .val (.int z16), .val (.ref r17), .val (.ref r19), .val (.ref b22), .val (.int v30), .val (.ref b32), .unset, .unset, .unset] [(.int (1 : Int32))]))
                exact hj44 _ (by rw [if_pos hc45, if_neg hc46, if_pos hc49, if_neg hc50, if_pos hc51])
              · refine go (fun _ q => XS.icmpYes X38.here hx rfl (pc0 := 226) (pc' := 233) rfl (hb hby at_226) rfl (feq hc51).2 (by decide) (by decide) q) ?_
                show Go p e below _ (T38.setTop (mkF m 233 #[.val (.int p1), .val (.int p2), .val (.int p3), .val (.int v1), .val (.int v2), .val (.int v3), .val (.int v4), .val (.int v5), .val (.int z14), .val (.int z15), .val (.int z16), .val (.ref r17), .val (.ref r19), .val (.ref b22), .val (.int v30), .val (.ref b32), .unset, .unset, .unset] []))
                refine go (fun _ q => XS.iconst X38.here hx rfl (hb hby at_233) q) ?_
                show Go p e below _ (T38.setTop (mkF m 234 #[.val (.int p1), .val (.int p2), .val (.int p3), .val (.int v1), .val (.int v2), .val (.int v3), .val (.int v4), .val (.int v5), .val (.int z14), .val (.int z15), .val (.int z16), .val (.ref r17), .val (.ref r19), .val (.ref b22), .val (.int v30), .val (.ref b32), .unset, .unset, .unset] [(.int (0 : Int32))]))
                exact hj44 _ (by rw [if_pos hc45, if_neg hc46, if_pos hc49, if_neg hc50, if_neg hc51])
          · refine go (fun _ q => XS.icmpYes X38.here hx rfl (pc0 := 214) (pc' := 233) rfl (hb hby at_214) rfl (feq hc49).2 (by decide) (by decide) q) ?_
            show Go p e below _ (T38.setTop (mkF m 233 #[.val (.int p1), .val (.int p2), .val (.int p3), .val (.int v1), .val (.int v2), .val (.int v3), .val (.int v4), .val (.int v5), .val (.int z14), .val (.int z15), .val (.int z16), .val (.ref r17), .val (.ref r19), .val (.ref b22), .val (.int v30), .val (.ref b32), .unset, .unset, .unset] []))
            refine go (fun _ q => XS.iconst X38.here hx rfl (hb hby at_233) q) ?_
            show Go p e below _ (T38.setTop (mkF m 234 #[.val (.int p1), .val (.int p2), .val (.int p3), .val (.int v1), .val (.int v2), .val (.int v3), .val (.int v4), .val (.int v5), .val (.int z14), .val (.int z15), .val (.int z16), .val (.ref r17), .val (.ref r19), .val (.ref b22), .val (.int v30), .val (.ref b32), .unset, .unset, .unset] [(.int (0 : Int32))]))
            exact hj44 _ (by rw [if_pos hc45, if_neg hc46, if_neg hc49])
      · refine go (fun _ q => XS.icmpYes X38.here hx rfl (pc0 := 202) (pc' := 233) rfl (hb hby at_202) rfl (feq hc45).2 (by decide) (by decide) q) ?_
        show Go p e below _ (T38.setTop (mkF m 233 #[.val (.int p1), .val (.int p2), .val (.int p3), .val (.int v1), .val (.int v2), .val (.int v3), .val (.int v4), .val (.int v5), .val (.int z14), .val (.int z15), .val (.int z16), .val (.ref r17), .val (.ref r19), .val (.ref b22), .val (.int v30), .val (.ref b32), .unset, .unset, .unset] []))
        refine go (fun _ q => XS.iconst X38.here hx rfl (hb hby at_233) q) ?_
        show Go p e below _ (T38.setTop (mkF m 234 #[.val (.int p1), .val (.int p2), .val (.int p3), .val (.int v1), .val (.int v2), .val (.int v3), .val (.int v4), .val (.int v5), .val (.int z14), .val (.int z15), .val (.int z16), .val (.ref r17), .val (.ref r19), .val (.ref b22), .val (.int v30), .val (.ref b32), .unset, .unset, .unset] [(.int (0 : Int32))]))
        exact hj44 _ (by rw [if_neg hc45])
    intro z52 hz52
    show Go p e below _ (T38.setTop (mkF m 234 #[.val (.int p1), .val (.int p2), .val (.int p3), .val (.int v1), .val (.int v2), .val (.int v3), .val (.int v4), .val (.int v5), .val (.int z14), .val (.int z15), .val (.int z16), .val (.ref r17), .val (.ref r19), .val (.ref b22), .val (.int v30), .val (.ref b32), .unset, .unset, .unset] [(.int z52)]))
    refine go (fun _ q => XS.istore X38.here hx rfl (hb hby at_234) rfl (l' := #[.val (.int p1), .val (.int p2), .val (.int p3), .val (.int v1), .val (.int v2), .val (.int v3), .val (.int v4), .val (.int v5), .val (.int z14), .val (.int z15), .val (.int z16), .val (.ref r17), .val (.ref r19), .val (.ref b22), .val (.int v30), .val (.ref b32), .val (.int z52), .unset, .unset]) rfl q) ?_
    show Go p e below _ (T38.setTop (mkF m 236 #[.val (.int p1), .val (.int p2), .val (.int p3), .val (.int v1), .val (.int v2), .val (.int v3), .val (.int v4), .val (.int v5), .val (.int z14), .val (.int z15), .val (.int z16), .val (.ref r17), .val (.ref r19), .val (.ref b22), .val (.int v30), .val (.ref b32), .val (.int z52), .unset, .unset] []))
    refine go (fun _ q => XS.iload X38.here hx rfl (hb hby at_236) rfl q) ?_
    show Go p e below _ (T38.setTop (mkF m 238 #[.val (.int p1), .val (.int p2), .val (.int p3), .val (.int v1), .val (.int v2), .val (.int v3), .val (.int v4), .val (.int v5), .val (.int z14), .val (.int z15), .val (.int z16), .val (.ref r17), .val (.ref r19), .val (.ref b22), .val (.int v30), .val (.ref b32), .val (.int z52), .unset, .unset] [(.int v30)]))
    refine go (fun _ q => XS.ifNo X38.here hx rfl (hb hby at_238) rfl ((if0 _ _).trans (teq hc31).2) q) ?_
    show Go p e below _ (T38.setTop (mkF m 241 #[.val (.int p1), .val (.int p2), .val (.int p3), .val (.int v1), .val (.int v2), .val (.int v3), .val (.int v4), .val (.int v5), .val (.int z14), .val (.int z15), .val (.int z16), .val (.ref r17), .val (.ref r19), .val (.ref b22), .val (.int v30), .val (.ref b32), .val (.int z52), .unset, .unset] []))
    refine go (fun _ q => XS.iload X38.here hx rfl (hb hby at_241) rfl q) ?_
    show Go p e below _ (T38.setTop (mkF m 243 #[.val (.int p1), .val (.int p2), .val (.int p3), .val (.int v1), .val (.int v2), .val (.int v3), .val (.int v4), .val (.int v5), .val (.int z14), .val (.int z15), .val (.int z16), .val (.ref r17), .val (.ref r19), .val (.ref b22), .val (.int v30), .val (.ref b32), .val (.int z52), .unset, .unset] [(.int z52)]))
    suffices hj53 : ∀ (z55 : Int32), z55 = (if z52 = (0 : Int32) then (0 : Int32) else (1 : Int32)) → Go p e below (DnW below s Z EL1 vm0 h0 ((Q0 n0)) room_1.cells room_1.slots) (T38.setTop (mkF m 251 #[.val (.int p1), .val (.int p2), .val (.int p3), .val (.int v1), .val (.int v2), .val (.int v3), .val (.int v4), .val (.int v5), .val (.int z14), .val (.int z15), .val (.int z16), .val (.ref r17), .val (.ref r19), .val (.ref b22), .val (.int v30), .val (.ref b32), .val (.int z52), .unset, .unset] [(.int z55)])) by
      by_cases hc54 : z52 = (0 : Int32)
      · refine go (fun _ q => XS.ifYes X38.here hx rfl (pc0 := 243) (pc' := 250) rfl (hb hby at_243) rfl ((if0 _ _).trans (teq hc54).1) (by decide) (by decide) q) ?_
        show Go p e below _ (T38.setTop (mkF m 250 #[.val (.int p1), .val (.int p2), .val (.int p3), .val (.int v1), .val (.int v2), .val (.int v3), .val (.int v4), .val (.int v5), .val (.int z14), .val (.int z15), .val (.int z16), .val (.ref r17), .val (.ref r19), .val (.ref b22), .val (.int v30), .val (.ref b32), .val (.int z52), .unset, .unset] []))
        refine go (fun _ q => XS.iconst X38.here hx rfl (hb hby at_250) q) ?_
        show Go p e below _ (T38.setTop (mkF m 251 #[.val (.int p1), .val (.int p2), .val (.int p3), .val (.int v1), .val (.int v2), .val (.int v3), .val (.int v4), .val (.int v5), .val (.int z14), .val (.int z15), .val (.int z16), .val (.ref r17), .val (.ref r19), .val (.ref b22), .val (.int v30), .val (.ref b32), .val (.int z52), .unset, .unset] [(.int (0 : Int32))]))
        exact hj53 _ (by rw [if_pos hc54])
      · refine go (fun _ q => XS.ifNo X38.here hx rfl (hb hby at_243) rfl ((if0 _ _).trans (feq hc54).1) q) ?_
        show Go p e below _ (T38.setTop (mkF m 246 #[.val (.int p1), .val (.int p2), .val (.int p3), .val (.int v1), .val (.int v2), .val (.int v3), .val (.int v4), .val (.int v5), .val (.int z14), .val (.int z15), .val (.int z16), .val (.ref r17), .val (.ref r19), .val (.ref b22), .val (.int v30), .val (.ref b32), .val (.int z52), .unset, .unset] []))
        refine go (fun _ q => XS.iconst X38.here hx rfl (hb hby at_246) q) ?_
        show Go p e below _ (T38.setTop (mkF m 247 #[.val (.int p1), .val (.int p2), .val (.int p3), .val (.int v1), .val (.int v2), .val (.int v3), .val (.int v4), .val (.int v5), .val (.int z14), .val (.int z15), .val (.int z16), .val (.ref r17), .val (.ref r19), .val (.ref b22), .val (.int v30), .val (.ref b32), .val (.int z52), .unset, .unset] [(.int (1 : Int32))]))
        refine go (fun _ q => XS.goto X38.here hx rfl (pc0 := 247) (pc' := 251) rfl (hb hby at_247) (by decide) (by decide) q) ?_
        show Go p e below _ (T38.setTop (mkF m 251 #[.val (.int p1), .val (.int p2), .val (.int p3), .val (.int v1), .val (.int v2), .val (.int v3), .val (.int v4), .val (.int v5), .val (.int z14), .val (.int z15), .val (.int z16), .val (.ref r17), .val (.ref r19), .val (.ref b22), .val (.int v30), .val (.ref b32), .val (.int z52), .unset, .unset] [(.int (1 : Int32))]))
        exact hj53 _ (by rw [if_neg hc54])
    intro z55 hz55
    show Go p e below _ (T38.setTop (mkF m 251 #[.val (.int p1), .val (.int p2), .val (.int p3), .val (.int v1), .val (.int v2), .val (.int v3), .val (.int v4), .val (.int v5), .val (.int z14), .val (.int z15), .val (.int z16), .val (.ref r17), .val (.ref r19), .val (.ref b22), .val (.int v30), .val (.ref b32), .val (.int z52), .unset, .unset] [(.int z55)]))
    refine go (fun _ q => XS.istore X38.here hx rfl (hb hby at_251) rfl (l' := #[.val (.int p1), .val (.int p2), .val (.int p3), .val (.int v1), .val (.int v2), .val (.int v3), .val (.int v4), .val (.int v5), .val (.int z14), .val (.int z15), .val (.int z16), .val (.ref r17), .val (.ref r19), .val (.ref b22), .val (.int v30), .val (.ref b32), .val (.int z52), .val (.int z55), .unset]) rfl q) ?_
    show Go p e below _ (T38.setTop (mkF m 253 #[.val (.int p1), .val (.int p2), .val (.int p3), .val (.int v1), .val (.int v2), .val (.int v3), .val (.int v4), .val (.int v5), .val (.int z14), .val (.int z15), .val (.int z16), .val (.ref r17), .val (.ref r19), .val (.ref b22), .val (.int v30), .val (.ref b32), .val (.int z52), .val (.int z55), .unset] []))
    refine go (fun _ q => XS.aload X38.here hx rfl (hb hby at_253) rfl rfl q) ?_
    show Go p e below _ (T38.setTop (mkF m 255 #[.val (.int p1), .val (.int p2), .val (.int p3), .val (.int v1), .val (.int v2), .val (.int v3), .val (.int v4), .val (.int v5), .val (.int z14), .val (.int z15), .val (.int z16), .val (.ref r17), .val (.ref r19), .val (.ref b22), .val (.int v30), .val (.ref b32), .val (.int z52), .val (.int z55), .unset] [(.ref b22)]))
    refine go (fun _ q => XS.aload X38.here hx rfl (hb hby at_255) rfl rfl q) ?_
    show Go p e below _ (T38.setTop (mkF m 257 #[.val (.int p1), .val (.int p2), .val (.int p3), .val (.int v1), .val (.int v2), .val (.int v3), .val (.int v4), .val (.int v5), .val (.int z14), .val (.int z15), .val (.int z16), .val (.ref r17), .val (.ref r19), .val (.ref b22), .val (.int v30), .val (.ref b32), .val (.int z52), .val (.int z55), .unset] [(.ref b32), (.ref b22)]))
    refine own_callV X38 hx hZ hown rfl (hw _ (List.mem_of_getElem? (i := 61) rfl)) (hw _ (List.mem_of_getElem? (i := 62) rfl)) (hw _ (List.mem_of_getElem? (i := 63) rfl)) (hw _ (List.mem_of_getElem? (i := 64) rfl)) (hw _ (List.mem_of_getElem? (i := 28) rfl)) (hw _ (List.mem_of_getElem? (i := 65) rfl)) (rmEB l Z a0 hw [] b22 b32 T38.heap n0 F_b22_43 E38 F38 P_40 P_41 Wl_39) (by decide) (by decide) (W := 0) (by decide) (by decide) (by decide) (a := b22) E_b22_42 (g := (mkF m 257 #[.val (.int p1), .val (.int p2), .val (.int p3), .val (.int v1), .val (.int v2), .val (.int v3), .val (.int v4), .val (.int v5), .val (.int z14), .val (.int z15), .val (.int z16), .val (.ref r17), .val (.ref r19), .val (.ref b22), .val (.int v30), .val (.ref b32), .val (.int z52), .val (.int z55), .unset] [(.ref b32), (.ref b22)])) rfl (by rw [hml]; rfl) (argsL := [(.ref b32)]) (rest := []) rfl rfl (lenOf pd_0_2 rfl) (by show 2 * 0 + _ ≤ _; exact Nat.le_of_eq rfl) (hb hby at_257) ?_
    rintro _ T56 L56 X56 ⟨rfl, N56q, e56⟩
    have N56 := Fr.app N38 N56q
    show Go p e below _ (T56.setTop (mkF m 260 #[.val (.int p1), .val (.int p2), .val (.int p3), .val (.int v1), .val (.int v2), .val (.int v3), .val (.int v4), .val (.int v5), .val (.int z14), .val (.int z15), .val (.int z16), .val (.ref r17), .val (.ref r19), .val (.ref b22), .val (.int v30), .val (.ref b32), .val (.int z52), .val (.int z55), .unset] [(.int (if (own_txt v1 v2 v3) = (own_txt z14 z15 z16) then (1 : Int32) else 0))]))
    generalize hv57 : (if (own_txt v1 v2 v3) = (own_txt z14 z15 z16) then (1 : Int32) else 0) = v57
    show Go p e below _ (T56.setTop (mkF m 260 #[.val (.int p1), .val (.int p2), .val (.int p3), .val (.int v1), .val (.int v2), .val (.int v3), .val (.int v4), .val (.int v5), .val (.int z14), .val (.int z15), .val (.int z16), .val (.ref r17), .val (.ref r19), .val (.ref b22), .val (.int v30), .val (.ref b32), .val (.int z52), .val (.int z55), .unset] [(.int v57)]))
    refine go (fun _ q => XS.istore X56.here hx rfl (hb hby at_260) rfl (l' := #[.val (.int p1), .val (.int p2), .val (.int p3), .val (.int v1), .val (.int v2), .val (.int v3), .val (.int v4), .val (.int v5), .val (.int z14), .val (.int z15), .val (.int z16), .val (.ref r17), .val (.ref r19), .val (.ref b22), .val (.int v30), .val (.ref b32), .val (.int z52), .val (.int z55), .val (.int v57)]) rfl q) ?_
    show Go p e below _ (T56.setTop (mkF m 262 #[.val (.int p1), .val (.int p2), .val (.int p3), .val (.int v1), .val (.int v2), .val (.int v3), .val (.int v4), .val (.int v5), .val (.int z14), .val (.int z15), .val (.int z16), .val (.ref r17), .val (.ref r19), .val (.ref b22), .val (.int v30), .val (.ref b32), .val (.int z52), .val (.int z55), .val (.int v57)] []))
    refine go (fun _ q => XS.iload X56.here hx rfl (hb hby at_262) rfl q) ?_
    show Go p e below _ (T56.setTop (mkF m 264 #[.val (.int p1), .val (.int p2), .val (.int p3), .val (.int v1), .val (.int v2), .val (.int v3), .val (.int v4), .val (.int v5), .val (.int z14), .val (.int z15), .val (.int z16), .val (.ref r17), .val (.ref r19), .val (.ref b22), .val (.int v30), .val (.ref b32), .val (.int z52), .val (.int z55), .val (.int v57)] [(.int v30)]))
    refine go (fun _ q => XS.ifNo X56.here hx rfl (hb hby at_264) rfl ((if0 _ _).trans (teq hc31).2) q) ?_
    show Go p e below _ (T56.setTop (mkF m 267 #[.val (.int p1), .val (.int p2), .val (.int p3), .val (.int v1), .val (.int v2), .val (.int v3), .val (.int v4), .val (.int v5), .val (.int z14), .val (.int z15), .val (.int z16), .val (.ref r17), .val (.ref r19), .val (.ref b22), .val (.int v30), .val (.ref b32), .val (.int z52), .val (.int z55), .val (.int v57)] []))
    refine go (fun _ q => XS.iload X56.here hx rfl (hb hby at_267) rfl q) ?_
    show Go p e below _ (T56.setTop (mkF m 269 #[.val (.int p1), .val (.int p2), .val (.int p3), .val (.int v1), .val (.int v2), .val (.int v3), .val (.int v4), .val (.int v5), .val (.int z14), .val (.int z15), .val (.int z16), .val (.ref r17), .val (.ref r19), .val (.ref b22), .val (.int v30), .val (.ref b32), .val (.int z52), .val (.int z55), .val (.int v57)] [(.int v57)]))
    refine go (fun _ q => XS.iload X56.here hx rfl (hb hby at_269) rfl q) ?_
    show Go p e below _ (T56.setTop (mkF m 271 #[.val (.int p1), .val (.int p2), .val (.int p3), .val (.int v1), .val (.int v2), .val (.int v3), .val (.int v4), .val (.int v5), .val (.int z14), .val (.int z15), .val (.int z16), .val (.ref r17), .val (.ref r19), .val (.ref b22), .val (.int v30), .val (.ref b32), .val (.int z52), .val (.int z55), .val (.int v57)] [(.int z55), (.int v57)]))
    have hk58 : v57 = z55 := by rw [← hv57, hz55, hz52]; exact own_fin ra rb
    refine go (fun _ q => XS.icmpNo X56.here hx rfl (hb hby at_271) rfl (teq hk58).2 q) ?_
    show Go p e below _ (T56.setTop (mkF m 274 #[.val (.int p1), .val (.int p2), .val (.int p3), .val (.int v1), .val (.int v2), .val (.int v3), .val (.int v4), .val (.int v5), .val (.int z14), .val (.int z15), .val (.int z16), .val (.ref r17), .val (.ref r19), .val (.ref b22), .val (.int v30), .val (.ref b32), .val (.int z52), .val (.int z55), .val (.int v57)] []))
    refine go (fun _ q => XS.aload X56.here hx rfl (hb hby at_274) rfl rfl q) ?_
    show Go p e below _ (T56.setTop (mkF m 276 #[.val (.int p1), .val (.int p2), .val (.int p3), .val (.int v1), .val (.int v2), .val (.int v3), .val (.int v4), .val (.int v5), .val (.int z14), .val (.int z15), .val (.int z16), .val (.ref r17), .val (.ref r19), .val (.ref b22), .val (.int v30), .val (.ref b32), .val (.int z52), .val (.int z55), .val (.int v57)] [(.ref b32)]))
    obtain ⟨T59, X59, e59, st59⟩ := castY X56 hx hZ hown (hw _ (List.mem_of_getElem? (i := 26) rfl)) e56 (Ins.self E38) (g := (mkF m 276 #[.val (.int p1), .val (.int p2), .val (.int p3), .val (.int v1), .val (.int v2), .val (.int v3), .val (.int v4), .val (.int v5), .val (.int z14), .val (.int z15), .val (.int z16), .val (.ref r17), .val (.ref r19), .val (.ref b22), .val (.int v30), .val (.ref b32), .val (.int z52), .val (.int z55), .val (.int v57)] [(.ref b32)])) rfl rfl (hb hby at_276)
    refine go st59 ?_
    show Go p e below _ (T59.setTop (mkF m 279 #[.val (.int p1), .val (.int p2), .val (.int p3), .val (.int v1), .val (.int v2), .val (.int v3), .val (.int v4), .val (.int v5), .val (.int z14), .val (.int z15), .val (.int z16), .val (.ref r17), .val (.ref r19), .val (.ref b22), .val (.int v30), .val (.ref b32), .val (.int z52), .val (.int z55), .val (.int v57)] [(.ref b32)]))
    refine go (fun _ q => XS.aload X59.here hx rfl (hb hby at_279) rfl rfl q) ?_
    show Go p e below _ (T59.setTop (mkF m 281 #[.val (.int p1), .val (.int p2), .val (.int p3), .val (.int v1), .val (.int v2), .val (.int v3), .val (.int v4), .val (.int v5), .val (.int z14), .val (.int z15), .val (.int z16), .val (.ref r17), .val (.ref r19), .val (.ref b22), .val (.int v30), .val (.ref b32), .val (.int z52), .val (.int z55), .val (.int v57)] [(.ref b22), (.ref b32)]))
    refine own_callV X59 hx hZ hown e59 (hw _ (List.mem_of_getElem? (i := 61) rfl)) (hw _ (List.mem_of_getElem? (i := 62) rfl)) (hw _ (List.mem_of_getElem? (i := 63) rfl)) (hw _ (List.mem_of_getElem? (i := 64) rfl)) (hw _ (List.mem_of_getElem? (i := 28) rfl)) (hw _ (List.mem_of_getElem? (i := 65) rfl)) (rmEB l Z a0 hw [] b32 b22 T38.heap n0 F38 E_b22_42 F_b22_43 P_41 P_40 Wl_39) (by decide) (by decide) (W := 0) (by decide) (by decide) (by decide) (a := b32) E38 (g := (mkF m 281 #[.val (.int p1), .val (.int p2), .val (.int p3), .val (.int v1), .val (.int v2), .val (.int v3), .val (.int v4), .val (.int v5), .val (.int z14), .val (.int z15), .val (.int z16), .val (.ref r17), .val (.ref r19), .val (.ref b22), .val (.int v30), .val (.ref b32), .val (.int z52), .val (.int z55), .val (.int v57)] [(.ref b22), (.ref b32)])) rfl (by rw [hml]; rfl) (argsL := [(.ref b22)]) (rest := []) rfl rfl (lenOf pd_0_2 rfl) (by show 2 * 0 + _ ≤ _; exact Nat.le_of_eq rfl) (hb hby at_281) ?_
    rintro _ T60 L60 X60 ⟨rfl, N60q, e60⟩
    have N60 := Fr.app N56 N60q
    show Go p e below _ (T60.setTop (mkF m 284 #[.val (.int p1), .val (.int p2), .val (.int p3), .val (.int v1), .val (.int v2), .val (.int v3), .val (.int v4), .val (.int v5), .val (.int z14), .val (.int z15), .val (.int z16), .val (.ref r17), .val (.ref r19), .val (.ref b22), .val (.int v30), .val (.ref b32), .val (.int z52), .val (.int z55), .val (.int v57)] [(.int (if (own_txt z14 z15 z16) = (own_txt v1 v2 v3) then (1 : Int32) else 0))]))
    refine go (fun _ q => XS.iload X60.here hx rfl (hb hby at_284) rfl q) ?_
    show Go p e below _ (T60.setTop (mkF m 286 #[.val (.int p1), .val (.int p2), .val (.int p3), .val (.int v1), .val (.int v2), .val (.int v3), .val (.int v4), .val (.int v5), .val (.int z14), .val (.int z15), .val (.int z16), .val (.ref r17), .val (.ref r19), .val (.ref b22), .val (.int v30), .val (.ref b32), .val (.int z52), .val (.int z55), .val (.int v57)] [(.int z55), (.int (if (own_txt z14 z15 z16) = (own_txt v1 v2 v3) then (1 : Int32) else 0))]))
    have hk61 : (if (own_txt z14 z15 z16) = (own_txt v1 v2 v3) then (1 : Int32) else 0) = z55 := by rw [hz55, hz52, own_sym]; exact own_fin ra rb
    refine go (fun _ q => XS.icmpNo X60.here hx rfl (hb hby at_286) rfl (teq hk61).2 q) ?_
    show Go p e below _ (T60.setTop (mkF m 289 #[.val (.int p1), .val (.int p2), .val (.int p3), .val (.int v1), .val (.int v2), .val (.int v3), .val (.int v4), .val (.int v5), .val (.int z14), .val (.int z15), .val (.int z16), .val (.ref r17), .val (.ref r19), .val (.ref b22), .val (.int v30), .val (.ref b32), .val (.int z52), .val (.int z55), .val (.int v57)] []))
    refine go (fun _ q => XS.iconst X60.here hx rfl (hb hby at_289) q) ?_
    show Go p e below _ (T60.setTop (mkF m 290 #[.val (.int p1), .val (.int p2), .val (.int p3), .val (.int v1), .val (.int v2), .val (.int v3), .val (.int v4), .val (.int v5), .val (.int z14), .val (.int z15), .val (.int z16), .val (.ref r17), .val (.ref r19), .val (.ref b22), .val (.int v30), .val (.ref b32), .val (.int z52), .val (.int z55), .val (.int v57)] [(.int (1 : Int32))]))
    refine go (fun _ q => XS.goto X60.here hx rfl (pc0 := 290) (pc' := 294) rfl (hb hby at_290) (by decide) (by decide) q) ?_
    show Go p e below _ (T60.setTop (mkF m 294 #[.val (.int p1), .val (.int p2), .val (.int p3), .val (.int v1), .val (.int v2), .val (.int v3), .val (.int v4), .val (.int v5), .val (.int z14), .val (.int z15), .val (.int z16), .val (.ref r17), .val (.ref r19), .val (.ref b22), .val (.int v30), .val (.ref b32), .val (.int z52), .val (.int z55), .val (.int v57)] [(.int (1 : Int32))]))
    exact own_retZW (z' := (1 : Int32)) X60 hx hlk hS hk e60 CR hEL hZ hret (hb hby at_294) (by decide) (by decide) rfl ⟨rfl, N60⟩
  · refine go (fun _ q => XS.ifYes X26.here hx rfl (pc0 := 146) (pc' := 163) rfl (hb hby at_146) rfl ((if0 _ _).trans (feq hc31).2) (by decide) (by decide) q) ?_
    show Go p e below _ (T26.setTop (mkF m 163 #[.val (.int p1), .val (.int p2), .val (.int p3), .val (.int v1), .val (.int v2), .val (.int v3), .val (.int v4), .val (.int v5), .val (.int z14), .val (.int z15), .val (.int z16), .val (.ref r17), .val (.ref r19), .val (.ref b22), .val (.int v30), .unset, .unset, .unset, .unset] []))
    refine go (fun _ q => XS.iload X26.here hx rfl (hb hby at_163) rfl q) ?_
    show Go p e below _ (T26.setTop (mkF m 165 #[.val (.int p1), .val (.int p2), .val (.int p3), .val (.int v1), .val (.int v2), .val (.int v3), .val (.int v4), .val (.int v5), .val (.int z14), .val (.int z15), .val (.int z16), .val (.ref r17), .val (.ref r19), .val (.ref b22), .val (.int v30), .unset, .unset, .unset, .unset] [(.int v30)]))
    refine go (fun _ q => XS.iconst X26.here hx rfl (hb hby at_165) q) ?_
    show Go p e below _ (T26.setTop (mkF m 166 #[.val (.int p1), .val (.int p2), .val (.int p3), .val (.int v1), .val (.int v2), .val (.int v3), .val (.int v4), .val (.int v5), .val (.int z14), .val (.int z15), .val (.int z16), .val (.ref r17), .val (.ref r19), .val (.ref b22), .val (.int v30), .unset, .unset, .unset, .unset] [(.int (1 : Int32)), (.int v30)]))
    by_cases hc62 : v30 = (1 : Int32)
    · refine go (fun _ q => XS.icmpNo X26.here hx rfl (hb hby at_166) rfl (teq hc62).2 q) ?_
      show Go p e below _ (T26.setTop (mkF m 169 #[.val (.int p1), .val (.int p2), .val (.int p3), .val (.int v1), .val (.int v2), .val (.int v3), .val (.int v4), .val (.int v5), .val (.int z14), .val (.int z15), .val (.int z16), .val (.ref r17), .val (.ref r19), .val (.ref b22), .val (.int v30), .unset, .unset, .unset, .unset] []))
      obtain ⟨T63, h63, X63, e63, E63, A63, D63, -, st63⟩ := newO X26 hx hZ hown (hw _ (List.mem_of_getElem? (i := 109) rfl)) (hw _ (List.mem_of_getElem? (i := 110) rfl)) (hw _ (List.mem_of_getElem? (i := 111) rfl)) rfl (g := (mkF m 169 #[.val (.int p1), .val (.int p2), .val (.int p3), .val (.int v1), .val (.int v2), .val (.int v3), .val (.int v4), .val (.int v5), .val (.int z14), .val (.int z15), .val (.int z16), .val (.ref r17), .val (.ref r19), .val (.ref b22), .val (.int v30), .unset, .unset, .unset, .unset] [])) rfl (hb hby at_169) (by decide) (by decide)
      obtain ⟨b63, g63⟩ : ∃ z, z = T26.heap.size := ⟨_, rfl⟩
      rw [← g63] at A63 D63 st63
      refine go st63 ?_
      have ne_r17_b63 : r17 ≠ b63 := Nat.ne_of_lt (Nat.lt_of_lt_of_le P_28.lt (Nat.le_of_eq g63.symm))
      have ne_r19_b63 : r19 ≠ b63 := Nat.ne_of_lt (Nat.lt_of_lt_of_le P_29.lt (Nat.le_of_eq g63.symm))
      have ne_b22_b63 : b22 ≠ b63 := Nat.ne_of_lt (Nat.lt_of_lt_of_le E26.lt (Nat.le_of_eq g63.symm))
      have g_b63 : n0 ≤ b63 := Nat.le_trans Z26 (Nat.le_of_eq g63.symm)
      have Z63 : n0 ≤ h63.size := Nat.le_trans Z26 E63.1
      have Wl_64 : Wld Z h63 := Wl_27.ext E63
      have P_65 : Str Z h63 r17 (own_txt v1 v2 v3) := P_28.ext E63
      have P_66 : Str Z h63 r19 (own_txt z14 z15 z16) := P_29.ext E63
      have E_b22_67 : Exa Z h63 b22 "com/example/triview/triview/BlankNode" := E26.ext E63
      have F_b22_68 : Fld Z h63 b22 "com/example/triview/triview/BlankNode" "label" "Ljava/lang/String;" (.ref r17) := F26.ext E63
      have Sf_b63 := Safe.ext E63 CR.1 (Safe.new (Nat.le_of_eq g63.symm))
      have hk := Nat.le_trans hk E63.1
      have CR := CR.trans (CHr.ext E63 CR.1)
      have F_value_b63 : Fld Z h63 b63 "com/example/triview/triview/Iri" "value" "Ljava/lang/String;" .null := D63 (Or.inr (hw _ (List.mem_of_getElem? (i := 121) rfl))) (ty := (.object "java/lang/String")) (by decide)
      show Go p e below _ (T63.setTop (mkF m 172 #[.val (.int p1), .val (.int p2), .val (.int p3), .val (.int v1), .val (.int v2), .val (.int v3), .val (.int v4), .val (.int v5), .val (.int z14), .val (.int z15), .val (.int z16), .val (.ref r17), .val (.ref r19), .val (.ref b22), .val (.int v30), .unset, .unset, .unset, .unset] [(.ref b63)]))
      refine go (fun _ q => XS.dup X63.here hx rfl (hb hby at_172) rfl rfl q) ?_
      show Go p e below _ (T63.setTop (mkF m 173 #[.val (.int p1), .val (.int p2), .val (.int p3), .val (.int v1), .val (.int v2), .val (.int v3), .val (.int v4), .val (.int v5), .val (.int z14), .val (.int z15), .val (.int z16), .val (.ref r17), .val (.ref r19), .val (.ref b22), .val (.int v30), .unset, .unset, .unset, .unset] [(.ref b63), (.ref b63)]))
      refine go (fun _ q => XS.aload X63.here hx rfl (hb hby at_173) rfl rfl q) ?_
      show Go p e below _ (T63.setTop (mkF m 175 #[.val (.int p1), .val (.int p2), .val (.int p3), .val (.int v1), .val (.int v2), .val (.int v3), .val (.int v4), .val (.int v5), .val (.int z14), .val (.int z15), .val (.int z16), .val (.ref r17), .val (.ref r19), .val (.ref b22), .val (.int v30), .unset, .unset, .unset, .unset] [(.ref r19), (.ref b63), (.ref b63)]))
      refine own_callCW X63 hx hZ hown e63 hS hk hEL CR (hw _ (List.mem_of_getElem? (i := 112) rfl)) (hw _ (List.mem_of_getElem? (i := 113) rfl)) (hw _ (List.mem_of_getElem? (i := 111) rfl)) (hw _ (List.mem_of_getElem? (i := 114) rfl)) (rm22 l Z a0 hw [] b63 r19 h63 n0 Z63 g_b63 A63 F_value_b63 P_66 Wl_64) rfl (by decide) (by decide) (W := 1) (by decide) (by decide) (by decide) (a := b63) (g := (mkF m 175 #[.val (.int p1), .val (.int p2), .val (.int p3), .val (.int v1), .val (.int v2), .val (.int v3), .val (.int v4), .val (.int v5), .val (.int z14), .val (.int z15), .val (.int z16), .val (.ref r17), .val (.ref r19), .val (.ref b22), .val (.int v30), .unset, .unset, .unset, .unset] [(.ref r19), (.ref b63), (.ref b63)])) rfl (by rw [hml]; rfl) (argsL := [(.ref r19)]) (rest := [(.ref b63)]) rfl rfl (lenOf pd_0_1 rfl) (by show 2 * 0 + _ ≤ _; exact Nat.le_of_eq rfl) (hb hby at_175) ?_
      rintro _ T69 L69 vm69 kk69 X69 hS hk hZ hown CR ⟨rfl, N69q, K69, E69, F69⟩
      have N69 := Fr.app N26 N69q
      have Ex69 : Ext T26.heap T69.heap := own_extK E63 K69 (Nat.le_of_eq g63.symm)
      have Z69 : n0 ≤ T69.heap.size := Nat.le_trans Z63 K69.1
      have Wl_70 : Wld Z T69.heap := Wl_27.ext Ex69
      have P_71 : Str Z T69.heap r17 (own_txt v1 v2 v3) := P_28.ext Ex69
      have P_72 : Str Z T69.heap r19 (own_txt z14 z15 z16) := P_29.ext Ex69
      have E_b22_73 : Exa Z T69.heap b22 "com/example/triview/triview/BlankNode" := E26.ext Ex69
      have F_b22_74 : Fld Z T69.heap b22 "com/example/triview/triview/BlankNode" "label" "Ljava/lang/String;" (.ref r17) := F26.ext Ex69
      show Go p e below _ (T69.setTop (mkF m 178 #[.val (.int p1), .val (.int p2), .val (.int p3), .val (.int v1), .val (.int v2), .val (.int v3), .val (.int v4), .val (.int v5), .val (.int z14), .val (.int z15), .val (.int z16), .val (.ref r17), .val (.ref r19), .val (.ref b22), .val (.int v30), .unset, .unset, .unset, .unset] [(.ref b63)]))
      refine go (fun _ q => XS.astore X69.here hx rfl (hb hby at_178) rfl rfl (l' := #[.val (.int p1), .val (.int p2), .val (.int p3), .val (.int v1), .val (.int v2), .val (.int v3), .val (.int v4), .val (.int v5), .val (.int z14), .val (.int z15), .val (.int z16), .val (.ref r17), .val (.ref r19), .val (.ref b22), .val (.int v30), .val (.ref b63), .unset, .unset, .unset]) rfl q) ?_
      show Go p e below _ (T69.setTop (mkF m 180 #[.val (.int p1), .val (.int p2), .val (.int p3), .val (.int v1), .val (.int v2), .val (.int v3), .val (.int v4), .val (.int v5), .val (.int z14), .val (.int z15), .val (.int z16), .val (.ref r17), .val (.ref r19), .val (.ref b22), .val (.int v30), .val (.ref b63), .unset, .unset, .unset] []))
      refine go (fun _ q => XS.goto X69.here hx rfl (pc0 := 180) (pc' := 199) rfl (hb hby at_180) (by decide) (by decide) q) ?_
      show Go p e below _ (T69.setTop (mkF m 199 #[.val (.int p1), .val (.int p2), .val (.int p3), .val (.int v1), .val (.int v2), .val (.int v3), .val (.int v4), .val (.int v5), .val (.int z14), .val (.int z15), .val (.int z16), .val (.ref r17), .val (.ref r19), .val (.ref b22), .val (.int v30), .val (.ref b63), .unset, .unset, .unset] []))
      refine go (fun _ q => XS.iloadN X69.here hx rfl (hb hby at_199) rfl q) ?_
      show Go p e below _ (T69.setTop (mkF m 200 #[.val (.int p1), .val (.int p2), .val (.int p3), .val (.int v1), .val (.int v2), .val (.int v3), .val (.int v4), .val (.int v5), .val (.int z14), .val (.int z15), .val (.int z16), .val (.ref r17), .val (.ref r19), .val (.ref b22), .val (.int v30), .val (.ref b63), .unset, .unset, .unset] [(.int v1)]))
      refine go (fun _ q => XS.iload X69.here hx rfl (hb hby at_200) rfl q) ?_
      show Go p e below _ (T69.setTop (mkF m 202 #[.val (.int p1), .val (.int p2), .val (.int p3), .val (.int v1), .val (.int v2), .val (.int v3), .val (.int v4), .val (.int v5), .val (.int z14), .val (.int z15), .val (.int z16), .val (.ref r17), .val (.ref r19), .val (.ref b22), .val (.int v30), .val (.ref b63), .unset, .unset, .unset] [(.int z14), (.int v1)]))
      suffices hj75 : ∀ (z83 : Int32), z83 = (if v1 = z14 then (if v1 < (1 : Int32) then (if v1 < (2 : Int32) then (1 : Int32) else (if v3 = z16 then (1 : Int32) else (0 : Int32))) else (if v2 = z15 then (if v1 < (2 : Int32) then (1 : Int32) else (if v3 = z16 then (1 : Int32) else (0 : Int32))) else (0 : Int32))) else (0 : Int32)) → Go p e below (DnW below s Z EL1 vm0 h0 ((Q0 n0)) room_1.cells room_1.slots) (T69.setTop (mkF m 234 #[.val (.int p1), .val (.int p2), .val (.int p3), .val (.int v1), .val (.int v2), .val (.int v3), .val (.int v4), .val (.int v5), .val (.int z14), .val (.int z15), .val (.int z16), .val (.ref r17), .val (.ref r19), .val (.ref b22), .val (.int v30), .val (.ref b63), .unset, .unset, .unset] [(.int z83)])) by
        by_cases hc76 : v1 = z14
        · refine go (fun _ q => XS.icmpNo X69.here hx rfl (hb hby at_202) rfl (teq hc76).2 q) ?_
          show Go p e below _ (T69.setTop (mkF m 205 #[.val (.int p1), .val (.int p2), .val (.int p3), .val (.int v1), .val (.int v2), .val (.int v3), .val (.int v4), .val (.int v5), .val (.int z14), .val (.int z15), .val (.int z16), .val (.ref r17), .val (.ref r19), .val (.ref b22), .val (.int v30), .val (.ref b63), .unset, .unset, .unset] []))
          refine go (fun _ q => XS.iloadN X69.here hx rfl (hb hby at_205) rfl q) ?_
          show Go p e below _ (T69.setTop (mkF m 206 #[.val (.int p1), .val (.int p2), .val (.int p3), .val (.int v1), .val (.int v2), .val (.int v3), .val (.int v4), .val (.int v5), .val (.int z14), .val (.int z15), .val (.int z16), .val (.ref r17), .val (.ref r19), .val (.ref b22), .val (.int v30), .val (.ref b63), .unset, .unset, .unset] [(.int v1)]))
          refine go (fun _ q => XS.iconst X69.here hx rfl (hb hby at_206) q) ?_
          show Go p e below _ (T69.setTop (mkF m 207 #[.val (.int p1), .val (.int p2), .val (.int p3), .val (.int v1), .val (.int v2), .val (.int v3), .val (.int v4), .val (.int v5), .val (.int z14), .val (.int z15), .val (.int z16), .val (.ref r17), .val (.ref r19), .val (.ref b22), .val (.int v30), .val (.ref b63), .unset, .unset, .unset] [(.int (1 : Int32)), (.int v1)]))
          by_cases hc77 : v1 < (1 : Int32)
          · refine go (fun _ q => XS.icmpYes X69.here hx rfl (pc0 := 207) (pc' := 217) rfl (hb hby at_207) rfl (tlt hc77).1 (by decide) (by decide) q) ?_
            show Go p e below _ (T69.setTop (mkF m 217 #[.val (.int p1), .val (.int p2), .val (.int p3), .val (.int v1), .val (.int v2), .val (.int v3), .val (.int v4), .val (.int v5), .val (.int z14), .val (.int z15), .val (.int z16), .val (.ref r17), .val (.ref r19), .val (.ref b22), .val (.int v30), .val (.ref b63), .unset, .unset, .unset] []))
            refine go (fun _ q => XS.iloadN X69.here hx rfl (hb hby at_217) rfl q) ?_
            show Go p e below _ (T69.setTop (mkF m 218 #[.val (.int p1), .val (.int p2), .val (.int p3), .val (.int v1), .val (.int v2), .val (.int v3), .val (.int v4), .val (.int v5), .val (.int z14), .val (.int z15), .val (.int z16), .val (.ref r17), .val (.ref r19), .val (.ref b22), .val (.int v30), .val (.ref b63), .unset, .unset, .unset] [(.int v1)]))
            refine go (fun _ q => XS.iconst X69.here hx rfl (hb hby at_218) q) ?_
            show Go p e below _ (T69.setTop (mkF m 219 #[.val (.int p1), .val (.int p2), .val (.int p3), .val (.int v1), .val (.int v2), .val (.int v3), .val (.int v4), .val (.int v5), .val (.int z14), .val (.int z15), .val (.int z16), .val (.ref r17), .val (.ref r19), .val (.ref b22), .val (.int v30), .val (.ref b63), .unset, .unset, .unset] [(.int (2 : Int32)), (.int v1)]))
            by_cases hc78 : v1 < (2 : Int32)
            · refine go (fun _ q => XS.icmpYes X69.here hx rfl (pc0 := 219) (pc' := 229) rfl (hb hby at_219) rfl (tlt hc78).1 (by decide) (by decide) q) ?_
              show Go p e below _ (T69.setTop (mkF m 229 #[.val (.int p1), .val (.int p2), .val (.int p3), .val (.int v1), .val (.int v2), .val (.int v3), .val (.int v4), .val (.int v5), .val (.int z14), .val (.int z15), .val (.int z16), .val (.ref r17), .val (.ref r19), .val (.ref b22), .val (.int v30), .val (.ref b63), .unset, .unset, .unset] []))
              refine go (fun _ q => XS.iconst X69.here hx rfl (hb hby at_229) q) ?_
              show Go p e below _ (T69.setTop (mkF m 230 #[.val (.int p1), .val (.int p2), .val (.int p3), .val (.int v1), .val (.int v2), .val (.int v3), .val (.int v4), .val (.int v5), .val (.int z14), .val (.int z15), .val (.int z16), .val (.ref r17), .val (.ref r19), .val (.ref b22), .val (.int v30), .val (.ref b63), .unset, .unset, .unset] [(.int (1 : Int32))]))
              refine go (fun _ q => XS.goto X69.here hx rfl (pc0 := 230) (pc' := 234) rfl (hb hby at_230) (by decide) (by decide) q) ?_
              show Go p e below _ (T69.setTop (mkF m 234 #[.val (.int p1), .val (.int p2), .val (.int p3), .val (.int v1), .val (.int v2), .val (.int v3), .val (.int v4), .val (.int v5), .val (.int z14), .val (.int z15), .val (.int z16), .val (.ref r17), .val (.ref r19), .val (.ref b22), .val (.int v30), .val (.ref b63), .unset, .unset, .unset] [(.int (1 : Int32))]))
              exact hj75 _ (by rw [if_pos hc76, if_pos hc77, if_pos hc78])
            · refine go (fun _ q => XS.icmpNo X69.here hx rfl (hb hby at_219) rfl (flt hc78).1 q) ?_
              show Go p e below _ (T69.setTop (mkF m 222 #[.val (.int p1), .val (.int p2), .val (.int p3), .val (.int v1), .val (.int v2), .val (.int v3), .val (.int v4), .val (.int v5), .val (.int z14), .val (.int z15), .val (.int z16), .val (.ref r17), .val (.ref r19), .val (.ref b22), .val (.int v30), .val (.ref b63), .unset, .unset, .unset] []))
              refine go (fun _ q => XS.iload X69.here hx rfl (hb hby at_222) rfl q) ?_
              show Go p e below _ (T69.setTop (mkF m 224 #[.val (.int p1), .val (.int p2), .val (.int p3), .val (.int v1), .val (.int v2), .val (.int v3), .val (.int v4), .val (.int v5), .val (.int z14), .val (.int z15), .val (.int z16), .val (.ref r17), .val (.ref r19), .val (.ref b22), .val (.int v30), .val (.ref b63), .unset, .unset, .unset] [(.int v3)]))
              refine go (fun _ q => XS.iload X69.here hx rfl (hb hby at_224) rfl q) ?_
              show Go p e below _ (T69.setTop (mkF m 226 #[.val (.int p1), .val (.int p2), .val (.int p3), .val (.int v1), .val (.int v2), .val (.int v3), .val (.int v4), .val (.int v5), .val (.int z14), .val (.int z15), .val (.int z16), .val (.ref r17), .val (.ref r19), .val (.ref b22), .val (.int v30), .val (.ref b63), .unset, .unset, .unset] [(.int z16), (.int v3)]))
              by_cases hc79 : v3 = z16
              · refine go (fun _ q => XS.icmpNo X69.here hx rfl (hb hby at_226) rfl (teq hc79).2 q) ?_
                show Go p e below _ (T69.setTop (mkF m 229 #[.val (.int p1), .val (.int p2), .val (.int p3), .val (.int v1), .val (.int v2), .val (.int v3), .val (.int v4), .val (.int v5), .val (.int z14), .val (.int z15), .val (.int z16), .val (.ref r17), .val (.ref r19), .val (.ref b22), .val (.int v30), .val (.ref b63), .unset, .unset, .unset] []))
                refine go (fun _ q => XS.iconst X69.here hx rfl (hb hby at_229) q) ?_
                show Go p e below _ (T69.setTop (mkF m 230 #[.val (.int p1), .val (.int p2), .val (.int p3), .val (.int v1), .val (.int v2), .val (.int v3), .val (.int v4), .val (.int v5), .val (.int z14), .val (.int z15), .val (.int z16), .val (.ref r17), .val (.ref r19), .val (.ref b22), .val (.int v30), .val (.ref b63), .unset, .unset, .unset] [(.int (1 : Int32))]))
                refine go (fun _ q => XS.goto X69.here hx rfl (pc0 := 230) (pc' := 234) rfl (hb hby at_230) (by decide) (by decide) q) ?_
                show Go p e below _ (T69.setTop (mkF m 234 #[.val (.int p1), .val (.int p2), .val (.int p3), .val (.int v1), .val (.int v2), .val (.int v3), .val (.int v4), .val (.int v5), .val (.int z14), .val (.int z15), .val (.int z16), .val (.ref r17), .val (.ref r19), .val (.ref b22), .val (.int v30), .val (.ref b63), .unset, .unset, .unset] [(.int (1 : Int32))]))
                exact hj75 _ (by rw [if_pos hc76, if_pos hc77, if_neg hc78, if_pos hc79])
              · refine go (fun _ q => XS.icmpYes X69.here hx rfl (pc0 := 226) (pc' := 233) rfl (hb hby at_226) rfl (feq hc79).2 (by decide) (by decide) q) ?_
                show Go p e below _ (T69.setTop (mkF m 233 #[.val (.int p1), .val (.int p2), .val (.int p3), .val (.int v1), .val (.int v2), .val (.int v3), .val (.int v4), .val (.int v5), .val (.int z14), .val (.int z15), .val (.int z16), .val (.ref r17), .val (.ref r19), .val (.ref b22), .val (.int v30), .val (.ref b63), .unset, .unset, .unset] []))
                refine go (fun _ q => XS.iconst X69.here hx rfl (hb hby at_233) q) ?_
                show Go p e below _ (T69.setTop (mkF m 234 #[.val (.int p1), .val (.int p2), .val (.int p3), .val (.int v1), .val (.int v2), .val (.int v3), .val (.int v4), .val (.int v5), .val (.int z14), .val (.int z15), .val (.int z16), .val (.ref r17), .val (.ref r19), .val (.ref b22), .val (.int v30), .val (.ref b63), .unset, .unset, .unset] [(.int (0 : Int32))]))
                exact hj75 _ (by rw [if_pos hc76, if_pos hc77, if_neg hc78, if_neg hc79])
          · refine go (fun _ q => XS.icmpNo X69.here hx rfl (hb hby at_207) rfl (flt hc77).1 q) ?_
            show Go p e below _ (T69.setTop (mkF m 210 #[.val (.int p1), .val (.int p2), .val (.int p3), .val (.int v1), .val (.int v2), .val (.int v3), .val (.int v4), .val (.int v5), .val (.int z14), .val (.int z15), .val (.int z16), .val (.ref r17), .val (.ref r19), .val (.ref b22), .val (.int v30), .val (.ref b63), .unset, .unset, .unset] []))
            refine go (fun _ q => XS.iload X69.here hx rfl (hb hby at_210) rfl q) ?_
            show Go p e below _ (T69.setTop (mkF m 212 #[.val (.int p1), .val (.int p2), .val (.int p3), .val (.int v1), .val (.int v2), .val (.int v3), .val (.int v4), .val (.int v5), .val (.int z14), .val (.int z15), .val (.int z16), .val (.ref r17), .val (.ref r19), .val (.ref b22), .val (.int v30), .val (.ref b63), .unset, .unset, .unset] [(.int v2)]))
            refine go (fun _ q => XS.iload X69.here hx rfl (hb hby at_212) rfl q) ?_
            show Go p e below _ (T69.setTop (mkF m 214 #[.val (.int p1), .val (.int p2), .val (.int p3), .val (.int v1), .val (.int v2), .val (.int v3), .val (.int v4), .val (.int v5), .val (.int z14), .val (.int z15), .val (.int z16), .val (.ref r17), .val (.ref r19), .val (.ref b22), .val (.int v30), .val (.ref b63), .unset, .unset, .unset] [(.int z15), (.int v2)]))
            by_cases hc80 : v2 = z15
            · refine go (fun _ q => XS.icmpNo X69.here hx rfl (hb hby at_214) rfl (teq hc80).2 q) ?_
              show Go p e below _ (T69.setTop (mkF m 217 #[.val (.int p1), .val (.int p2), .val (.int p3), .val (.int v1), .val (.int v2), .val (.int v3), .val (.int v4), .val (.int v5), .val (.int z14), .val (.int z15), .val (.int z16), .val (.ref r17), .val (.ref r19), .val (.ref b22), .val (.int v30), .val (.ref b63), .unset, .unset, .unset] []))
              refine go (fun _ q => XS.iloadN X69.here hx rfl (hb hby at_217) rfl q) ?_
              show Go p e below _ (T69.setTop (mkF m 218 #[.val (.int p1), .val (.int p2), .val (.int p3), .val (.int v1), .val (.int v2), .val (.int v3), .val (.int v4), .val (.int v5), .val (.int z14), .val (.int z15), .val (.int z16), .val (.ref r17), .val (.ref r19), .val (.ref b22), .val (.int v30), .val (.ref b63), .unset, .unset, .unset] [(.int v1)]))
              refine go (fun _ q => XS.iconst X69.here hx rfl (hb hby at_218) q) ?_
              show Go p e below _ (T69.setTop (mkF m 219 #[.val (.int p1), .val (.int p2), .val (.int p3), .val (.int v1), .val (.int v2), .val (.int v3), .val (.int v4), .val (.int v5), .val (.int z14), .val (.int z15), .val (.int z16), .val (.ref r17), .val (.ref r19), .val (.ref b22), .val (.int v30), .val (.ref b63), .unset, .unset, .unset] [(.int (2 : Int32)), (.int v1)]))
              by_cases hc81 : v1 < (2 : Int32)
              · refine go (fun _ q => XS.icmpYes X69.here hx rfl (pc0 := 219) (pc' := 229) rfl (hb hby at_219) rfl (tlt hc81).1 (by decide) (by decide) q) ?_
                show Go p e below _ (T69.setTop (mkF m 229 #[.val (.int p1), .val (.int p2), .val (.int p3), .val (.int v1), .val (.int v2), .val (.int v3), .val (.int v4), .val (.int v5), .val (.int z14), .val (.int z15), .val (.int z16), .val (.ref r17), .val (.ref r19), .val (.ref b22), .val (.int v30), .val (.ref b63), .unset, .unset, .unset] []))
                refine go (fun _ q => XS.iconst X69.here hx rfl (hb hby at_229) q) ?_
                show Go p e below _ (T69.setTop (mkF m 230 #[.val (.int p1), .val (.int p2), .val (.int p3), .val (.int v1), .val (.int v2), .val (.int v3), .val (.int v4), .val (.int v5), .val (.int z14), .val (.int z15), .val (.int z16), .val (.ref r17), .val (.ref r19), .val (.ref b22), .val (.int v30), .val (.ref b63), .unset, .unset, .unset] [(.int (1 : Int32))]))
                refine go (fun _ q => XS.goto X69.here hx rfl (pc0 := 230) (pc' := 234) rfl (hb hby at_230) (by decide) (by decide) q) ?_
                show Go p e below _ (T69.setTop (mkF m 234 #[.val (.int p1), .val (.int p2), .val (.int p3), .val (.int v1), .val (.int v2), .val (.int v3), .val (.int v4), .val (.int v5), .val (.int z14), .val (.int z15), .val (.int z16), .val (.ref r17), .val (.ref r19), .val (.ref b22), .val (.int v30), .val (.ref b63), .unset, .unset, .unset] [(.int (1 : Int32))]))
                exact hj75 _ (by rw [if_pos hc76, if_neg hc77, if_pos hc80, if_pos hc81])
              · refine go (fun _ q => XS.icmpNo X69.here hx rfl (hb hby at_219) rfl (flt hc81).1 q) ?_
                show Go p e below _ (T69.setTop (mkF m 222 #[.val (.int p1), .val (.int p2), .val (.int p3), .val (.int v1), .val (.int v2), .val (.int v3), .val (.int v4), .val (.int v5), .val (.int z14), .val (.int z15), .val (.int z16), .val (.ref r17), .val (.ref r19), .val (.ref b22), .val (.int v30), .val (.ref b63), .unset, .unset, .unset] []))
                refine go (fun _ q => XS.iload X69.here hx rfl (hb hby at_222) rfl q) ?_
                show Go p e below _ (T69.setTop (mkF m 224 #[.val (.int p1), .val (.int p2), .val (.int p3), .val (.int v1), .val (.int v2), .val (.int v3), .val (.int v4), .val (.int v5), .val (.int z14), .val (.int z15), .val (.int z16), .val (.ref r17), .val (.ref r19), .val (.ref b22), .val (.int v30), .val (.ref b63), .unset, .unset, .unset] [(.int v3)]))
                refine go (fun _ q => XS.iload X69.here hx rfl (hb hby at_224) rfl q) ?_
                show Go p e below _ (T69.setTop (mkF m 226 #[.val (.int p1), .val (.int p2), .val (.int p3), .val (.int v1), .val (.int v2), .val (.int v3), .val (.int v4), .val (.int v5), .val (.int z14), .val (.int z15), .val (.int z16), .val (.ref r17), .val (.ref r19), .val (.ref b22), .val (.int v30), .val (.ref b63), .unset, .unset, .unset] [(.int z16), (.int v3)]))
                by_cases hc82 : v3 = z16
                · refine go (fun _ q => XS.icmpNo X69.here hx rfl (hb hby at_226) rfl (teq hc82).2 q) ?_
                  show Go p e below _ (T69.setTop (mkF m 229 #[.val (.int p1), .val (.int p2), .val (.int p3), .val (.int v1), .val (.int v2), .val (.int v3), .val (.int v4), .val (.int v5), .val (.int z14), .val (.int z15), .val (.int z16), .val (.ref r17), .val (.ref r19), .val (.ref b22), .val (.int v30), .val (.ref b63), .unset, .unset, .unset] []))
                  refine go (fun _ q => XS.iconst X69.here hx rfl (hb hby at_229) q) ?_
                  show Go p e below _ (T69.setTop (mkF m 230 #[.val (.int p1), .val (.int p2), .val (.int p3), .val (.int v1), .val (.int v2), .val (.int v3), .val (.int v4), .val (.int v5), .val (.int z14), .val (.int z15), .val (.int z16), .val (.ref r17), .val (.ref r19), .val (.ref b22), .val (.int v30), .val (.ref b63), .unset, .unset, .unset] [(.int (1 : Int32))]))
                  refine go (fun _ q => XS.goto X69.here hx rfl (pc0 := 230) (pc' := 234) rfl (hb hby at_230) (by decide) (by decide) q) ?_
                  show Go p e below _ (T69.setTop (mkF m 234 #[.val (.int p1), .val (.int p2), .val (.int p3), .val (.int v1), .val (.int v2), .val (.int v3), .val (.int v4), .val (.int v5), .val (.int z14), .val (.int z15), .val (.int z16), .val (.ref r17), .val (.ref r19), .val (.ref b22), .val (.int v30), .val (.ref b63), .unset, .unset, .unset] [(.int (1 : Int32))]))
                  exact hj75 _ (by rw [if_pos hc76, if_neg hc77, if_pos hc80, if_neg hc81, if_pos hc82])
                · refine go (fun _ q => XS.icmpYes X69.here hx rfl (pc0 := 226) (pc' := 233) rfl (hb hby at_226) rfl (feq hc82).2 (by decide) (by decide) q) ?_
                  show Go p e below _ (T69.setTop (mkF m 233 #[.val (.int p1), .val (.int p2), .val (.int p3), .val (.int v1), .val (.int v2), .val (.int v3), .val (.int v4), .val (.int v5), .val (.int z14), .val (.int z15), .val (.int z16), .val (.ref r17), .val (.ref r19), .val (.ref b22), .val (.int v30), .val (.ref b63), .unset, .unset, .unset] []))
                  refine go (fun _ q => XS.iconst X69.here hx rfl (hb hby at_233) q) ?_
                  show Go p e below _ (T69.setTop (mkF m 234 #[.val (.int p1), .val (.int p2), .val (.int p3), .val (.int v1), .val (.int v2), .val (.int v3), .val (.int v4), .val (.int v5), .val (.int z14), .val (.int z15), .val (.int z16), .val (.ref r17), .val (.ref r19), .val (.ref b22), .val (.int v30), .val (.ref b63), .unset, .unset, .unset] [(.int (0 : Int32))]))
                  exact hj75 _ (by rw [if_pos hc76, if_neg hc77, if_pos hc80, if_neg hc81, if_neg hc82])
            · refine go (fun _ q => XS.icmpYes X69.here hx rfl (pc0 := 214) (pc' := 233) rfl (hb hby at_214) rfl (feq hc80).2 (by decide) (by decide) q) ?_
              show Go p e below _ (T69.setTop (mkF m 233 #[.val (.int p1), .val (.int p2), .val (.int p3), .val (.int v1), .val (.int v2), .val (.int v3), .val (.int v4), .val (.int v5), .val (.int z14), .val (.int z15), .val (.int z16), .val (.ref r17), .val (.ref r19), .val (.ref b22), .val (.int v30), .val (.ref b63), .unset, .unset, .unset] []))
              refine go (fun _ q => XS.iconst X69.here hx rfl (hb hby at_233) q) ?_
              show Go p e below _ (T69.setTop (mkF m 234 #[.val (.int p1), .val (.int p2), .val (.int p3), .val (.int v1), .val (.int v2), .val (.int v3), .val (.int v4), .val (.int v5), .val (.int z14), .val (.int z15), .val (.int z16), .val (.ref r17), .val (.ref r19), .val (.ref b22), .val (.int v30), .val (.ref b63), .unset, .unset, .unset] [(.int (0 : Int32))]))
              exact hj75 _ (by rw [if_pos hc76, if_neg hc77, if_neg hc80])
        · refine go (fun _ q => XS.icmpYes X69.here hx rfl (pc0 := 202) (pc' := 233) rfl (hb hby at_202) rfl (feq hc76).2 (by decide) (by decide) q) ?_
          show Go p e below _ (T69.setTop (mkF m 233 #[.val (.int p1), .val (.int p2), .val (.int p3), .val (.int v1), .val (.int v2), .val (.int v3), .val (.int v4), .val (.int v5), .val (.int z14), .val (.int z15), .val (.int z16), .val (.ref r17), .val (.ref r19), .val (.ref b22), .val (.int v30), .val (.ref b63), .unset, .unset, .unset] []))
          refine go (fun _ q => XS.iconst X69.here hx rfl (hb hby at_233) q) ?_
          show Go p e below _ (T69.setTop (mkF m 234 #[.val (.int p1), .val (.int p2), .val (.int p3), .val (.int v1), .val (.int v2), .val (.int v3), .val (.int v4), .val (.int v5), .val (.int z14), .val (.int z15), .val (.int z16), .val (.ref r17), .val (.ref r19), .val (.ref b22), .val (.int v30), .val (.ref b63), .unset, .unset, .unset] [(.int (0 : Int32))]))
          exact hj75 _ (by rw [if_neg hc76])
      intro z83 hz83
      show Go p e below _ (T69.setTop (mkF m 234 #[.val (.int p1), .val (.int p2), .val (.int p3), .val (.int v1), .val (.int v2), .val (.int v3), .val (.int v4), .val (.int v5), .val (.int z14), .val (.int z15), .val (.int z16), .val (.ref r17), .val (.ref r19), .val (.ref b22), .val (.int v30), .val (.ref b63), .unset, .unset, .unset] [(.int z83)]))
      refine go (fun _ q => XS.istore X69.here hx rfl (hb hby at_234) rfl (l' := #[.val (.int p1), .val (.int p2), .val (.int p3), .val (.int v1), .val (.int v2), .val (.int v3), .val (.int v4), .val (.int v5), .val (.int z14), .val (.int z15), .val (.int z16), .val (.ref r17), .val (.ref r19), .val (.ref b22), .val (.int v30), .val (.ref b63), .val (.int z83), .unset, .unset]) rfl q) ?_
      show Go p e below _ (T69.setTop (mkF m 236 #[.val (.int p1), .val (.int p2), .val (.int p3), .val (.int v1), .val (.int v2), .val (.int v3), .val (.int v4), .val (.int v5), .val (.int z14), .val (.int z15), .val (.int z16), .val (.ref r17), .val (.ref r19), .val (.ref b22), .val (.int v30), .val (.ref b63), .val (.int z83), .unset, .unset] []))
      refine go (fun _ q => XS.iload X69.here hx rfl (hb hby at_236) rfl q) ?_
      show Go p e below _ (T69.setTop (mkF m 238 #[.val (.int p1), .val (.int p2), .val (.int p3), .val (.int v1), .val (.int v2), .val (.int v3), .val (.int v4), .val (.int v5), .val (.int z14), .val (.int z15), .val (.int z16), .val (.ref r17), .val (.ref r19), .val (.ref b22), .val (.int v30), .val (.ref b63), .val (.int z83), .unset, .unset] [(.int v30)]))
      refine go (fun _ q => XS.ifYes X69.here hx rfl (pc0 := 238) (pc' := 250) rfl (hb hby at_238) rfl ((if0 _ _).trans (feq hc31).2) (by decide) (by decide) q) ?_
      show Go p e below _ (T69.setTop (mkF m 250 #[.val (.int p1), .val (.int p2), .val (.int p3), .val (.int v1), .val (.int v2), .val (.int v3), .val (.int v4), .val (.int v5), .val (.int z14), .val (.int z15), .val (.int z16), .val (.ref r17), .val (.ref r19), .val (.ref b22), .val (.int v30), .val (.ref b63), .val (.int z83), .unset, .unset] []))
      refine go (fun _ q => XS.iconst X69.here hx rfl (hb hby at_250) q) ?_
      show Go p e below _ (T69.setTop (mkF m 251 #[.val (.int p1), .val (.int p2), .val (.int p3), .val (.int v1), .val (.int v2), .val (.int v3), .val (.int v4), .val (.int v5), .val (.int z14), .val (.int z15), .val (.int z16), .val (.ref r17), .val (.ref r19), .val (.ref b22), .val (.int v30), .val (.ref b63), .val (.int z83), .unset, .unset] [(.int (0 : Int32))]))
      refine go (fun _ q => XS.istore X69.here hx rfl (hb hby at_251) rfl (l' := #[.val (.int p1), .val (.int p2), .val (.int p3), .val (.int v1), .val (.int v2), .val (.int v3), .val (.int v4), .val (.int v5), .val (.int z14), .val (.int z15), .val (.int z16), .val (.ref r17), .val (.ref r19), .val (.ref b22), .val (.int v30), .val (.ref b63), .val (.int z83), .val (.int (0 : Int32)), .unset]) rfl q) ?_
      show Go p e below _ (T69.setTop (mkF m 253 #[.val (.int p1), .val (.int p2), .val (.int p3), .val (.int v1), .val (.int v2), .val (.int v3), .val (.int v4), .val (.int v5), .val (.int z14), .val (.int z15), .val (.int z16), .val (.ref r17), .val (.ref r19), .val (.ref b22), .val (.int v30), .val (.ref b63), .val (.int z83), .val (.int (0 : Int32)), .unset] []))
      refine go (fun _ q => XS.aload X69.here hx rfl (hb hby at_253) rfl rfl q) ?_
      show Go p e below _ (T69.setTop (mkF m 255 #[.val (.int p1), .val (.int p2), .val (.int p3), .val (.int v1), .val (.int v2), .val (.int v3), .val (.int v4), .val (.int v5), .val (.int z14), .val (.int z15), .val (.int z16), .val (.ref r17), .val (.ref r19), .val (.ref b22), .val (.int v30), .val (.ref b63), .val (.int z83), .val (.int (0 : Int32)), .unset] [(.ref b22)]))
      refine go (fun _ q => XS.aload X69.here hx rfl (hb hby at_255) rfl rfl q) ?_
      show Go p e below _ (T69.setTop (mkF m 257 #[.val (.int p1), .val (.int p2), .val (.int p3), .val (.int v1), .val (.int v2), .val (.int v3), .val (.int v4), .val (.int v5), .val (.int z14), .val (.int z15), .val (.int z16), .val (.ref r17), .val (.ref r19), .val (.ref b22), .val (.int v30), .val (.ref b63), .val (.int z83), .val (.int (0 : Int32)), .unset] [(.ref b63), (.ref b22)]))
      refine own_callV X69 hx hZ hown rfl (hw _ (List.mem_of_getElem? (i := 61) rfl)) (hw _ (List.mem_of_getElem? (i := 62) rfl)) (hw _ (List.mem_of_getElem? (i := 63) rfl)) (hw _ (List.mem_of_getElem? (i := 64) rfl)) (hw _ (List.mem_of_getElem? (i := 28) rfl)) (hw _ (List.mem_of_getElem? (i := 65) rfl)) (rmEO l Z a0 hw [] b22 b63 T69.heap n0 E69 (own_noI hw)) (by decide) (by decide) (W := 0) (by decide) (by decide) (by decide) (a := b22) E_b22_73 (g := (mkF m 257 #[.val (.int p1), .val (.int p2), .val (.int p3), .val (.int v1), .val (.int v2), .val (.int v3), .val (.int v4), .val (.int v5), .val (.int z14), .val (.int z15), .val (.int z16), .val (.ref r17), .val (.ref r19), .val (.ref b22), .val (.int v30), .val (.ref b63), .val (.int z83), .val (.int (0 : Int32)), .unset] [(.ref b63), (.ref b22)])) rfl (by rw [hml]; rfl) (argsL := [(.ref b63)]) (rest := []) rfl rfl (lenOf pd_0_2 rfl) (by show 2 * 0 + _ ≤ _; exact Nat.le_of_eq rfl) (hb hby at_257) ?_
      rintro _ T84 L84 X84 ⟨rfl, N84q, e84⟩
      have N84 := Fr.app N69 N84q
      show Go p e below _ (T84.setTop (mkF m 260 #[.val (.int p1), .val (.int p2), .val (.int p3), .val (.int v1), .val (.int v2), .val (.int v3), .val (.int v4), .val (.int v5), .val (.int z14), .val (.int z15), .val (.int z16), .val (.ref r17), .val (.ref r19), .val (.ref b22), .val (.int v30), .val (.ref b63), .val (.int z83), .val (.int (0 : Int32)), .unset] [(.int (0 : Int32))]))
      refine go (fun _ q => XS.istore X84.here hx rfl (hb hby at_260) rfl (l' := #[.val (.int p1), .val (.int p2), .val (.int p3), .val (.int v1), .val (.int v2), .val (.int v3), .val (.int v4), .val (.int v5), .val (.int z14), .val (.int z15), .val (.int z16), .val (.ref r17), .val (.ref r19), .val (.ref b22), .val (.int v30), .val (.ref b63), .val (.int z83), .val (.int (0 : Int32)), .val (.int (0 : Int32))]) rfl q) ?_
      show Go p e below _ (T84.setTop (mkF m 262 #[.val (.int p1), .val (.int p2), .val (.int p3), .val (.int v1), .val (.int v2), .val (.int v3), .val (.int v4), .val (.int v5), .val (.int z14), .val (.int z15), .val (.int z16), .val (.ref r17), .val (.ref r19), .val (.ref b22), .val (.int v30), .val (.ref b63), .val (.int z83), .val (.int (0 : Int32)), .val (.int (0 : Int32))] []))
      refine go (fun _ q => XS.iload X84.here hx rfl (hb hby at_262) rfl q) ?_
      show Go p e below _ (T84.setTop (mkF m 264 #[.val (.int p1), .val (.int p2), .val (.int p3), .val (.int v1), .val (.int v2), .val (.int v3), .val (.int v4), .val (.int v5), .val (.int z14), .val (.int z15), .val (.int z16), .val (.ref r17), .val (.ref r19), .val (.ref b22), .val (.int v30), .val (.ref b63), .val (.int z83), .val (.int (0 : Int32)), .val (.int (0 : Int32))] [(.int v30)]))
      refine go (fun _ q => XS.ifYes X84.here hx rfl (pc0 := 264) (pc' := 295) rfl (hb hby at_264) rfl ((if0 _ _).trans (feq hc31).2) (by decide) (by decide) q) ?_
      show Go p e below _ (T84.setTop (mkF m 295 #[.val (.int p1), .val (.int p2), .val (.int p3), .val (.int v1), .val (.int v2), .val (.int v3), .val (.int v4), .val (.int v5), .val (.int z14), .val (.int z15), .val (.int z16), .val (.ref r17), .val (.ref r19), .val (.ref b22), .val (.int v30), .val (.ref b63), .val (.int z83), .val (.int (0 : Int32)), .val (.int (0 : Int32))] []))
      refine go (fun _ q => XS.iload X84.here hx rfl (hb hby at_295) rfl q) ?_
      show Go p e below _ (T84.setTop (mkF m 297 #[.val (.int p1), .val (.int p2), .val (.int p3), .val (.int v1), .val (.int v2), .val (.int v3), .val (.int v4), .val (.int v5), .val (.int z14), .val (.int z15), .val (.int z16), .val (.ref r17), .val (.ref r19), .val (.ref b22), .val (.int v30), .val (.ref b63), .val (.int z83), .val (.int (0 : Int32)), .val (.int (0 : Int32))] [(.int (0 : Int32))]))
      refine go (fun _ q => XS.iload X84.here hx rfl (hb hby at_297) rfl q) ?_
      show Go p e below _ (T84.setTop (mkF m 299 #[.val (.int p1), .val (.int p2), .val (.int p3), .val (.int v1), .val (.int v2), .val (.int v3), .val (.int v4), .val (.int v5), .val (.int z14), .val (.int z15), .val (.int z16), .val (.ref r17), .val (.ref r19), .val (.ref b22), .val (.int v30), .val (.ref b63), .val (.int z83), .val (.int (0 : Int32)), .val (.int (0 : Int32))] [(.int (0 : Int32)), (.int (0 : Int32))]))
      refine go (fun _ q => XS.icmpNo X84.here hx rfl (hb hby at_299) rfl (teq (by decide : (0 : Int32) = (0 : Int32))).2 q) ?_
      show Go p e below _ (T84.setTop (mkF m 302 #[.val (.int p1), .val (.int p2), .val (.int p3), .val (.int v1), .val (.int v2), .val (.int v3), .val (.int v4), .val (.int v5), .val (.int z14), .val (.int z15), .val (.int z16), .val (.ref r17), .val (.ref r19), .val (.ref b22), .val (.int v30), .val (.ref b63), .val (.int z83), .val (.int (0 : Int32)), .val (.int (0 : Int32))] []))
      refine go (fun _ q => XS.iconst X84.here hx rfl (hb hby at_302) q) ?_
      show Go p e below _ (T84.setTop (mkF m 303 #[.val (.int p1), .val (.int p2), .val (.int p3), .val (.int v1), .val (.int v2), .val (.int v3), .val (.int v4), .val (.int v5), .val (.int z14), .val (.int z15), .val (.int z16), .val (.ref r17), .val (.ref r19), .val (.ref b22), .val (.int v30), .val (.ref b63), .val (.int z83), .val (.int (0 : Int32)), .val (.int (0 : Int32))] [(.int (1 : Int32))]))
      refine go (fun _ q => XS.goto X84.here hx rfl (pc0 := 303) (pc' := 307) rfl (hb hby at_303) (by decide) (by decide) q) ?_
      show Go p e below _ (T84.setTop (mkF m 307 #[.val (.int p1), .val (.int p2), .val (.int p3), .val (.int v1), .val (.int v2), .val (.int v3), .val (.int v4), .val (.int v5), .val (.int z14), .val (.int z15), .val (.int z16), .val (.ref r17), .val (.ref r19), .val (.ref b22), .val (.int v30), .val (.ref b63), .val (.int z83), .val (.int (0 : Int32)), .val (.int (0 : Int32))] [(.int (1 : Int32))]))
      exact own_retZW (z' := (1 : Int32)) X84 hx hlk hS hk e84 CR hEL hZ hret (hb hby at_307) (by decide) (by decide) rfl ⟨rfl, N84⟩
    · refine go (fun _ q => XS.icmpYes X26.here hx rfl (pc0 := 166) (pc' := 183) rfl (hb hby at_166) rfl (feq hc62).2 (by decide) (by decide) q) ?_
      show Go p e below _ (T26.setTop (mkF m 183 #[.val (.int p1), .val (.int p2), .val (.int p3), .val (.int v1), .val (.int v2), .val (.int v3), .val (.int v4), .val (.int v5), .val (.int z14), .val (.int z15), .val (.int z16), .val (.ref r17), .val (.ref r19), .val (.ref b22), .val (.int v30), .unset, .unset, .unset, .unset] []))
      refine go (fun _ q => XS.iload X26.here hx rfl (hb hby at_183) rfl q) ?_
      show Go p e below _ (T26.setTop (mkF m 185 #[.val (.int p1), .val (.int p2), .val (.int p3), .val (.int v1), .val (.int v2), .val (.int v3), .val (.int v4), .val (.int v5), .val (.int z14), .val (.int z15), .val (.int z16), .val (.ref r17), .val (.ref r19), .val (.ref b22), .val (.int v30), .unset, .unset, .unset, .unset] [(.int v30)]))
      refine go (fun _ q => XS.iconst X26.here hx rfl (hb hby at_185) q) ?_
      show Go p e below _ (T26.setTop (mkF m 186 #[.val (.int p1), .val (.int p2), .val (.int p3), .val (.int v1), .val (.int v2), .val (.int v3), .val (.int v4), .val (.int v5), .val (.int z14), .val (.int z15), .val (.int z16), .val (.ref r17), .val (.ref r19), .val (.ref b22), .val (.int v30), .unset, .unset, .unset, .unset] [(.int (2 : Int32)), (.int v30)]))
      by_cases hc85 : v30 = (2 : Int32)
      · refine go (fun _ q => XS.icmpNo X26.here hx rfl (hb hby at_186) rfl (teq hc85).2 q) ?_
        show Go p e below _ (T26.setTop (mkF m 189 #[.val (.int p1), .val (.int p2), .val (.int p3), .val (.int v1), .val (.int v2), .val (.int v3), .val (.int v4), .val (.int v5), .val (.int z14), .val (.int z15), .val (.int z16), .val (.ref r17), .val (.ref r19), .val (.ref b22), .val (.int v30), .unset, .unset, .unset, .unset] []))
        refine go (fun _ q => XS.aconstNull X26.here hx rfl (hb hby at_189) q) ?_
        show Go p e below _ (T26.setTop (mkF m 190 #[.val (.int p1), .val (.int p2), .val (.int p3), .val (.int v1), .val (.int v2), .val (.int v3), .val (.int v4), .val (.int v5), .val (.int z14), .val (.int z15), .val (.int z16), .val (.ref r17), .val (.ref r19), .val (.ref b22), .val (.int v30), .unset, .unset, .unset, .unset] [.null]))
        refine go (fun _ q => XS.astore X26.here hx rfl (hb hby at_190) rfl rfl (l' := #[.val (.int p1), .val (.int p2), .val (.int p3), .val (.int v1), .val (.int v2), .val (.int v3), .val (.int v4), .val (.int v5), .val (.int z14), .val (.int z15), .val (.int z16), .val (.ref r17), .val (.ref r19), .val (.ref b22), .val (.int v30), .val .null, .unset, .unset, .unset]) rfl q) ?_
        show Go p e below _ (T26.setTop (mkF m 192 #[.val (.int p1), .val (.int p2), .val (.int p3), .val (.int v1), .val (.int v2), .val (.int v3), .val (.int v4), .val (.int v5), .val (.int z14), .val (.int z15), .val (.int z16), .val (.ref r17), .val (.ref r19), .val (.ref b22), .val (.int v30), .val .null, .unset, .unset, .unset] []))
        refine go (fun _ q => XS.goto X26.here hx rfl (pc0 := 192) (pc' := 199) rfl (hb hby at_192) (by decide) (by decide) q) ?_
        show Go p e below _ (T26.setTop (mkF m 199 #[.val (.int p1), .val (.int p2), .val (.int p3), .val (.int v1), .val (.int v2), .val (.int v3), .val (.int v4), .val (.int v5), .val (.int z14), .val (.int z15), .val (.int z16), .val (.ref r17), .val (.ref r19), .val (.ref b22), .val (.int v30), .val .null, .unset, .unset, .unset] []))
        refine go (fun _ q => XS.iloadN X26.here hx rfl (hb hby at_199) rfl q) ?_
        show Go p e below _ (T26.setTop (mkF m 200 #[.val (.int p1), .val (.int p2), .val (.int p3), .val (.int v1), .val (.int v2), .val (.int v3), .val (.int v4), .val (.int v5), .val (.int z14), .val (.int z15), .val (.int z16), .val (.ref r17), .val (.ref r19), .val (.ref b22), .val (.int v30), .val .null, .unset, .unset, .unset] [(.int v1)]))
        refine go (fun _ q => XS.iload X26.here hx rfl (hb hby at_200) rfl q) ?_
        show Go p e below _ (T26.setTop (mkF m 202 #[.val (.int p1), .val (.int p2), .val (.int p3), .val (.int v1), .val (.int v2), .val (.int v3), .val (.int v4), .val (.int v5), .val (.int z14), .val (.int z15), .val (.int z16), .val (.ref r17), .val (.ref r19), .val (.ref b22), .val (.int v30), .val .null, .unset, .unset, .unset] [(.int z14), (.int v1)]))
        suffices hj86 : ∀ (z94 : Int32), z94 = (if v1 = z14 then (if v1 < (1 : Int32) then (if v1 < (2 : Int32) then (1 : Int32) else (if v3 = z16 then (1 : Int32) else (0 : Int32))) else (if v2 = z15 then (if v1 < (2 : Int32) then (1 : Int32) else (if v3 = z16 then (1 : Int32) else (0 : Int32))) else (0 : Int32))) else (0 : Int32)) → Go p e below (DnW below s Z EL1 vm0 h0 ((Q0 n0)) room_1.cells room_1.slots) (T26.setTop (mkF m 234 #[.val (.int p1), .val (.int p2), .val (.int p3), .val (.int v1), .val (.int v2), .val (.int v3), .val (.int v4), .val (.int v5), .val (.int z14), .val (.int z15), .val (.int z16), .val (.ref r17), .val (.ref r19), .val (.ref b22), .val (.int v30), .val .null, .unset, .unset, .unset] [(.int z94)])) by
          by_cases hc87 : v1 = z14
          · refine go (fun _ q => XS.icmpNo X26.here hx rfl (hb hby at_202) rfl (teq hc87).2 q) ?_
            show Go p e below _ (T26.setTop (mkF m 205 #[.val (.int p1), .val (.int p2), .val (.int p3), .val (.int v1), .val (.int v2), .val (.int v3), .val (.int v4), .val (.int v5), .val (.int z14), .val (.int z15), .val (.int z16), .val (.ref r17), .val (.ref r19), .val (.ref b22), .val (.int v30), .val .null, .unset, .unset, .unset] []))
            refine go (fun _ q => XS.iloadN X26.here hx rfl (hb hby at_205) rfl q) ?_
            show Go p e below _ (T26.setTop (mkF m 206 #[.val (.int p1), .val (.int p2), .val (.int p3), .val (.int v1), .val (.int v2), .val (.int v3), .val (.int v4), .val (.int v5), .val (.int z14), .val (.int z15), .val (.int z16), .val (.ref r17), .val (.ref r19), .val (.ref b22), .val (.int v30), .val .null, .unset, .unset, .unset] [(.int v1)]))
            refine go (fun _ q => XS.iconst X26.here hx rfl (hb hby at_206) q) ?_
            show Go p e below _ (T26.setTop (mkF m 207 #[.val (.int p1), .val (.int p2), .val (.int p3), .val (.int v1), .val (.int v2), .val (.int v3), .val (.int v4), .val (.int v5), .val (.int z14), .val (.int z15), .val (.int z16), .val (.ref r17), .val (.ref r19), .val (.ref b22), .val (.int v30), .val .null, .unset, .unset, .unset] [(.int (1 : Int32)), (.int v1)]))
            by_cases hc88 : v1 < (1 : Int32)
            · refine go (fun _ q => XS.icmpYes X26.here hx rfl (pc0 := 207) (pc' := 217) rfl (hb hby at_207) rfl (tlt hc88).1 (by decide) (by decide) q) ?_
              show Go p e below _ (T26.setTop (mkF m 217 #[.val (.int p1), .val (.int p2), .val (.int p3), .val (.int v1), .val (.int v2), .val (.int v3), .val (.int v4), .val (.int v5), .val (.int z14), .val (.int z15), .val (.int z16), .val (.ref r17), .val (.ref r19), .val (.ref b22), .val (.int v30), .val .null, .unset, .unset, .unset] []))
              refine go (fun _ q => XS.iloadN X26.here hx rfl (hb hby at_217) rfl q) ?_
              show Go p e below _ (T26.setTop (mkF m 218 #[.val (.int p1), .val (.int p2), .val (.int p3), .val (.int v1), .val (.int v2), .val (.int v3), .val (.int v4), .val (.int v5), .val (.int z14), .val (.int z15), .val (.int z16), .val (.ref r17), .val (.ref r19), .val (.ref b22), .val (.int v30), .val .null, .unset, .unset, .unset] [(.int v1)]))
              refine go (fun _ q => XS.iconst X26.here hx rfl (hb hby at_218) q) ?_
              show Go p e below _ (T26.setTop (mkF m 219 #[.val (.int p1), .val (.int p2), .val (.int p3), .val (.int v1), .val (.int v2), .val (.int v3), .val (.int v4), .val (.int v5), .val (.int z14), .val (.int z15), .val (.int z16), .val (.ref r17), .val (.ref r19), .val (.ref b22), .val (.int v30), .val .null, .unset, .unset, .unset] [(.int (2 : Int32)), (.int v1)]))
              by_cases hc89 : v1 < (2 : Int32)
              · refine go (fun _ q => XS.icmpYes X26.here hx rfl (pc0 := 219) (pc' := 229) rfl (hb hby at_219) rfl (tlt hc89).1 (by decide) (by decide) q) ?_
                show Go p e below _ (T26.setTop (mkF m 229 #[.val (.int p1), .val (.int p2), .val (.int p3), .val (.int v1), .val (.int v2), .val (.int v3), .val (.int v4), .val (.int v5), .val (.int z14), .val (.int z15), .val (.int z16), .val (.ref r17), .val (.ref r19), .val (.ref b22), .val (.int v30), .val .null, .unset, .unset, .unset] []))
                refine go (fun _ q => XS.iconst X26.here hx rfl (hb hby at_229) q) ?_
                show Go p e below _ (T26.setTop (mkF m 230 #[.val (.int p1), .val (.int p2), .val (.int p3), .val (.int v1), .val (.int v2), .val (.int v3), .val (.int v4), .val (.int v5), .val (.int z14), .val (.int z15), .val (.int z16), .val (.ref r17), .val (.ref r19), .val (.ref b22), .val (.int v30), .val .null, .unset, .unset, .unset] [(.int (1 : Int32))]))
                refine go (fun _ q => XS.goto X26.here hx rfl (pc0 := 230) (pc' := 234) rfl (hb hby at_230) (by decide) (by decide) q) ?_
                show Go p e below _ (T26.setTop (mkF m 234 #[.val (.int p1), .val (.int p2), .val (.int p3), .val (.int v1), .val (.int v2), .val (.int v3), .val (.int v4), .val (.int v5), .val (.int z14), .val (.int z15), .val (.int z16), .val (.ref r17), .val (.ref r19), .val (.ref b22), .val (.int v30), .val .null, .unset, .unset, .unset] [(.int (1 : Int32))]))
                exact hj86 _ (by rw [if_pos hc87, if_pos hc88, if_pos hc89])
              · refine go (fun _ q => XS.icmpNo X26.here hx rfl (hb hby at_219) rfl (flt hc89).1 q) ?_
                show Go p e below _ (T26.setTop (mkF m 222 #[.val (.int p1), .val (.int p2), .val (.int p3), .val (.int v1), .val (.int v2), .val (.int v3), .val (.int v4), .val (.int v5), .val (.int z14), .val (.int z15), .val (.int z16), .val (.ref r17), .val (.ref r19), .val (.ref b22), .val (.int v30), .val .null, .unset, .unset, .unset] []))
                refine go (fun _ q => XS.iload X26.here hx rfl (hb hby at_222) rfl q) ?_
                show Go p e below _ (T26.setTop (mkF m 224 #[.val (.int p1), .val (.int p2), .val (.int p3), .val (.int v1), .val (.int v2), .val (.int v3), .val (.int v4), .val (.int v5), .val (.int z14), .val (.int z15), .val (.int z16), .val (.ref r17), .val (.ref r19), .val (.ref b22), .val (.int v30), .val .null, .unset, .unset, .unset] [(.int v3)]))
                refine go (fun _ q => XS.iload X26.here hx rfl (hb hby at_224) rfl q) ?_
                show Go p e below _ (T26.setTop (mkF m 226 #[.val (.int p1), .val (.int p2), .val (.int p3), .val (.int v1), .val (.int v2), .val (.int v3), .val (.int v4), .val (.int v5), .val (.int z14), .val (.int z15), .val (.int z16), .val (.ref r17), .val (.ref r19), .val (.ref b22), .val (.int v30), .val .null, .unset, .unset, .unset] [(.int z16), (.int v3)]))
                by_cases hc90 : v3 = z16
                · refine go (fun _ q => XS.icmpNo X26.here hx rfl (hb hby at_226) rfl (teq hc90).2 q) ?_
                  show Go p e below _ (T26.setTop (mkF m 229 #[.val (.int p1), .val (.int p2), .val (.int p3), .val (.int v1), .val (.int v2), .val (.int v3), .val (.int v4), .val (.int v5), .val (.int z14), .val (.int z15), .val (.int z16), .val (.ref r17), .val (.ref r19), .val (.ref b22), .val (.int v30), .val .null, .unset, .unset, .unset] []))
                  refine go (fun _ q => XS.iconst X26.here hx rfl (hb hby at_229) q) ?_
                  show Go p e below _ (T26.setTop (mkF m 230 #[.val (.int p1), .val (.int p2), .val (.int p3), .val (.int v1), .val (.int v2), .val (.int v3), .val (.int v4), .val (.int v5), .val (.int z14), .val (.int z15), .val (.int z16), .val (.ref r17), .val (.ref r19), .val (.ref b22), .val (.int v30), .val .null, .unset, .unset, .unset] [(.int (1 : Int32))]))
                  refine go (fun _ q => XS.goto X26.here hx rfl (pc0 := 230) (pc' := 234) rfl (hb hby at_230) (by decide) (by decide) q) ?_
                  show Go p e below _ (T26.setTop (mkF m 234 #[.val (.int p1), .val (.int p2), .val (.int p3), .val (.int v1), .val (.int v2), .val (.int v3), .val (.int v4), .val (.int v5), .val (.int z14), .val (.int z15), .val (.int z16), .val (.ref r17), .val (.ref r19), .val (.ref b22), .val (.int v30), .val .null, .unset, .unset, .unset] [(.int (1 : Int32))]))
                  exact hj86 _ (by rw [if_pos hc87, if_pos hc88, if_neg hc89, if_pos hc90])
                · refine go (fun _ q => XS.icmpYes X26.here hx rfl (pc0 := 226) (pc' := 233) rfl (hb hby at_226) rfl (feq hc90).2 (by decide) (by decide) q) ?_
                  show Go p e below _ (T26.setTop (mkF m 233 #[.val (.int p1), .val (.int p2), .val (.int p3), .val (.int v1), .val (.int v2), .val (.int v3), .val (.int v4), .val (.int v5), .val (.int z14), .val (.int z15), .val (.int z16), .val (.ref r17), .val (.ref r19), .val (.ref b22), .val (.int v30), .val .null, .unset, .unset, .unset] []))
                  refine go (fun _ q => XS.iconst X26.here hx rfl (hb hby at_233) q) ?_
                  show Go p e below _ (T26.setTop (mkF m 234 #[.val (.int p1), .val (.int p2), .val (.int p3), .val (.int v1), .val (.int v2), .val (.int v3), .val (.int v4), .val (.int v5), .val (.int z14), .val (.int z15), .val (.int z16), .val (.ref r17), .val (.ref r19), .val (.ref b22), .val (.int v30), .val .null, .unset, .unset, .unset] [(.int (0 : Int32))]))
                  exact hj86 _ (by rw [if_pos hc87, if_pos hc88, if_neg hc89, if_neg hc90])
            · refine go (fun _ q => XS.icmpNo X26.here hx rfl (hb hby at_207) rfl (flt hc88).1 q) ?_
              show Go p e below _ (T26.setTop (mkF m 210 #[.val (.int p1), .val (.int p2), .val (.int p3), .val (.int v1), .val (.int v2), .val (.int v3), .val (.int v4), .val (.int v5), .val (.int z14), .val (.int z15), .val (.int z16), .val (.ref r17), .val (.ref r19), .val (.ref b22), .val (.int v30), .val .null, .unset, .unset, .unset] []))
              refine go (fun _ q => XS.iload X26.here hx rfl (hb hby at_210) rfl q) ?_
              show Go p e below _ (T26.setTop (mkF m 212 #[.val (.int p1), .val (.int p2), .val (.int p3), .val (.int v1), .val (.int v2), .val (.int v3), .val (.int v4), .val (.int v5), .val (.int z14), .val (.int z15), .val (.int z16), .val (.ref r17), .val (.ref r19), .val (.ref b22), .val (.int v30), .val .null, .unset, .unset, .unset] [(.int v2)]))
              refine go (fun _ q => XS.iload X26.here hx rfl (hb hby at_212) rfl q) ?_
              show Go p e below _ (T26.setTop (mkF m 214 #[.val (.int p1), .val (.int p2), .val (.int p3), .val (.int v1), .val (.int v2), .val (.int v3), .val (.int v4), .val (.int v5), .val (.int z14), .val (.int z15), .val (.int z16), .val (.ref r17), .val (.ref r19), .val (.ref b22), .val (.int v30), .val .null, .unset, .unset, .unset] [(.int z15), (.int v2)]))
              by_cases hc91 : v2 = z15
              · refine go (fun _ q => XS.icmpNo X26.here hx rfl (hb hby at_214) rfl (teq hc91).2 q) ?_
                show Go p e below _ (T26.setTop (mkF m 217 #[.val (.int p1), .val (.int p2), .val (.int p3), .val (.int v1), .val (.int v2), .val (.int v3), .val (.int v4), .val (.int v5), .val (.int z14), .val (.int z15), .val (.int z16), .val (.ref r17), .val (.ref r19), .val (.ref b22), .val (.int v30), .val .null, .unset, .unset, .unset] []))
                refine go (fun _ q => XS.iloadN X26.here hx rfl (hb hby at_217) rfl q) ?_
                show Go p e below _ (T26.setTop (mkF m 218 #[.val (.int p1), .val (.int p2), .val (.int p3), .val (.int v1), .val (.int v2), .val (.int v3), .val (.int v4), .val (.int v5), .val (.int z14), .val (.int z15), .val (.int z16), .val (.ref r17), .val (.ref r19), .val (.ref b22), .val (.int v30), .val .null, .unset, .unset, .unset] [(.int v1)]))
                refine go (fun _ q => XS.iconst X26.here hx rfl (hb hby at_218) q) ?_
                show Go p e below _ (T26.setTop (mkF m 219 #[.val (.int p1), .val (.int p2), .val (.int p3), .val (.int v1), .val (.int v2), .val (.int v3), .val (.int v4), .val (.int v5), .val (.int z14), .val (.int z15), .val (.int z16), .val (.ref r17), .val (.ref r19), .val (.ref b22), .val (.int v30), .val .null, .unset, .unset, .unset] [(.int (2 : Int32)), (.int v1)]))
                by_cases hc92 : v1 < (2 : Int32)
                · refine go (fun _ q => XS.icmpYes X26.here hx rfl (pc0 := 219) (pc' := 229) rfl (hb hby at_219) rfl (tlt hc92).1 (by decide) (by decide) q) ?_
                  show Go p e below _ (T26.setTop (mkF m 229 #[.val (.int p1), .val (.int p2), .val (.int p3), .val (.int v1), .val (.int v2), .val (.int v3), .val (.int v4), .val (.int v5), .val (.int z14), .val (.int z15), .val (.int z16), .val (.ref r17), .val (.ref r19), .val (.ref b22), .val (.int v30), .val .null, .unset, .unset, .unset] []))
                  refine go (fun _ q => XS.iconst X26.here hx rfl (hb hby at_229) q) ?_
                  show Go p e below _ (T26.setTop (mkF m 230 #[.val (.int p1), .val (.int p2), .val (.int p3), .val (.int v1), .val (.int v2), .val (.int v3), .val (.int v4), .val (.int v5), .val (.int z14), .val (.int z15), .val (.int z16), .val (.ref r17), .val (.ref r19), .val (.ref b22), .val (.int v30), .val .null, .unset, .unset, .unset] [(.int (1 : Int32))]))
                  refine go (fun _ q => XS.goto X26.here hx rfl (pc0 := 230) (pc' := 234) rfl (hb hby at_230) (by decide) (by decide) q) ?_
                  show Go p e below _ (T26.setTop (mkF m 234 #[.val (.int p1), .val (.int p2), .val (.int p3), .val (.int v1), .val (.int v2), .val (.int v3), .val (.int v4), .val (.int v5), .val (.int z14), .val (.int z15), .val (.int z16), .val (.ref r17), .val (.ref r19), .val (.ref b22), .val (.int v30), .val .null, .unset, .unset, .unset] [(.int (1 : Int32))]))
                  exact hj86 _ (by rw [if_pos hc87, if_neg hc88, if_pos hc91, if_pos hc92])
                · refine go (fun _ q => XS.icmpNo X26.here hx rfl (hb hby at_219) rfl (flt hc92).1 q) ?_
                  show Go p e below _ (T26.setTop (mkF m 222 #[.val (.int p1), .val (.int p2), .val (.int p3), .val (.int v1), .val (.int v2), .val (.int v3), .val (.int v4), .val (.int v5), .val (.int z14), .val (.int z15), .val (.int z16), .val (.ref r17), .val (.ref r19), .val (.ref b22), .val (.int v30), .val .null, .unset, .unset, .unset] []))
                  refine go (fun _ q => XS.iload X26.here hx rfl (hb hby at_222) rfl q) ?_
                  show Go p e below _ (T26.setTop (mkF m 224 #[.val (.int p1), .val (.int p2), .val (.int p3), .val (.int v1), .val (.int v2), .val (.int v3), .val (.int v4), .val (.int v5), .val (.int z14), .val (.int z15), .val (.int z16), .val (.ref r17), .val (.ref r19), .val (.ref b22), .val (.int v30), .val .null, .unset, .unset, .unset] [(.int v3)]))
                  refine go (fun _ q => XS.iload X26.here hx rfl (hb hby at_224) rfl q) ?_
                  show Go p e below _ (T26.setTop (mkF m 226 #[.val (.int p1), .val (.int p2), .val (.int p3), .val (.int v1), .val (.int v2), .val (.int v3), .val (.int v4), .val (.int v5), .val (.int z14), .val (.int z15), .val (.int z16), .val (.ref r17), .val (.ref r19), .val (.ref b22), .val (.int v30), .val .null, .unset, .unset, .unset] [(.int z16), (.int v3)]))
                  by_cases hc93 : v3 = z16
                  · refine go (fun _ q => XS.icmpNo X26.here hx rfl (hb hby at_226) rfl (teq hc93).2 q) ?_
                    show Go p e below _ (T26.setTop (mkF m 229 #[.val (.int p1), .val (.int p2), .val (.int p3), .val (.int v1), .val (.int v2), .val (.int v3), .val (.int v4), .val (.int v5), .val (.int z14), .val (.int z15), .val (.int z16), .val (.ref r17), .val (.ref r19), .val (.ref b22), .val (.int v30), .val .null, .unset, .unset, .unset] []))
                    refine go (fun _ q => XS.iconst X26.here hx rfl (hb hby at_229) q) ?_
                    show Go p e below _ (T26.setTop (mkF m 230 #[.val (.int p1), .val (.int p2), .val (.int p3), .val (.int v1), .val (.int v2), .val (.int v3), .val (.int v4), .val (.int v5), .val (.int z14), .val (.int z15), .val (.int z16), .val (.ref r17), .val (.ref r19), .val (.ref b22), .val (.int v30), .val .null, .unset, .unset, .unset] [(.int (1 : Int32))]))
                    refine go (fun _ q => XS.goto X26.here hx rfl (pc0 := 230) (pc' := 234) rfl (hb hby at_230) (by decide) (by decide) q) ?_
                    show Go p e below _ (T26.setTop (mkF m 234 #[.val (.int p1), .val (.int p2), .val (.int p3), .val (.int v1), .val (.int v2), .val (.int v3), .val (.int v4), .val (.int v5), .val (.int z14), .val (.int z15), .val (.int z16), .val (.ref r17), .val (.ref r19), .val (.ref b22), .val (.int v30), .val .null, .unset, .unset, .unset] [(.int (1 : Int32))]))
                    exact hj86 _ (by rw [if_pos hc87, if_neg hc88, if_pos hc91, if_neg hc92, if_pos hc93])
                  · refine go (fun _ q => XS.icmpYes X26.here hx rfl (pc0 := 226) (pc' := 233) rfl (hb hby at_226) rfl (feq hc93).2 (by decide) (by decide) q) ?_
                    show Go p e below _ (T26.setTop (mkF m 233 #[.val (.int p1), .val (.int p2), .val (.int p3), .val (.int v1), .val (.int v2), .val (.int v3), .val (.int v4), .val (.int v5), .val (.int z14), .val (.int z15), .val (.int z16), .val (.ref r17), .val (.ref r19), .val (.ref b22), .val (.int v30), .val .null, .unset, .unset, .unset] []))
                    refine go (fun _ q => XS.iconst X26.here hx rfl (hb hby at_233) q) ?_
                    show Go p e below _ (T26.setTop (mkF m 234 #[.val (.int p1), .val (.int p2), .val (.int p3), .val (.int v1), .val (.int v2), .val (.int v3), .val (.int v4), .val (.int v5), .val (.int z14), .val (.int z15), .val (.int z16), .val (.ref r17), .val (.ref r19), .val (.ref b22), .val (.int v30), .val .null, .unset, .unset, .unset] [(.int (0 : Int32))]))
                    exact hj86 _ (by rw [if_pos hc87, if_neg hc88, if_pos hc91, if_neg hc92, if_neg hc93])
              · refine go (fun _ q => XS.icmpYes X26.here hx rfl (pc0 := 214) (pc' := 233) rfl (hb hby at_214) rfl (feq hc91).2 (by decide) (by decide) q) ?_
                show Go p e below _ (T26.setTop (mkF m 233 #[.val (.int p1), .val (.int p2), .val (.int p3), .val (.int v1), .val (.int v2), .val (.int v3), .val (.int v4), .val (.int v5), .val (.int z14), .val (.int z15), .val (.int z16), .val (.ref r17), .val (.ref r19), .val (.ref b22), .val (.int v30), .val .null, .unset, .unset, .unset] []))
                refine go (fun _ q => XS.iconst X26.here hx rfl (hb hby at_233) q) ?_
                show Go p e below _ (T26.setTop (mkF m 234 #[.val (.int p1), .val (.int p2), .val (.int p3), .val (.int v1), .val (.int v2), .val (.int v3), .val (.int v4), .val (.int v5), .val (.int z14), .val (.int z15), .val (.int z16), .val (.ref r17), .val (.ref r19), .val (.ref b22), .val (.int v30), .val .null, .unset, .unset, .unset] [(.int (0 : Int32))]))
                exact hj86 _ (by rw [if_pos hc87, if_neg hc88, if_neg hc91])
          · refine go (fun _ q => XS.icmpYes X26.here hx rfl (pc0 := 202) (pc' := 233) rfl (hb hby at_202) rfl (feq hc87).2 (by decide) (by decide) q) ?_
            show Go p e below _ (T26.setTop (mkF m 233 #[.val (.int p1), .val (.int p2), .val (.int p3), .val (.int v1), .val (.int v2), .val (.int v3), .val (.int v4), .val (.int v5), .val (.int z14), .val (.int z15), .val (.int z16), .val (.ref r17), .val (.ref r19), .val (.ref b22), .val (.int v30), .val .null, .unset, .unset, .unset] []))
            refine go (fun _ q => XS.iconst X26.here hx rfl (hb hby at_233) q) ?_
            show Go p e below _ (T26.setTop (mkF m 234 #[.val (.int p1), .val (.int p2), .val (.int p3), .val (.int v1), .val (.int v2), .val (.int v3), .val (.int v4), .val (.int v5), .val (.int z14), .val (.int z15), .val (.int z16), .val (.ref r17), .val (.ref r19), .val (.ref b22), .val (.int v30), .val .null, .unset, .unset, .unset] [(.int (0 : Int32))]))
            exact hj86 _ (by rw [if_neg hc87])
        intro z94 hz94
        show Go p e below _ (T26.setTop (mkF m 234 #[.val (.int p1), .val (.int p2), .val (.int p3), .val (.int v1), .val (.int v2), .val (.int v3), .val (.int v4), .val (.int v5), .val (.int z14), .val (.int z15), .val (.int z16), .val (.ref r17), .val (.ref r19), .val (.ref b22), .val (.int v30), .val .null, .unset, .unset, .unset] [(.int z94)]))
        refine go (fun _ q => XS.istore X26.here hx rfl (hb hby at_234) rfl (l' := #[.val (.int p1), .val (.int p2), .val (.int p3), .val (.int v1), .val (.int v2), .val (.int v3), .val (.int v4), .val (.int v5), .val (.int z14), .val (.int z15), .val (.int z16), .val (.ref r17), .val (.ref r19), .val (.ref b22), .val (.int v30), .val .null, .val (.int z94), .unset, .unset]) rfl q) ?_
        show Go p e below _ (T26.setTop (mkF m 236 #[.val (.int p1), .val (.int p2), .val (.int p3), .val (.int v1), .val (.int v2), .val (.int v3), .val (.int v4), .val (.int v5), .val (.int z14), .val (.int z15), .val (.int z16), .val (.ref r17), .val (.ref r19), .val (.ref b22), .val (.int v30), .val .null, .val (.int z94), .unset, .unset] []))
        refine go (fun _ q => XS.iload X26.here hx rfl (hb hby at_236) rfl q) ?_
        show Go p e below _ (T26.setTop (mkF m 238 #[.val (.int p1), .val (.int p2), .val (.int p3), .val (.int v1), .val (.int v2), .val (.int v3), .val (.int v4), .val (.int v5), .val (.int z14), .val (.int z15), .val (.int z16), .val (.ref r17), .val (.ref r19), .val (.ref b22), .val (.int v30), .val .null, .val (.int z94), .unset, .unset] [(.int v30)]))
        refine go (fun _ q => XS.ifYes X26.here hx rfl (pc0 := 238) (pc' := 250) rfl (hb hby at_238) rfl ((if0 _ _).trans (feq hc31).2) (by decide) (by decide) q) ?_
        show Go p e below _ (T26.setTop (mkF m 250 #[.val (.int p1), .val (.int p2), .val (.int p3), .val (.int v1), .val (.int v2), .val (.int v3), .val (.int v4), .val (.int v5), .val (.int z14), .val (.int z15), .val (.int z16), .val (.ref r17), .val (.ref r19), .val (.ref b22), .val (.int v30), .val .null, .val (.int z94), .unset, .unset] []))
        refine go (fun _ q => XS.iconst X26.here hx rfl (hb hby at_250) q) ?_
        show Go p e below _ (T26.setTop (mkF m 251 #[.val (.int p1), .val (.int p2), .val (.int p3), .val (.int v1), .val (.int v2), .val (.int v3), .val (.int v4), .val (.int v5), .val (.int z14), .val (.int z15), .val (.int z16), .val (.ref r17), .val (.ref r19), .val (.ref b22), .val (.int v30), .val .null, .val (.int z94), .unset, .unset] [(.int (0 : Int32))]))
        refine go (fun _ q => XS.istore X26.here hx rfl (hb hby at_251) rfl (l' := #[.val (.int p1), .val (.int p2), .val (.int p3), .val (.int v1), .val (.int v2), .val (.int v3), .val (.int v4), .val (.int v5), .val (.int z14), .val (.int z15), .val (.int z16), .val (.ref r17), .val (.ref r19), .val (.ref b22), .val (.int v30), .val .null, .val (.int z94), .val (.int (0 : Int32)), .unset]) rfl q) ?_
        show Go p e below _ (T26.setTop (mkF m 253 #[.val (.int p1), .val (.int p2), .val (.int p3), .val (.int v1), .val (.int v2), .val (.int v3), .val (.int v4), .val (.int v5), .val (.int z14), .val (.int z15), .val (.int z16), .val (.ref r17), .val (.ref r19), .val (.ref b22), .val (.int v30), .val .null, .val (.int z94), .val (.int (0 : Int32)), .unset] []))
        refine go (fun _ q => XS.aload X26.here hx rfl (hb hby at_253) rfl rfl q) ?_
        show Go p e below _ (T26.setTop (mkF m 255 #[.val (.int p1), .val (.int p2), .val (.int p3), .val (.int v1), .val (.int v2), .val (.int v3), .val (.int v4), .val (.int v5), .val (.int z14), .val (.int z15), .val (.int z16), .val (.ref r17), .val (.ref r19), .val (.ref b22), .val (.int v30), .val .null, .val (.int z94), .val (.int (0 : Int32)), .unset] [(.ref b22)]))
        refine go (fun _ q => XS.aload X26.here hx rfl (hb hby at_255) rfl rfl q) ?_
        show Go p e below _ (T26.setTop (mkF m 257 #[.val (.int p1), .val (.int p2), .val (.int p3), .val (.int v1), .val (.int v2), .val (.int v3), .val (.int v4), .val (.int v5), .val (.int z14), .val (.int z15), .val (.int z16), .val (.ref r17), .val (.ref r19), .val (.ref b22), .val (.int v30), .val .null, .val (.int z94), .val (.int (0 : Int32)), .unset] [.null, (.ref b22)]))
        refine own_callV X26 hx hZ hown rfl (hw _ (List.mem_of_getElem? (i := 61) rfl)) (hw _ (List.mem_of_getElem? (i := 62) rfl)) (hw _ (List.mem_of_getElem? (i := 63) rfl)) (hw _ (List.mem_of_getElem? (i := 64) rfl)) (hw _ (List.mem_of_getElem? (i := 28) rfl)) (hw _ (List.mem_of_getElem? (i := 65) rfl)) (rmEN l Z a0 hw [] b22 T26.heap n0) (by decide) (by decide) (W := 0) (by decide) (by decide) (by decide) (a := b22) E26 (g := (mkF m 257 #[.val (.int p1), .val (.int p2), .val (.int p3), .val (.int v1), .val (.int v2), .val (.int v3), .val (.int v4), .val (.int v5), .val (.int z14), .val (.int z15), .val (.int z16), .val (.ref r17), .val (.ref r19), .val (.ref b22), .val (.int v30), .val .null, .val (.int z94), .val (.int (0 : Int32)), .unset] [.null, (.ref b22)])) rfl (by rw [hml]; rfl) (argsL := [.null]) (rest := []) rfl rfl (lenOf pd_0_2 rfl) (by show 2 * 0 + _ ≤ _; exact Nat.le_of_eq rfl) (hb hby at_257) ?_
        rintro _ T95 L95 X95 ⟨rfl, N95q, e95⟩
        have N95 := Fr.app N26 N95q
        show Go p e below _ (T95.setTop (mkF m 260 #[.val (.int p1), .val (.int p2), .val (.int p3), .val (.int v1), .val (.int v2), .val (.int v3), .val (.int v4), .val (.int v5), .val (.int z14), .val (.int z15), .val (.int z16), .val (.ref r17), .val (.ref r19), .val (.ref b22), .val (.int v30), .val .null, .val (.int z94), .val (.int (0 : Int32)), .unset] [(.int (0 : Int32))]))
        refine go (fun _ q => XS.istore X95.here hx rfl (hb hby at_260) rfl (l' := #[.val (.int p1), .val (.int p2), .val (.int p3), .val (.int v1), .val (.int v2), .val (.int v3), .val (.int v4), .val (.int v5), .val (.int z14), .val (.int z15), .val (.int z16), .val (.ref r17), .val (.ref r19), .val (.ref b22), .val (.int v30), .val .null, .val (.int z94), .val (.int (0 : Int32)), .val (.int (0 : Int32))]) rfl q) ?_
        show Go p e below _ (T95.setTop (mkF m 262 #[.val (.int p1), .val (.int p2), .val (.int p3), .val (.int v1), .val (.int v2), .val (.int v3), .val (.int v4), .val (.int v5), .val (.int z14), .val (.int z15), .val (.int z16), .val (.ref r17), .val (.ref r19), .val (.ref b22), .val (.int v30), .val .null, .val (.int z94), .val (.int (0 : Int32)), .val (.int (0 : Int32))] []))
        refine go (fun _ q => XS.iload X95.here hx rfl (hb hby at_262) rfl q) ?_
        show Go p e below _ (T95.setTop (mkF m 264 #[.val (.int p1), .val (.int p2), .val (.int p3), .val (.int v1), .val (.int v2), .val (.int v3), .val (.int v4), .val (.int v5), .val (.int z14), .val (.int z15), .val (.int z16), .val (.ref r17), .val (.ref r19), .val (.ref b22), .val (.int v30), .val .null, .val (.int z94), .val (.int (0 : Int32)), .val (.int (0 : Int32))] [(.int v30)]))
        refine go (fun _ q => XS.ifYes X95.here hx rfl (pc0 := 264) (pc' := 295) rfl (hb hby at_264) rfl ((if0 _ _).trans (feq hc31).2) (by decide) (by decide) q) ?_
        show Go p e below _ (T95.setTop (mkF m 295 #[.val (.int p1), .val (.int p2), .val (.int p3), .val (.int v1), .val (.int v2), .val (.int v3), .val (.int v4), .val (.int v5), .val (.int z14), .val (.int z15), .val (.int z16), .val (.ref r17), .val (.ref r19), .val (.ref b22), .val (.int v30), .val .null, .val (.int z94), .val (.int (0 : Int32)), .val (.int (0 : Int32))] []))
        refine go (fun _ q => XS.iload X95.here hx rfl (hb hby at_295) rfl q) ?_
        show Go p e below _ (T95.setTop (mkF m 297 #[.val (.int p1), .val (.int p2), .val (.int p3), .val (.int v1), .val (.int v2), .val (.int v3), .val (.int v4), .val (.int v5), .val (.int z14), .val (.int z15), .val (.int z16), .val (.ref r17), .val (.ref r19), .val (.ref b22), .val (.int v30), .val .null, .val (.int z94), .val (.int (0 : Int32)), .val (.int (0 : Int32))] [(.int (0 : Int32))]))
        refine go (fun _ q => XS.iload X95.here hx rfl (hb hby at_297) rfl q) ?_
        show Go p e below _ (T95.setTop (mkF m 299 #[.val (.int p1), .val (.int p2), .val (.int p3), .val (.int v1), .val (.int v2), .val (.int v3), .val (.int v4), .val (.int v5), .val (.int z14), .val (.int z15), .val (.int z16), .val (.ref r17), .val (.ref r19), .val (.ref b22), .val (.int v30), .val .null, .val (.int z94), .val (.int (0 : Int32)), .val (.int (0 : Int32))] [(.int (0 : Int32)), (.int (0 : Int32))]))
        refine go (fun _ q => XS.icmpNo X95.here hx rfl (hb hby at_299) rfl (teq (by decide : (0 : Int32) = (0 : Int32))).2 q) ?_
        show Go p e below _ (T95.setTop (mkF m 302 #[.val (.int p1), .val (.int p2), .val (.int p3), .val (.int v1), .val (.int v2), .val (.int v3), .val (.int v4), .val (.int v5), .val (.int z14), .val (.int z15), .val (.int z16), .val (.ref r17), .val (.ref r19), .val (.ref b22), .val (.int v30), .val .null, .val (.int z94), .val (.int (0 : Int32)), .val (.int (0 : Int32))] []))
        refine go (fun _ q => XS.iconst X95.here hx rfl (hb hby at_302) q) ?_
        show Go p e below _ (T95.setTop (mkF m 303 #[.val (.int p1), .val (.int p2), .val (.int p3), .val (.int v1), .val (.int v2), .val (.int v3), .val (.int v4), .val (.int v5), .val (.int z14), .val (.int z15), .val (.int z16), .val (.ref r17), .val (.ref r19), .val (.ref b22), .val (.int v30), .val .null, .val (.int z94), .val (.int (0 : Int32)), .val (.int (0 : Int32))] [(.int (1 : Int32))]))
        refine go (fun _ q => XS.goto X95.here hx rfl (pc0 := 303) (pc' := 307) rfl (hb hby at_303) (by decide) (by decide) q) ?_
        show Go p e below _ (T95.setTop (mkF m 307 #[.val (.int p1), .val (.int p2), .val (.int p3), .val (.int v1), .val (.int v2), .val (.int v3), .val (.int v4), .val (.int v5), .val (.int z14), .val (.int z15), .val (.int z16), .val (.ref r17), .val (.ref r19), .val (.ref b22), .val (.int v30), .val .null, .val (.int z94), .val (.int (0 : Int32)), .val (.int (0 : Int32))] [(.int (1 : Int32))]))
        exact own_retZW (z' := (1 : Int32)) X95 hx hlk hS hk e95 CR hEL hZ hret (hb hby at_307) (by decide) (by decide) rfl ⟨rfl, N95⟩
      · refine go (fun _ q => XS.icmpYes X26.here hx rfl (pc0 := 186) (pc' := 195) rfl (hb hby at_186) rfl (feq hc85).2 (by decide) (by decide) q) ?_
        show Go p e below _ (T26.setTop (mkF m 195 #[.val (.int p1), .val (.int p2), .val (.int p3), .val (.int v1), .val (.int v2), .val (.int v3), .val (.int v4), .val (.int v5), .val (.int z14), .val (.int z15), .val (.int z16), .val (.ref r17), .val (.ref r19), .val (.ref b22), .val (.int v30), .unset, .unset, .unset, .unset] []))
        refine go (fun _ q => XS.aload X26.here hx rfl (hb hby at_195) rfl rfl q) ?_
        show Go p e below _ (T26.setTop (mkF m 197 #[.val (.int p1), .val (.int p2), .val (.int p3), .val (.int v1), .val (.int v2), .val (.int v3), .val (.int v4), .val (.int v5), .val (.int z14), .val (.int z15), .val (.int z16), .val (.ref r17), .val (.ref r19), .val (.ref b22), .val (.int v30), .unset, .unset, .unset, .unset] [(.ref r19)]))
        refine go (fun _ q => XS.astore X26.here hx rfl (hb hby at_197) rfl rfl (l' := #[.val (.int p1), .val (.int p2), .val (.int p3), .val (.int v1), .val (.int v2), .val (.int v3), .val (.int v4), .val (.int v5), .val (.int z14), .val (.int z15), .val (.int z16), .val (.ref r17), .val (.ref r19), .val (.ref b22), .val (.int v30), .val (.ref r19), .unset, .unset, .unset]) rfl q) ?_
        show Go p e below _ (T26.setTop (mkF m 199 #[.val (.int p1), .val (.int p2), .val (.int p3), .val (.int v1), .val (.int v2), .val (.int v3), .val (.int v4), .val (.int v5), .val (.int z14), .val (.int z15), .val (.int z16), .val (.ref r17), .val (.ref r19), .val (.ref b22), .val (.int v30), .val (.ref r19), .unset, .unset, .unset] []))
        refine go (fun _ q => XS.iloadN X26.here hx rfl (hb hby at_199) rfl q) ?_
        show Go p e below _ (T26.setTop (mkF m 200 #[.val (.int p1), .val (.int p2), .val (.int p3), .val (.int v1), .val (.int v2), .val (.int v3), .val (.int v4), .val (.int v5), .val (.int z14), .val (.int z15), .val (.int z16), .val (.ref r17), .val (.ref r19), .val (.ref b22), .val (.int v30), .val (.ref r19), .unset, .unset, .unset] [(.int v1)]))
        refine go (fun _ q => XS.iload X26.here hx rfl (hb hby at_200) rfl q) ?_
        show Go p e below _ (T26.setTop (mkF m 202 #[.val (.int p1), .val (.int p2), .val (.int p3), .val (.int v1), .val (.int v2), .val (.int v3), .val (.int v4), .val (.int v5), .val (.int z14), .val (.int z15), .val (.int z16), .val (.ref r17), .val (.ref r19), .val (.ref b22), .val (.int v30), .val (.ref r19), .unset, .unset, .unset] [(.int z14), (.int v1)]))
        suffices hj96 : ∀ (z104 : Int32), z104 = (if v1 = z14 then (if v1 < (1 : Int32) then (if v1 < (2 : Int32) then (1 : Int32) else (if v3 = z16 then (1 : Int32) else (0 : Int32))) else (if v2 = z15 then (if v1 < (2 : Int32) then (1 : Int32) else (if v3 = z16 then (1 : Int32) else (0 : Int32))) else (0 : Int32))) else (0 : Int32)) → Go p e below (DnW below s Z EL1 vm0 h0 ((Q0 n0)) room_1.cells room_1.slots) (T26.setTop (mkF m 234 #[.val (.int p1), .val (.int p2), .val (.int p3), .val (.int v1), .val (.int v2), .val (.int v3), .val (.int v4), .val (.int v5), .val (.int z14), .val (.int z15), .val (.int z16), .val (.ref r17), .val (.ref r19), .val (.ref b22), .val (.int v30), .val (.ref r19), .unset, .unset, .unset] [(.int z104)])) by
          by_cases hc97 : v1 = z14
          · refine go (fun _ q => XS.icmpNo X26.here hx rfl (hb hby at_202) rfl (teq hc97).2 q) ?_
            show Go p e below _ (T26.setTop (mkF m 205 #[.val (.int p1), .val (.int p2), .val (.int p3), .val (.int v1), .val (.int v2), .val (.int v3), .val (.int v4), .val (.int v5), .val (.int z14), .val (.int z15), .val (.int z16), .val (.ref r17), .val (.ref r19), .val (.ref b22), .val (.int v30), .val (.ref r19), .unset, .unset, .unset] []))
            refine go (fun _ q => XS.iloadN X26.here hx rfl (hb hby at_205) rfl q) ?_
            show Go p e below _ (T26.setTop (mkF m 206 #[.val (.int p1), .val (.int p2), .val (.int p3), .val (.int v1), .val (.int v2), .val (.int v3), .val (.int v4), .val (.int v5), .val (.int z14), .val (.int z15), .val (.int z16), .val (.ref r17), .val (.ref r19), .val (.ref b22), .val (.int v30), .val (.ref r19), .unset, .unset, .unset] [(.int v1)]))
            refine go (fun _ q => XS.iconst X26.here hx rfl (hb hby at_206) q) ?_
            show Go p e below _ (T26.setTop (mkF m 207 #[.val (.int p1), .val (.int p2), .val (.int p3), .val (.int v1), .val (.int v2), .val (.int v3), .val (.int v4), .val (.int v5), .val (.int z14), .val (.int z15), .val (.int z16), .val (.ref r17), .val (.ref r19), .val (.ref b22), .val (.int v30), .val (.ref r19), .unset, .unset, .unset] [(.int (1 : Int32)), (.int v1)]))
            by_cases hc98 : v1 < (1 : Int32)
            · refine go (fun _ q => XS.icmpYes X26.here hx rfl (pc0 := 207) (pc' := 217) rfl (hb hby at_207) rfl (tlt hc98).1 (by decide) (by decide) q) ?_
              show Go p e below _ (T26.setTop (mkF m 217 #[.val (.int p1), .val (.int p2), .val (.int p3), .val (.int v1), .val (.int v2), .val (.int v3), .val (.int v4), .val (.int v5), .val (.int z14), .val (.int z15), .val (.int z16), .val (.ref r17), .val (.ref r19), .val (.ref b22), .val (.int v30), .val (.ref r19), .unset, .unset, .unset] []))
              refine go (fun _ q => XS.iloadN X26.here hx rfl (hb hby at_217) rfl q) ?_
              show Go p e below _ (T26.setTop (mkF m 218 #[.val (.int p1), .val (.int p2), .val (.int p3), .val (.int v1), .val (.int v2), .val (.int v3), .val (.int v4), .val (.int v5), .val (.int z14), .val (.int z15), .val (.int z16), .val (.ref r17), .val (.ref r19), .val (.ref b22), .val (.int v30), .val (.ref r19), .unset, .unset, .unset] [(.int v1)]))
              refine go (fun _ q => XS.iconst X26.here hx rfl (hb hby at_218) q) ?_
              show Go p e below _ (T26.setTop (mkF m 219 #[.val (.int p1), .val (.int p2), .val (.int p3), .val (.int v1), .val (.int v2), .val (.int v3), .val (.int v4), .val (.int v5), .val (.int z14), .val (.int z15), .val (.int z16), .val (.ref r17), .val (.ref r19), .val (.ref b22), .val (.int v30), .val (.ref r19), .unset, .unset, .unset] [(.int (2 : Int32)), (.int v1)]))
              by_cases hc99 : v1 < (2 : Int32)
              · refine go (fun _ q => XS.icmpYes X26.here hx rfl (pc0 := 219) (pc' := 229) rfl (hb hby at_219) rfl (tlt hc99).1 (by decide) (by decide) q) ?_
                show Go p e below _ (T26.setTop (mkF m 229 #[.val (.int p1), .val (.int p2), .val (.int p3), .val (.int v1), .val (.int v2), .val (.int v3), .val (.int v4), .val (.int v5), .val (.int z14), .val (.int z15), .val (.int z16), .val (.ref r17), .val (.ref r19), .val (.ref b22), .val (.int v30), .val (.ref r19), .unset, .unset, .unset] []))
                refine go (fun _ q => XS.iconst X26.here hx rfl (hb hby at_229) q) ?_
                show Go p e below _ (T26.setTop (mkF m 230 #[.val (.int p1), .val (.int p2), .val (.int p3), .val (.int v1), .val (.int v2), .val (.int v3), .val (.int v4), .val (.int v5), .val (.int z14), .val (.int z15), .val (.int z16), .val (.ref r17), .val (.ref r19), .val (.ref b22), .val (.int v30), .val (.ref r19), .unset, .unset, .unset] [(.int (1 : Int32))]))
                refine go (fun _ q => XS.goto X26.here hx rfl (pc0 := 230) (pc' := 234) rfl (hb hby at_230) (by decide) (by decide) q) ?_
                show Go p e below _ (T26.setTop (mkF m 234 #[.val (.int p1), .val (.int p2), .val (.int p3), .val (.int v1), .val (.int v2), .val (.int v3), .val (.int v4), .val (.int v5), .val (.int z14), .val (.int z15), .val (.int z16), .val (.ref r17), .val (.ref r19), .val (.ref b22), .val (.int v30), .val (.ref r19), .unset, .unset, .unset] [(.int (1 : Int32))]))
                exact hj96 _ (by rw [if_pos hc97, if_pos hc98, if_pos hc99])
              · refine go (fun _ q => XS.icmpNo X26.here hx rfl (hb hby at_219) rfl (flt hc99).1 q) ?_
                show Go p e below _ (T26.setTop (mkF m 222 #[.val (.int p1), .val (.int p2), .val (.int p3), .val (.int v1), .val (.int v2), .val (.int v3), .val (.int v4), .val (.int v5), .val (.int z14), .val (.int z15), .val (.int z16), .val (.ref r17), .val (.ref r19), .val (.ref b22), .val (.int v30), .val (.ref r19), .unset, .unset, .unset] []))
                refine go (fun _ q => XS.iload X26.here hx rfl (hb hby at_222) rfl q) ?_
                show Go p e below _ (T26.setTop (mkF m 224 #[.val (.int p1), .val (.int p2), .val (.int p3), .val (.int v1), .val (.int v2), .val (.int v3), .val (.int v4), .val (.int v5), .val (.int z14), .val (.int z15), .val (.int z16), .val (.ref r17), .val (.ref r19), .val (.ref b22), .val (.int v30), .val (.ref r19), .unset, .unset, .unset] [(.int v3)]))
                refine go (fun _ q => XS.iload X26.here hx rfl (hb hby at_224) rfl q) ?_
                show Go p e below _ (T26.setTop (mkF m 226 #[.val (.int p1), .val (.int p2), .val (.int p3), .val (.int v1), .val (.int v2), .val (.int v3), .val (.int v4), .val (.int v5), .val (.int z14), .val (.int z15), .val (.int z16), .val (.ref r17), .val (.ref r19), .val (.ref b22), .val (.int v30), .val (.ref r19), .unset, .unset, .unset] [(.int z16), (.int v3)]))
                by_cases hc100 : v3 = z16
                · refine go (fun _ q => XS.icmpNo X26.here hx rfl (hb hby at_226) rfl (teq hc100).2 q) ?_
                  show Go p e below _ (T26.setTop (mkF m 229 #[.val (.int p1), .val (.int p2), .val (.int p3), .val (.int v1), .val (.int v2), .val (.int v3), .val (.int v4), .val (.int v5), .val (.int z14), .val (.int z15), .val (.int z16), .val (.ref r17), .val (.ref r19), .val (.ref b22), .val (.int v30), .val (.ref r19), .unset, .unset, .unset] []))
                  refine go (fun _ q => XS.iconst X26.here hx rfl (hb hby at_229) q) ?_
                  show Go p e below _ (T26.setTop (mkF m 230 #[.val (.int p1), .val (.int p2), .val (.int p3), .val (.int v1), .val (.int v2), .val (.int v3), .val (.int v4), .val (.int v5), .val (.int z14), .val (.int z15), .val (.int z16), .val (.ref r17), .val (.ref r19), .val (.ref b22), .val (.int v30), .val (.ref r19), .unset, .unset, .unset] [(.int (1 : Int32))]))
                  refine go (fun _ q => XS.goto X26.here hx rfl (pc0 := 230) (pc' := 234) rfl (hb hby at_230) (by decide) (by decide) q) ?_
                  show Go p e below _ (T26.setTop (mkF m 234 #[.val (.int p1), .val (.int p2), .val (.int p3), .val (.int v1), .val (.int v2), .val (.int v3), .val (.int v4), .val (.int v5), .val (.int z14), .val (.int z15), .val (.int z16), .val (.ref r17), .val (.ref r19), .val (.ref b22), .val (.int v30), .val (.ref r19), .unset, .unset, .unset] [(.int (1 : Int32))]))
                  exact hj96 _ (by rw [if_pos hc97, if_pos hc98, if_neg hc99, if_pos hc100])
                · refine go (fun _ q => XS.icmpYes X26.here hx rfl (pc0 := 226) (pc' := 233) rfl (hb hby at_226) rfl (feq hc100).2 (by decide) (by decide) q) ?_
                  show Go p e below _ (T26.setTop (mkF m 233 #[.val (.int p1), .val (.int p2), .val (.int p3), .val (.int v1), .val (.int v2), .val (.int v3), .val (.int v4), .val (.int v5), .val (.int z14), .val (.int z15), .val (.int z16), .val (.ref r17), .val (.ref r19), .val (.ref b22), .val (.int v30), .val (.ref r19), .unset, .unset, .unset] []))
                  refine go (fun _ q => XS.iconst X26.here hx rfl (hb hby at_233) q) ?_
                  show Go p e below _ (T26.setTop (mkF m 234 #[.val (.int p1), .val (.int p2), .val (.int p3), .val (.int v1), .val (.int v2), .val (.int v3), .val (.int v4), .val (.int v5), .val (.int z14), .val (.int z15), .val (.int z16), .val (.ref r17), .val (.ref r19), .val (.ref b22), .val (.int v30), .val (.ref r19), .unset, .unset, .unset] [(.int (0 : Int32))]))
                  exact hj96 _ (by rw [if_pos hc97, if_pos hc98, if_neg hc99, if_neg hc100])
            · refine go (fun _ q => XS.icmpNo X26.here hx rfl (hb hby at_207) rfl (flt hc98).1 q) ?_
              show Go p e below _ (T26.setTop (mkF m 210 #[.val (.int p1), .val (.int p2), .val (.int p3), .val (.int v1), .val (.int v2), .val (.int v3), .val (.int v4), .val (.int v5), .val (.int z14), .val (.int z15), .val (.int z16), .val (.ref r17), .val (.ref r19), .val (.ref b22), .val (.int v30), .val (.ref r19), .unset, .unset, .unset] []))
              refine go (fun _ q => XS.iload X26.here hx rfl (hb hby at_210) rfl q) ?_
              show Go p e below _ (T26.setTop (mkF m 212 #[.val (.int p1), .val (.int p2), .val (.int p3), .val (.int v1), .val (.int v2), .val (.int v3), .val (.int v4), .val (.int v5), .val (.int z14), .val (.int z15), .val (.int z16), .val (.ref r17), .val (.ref r19), .val (.ref b22), .val (.int v30), .val (.ref r19), .unset, .unset, .unset] [(.int v2)]))
              refine go (fun _ q => XS.iload X26.here hx rfl (hb hby at_212) rfl q) ?_
              show Go p e below _ (T26.setTop (mkF m 214 #[.val (.int p1), .val (.int p2), .val (.int p3), .val (.int v1), .val (.int v2), .val (.int v3), .val (.int v4), .val (.int v5), .val (.int z14), .val (.int z15), .val (.int z16), .val (.ref r17), .val (.ref r19), .val (.ref b22), .val (.int v30), .val (.ref r19), .unset, .unset, .unset] [(.int z15), (.int v2)]))
              by_cases hc101 : v2 = z15
              · refine go (fun _ q => XS.icmpNo X26.here hx rfl (hb hby at_214) rfl (teq hc101).2 q) ?_
                show Go p e below _ (T26.setTop (mkF m 217 #[.val (.int p1), .val (.int p2), .val (.int p3), .val (.int v1), .val (.int v2), .val (.int v3), .val (.int v4), .val (.int v5), .val (.int z14), .val (.int z15), .val (.int z16), .val (.ref r17), .val (.ref r19), .val (.ref b22), .val (.int v30), .val (.ref r19), .unset, .unset, .unset] []))
                refine go (fun _ q => XS.iloadN X26.here hx rfl (hb hby at_217) rfl q) ?_
                show Go p e below _ (T26.setTop (mkF m 218 #[.val (.int p1), .val (.int p2), .val (.int p3), .val (.int v1), .val (.int v2), .val (.int v3), .val (.int v4), .val (.int v5), .val (.int z14), .val (.int z15), .val (.int z16), .val (.ref r17), .val (.ref r19), .val (.ref b22), .val (.int v30), .val (.ref r19), .unset, .unset, .unset] [(.int v1)]))
                refine go (fun _ q => XS.iconst X26.here hx rfl (hb hby at_218) q) ?_
                show Go p e below _ (T26.setTop (mkF m 219 #[.val (.int p1), .val (.int p2), .val (.int p3), .val (.int v1), .val (.int v2), .val (.int v3), .val (.int v4), .val (.int v5), .val (.int z14), .val (.int z15), .val (.int z16), .val (.ref r17), .val (.ref r19), .val (.ref b22), .val (.int v30), .val (.ref r19), .unset, .unset, .unset] [(.int (2 : Int32)), (.int v1)]))
                by_cases hc102 : v1 < (2 : Int32)
                · refine go (fun _ q => XS.icmpYes X26.here hx rfl (pc0 := 219) (pc' := 229) rfl (hb hby at_219) rfl (tlt hc102).1 (by decide) (by decide) q) ?_
                  show Go p e below _ (T26.setTop (mkF m 229 #[.val (.int p1), .val (.int p2), .val (.int p3), .val (.int v1), .val (.int v2), .val (.int v3), .val (.int v4), .val (.int v5), .val (.int z14), .val (.int z15), .val (.int z16), .val (.ref r17), .val (.ref r19), .val (.ref b22), .val (.int v30), .val (.ref r19), .unset, .unset, .unset] []))
                  refine go (fun _ q => XS.iconst X26.here hx rfl (hb hby at_229) q) ?_
                  show Go p e below _ (T26.setTop (mkF m 230 #[.val (.int p1), .val (.int p2), .val (.int p3), .val (.int v1), .val (.int v2), .val (.int v3), .val (.int v4), .val (.int v5), .val (.int z14), .val (.int z15), .val (.int z16), .val (.ref r17), .val (.ref r19), .val (.ref b22), .val (.int v30), .val (.ref r19), .unset, .unset, .unset] [(.int (1 : Int32))]))
                  refine go (fun _ q => XS.goto X26.here hx rfl (pc0 := 230) (pc' := 234) rfl (hb hby at_230) (by decide) (by decide) q) ?_
                  show Go p e below _ (T26.setTop (mkF m 234 #[.val (.int p1), .val (.int p2), .val (.int p3), .val (.int v1), .val (.int v2), .val (.int v3), .val (.int v4), .val (.int v5), .val (.int z14), .val (.int z15), .val (.int z16), .val (.ref r17), .val (.ref r19), .val (.ref b22), .val (.int v30), .val (.ref r19), .unset, .unset, .unset] [(.int (1 : Int32))]))
                  exact hj96 _ (by rw [if_pos hc97, if_neg hc98, if_pos hc101, if_pos hc102])
                · refine go (fun _ q => XS.icmpNo X26.here hx rfl (hb hby at_219) rfl (flt hc102).1 q) ?_
                  show Go p e below _ (T26.setTop (mkF m 222 #[.val (.int p1), .val (.int p2), .val (.int p3), .val (.int v1), .val (.int v2), .val (.int v3), .val (.int v4), .val (.int v5), .val (.int z14), .val (.int z15), .val (.int z16), .val (.ref r17), .val (.ref r19), .val (.ref b22), .val (.int v30), .val (.ref r19), .unset, .unset, .unset] []))
                  refine go (fun _ q => XS.iload X26.here hx rfl (hb hby at_222) rfl q) ?_
                  show Go p e below _ (T26.setTop (mkF m 224 #[.val (.int p1), .val (.int p2), .val (.int p3), .val (.int v1), .val (.int v2), .val (.int v3), .val (.int v4), .val (.int v5), .val (.int z14), .val (.int z15), .val (.int z16), .val (.ref r17), .val (.ref r19), .val (.ref b22), .val (.int v30), .val (.ref r19), .unset, .unset, .unset] [(.int v3)]))
                  refine go (fun _ q => XS.iload X26.here hx rfl (hb hby at_224) rfl q) ?_
                  show Go p e below _ (T26.setTop (mkF m 226 #[.val (.int p1), .val (.int p2), .val (.int p3), .val (.int v1), .val (.int v2), .val (.int v3), .val (.int v4), .val (.int v5), .val (.int z14), .val (.int z15), .val (.int z16), .val (.ref r17), .val (.ref r19), .val (.ref b22), .val (.int v30), .val (.ref r19), .unset, .unset, .unset] [(.int z16), (.int v3)]))
                  by_cases hc103 : v3 = z16
                  · refine go (fun _ q => XS.icmpNo X26.here hx rfl (hb hby at_226) rfl (teq hc103).2 q) ?_
                    show Go p e below _ (T26.setTop (mkF m 229 #[.val (.int p1), .val (.int p2), .val (.int p3), .val (.int v1), .val (.int v2), .val (.int v3), .val (.int v4), .val (.int v5), .val (.int z14), .val (.int z15), .val (.int z16), .val (.ref r17), .val (.ref r19), .val (.ref b22), .val (.int v30), .val (.ref r19), .unset, .unset, .unset] []))
                    refine go (fun _ q => XS.iconst X26.here hx rfl (hb hby at_229) q) ?_
                    show Go p e below _ (T26.setTop (mkF m 230 #[.val (.int p1), .val (.int p2), .val (.int p3), .val (.int v1), .val (.int v2), .val (.int v3), .val (.int v4), .val (.int v5), .val (.int z14), .val (.int z15), .val (.int z16), .val (.ref r17), .val (.ref r19), .val (.ref b22), .val (.int v30), .val (.ref r19), .unset, .unset, .unset] [(.int (1 : Int32))]))
                    refine go (fun _ q => XS.goto X26.here hx rfl (pc0 := 230) (pc' := 234) rfl (hb hby at_230) (by decide) (by decide) q) ?_
                    show Go p e below _ (T26.setTop (mkF m 234 #[.val (.int p1), .val (.int p2), .val (.int p3), .val (.int v1), .val (.int v2), .val (.int v3), .val (.int v4), .val (.int v5), .val (.int z14), .val (.int z15), .val (.int z16), .val (.ref r17), .val (.ref r19), .val (.ref b22), .val (.int v30), .val (.ref r19), .unset, .unset, .unset] [(.int (1 : Int32))]))
                    exact hj96 _ (by rw [if_pos hc97, if_neg hc98, if_pos hc101, if_neg hc102, if_pos hc103])
                  · refine go (fun _ q => XS.icmpYes X26.here hx rfl (pc0 := 226) (pc' := 233) rfl (hb hby at_226) rfl (feq hc103).2 (by decide) (by decide) q) ?_
                    show Go p e below _ (T26.setTop (mkF m 233 #[.val (.int p1), .val (.int p2), .val (.int p3), .val (.int v1), .val (.int v2), .val (.int v3), .val (.int v4), .val (.int v5), .val (.int z14), .val (.int z15), .val (.int z16), .val (.ref r17), .val (.ref r19), .val (.ref b22), .val (.int v30), .val (.ref r19), .unset, .unset, .unset] []))
                    refine go (fun _ q => XS.iconst X26.here hx rfl (hb hby at_233) q) ?_
                    show Go p e below _ (T26.setTop (mkF m 234 #[.val (.int p1), .val (.int p2), .val (.int p3), .val (.int v1), .val (.int v2), .val (.int v3), .val (.int v4), .val (.int v5), .val (.int z14), .val (.int z15), .val (.int z16), .val (.ref r17), .val (.ref r19), .val (.ref b22), .val (.int v30), .val (.ref r19), .unset, .unset, .unset] [(.int (0 : Int32))]))
                    exact hj96 _ (by rw [if_pos hc97, if_neg hc98, if_pos hc101, if_neg hc102, if_neg hc103])
              · refine go (fun _ q => XS.icmpYes X26.here hx rfl (pc0 := 214) (pc' := 233) rfl (hb hby at_214) rfl (feq hc101).2 (by decide) (by decide) q) ?_
                show Go p e below _ (T26.setTop (mkF m 233 #[.val (.int p1), .val (.int p2), .val (.int p3), .val (.int v1), .val (.int v2), .val (.int v3), .val (.int v4), .val (.int v5), .val (.int z14), .val (.int z15), .val (.int z16), .val (.ref r17), .val (.ref r19), .val (.ref b22), .val (.int v30), .val (.ref r19), .unset, .unset, .unset] []))
                refine go (fun _ q => XS.iconst X26.here hx rfl (hb hby at_233) q) ?_
                show Go p e below _ (T26.setTop (mkF m 234 #[.val (.int p1), .val (.int p2), .val (.int p3), .val (.int v1), .val (.int v2), .val (.int v3), .val (.int v4), .val (.int v5), .val (.int z14), .val (.int z15), .val (.int z16), .val (.ref r17), .val (.ref r19), .val (.ref b22), .val (.int v30), .val (.ref r19), .unset, .unset, .unset] [(.int (0 : Int32))]))
                exact hj96 _ (by rw [if_pos hc97, if_neg hc98, if_neg hc101])
          · refine go (fun _ q => XS.icmpYes X26.here hx rfl (pc0 := 202) (pc' := 233) rfl (hb hby at_202) rfl (feq hc97).2 (by decide) (by decide) q) ?_
            show Go p e below _ (T26.setTop (mkF m 233 #[.val (.int p1), .val (.int p2), .val (.int p3), .val (.int v1), .val (.int v2), .val (.int v3), .val (.int v4), .val (.int v5), .val (.int z14), .val (.int z15), .val (.int z16), .val (.ref r17), .val (.ref r19), .val (.ref b22), .val (.int v30), .val (.ref r19), .unset, .unset, .unset] []))
            refine go (fun _ q => XS.iconst X26.here hx rfl (hb hby at_233) q) ?_
            show Go p e below _ (T26.setTop (mkF m 234 #[.val (.int p1), .val (.int p2), .val (.int p3), .val (.int v1), .val (.int v2), .val (.int v3), .val (.int v4), .val (.int v5), .val (.int z14), .val (.int z15), .val (.int z16), .val (.ref r17), .val (.ref r19), .val (.ref b22), .val (.int v30), .val (.ref r19), .unset, .unset, .unset] [(.int (0 : Int32))]))
            exact hj96 _ (by rw [if_neg hc97])
        intro z104 hz104
        show Go p e below _ (T26.setTop (mkF m 234 #[.val (.int p1), .val (.int p2), .val (.int p3), .val (.int v1), .val (.int v2), .val (.int v3), .val (.int v4), .val (.int v5), .val (.int z14), .val (.int z15), .val (.int z16), .val (.ref r17), .val (.ref r19), .val (.ref b22), .val (.int v30), .val (.ref r19), .unset, .unset, .unset] [(.int z104)]))
        refine go (fun _ q => XS.istore X26.here hx rfl (hb hby at_234) rfl (l' := #[.val (.int p1), .val (.int p2), .val (.int p3), .val (.int v1), .val (.int v2), .val (.int v3), .val (.int v4), .val (.int v5), .val (.int z14), .val (.int z15), .val (.int z16), .val (.ref r17), .val (.ref r19), .val (.ref b22), .val (.int v30), .val (.ref r19), .val (.int z104), .unset, .unset]) rfl q) ?_
        show Go p e below _ (T26.setTop (mkF m 236 #[.val (.int p1), .val (.int p2), .val (.int p3), .val (.int v1), .val (.int v2), .val (.int v3), .val (.int v4), .val (.int v5), .val (.int z14), .val (.int z15), .val (.int z16), .val (.ref r17), .val (.ref r19), .val (.ref b22), .val (.int v30), .val (.ref r19), .val (.int z104), .unset, .unset] []))
        refine go (fun _ q => XS.iload X26.here hx rfl (hb hby at_236) rfl q) ?_
        show Go p e below _ (T26.setTop (mkF m 238 #[.val (.int p1), .val (.int p2), .val (.int p3), .val (.int v1), .val (.int v2), .val (.int v3), .val (.int v4), .val (.int v5), .val (.int z14), .val (.int z15), .val (.int z16), .val (.ref r17), .val (.ref r19), .val (.ref b22), .val (.int v30), .val (.ref r19), .val (.int z104), .unset, .unset] [(.int v30)]))
        refine go (fun _ q => XS.ifYes X26.here hx rfl (pc0 := 238) (pc' := 250) rfl (hb hby at_238) rfl ((if0 _ _).trans (feq hc31).2) (by decide) (by decide) q) ?_
        show Go p e below _ (T26.setTop (mkF m 250 #[.val (.int p1), .val (.int p2), .val (.int p3), .val (.int v1), .val (.int v2), .val (.int v3), .val (.int v4), .val (.int v5), .val (.int z14), .val (.int z15), .val (.int z16), .val (.ref r17), .val (.ref r19), .val (.ref b22), .val (.int v30), .val (.ref r19), .val (.int z104), .unset, .unset] []))
        refine go (fun _ q => XS.iconst X26.here hx rfl (hb hby at_250) q) ?_
        show Go p e below _ (T26.setTop (mkF m 251 #[.val (.int p1), .val (.int p2), .val (.int p3), .val (.int v1), .val (.int v2), .val (.int v3), .val (.int v4), .val (.int v5), .val (.int z14), .val (.int z15), .val (.int z16), .val (.ref r17), .val (.ref r19), .val (.ref b22), .val (.int v30), .val (.ref r19), .val (.int z104), .unset, .unset] [(.int (0 : Int32))]))
        refine go (fun _ q => XS.istore X26.here hx rfl (hb hby at_251) rfl (l' := #[.val (.int p1), .val (.int p2), .val (.int p3), .val (.int v1), .val (.int v2), .val (.int v3), .val (.int v4), .val (.int v5), .val (.int z14), .val (.int z15), .val (.int z16), .val (.ref r17), .val (.ref r19), .val (.ref b22), .val (.int v30), .val (.ref r19), .val (.int z104), .val (.int (0 : Int32)), .unset]) rfl q) ?_
        show Go p e below _ (T26.setTop (mkF m 253 #[.val (.int p1), .val (.int p2), .val (.int p3), .val (.int v1), .val (.int v2), .val (.int v3), .val (.int v4), .val (.int v5), .val (.int z14), .val (.int z15), .val (.int z16), .val (.ref r17), .val (.ref r19), .val (.ref b22), .val (.int v30), .val (.ref r19), .val (.int z104), .val (.int (0 : Int32)), .unset] []))
        refine go (fun _ q => XS.aload X26.here hx rfl (hb hby at_253) rfl rfl q) ?_
        show Go p e below _ (T26.setTop (mkF m 255 #[.val (.int p1), .val (.int p2), .val (.int p3), .val (.int v1), .val (.int v2), .val (.int v3), .val (.int v4), .val (.int v5), .val (.int z14), .val (.int z15), .val (.int z16), .val (.ref r17), .val (.ref r19), .val (.ref b22), .val (.int v30), .val (.ref r19), .val (.int z104), .val (.int (0 : Int32)), .unset] [(.ref b22)]))
        refine go (fun _ q => XS.aload X26.here hx rfl (hb hby at_255) rfl rfl q) ?_
        show Go p e below _ (T26.setTop (mkF m 257 #[.val (.int p1), .val (.int p2), .val (.int p3), .val (.int v1), .val (.int v2), .val (.int v3), .val (.int v4), .val (.int v5), .val (.int z14), .val (.int z15), .val (.int z16), .val (.ref r17), .val (.ref r19), .val (.ref b22), .val (.int v30), .val (.ref r19), .val (.int z104), .val (.int (0 : Int32)), .unset] [(.ref r19), (.ref b22)]))
        refine own_callV X26 hx hZ hown rfl (hw _ (List.mem_of_getElem? (i := 61) rfl)) (hw _ (List.mem_of_getElem? (i := 62) rfl)) (hw _ (List.mem_of_getElem? (i := 63) rfl)) (hw _ (List.mem_of_getElem? (i := 64) rfl)) (hw _ (List.mem_of_getElem? (i := 28) rfl)) (hw _ (List.mem_of_getElem? (i := 65) rfl)) (rmEO l Z a0 hw [] b22 r19 T26.heap n0 (Str.exa P_29) (own_noS hw)) (by decide) (by decide) (W := 0) (by decide) (by decide) (by decide) (a := b22) E26 (g := (mkF m 257 #[.val (.int p1), .val (.int p2), .val (.int p3), .val (.int v1), .val (.int v2), .val (.int v3), .val (.int v4), .val (.int v5), .val (.int z14), .val (.int z15), .val (.int z16), .val (.ref r17), .val (.ref r19), .val (.ref b22), .val (.int v30), .val (.ref r19), .val (.int z104), .val (.int (0 : Int32)), .unset] [(.ref r19), (.ref b22)])) rfl (by rw [hml]; rfl) (argsL := [(.ref r19)]) (rest := []) rfl rfl (lenOf pd_0_2 rfl) (by show 2 * 0 + _ ≤ _; exact Nat.le_of_eq rfl) (hb hby at_257) ?_
        rintro _ T105 L105 X105 ⟨rfl, N105q, e105⟩
        have N105 := Fr.app N26 N105q
        show Go p e below _ (T105.setTop (mkF m 260 #[.val (.int p1), .val (.int p2), .val (.int p3), .val (.int v1), .val (.int v2), .val (.int v3), .val (.int v4), .val (.int v5), .val (.int z14), .val (.int z15), .val (.int z16), .val (.ref r17), .val (.ref r19), .val (.ref b22), .val (.int v30), .val (.ref r19), .val (.int z104), .val (.int (0 : Int32)), .unset] [(.int (0 : Int32))]))
        refine go (fun _ q => XS.istore X105.here hx rfl (hb hby at_260) rfl (l' := #[.val (.int p1), .val (.int p2), .val (.int p3), .val (.int v1), .val (.int v2), .val (.int v3), .val (.int v4), .val (.int v5), .val (.int z14), .val (.int z15), .val (.int z16), .val (.ref r17), .val (.ref r19), .val (.ref b22), .val (.int v30), .val (.ref r19), .val (.int z104), .val (.int (0 : Int32)), .val (.int (0 : Int32))]) rfl q) ?_
        show Go p e below _ (T105.setTop (mkF m 262 #[.val (.int p1), .val (.int p2), .val (.int p3), .val (.int v1), .val (.int v2), .val (.int v3), .val (.int v4), .val (.int v5), .val (.int z14), .val (.int z15), .val (.int z16), .val (.ref r17), .val (.ref r19), .val (.ref b22), .val (.int v30), .val (.ref r19), .val (.int z104), .val (.int (0 : Int32)), .val (.int (0 : Int32))] []))
        refine go (fun _ q => XS.iload X105.here hx rfl (hb hby at_262) rfl q) ?_
        show Go p e below _ (T105.setTop (mkF m 264 #[.val (.int p1), .val (.int p2), .val (.int p3), .val (.int v1), .val (.int v2), .val (.int v3), .val (.int v4), .val (.int v5), .val (.int z14), .val (.int z15), .val (.int z16), .val (.ref r17), .val (.ref r19), .val (.ref b22), .val (.int v30), .val (.ref r19), .val (.int z104), .val (.int (0 : Int32)), .val (.int (0 : Int32))] [(.int v30)]))
        refine go (fun _ q => XS.ifYes X105.here hx rfl (pc0 := 264) (pc' := 295) rfl (hb hby at_264) rfl ((if0 _ _).trans (feq hc31).2) (by decide) (by decide) q) ?_
        show Go p e below _ (T105.setTop (mkF m 295 #[.val (.int p1), .val (.int p2), .val (.int p3), .val (.int v1), .val (.int v2), .val (.int v3), .val (.int v4), .val (.int v5), .val (.int z14), .val (.int z15), .val (.int z16), .val (.ref r17), .val (.ref r19), .val (.ref b22), .val (.int v30), .val (.ref r19), .val (.int z104), .val (.int (0 : Int32)), .val (.int (0 : Int32))] []))
        refine go (fun _ q => XS.iload X105.here hx rfl (hb hby at_295) rfl q) ?_
        show Go p e below _ (T105.setTop (mkF m 297 #[.val (.int p1), .val (.int p2), .val (.int p3), .val (.int v1), .val (.int v2), .val (.int v3), .val (.int v4), .val (.int v5), .val (.int z14), .val (.int z15), .val (.int z16), .val (.ref r17), .val (.ref r19), .val (.ref b22), .val (.int v30), .val (.ref r19), .val (.int z104), .val (.int (0 : Int32)), .val (.int (0 : Int32))] [(.int (0 : Int32))]))
        refine go (fun _ q => XS.iload X105.here hx rfl (hb hby at_297) rfl q) ?_
        show Go p e below _ (T105.setTop (mkF m 299 #[.val (.int p1), .val (.int p2), .val (.int p3), .val (.int v1), .val (.int v2), .val (.int v3), .val (.int v4), .val (.int v5), .val (.int z14), .val (.int z15), .val (.int z16), .val (.ref r17), .val (.ref r19), .val (.ref b22), .val (.int v30), .val (.ref r19), .val (.int z104), .val (.int (0 : Int32)), .val (.int (0 : Int32))] [(.int (0 : Int32)), (.int (0 : Int32))]))
        refine go (fun _ q => XS.icmpNo X105.here hx rfl (hb hby at_299) rfl (teq (by decide : (0 : Int32) = (0 : Int32))).2 q) ?_
        show Go p e below _ (T105.setTop (mkF m 302 #[.val (.int p1), .val (.int p2), .val (.int p3), .val (.int v1), .val (.int v2), .val (.int v3), .val (.int v4), .val (.int v5), .val (.int z14), .val (.int z15), .val (.int z16), .val (.ref r17), .val (.ref r19), .val (.ref b22), .val (.int v30), .val (.ref r19), .val (.int z104), .val (.int (0 : Int32)), .val (.int (0 : Int32))] []))
        refine go (fun _ q => XS.iconst X105.here hx rfl (hb hby at_302) q) ?_
        show Go p e below _ (T105.setTop (mkF m 303 #[.val (.int p1), .val (.int p2), .val (.int p3), .val (.int v1), .val (.int v2), .val (.int v3), .val (.int v4), .val (.int v5), .val (.int z14), .val (.int z15), .val (.int z16), .val (.ref r17), .val (.ref r19), .val (.ref b22), .val (.int v30), .val (.ref r19), .val (.int z104), .val (.int (0 : Int32)), .val (.int (0 : Int32))] [(.int (1 : Int32))]))
        refine go (fun _ q => XS.goto X105.here hx rfl (pc0 := 303) (pc' := 307) rfl (hb hby at_303) (by decide) (by decide) q) ?_
        show Go p e below _ (T105.setTop (mkF m 307 #[.val (.int p1), .val (.int p2), .val (.int p3), .val (.int v1), .val (.int v2), .val (.int v3), .val (.int v4), .val (.int v5), .val (.int z14), .val (.int z15), .val (.int z16), .val (.ref r17), .val (.ref r19), .val (.ref b22), .val (.int v30), .val (.ref r19), .val (.int z104), .val (.int (0 : Int32)), .val (.int (0 : Int32))] [(.int (1 : Int32))]))
        exact own_retZW (z' := (1 : Int32)) X105 hx hlk hS hk e105 CR hEL hZ hret (hb hby at_307) (by decide) (by decide) rfl ⟨rfl, N105⟩
set_option maxRecDepth 65536 in
set_option maxHeartbeats 40000000 in
theorem comes_1 {Post : Tables → Env → Array Value → State → Outcome → State → Prop} (hpost : ∀ tb e args s v u, (limb_1_1.after args s (.returned v) u = true ∧ limb_1_2.after args s (.returned v) u = true ∧ True) → FramedW s (.returned v) u (Jvm.fieldLocs frame_1_writes args s ++ Jvm.arrayLocs frame_1_arrays args s ++ Jvm.staticLocs frame_1_statics s) 40 5248 → Post tb e args s (.returned v) u) :
    ArmFor flags0 classFile x code maxLocals ret World_1 tables_1 room_1 Calls_1 rest_1 Pre_1 Post := by
  intro l hfl _ _ p e ha hc hk s m args below hf hA hF happ hP
  obtain ⟨hcalls, hrest, hpre⟩ := hP
  obtain ⟨-, -, -, hnamed, -, -, -, hat⟩ := (Spec.applies_iff hf).mp happ
  obtain ⟨hg, hn⟩ := and_e (Cond.before_iff.mp (show (Jvm.Cond.and given_1 narrow_1).before args s = true from hpre))
  obtain ⟨gc, g0⟩ := and_e hg
  obtain ⟨ga0, g1⟩ := and_e g0
  obtain ⟨ga1, g2⟩ := and_e g1
  have ga2 := g2
  obtain ⟨w0, w1, w2, rfl⟩ : ∃ w0 w1 w2 : Value, args = #[w0, w1, w2] := by
    have hs : args.size = 3 := by simpa [Cond.value, given_1] using gc
    obtain ⟨L⟩ := args
    match L, hs with
    | [w0, w1, w2], _ => exact ⟨w0, w1, w2, rfl⟩
  have hw := fun d (hd : d ∈ tables_1) => atoms_spec (ws := Jvm.Cond.code x code maxLocals ret :: tables_1) hat d (List.mem_cons_of_mem _ hd)
  obtain ⟨i0, ei0⟩ := is_v ga0
  obtain rfl : w0 = (.int i0) := Option.some.inj ei0
  obtain ⟨i1, ei1⟩ := is_v ga1
  obtain rfl : w1 = (.int i1) := Option.some.inj ei1
  obtain ⟨i2, ei2⟩ := is_v ga2
  obtain rfl : w2 = (.int i2) := Option.some.inj ei2
  obtain ⟨hsets, hown0⟩ := atoms_of _ (rest_1_c_eq ▸ (show rest_1_c.before _ s = true from hrest))
  have hcw := hsets _ (List.mem_of_getElem? (i := 2) rfl)
  have n5 := not_v (Cond.before_iff.mp hcw)
  obtain ⟨zs, ez⟩ := is_v (Cond.before_iff.mp (hsets _ (List.mem_of_getElem? (i := 1) rfl)))
  have S1 : Sta s s.heap "java/lang/String" "COMPACT_STRINGS" "Z" (.int zs) := Sta.start ez (Or.inl (hsets _ (List.mem_of_getElem? (i := 0) rfl)))
  obtain ⟨fm, ef, rf⟩ := isR_v (Cond.before_iff.mp (hsets _ (List.mem_of_getElem? (i := 8) rfl)))
  have S2 : Sta s s.heap "jdk/internal/util/Preconditions" "SIOOBE_FORMATTER" "Ljava/util/function/BiFunction;" fm := Sta.start ef (Or.inl (hsets _ (List.mem_of_getElem? (i := 7) rfl)))
  have nz : ¬ (zs = (0 : Int32)) := gotF (Cond.eq_ints ez (Term.int_eval (0))) n5
  have Wl : Wld s s.heap := ⟨zs, fm, S1, nz, S2, rf⟩
  have hh : ∀ q ∈ EL1, Jvm.Lit.constHeld s q.1 q.2 := fun q hq => by
    cases List.mem_singleton.mp hq
    exact hcalls.1 ("java/lang/String", 7) (List.mem_of_getElem? (i := 4) rfl)
  have CH : CHv s EL1 s.vm s.heap := CHv.start (own_EW hw) hh hcw (hw _ (List.mem_of_getElem? (i := 19) rfl)) (hw _ (List.mem_of_getElem? (i := 5) rfl))
  obtain ⟨n, o, h1, h2, h3, _, L, rfl, ⟨rfl, N⟩, -, hq⟩ := rm0 l s _ hw tables_1 i0 i1 i2 s.heap s.heap.size (Nat.le_refl _) Wl p e ha hc hk s m _ below hf ((Spec.applies_iff_loose hf).mp happ).1 ⟨rfl, State.Warmed39.refl s, rfl, CH⟩ trivial
  refine ⟨n, _, h1, h2, h3, hpost _ _ _ _ _ _ ⟨Cond.after_iff.mpr rfl, Cond.after_iff.mpr (eq_i res_at (Term.int_eval (1)) rfl), trivial⟩ ⟨hq.1, hq.2.1, hq.2.2.1, (hq.2.2.2.sift fun y hy => Or.inr (N y hy)).mono (by decide) (by decide)⟩⟩
theorem main_1_1 : Claimed_1_1 := comes_1 fun _ _ _ _ _ _ h hF => ⟨h.1, hF⟩
theorem main_1_2 : Claimed_1_2 := comes_1 fun _ _ _ _ _ _ h hF => ⟨h.2.1, hF⟩
end Jvm.Pilot.@@N@@
namespace Jvm.Pilot.@@N@@
open Jvm Jvm.ClassFile Sem Op Lib Jvm.Free Jvm.Stand Jvm.Pilot.@@N@@.Jvm.D
/-! MADE BY PROGRAM (witnessworld.py) out of the Statement's table words and the real class files: 26 classes; the members and pool entries that the words name. The judged class is class 1, her method 2. -/
namespace start1
open Jvm.ClassFile
def u (s : String) : CpInfo := .utf8 (stringToUtf16 s)
/-- a pool by its gaps: so many unusable entries, then the entry; so many at the end -/
def gap : Nat → List CpInfo → List CpInfo
  | 0, r => r
  | n + 1, r => .unusable :: gap n r
def poolList (es : List (Nat × CpInfo)) (last : Nat) : List CpInfo := es.foldr (fun e r => gap e.1 (e.2 :: r)) (gap last [])
def pool (es : List (Nat × CpInfo)) (last : Nat) : Array CpInfo := ⟨poolList es last⟩
def fileOf (pool : Array CpInfo) (this : Nat) (attrs : Array Attribute := #[]) (ms : Array MethodInfo := #[]) (fl : Nat := 33) (sup : Nat := 0) (ifs : Array Nat := #[]) (fds : Array FieldInfo := #[]) : ClassFile where
  minorVersion := 0
  majorVersion := 65
  constantPool := pool
  accessFlags := fl
  thisClass := this
  superClass := sup
  interfaces := ifs
  fields := fds
  methods := ms
  attributes := attrs
def plain (name : String) (sup : Option ClassId) : Class where
  name := name
  kind := .ordinary
  loader := none
  accessFlags := 33
  super := sup
  interfaces := #[]
  cf := none
  fields := #[]
  methods := #[]
  instanceTypes := #[]
  staticTypes := #[]
  resolved := #[]
  callSites := []
  init := .initialized
  statics := none
  mirror := none

def pool0 : Array CpInfo := pool [(5, u "<init>"), (0, u "()V"), (1, .class_ 10), (1, u "java/lang/Object")] 113

def k0c0 : Code := { maxStack := 0, maxLocals := 1, code := object_method_1_code, exceptionTable := #[], attributes := #[] }
def k0m0 : Method := { name := "<init>", desc := "()V", sig := { parameters := [], returnType := none }, accessFlags := 1, code := some k0c0 }
/-- java/lang/Object -/
def k0 : Class := { plain "java/lang/Object" none with
  accessFlags := 33
  interfaces := #[]
  cf := some (fileOf pool0 8 #[] #[{ accessFlags := 1, nameIndex := 5, descriptorIndex := 6, attributes := #[] }] 33 0 #[] #[])
  fields := #[]
  methods := #[k0m0]
  instanceTypes := #[]
  staticTypes := #[]
  resolved := Array.replicate 124 none
  statics := none }

def pool1 : Array CpInfo := pool [(2, .class_ 4), (1, u "java/lang/Object"), (0, u "<init>"), (0, u "()V"), (0, .class_ 8), (0, u "java/lang/String"), (0, .methodref 7 10), (0, .nameAndType 5 11), (0, u "([C)V"), (0, .methodref 7 13), (0, .nameAndType 14 15), (0, u "valueOf"), (0, u "(C)Ljava/lang/String;"), (0, .methodref 17 18), (0, .class_ 19), (0, .nameAndType 20 21), (0, u "com/example/triview/triview/BlankNodeEqualsPinLaw"), (0, u "text"), (0, u "(ICC)Ljava/lang/String;"), (0, .class_ 23), (0, u "com/example/triview/triview/BlankNode"), (0, .methodref 22 25), (0, .nameAndType 5 26), (0, u "(Ljava/lang/String;)V"), (0, .class_ 28), (0, u "com/example/triview/triview/Iri"), (0, .methodref 27 25), (0, .methodref 22 31), (0, .nameAndType 32 33), (0, u "equals"), (0, u "(Ljava/lang/Object;)Z"), (3, u "law"), (0, u "(III)Z")] 2

def k1m0 : Method := { name := "<init>", desc := "()V", sig := { parameters := [], returnType := none }, accessFlags := 1, code := none }
def k1c1 : Code := { maxStack := 6, maxLocals := 3, code := method_2_code, exceptionTable := #[], attributes := #[] }
def k1m1 : Method := { name := "text", desc := "(ICC)Ljava/lang/String;", sig := { parameters := [.int, .char, .char], returnType := some (.object "java/lang/String") }, accessFlags := 10, code := some k1c1 }
def k1c2 : Code := { maxStack := 3, maxLocals := 19, code := code, exceptionTable := #[], attributes := #[] }
def k1m2 : Method := { name := "law", desc := "(III)Z", sig := { parameters := [.int, .int, .int], returnType := some .boolean }, accessFlags := 9, code := some k1c2 }
/-- com/example/triview/triview/BlankNodeEqualsPinLaw -/
def k1 : Class := { plain "com/example/triview/triview/BlankNodeEqualsPinLaw" (some 0) with
  accessFlags := 49
  interfaces := #[]
  cf := some (fileOf pool1 17 #[] #[{ accessFlags := 1, nameIndex := 5, descriptorIndex := 6, attributes := #[] }, { accessFlags := 10, nameIndex := 20, descriptorIndex := 21, attributes := #[] }, { accessFlags := 9, nameIndex := 37, descriptorIndex := 38, attributes := #[] }] 49 2 #[] #[])
  fields := #[]
  methods := #[k1m0, k1m1, k1m2]
  instanceTypes := #[]
  staticTypes := #[]
  resolved := Array.replicate 41 none
  statics := none }

def pool2 : Array CpInfo := pool [(1, .class_ 2), (0, u "java/io/Serializable"), (0, .class_ 4), (0, u "java/lang/Object")] 2

/-- java/io/Serializable -/
def k2 : Class := { plain "java/io/Serializable" (some 0) with
  accessFlags := 1537
  interfaces := #[]
  cf := some (fileOf pool2 1 #[] #[] 1537 3 #[] #[])
  fields := #[]
  methods := #[]
  instanceTypes := #[]
  staticTypes := #[]
  resolved := Array.replicate 7 none
  statics := none }

def pool3 : Array CpInfo := pool [(1, .class_ 2), (0, u "java/lang/Comparable"), (0, .class_ 4), (0, u "java/lang/Object")] 7

/-- java/lang/Comparable -/
def k3 : Class := { plain "java/lang/Comparable" (some 0) with
  accessFlags := 1537
  interfaces := #[]
  cf := some (fileOf pool3 1 #[] #[] 1537 3 #[] #[])
  fields := #[]
  methods := #[]
  instanceTypes := #[]
  staticTypes := #[]
  resolved := Array.replicate 12 none
  statics := none }

def pool4 : Array CpInfo := pool [(2, .class_ 4), (1, u "java/lang/CharSequence"), (42, .class_ 48), (0, u "java/lang/CharSequence$1CodePointIterator"), (10, .class_ 60), (0, u "java/lang/CharSequence$1CharIterator"), (5, .class_ 67), (0, u "java/lang/Object")] 63

/-- java/lang/CharSequence -/
def k4 : Class := { plain "java/lang/CharSequence" (some 0) with
  accessFlags := 1537
  interfaces := #[]
  cf := some (fileOf pool4 2 #[.nestMembers #[47, 59]] #[] 1537 66 #[] #[])
  fields := #[]
  methods := #[]
  instanceTypes := #[]
  staticTypes := #[]
  resolved := Array.replicate 131 none
  statics := none }

def pool5 : Array CpInfo := pool [(1, .class_ 2), (0, u "java/lang/constant/Constable"), (0, .class_ 4), (0, u "java/lang/Object")] 6

/-- java/lang/constant/Constable -/
def k5 : Class := { plain "java/lang/constant/Constable" (some 0) with
  accessFlags := 1537
  interfaces := #[]
  cf := some (fileOf pool5 1 #[] #[] 1537 3 #[] #[])
  fields := #[]
  methods := #[]
  instanceTypes := #[]
  staticTypes := #[]
  resolved := Array.replicate 11 none
  statics := none }

def pool6 : Array CpInfo := pool [(1, .class_ 2), (0, u "java/lang/constant/ConstantDesc"), (0, .class_ 4), (0, u "java/lang/Object")] 32

/-- java/lang/constant/ConstantDesc -/
def k6 : Class := { plain "java/lang/constant/ConstantDesc" (some 0) with
  accessFlags := 1537
  interfaces := #[]
  cf := some (fileOf pool6 1 #[] #[] 1537 3 #[] #[])
  fields := #[]
  methods := #[]
  instanceTypes := #[]
  staticTypes := #[]
  resolved := Array.replicate 37 none
  statics := none }

def pool7 : Array CpInfo := pool [(1, .methodref 2 3), (0, .class_ 4), (0, .nameAndType 5 6), (0, u "java/lang/Object"), (0, u "<init>"), (0, u "()V"), (0, .string 8), (0, u ""), (0, .fieldref 10 11), (0, .class_ 12), (0, .nameAndType 13 14), (0, u "java/lang/String"), (0, u "value"), (0, u "[B"), (0, .fieldref 10 16), (0, .nameAndType 17 18), (0, u "coder"), (0, u "B"), (2, u "hash"), (0, u "I"), (2, u "hashIsZero"), (0, u "Z"), (0, .methodref 10 28), (0, .nameAndType 5 29), (0, u "([CIILjava/lang/Void;)V"), (8, .fieldref 10 39), (0, .nameAndType 40 26), (0, u "COMPACT_STRINGS"), (1, .class_ 44), (1, u "java/lang/StringUTF16"), (0, u "compress"), (1, .methodref 42 48), (0, .nameAndType 49 50), (0, u "coderFromArrayLen"), (0, u "([BI)B"), (2, u "toBytes"), (53, .class_ 109), (1, u "java/lang/StringLatin1"), (32, u "()Z"), (34, .methodref 42 178), (0, .nameAndType 45 179), (0, u "([CII)[B"), (29, .methodref 10 210), (0, .nameAndType 5 211), (0, u "([BB)V"), (122, u "()I"), (0, .methodref 10 336), (0, .nameAndType 17 337), (0, u "()B"), (25, u "([BI)C"), (5, u "(C)Z"), (21, u "(II)V"), (35, u "(I)C"), (64, .methodref 10 493), (0, .nameAndType 494 142), (0, u "isLatin1"), (0, .methodref 107 496), (0, .nameAndType 497 363), (0, u "charAt"), (3, u "checkIndex"), (5, u "length"), (33, .methodref 107 542), (0, .nameAndType 543 544), (0, u "equals"), (0, u "([B[B)Z"), (28, u "(Ljava/lang/Object;)Z"), (1, .class_ 576), (0, u "java/lang/CharSequence"), (22, u "CASE_INSENSITIVE_ORDER"), (0, u "Ljava/util/Comparator;"), (181, u "valueOf"), (0, u "(C)Ljava/lang/String;"), (226, u "([C)V"), (4, .methodref 107 1016), (0, .nameAndType 1017 369), (0, u "canEncode"), (0, .methodref 107 1019), (0, .nameAndType 53 1020), (0, u "(C)[B"), (32, .fieldref 1054 1055), (0, .class_ 1056), (0, .nameAndType 1057 1058), (0, u "jdk/internal/util/Preconditions"), (0, u "SIOOBE_FORMATTER"), (0, u "Ljava/util/function/BiFunction;"), (0, .methodref 1054 1060), (0, .nameAndType 501 1061), (0, u "(IILjava/util/function/BiFunction;)I"), (39, u "serialPersistentFields"), (0, u "[Ljava/io/ObjectStreamField;"), (0, .class_ 1104), (0, u "java/lang/String$CaseInsensitiveComparator"), (1, .class_ 1107), (0, u "java/io/Serializable"), (0, .class_ 1109), (0, u "java/lang/Comparable"), (0, .class_ 1111), (0, u "java/lang/constant/Constable"), (0, .class_ 1113), (0, u "java/lang/constant/ConstantDesc"), (2, u "serialVersionUID"), (0, u "J"), (3, u "REPL"), (0, u "C"), (2, u "LATIN1"), (1, u "UTF16")] 323

def k7m0 : Method := { name := "<init>", desc := "()V", sig := { parameters := [], returnType := none }, accessFlags := 1, code := none }
def k7c1 : Code := { maxStack := 5, maxLocals := 2, code := jdk_42_method_3_code, exceptionTable := #[], attributes := #[] }
def k7m1 : Method := { name := "<init>", desc := "([C)V", sig := { parameters := [(.array .char)], returnType := none }, accessFlags := 1, code := some k7c1 }
def k7c2 : Code := { maxStack := 2, maxLocals := 1, code := jdk_42_method_54_code, exceptionTable := #[], attributes := #[] }
def k7m2 : Method := { name := "length", desc := "()I", sig := { parameters := [], returnType := some .int }, accessFlags := 1, code := some k7c2 }
def k7c3 : Code := { maxStack := 2, maxLocals := 2, code := jdk_42_method_56_code, exceptionTable := #[], attributes := #[] }
def k7m3 : Method := { name := "charAt", desc := "(I)C", sig := { parameters := [.int], returnType := some .char }, accessFlags := 1, code := some k7c3 }
def k7c4 : Code := { maxStack := 2, maxLocals := 3, code := jdk_42_method_66_code, exceptionTable := #[], attributes := #[] }
def k7m4 : Method := { name := "equals", desc := "(Ljava/lang/Object;)Z", sig := { parameters := [(.object "java/lang/Object")], returnType := some .boolean }, accessFlags := 1, code := some k7c4 }
def k7c5 : Code := { maxStack := 4, maxLocals := 1, code := jdk_42_method_139_code, exceptionTable := #[], attributes := #[] }
def k7m5 : Method := { name := "valueOf", desc := "(C)Ljava/lang/String;", sig := { parameters := [.char], returnType := some (.object "java/lang/String") }, accessFlags := 9, code := some k7c5 }
def k7c6 : Code := { maxStack := 4, maxLocals := 6, code := jdk_42_method_149_code, exceptionTable := #[], attributes := #[] }
def k7m6 : Method := { name := "<init>", desc := "([CIILjava/lang/Void;)V", sig := { parameters := [(.array .char), .int, .int, (.object "java/lang/Void")], returnType := none }, accessFlags := 2, code := some k7c6 }
def k7c7 : Code := { maxStack := 2, maxLocals := 3, code := jdk_42_method_151_code, exceptionTable := #[], attributes := #[] }
def k7m7 : Method := { name := "<init>", desc := "([BB)V", sig := { parameters := [(.array .byte), .byte], returnType := none }, accessFlags := 0, code := some k7c7 }
def k7c8 : Code := { maxStack := 1, maxLocals := 1, code := jdk_42_method_152_code, exceptionTable := #[], attributes := #[] }
def k7m8 : Method := { name := "coder", desc := "()B", sig := { parameters := [], returnType := some .byte }, accessFlags := 0, code := some k7c8 }
def k7c9 : Code := { maxStack := 1, maxLocals := 1, code := jdk_42_method_154_code, exceptionTable := #[], attributes := #[] }
def k7m9 : Method := { name := "isLatin1", desc := "()Z", sig := { parameters := [], returnType := some .boolean }, accessFlags := 0, code := some k7c9 }
def k7c10 : Code := { maxStack := 3, maxLocals := 2, code := jdk_42_method_155_code, exceptionTable := #[], attributes := #[] }
def k7m10 : Method := { name := "checkIndex", desc := "(II)V", sig := { parameters := [.int, .int], returnType := none }, accessFlags := 8, code := some k7c10 }
/-- java/lang/String -/
def k7 : Class := { plain "java/lang/String" (some 0) with
  accessFlags := 49
  interfaces := #[2, 3, 4, 5, 6]
  cf := some (fileOf pool7 10 #[.nestMembers #[1103]] #[{ accessFlags := 1, nameIndex := 5, descriptorIndex := 6, attributes := #[] }, { accessFlags := 1, nameIndex := 5, descriptorIndex := 1010, attributes := #[] }, { accessFlags := 1, nameIndex := 507, descriptorIndex := 334, attributes := #[] }, { accessFlags := 1, nameIndex := 497, descriptorIndex := 427, attributes := #[] }, { accessFlags := 1, nameIndex := 543, descriptorIndex := 573, attributes := #[] }, { accessFlags := 9, nameIndex := 782, descriptorIndex := 783, attributes := #[] }, { accessFlags := 2, nameIndex := 5, descriptorIndex := 29, attributes := #[] }, { accessFlags := 0, nameIndex := 5, descriptorIndex := 211, attributes := #[] }, { accessFlags := 0, nameIndex := 17, descriptorIndex := 337, attributes := #[] }, { accessFlags := 0, nameIndex := 494, descriptorIndex := 142, attributes := #[] }, { accessFlags := 8, nameIndex := 501, descriptorIndex := 391, attributes := #[] }] 49 2 #[1106, 1108, 575, 1110, 1112] #[{ accessFlags := 18, nameIndex := 13, descriptorIndex := 14, attributes := #[] }, { accessFlags := 18, nameIndex := 17, descriptorIndex := 18, attributes := #[] }, { accessFlags := 2, nameIndex := 21, descriptorIndex := 22, attributes := #[] }, { accessFlags := 2, nameIndex := 25, descriptorIndex := 26, attributes := #[] }, { accessFlags := 26, nameIndex := 1116, descriptorIndex := 1117, attributes := #[] }, { accessFlags := 24, nameIndex := 40, descriptorIndex := 26, attributes := #[] }, { accessFlags := 26, nameIndex := 1101, descriptorIndex := 1102, attributes := #[] }, { accessFlags := 26, nameIndex := 1121, descriptorIndex := 1122, attributes := #[] }, { accessFlags := 25, nameIndex := 599, descriptorIndex := 600, attributes := #[] }, { accessFlags := 24, nameIndex := 1125, descriptorIndex := 18, attributes := #[] }, { accessFlags := 24, nameIndex := 1127, descriptorIndex := 18, attributes := #[] }])
  fields := #[{ name := "value", type := (.array .byte), accessFlags := 18, slot := 0, constantValue := 0 }, { name := "coder", type := .byte, accessFlags := 18, slot := 1, constantValue := 0 }, { name := "hash", type := .int, accessFlags := 2, slot := 2, constantValue := 0 }, { name := "hashIsZero", type := .boolean, accessFlags := 2, slot := 3, constantValue := 0 }, { name := "serialVersionUID", type := .long, accessFlags := 26, slot := 0, constantValue := 0 }, { name := "COMPACT_STRINGS", type := .boolean, accessFlags := 24, slot := 1, constantValue := 0 }, { name := "serialPersistentFields", type := (.array (.object "java/io/ObjectStreamField")), accessFlags := 26, slot := 2, constantValue := 0 }, { name := "REPL", type := .char, accessFlags := 26, slot := 3, constantValue := 0 }, { name := "CASE_INSENSITIVE_ORDER", type := (.object "java/util/Comparator"), accessFlags := 25, slot := 4, constantValue := 0 }, { name := "LATIN1", type := .byte, accessFlags := 24, slot := 5, constantValue := 0 }, { name := "UTF16", type := .byte, accessFlags := 24, slot := 6, constantValue := 0 }]
  methods := #[k7m0, k7m1, k7m2, k7m3, k7m4, k7m5, k7m6, k7m7, k7m8, k7m9, k7m10]
  instanceTypes := #[(.array .byte), .byte, .int, .boolean]
  staticTypes := #[.long, .boolean, (.array (.object "java/io/ObjectStreamField")), .char, (.object "java/util/Comparator"), .byte, .byte]
  resolved := Array.replicate 1451 none
  statics := some 0 }

def pool8 : Array CpInfo := pool [(1, .methodref 2 3), (0, .class_ 4), (0, .nameAndType 5 6), (0, u "java/lang/Object"), (0, u "<init>"), (0, u "()V"), (0, .class_ 8), (0, u "java/lang/Record")] 13

def k8c0 : Code := { maxStack := 1, maxLocals := 1, code := jdk_30_method_1_code, exceptionTable := #[], attributes := #[] }
def k8m0 : Method := { name := "<init>", desc := "()V", sig := { parameters := [], returnType := none }, accessFlags := 4, code := some k8c0 }
/-- java/lang/Record -/
def k8 : Class := { plain "java/lang/Record" (some 0) with
  accessFlags := 1057
  interfaces := #[]
  cf := some (fileOf pool8 7 #[] #[{ accessFlags := 4, nameIndex := 5, descriptorIndex := 6, attributes := #[] }] 1057 2 #[] #[])
  fields := #[]
  methods := #[k8m0]
  instanceTypes := #[]
  staticTypes := #[]
  resolved := Array.replicate 22 none
  statics := none }

def pool9 : Array CpInfo := pool [(1, .class_ 2), (0, u "com/example/triview/triview/Term"), (0, .class_ 4), (0, u "java/lang/Object")] 11

/-- com/example/triview/triview/Term -/
def k9 : Class := { plain "com/example/triview/triview/Term" (some 0) with
  accessFlags := 1537
  interfaces := #[]
  cf := some (fileOf pool9 1 #[] #[] 1537 3 #[] #[])
  fields := #[]
  methods := #[]
  instanceTypes := #[]
  staticTypes := #[]
  resolved := Array.replicate 16 none
  statics := none }

def pool10 : Array CpInfo := pool [(1, .methodref 2 3), (0, .class_ 4), (0, .nameAndType 5 6), (0, u "java/lang/Record"), (0, u "<init>"), (0, u "()V"), (0, .string 8), (0, u "label"), (0, .methodref 10 11), (0, .class_ 12), (0, .nameAndType 13 14), (0, u "java/util/Objects"), (0, u "requireNonNull"), (0, u "(Ljava/lang/Object;Ljava/lang/String;)Ljava/lang/Object;"), (0, .string 16), (0, u "a blank node label"), (0, .methodref 18 19), (0, .class_ 20), (0, .nameAndType 21 22), (0, u "com/example/triview/triview/UnicodeText"), (0, u "check"), (0, u "(Ljava/lang/String;Ljava/lang/String;)V"), (0, .fieldref 24 25), (0, .class_ 26), (0, .nameAndType 8 27), (0, u "com/example/triview/triview/BlankNode"), (0, u "Ljava/lang/String;"), (4, .methodref 33 34), (0, .class_ 35), (0, .nameAndType 36 37), (0, u "java/lang/String"), (0, u "equals"), (0, u "(Ljava/lang/Object;)Z"), (8, .class_ 47), (0, u "com/example/triview/triview/Term"), (0, u "(Ljava/lang/String;)V")] 32

def k10c0 : Code := { maxStack := 2, maxLocals := 2, code := prog_6_method_1_code, exceptionTable := #[], attributes := #[] }
def k10m0 : Method := { name := "<init>", desc := "(Ljava/lang/String;)V", sig := { parameters := [(.object "java/lang/String")], returnType := none }, accessFlags := 1, code := some k10c0 }
def k10c1 : Code := { maxStack := 2, maxLocals := 3, code := prog_6_method_3_code, exceptionTable := #[], attributes := #[] }
def k10m1 : Method := { name := "equals", desc := "(Ljava/lang/Object;)Z", sig := { parameters := [(.object "java/lang/Object")], returnType := some .boolean }, accessFlags := 1, code := some k10c1 }
/-- com/example/triview/triview/BlankNode -/
def k10 : Class := { plain "com/example/triview/triview/BlankNode" (some 8) with
  accessFlags := 49
  interfaces := #[9]
  cf := some (fileOf pool10 24 #[] #[{ accessFlags := 1, nameIndex := 5, descriptorIndex := 48, attributes := #[] }, { accessFlags := 1, nameIndex := 36, descriptorIndex := 37, attributes := #[] }] 49 2 #[46] #[{ accessFlags := 18, nameIndex := 8, descriptorIndex := 27, attributes := #[] }])
  fields := #[{ name := "label", type := (.object "java/lang/String"), accessFlags := 18, slot := 0, constantValue := 0 }]
  methods := #[k10m0, k10m1]
  instanceTypes := #[(.object "java/lang/String")]
  staticTypes := #[]
  resolved := Array.replicate 81 none
  statics := none }

def pool11 : Array CpInfo := pool [(2, .class_ 4), (1, u "java/lang/Object"), (0, u "<init>"), (0, u "()V"), (35, .class_ 44), (1, u "java/util/Objects"), (0, u "requireNonNull"), (48, u "(Ljava/lang/Object;Ljava/lang/String;)Ljava/lang/Object;")] 89

def k11m0 : Method := { name := "<init>", desc := "()V", sig := { parameters := [], returnType := none }, accessFlags := 2, code := none }
def k11c1 : Code := { maxStack := 3, maxLocals := 2, code := jdk_31_method_11_code, exceptionTable := #[], attributes := #[] }
def k11m1 : Method := { name := "requireNonNull", desc := "(Ljava/lang/Object;Ljava/lang/String;)Ljava/lang/Object;", sig := { parameters := [(.object "java/lang/Object"), (.object "java/lang/String")], returnType := some (.object "java/lang/Object") }, accessFlags := 9, code := some k11c1 }
/-- java/util/Objects -/
def k11 : Class := { plain "java/util/Objects" (some 0) with
  accessFlags := 49
  interfaces := #[]
  cf := some (fileOf pool11 42 #[] #[{ accessFlags := 2, nameIndex := 5, descriptorIndex := 6, attributes := #[] }, { accessFlags := 9, nameIndex := 45, descriptorIndex := 94, attributes := #[] }] 49 2 #[] #[])
  fields := #[]
  methods := #[k11m0, k11m1]
  instanceTypes := #[]
  staticTypes := #[]
  resolved := Array.replicate 184 none
  statics := none }

def pool12 : Array CpInfo := pool [(2, .class_ 4), (1, u "java/lang/Object"), (0, u "<init>"), (0, u "()V"), (0, .methodref 8 9), (0, .class_ 10), (0, .nameAndType 11 12), (0, u "java/lang/String"), (0, u "length"), (0, u "()I"), (0, .methodref 8 14), (0, .nameAndType 15 16), (0, u "charAt"), (0, u "(I)C"), (0, .methodref 18 19), (0, .class_ 20), (0, .nameAndType 21 22), (0, u "java/lang/Character"), (0, u "isSurrogate"), (0, u "(C)Z"), (23, .class_ 47), (0, u "com/example/triview/triview/UnicodeText"), (2, u "check"), (0, u "(Ljava/lang/String;Ljava/lang/String;)V")] 3

def k12m0 : Method := { name := "<init>", desc := "()V", sig := { parameters := [], returnType := none }, accessFlags := 2, code := none }
def k12c1 : Code := { maxStack := 7, maxLocals := 4, code := prog_51_method_2_code, exceptionTable := #[], attributes := #[] }
def k12m1 : Method := { name := "check", desc := "(Ljava/lang/String;Ljava/lang/String;)V", sig := { parameters := [(.object "java/lang/String"), (.object "java/lang/String")], returnType := none }, accessFlags := 8, code := some k12c1 }
/-- com/example/triview/triview/UnicodeText -/
def k12 : Class := { plain "com/example/triview/triview/UnicodeText" (some 0) with
  accessFlags := 48
  interfaces := #[]
  cf := some (fileOf pool12 46 #[] #[{ accessFlags := 2, nameIndex := 5, descriptorIndex := 6, attributes := #[] }, { accessFlags := 8, nameIndex := 50, descriptorIndex := 51, attributes := #[] }] 48 2 #[] #[])
  fields := #[]
  methods := #[k12m0, k12m1]
  instanceTypes := #[]
  staticTypes := #[]
  resolved := Array.replicate 55 none
  statics := none }

def pool13 : Array CpInfo := pool [(1, .class_ 2), (0, u "java/lang/String"), (1, .class_ 6), (1, u "java/lang/Object"), (0, u "<init>"), (0, u "()V"), (0, .methodref 1 10), (0, .nameAndType 11 12), (0, u "checkIndex"), (0, u "(II)V"), (1, .class_ 16), (1, u "java/lang/StringLatin1"), (36, u "([BI)C"), (36, u "canEncode"), (14, u "(C)Z"), (15, u "$assertionsDisabled"), (0, u "Z"), (98, .class_ 223), (1, u "java/lang/StringLatin1$LinesSpliterator"), (28, u "charAt"), (28, u "equals"), (0, u "([B[B)Z"), (97, u "toBytes"), (1, u "(C)[B"), (7, .class_ 391), (0, u "java/lang/StringLatin1$CharsSpliterator")] 3

def k13m0 : Method := { name := "<init>", desc := "()V", sig := { parameters := [], returnType := none }, accessFlags := 0, code := none }
def k13c1 : Code := { maxStack := 2, maxLocals := 2, code := jdk_43_method_2_code, exceptionTable := #[], attributes := #[] }
def k13m1 : Method := { name := "charAt", desc := "([BI)C", sig := { parameters := [(.array .byte), .int], returnType := some .char }, accessFlags := 9, code := some k13c1 }
def k13c2 : Code := { maxStack := 2, maxLocals := 1, code := jdk_43_method_3_code, exceptionTable := #[], attributes := #[] }
def k13m2 : Method := { name := "canEncode", desc := "(C)Z", sig := { parameters := [.char], returnType := some .boolean }, accessFlags := 9, code := some k13c2 }
def k13c3 : Code := { maxStack := 3, maxLocals := 3, code := jdk_43_method_13_code, exceptionTable := #[], attributes := #[] }
def k13m3 : Method := { name := "equals", desc := "([B[B)Z", sig := { parameters := [(.array .byte), (.array .byte)], returnType := some .boolean }, accessFlags := 9, code := some k13c3 }
def k13c4 : Code := { maxStack := 4, maxLocals := 1, code := jdk_43_method_46_code, exceptionTable := #[], attributes := #[] }
def k13m4 : Method := { name := "toBytes", desc := "(C)[B", sig := { parameters := [.char], returnType := some (.array .byte) }, accessFlags := 9, code := some k13c4 }
/-- java/lang/StringLatin1 -/
def k13 : Class := { plain "java/lang/StringLatin1" (some 0) with
  accessFlags := 48
  interfaces := #[]
  cf := some (fileOf pool13 14 #[.nestMembers #[390, 221]] #[{ accessFlags := 0, nameIndex := 7, descriptorIndex := 8, attributes := #[] }, { accessFlags := 9, nameIndex := 252, descriptorIndex := 53, attributes := #[] }, { accessFlags := 9, nameIndex := 90, descriptorIndex := 105, attributes := #[] }, { accessFlags := 9, nameIndex := 281, descriptorIndex := 282, attributes := #[] }, { accessFlags := 9, nameIndex := 380, descriptorIndex := 382, attributes := #[] }] 48 4 #[] #[{ accessFlags := 4120, nameIndex := 121, descriptorIndex := 122, attributes := #[] }])
  fields := #[{ name := "$assertionsDisabled", type := .boolean, accessFlags := 4120, slot := 0, constantValue := 0 }]
  methods := #[k13m0, k13m1, k13m2, k13m3, k13m4]
  instanceTypes := #[]
  staticTypes := #[.boolean]
  resolved := Array.replicate 395 none
  statics := none }

def pool14 : Array CpInfo := pool [(2, .class_ 4), (1, u "java/lang/Object"), (0, u "<init>"), (0, u "()V"), (17, .class_ 26), (1, u "jdk/internal/util/Preconditions"), (6, u "checkIndex"), (21, .class_ 56), (0, u "jdk/internal/util/Preconditions$4"), (57, .class_ 115), (0, u "jdk/internal/util/Preconditions$1"), (7, u "SIOOBE_FORMATTER"), (0, u "Ljava/util/function/BiFunction;"), (0, .class_ 126), (0, u "jdk/internal/util/Preconditions$2"), (3, u "AIOOBE_FORMATTER"), (0, .class_ 132), (0, u "jdk/internal/util/Preconditions$3"), (3, u "IOOBE_FORMATTER"), (41, u "(IILjava/util/function/BiFunction;)I")] 15

def k14m0 : Method := { name := "<init>", desc := "()V", sig := { parameters := [], returnType := none }, accessFlags := 1, code := none }
def k14c1 : Code := { maxStack := 3, maxLocals := 3, code := jdk_41_method_11_code, exceptionTable := #[], attributes := #[] }
def k14m1 : Method := { name := "checkIndex", desc := "(IILjava/util/function/BiFunction;)I", sig := { parameters := [.int, .int, (.object "java/util/function/BiFunction")], returnType := some .int }, accessFlags := 9, code := some k14c1 }
/-- jdk/internal/util/Preconditions -/
def k14 : Class := { plain "jdk/internal/util/Preconditions" (some 0) with
  accessFlags := 33
  interfaces := #[]
  cf := some (fileOf pool14 24 #[.nestMembers #[55, 131, 125, 114]] #[{ accessFlags := 1, nameIndex := 5, descriptorIndex := 6, attributes := #[] }, { accessFlags := 9, nameIndex := 33, descriptorIndex := 178, attributes := #[] }] 33 2 #[] #[{ accessFlags := 25, nameIndex := 123, descriptorIndex := 124, attributes := #[] }, { accessFlags := 25, nameIndex := 130, descriptorIndex := 124, attributes := #[] }, { accessFlags := 25, nameIndex := 136, descriptorIndex := 124, attributes := #[] }])
  fields := #[{ name := "SIOOBE_FORMATTER", type := (.object "java/util/function/BiFunction"), accessFlags := 25, slot := 0, constantValue := 0 }, { name := "AIOOBE_FORMATTER", type := (.object "java/util/function/BiFunction"), accessFlags := 25, slot := 1, constantValue := 0 }, { name := "IOOBE_FORMATTER", type := (.object "java/util/function/BiFunction"), accessFlags := 25, slot := 2, constantValue := 0 }]
  methods := #[k14m0, k14m1]
  instanceTypes := #[]
  staticTypes := #[(.object "java/util/function/BiFunction"), (.object "java/util/function/BiFunction"), (.object "java/util/function/BiFunction")]
  resolved := Array.replicate 194 none
  statics := some 1 }

def pool15 : Array CpInfo := pool [(1, .class_ 2), (0, u "java/lang/Character"), (18, u "value"), (0, u "C"), (19, .class_ 44), (1, u "java/lang/Object"), (3, .class_ 50), (1, u "java/lang/Character$CharacterCache"), (24, .integer 55296), (5, u "(C)Z"), (202, u "$assertionsDisabled"), (0, u "Z"), (21, .class_ 309), (1, u "java/lang/Character$UnicodeBlock"), (73, u "TYPE"), (0, u "Ljava/lang/Class;"), (0, .class_ 386), (0, u "java/io/Serializable"), (0, .class_ 388), (0, u "java/lang/Comparable"), (0, .class_ 390), (0, u "java/lang/constant/Constable"), (0, u "MIN_RADIX"), (0, u "I"), (2, u "MAX_RADIX"), (1, u "MIN_VALUE"), (1, u "MAX_VALUE"), (3, u "UNASSIGNED"), (0, u "B"), (0, u "UPPERCASE_LETTER"), (1, u "LOWERCASE_LETTER"), (0, u "TITLECASE_LETTER"), (1, u "MODIFIER_LETTER"), (1, u "OTHER_LETTER"), (1, u "NON_SPACING_MARK"), (1, u "ENCLOSING_MARK"), (1, u "COMBINING_SPACING_MARK"), (1, u "DECIMAL_DIGIT_NUMBER"), (1, u "LETTER_NUMBER"), (1, u "OTHER_NUMBER"), (1, u "SPACE_SEPARATOR"), (1, u "LINE_SEPARATOR"), (1, u "PARAGRAPH_SEPARATOR"), (1, u "CONTROL"), (1, u "FORMAT"), (1, u "PRIVATE_USE"), (1, u "SURROGATE"), (1, u "DASH_PUNCTUATION"), (1, u "START_PUNCTUATION"), (1, u "END_PUNCTUATION"), (1, u "CONNECTOR_PUNCTUATION"), (1, u "OTHER_PUNCTUATION"), (1, u "MATH_SYMBOL"), (1, u "CURRENCY_SYMBOL"), (1, u "MODIFIER_SYMBOL"), (1, u "OTHER_SYMBOL"), (1, u "INITIAL_QUOTE_PUNCTUATION"), (1, u "FINAL_QUOTE_PUNCTUATION"), (1, u "ERROR"), (1, u "DIRECTIONALITY_UNDEFINED"), (0, u "DIRECTIONALITY_LEFT_TO_RIGHT"), (0, u "DIRECTIONALITY_RIGHT_TO_LEFT"), (0, u "DIRECTIONALITY_RIGHT_TO_LEFT_ARABIC"), (0, u "DIRECTIONALITY_EUROPEAN_NUMBER"), (0, u "DIRECTIONALITY_EUROPEAN_NUMBER_SEPARATOR"), (0, u "DIRECTIONALITY_EUROPEAN_NUMBER_TERMINATOR"), (0, u "DIRECTIONALITY_ARABIC_NUMBER"), (0, u "DIRECTIONALITY_COMMON_NUMBER_SEPARATOR"), (0, u "DIRECTIONALITY_NONSPACING_MARK"), (0, u "DIRECTIONALITY_BOUNDARY_NEUTRAL"), (0, u "DIRECTIONALITY_PARAGRAPH_SEPARATOR"), (0, u "DIRECTIONALITY_SEGMENT_SEPARATOR"), (0, u "DIRECTIONALITY_WHITESPACE"), (0, u "DIRECTIONALITY_OTHER_NEUTRALS"), (0, u "DIRECTIONALITY_LEFT_TO_RIGHT_EMBEDDING"), (0, u "DIRECTIONALITY_LEFT_TO_RIGHT_OVERRIDE"), (0, u "DIRECTIONALITY_RIGHT_TO_LEFT_EMBEDDING"), (0, u "DIRECTIONALITY_RIGHT_TO_LEFT_OVERRIDE"), (1, u "DIRECTIONALITY_POP_DIRECTIONAL_FORMAT"), (0, u "DIRECTIONALITY_LEFT_TO_RIGHT_ISOLATE"), (0, u "DIRECTIONALITY_RIGHT_TO_LEFT_ISOLATE"), (0, u "DIRECTIONALITY_FIRST_STRONG_ISOLATE"), (0, u "DIRECTIONALITY_POP_DIRECTIONAL_ISOLATE"), (0, u "MIN_HIGH_SURROGATE"), (0, u "MAX_HIGH_SURROGATE"), (1, u "MIN_LOW_SURROGATE"), (0, u "MAX_LOW_SURROGATE"), (1, u "MIN_SURROGATE"), (0, u "MAX_SURROGATE"), (0, u "MIN_SUPPLEMENTARY_CODE_POINT"), (0, u "MIN_CODE_POINT"), (0, u "MAX_CODE_POINT"), (1, u "serialVersionUID"), (0, u "J"), (2, u "SIZE"), (0, u "BYTES"), (24, u "isSurrogate"), (63, .class_ 596), (0, u "java/lang/Character$UnicodeScript"), (0, .class_ 598), (0, u "java/lang/Character$Subset")] 5

def k15c0 : Code := { maxStack := 2, maxLocals := 1, code := jdk_89_method_16_code, exceptionTable := #[], attributes := #[] }
def k15m0 : Method := { name := "isSurrogate", desc := "(C)Z", sig := { parameters := [.char], returnType := some .boolean }, accessFlags := 9, code := some k15c0 }
/-- java/lang/Character -/
def k15 : Class := { plain "java/lang/Character" (some 0) with
  accessFlags := 49
  interfaces := #[2, 3, 5]
  cf := some (fileOf pool15 1 #[.nestMembers #[48, 595, 307, 597]] #[{ accessFlags := 9, nameIndex := 531, descriptorIndex := 81, attributes := #[] }] 49 42 #[385, 387, 389] #[{ accessFlags := 25, nameIndex := 391, descriptorIndex := 392, attributes := #[] }, { accessFlags := 25, nameIndex := 395, descriptorIndex := 392, attributes := #[] }, { accessFlags := 25, nameIndex := 397, descriptorIndex := 22, attributes := #[] }, { accessFlags := 25, nameIndex := 399, descriptorIndex := 22, attributes := #[] }, { accessFlags := 25, nameIndex := 383, descriptorIndex := 384, attributes := #[] }, { accessFlags := 25, nameIndex := 403, descriptorIndex := 404, attributes := #[] }, { accessFlags := 25, nameIndex := 405, descriptorIndex := 404, attributes := #[] }, { accessFlags := 25, nameIndex := 407, descriptorIndex := 404, attributes := #[] }, { accessFlags := 25, nameIndex := 408, descriptorIndex := 404, attributes := #[] }, { accessFlags := 25, nameIndex := 410, descriptorIndex := 404, attributes := #[] }, { accessFlags := 25, nameIndex := 412, descriptorIndex := 404, attributes := #[] }, { accessFlags := 25, nameIndex := 414, descriptorIndex := 404, attributes := #[] }, { accessFlags := 25, nameIndex := 416, descriptorIndex := 404, attributes := #[] }, { accessFlags := 25, nameIndex := 418, descriptorIndex := 404, attributes := #[] }, { accessFlags := 25, nameIndex := 420, descriptorIndex := 404, attributes := #[] }, { accessFlags := 25, nameIndex := 422, descriptorIndex := 404, attributes := #[] }, { accessFlags := 25, nameIndex := 424, descriptorIndex := 404, attributes := #[] }, { accessFlags := 25, nameIndex := 426, descriptorIndex := 404, attributes := #[] }, { accessFlags := 25, nameIndex := 428, descriptorIndex := 404, attributes := #[] }, { accessFlags := 25, nameIndex := 430, descriptorIndex := 404, attributes := #[] }, { accessFlags := 25, nameIndex := 432, descriptorIndex := 404, attributes := #[] }, { accessFlags := 25, nameIndex := 434, descriptorIndex := 404, attributes := #[] }, { accessFlags := 25, nameIndex := 436, descriptorIndex := 404, attributes := #[] }, { accessFlags := 25, nameIndex := 438, descriptorIndex := 404, attributes := #[] }, { accessFlags := 25, nameIndex := 440, descriptorIndex := 404, attributes := #[] }, { accessFlags := 25, nameIndex := 442, descriptorIndex := 404, attributes := #[] }, { accessFlags := 25, nameIndex := 444, descriptorIndex := 404, attributes := #[] }, { accessFlags := 25, nameIndex := 446, descriptorIndex := 404, attributes := #[] }, { accessFlags := 25, nameIndex := 448, descriptorIndex := 404, attributes := #[] }, { accessFlags := 25, nameIndex := 450, descriptorIndex := 404, attributes := #[] }, { accessFlags := 25, nameIndex := 452, descriptorIndex := 404, attributes := #[] }, { accessFlags := 25, nameIndex := 454, descriptorIndex := 404, attributes := #[] }, { accessFlags := 25, nameIndex := 456, descriptorIndex := 404, attributes := #[] }, { accessFlags := 25, nameIndex := 458, descriptorIndex := 404, attributes := #[] }, { accessFlags := 25, nameIndex := 460, descriptorIndex := 404, attributes := #[] }, { accessFlags := 24, nameIndex := 462, descriptorIndex := 392, attributes := #[] }, { accessFlags := 25, nameIndex := 464, descriptorIndex := 404, attributes := #[] }, { accessFlags := 25, nameIndex := 465, descriptorIndex := 404, attributes := #[] }, { accessFlags := 25, nameIndex := 466, descriptorIndex := 404, attributes := #[] }, { accessFlags := 25, nameIndex := 467, descriptorIndex := 404, attributes := #[] }, { accessFlags := 25, nameIndex := 468, descriptorIndex := 404, attributes := #[] }, { accessFlags := 25, nameIndex := 469, descriptorIndex := 404, attributes := #[] }, { accessFlags := 25, nameIndex := 470, descriptorIndex := 404, attributes := #[] }, { accessFlags := 25, nameIndex := 471, descriptorIndex := 404, attributes := #[] }, { accessFlags := 25, nameIndex := 472, descriptorIndex := 404, attributes := #[] }, { accessFlags := 25, nameIndex := 473, descriptorIndex := 404, attributes := #[] }, { accessFlags := 25, nameIndex := 474, descriptorIndex := 404, attributes := #[] }, { accessFlags := 25, nameIndex := 475, descriptorIndex := 404, attributes := #[] }, { accessFlags := 25, nameIndex := 476, descriptorIndex := 404, attributes := #[] }, { accessFlags := 25, nameIndex := 477, descriptorIndex := 404, attributes := #[] }, { accessFlags := 25, nameIndex := 478, descriptorIndex := 404, attributes := #[] }, { accessFlags := 25, nameIndex := 479, descriptorIndex := 404, attributes := #[] }, { accessFlags := 25, nameIndex := 480, descriptorIndex := 404, attributes := #[] }, { accessFlags := 25, nameIndex := 481, descriptorIndex := 404, attributes := #[] }, { accessFlags := 25, nameIndex := 482, descriptorIndex := 404, attributes := #[] }, { accessFlags := 25, nameIndex := 484, descriptorIndex := 404, attributes := #[] }, { accessFlags := 25, nameIndex := 485, descriptorIndex := 404, attributes := #[] }, { accessFlags := 25, nameIndex := 486, descriptorIndex := 404, attributes := #[] }, { accessFlags := 25, nameIndex := 487, descriptorIndex := 404, attributes := #[] }, { accessFlags := 25, nameIndex := 488, descriptorIndex := 404, attributes := #[] }, { accessFlags := 25, nameIndex := 489, descriptorIndex := 22, attributes := #[] }, { accessFlags := 25, nameIndex := 490, descriptorIndex := 22, attributes := #[] }, { accessFlags := 25, nameIndex := 492, descriptorIndex := 22, attributes := #[] }, { accessFlags := 25, nameIndex := 493, descriptorIndex := 22, attributes := #[] }, { accessFlags := 25, nameIndex := 495, descriptorIndex := 22, attributes := #[] }, { accessFlags := 25, nameIndex := 496, descriptorIndex := 22, attributes := #[] }, { accessFlags := 25, nameIndex := 497, descriptorIndex := 392, attributes := #[] }, { accessFlags := 25, nameIndex := 498, descriptorIndex := 392, attributes := #[] }, { accessFlags := 25, nameIndex := 499, descriptorIndex := 392, attributes := #[] }, { accessFlags := 18, nameIndex := 21, descriptorIndex := 22, attributes := #[] }, { accessFlags := 26, nameIndex := 501, descriptorIndex := 502, attributes := #[] }, { accessFlags := 25, nameIndex := 505, descriptorIndex := 392, attributes := #[] }, { accessFlags := 25, nameIndex := 506, descriptorIndex := 392, attributes := #[] }, { accessFlags := 4120, nameIndex := 284, descriptorIndex := 285, attributes := #[] }])
  fields := #[{ name := "MIN_RADIX", type := .int, accessFlags := 25, slot := 0, constantValue := 0 }, { name := "MAX_RADIX", type := .int, accessFlags := 25, slot := 1, constantValue := 0 }, { name := "MIN_VALUE", type := .char, accessFlags := 25, slot := 2, constantValue := 0 }, { name := "MAX_VALUE", type := .char, accessFlags := 25, slot := 3, constantValue := 0 }, { name := "TYPE", type := (.object "java/lang/Class"), accessFlags := 25, slot := 4, constantValue := 0 }, { name := "UNASSIGNED", type := .byte, accessFlags := 25, slot := 5, constantValue := 0 }, { name := "UPPERCASE_LETTER", type := .byte, accessFlags := 25, slot := 6, constantValue := 0 }, { name := "LOWERCASE_LETTER", type := .byte, accessFlags := 25, slot := 7, constantValue := 0 }, { name := "TITLECASE_LETTER", type := .byte, accessFlags := 25, slot := 8, constantValue := 0 }, { name := "MODIFIER_LETTER", type := .byte, accessFlags := 25, slot := 9, constantValue := 0 }, { name := "OTHER_LETTER", type := .byte, accessFlags := 25, slot := 10, constantValue := 0 }, { name := "NON_SPACING_MARK", type := .byte, accessFlags := 25, slot := 11, constantValue := 0 }, { name := "ENCLOSING_MARK", type := .byte, accessFlags := 25, slot := 12, constantValue := 0 }, { name := "COMBINING_SPACING_MARK", type := .byte, accessFlags := 25, slot := 13, constantValue := 0 }, { name := "DECIMAL_DIGIT_NUMBER", type := .byte, accessFlags := 25, slot := 14, constantValue := 0 }, { name := "LETTER_NUMBER", type := .byte, accessFlags := 25, slot := 15, constantValue := 0 }, { name := "OTHER_NUMBER", type := .byte, accessFlags := 25, slot := 16, constantValue := 0 }, { name := "SPACE_SEPARATOR", type := .byte, accessFlags := 25, slot := 17, constantValue := 0 }, { name := "LINE_SEPARATOR", type := .byte, accessFlags := 25, slot := 18, constantValue := 0 }, { name := "PARAGRAPH_SEPARATOR", type := .byte, accessFlags := 25, slot := 19, constantValue := 0 }, { name := "CONTROL", type := .byte, accessFlags := 25, slot := 20, constantValue := 0 }, { name := "FORMAT", type := .byte, accessFlags := 25, slot := 21, constantValue := 0 }, { name := "PRIVATE_USE", type := .byte, accessFlags := 25, slot := 22, constantValue := 0 }, { name := "SURROGATE", type := .byte, accessFlags := 25, slot := 23, constantValue := 0 }, { name := "DASH_PUNCTUATION", type := .byte, accessFlags := 25, slot := 24, constantValue := 0 }, { name := "START_PUNCTUATION", type := .byte, accessFlags := 25, slot := 25, constantValue := 0 }, { name := "END_PUNCTUATION", type := .byte, accessFlags := 25, slot := 26, constantValue := 0 }, { name := "CONNECTOR_PUNCTUATION", type := .byte, accessFlags := 25, slot := 27, constantValue := 0 }, { name := "OTHER_PUNCTUATION", type := .byte, accessFlags := 25, slot := 28, constantValue := 0 }, { name := "MATH_SYMBOL", type := .byte, accessFlags := 25, slot := 29, constantValue := 0 }, { name := "CURRENCY_SYMBOL", type := .byte, accessFlags := 25, slot := 30, constantValue := 0 }, { name := "MODIFIER_SYMBOL", type := .byte, accessFlags := 25, slot := 31, constantValue := 0 }, { name := "OTHER_SYMBOL", type := .byte, accessFlags := 25, slot := 32, constantValue := 0 }, { name := "INITIAL_QUOTE_PUNCTUATION", type := .byte, accessFlags := 25, slot := 33, constantValue := 0 }, { name := "FINAL_QUOTE_PUNCTUATION", type := .byte, accessFlags := 25, slot := 34, constantValue := 0 }, { name := "ERROR", type := .int, accessFlags := 24, slot := 35, constantValue := 0 }, { name := "DIRECTIONALITY_UNDEFINED", type := .byte, accessFlags := 25, slot := 36, constantValue := 0 }, { name := "DIRECTIONALITY_LEFT_TO_RIGHT", type := .byte, accessFlags := 25, slot := 37, constantValue := 0 }, { name := "DIRECTIONALITY_RIGHT_TO_LEFT", type := .byte, accessFlags := 25, slot := 38, constantValue := 0 }, { name := "DIRECTIONALITY_RIGHT_TO_LEFT_ARABIC", type := .byte, accessFlags := 25, slot := 39, constantValue := 0 }, { name := "DIRECTIONALITY_EUROPEAN_NUMBER", type := .byte, accessFlags := 25, slot := 40, constantValue := 0 }, { name := "DIRECTIONALITY_EUROPEAN_NUMBER_SEPARATOR", type := .byte, accessFlags := 25, slot := 41, constantValue := 0 }, { name := "DIRECTIONALITY_EUROPEAN_NUMBER_TERMINATOR", type := .byte, accessFlags := 25, slot := 42, constantValue := 0 }, { name := "DIRECTIONALITY_ARABIC_NUMBER", type := .byte, accessFlags := 25, slot := 43, constantValue := 0 }, { name := "DIRECTIONALITY_COMMON_NUMBER_SEPARATOR", type := .byte, accessFlags := 25, slot := 44, constantValue := 0 }, { name := "DIRECTIONALITY_NONSPACING_MARK", type := .byte, accessFlags := 25, slot := 45, constantValue := 0 }, { name := "DIRECTIONALITY_BOUNDARY_NEUTRAL", type := .byte, accessFlags := 25, slot := 46, constantValue := 0 }, { name := "DIRECTIONALITY_PARAGRAPH_SEPARATOR", type := .byte, accessFlags := 25, slot := 47, constantValue := 0 }, { name := "DIRECTIONALITY_SEGMENT_SEPARATOR", type := .byte, accessFlags := 25, slot := 48, constantValue := 0 }, { name := "DIRECTIONALITY_WHITESPACE", type := .byte, accessFlags := 25, slot := 49, constantValue := 0 }, { name := "DIRECTIONALITY_OTHER_NEUTRALS", type := .byte, accessFlags := 25, slot := 50, constantValue := 0 }, { name := "DIRECTIONALITY_LEFT_TO_RIGHT_EMBEDDING", type := .byte, accessFlags := 25, slot := 51, constantValue := 0 }, { name := "DIRECTIONALITY_LEFT_TO_RIGHT_OVERRIDE", type := .byte, accessFlags := 25, slot := 52, constantValue := 0 }, { name := "DIRECTIONALITY_RIGHT_TO_LEFT_EMBEDDING", type := .byte, accessFlags := 25, slot := 53, constantValue := 0 }, { name := "DIRECTIONALITY_RIGHT_TO_LEFT_OVERRIDE", type := .byte, accessFlags := 25, slot := 54, constantValue := 0 }, { name := "DIRECTIONALITY_POP_DIRECTIONAL_FORMAT", type := .byte, accessFlags := 25, slot := 55, constantValue := 0 }, { name := "DIRECTIONALITY_LEFT_TO_RIGHT_ISOLATE", type := .byte, accessFlags := 25, slot := 56, constantValue := 0 }, { name := "DIRECTIONALITY_RIGHT_TO_LEFT_ISOLATE", type := .byte, accessFlags := 25, slot := 57, constantValue := 0 }, { name := "DIRECTIONALITY_FIRST_STRONG_ISOLATE", type := .byte, accessFlags := 25, slot := 58, constantValue := 0 }, { name := "DIRECTIONALITY_POP_DIRECTIONAL_ISOLATE", type := .byte, accessFlags := 25, slot := 59, constantValue := 0 }, { name := "MIN_HIGH_SURROGATE", type := .char, accessFlags := 25, slot := 60, constantValue := 0 }, { name := "MAX_HIGH_SURROGATE", type := .char, accessFlags := 25, slot := 61, constantValue := 0 }, { name := "MIN_LOW_SURROGATE", type := .char, accessFlags := 25, slot := 62, constantValue := 0 }, { name := "MAX_LOW_SURROGATE", type := .char, accessFlags := 25, slot := 63, constantValue := 0 }, { name := "MIN_SURROGATE", type := .char, accessFlags := 25, slot := 64, constantValue := 0 }, { name := "MAX_SURROGATE", type := .char, accessFlags := 25, slot := 65, constantValue := 0 }, { name := "MIN_SUPPLEMENTARY_CODE_POINT", type := .int, accessFlags := 25, slot := 66, constantValue := 0 }, { name := "MIN_CODE_POINT", type := .int, accessFlags := 25, slot := 67, constantValue := 0 }, { name := "MAX_CODE_POINT", type := .int, accessFlags := 25, slot := 68, constantValue := 0 }, { name := "value", type := .char, accessFlags := 18, slot := 0, constantValue := 0 }, { name := "serialVersionUID", type := .long, accessFlags := 26, slot := 69, constantValue := 0 }, { name := "SIZE", type := .int, accessFlags := 25, slot := 70, constantValue := 0 }, { name := "BYTES", type := .int, accessFlags := 25, slot := 71, constantValue := 0 }, { name := "$assertionsDisabled", type := .boolean, accessFlags := 4120, slot := 72, constantValue := 0 }]
  methods := #[k15m0]
  instanceTypes := #[.char]
  staticTypes := #[.int, .int, .char, .char, (.object "java/lang/Class"), .byte, .byte, .byte, .byte, .byte, .byte, .byte, .byte, .byte, .byte, .byte, .byte, .byte, .byte, .byte, .byte, .byte, .byte, .byte, .byte, .byte, .byte, .byte, .byte, .byte, .byte, .byte, .byte, .byte, .byte, .int, .byte, .byte, .byte, .byte, .byte, .byte, .byte, .byte, .byte, .byte, .byte, .byte, .byte, .byte, .byte, .byte, .byte, .byte, .byte, .byte, .byte, .byte, .byte, .byte, .char, .char, .char, .char, .char, .char, .int, .int, .int, .long, .int, .int, .boolean]
  resolved := Array.replicate 604 none
  statics := none }

def pool16 : Array CpInfo := pool [(1, .methodref 2 3), (0, .class_ 4), (0, .nameAndType 5 6), (0, u "java/lang/Record"), (0, u "<init>"), (0, u "()V"), (0, .string 8), (0, u "value"), (0, .methodref 10 11), (0, .class_ 12), (0, .nameAndType 13 14), (0, u "java/util/Objects"), (0, u "requireNonNull"), (0, u "(Ljava/lang/Object;Ljava/lang/String;)Ljava/lang/Object;"), (0, .string 16), (0, u "an IRI"), (0, .methodref 18 19), (0, .class_ 20), (0, .nameAndType 21 22), (0, u "com/example/triview/triview/UnicodeText"), (0, u "check"), (0, u "(Ljava/lang/String;Ljava/lang/String;)V"), (0, .fieldref 24 25), (0, .class_ 26), (0, .nameAndType 8 27), (0, u "com/example/triview/triview/Iri"), (0, u "Ljava/lang/String;"), (18, .class_ 47), (0, u "com/example/triview/triview/Term"), (0, u "(Ljava/lang/String;)V")] 32

def k16c0 : Code := { maxStack := 2, maxLocals := 2, code := prog_21_method_1_code, exceptionTable := #[], attributes := #[] }
def k16m0 : Method := { name := "<init>", desc := "(Ljava/lang/String;)V", sig := { parameters := [(.object "java/lang/String")], returnType := none }, accessFlags := 1, code := some k16c0 }
/-- com/example/triview/triview/Iri -/
def k16 : Class := { plain "com/example/triview/triview/Iri" (some 8) with
  accessFlags := 49
  interfaces := #[9]
  cf := some (fileOf pool16 24 #[] #[{ accessFlags := 1, nameIndex := 5, descriptorIndex := 48, attributes := #[] }] 49 2 #[46] #[{ accessFlags := 18, nameIndex := 8, descriptorIndex := 27, attributes := #[] }])
  fields := #[{ name := "value", type := (.object "java/lang/String"), accessFlags := 18, slot := 0, constantValue := 0 }]
  methods := #[k16m0]
  instanceTypes := #[(.object "java/lang/String")]
  staticTypes := #[]
  resolved := Array.replicate 81 none
  statics := none }

def pool17 : Array CpInfo := pool [(6, .class_ 8), (1, u "java/lang/Object"), (0, u "<init>"), (0, u "()V"), (1, .class_ 14), (1, u "java/lang/StringUTF16"), (31, u "$assertionsDisabled"), (0, u "Z"), (13, u "HI_BYTE_SHIFT"), (0, u "I"), (2, u "LO_BYTE_SHIFT"), (49, .methodref 12 116), (0, .nameAndType 117 118), (0, u "compress"), (0, u "([CI[BII)I"), (3, u "([CII)[B"), (138, u "coderFromArrayLen"), (0, u "([BI)B"), (106, .class_ 371), (1, u "java/lang/StringUTF16$LinesSpliterator"), (58, u "MAX_LENGTH"), (196, .class_ 628), (0, u "java/lang/StringUTF16$CodePointsSpliterator"), (0, .class_ 630), (0, u "java/lang/StringUTF16$CharsSpliterator")] 4

def k17m0 : Method := { name := "<init>", desc := "()V", sig := { parameters := [], returnType := none }, accessFlags := 0, code := none }
def k17c1 : Code := { maxStack := 2, maxLocals := 2, code := jdk_52_method_15_code, exceptionTable := #[], attributes := #[] }
def k17m1 : Method := { name := "coderFromArrayLen", desc := "([BI)B", sig := { parameters := [(.array .byte), .int], returnType := some .byte }, accessFlags := 8, code := some k17c1 }
def k17c2 : Code := { maxStack := 5, maxLocals := 6, code := jdk_52_method_16_code, exceptionTable := #[], attributes := #[] }
def k17m2 : Method := { name := "compress", desc := "([CII)[B", sig := { parameters := [(.array .char), .int, .int], returnType := some (.array .byte) }, accessFlags := 9, code := some k17c2 }
def k17c3 : Code := { maxStack := 3, maxLocals := 7, code := jdk_52_method_21_code, exceptionTable := #[], attributes := #[] }
def k17m3 : Method := { name := "compress", desc := "([CI[BII)I", sig := { parameters := [(.array .char), .int, (.array .byte), .int, .int], returnType := some .int }, accessFlags := 9, code := some k17c3 }
/-- java/lang/StringUTF16 -/
def k17 : Class := { plain "java/lang/StringUTF16" (some 0) with
  accessFlags := 48
  interfaces := #[]
  cf := some (fileOf pool17 12 #[.nestMembers #[627, 629, 369]] #[{ accessFlags := 0, nameIndex := 9, descriptorIndex := 10, attributes := #[] }, { accessFlags := 8, nameIndex := 261, descriptorIndex := 262, attributes := #[] }, { accessFlags := 9, nameIndex := 117, descriptorIndex := 122, attributes := #[] }, { accessFlags := 9, nameIndex := 117, descriptorIndex := 118, attributes := #[] }] 48 6 #[] #[{ accessFlags := 26, nameIndex := 61, descriptorIndex := 62, attributes := #[] }, { accessFlags := 26, nameIndex := 65, descriptorIndex := 62, attributes := #[] }, { accessFlags := 24, nameIndex := 430, descriptorIndex := 62, attributes := #[] }, { accessFlags := 4120, nameIndex := 46, descriptorIndex := 47, attributes := #[] }])
  fields := #[{ name := "HI_BYTE_SHIFT", type := .int, accessFlags := 26, slot := 0, constantValue := 0 }, { name := "LO_BYTE_SHIFT", type := .int, accessFlags := 26, slot := 1, constantValue := 0 }, { name := "MAX_LENGTH", type := .int, accessFlags := 24, slot := 2, constantValue := 0 }, { name := "$assertionsDisabled", type := .boolean, accessFlags := 4120, slot := 3, constantValue := 0 }]
  methods := #[k17m0, k17m1, k17m2, k17m3]
  instanceTypes := #[]
  staticTypes := #[.int, .int, .int, .boolean]
  resolved := Array.replicate 635 none
  statics := none }

def pool18 : Array CpInfo := pool [(9, u "<init>"), (6, .class_ 18), (1, u "java/lang/Object"), (0, u "()V"), (1, .class_ 23), (1, u "jdk/internal/util/ArraysSupport"), (0, u "LOG2_ARRAY_LONG_INDEX_SCALE"), (0, u "I"), (2, u "U"), (0, u "Ljdk/internal/misc/Unsafe;"), (8, u "BIG_ENDIAN"), (0, u "Z"), (8, u "LOG2_BYTE_BIT_SIZE"), (4, u "LOG2_ARRAY_INT_INDEX_SCALE"), (54, u "JLA"), (0, u "Ljdk/internal/access/JavaLangAccess;"), (11, u "LOG2_ARRAY_BOOLEAN_INDEX_SCALE"), (9, u "LOG2_ARRAY_BYTE_INDEX_SCALE"), (5, u "LOG2_ARRAY_CHAR_INDEX_SCALE"), (5, u "LOG2_ARRAY_SHORT_INDEX_SCALE"), (18, u "LOG2_ARRAY_FLOAT_INDEX_SCALE"), (24, u "LOG2_ARRAY_DOUBLE_INDEX_SCALE"), (89, u "T_BOOLEAN"), (2, u "T_CHAR"), (1, u "T_FLOAT"), (1, u "T_DOUBLE"), (1, u "T_BYTE"), (1, u "T_SHORT"), (1, u "T_INT"), (1, u "T_LONG"), (1, u "SOFT_MAX_ARRAY_LENGTH")] 83

def k18m0 : Method := { name := "<init>", desc := "()V", sig := { parameters := [], returnType := none }, accessFlags := 2, code := none }
/-- jdk/internal/util/ArraysSupport -/
def k18 : Class := { plain "jdk/internal/util/ArraysSupport" (some 0) with
  accessFlags := 33
  interfaces := #[]
  cf := some (fileOf pool18 21 #[] #[{ accessFlags := 2, nameIndex := 9, descriptorIndex := 19, attributes := #[] }] 33 16 #[] #[{ accessFlags := 24, nameIndex := 28, descriptorIndex := 29, attributes := #[] }, { accessFlags := 26, nameIndex := 38, descriptorIndex := 39, attributes := #[] }, { accessFlags := 25, nameIndex := 121, descriptorIndex := 25, attributes := #[] }, { accessFlags := 25, nameIndex := 131, descriptorIndex := 25, attributes := #[] }, { accessFlags := 25, nameIndex := 137, descriptorIndex := 25, attributes := #[] }, { accessFlags := 25, nameIndex := 143, descriptorIndex := 25, attributes := #[] }, { accessFlags := 25, nameIndex := 53, descriptorIndex := 25, attributes := #[] }, { accessFlags := 25, nameIndex := 24, descriptorIndex := 25, attributes := #[] }, { accessFlags := 25, nameIndex := 162, descriptorIndex := 25, attributes := #[] }, { accessFlags := 25, nameIndex := 187, descriptorIndex := 25, attributes := #[] }, { accessFlags := 26, nameIndex := 48, descriptorIndex := 25, attributes := #[] }, { accessFlags := 25, nameIndex := 277, descriptorIndex := 25, attributes := #[] }, { accessFlags := 25, nameIndex := 280, descriptorIndex := 25, attributes := #[] }, { accessFlags := 25, nameIndex := 282, descriptorIndex := 25, attributes := #[] }, { accessFlags := 25, nameIndex := 284, descriptorIndex := 25, attributes := #[] }, { accessFlags := 25, nameIndex := 286, descriptorIndex := 25, attributes := #[] }, { accessFlags := 25, nameIndex := 288, descriptorIndex := 25, attributes := #[] }, { accessFlags := 25, nameIndex := 290, descriptorIndex := 25, attributes := #[] }, { accessFlags := 25, nameIndex := 292, descriptorIndex := 25, attributes := #[] }, { accessFlags := 26, nameIndex := 108, descriptorIndex := 109, attributes := #[] }, { accessFlags := 25, nameIndex := 294, descriptorIndex := 25, attributes := #[] }])
  fields := #[{ name := "U", type := (.object "jdk/internal/misc/Unsafe"), accessFlags := 24, slot := 0, constantValue := 0 }, { name := "BIG_ENDIAN", type := .boolean, accessFlags := 26, slot := 1, constantValue := 0 }, { name := "LOG2_ARRAY_BOOLEAN_INDEX_SCALE", type := .int, accessFlags := 25, slot := 2, constantValue := 0 }, { name := "LOG2_ARRAY_BYTE_INDEX_SCALE", type := .int, accessFlags := 25, slot := 3, constantValue := 0 }, { name := "LOG2_ARRAY_CHAR_INDEX_SCALE", type := .int, accessFlags := 25, slot := 4, constantValue := 0 }, { name := "LOG2_ARRAY_SHORT_INDEX_SCALE", type := .int, accessFlags := 25, slot := 5, constantValue := 0 }, { name := "LOG2_ARRAY_INT_INDEX_SCALE", type := .int, accessFlags := 25, slot := 6, constantValue := 0 }, { name := "LOG2_ARRAY_LONG_INDEX_SCALE", type := .int, accessFlags := 25, slot := 7, constantValue := 0 }, { name := "LOG2_ARRAY_FLOAT_INDEX_SCALE", type := .int, accessFlags := 25, slot := 8, constantValue := 0 }, { name := "LOG2_ARRAY_DOUBLE_INDEX_SCALE", type := .int, accessFlags := 25, slot := 9, constantValue := 0 }, { name := "LOG2_BYTE_BIT_SIZE", type := .int, accessFlags := 26, slot := 10, constantValue := 0 }, { name := "T_BOOLEAN", type := .int, accessFlags := 25, slot := 11, constantValue := 0 }, { name := "T_CHAR", type := .int, accessFlags := 25, slot := 12, constantValue := 0 }, { name := "T_FLOAT", type := .int, accessFlags := 25, slot := 13, constantValue := 0 }, { name := "T_DOUBLE", type := .int, accessFlags := 25, slot := 14, constantValue := 0 }, { name := "T_BYTE", type := .int, accessFlags := 25, slot := 15, constantValue := 0 }, { name := "T_SHORT", type := .int, accessFlags := 25, slot := 16, constantValue := 0 }, { name := "T_INT", type := .int, accessFlags := 25, slot := 17, constantValue := 0 }, { name := "T_LONG", type := .int, accessFlags := 25, slot := 18, constantValue := 0 }, { name := "JLA", type := (.object "jdk/internal/access/JavaLangAccess"), accessFlags := 26, slot := 19, constantValue := 0 }, { name := "SOFT_MAX_ARRAY_LENGTH", type := .int, accessFlags := 25, slot := 20, constantValue := 0 }]
  methods := #[k18m0]
  instanceTypes := #[]
  staticTypes := #[(.object "jdk/internal/misc/Unsafe"), .boolean, .int, .int, .int, .int, .int, .int, .int, .int, .int, .int, .int, .int, .int, .int, .int, .int, .int, (.object "jdk/internal/access/JavaLangAccess"), .int]
  resolved := Array.replicate 378 none
  statics := none }

def pool19 : Array CpInfo := pool [(1, u "java/lang/Cloneable"), (0, .class_ 1), (0, u "java/lang/Object"), (0, .class_ 3)] 3

/-- java/lang/Cloneable -/
def k19 : Class := { plain "java/lang/Cloneable" (some 0) with
  accessFlags := 1537
  interfaces := #[]
  cf := some (fileOf pool19 2 #[] #[] 1537 4 #[] #[])
  fields := #[]
  methods := #[]
  instanceTypes := #[]
  staticTypes := #[]
  resolved := Array.replicate 8 none
  statics := none }

/-- the primitive byte -/
def k20 : Class := { plain "byte" none with kind := .primitive 'B', accessFlags := 0x411 }
/-- [B -/
def k21 : Class := { plain "[B" (some 0) with kind := .array 20 .byte, interfaces := #[19, 2], accessFlags := 1041 }

/-- the primitive char -/
def k22 : Class := { plain "char" none with kind := .primitive 'C', accessFlags := 0x411 }
/-- [C -/
def k23 : Class := { plain "[C" (some 0) with kind := .array 22 .char, interfaces := #[19, 2], accessFlags := 1041 }

/-- the primitive int -/
def k24 : Class := { plain "int" none with kind := .primitive 'I', accessFlags := 0x411 }
/-- [I -/
def k25 : Class := { plain "[I" (some 0) with kind := .array 24 .int, interfaces := #[19, 2], accessFlags := 1041 }

def heap : Heap := #[{ cls := 7, slots := #[.long 0, .int 1, .null, .int 0, .null, .int 0, .int 0], vm := .statics 7 },
  { cls := 14, slots := #[.null, .null, .null], vm := .statics 14 }]
def classes : Array Class := #[k0, k1, k2, k3, k4, k5, k6, k7, k8, k9, k10, k11, k12, k13, k14, k15, k16, k17, k18, k19, k20, k21, k22, k23, k24, k25]
def interned : List (Array UInt16 × Addr) := []
def slotsUsed : Nat := 10
def theMethod : MethodId := ⟨1, 2⟩
def args0 : Array Value := #[.int 6, .int 300, .int 4]
def aboutOver (below : List Frame) : State where
  vm := { classes := classes, interned := interned.toArray }
  heap := heap
  slotsUsed := slotsUsed
  threads := #[{ frames := .invoking theMethod args0 :: below }]
def below0 : List Frame := [.native { method := ⟨0, 0⟩, args := #[] }]
def about1 : State := aboutOver below0
def p0 : Program := .bare "" "" ""
def e0 : Env := launch0.env 0 0 0
theorem w_frames : about1.frames = Frame.invoking theMethod args0 :: below0 := rfl
set_option maxRecDepth 65536 in
theorem w_args : argsFit about1.vm theMethod args0 = true := by decide +kernel
set_option maxRecDepth 65536 in
theorem w_heap : heapFits about1 = true := by decide +kernel
set_option maxRecDepth 65536 in
theorem w_runnable : about1.curStatus? = some .runnable := by decide +kernel
set_option maxRecDepth 65536 in
theorem w_alone : about1.alone = true := by decide +kernel
set_option maxRecDepth 65536 in
theorem w_named : about1.methodNamed? x = some theMethod := by decide +kernel
set_option maxRecDepth 65536 in
theorem w_hears : about1.hears theMethod below0 = true := by decide +kernel
set_option maxRecDepth 65536 in
theorem w_ripe : about1.ripe theMethod args0 below0 = true := by decide +kernel
theorem w_running : about1.status = .running := rfl
set_option maxRecDepth 65536 in
theorem w_room : about1.hasRoom e0.platform room_1 = true :=
  launch0.hasRoom_least _ room_1 (by decide +kernel) (by decide +kernel) (by decide +kernel) (by decide +kernel) (by decide +kernel) (by decide +kernel)
theorem allAtoms_all (ts : List Jvm.Cond) (a : Array Jvm.Value) (st : Jvm.State) : (allAtoms ts).before a st = ts.all (fun c => c.before a st) := by
  induction ts with
  | nil => rfl
  | cons c t ih =>
    show (Jvm.Cond.and c (allAtoms t)).before a st = _
    rw [Jvm.Cond.before_and, ih, List.all_cons]
def words1 : List Jvm.Cond := Jvm.Cond.code x code maxLocals ret :: tables_1
/-- a 'code' word, met by the world's own term for the bytes: nothing is compared byte by byte -/
theorem code_word {y : MethodName} {bytes : ByteArray} {mx : Nat} {rt : Option FieldType} {a : Array Value} {s : State} {m : MethodId} {meth : Method} {c : Code} (h1 : s.methodNamed? y = some m) (h2 : s.vm.method? m = some meth) (h3 : meth.code = some c) (h4 : c.code = bytes)
    (h5 : (c.maxLocals == mx && c.exceptionTable.isEmpty && decide (c.maxStack ≤ mostOperands) && decide (meth.sig.returnType = rt) && !meth.locks && decide (parseMethodDescriptor y.desc = some meth.sig)) = true) : (Jvm.Cond.code y bytes mx rt).before a s = true := by
  simp only [Bool.and_eq_true, beq_iff_eq, Bool.not_eq_true', decide_eq_true_eq] at h5
  obtain ⟨⟨⟨⟨⟨g1, g2⟩, g3⟩, g4⟩, g5⟩, g6⟩ := h5
  simp [Cond.before, Cond.holds, Cond.value, h1, h2, h3, h4, g1, g2, g3, g4, g5, g6]
def isCode : Jvm.Cond → Bool
  | .code _ _ _ _ => true
  | _ => false
theorem all_split {L : List Jvm.Cond} {P : Jvm.Cond → Bool} (h1 : L.all (fun c => isCode c || P c) = true) (h2 : ∀ c ∈ L.filter isCode, P c = true) : L.all P = true := by
  refine List.all_eq_true.mpr fun c hc => ?_
  have h := List.all_eq_true.mp h1 c hc
  rcases Bool.eq_false_or_eq_true (isCode c) with hi | hi
  · exact h2 c (List.mem_filter.mpr ⟨hc, hi⟩)
  · simpa [hi] using h
set_option maxRecDepth 65536 in
theorem w_c0 : (Jvm.Cond.code x code maxLocals ret).before args0 about1 = true := code_word (m := ⟨1, 2⟩) (meth := k1m2) (c := k1c2) (by decide +kernel) rfl rfl rfl (by decide +kernel)
set_option maxRecDepth 65536 in
theorem w_c1 : (Jvm.Cond.code ({ cls := "com/example/triview/triview/BlankNodeEqualsPinLaw", name := "text", desc := "(ICC)Ljava/lang/String;" } : Jvm.MethodName) method_2_code (3 : Nat) (Option.some (Jvm.ClassFile.FieldType.object "java/lang/String"))).before args0 about1 = true := code_word (m := ⟨1, 1⟩) (meth := k1m1) (c := k1c1) (by decide +kernel) rfl rfl rfl (by decide +kernel)
set_option maxRecDepth 65536 in
theorem w_c2 : (Jvm.Cond.code ({ cls := "java/lang/String", name := "<init>", desc := "([C)V" } : Jvm.MethodName) jdk_42_method_3_code (2 : Nat) (Option.none : Option Jvm.ClassFile.FieldType)).before args0 about1 = true := code_word (m := ⟨7, 1⟩) (meth := k7m1) (c := k7c1) (by decide +kernel) rfl rfl rfl (by decide +kernel)
set_option maxRecDepth 65536 in
theorem w_c3 : (Jvm.Cond.code ({ cls := "java/lang/String", name := "<init>", desc := "([CIILjava/lang/Void;)V" } : Jvm.MethodName) jdk_42_method_149_code (6 : Nat) (Option.none : Option Jvm.ClassFile.FieldType)).before args0 about1 = true := code_word (m := ⟨7, 6⟩) (meth := k7m6) (c := k7c6) (by decide +kernel) rfl rfl rfl (by decide +kernel)
set_option maxRecDepth 65536 in
theorem w_c4 : (Jvm.Cond.code ({ cls := "java/lang/Object", name := "<init>", desc := "()V" } : Jvm.MethodName) object_method_1_code (1 : Nat) (Option.none : Option Jvm.ClassFile.FieldType)).before args0 about1 = true := code_word (m := ⟨0, 0⟩) (meth := k0m0) (c := k0c0) (by decide +kernel) rfl rfl rfl (by decide +kernel)
set_option maxRecDepth 65536 in
theorem w_c5 : (Jvm.Cond.code ({ cls := "com/example/triview/triview/BlankNode", name := "<init>", desc := "(Ljava/lang/String;)V" } : Jvm.MethodName) prog_6_method_1_code (2 : Nat) (Option.none : Option Jvm.ClassFile.FieldType)).before args0 about1 = true := code_word (m := ⟨10, 0⟩) (meth := k10m0) (c := k10c0) (by decide +kernel) rfl rfl rfl (by decide +kernel)
set_option maxRecDepth 65536 in
theorem w_c6 : (Jvm.Cond.code ({ cls := "java/lang/Record", name := "<init>", desc := "()V" } : Jvm.MethodName) jdk_30_method_1_code (1 : Nat) (Option.none : Option Jvm.ClassFile.FieldType)).before args0 about1 = true := code_word (m := ⟨8, 0⟩) (meth := k8m0) (c := k8c0) (by decide +kernel) rfl rfl rfl (by decide +kernel)
set_option maxRecDepth 65536 in
theorem w_c7 : (Jvm.Cond.code ({ cls := "java/util/Objects", name := "requireNonNull", desc := "(Ljava/lang/Object;Ljava/lang/String;)Ljava/lang/Object;" } : Jvm.MethodName) jdk_31_method_11_code (2 : Nat) (Option.some (Jvm.ClassFile.FieldType.object "java/lang/Object"))).before args0 about1 = true := code_word (m := ⟨11, 1⟩) (meth := k11m1) (c := k11c1) (by decide +kernel) rfl rfl rfl (by decide +kernel)
set_option maxRecDepth 65536 in
theorem w_c8 : (Jvm.Cond.code ({ cls := "com/example/triview/triview/UnicodeText", name := "check", desc := "(Ljava/lang/String;Ljava/lang/String;)V" } : Jvm.MethodName) prog_51_method_2_code (4 : Nat) (Option.none : Option Jvm.ClassFile.FieldType)).before args0 about1 = true := code_word (m := ⟨12, 1⟩) (meth := k12m1) (c := k12c1) (by decide +kernel) rfl rfl rfl (by decide +kernel)
set_option maxRecDepth 65536 in
theorem w_c9 : (Jvm.Cond.code ({ cls := "java/lang/String", name := "length", desc := "()I" } : Jvm.MethodName) jdk_42_method_54_code (1 : Nat) (Option.some Jvm.ClassFile.FieldType.int)).before args0 about1 = true := code_word (m := ⟨7, 2⟩) (meth := k7m2) (c := k7c2) (by decide +kernel) rfl rfl rfl (by decide +kernel)
set_option maxRecDepth 65536 in
theorem w_c10 : (Jvm.Cond.code ({ cls := "java/lang/String", name := "coder", desc := "()B" } : Jvm.MethodName) jdk_42_method_152_code (1 : Nat) (Option.some Jvm.ClassFile.FieldType.byte)).before args0 about1 = true := code_word (m := ⟨7, 8⟩) (meth := k7m8) (c := k7c8) (by decide +kernel) rfl rfl rfl (by decide +kernel)
set_option maxRecDepth 65536 in
theorem w_c11 : (Jvm.Cond.code ({ cls := "com/example/triview/triview/BlankNode", name := "equals", desc := "(Ljava/lang/Object;)Z" } : Jvm.MethodName) prog_6_method_3_code (3 : Nat) (Option.some Jvm.ClassFile.FieldType.boolean)).before args0 about1 = true := code_word (m := ⟨10, 1⟩) (meth := k10m1) (c := k10c1) (by decide +kernel) rfl rfl rfl (by decide +kernel)
set_option maxRecDepth 65536 in
theorem w_c12 : (Jvm.Cond.code ({ cls := "java/lang/String", name := "valueOf", desc := "(C)Ljava/lang/String;" } : Jvm.MethodName) jdk_42_method_139_code (1 : Nat) (Option.some (Jvm.ClassFile.FieldType.object "java/lang/String"))).before args0 about1 = true := code_word (m := ⟨7, 5⟩) (meth := k7m5) (c := k7c5) (by decide +kernel) rfl rfl rfl (by decide +kernel)
set_option maxRecDepth 65536 in
theorem w_c13 : (Jvm.Cond.code ({ cls := "java/lang/StringLatin1", name := "canEncode", desc := "(C)Z" } : Jvm.MethodName) jdk_43_method_3_code (1 : Nat) (Option.some Jvm.ClassFile.FieldType.boolean)).before args0 about1 = true := code_word (m := ⟨13, 2⟩) (meth := k13m2) (c := k13c2) (by decide +kernel) rfl rfl rfl (by decide +kernel)
set_option maxRecDepth 65536 in
theorem w_c14 : (Jvm.Cond.code ({ cls := "java/lang/StringLatin1", name := "toBytes", desc := "(C)[B" } : Jvm.MethodName) jdk_43_method_46_code (1 : Nat) (Option.some (Jvm.ClassFile.FieldType.array Jvm.ClassFile.FieldType.byte))).before args0 about1 = true := code_word (m := ⟨13, 4⟩) (meth := k13m4) (c := k13c4) (by decide +kernel) rfl rfl rfl (by decide +kernel)
set_option maxRecDepth 65536 in
theorem w_c15 : (Jvm.Cond.code ({ cls := "java/lang/String", name := "<init>", desc := "([BB)V" } : Jvm.MethodName) jdk_42_method_151_code (3 : Nat) (Option.none : Option Jvm.ClassFile.FieldType)).before args0 about1 = true := code_word (m := ⟨7, 7⟩) (meth := k7m7) (c := k7c7) (by decide +kernel) rfl rfl rfl (by decide +kernel)
set_option maxRecDepth 65536 in
theorem w_c16 : (Jvm.Cond.code ({ cls := "java/lang/String", name := "charAt", desc := "(I)C" } : Jvm.MethodName) jdk_42_method_56_code (2 : Nat) (Option.some Jvm.ClassFile.FieldType.char)).before args0 about1 = true := code_word (m := ⟨7, 3⟩) (meth := k7m3) (c := k7c3) (by decide +kernel) rfl rfl rfl (by decide +kernel)
set_option maxRecDepth 65536 in
theorem w_c17 : (Jvm.Cond.code ({ cls := "java/lang/String", name := "isLatin1", desc := "()Z" } : Jvm.MethodName) jdk_42_method_154_code (1 : Nat) (Option.some Jvm.ClassFile.FieldType.boolean)).before args0 about1 = true := code_word (m := ⟨7, 9⟩) (meth := k7m9) (c := k7c9) (by decide +kernel) rfl rfl rfl (by decide +kernel)
set_option maxRecDepth 65536 in
theorem w_c18 : (Jvm.Cond.code ({ cls := "java/lang/StringLatin1", name := "charAt", desc := "([BI)C" } : Jvm.MethodName) jdk_43_method_2_code (2 : Nat) (Option.some Jvm.ClassFile.FieldType.char)).before args0 about1 = true := code_word (m := ⟨13, 1⟩) (meth := k13m1) (c := k13c1) (by decide +kernel) rfl rfl rfl (by decide +kernel)
set_option maxRecDepth 65536 in
theorem w_c19 : (Jvm.Cond.code ({ cls := "java/lang/String", name := "checkIndex", desc := "(II)V" } : Jvm.MethodName) jdk_42_method_155_code (2 : Nat) (Option.none : Option Jvm.ClassFile.FieldType)).before args0 about1 = true := code_word (m := ⟨7, 10⟩) (meth := k7m10) (c := k7c10) (by decide +kernel) rfl rfl rfl (by decide +kernel)
set_option maxRecDepth 65536 in
theorem w_c20 : (Jvm.Cond.code ({ cls := "jdk/internal/util/Preconditions", name := "checkIndex", desc := "(IILjava/util/function/BiFunction;)I" } : Jvm.MethodName) jdk_41_method_11_code (3 : Nat) (Option.some Jvm.ClassFile.FieldType.int)).before args0 about1 = true := code_word (m := ⟨14, 1⟩) (meth := k14m1) (c := k14c1) (by decide +kernel) rfl rfl rfl (by decide +kernel)
set_option maxRecDepth 65536 in
theorem w_c21 : (Jvm.Cond.code ({ cls := "java/lang/Character", name := "isSurrogate", desc := "(C)Z" } : Jvm.MethodName) jdk_89_method_16_code (1 : Nat) (Option.some Jvm.ClassFile.FieldType.boolean)).before args0 about1 = true := code_word (m := ⟨15, 0⟩) (meth := k15m0) (c := k15c0) (by decide +kernel) rfl rfl rfl (by decide +kernel)
set_option maxRecDepth 65536 in
theorem w_c22 : (Jvm.Cond.code ({ cls := "com/example/triview/triview/Iri", name := "<init>", desc := "(Ljava/lang/String;)V" } : Jvm.MethodName) prog_21_method_1_code (2 : Nat) (Option.none : Option Jvm.ClassFile.FieldType)).before args0 about1 = true := code_word (m := ⟨16, 0⟩) (meth := k16m0) (c := k16c0) (by decide +kernel) rfl rfl rfl (by decide +kernel)
set_option maxRecDepth 65536 in
theorem w_c23 : (Jvm.Cond.code ({ cls := "java/lang/StringUTF16", name := "compress", desc := "([CII)[B" } : Jvm.MethodName) jdk_52_method_16_code (6 : Nat) (Option.some (Jvm.ClassFile.FieldType.array Jvm.ClassFile.FieldType.byte))).before args0 about1 = true := code_word (m := ⟨17, 2⟩) (meth := k17m2) (c := k17c2) (by decide +kernel) rfl rfl rfl (by decide +kernel)
set_option maxRecDepth 65536 in
theorem w_c24 : (Jvm.Cond.code ({ cls := "java/lang/StringUTF16", name := "compress", desc := "([CI[BII)I" } : Jvm.MethodName) jdk_52_method_21_code (7 : Nat) (Option.some Jvm.ClassFile.FieldType.int)).before args0 about1 = true := code_word (m := ⟨17, 3⟩) (meth := k17m3) (c := k17c3) (by decide +kernel) rfl rfl rfl (by decide +kernel)
set_option maxRecDepth 65536 in
theorem w_c25 : (Jvm.Cond.code ({ cls := "java/lang/StringUTF16", name := "coderFromArrayLen", desc := "([BI)B" } : Jvm.MethodName) jdk_52_method_15_code (2 : Nat) (Option.some Jvm.ClassFile.FieldType.byte)).before args0 about1 = true := code_word (m := ⟨17, 1⟩) (meth := k17m1) (c := k17c1) (by decide +kernel) rfl rfl rfl (by decide +kernel)
set_option maxRecDepth 65536 in
theorem w_c26 : (Jvm.Cond.code ({ cls := "java/lang/String", name := "equals", desc := "(Ljava/lang/Object;)Z" } : Jvm.MethodName) jdk_42_method_66_code (3 : Nat) (Option.some Jvm.ClassFile.FieldType.boolean)).before args0 about1 = true := code_word (m := ⟨7, 4⟩) (meth := k7m4) (c := k7c4) (by decide +kernel) rfl rfl rfl (by decide +kernel)
set_option maxRecDepth 65536 in
theorem w_c27 : (Jvm.Cond.code ({ cls := "java/lang/StringLatin1", name := "equals", desc := "([B[B)Z" } : Jvm.MethodName) jdk_43_method_13_code (3 : Nat) (Option.some Jvm.ClassFile.FieldType.boolean)).before args0 about1 = true := code_word (m := ⟨13, 3⟩) (meth := k13m3) (c := k13c3) (by decide +kernel) rfl rfl rfl (by decide +kernel)
def codes1 : List Jvm.Cond := [Jvm.Cond.code x code maxLocals ret, Jvm.Cond.code ({ cls := "com/example/triview/triview/BlankNodeEqualsPinLaw", name := "text", desc := "(ICC)Ljava/lang/String;" } : Jvm.MethodName) method_2_code (3 : Nat) (Option.some (Jvm.ClassFile.FieldType.object "java/lang/String")), Jvm.Cond.code ({ cls := "java/lang/String", name := "<init>", desc := "([C)V" } : Jvm.MethodName) jdk_42_method_3_code (2 : Nat) (Option.none : Option Jvm.ClassFile.FieldType), Jvm.Cond.code ({ cls := "java/lang/String", name := "<init>", desc := "([CIILjava/lang/Void;)V" } : Jvm.MethodName) jdk_42_method_149_code (6 : Nat) (Option.none : Option Jvm.ClassFile.FieldType), Jvm.Cond.code ({ cls := "java/lang/Object", name := "<init>", desc := "()V" } : Jvm.MethodName) object_method_1_code (1 : Nat) (Option.none : Option Jvm.ClassFile.FieldType), Jvm.Cond.code ({ cls := "com/example/triview/triview/BlankNode", name := "<init>", desc := "(Ljava/lang/String;)V" } : Jvm.MethodName) prog_6_method_1_code (2 : Nat) (Option.none : Option Jvm.ClassFile.FieldType), Jvm.Cond.code ({ cls := "java/lang/Record", name := "<init>", desc := "()V" } : Jvm.MethodName) jdk_30_method_1_code (1 : Nat) (Option.none : Option Jvm.ClassFile.FieldType), Jvm.Cond.code ({ cls := "java/util/Objects", name := "requireNonNull", desc := "(Ljava/lang/Object;Ljava/lang/String;)Ljava/lang/Object;" } : Jvm.MethodName) jdk_31_method_11_code (2 : Nat) (Option.some (Jvm.ClassFile.FieldType.object "java/lang/Object")), Jvm.Cond.code ({ cls := "com/example/triview/triview/UnicodeText", name := "check", desc := "(Ljava/lang/String;Ljava/lang/String;)V" } : Jvm.MethodName) prog_51_method_2_code (4 : Nat) (Option.none : Option Jvm.ClassFile.FieldType), Jvm.Cond.code ({ cls := "java/lang/String", name := "length", desc := "()I" } : Jvm.MethodName) jdk_42_method_54_code (1 : Nat) (Option.some Jvm.ClassFile.FieldType.int), Jvm.Cond.code ({ cls := "java/lang/String", name := "coder", desc := "()B" } : Jvm.MethodName) jdk_42_method_152_code (1 : Nat) (Option.some Jvm.ClassFile.FieldType.byte), Jvm.Cond.code ({ cls := "com/example/triview/triview/BlankNode", name := "equals", desc := "(Ljava/lang/Object;)Z" } : Jvm.MethodName) prog_6_method_3_code (3 : Nat) (Option.some Jvm.ClassFile.FieldType.boolean), Jvm.Cond.code ({ cls := "java/lang/String", name := "valueOf", desc := "(C)Ljava/lang/String;" } : Jvm.MethodName) jdk_42_method_139_code (1 : Nat) (Option.some (Jvm.ClassFile.FieldType.object "java/lang/String")), Jvm.Cond.code ({ cls := "java/lang/StringLatin1", name := "canEncode", desc := "(C)Z" } : Jvm.MethodName) jdk_43_method_3_code (1 : Nat) (Option.some Jvm.ClassFile.FieldType.boolean), Jvm.Cond.code ({ cls := "java/lang/StringLatin1", name := "toBytes", desc := "(C)[B" } : Jvm.MethodName) jdk_43_method_46_code (1 : Nat) (Option.some (Jvm.ClassFile.FieldType.array Jvm.ClassFile.FieldType.byte)), Jvm.Cond.code ({ cls := "java/lang/String", name := "<init>", desc := "([BB)V" } : Jvm.MethodName) jdk_42_method_151_code (3 : Nat) (Option.none : Option Jvm.ClassFile.FieldType), Jvm.Cond.code ({ cls := "java/lang/String", name := "charAt", desc := "(I)C" } : Jvm.MethodName) jdk_42_method_56_code (2 : Nat) (Option.some Jvm.ClassFile.FieldType.char), Jvm.Cond.code ({ cls := "java/lang/String", name := "isLatin1", desc := "()Z" } : Jvm.MethodName) jdk_42_method_154_code (1 : Nat) (Option.some Jvm.ClassFile.FieldType.boolean), Jvm.Cond.code ({ cls := "java/lang/StringLatin1", name := "charAt", desc := "([BI)C" } : Jvm.MethodName) jdk_43_method_2_code (2 : Nat) (Option.some Jvm.ClassFile.FieldType.char), Jvm.Cond.code ({ cls := "java/lang/String", name := "checkIndex", desc := "(II)V" } : Jvm.MethodName) jdk_42_method_155_code (2 : Nat) (Option.none : Option Jvm.ClassFile.FieldType), Jvm.Cond.code ({ cls := "jdk/internal/util/Preconditions", name := "checkIndex", desc := "(IILjava/util/function/BiFunction;)I" } : Jvm.MethodName) jdk_41_method_11_code (3 : Nat) (Option.some Jvm.ClassFile.FieldType.int), Jvm.Cond.code ({ cls := "java/lang/Character", name := "isSurrogate", desc := "(C)Z" } : Jvm.MethodName) jdk_89_method_16_code (1 : Nat) (Option.some Jvm.ClassFile.FieldType.boolean), Jvm.Cond.code ({ cls := "com/example/triview/triview/Iri", name := "<init>", desc := "(Ljava/lang/String;)V" } : Jvm.MethodName) prog_21_method_1_code (2 : Nat) (Option.none : Option Jvm.ClassFile.FieldType), Jvm.Cond.code ({ cls := "java/lang/StringUTF16", name := "compress", desc := "([CII)[B" } : Jvm.MethodName) jdk_52_method_16_code (6 : Nat) (Option.some (Jvm.ClassFile.FieldType.array Jvm.ClassFile.FieldType.byte)), Jvm.Cond.code ({ cls := "java/lang/StringUTF16", name := "compress", desc := "([CI[BII)I" } : Jvm.MethodName) jdk_52_method_21_code (7 : Nat) (Option.some Jvm.ClassFile.FieldType.int), Jvm.Cond.code ({ cls := "java/lang/StringUTF16", name := "coderFromArrayLen", desc := "([BI)B" } : Jvm.MethodName) jdk_52_method_15_code (2 : Nat) (Option.some Jvm.ClassFile.FieldType.byte), Jvm.Cond.code ({ cls := "java/lang/String", name := "equals", desc := "(Ljava/lang/Object;)Z" } : Jvm.MethodName) jdk_42_method_66_code (3 : Nat) (Option.some Jvm.ClassFile.FieldType.boolean), Jvm.Cond.code ({ cls := "java/lang/StringLatin1", name := "equals", desc := "([B[B)Z" } : Jvm.MethodName) jdk_43_method_13_code (3 : Nat) (Option.some Jvm.ClassFile.FieldType.boolean)]
set_option maxRecDepth 65536 in
theorem codes_eq : words1.filter isCode = codes1 := rfl
theorem w_codes : ∀ c ∈ words1.filter isCode, c.before args0 about1 = true := by
  rw [codes_eq]
  intro c hc
  simp only [codes1, List.mem_cons, List.not_mem_nil, or_false] at hc
  rcases hc with rfl | rfl | rfl | rfl | rfl | rfl | rfl | rfl | rfl | rfl | rfl | rfl | rfl | rfl | rfl | rfl | rfl | rfl | rfl | rfl | rfl | rfl | rfl | rfl | rfl | rfl | rfl | rfl
  · exact w_c0
  · exact w_c1
  · exact w_c2
  · exact w_c3
  · exact w_c4
  · exact w_c5
  · exact w_c6
  · exact w_c7
  · exact w_c8
  · exact w_c9
  · exact w_c10
  · exact w_c11
  · exact w_c12
  · exact w_c13
  · exact w_c14
  · exact w_c15
  · exact w_c16
  · exact w_c17
  · exact w_c18
  · exact w_c19
  · exact w_c20
  · exact w_c21
  · exact w_c22
  · exact w_c23
  · exact w_c24
  · exact w_c25
  · exact w_c26
  · exact w_c27
set_option maxRecDepth 65536 in
theorem w_t1 : (words1.take 24).all (fun c => isCode c || c.before args0 about1) = true := by decide +kernel
set_option maxRecDepth 65536 in
theorem w_t2 : ((words1.drop 24).take 24).all (fun c => isCode c || c.before args0 about1) = true := by decide +kernel
set_option maxRecDepth 65536 in
theorem w_t3 : (((words1.drop 24).drop 24).take 24).all (fun c => isCode c || c.before args0 about1) = true := by decide +kernel
set_option maxRecDepth 65536 in
theorem w_t4 : ((((words1.drop 24).drop 24).drop 24).take 24).all (fun c => isCode c || c.before args0 about1) = true := by decide +kernel
set_option maxRecDepth 65536 in
theorem w_t5 : (((((words1.drop 24).drop 24).drop 24).drop 24).take 24).all (fun c => isCode c || c.before args0 about1) = true := by decide +kernel
set_option maxRecDepth 65536 in
theorem w_t6 : (((((words1.drop 24).drop 24).drop 24).drop 24).drop 24).all (fun c => isCode c || c.before args0 about1) = true := by decide +kernel
theorem w_tables : (allAtoms (Jvm.Cond.code x code maxLocals ret :: tables_1)).before args0 about1 = true := by
  rw [allAtoms_all]
  show words1.all (fun c => c.before args0 about1) = true
  refine all_split ?_ w_codes
  rw [← List.take_append_drop 24 words1, List.all_append, w_t1, ← List.take_append_drop 24 (words1.drop 24), List.all_append, w_t2, ← List.take_append_drop 24 ((words1.drop 24).drop 24), List.all_append, w_t3, ← List.take_append_drop 24 (((words1.drop 24).drop 24).drop 24), List.all_append, w_t4, ← List.take_append_drop 24 ((((words1.drop 24).drop 24).drop 24).drop 24), List.all_append, w_t5, w_t6]
  rfl
set_option maxRecDepth 65536 in
theorem w_rest : rest_1_c.before args0 about1 = true := by decide +kernel
set_option maxRecDepth 65536 in
theorem w_case : (Jvm.Cond.and given_1 narrow_1).before args0 about1 = true := by decide +kernel
set_option maxRecDepth 65536 in
theorem w_consts : constsHeld consts_1 about1 := Jvm.Lit.constsHeldB_iff.mp (by decide +kernel)
theorem w_applies : (headSpec (Jvm.Cond.code x code maxLocals ret :: tables_1) room_1).applies x e0.platform about1 = true :=
  (Spec.applies_iff w_frames).mpr ⟨w_running, w_runnable, w_alone, w_named, w_hears, w_ripe, w_room, w_tables⟩
theorem atStart : AtStart classFile x code maxLocals ret World_1 tables_1 room_1 Calls_1 rest_1 Pre_1 launch0 p0 e0 about1 theMethod args0 below0 :=
  ⟨lists_1, trivial, launch0.admits_env _ _ _, launch0.least_env, fairChoices_fair.cas, fairChoices_fair.clock, w_frames, w_args, w_heap, w_applies, ⟨w_consts, trivial⟩, w_rest, w_case⟩
end start1
theorem witness_1 : WitnessClaimed_1 := ⟨start1.p0, start1.e0, start1.about1, start1.theMethod, start1.args0, start1.below0, start1.atStart⟩
end Jvm.Pilot.@@N@@
