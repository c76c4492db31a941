import JvmDerived
import JvmDerived.Pilot.@@N@@Statement
import JvmDerived.Pilot.@@N@@Code
set_option linter.unusedVariables false
set_option linter.unusedSimpArgs false
@@BLOCK:NumsL.lean.txt@@
namespace Jvm.RoadKit
open Sem ClassFile Op Lib Jvm.Stand Jvm.Free Jvm.LawKit
theorem retI {p : Program} {l : Launch} {e : Env} {R : Room} {s : State} {m : MethodId} {args : Array Value} {below : List Frame} {meth : Method} {c : Code} {T : State} {locs : List Loc} {cells slots : Nat} (X : Stand p l e R s m args below meth c T locs cells slots) (hx : p.tables.exec = Jvm.exec) {pc : Nat} {Ls : Array Slot} {z : Int32} {rest : List Value} (hret : meth.sig.returnType = some .int) (hd : decode c.code pc = .ok (.ireturn, 1)) {fs : List Frame}
    (hl : ∀ (f : JFrame) (acts : List Action), f.method = m → f.locked = none → f.entered = [] → (doReturn e (T.setTop f) acts (some (.int z))).1 = T.setFrames fs) : Steps p.tables e below (T.setTop (mkF m pc Ls (.int z :: rest))) (T.setFrames fs) :=
  retOut X hx hret rfl (Or.inl ⟨rfl, Or.inl rfl, z, rfl⟩) hd hl
end Jvm.RoadKit
/- laws to paste: Road.backV, Road.codOf (cut by pick.py; bodies as the Statement names them) -/
namespace Jvm.Pilot.@@N@@
namespace StrChars
open Jvm Sem ClassFile Op Lib Jvm.Stand Jvm.Free.XT Jvm.Free.ALB Jvm.Free.JM Jvm.Free
open Jvm.Lib.Cold (StaticIs)
/-- a char array whose places are chars -/
def Ch (a : Addr) (A : Cell) (U : State) : Prop := Arr .char a A U ∧ Typed .char A
theorem Ch.mv {a : Addr} {A : Cell} {U U' : State} (h : Ch a A U) (hal : U.vm.Alike U'.vm) (hh : U'.heap = U.heap) : Ch a A U' := ⟨h.1.mv hal hh, h.2⟩
theorem Ch.keep {a : Addr} {A : Cell} {U U' : State} (h : Ch a A U) (hal : U.vm.Alike U'.vm) (hk : U'.heap[a]? = some A) : Ch a A U' := ⟨h.1.keep hal hk, h.2⟩
/-- what place i of a char[]'s cell holds -/
def cv (A : Cell) (i : Nat) : Int32 := match A.slots[i]? with | some (.int x) => x | _ => 0
theorem Ch.get {a : Addr} {A : Cell} {U : State} (h : Ch a A U) {i : Nat} (hi : i < A.slots.size) : A.slots[i]? = some (.int (cv A i)) := by
  have e := Array.getElem?_eq_getElem hi
  have f := h.2 i _ e
  unfold cv; rw [e]
  generalize A.slots[i] = v at f
  cases v <;> simp [fits] at f ⊢
/-- the byte that i2b leaves of a char -/
def lo8 (x : Int32) : Int32 := x.toInt8.toInt32
theorem fits_lo8 (y : Int32) : fits .byte (.int (lo8 y)) = true := by
  have h1 := y.toInt8.le_toInt
  have h2 := y.toInt8.toInt_lt
  simp only [lo8, fits, Bool.and_eq_true, decide_eq_true_eq, Int32.le_iff_toInt_le, Int8.toInt_toInt32, show (-128 : Int32).toInt = -128 from by decide, show (127 : Int32).toInt = 127 from by decide]
  omega
/-- A' is A but that each place j of lo .. hi - 1 holds f j -/
def Laid (A A' : Cell) (lo hi : Nat) (f : Nat → Value) : Prop := A'.cls = A.cls ∧ A'.vm = A.vm ∧ A'.slots.size = A.slots.size ∧ ∀ i, A'.slots[i]? = if lo ≤ i ∧ i < hi then some (f i) else A.slots[i]?
theorem Laid.zero (A : Cell) (lo : Nat) (f : Nat → Value) : Laid A A lo (lo + 0) f := ⟨rfl, rfl, rfl, fun i => by rw [if_neg (by omega)]⟩
theorem Laid.step {A Ak : Cell} {lo k : Nat} {f : Nat → Value} {v : Value} (h : Laid A Ak lo k f) (hlo : lo ≤ k) (hk : k < Ak.slots.size) (hv : v = f k) : Laid A (Ak.setSlot k v) lo (k + 1) f := by
  refine ⟨h.1, h.2.1, by simpa [Cell.setSlot] using h.2.2.1, fun i => ?_⟩
  by_cases e : k = i
  · subst e; rw [Cell.slots_setSlot_self v hk, if_pos (by omega), hv]
  · rw [Cell.slots_setSlot_ne v e, h.2.2.2 i]
    by_cases q : lo ≤ i ∧ i < k
    · rw [if_pos q, if_pos (by omega)]
    · rw [if_neg q, if_neg (by omega)]
def U16 : String := "java/lang/StringUTF16"
namespace Cmp5
def yN : MethodName := ⟨"java/lang/StringUTF16", "compress", "([CI[BII)I"⟩
abbrev yB : ByteArray := jdk_52_method_21_code
theorem d0 : decode yB 0 = .ok (.iconst 0, 1) := by decide +kernel
theorem d1 : decode yB 1 = .ok (.istore 5, 2) := by decide +kernel
theorem d3 : decode yB 3 = .ok (.iload 5, 2) := by decide +kernel
theorem d5 : decode yB 5 = .ok (.iload 4, 2) := by decide +kernel
theorem d7 : decode yB 7 = .ok (.if_icmp (.ge) 37, 3) := by decide +kernel
theorem d10 : decode yB 10 = .ok (.aload_n 0, 1) := by decide +kernel
theorem d11 : decode yB 11 = .ok (.iload_n 1, 1) := by decide +kernel
theorem d12 : decode yB 12 = .ok (.caload, 1) := by decide +kernel
theorem d13 : decode yB 13 = .ok (.istore 6, 2) := by decide +kernel
theorem d15 : decode yB 15 = .ok (.iload 6, 2) := by decide +kernel
theorem d17 : decode yB 17 = .ok (.sipush 255, 3) := by decide +kernel
theorem d20 : decode yB 20 = .ok (.if_icmp (.le) 6, 3) := by decide +kernel
theorem d26 : decode yB 26 = .ok (.aload_n 2, 1) := by decide +kernel
theorem d27 : decode yB 27 = .ok (.iload_n 3, 1) := by decide +kernel
theorem d28 : decode yB 28 = .ok (.iload 6, 2) := by decide +kernel
theorem d30 : decode yB 30 = .ok (.i2b, 1) := by decide +kernel
theorem d31 : decode yB 31 = .ok (.bastore, 1) := by decide +kernel
theorem d32 : decode yB 32 = .ok (.iinc 1 1, 3) := by decide +kernel
theorem d35 : decode yB 35 = .ok (.iinc 3 1, 3) := by decide +kernel
theorem d38 : decode yB 38 = .ok (.iinc 5 1, 3) := by decide +kernel
theorem d41 : decode yB 41 = .ok (.goto (-38), 3) := by decide +kernel
theorem d44 : decode yB 44 = .ok (.iload 4, 2) := by decide +kernel
theorem d46 : decode yB 46 = .ok (.ireturn, 1) := by decide +kernel
def site : List Cond := []
def tab : Cond := tabOf yN yB 7 (some .int) site
def P (b : Addr) (A : Cell) (d : Addr) (B : Cell) (o q len : Nat) (args : Array Value) (s : State) : Prop := args = #[.ref b, .int (Int32.ofNat o), .ref d, .int (Int32.ofNat q), .int (Int32.ofNat len)] ∧ Ch b A s ∧ Arr .byte d B s ∧ b ≠ d ∧ o + len ≤ A.slots.size ∧ q + len ≤ B.slots.size ∧ ∀ i, i < len → ¬ 255 < cv A (o + i)
def E (b : Addr) (A : Cell) (d : Addr) (B : Cell) (o q len : Nat) (r : Option Value) (s u : State) : Prop := r = some (.int (Int32.ofNat len)) ∧ ∃ B', Put d B' s u ∧ Laid B B' q (q + len) (fun j => Value.int (lo8 (cv A (o + (j - q)))))
/-- no char of the range above 255: len; the places written hold each char's low byte -/
theorem law (l : Launch) (b : Addr) (A : Cell) (d : Addr) (B : Cell) (o q len : Nat) : Law l yN 5 5 0 0 yB 7 (some .int) site (P b A d B o q len) (E b A d B o q len) (copyLocs d q len) 0 0 := by
  refine Law.of_walk (plainFor_of_name (by decide +kernel)) (by decide +kernel) (by decide +kernel) (by decide) (fun _ _ h => by rw [h.1]; rfl) (fun _ U U' hal hh h => ⟨h.1, h.2.1.mv hal hh, h.2.2.1.mv hal hh, h.2.2.2⟩) (fun r U U' V V' h1 hal h2 h => ⟨h.1, h.2.elim fun B' q => ⟨B', q.1.mv h1 h2, q.2⟩⟩) ?_
  intro p e s m args below meth c s₁ X0 hexec hbytes hml hret hlk hnm hown hh0 W hP
  obtain ⟨rfl, hA, hB, hne, l1, l2, hp⟩ := hP
  have c1 : Steps p.tables e below (s₁.setTop (entryFrame m #[.ref b, .int (Int32.ofNat o), .ref d, .int (Int32.ofNat q), .int (Int32.ofNat len)] 7)) (s₁.setTop (mkF m 0 #[.val (.ref b), .val (.int (Int32.ofNat o)), .val (.ref d), .val (.int (Int32.ofNat q)), .val (.int (Int32.ofNat len)), .unset, .unset] [])) := entry rfl
  have hA0 := hA.1.mv X0.warmed.alike hh0
  have hB0 := hB.mv X0.warmed.alike hh0
  have a31 := hA.1.2.2.2
  have c2 : Steps p.tables e below (s₁.setTop (entryFrame m #[.ref b, .int (Int32.ofNat o), .ref d, .int (Int32.ofNat q), .int (Int32.ofNat len)] 7)) (s₁.setTop (mkF m 3 #[.val (.ref b), .val (.int (Int32.ofNat o)), .val (.ref d), .val (.int (Int32.ofNat q)), .val (.int (Int32.ofNat len)), .val (.int 0), .unset] [])) := c1.trans (by
    refine iconstV X0.here hexec rfl 0 (hb hbytes d0) (by decide) ?_
    refine XS.istore X0.here hexec rfl (hb hbytes d1) rfl rfl ?_
    exact Steps.refl _)
  have loop : ∀ (r i : Nat), i + r = len → ∀ (z : Slot), (z = .unset ∨ ∃ w, z = .val w ∧ w.category = 1) → ∀ (Tl : State) (Bk : Cell), Stand p l e { frames := 0, locals := 0, cells := 0, slots := 0 } s m #[.ref b, .int (Int32.ofNat o), .ref d, .int (Int32.ofNat q), .int (Int32.ofNat len)] below meth c Tl ([] ++ copyLocs d q i) 0 0 → Put d Bk s₁ Tl → Laid B Bk q (q + i) (fun j => Value.int (lo8 (cv A (o + (j - q))))) →
      Steps p.tables e below (s₁.setTop (entryFrame m #[.ref b, .int (Int32.ofNat o), .ref d, .int (Int32.ofNat q), .int (Int32.ofNat len)] 7)) (Tl.setTop (mkF m 3 #[.val (.ref b), .val (.int (Int32.ofNat (o + i))), .val (.ref d), .val (.int (Int32.ofNat (q + i))), .val (.int (Int32.ofNat len)), .val (.int (Int32.ofNat i)), z] [])) → ∃ (T' : State) (B' : Cell) (z' : Slot), Stand p l e { frames := 0, locals := 0, cells := 0, slots := 0 } s m #[.ref b, .int (Int32.ofNat o), .ref d, .int (Int32.ofNat q), .int (Int32.ofNat len)] below meth c T' ([] ++ copyLocs d q len) 0 0 ∧ Put d B' s₁ T' ∧ Laid B B' q (q + len) (fun j => Value.int (lo8 (cv A (o + (j - q))))) ∧
      Steps p.tables e below (s₁.setTop (entryFrame m #[.ref b, .int (Int32.ofNat o), .ref d, .int (Int32.ofNat q), .int (Int32.ofNat len)] 7)) (T'.setTop (mkF m 3 #[.val (.ref b), .val (.int (Int32.ofNat (o + len))), .val (.ref d), .val (.int (Int32.ofNat (q + len))), .val (.int (Int32.ofNat len)), .val (.int (Int32.ofNat len)), z'] [])) := by
    intro r
    induction r with
    | zero =>
      intro i hi z hz Tl Bk Xl pl fl cl
      have hil : i = len := by omega
      rw [hil] at Xl fl cl
      exact ⟨Tl, Bk, z, Xl, pl, fl, cl⟩
    | succ r ih =>
      intro i hi z hz Tl Bk Xl pl fl cl
      have all := X0.warmed.alike.symm.trans Xl.warmed.alike
      have hAl := hA0.keep all (pl.other hne hA0.1)
      have hBk := hB0.like all pl.1 fl.1 fl.2.1 fl.2.2.1
      have hlt : q + i < Bk.slots.size := by rw [fl.2.2.1]; omega
      have c3 : Steps p.tables e below (s₁.setTop (entryFrame m #[.ref b, .int (Int32.ofNat o), .ref d, .int (Int32.ofNat q), .int (Int32.ofNat len)] 7)) (Tl.setTop (mkF m 12 #[.val (.ref b), .val (.int (Int32.ofNat (o + i))), .val (.ref d), .val (.int (Int32.ofNat (q + i))), .val (.int (Int32.ofNat len)), .val (.int (Int32.ofNat i)), z] [.int (Int32.ofNat (o + i)), .ref b])) := cl.trans (by
        refine XS.iload Xl.here hexec rfl (hb hbytes d3) rfl ?_
        refine XS.iload Xl.here hexec rfl (hb hbytes d5) rfl ?_
        refine XS.icmpNo Xl.here hexec rfl (hb hbytes d7) rfl (ii_ge_f (lt32 (by omega) (by omega))) ?_
        refine XS.aloadN Xl.here hexec rfl (hb hbytes d10) rfl rfl ?_
        refine XS.iloadN Xl.here hexec rfl (hb hbytes d11) rfl ?_
        exact Steps.refl _)
      have c4 : Steps p.tables e below (s₁.setTop (entryFrame m #[.ref b, .int (Int32.ofNat o), .ref d, .int (Int32.ofNat q), .int (Int32.ofNat len)] 7)) (Tl.setTop (mkF m 13 #[.val (.ref b), .val (.int (Int32.ofNat (o + i))), .val (.ref d), .val (.int (Int32.ofNat (q + i))), .val (.int (Int32.ofNat len)), .val (.int (Int32.ofNat i)), z] [.int (cv A (o + i))])) := c3.trans (by
        refine Xl.aget hexec hAl rfl (hA.get (i := o + i) (by omega)) rfl rfl (hb hbytes d12) ?_
        exact Steps.refl _)
      have c5 : Steps p.tables e below (s₁.setTop (entryFrame m #[.ref b, .int (Int32.ofNat o), .ref d, .int (Int32.ofNat q), .int (Int32.ofNat len)] 7)) (Tl.setTop (mkF m 15 #[.val (.ref b), .val (.int (Int32.ofNat (o + i))), .val (.ref d), .val (.int (Int32.ofNat (q + i))), .val (.int (Int32.ofNat len)), .val (.int (Int32.ofNat i)), .val (.int (cv A (o + i)))] [])) := c4.trans (by
        refine XS.istoreS Xl.here hexec rfl (hb hbytes d13) rfl rfl hz ?_
        exact Steps.refl _)
      have c6 : Steps p.tables e below (s₁.setTop (entryFrame m #[.ref b, .int (Int32.ofNat o), .ref d, .int (Int32.ofNat q), .int (Int32.ofNat len)] 7)) (Tl.setTop (mkF m 31 #[.val (.ref b), .val (.int (Int32.ofNat (o + i))), .val (.ref d), .val (.int (Int32.ofNat (q + i))), .val (.int (Int32.ofNat len)), .val (.int (Int32.ofNat i)), .val (.int (cv A (o + i)))] [.int (lo8 (cv A (o + i))), .int (Int32.ofNat (q + i)), .ref d])) := c5.trans (by
        refine XS.iload Xl.here hexec rfl (hb hbytes d15) rfl ?_
        refine sipushV Xl.here hexec rfl 255 (hb hbytes d17) (by decide) ?_
        refine XS.icmpYes Xl.here hexec rfl (pc0 := 20) rfl (hb hbytes d20) rfl (ii_le_t (hp i (by omega))) (by decide) rfl ?_
        refine XS.aloadN Xl.here hexec rfl (hb hbytes d26) rfl rfl ?_
        refine XS.iloadN Xl.here hexec rfl (hb hbytes d27) rfl ?_
        refine XS.iload Xl.here hexec rfl (hb hbytes d28) rfl ?_
        refine i2b Xl.here hexec rfl (hb hbytes d30) rfl ?_
        exact Steps.refl _)
      obtain ⟨T7, X7, p7, st7⟩ := Xl.aput hexec hBk rfl hlt rfl (fits_lo8 (cv A (o + i))) (g := (mkF m 31 #[.val (.ref b), .val (.int (Int32.ofNat (o + i))), .val (.ref d), .val (.int (Int32.ofNat (q + i))), .val (.int (Int32.ofNat len)), .val (.int (Int32.ofNat i)), .val (.int (cv A (o + i)))] [.int (lo8 (cv A (o + i))), .int (Int32.ofNat (q + i)), .ref d])) rfl (rest := []) rfl (hb hbytes d31)
      have c8 : Steps p.tables e below (s₁.setTop (entryFrame m #[.ref b, .int (Int32.ofNat o), .ref d, .int (Int32.ofNat q), .int (Int32.ofNat len)] 7)) (T7.setTop (mkF m 32 #[.val (.ref b), .val (.int (Int32.ofNat (o + i))), .val (.ref d), .val (.int (Int32.ofNat (q + i))), .val (.int (Int32.ofNat len)), .val (.int (Int32.ofNat i)), .val (.int (cv A (o + i)))] [])) := c6.trans (st7 _ (Steps.refl _))
      have c9 : Steps p.tables e below (s₁.setTop (entryFrame m #[.ref b, .int (Int32.ofNat o), .ref d, .int (Int32.ofNat q), .int (Int32.ofNat len)] 7)) (T7.setTop (mkF m 3 #[.val (.ref b), .val (.int (Int32.ofNat (o + i) + 1)), .val (.ref d), .val (.int (Int32.ofNat (q + i) + 1)), .val (.int (Int32.ofNat len)), .val (.int (Int32.ofNat i + 1)), .val (.int (cv A (o + i)))] [])) := c8.trans (by
        refine iincV X7.here hexec rfl 1 (hb hbytes d32) (by decide) rfl rfl ?_
        refine iincV X7.here hexec rfl 1 (hb hbytes d35) (by decide) rfl rfl ?_
        refine iincV X7.here hexec rfl 1 (hb hbytes d38) (by decide) rfl rfl ?_
        refine XS.goto X7.here hexec rfl (pc0 := 41) rfl (hb hbytes d41) (by decide) rfl ?_
        exact Steps.refl _)
      have c10 : Steps p.tables e below (s₁.setTop (entryFrame m #[.ref b, .int (Int32.ofNat o), .ref d, .int (Int32.ofNat q), .int (Int32.ofNat len)] 7)) (T7.setTop (mkF m 3 #[.val (.ref b), .val (.int (Int32.ofNat (o + (i + 1)))), .val (.ref d), .val (.int (Int32.ofNat (q + (i + 1)))), .val (.int (Int32.ofNat len)), .val (.int (Int32.ofNat (i + 1))), .val (.int (cv A (o + i)))] [])) := by
        have := c9
        rw [succ32, succ32, succ32] at this
        exact this
      exact ih (i + 1) (by omega) _ (Or.inr ⟨_, rfl, rfl⟩) T7 _ (by rw [copyLocs_step, ← List.append_assoc]; exact X7) (pl.trans p7) (fl.step (by omega) hlt (by simp)) c10
  obtain ⟨T9, B9, z9, X9, p9, f9, g9⟩ := loop len 0 (by omega) .unset (Or.inl rfl) s₁ B (by simpa [copyLocs] using X0) ⟨hB0.1, fun _ _ => rfl, rfl⟩ (Laid.zero _ _ _) c2
  have c11 : Steps p.tables e below (s₁.setTop (entryFrame m #[.ref b, .int (Int32.ofNat o), .ref d, .int (Int32.ofNat q), .int (Int32.ofNat len)] 7)) (T9.setTop (mkF m 46 #[.val (.ref b), .val (.int (Int32.ofNat (o + len))), .val (.ref d), .val (.int (Int32.ofNat (q + len))), .val (.int (Int32.ofNat len)), .val (.int (Int32.ofNat len)), z9] [.int (Int32.ofNat len)])) := g9.trans (by
    refine XS.iload X9.here hexec rfl (hb hbytes d3) rfl ?_
    refine XS.iload X9.here hexec rfl (hb hbytes d5) rfl ?_
    refine XS.icmpYes X9.here hexec rfl (pc0 := 7) rfl (hb hbytes d7) rfl (ii_ge_t (nlt32 (by omega) (Nat.le_refl _))) (by decide) rfl ?_
    refine XS.iload X9.here hexec rfl (hb hbytes d44) rfl ?_
    exact Steps.refl _)
  exact ⟨T9, some (.int (Int32.ofNat len)), _, _, _, X9, by simp, rfl, rfl, (fun h => by cases h), ⟨rfl, B9, p9.from hh0, f9⟩, fun fs hl => c11.trans (X9.ireturnOut hexec hret rfl (Or.inl rfl) (hb hbytes d46) hl)⟩
end Cmp5
namespace Cmp3
def yN : MethodName := ⟨"java/lang/StringUTF16", "compress", "([CII)[B"⟩
abbrev yB : ByteArray := jdk_52_method_16_code
theorem d0 : decode yB 0 = .ok (.iload_n 2, 1) := by decide +kernel
theorem d1 : decode yB 1 = .ok (.newarray .byte, 2) := by decide +kernel
theorem d3 : decode yB 3 = .ok (.astore_n 3, 1) := by decide +kernel
theorem d4 : decode yB 4 = .ok (.aload_n 0, 1) := by decide +kernel
theorem d5 : decode yB 5 = .ok (.iload_n 1, 1) := by decide +kernel
theorem d6 : decode yB 6 = .ok (.aload_n 3, 1) := by decide +kernel
theorem d7 : decode yB 7 = .ok (.iconst 0, 1) := by decide +kernel
theorem d8 : decode yB 8 = .ok (.iload_n 2, 1) := by decide +kernel
theorem d9 : decode yB 9 = .ok (.invokestatic 115, 3) := by decide +kernel
theorem d12 : decode yB 12 = .ok (.istore 4, 2) := by decide +kernel
theorem d14 : decode yB 14 = .ok (.iload 4, 2) := by decide +kernel
theorem d16 : decode yB 16 = .ok (.iload_n 2, 1) := by decide +kernel
theorem d17 : decode yB 17 = .ok (.if_icmp (.eq) 40, 3) := by decide +kernel
theorem d57 : decode yB 57 = .ok (.aload_n 3, 1) := by decide +kernel
theorem d58 : decode yB 58 = .ok (.areturn, 1) := by decide +kernel
def site : List Cond := [.arrayClass .byte, Cmp5.tab] ++ staticW U16 115 Cmp5.yN
def tab : Cond := tabOf yN yB 6 (some (.array .byte)) site
def P (b : Addr) (A : Cell) (o len : Nat) (args : Array Value) (s : State) : Prop := args = #[.ref b, .int (Int32.ofNat o), .int (Int32.ofNat len)] ∧ Ch b A s ∧ o + len ≤ A.slots.size ∧ len ≤ 536870912 ∧ ∀ i, i < len → ¬ 255 < cv A (o + i)
def E (b : Addr) (A : Cell) (o len : Nat) (r : Option Value) (s u : State) : Prop := NewArr .byte "[B" len (fun j => .int (lo8 (cv A (o + j)))) r s u ∧ u.heap.size = s.heap.size + 1
/-- no char of the range above 255: a new byte[] of their low bytes -/
theorem law (l : Launch) (b : Addr) (A : Cell) (o len : Nat) : Law l yN 3 3 1 18 yB 6 (some (.array .byte)) site (P b A o len) (E b A o len) [] 1 len := by
  refine Law.of_walk (plainFor_of_name (by decide +kernel)) (by decide +kernel) (by decide +kernel) (by decide) (fun _ _ h => by rw [h.1]; rfl) (fun _ U U' hal hh h => ⟨h.1, h.2.1.mv hal hh, h.2.2⟩) (fun r U U' V V' h1 hal h2 h => ⟨NewArr.mv r U U' V V' h1 hal h2 h.1, by rw [h1, h2]; exact h.2⟩) ?_
  intro p e s m args below meth c s₁ X0 hexec hbytes hml hret hlk hnm hown hh0 W hP
  obtain ⟨rfl, hA, l1, l2, hp⟩ := hP
  have a31 := hA.1.2.2.2
  have c1 : Steps p.tables e below (s₁.setTop (entryFrame m #[.ref b, .int (Int32.ofNat o), .int (Int32.ofNat len)] 6)) (s₁.setTop (mkF m 0 #[.val (.ref b), .val (.int (Int32.ofNat o)), .val (.int (Int32.ofNat len)), .unset, .unset, .unset] [])) := entry rfl
  have c2 : Steps p.tables e below (s₁.setTop (entryFrame m #[.ref b, .int (Int32.ofNat o), .int (Int32.ofNat len)] 6)) (s₁.setTop (mkF m 1 #[.val (.ref b), .val (.int (Int32.ofNat o)), .val (.int (Int32.ofNat len)), .unset, .unset, .unset] [.int (Int32.ofNat len)])) := c1.trans (by
    refine XS.iloadN X0.here hexec rfl (hb hbytes d0) rfl ?_
    exact Steps.refl _)
  obtain ⟨T3, B3, X3, ba3, bs3, bv3, bh3, bf3, st3⟩ := X0.anew hexec (atype := .byte) (wk W (.arrayClass .byte)) rfl (by show len * 1 ≤ _; omega) (by omega) (g := (mkF m 1 #[.val (.ref b), .val (.int (Int32.ofNat o)), .val (.int (Int32.ofNat len)), .unset, .unset, .unset] [.int (Int32.ofNat len)])) rfl (hb hbytes d1) (rest := []) rfl (Nat.le_refl _) (by show 0 + len ≤ len; omega)
  rw [hh0] at ba3 st3
  have kp3 : XT.Kept s T3 := (XT.Kept.of_eq hh0).push bh3
  have hA3 := hA.keep X3.warmed.alike (kp3 _ _ hA.1.1)
  have hne : b ≠ s.heap.size := hA.1.ne
  have c4 : Steps p.tables e below (s₁.setTop (entryFrame m #[.ref b, .int (Int32.ofNat o), .int (Int32.ofNat len)] 6)) (T3.setTop (mkF m 3 #[.val (.ref b), .val (.int (Int32.ofNat o)), .val (.int (Int32.ofNat len)), .unset, .unset, .unset] [.ref s.heap.size])) := c2.trans (st3 _ (Steps.refl _))
  have c5 : Steps p.tables e below (s₁.setTop (entryFrame m #[.ref b, .int (Int32.ofNat o), .int (Int32.ofNat len)] 6)) (T3.setTop (mkF m 9 #[.val (.ref b), .val (.int (Int32.ofNat o)), .val (.int (Int32.ofNat len)), .val (.ref s.heap.size), .unset, .unset] [.int (Int32.ofNat len), .int 0, .ref s.heap.size, .int (Int32.ofNat o), .ref b])) := c4.trans (by
    refine XS.astoreN X3.here hexec rfl (hb hbytes d3) rfl rfl rfl ?_
    refine XS.aloadN X3.here hexec rfl (hb hbytes d4) rfl rfl ?_
    refine XS.iloadN X3.here hexec rfl (hb hbytes d5) rfl ?_
    refine XS.aloadN X3.here hexec rfl (hb hbytes d6) rfl rfl ?_
    refine iconstV X3.here hexec rfl 0 (hb hbytes d7) (by decide) ?_
    refine XS.iloadN X3.here hexec rfl (hb hbytes d8) rfl ?_
    exact Steps.refl _)
  obtain ⟨v6, T6, X6, E6, g6⟩ := X3.callS hexec (Cmp5.law l b A s.heap.size B3 o 0 len) hown (wks W (staticW U16 115 Cmp5.yN)) (wk W Cmp5.tab) (W := 0) (Nat.le_of_ble_eq_true rfl) (Nat.le_of_ble_eq_true rfl) (Nat.le_refl _) (by show 0 + len + 0 ≤ len; omega) (g := (mkF m 9 #[.val (.ref b), .val (.int (Int32.ofNat o)), .val (.int (Int32.ofNat len)), .val (.ref s.heap.size), .unset, .unset] [.int (Int32.ofNat len), .int (Int32.ofNat 0), .ref s.heap.size, .int (Int32.ofNat o), .ref b])) rfl (by rw [hml]; rfl) c5 (argsL := [.ref b, .int (Int32.ofNat o), .ref s.heap.size, .int (Int32.ofNat 0), .int (Int32.ofNat len)]) (rest := []) rfl rfl (by show 2 * 0 + 0 ≤ _; decide) (hb hbytes d9) (⟨rfl, hA3, ba3, hne, l1, by rw [bs3]; simp, hp⟩)
  obtain ⟨rfl, B6, p6, f6⟩ := E6
  have c7 : Steps p.tables e below (s₁.setTop (entryFrame m #[.ref b, .int (Int32.ofNat o), .int (Int32.ofNat len)] 6)) (T6.setTop (mkF m 12 #[.val (.ref b), .val (.int (Int32.ofNat o)), .val (.int (Int32.ofNat len)), .val (.ref s.heap.size), .unset, .unset] [.int (Int32.ofNat len)])) := g6
  have c8 : Steps p.tables e below (s₁.setTop (entryFrame m #[.ref b, .int (Int32.ofNat o), .int (Int32.ofNat len)] 6)) (T6.setTop (mkF m 58 #[.val (.ref b), .val (.int (Int32.ofNat o)), .val (.int (Int32.ofNat len)), .val (.ref s.heap.size), .val (.int (Int32.ofNat len)), .unset] [.ref s.heap.size])) := c7.trans (by
    refine XS.istore X6.here hexec rfl (hb hbytes d12) rfl rfl ?_
    refine XS.iload X6.here hexec rfl (hb hbytes d14) rfl ?_
    refine XS.iloadN X6.here hexec rfl (hb hbytes d16) rfl ?_
    refine XS.icmpYes X6.here hexec rfl (pc0 := 17) rfl (hb hbytes d17) rfl (ii_eq_t rfl) (by decide) rfl ?_
    refine XS.aloadN X6.here hexec rfl (hb hbytes d57) rfl rfl ?_
    exact Steps.refl _)
  have X8 := X6.wide (L' := []) (cells' := 1) (slots' := len) (fun x hx hlt => by
    simp only [List.nil_append, copyLocs, List.mem_map, List.mem_range] at hx
    obtain ⟨i, -, rfl⟩ := hx
    exact absurd hlt (Nat.lt_irrefl _)) (Nat.le_refl _) (by omega)
  exact ⟨T6, some (.ref s.heap.size), _, _, _, X8, rfl, rfl, rfl, (fun h => by cases h), ⟨⟨rfl, B6, ba3.like (X3.warmed.alike.symm.trans X6.warmed.alike) p6.1 f6.1 f6.2.1 f6.2.2.1, f6.2.1.trans bv3, by rw [X6.warmed.alike.findClass, f6.1]; exact bf3, by rw [f6.2.2.1, bs3]; simp, fun j hj => by rw [f6.2.2.2 j, if_pos (by omega)]; rfl, kp3.put p6 (Nat.le_refl _)⟩, by rw [p6.2.2, bh3, hh0]; simp⟩, fun fs hl => c8.trans (X8.areturnOut hexec rfl hret rfl (hb hbytes d58) hl)⟩
end Cmp3
namespace CodL
def yN : MethodName := ⟨"java/lang/StringUTF16", "coderFromArrayLen", "([BI)B"⟩
abbrev yB : ByteArray := jdk_52_method_15_code
theorem d0 : decode yB 0 = .ok (.iload_n 1, 1) := by decide +kernel
theorem d1 : decode yB 1 = .ok (.aload_n 0, 1) := by decide +kernel
theorem d2 : decode yB 2 = .ok (.arraylength, 1) := by decide +kernel
theorem d3 : decode yB 3 = .ok (.isub, 1) := by decide +kernel
theorem d4 : decode yB 4 = .ok (.bipush 31, 2) := by decide +kernel
theorem d6 : decode yB 6 = .ok (.iushr, 1) := by decide +kernel
theorem d7 : decode yB 7 = .ok (.i2b, 1) := by decide +kernel
theorem d8 : decode yB 8 = .ok (.ireturn, 1) := by decide +kernel
def site : List Cond := []
def tab : Cond := tabOf yN yB 2 (some .byte) site
def P (d : Addr) (B : Cell) (args : Array Value) (s : State) : Prop := args = #[.ref d, .int (Int32.ofNat B.slots.size)] ∧ Arr .byte d B s
def E (r : Option Value) (s u : State) : Prop := XT.PureE (some (.int 0)) r s u
/-- an array as long as the number of chars: LATIN1 -/
theorem law (l : Launch) (d : Addr) (B : Cell) : Law l yN 2 2 0 0 yB 2 (some .byte) site (P d B) E [] 0 0 := by
  refine Law.of_walk (plainFor_of_name (by decide +kernel)) (by decide +kernel) (by decide +kernel) (by decide) (fun _ _ h => by rw [h.1]; rfl) (fun _ U U' hal hh h => ⟨h.1, h.2.mv hal hh⟩) (fun r U U' V V' h1 hal h2 h => XT.PureE.mv r U U' V V' h1 hal h2 h) ?_
  intro p e s m args below meth c s₁ X0 hexec hbytes hml hret hlk hnm hown hh0 W hP
  obtain ⟨rfl, hB⟩ := hP
  have hB0 := hB.mv X0.warmed.alike hh0
  have c1 : Steps p.tables e below (s₁.setTop (entryFrame m #[.ref d, .int (Int32.ofNat B.slots.size)] 2)) (s₁.setTop (mkF m 0 #[.val (.ref d), .val (.int (Int32.ofNat B.slots.size))] [])) := entry rfl
  have c2 : Steps p.tables e below (s₁.setTop (entryFrame m #[.ref d, .int (Int32.ofNat B.slots.size)] 2)) (s₁.setTop (mkF m 2 #[.val (.ref d), .val (.int (Int32.ofNat B.slots.size))] [.ref d, .int (Int32.ofNat B.slots.size)])) := c1.trans (by
    refine XS.iloadN X0.here hexec rfl (hb hbytes d0) rfl ?_
    refine XS.aloadN X0.here hexec rfl (hb hbytes d1) rfl rfl ?_
    exact Steps.refl _)
  have c3 : Steps p.tables e below (s₁.setTop (entryFrame m #[.ref d, .int (Int32.ofNat B.slots.size)] 2)) (s₁.setTop (mkF m 8 #[.val (.ref d), .val (.int (Int32.ofNat B.slots.size))] [.int (lo8 (ushr (Int32.ofNat B.slots.size - Int32.ofNat B.slots.size) 31))])) := c2.trans (by
    refine X0.alen hexec hB0 rfl rfl (hb hbytes d2) ?_
    refine XS.isub X0.here hexec rfl (hb hbytes d3) rfl ?_
    refine bipushV X0.here hexec rfl 31 (hb hbytes d4) (by decide) ?_
    refine iushr X0.here hexec rfl (hb hbytes d6) rfl ?_
    refine i2b X0.here hexec rfl (hb hbytes d7) rfl ?_
    exact Steps.refl _)
  have e0 : lo8 (ushr (Int32.ofNat B.slots.size - Int32.ofNat B.slots.size) 31) = 0 := by rw [Int32.sub_self]; decide
  rw [e0] at c3
  exact ⟨s₁, some (.int 0), _, _, _, X0, rfl, rfl, rfl, (fun h => by cases h), ⟨rfl, hh0⟩, fun fs hl => c3.trans (X0.ireturnOut hexec hret rfl (Or.inr (Or.inr (Or.inl rfl))) (hb hbytes d8) hl)⟩
end CodL
/-- the String at a is Latin-1 over a new byte[] (the heap's one new cell): the low bytes of the len chars of A from o on; every cell but a is kept -/
def Got (a : Addr) (D : Cell) (fV fC : Field) (A : Cell) (o len : Nat) (r : Option Value) (s u : State) : Prop := r = none ∧ ∃ D' V : Cell, Blank "java/lang/String" a D' u ∧ Same D D' [fV.slot, fC.slot] ∧ D'.slots[fV.slot]? = some (.ref s.heap.size) ∧ D'.slots[fC.slot]? = some (.int 0) ∧ Arr .byte s.heap.size V u ∧ V.vm = .none ∧ u.vm.findClass "[B" = some V.cls ∧ V.slots.size = len ∧ (∀ j, j < len → V.slots[j]? = some (.int (lo8 (cv A (o + j))))) ∧ (∀ (y : Addr) (c : Cell), y ≠ a → s.heap[y]? = some c → u.heap[y]? = some c) ∧ u.heap.size = s.heap.size + 1
theorem Got.mv {a : Addr} {D A : Cell} {fV fC : Field} {o len : Nat} : ∀ r (U U' V V' : State), U'.heap = U.heap → V.vm.Alike V'.vm → V'.heap = V.heap → Got a D fV fC A o len r U V → Got a D fV fC A o len r U' V' :=
  fun r U U' V V' h1 hal h2 ⟨e0, D', X, a1, a2, a3, a4, a5, a6, a7, a8, a9, a10, a11⟩ => ⟨e0, D', X, a1.mv hal h2, a2, by rw [h1]; exact a3, a4, by rw [h1]; exact a5.mv hal h2, a6, by rw [hal.findClass]; exact a7, a8, a9, by rw [h1, h2]; exact a10, by rw [h1, h2]; exact a11⟩
namespace New4
def yN : MethodName := ⟨"java/lang/String", "<init>", "([CIILjava/lang/Void;)V"⟩
abbrev yB : ByteArray := jdk_42_method_149_code
theorem d0 : decode yB 0 = .ok (.aload_n 0, 1) := by decide +kernel
theorem d1 : decode yB 1 = .ok (.invokespecial 1, 3) := by decide +kernel
theorem d4 : decode yB 4 = .ok (.iload_n 3, 1) := by decide +kernel
theorem d5 : decode yB 5 = .ok (.ifCond (.ne) 22, 3) := by decide +kernel
theorem d27 : decode yB 27 = .ok (.getstatic 38, 3) := by decide +kernel
theorem d30 : decode yB 30 = .ok (.ifCond (.eq) 28, 3) := by decide +kernel
theorem d33 : decode yB 33 = .ok (.aload_n 1, 1) := by decide +kernel
theorem d34 : decode yB 34 = .ok (.iload_n 2, 1) := by decide +kernel
theorem d35 : decode yB 35 = .ok (.iload_n 3, 1) := by decide +kernel
theorem d36 : decode yB 36 = .ok (.invokestatic 177, 3) := by decide +kernel
theorem d39 : decode yB 39 = .ok (.astore 5, 2) := by decide +kernel
theorem d41 : decode yB 41 = .ok (.aload_n 0, 1) := by decide +kernel
theorem d42 : decode yB 42 = .ok (.aload 5, 2) := by decide +kernel
theorem d44 : decode yB 44 = .ok (.iload_n 3, 1) := by decide +kernel
theorem d45 : decode yB 45 = .ok (.invokestatic 47, 3) := by decide +kernel
theorem d48 : decode yB 48 = .ok (.putfield 15, 3) := by decide +kernel
theorem d51 : decode yB 51 = .ok (.aload_n 0, 1) := by decide +kernel
theorem d52 : decode yB 52 = .ok (.aload 5, 2) := by decide +kernel
theorem d54 : decode yB 54 = .ok (.putfield 9, 3) := by decide +kernel
theorem d57 : decode yB 57 = .ok (.return_, 1) := by decide +kernel
def site : List Cond := [.fieldLink "java/lang/String" 38 "java/lang/String" "COMPACT_STRINGS" "Z", Cmp3.tab, CodL.tab, .laysFinal "java/lang/String" "java/lang/String" "value" "[B", .fieldLink "java/lang/String" 9 "java/lang/String" "value" "[B", .laysFinal "java/lang/String" "java/lang/String" "coder" "B", .fieldLink "java/lang/String" 15 "java/lang/String" "coder" "B"] ++ objW "java/lang/String" 1 ++ staticW "java/lang/String" 177 Cmp3.yN ++ staticW "java/lang/String" 47 CodL.yN
def tab : Cond := tabOf yN yB 6 none site
def P (a : Addr) (D : Cell) (fV fC : Field) (b : Addr) (A : Cell) (z : Int32) (o len : Nat) (args : Array Value) (s : State) : Prop := args = #[.ref a, .ref b, .int (Int32.ofNat o), .int (Int32.ofNat len), .null] ∧ Blank "java/lang/String" a D s ∧ Found "java/lang/String" "value" "[B" fV s ∧ Found "java/lang/String" "coder" "B" fC s ∧ Ch b A s ∧ StaticIs s "java/lang/String" "COMPACT_STRINGS" "Z" (.int z) ∧ ¬ z = 0 ∧ 0 < len ∧ o + len ≤ A.slots.size ∧ len ≤ 536870912 ∧ ∀ i, i < len → ¬ 255 < cv A (o + i)
def E (a : Addr) (D : Cell) (fV fC : Field) (A : Cell) (o len : Nat) (r : Option Value) (s u : State) : Prop := Got a D fV fC A o len r s u
/-- len > 0, no char of the range above 255: a Latin-1 String of their low bytes -/
theorem law (l : Launch) (a : Addr) (D : Cell) (fV fC : Field) (b : Addr) (A : Cell) (z : Int32) (o len : Nat) : Law l yN 5 4 2 35 yB 6 none site (P a D fV fC b A z o len) (E a D fV fC A o len) [⟨a, fC.slot⟩, ⟨a, fV.slot⟩] 1 len := by
  refine Law.of_walk (plainFor_of_name (by decide +kernel)) (by decide +kernel) (by decide +kernel) (by decide) (fun _ _ h => by rw [h.1]; rfl) (fun _ U U' hal hh h => ⟨h.1, h.2.1.mv hal hh, h.2.2.1.al hal, h.2.2.2.1.al hal, h.2.2.2.2.1.mv hal hh, h.2.2.2.2.2.1.there hal hh, h.2.2.2.2.2.2⟩) (fun r U U' V V' h1 hal h2 h => Got.mv r U U' V V' h1 hal h2 h) ?_
  intro p e s m args below meth c s₁ X0 hexec hbytes hml hret hlk hnm hown hh0 W hP
  obtain ⟨rfl, hB, f1, f2, hA, s1, hz, l0, l1, l2, hp⟩ := hP
  have a31 := hA.1.2.2.2
  have c1 : Steps p.tables e below (s₁.setTop (entryFrame m #[.ref a, .ref b, .int (Int32.ofNat o), .int (Int32.ofNat len), .null] 6)) (s₁.setTop (mkF m 0 #[.val (.ref a), .val (.ref b), .val (.int (Int32.ofNat o)), .val (.int (Int32.ofNat len)), .val .null, .unset] [])) := entry rfl
  have c2 : Steps p.tables e below (s₁.setTop (entryFrame m #[.ref a, .ref b, .int (Int32.ofNat o), .int (Int32.ofNat len), .null] 6)) (s₁.setTop (mkF m 1 #[.val (.ref a), .val (.ref b), .val (.int (Int32.ofNat o)), .val (.int (Int32.ofNat len)), .val .null, .unset] [.ref a])) := c1.trans (by
    refine XS.aloadN X0.here hexec rfl (hb hbytes d0) rfl rfl ?_
    exact Steps.refl _)
  obtain ⟨T3, X3, q3, st3⟩ := X0.oinit hexec hown (wks W (objW "java/lang/String" 1)) (g := (mkF m 1 #[.val (.ref a), .val (.ref b), .val (.int (Int32.ofNat o)), .val (.int (Int32.ofNat len)), .val .null, .unset] [.ref a])) rfl (by rw [hml]; rfl) (rest := []) rfl (hb hbytes d1) (W := 0) (by show 2 * 0 + 0 ≤ _; decide) (Nat.le_of_ble_eq_true rfl) (Nat.le_of_ble_eq_true rfl)
  have hh3 := q3.trans hh0
  have c4 : Steps p.tables e below (s₁.setTop (entryFrame m #[.ref a, .ref b, .int (Int32.ofNat o), .int (Int32.ofNat len), .null] 6)) (T3.setTop (mkF m 27 #[.val (.ref a), .val (.ref b), .val (.int (Int32.ofNat o)), .val (.int (Int32.ofNat len)), .val .null, .unset] [])) := (c2.trans (st3 _ (Steps.refl _))).trans (by
    refine XS.iloadN X3.here hexec rfl (hb hbytes d4) rfl ?_
    refine XS.ifYes X3.here hexec rfl (pc0 := 5) rfl (hb hbytes d5) rfl (i0_ne_t (nz32 (by omega) l0)) (by decide) rfl ?_
    exact Steps.refl _)
  obtain ⟨T5, X5, q5, st5⟩ := X3.sget hexec hown (wk W (.fieldLink "java/lang/String" 38 "java/lang/String" "COMPACT_STRINGS" "Z")) s1 (fun _ _ h => by rw [hh3]; exact h) (g := (mkF m 27 #[.val (.ref a), .val (.ref b), .val (.int (Int32.ofNat o)), .val (.int (Int32.ofNat len)), .val .null, .unset] [])) rfl (hb hbytes d27)
  have hh5 := q5.trans hh3
  have c6 : Steps p.tables e below (s₁.setTop (entryFrame m #[.ref a, .ref b, .int (Int32.ofNat o), .int (Int32.ofNat len), .null] 6)) (T5.setTop (mkF m 30 #[.val (.ref a), .val (.ref b), .val (.int (Int32.ofNat o)), .val (.int (Int32.ofNat len)), .val .null, .unset] [.int z])) := c4.trans (st5 _ (Steps.refl _))
  have c7 : Steps p.tables e below (s₁.setTop (entryFrame m #[.ref a, .ref b, .int (Int32.ofNat o), .int (Int32.ofNat len), .null] 6)) (T5.setTop (mkF m 36 #[.val (.ref a), .val (.ref b), .val (.int (Int32.ofNat o)), .val (.int (Int32.ofNat len)), .val .null, .unset] [.int (Int32.ofNat len), .int (Int32.ofNat o), .ref b])) := c6.trans (by
    refine XS.ifNo X5.here hexec rfl (hb hbytes d30) rfl (i0_eq_f hz) ?_
    refine XS.aloadN X5.here hexec rfl (hb hbytes d33) rfl rfl ?_
    refine XS.iloadN X5.here hexec rfl (hb hbytes d34) rfl ?_
    refine XS.iloadN X5.here hexec rfl (hb hbytes d35) rfl ?_
    exact Steps.refl _)
  obtain ⟨v8, T8, X8, E8, g8⟩ := X5.callS hexec (Cmp3.law l b A o len) hown (wks W (staticW "java/lang/String" 177 Cmp3.yN)) (wk W Cmp3.tab) (W := 0) (Nat.le_of_ble_eq_true rfl) (Nat.le_of_ble_eq_true rfl) (Nat.le_refl _) (by show 0 + len ≤ len; omega) (g := (mkF m 36 #[.val (.ref a), .val (.ref b), .val (.int (Int32.ofNat o)), .val (.int (Int32.ofNat len)), .val .null, .unset] [.int (Int32.ofNat len), .int (Int32.ofNat o), .ref b])) rfl (by rw [hml]; rfl) c7 (argsL := [.ref b, .int (Int32.ofNat o), .int (Int32.ofNat len)]) (rest := []) rfl rfl (by show 2 * 0 + 0 ≤ _; decide) (hb hbytes d36) (⟨rfl, hA.mv X5.warmed.alike hh5, l1, l2, hp⟩)
  obtain ⟨e8, z8⟩ := E8
  obtain ⟨rfl, N, n1, n2, n3, n4, n5, n6⟩ := NewArr.mv _ T5 s _ _ hh5.symm (Vm.Alike.refl _) rfl e8
  rw [hh5] at z8
  have hB1 := hB.keep X8.warmed.alike (n6 _ _ hB.1)
  have hne : s.heap.size ≠ a := (Nat.ne_of_lt (Array.getElem?_eq_some_iff.mp hB.1).1).symm
  have c9 : Steps p.tables e below (s₁.setTop (entryFrame m #[.ref a, .ref b, .int (Int32.ofNat o), .int (Int32.ofNat len), .null] 6)) (T8.setTop (mkF m 39 #[.val (.ref a), .val (.ref b), .val (.int (Int32.ofNat o)), .val (.int (Int32.ofNat len)), .val .null, .unset] [.ref s.heap.size])) := g8
  have c10 : Steps p.tables e below (s₁.setTop (entryFrame m #[.ref a, .ref b, .int (Int32.ofNat o), .int (Int32.ofNat len), .null] 6)) (T8.setTop (mkF m 45 #[.val (.ref a), .val (.ref b), .val (.int (Int32.ofNat o)), .val (.int (Int32.ofNat len)), .val .null, .val (.ref s.heap.size)] [.int (Int32.ofNat N.slots.size), .ref s.heap.size, .ref a])) := by
    have hc : Steps p.tables e below (s₁.setTop (entryFrame m #[.ref a, .ref b, .int (Int32.ofNat o), .int (Int32.ofNat len), .null] 6)) (T8.setTop (mkF m 45 #[.val (.ref a), .val (.ref b), .val (.int (Int32.ofNat o)), .val (.int (Int32.ofNat len)), .val .null, .val (.ref s.heap.size)] [.int (Int32.ofNat len), .ref s.heap.size, .ref a])) := c9.trans (by
      refine XS.astore X8.here hexec rfl (hb hbytes d39) rfl rfl rfl ?_
      refine XS.aloadN X8.here hexec rfl (hb hbytes d41) rfl rfl ?_
      refine XS.aload X8.here hexec rfl (hb hbytes d42) rfl rfl ?_
      refine XS.iloadN X8.here hexec rfl (hb hbytes d44) rfl ?_
      exact Steps.refl _)
    rw [n4]; exact hc
  obtain ⟨v11, T11, X11, E11, g11⟩ := X8.callS hexec (CodL.law l s.heap.size N) hown (wks W (staticW "java/lang/String" 47 CodL.yN)) (wk W CodL.tab) (W := 1) (Nat.le_of_ble_eq_true rfl) (Nat.le_of_ble_eq_true rfl) (Nat.le_refl _) (by show 0 + len + 0 ≤ len; omega) (g := (mkF m 45 #[.val (.ref a), .val (.ref b), .val (.int (Int32.ofNat o)), .val (.int (Int32.ofNat len)), .val .null, .val (.ref s.heap.size)] [.int (Int32.ofNat N.slots.size), .ref s.heap.size, .ref a])) rfl (by rw [hml]; rfl) c10 (argsL := [.ref s.heap.size, .int (Int32.ofNat N.slots.size)]) (rest := [.ref a]) rfl rfl (by show 2 * 0 + (1 + 0) ≤ _; decide) (hb hbytes d45) (⟨rfl, n1⟩)
  obtain ⟨rfl, q11⟩ := E11
  have hB11 := hB1.mv (X8.warmed.alike.symm.trans X11.warmed.alike) q11
  have c12 : Steps p.tables e below (s₁.setTop (entryFrame m #[.ref a, .ref b, .int (Int32.ofNat o), .int (Int32.ofNat len), .null] 6)) (T11.setTop (mkF m 48 #[.val (.ref a), .val (.ref b), .val (.int (Int32.ofNat o)), .val (.int (Int32.ofNat len)), .val .null, .val (.ref s.heap.size)] [.int 0, .ref a])) := g11
  obtain ⟨T13, X13, p13, bl13, sl13, st13⟩ := X11.finit hexec hown (wk W (.fieldLink "java/lang/String" 15 "java/lang/String" "coder" "B")) (Or.inr ⟨_, (wk W (.laysFinal "java/lang/String" "java/lang/String" "coder" "B"))⟩) (Or.inl ⟨rfl, hnm⟩) f2 (Or.inl rfl) hB11 (t := .byte) (by decide +kernel) rfl (g := (mkF m 48 #[.val (.ref a), .val (.ref b), .val (.int (Int32.ofNat o)), .val (.int (Int32.ofNat len)), .val .null, .val (.ref s.heap.size)] [.int 0, .ref a])) rfl (rest := []) rfl (hb hbytes d48)
  have c14 : Steps p.tables e below (s₁.setTop (entryFrame m #[.ref a, .ref b, .int (Int32.ofNat o), .int (Int32.ofNat len), .null] 6)) (T13.setTop (mkF m 54 #[.val (.ref a), .val (.ref b), .val (.int (Int32.ofNat o)), .val (.int (Int32.ofNat len)), .val .null, .val (.ref s.heap.size)] [.ref s.heap.size, .ref a])) := (c12.trans (st13 _ (Steps.refl _))).trans (by
    refine XS.aloadN X13.here hexec rfl (hb hbytes d51) rfl rfl ?_
    refine XS.aload X13.here hexec rfl (hb hbytes d52) rfl rfl ?_
    exact Steps.refl _)
  obtain ⟨T15, X15, p15, bl15, sl15, st15⟩ := X13.finit hexec hown (wk W (.fieldLink "java/lang/String" 9 "java/lang/String" "value" "[B")) (Or.inr ⟨_, (wk W (.laysFinal "java/lang/String" "java/lang/String" "value" "[B"))⟩) (Or.inl ⟨rfl, hnm⟩) f1 (Or.inl rfl) bl13 (t := (.array .byte)) (by decide +kernel) rfl (g := (mkF m 54 #[.val (.ref a), .val (.ref b), .val (.int (Int32.ofNat o)), .val (.int (Int32.ofNat len)), .val .null, .val (.ref s.heap.size)] [.ref s.heap.size, .ref a])) rfl (rest := []) rfl (hb hbytes d54)
  have c16 : Steps p.tables e below (s₁.setTop (entryFrame m #[.ref a, .ref b, .int (Int32.ofNat o), .int (Int32.ofNat len), .null] 6)) (T15.setTop (mkF m 57 #[.val (.ref a), .val (.ref b), .val (.int (Int32.ofNat o)), .val (.int (Int32.ofNat len)), .val .null, .val (.ref s.heap.size)] [])) := c14.trans (st15 _ (Steps.refl _))
  have ap := apart (Or.inr ⟨_, (wk W (.laysFinal "java/lang/String" "java/lang/String" "value" "[B"))⟩) (Or.inr ⟨_, (wk W (.laysFinal "java/lang/String" "java/lang/String" "coder" "B"))⟩) f1 f2 (t₁ := .array .byte) (t₂ := .byte) (by decide +kernel) (by decide +kernel) (by decide)
  have al := X8.warmed.alike.symm.trans X15.warmed.alike
  have n7 : T11.heap[s.heap.size]? = some N := by rw [q11]; exact n1.1
  exact ⟨T15, none, _, _, _, X15, by simp, rfl, by omega, (fun _ => rfl), ⟨rfl, _, N, bl15, ((Same.refl D _).set _ (by simp)).set _ (by simp), sl15, (Cell.slots_setSlot_ne _ ap).trans sl13, n1.keep al (p15.other hne (p13.other hne n7)), n2, by rw [al.findClass]; exact n3, n4, n5, fun y c h1 h2 => p15.other h1 (p13.other h1 (by rw [q11]; exact n6 y c h2)), by rw [p15.2.2, p13.2.2, q11]; exact z8⟩, fun fs hl => c16.trans (X15.returnOut hexec hret (hb hbytes d57) hl)⟩
end New4
namespace New1
def yN : MethodName := ⟨"java/lang/String", "<init>", "([C)V"⟩
abbrev yB : ByteArray := jdk_42_method_3_code
theorem d0 : decode yB 0 = .ok (.aload_n 0, 1) := by decide +kernel
theorem d1 : decode yB 1 = .ok (.aload_n 1, 1) := by decide +kernel
theorem d2 : decode yB 2 = .ok (.iconst 0, 1) := by decide +kernel
theorem d3 : decode yB 3 = .ok (.aload_n 1, 1) := by decide +kernel
theorem d4 : decode yB 4 = .ok (.arraylength, 1) := by decide +kernel
theorem d5 : decode yB 5 = .ok (.aconst_null, 1) := by decide +kernel
theorem d6 : decode yB 6 = .ok (.invokespecial 27, 3) := by decide +kernel
theorem d9 : decode yB 9 = .ok (.return_, 1) := by decide +kernel
def site : List Cond := [New4.tab] ++ initW "java/lang/String" 27 New4.yN
def tab : Cond := tabOf yN yB 2 none site
def P (a : Addr) (D : Cell) (fV fC : Field) (b : Addr) (A : Cell) (z : Int32) (args : Array Value) (s : State) : Prop := args = #[.ref a, .ref b] ∧ Blank "java/lang/String" a D s ∧ Found "java/lang/String" "value" "[B" fV s ∧ Found "java/lang/String" "coder" "B" fC s ∧ Ch b A s ∧ StaticIs s "java/lang/String" "COMPACT_STRINGS" "Z" (.int z) ∧ ¬ z = 0 ∧ 0 < A.slots.size ∧ A.slots.size ≤ 536870912 ∧ ∀ i, i < A.slots.size → ¬ 255 < cv A i
def E (a : Addr) (D : Cell) (fV fC : Field) (A : Cell) (r : Option Value) (s u : State) : Prop := Got a D fV fC A 0 A.slots.size r s u
/-- new String(chars), not empty, no char above 255: a Latin-1 String of their low bytes -/
theorem law (l : Launch) (a : Addr) (D : Cell) (fV fC : Field) (b : Addr) (A : Cell) (z : Int32) : Law l yN 2 1 3 52 yB 2 none site (P a D fV fC b A z) (E a D fV fC A) [⟨a, fC.slot⟩, ⟨a, fV.slot⟩] 1 A.slots.size := by
  refine Law.of_walk (plainFor_of_name (by decide +kernel)) (by decide +kernel) (by decide +kernel) (by decide) (fun _ _ h => by rw [h.1]; rfl) (fun _ U U' hal hh h => ⟨h.1, h.2.1.mv hal hh, h.2.2.1.al hal, h.2.2.2.1.al hal, h.2.2.2.2.1.mv hal hh, h.2.2.2.2.2.1.there hal hh, h.2.2.2.2.2.2⟩) (fun r U U' V V' h1 hal h2 h => Got.mv r U U' V V' h1 hal h2 h) ?_
  intro p e s m args below meth c s₁ X0 hexec hbytes hml hret hlk hnm hown hh0 W hP
  obtain ⟨rfl, hB, f1, f2, hA, s1, hz, l0, l2, hp⟩ := hP
  have c1 : Steps p.tables e below (s₁.setTop (entryFrame m #[.ref a, .ref b] 2)) (s₁.setTop (mkF m 0 #[.val (.ref a), .val (.ref b)] [])) := entry rfl
  have c2 : Steps p.tables e below (s₁.setTop (entryFrame m #[.ref a, .ref b] 2)) (s₁.setTop (mkF m 6 #[.val (.ref a), .val (.ref b)] [.null, .int (Int32.ofNat A.slots.size), .int 0, .ref b, .ref a])) := c1.trans (by
    refine XS.aloadN X0.here hexec rfl (hb hbytes d0) rfl rfl ?_
    refine XS.aloadN X0.here hexec rfl (hb hbytes d1) rfl rfl ?_
    refine iconstV X0.here hexec rfl 0 (hb hbytes d2) (by decide) ?_
    refine XS.aloadN X0.here hexec rfl (hb hbytes d3) rfl rfl ?_
    refine X0.alen hexec (hA.1.mv X0.warmed.alike hh0) rfl rfl (hb hbytes d4) ?_
    refine XS.aconstNull X0.here hexec rfl (hb hbytes d5) ?_
    exact Steps.refl _)
  obtain ⟨v3, T3, X3, E3, g3⟩ := X0.callN hexec (New4.law l a D fV fC b A z 0 A.slots.size) rfl hown (wks W (initW "java/lang/String" 27 New4.yN)) (W New4.tab (by simp only [site, List.mem_cons, List.mem_append, true_or, or_true])) (W := 0) (Nat.le_of_ble_eq_true rfl) (Nat.le_of_ble_eq_true rfl) (Nat.le_refl _) (by show 0 + A.slots.size ≤ A.slots.size; omega) (g := (mkF m 6 #[.val (.ref a), .val (.ref b)] [.null, .int (Int32.ofNat A.slots.size), .int (Int32.ofNat 0), .ref b, .ref a])) rfl (by rw [hml]; rfl) c2 (argsL := [.ref b, .int (Int32.ofNat 0), .int (Int32.ofNat A.slots.size), .null]) (rest := []) rfl rfl (by show 2 * 0 + 0 ≤ _; decide) (hb hbytes d6) (⟨rfl, hB.mv X0.warmed.alike hh0, f1.al X0.warmed.alike, f2.al X0.warmed.alike, hA.mv X0.warmed.alike hh0, s1.there X0.warmed.alike hh0, hz, l0, by omega, l2, fun i hi => by rw [Nat.zero_add]; exact hp i hi⟩)
  have e0 := Got.mv _ s₁ s _ _ hh0.symm (Vm.Alike.refl _) rfl E3
  obtain rfl := e0.1
  have c4 : Steps p.tables e below (s₁.setTop (entryFrame m #[.ref a, .ref b] 2)) (T3.setTop (mkF m 9 #[.val (.ref a), .val (.ref b)] [])) := g3
  exact ⟨T3, none, _, _, _, X3, by simp, rfl, by omega, (fun _ => rfl), e0, fun fs hl => c4.trans (X3.returnOut hexec hret (hb hbytes d9) hl)⟩
theorem pays {l : Launch} {R : Room} {p : Program} {e : Env} {below : List Frame} {s : State} {sargs : Array Value} {len W : Nat} (a : Addr) (D : Cell) (fV fC : Field) (b : Addr) (A : Cell) (z : Int32) (htab : tab.before sargs s = true) (hfr : 4 ≤ R.frames) (hlo : W + 65 ≤ R.locals) :
    Back l R p e below s sargs yN len W (fun A₁ a₁ => A₁.cells + 1 ≤ R.cells ∧ A₁.slots + A.slots.size ≤ R.slots ∧ P a D fV fC b A z a₁ A₁.U) (fun A₁ _ v₁ B₁ => E a D fV fC A v₁ A₁.U B₁.U ∧ B₁.locs = A₁.locs ++ [⟨a, fC.slot⟩, ⟨a, fV.slot⟩] ∧ B₁.cells = A₁.cells + 1 ∧ B₁.slots = A₁.slots + A.slots.size) :=
  (law l a D fV fC b A z).pays htab hfr (by omega)
end New1
end StrChars
namespace StrChars.Road
open Jvm Sem ClassFile Op Lib Jvm.Stand Jvm.Free Jvm.Free.XT
open Jvm.Lib.Cold (StaticIs)
abbrev ST : String := "java/lang/String"
/-- every table word that New1's law asks, flat -/
abbrev words : List Jvm.Cond := [.code New1.yN New1.yB 2 none, .initialized ST, .methodLink ST 27 New4.yN, .instanceMethod New4.yN,
  .code New4.yN New4.yB 6 none, .fieldLink ST 38 ST "COMPACT_STRINGS" "Z", .laysFinal ST ST "value" "[B", .fieldLink ST 9 ST "value" "[B", .laysFinal ST ST "coder" "B", .fieldLink ST 15 ST "coder" "B",
  .methodLink ST 1 Lib.objectInit, .instanceMethod Lib.objectInit, .code Lib.objectInit ⟨#[0xb1]⟩ 1 none, .methodLink ST 177 Cmp3.yN, .static Cmp3.yN, .methodLink ST 47 CodL.yN, .static CodL.yN,
  .code Cmp3.yN Cmp3.yB 6 (some (.array .byte)), .initialized U16, .arrayClass .byte, .methodLink U16 115 Cmp5.yN, .static Cmp5.yN, .code Cmp5.yN Cmp5.yB 7 (some .int), .code CodL.yN CodL.yB 2 (some .byte)]
theorem tab_of {a : Array Value} {s : State} (h : ∀ w ∈ words, w.before a s = true) : New1.tab.before a s = true := by
  have h5 : Cmp5.tab.before a s = true := unparts (wk h (.code Cmp5.yN Cmp5.yB 7 (some .int))) (wks h (.initialized Cmp5.yN.cls :: Cmp5.site))
  have hc : CodL.tab.before a s = true := unparts (wk h (.code CodL.yN CodL.yB 2 (some .byte))) (wks h (.initialized CodL.yN.cls :: CodL.site))
  have q5 : ∀ w ∈ Cmp5.tab :: words, w.before a s = true := fun w hw => (List.mem_cons.mp hw).elim (fun e => e ▸ h5) (h w)
  have h3 : Cmp3.tab.before a s = true := unparts (wk q5 (.code Cmp3.yN Cmp3.yB 6 (some (.array .byte)))) (wks q5 (.initialized Cmp3.yN.cls :: Cmp3.site))
  have q3 : ∀ w ∈ Cmp3.tab :: CodL.tab :: words, w.before a s = true := fun w hw => (List.mem_cons.mp hw).elim (fun e => e ▸ h3) fun hw => (List.mem_cons.mp hw).elim (fun e => e ▸ hc) (h w)
  have h4 : New4.tab.before a s = true := unparts (wk q3 (.code New4.yN New4.yB 6 none)) (wks q3 (.initialized New4.yN.cls :: New4.site))
  have q4 : ∀ w ∈ New4.tab :: words, w.before a s = true := fun w hw => (List.mem_cons.mp hw).elim (fun e => e ▸ h4) (h w)
  exact unparts (wk q4 (.code New1.yN New1.yB 2 none)) (wks q4 (.initialized New1.yN.cls :: New1.site))
/-- the words ride from the start Z to the walk's own state -/
theorem moved {Z s : State} {a0 args : Array Value} (hZ : Z.Warmed39 s.vm) (hw : ∀ d ∈ words, d.before a0 Z = true) : ∀ d ∈ words, d.before args s = true := fun d hd => by
  have q := hw d hd
  have t : ∀ d ∈ words, d = .arrayClass .byte ∨ (d.onTables && d.keepsFace) = true := by decide +kernel
  rcases t d hd with rfl | t
  · exact RoadKit.mvA hZ q
  · exact RoadKit.mv hZ q t
/-- WHAT COMES BACK, over the tables of the start Z: h the heap at the call, h' behind it -/
def Q (Z : State) (x : Addr) (A : Cell) (h : Heap) (v : Option Value) (h' : Heap) (L : List Loc) : Prop := v = none ∧ (∀ y ∈ L, y.base = x) ∧ RoadKit.Keep h h' [x] ∧ h'.size = h.size + 1 ∧ RoadKit.Exa Z h' x ST ∧ RoadKit.Fld Z h' x ST "value" "[B" (.ref h.size) ∧ RoadKit.Fld Z h' x ST "coder" "B" (.int 0) ∧
  (∃ V : Cell, RoadKit.Arr Z h' h.size V .byte ∧ V.vm = .none ∧ Z.vm.findClass "[B" = some V.cls ∧ V.slots.size = A.slots.size ∧ ∀ j, j < A.slots.size → V.slots[j]? = some (.int (lo8 (cv A j)))) ∧
  ∀ (O n d : String) (w : Value), RoadKit.Fld Z h x O n d w → RoadKit.slotOf Z O n d ≠ RoadKit.slotOf Z ST "value" "[B" → RoadKit.slotOf Z O n d ≠ RoadKit.slotOf Z ST "coder" "B" → RoadKit.Fld Z h' x O n d w
/-- **new String(chars) AT A CALL, IN THE ROAD'S FORM**: for specialBack behind newO: x the fresh String, b the char[] with the cell A -/
theorem back {p : Program} {l : Launch} {e : Env} {R : Room} {s : State} {args : Array Value} {below : List Frame} {len W : Nat} {Z : State} {a0 : Array Value} {h : Heap} (hZ : Z.Warmed39 s.vm) (hw : ∀ d ∈ words, d.before a0 Z = true) {kI : Nat} (wi : (Jvm.Cond.instantiable ST kI).before a0 Z = true)
    {x b : Addr} {A : Cell} {z : Int32} {v0 c0 : Value} (E : RoadKit.Exa Z h x ST) (V : RoadKit.Fld Z h x ST "value" "[B" v0) (C : RoadKit.Fld Z h x ST "coder" "B" c0) (K : RoadKit.Arr Z h b A .char) (hty : Typed .char A) (S : RoadKit.Sta Z h ST "COMPACT_STRINGS" "Z" (.int z)) (hz : ¬ z = 0)
    (l0 : 0 < A.slots.size) (l2 : A.slots.size ≤ 536870912) (hp : ∀ i, i < A.slots.size → ¬ 255 < cv A i) (hfr : 4 ≤ R.frames) (hlo : W + 65 ≤ R.locals) :
    Back l R p e below s args New1.yN len W (fun P a => a = #[.ref x, .ref b] ∧ P.U.heap = h ∧ P.cells + 1 ≤ R.cells ∧ P.slots + A.slots.size ≤ R.slots)
      (fun P _ v B => ∃ L, Q Z x A h v B.U.heap L ∧ B.locs = P.locs ++ L ∧ B.cells = P.cells + 1 ∧ B.slots = P.slots + A.slots.size) := by
  intro m meth c P g ig mk a X hg hsize hdg hW hn hp'
  obtain ⟨rfl, rfl, r1, r2⟩ := hp'
  have al : Z.vm.Alike P.U.vm := hZ.alike.trans X.warmed.alike
  obtain ⟨D, cfV, kV, iV, fV, hD, gV, stV, knV, obV, asV, slV⟩ := id V
  obtain ⟨D', cfC, kC, iC, fC, hD', gC, stC, -, -, asC, slC⟩ := id C
  cases hD.symm.trans hD'
  obtain ⟨D2, kD, e1, e2, e3, e4, e5⟩ := id E
  cases hD.symm.trans e1
  obtain ⟨c2, k2, i1, i2, i3, -⟩ := Cond.instantiable_spec wi
  cases e2.symm.trans i1
  cases e3.symm.trans i2
  obtain ⟨kU, u1, u2⟩ := al.2.2 _ _ e3
  have hB : Blank ST x D P.U := ⟨hD, ⟨knV, fun q hq => by rw [hq] at obV; cases obV⟩, by rw [al.findClass]; exact e2, kU, u1, by rw [u2]; exact i3, by rw [u2]; exact e5 i3⟩
  have F1 : Found ST "value" "[B" fV P.U := ⟨SBG.found_only al ⟨cfV, kV, iV, gV⟩, stV⟩
  have F2 : Found ST "coder" "B" fC P.U := ⟨SBG.found_only al ⟨cfC, kC, iC, gC⟩, stC⟩
  have hA : Ch b A P.U := ⟨⟨K.1, State.isArrayOf_alike al K.2.1, K.2.2, by omega⟩, hty⟩
  have hS : StaticIs P.U ST "COMPACT_STRINGS" "Z" (.int z) := by
    obtain ⟨cfS, iS, kS, fS, st, cS, t1, t2, t3, t4, t5, t6, t7⟩ := S
    exact StaticIs.there (s := { Z with heap := P.U.heap }) ⟨cfS, iS, kS, fS, st, cS, t1, t2, t3, t4, t5, (fun q => by rw [q] at t6; cases t6), t7⟩ al rfl
  obtain ⟨v, B, X', ⟨⟨hv, E', V', q1, q2, q3, q4, q5, q6, q7, q8, q9, q10, q11⟩, hl, hc, hs⟩, st⟩ := New1.pays x D fV fC b A z (tab_of (moved hZ hw)) hfr hlo m meth c P g ig mk _ X hg hsize hdg hW hn ⟨r1, r2, rfl, hB, F1, F2, hA, hS, hz, l0, l2, hp⟩
  have al' : Z.vm.Alike B.U.vm := hZ.alike.trans X'.warmed.alike
  have hsz : E'.slots.size = D.slots.size := by
    obtain ⟨-, -, -, kB, w1, w2, w3⟩ := q1
    obtain ⟨kB', y1, y2⟩ := al'.2.2 _ _ e3
    rw [q2.2.1] at w1
    cases w1.symm.trans y1
    rw [w3, e5 i3, y2]
  refine ⟨v, B, X', ⟨_, ⟨hv, ?_, ⟨by omega, fun y cy hy hn' => q10 y cy (by simpa using hn') hy, fun y cy hy => ?_⟩, q11, ⟨E', _, q1.1, by rw [q2.2.1]; exact e2, by rw [q2.2.1]; exact e3, by rw [q2.1]; exact obV, fun _ => by rw [hsz]; exact e5 i3⟩,
    ⟨E', cfV, kV, iV, fV, q1.1, gV, stV, by rw [q2.1]; exact knV, by rw [q2.1]; exact obV, by rw [q2.2.1]; exact asV, q3⟩, ⟨E', cfC, kC, iC, fC, q1.1, gC, stC, by rw [q2.1]; exact knV, by rw [q2.1]; exact obV, by rw [q2.2.1]; exact asC, q4⟩,
    ⟨V', ⟨q5.1, State.isArrayOf_alike al'.symm q5.2.1, q5.2.2.1⟩, q6, by rw [← al'.findClass]; exact q7, q8, fun j hj => by have := q9 j hj; rwa [Nat.zero_add] at this⟩, fun O n d w F n1 n2 => ?_⟩, hl, hc, hs⟩, st⟩
  · intro y hy
    simp only [List.mem_cons, List.not_mem_nil, or_false] at hy
    rcases hy with rfl | rfl <;> rfl
  · by_cases q : y = x
    · subst q
      cases hD.symm.trans hy
      exact ⟨E', q1.1, q2.2.1, q2.1, hsz⟩
    · exact ⟨cy, q10 y cy q hy, rfl, rfl, rfl⟩
  · obtain ⟨D3, cf, k, i, f, g1, g2, g3, g4, g5, g6, g7⟩ := F
    cases hD.symm.trans g1
    simp only [RoadKit.slotOf, g2, gV, gC, Option.map_some, Option.getD_some] at n1 n2
    exact ⟨E', cf, k, i, f, q1.1, g2, g3, by rw [q2.1]; exact g4, by rw [q2.1]; exact g5, by rw [q2.2.1]; exact g6, by rw [q2.2.2 f.slot (by simp [n1, n2])]; exact g7⟩
end StrChars.Road
namespace StrChars.Road
open Jvm Sem ClassFile Op Lib Jvm.Stand Jvm.Free Jvm.Free.XT
/-- WHAT COMES BACK, the byte[] as a list of values -/
def QA (Z : State) (x : Addr) (zn : Int32) (cs : List Int32) (h : Heap) (v : Option Value) (h' : Heap) (L : List Loc) : Prop := v = none ∧ (∀ y ∈ L, y.base = x) ∧ RoadKit.Keep h h' [x] ∧ h'.size = h.size + 1 ∧ RoadKit.Exa Z h' x ST ∧ RoadKit.Fld Z h' x ST "value" "[B" (.ref h.size) ∧ RoadKit.Fld Z h' x ST "coder" "B" (.int 0) ∧
  (∃ kb, Z.vm.findClass "[B" = some kb ∧ RoadKit.Arv Z h' h.size kb .byte zn (cs.map fun c => .int (lo8 c)) (.int 0)) ∧
  ∀ (O n d : String) (w : Value), RoadKit.Fld Z h x O n d w → RoadKit.slotOf Z O n d ≠ RoadKit.slotOf Z ST "value" "[B" → RoadKit.slotOf Z O n d ≠ RoadKit.slotOf Z ST "coder" "B" → RoadKit.Fld Z h' x O n d w
/-- **new String(chars) AT A CALL, THE ARRAYS AS LISTS**: the char[] at b holds cs, not empty, no char above 255 -/
theorem backArv {p : Program} {l : Launch} {e : Env} {R : Room} {s : State} {args : Array Value} {below : List Frame} {len W : Nat} {Z : State} {a0 : Array Value} {h : Heap} (hZ : Z.Warmed39 s.vm) (hw : ∀ d ∈ words, d.before a0 Z = true) {kI : Nat} (wi : (Jvm.Cond.instantiable ST kI).before a0 Z = true)
    {x b : Addr} {k : ClassId} {zn z : Int32} {cs : List Int32} {dv v0 c0 : Value} (E : RoadKit.Exa Z h x ST) (V : RoadKit.Fld Z h x ST "value" "[B" v0) (C : RoadKit.Fld Z h x ST "coder" "B" c0) (K : RoadKit.Arv Z h b k .char zn (cs.map Value.int) dv) (S : RoadKit.Sta Z h ST "COMPACT_STRINGS" "Z" (.int z)) (hz : ¬ z = 0)
    (hlen : zn.toNatClampNeg = cs.length) (h0 : 0 < cs.length) (hbig : cs.length ≤ 536870912) (hall : ∀ c ∈ cs, ¬ 255 < c) (hfr : 4 ≤ R.frames) (hlo : W + 65 ≤ R.locals) :
    Back l R p e below s args New1.yN len W (fun P a => a = #[.ref x, .ref b] ∧ P.U.heap = h ∧ P.cells + 1 ≤ R.cells ∧ P.slots + cs.length ≤ R.slots)
      (fun P _ v B => ∃ L, QA Z x zn cs h v B.U.heap L ∧ B.locs = P.locs ++ L ∧ B.cells = P.cells + 1 ∧ B.slots = P.slots + cs.length) := by
  obtain ⟨A, K1, K2, K3, K4, K5, K6⟩ := K
  have e : A.slots.size = cs.length := K3.trans hlen
  have hat : ∀ (i : Nat) (hi : i < cs.length), A.slots[i]? = some (.int cs[i]) := fun i hi => by rw [K5 i (by omega)]; simp [List.getD_eq_getElem?_getD, hi]
  have hcv : ∀ (i : Nat) (hi : i < cs.length), cv A i = cs[i] := fun i hi => by unfold cv; rw [hat i hi]
  have hty : Typed .char A := fun i v hv => by
    have hi : i < A.slots.size := (Array.getElem?_eq_some_iff.mp hv).1
    have q := K5 i hi
    rw [hv] at q
    rw [Option.some.inj q]
    exact K6 i hi
  refine Back.mono (back hZ hw wi E V C K1 hty S hz (by omega) (by omega) (fun i hi => by rw [hcv i (by omega)]; exact hall _ (List.getElem_mem _)) hfr hlo) (fun P a hp => ⟨hp.1, hp.2.1, hp.2.2.1, by rw [e]; exact hp.2.2.2⟩) (fun P a v B hp hq => ?_)
  obtain ⟨L, ⟨q1, q2, q3, q4, q5, q6, q7, ⟨V', v1, v2, v3, v4, v5⟩, q9⟩, hl, hc, hs⟩ := hq
  refine ⟨L, ⟨q1, q2, q3, q4, q5, q6, q7, ⟨V'.cls, v3, V', v1, rfl, by rw [v4, e, hlen], K4, fun i hi => ?_, fun i hi => ?_⟩, q9⟩, hl, hc, by rw [hs, e]⟩
  · have hi' : i < cs.length := by omega
    rw [v5 i (by omega), hcv i hi']; simp [List.getD_eq_getElem?_getD, hi']
  · have hi' : i < cs.length := by omega
    simp only [List.getD_eq_getElem?_getD, List.getElem?_map, List.getElem?_eq_getElem hi', Option.map_some, Option.getD_some]
    exact fits_lo8 _
end StrChars.Road
namespace StrChars.Road
open Jvm Sem ClassFile Op Lib Jvm.Stand Jvm.Free Jvm.Free.XT
/-- WHAT COMES BACK, in the writer's own shape -/
def QV (Z : State) (x : Addr) (N : Int32) (bs : List Int32) (h : Heap) (n0 : Nat) (v : Option Value) (h' : Heap) (L : List Loc) : Prop := v = none ∧ RoadKit.Fr n0 L ∧ RoadKit.Keep h h' [x] ∧ RoadKit.Exa Z h' x ST ∧ RoadKit.Fld Z h' x ST "coder" "B" (.int 0) ∧
  ∃ (t : Addr) (kb : ClassId), n0 ≤ t ∧ h.size ≤ t ∧ ¬ t = x ∧ RoadKit.Fld Z h' x ST "value" "[B" (.ref t) ∧ RoadKit.Arv Z h' t kb .byte N (bs.map Value.int) (.int 0)
/-- **new String(chars) AT A CALL, FOR THE WRITER**: a char[] of n known ints, each 0 to 255 -/
theorem backV {p : Program} {l : Launch} {e : Env} {R : Room} {s : State} {args : Array Value} {below : List Frame} {len W : Nat} {Z : State} {a0 : Array Value} {h : Heap} (hZ : Z.Warmed39 s.vm) (hw : ∀ d ∈ words, d.before a0 Z = true) {kI : Nat} (wi : (Jvm.Cond.instantiable ST kI).before a0 Z = true)
    {x b : Addr} {kC : ClassId} {cs bs : List Int32} {d v0 c0 : Value} {z N : Int32} {n n0 : Nat} (hx0 : n0 ≤ x) (hh0 : n0 ≤ h.size) (E : RoadKit.Exa Z h x ST) (V : RoadKit.Fld Z h x ST "value" "[B" v0) (C : RoadKit.Fld Z h x ST "coder" "B" c0) (K : RoadKit.Arv Z h b kC .char N (cs.map Value.int) d) (S : RoadKit.Sta Z h ST "COMPACT_STRINGS" "Z" (.int z)) (hz : ¬ z = 0)
    (hn : cs.length = n) (hN : N = Int32.ofNat n) (l0 : 0 < n) (l2 : n ≤ 4000) (hp : ∀ c ∈ cs, ¬ c < 0 ∧ ¬ (255 : Int32) < c) (hb : bs = cs.map (fun c => c.toInt8.toInt32)) (hfr : 4 ≤ R.frames) (hlo : W + 65 ≤ R.locals) :
    Back l R p e below s args (⟨"java/lang/String", "<init>", "([C)V"⟩ : MethodName) len W (fun P a => a = #[.ref x, .ref b] ∧ P.U.heap = h ∧ P.cells + 1 ≤ R.cells ∧ P.slots + n ≤ R.slots)
      (fun P _ v B => ∃ L, QV Z x N bs h n0 v B.U.heap L ∧ B.locs = P.locs ++ L ∧ B.cells = P.cells + 1 ∧ B.slots = P.slots + n) := by
  subst hn hN hb
  refine Back.mono (backArv hZ hw wi E V C K S hz (n32 (by omega)) l0 (by omega) (fun c hc => (hp c hc).2) hfr hlo) (fun P a hp => hp) (fun P a v B hp hq => ?_)
  obtain ⟨L, ⟨q1, q2, q3, q4, q5, q6, q7, ⟨kb, v1, v2⟩, q9⟩, hl, hc, hs⟩ := hq
  exact ⟨L, ⟨q1, fun y hy => by rw [q2 y hy]; exact hx0, q3, q5, q7, h.size, kb, hh0, Nat.le_refl _, Nat.ne_of_gt E.lt, q6, by rw [List.map_map]; exact v2⟩, hl, hc, hs⟩
end StrChars.Road
namespace StrChars
open Jvm Sem ClassFile Op Lib Jvm.Stand Jvm.Free.XT Jvm.Free.ALB Jvm.Free.JM Jvm.Free
open Jvm.Lib.Cold (StaticIs)
def hi8 (x : Int32) : Int32 := lo8 (x >>> ((8 : Int32) &&& 31))
end StrChars
namespace StrChars.Road
open Jvm Sem ClassFile Op Lib Jvm.Stand Jvm.Free Jvm.Free.XT
open Jvm.Lib.Cold (StaticIs)
/-- the bytes of the chars cs, low before high -/
def wideBytes : List Int32 → List Value
  | [] => []
  | c :: cs => .int (lo8 c) :: .int (hi8 c) :: wideBytes cs
/-- an array of N2 bytes vs codes the chars cs by the coder cd -/
def CodA (cs : List Int32) (cd N2 : Int32) (vs : List Value) : Prop := (cd = 0 ∧ N2 = Int32.ofNat cs.length ∧ vs = (cs.map fun c => Value.int (lo8 c)) ∧ ∀ c ∈ cs, ¬ 255 < c) ∨ (cd = 1 ∧ N2 = Int32.ofNat (2 * cs.length) ∧ vs = wideBytes cs ∧ ∃ c ∈ cs, 255 < c)
end StrChars.Road
namespace StrChars.Road
open Jvm Sem ClassFile Op Lib Jvm.Stand Jvm.Free Jvm.Free.XT
open Jvm.Lib.Cold (StaticIs)
/-- what backV says of its String, as the contracts of this text ask it: cs's low bytes, coder 0 -/
theorem codOf {cs : List Int32} {n : Nat} (hn : cs.length = n) (hb : ∀ c ∈ cs, ¬ 255 < c) : CodA cs 0 (Int32.ofNat n) ((cs.map lo8).map Value.int) := Or.inl ⟨rfl, by rw [hn], by simp [List.map_map, Function.comp_def], hb⟩
end StrChars.Road
end Jvm.Pilot.@@N@@

namespace Jvm.Pilot.@@N@@
open Jvm Jvm.ClassFile Sem Op Lib Jvm.Free Jvm.Stand Jvm.LawKit Jvm.RoadKit Bundle Jvm.Pilot.@@N@@.Jvm.D
theorem d1_0 : decode prog_51_method_1_code 0 = .ok (.aload_n 0, 1) := by decide +kernel
theorem d1_1 : decode prog_51_method_1_code 1 = .ok (.invokespecial 1, 3) := by decide +kernel
theorem d1_4 : decode prog_51_method_1_code 4 = .ok (.aload_n 0, 1) := by decide +kernel
theorem d1_5 : decode prog_51_method_1_code 5 = .ok (.new 7, 3) := by decide +kernel
theorem d1_8 : decode prog_51_method_1_code 8 = .ok (.dup, 1) := by decide +kernel
theorem d1_9 : decode prog_51_method_1_code 9 = .ok (.invokespecial 9, 3) := by decide +kernel
theorem d1_12 : decode prog_51_method_1_code 12 = .ok (.putfield 10, 3) := by decide +kernel
theorem d1_15 : decode prog_51_method_1_code 15 = .ok (.return_, 1) := by decide +kernel
theorem d3_0 : decode jdk_67_method_1_code 0 = .ok (.aload_n 0, 1) := by decide +kernel
theorem d3_1 : decode jdk_67_method_1_code 1 = .ok (.bipush 16, 2) := by decide +kernel
theorem d3_3 : decode jdk_67_method_1_code 3 = .ok (.invokespecial 1, 3) := by decide +kernel
theorem d3_6 : decode jdk_67_method_1_code 6 = .ok (.return_, 1) := by decide +kernel
theorem d4_0 : decode jdk_68_method_2_code 0 = .ok (.aload_n 0, 1) := by decide +kernel
theorem d4_1 : decode jdk_68_method_2_code 1 = .ok (.invokespecial 3, 3) := by decide +kernel
theorem d4_4 : decode jdk_68_method_2_code 4 = .ok (.getstatic 18, 3) := by decide +kernel
theorem d4_7 : decode jdk_68_method_2_code 7 = .ok (.ifCond .eq 18, 3) := by decide +kernel
theorem d4_10 : decode jdk_68_method_2_code 10 = .ok (.aload_n 0, 1) := by decide +kernel
theorem d4_11 : decode jdk_68_method_2_code 11 = .ok (.iload_n 1, 1) := by decide +kernel
theorem d4_12 : decode jdk_68_method_2_code 12 = .ok (.newarray .byte, 2) := by decide +kernel
theorem d4_14 : decode jdk_68_method_2_code 14 = .ok (.putfield 15, 3) := by decide +kernel
theorem d4_17 : decode jdk_68_method_2_code 17 = .ok (.aload_n 0, 1) := by decide +kernel
theorem d4_18 : decode jdk_68_method_2_code 18 = .ok (.iconst 0, 1) := by decide +kernel
theorem d4_19 : decode jdk_68_method_2_code 19 = .ok (.putfield 22, 3) := by decide +kernel
theorem d4_22 : decode jdk_68_method_2_code 22 = .ok (.goto 16, 3) := by decide +kernel
theorem d4_38 : decode jdk_68_method_2_code 38 = .ok (.return_, 1) := by decide +kernel
theorem d5_0 : decode prog_51_method_5_code 0 = .ok (.aload_n 0, 1) := by decide +kernel
theorem d5_1 : decode prog_51_method_5_code 1 = .ok (.dup, 1) := by decide +kernel
theorem d5_2 : decode prog_51_method_5_code 2 = .ok (.getfield 24, 3) := by decide +kernel
theorem d5_5 : decode prog_51_method_5_code 5 = .ok (.iconst 1, 1) := by decide +kernel
theorem d5_6 : decode prog_51_method_5_code 6 = .ok (.iadd, 1) := by decide +kernel
theorem d5_7 : decode prog_51_method_5_code 7 = .ok (.putfield 24, 3) := by decide +kernel
theorem d5_10 : decode prog_51_method_5_code 10 = .ok (.aload_n 0, 1) := by decide +kernel
theorem d5_11 : decode prog_51_method_5_code 11 = .ok (.areturn, 1) := by decide +kernel
theorem d6_0 : decode prog_51_method_6_code 0 = .ok (.aload_n 0, 1) := by decide +kernel
theorem d6_1 : decode prog_51_method_6_code 1 = .ok (.dup, 1) := by decide +kernel
theorem d6_2 : decode prog_51_method_6_code 2 = .ok (.getfield 24, 3) := by decide +kernel
theorem d6_5 : decode prog_51_method_6_code 5 = .ok (.iconst 1, 1) := by decide +kernel
theorem d6_6 : decode prog_51_method_6_code 6 = .ok (.isub, 1) := by decide +kernel
theorem d6_7 : decode prog_51_method_6_code 7 = .ok (.putfield 24, 3) := by decide +kernel
theorem d6_10 : decode prog_51_method_6_code 10 = .ok (.aload_n 0, 1) := by decide +kernel
theorem d6_11 : decode prog_51_method_6_code 11 = .ok (.areturn, 1) := by decide +kernel
theorem d12_0 : decode prog_51_method_2_code 0 = .ok (.aload_n 1, 1) := by decide +kernel
theorem d12_1 : decode prog_51_method_2_code 1 = .ok (.invokevirtual 16, 3) := by decide +kernel
theorem d12_4 : decode prog_51_method_2_code 4 = .ok (.ifCond .ne 24, 3) := by decide +kernel
theorem d12_7 : decode prog_51_method_2_code 7 = .ok (.aload_n 0, 1) := by decide +kernel
theorem d12_8 : decode prog_51_method_2_code 8 = .ok (.getfield 10, 3) := by decide +kernel
theorem d12_11 : decode prog_51_method_2_code 11 = .ok (.ldc 22, 2) := by decide +kernel
theorem d12_13 : decode prog_51_method_2_code 13 = .ok (.aload_n 0, 1) := by decide +kernel
theorem d12_14 : decode prog_51_method_2_code 14 = .ok (.getfield 24, 3) := by decide +kernel
theorem d12_17 : decode prog_51_method_2_code 17 = .ok (.invokevirtual 28, 3) := by decide +kernel
theorem d12_20 : decode prog_51_method_2_code 20 = .ok (.invokevirtual 32, 3) := by decide +kernel
theorem d12_23 : decode prog_51_method_2_code 23 = .ok (.aload_n 1, 1) := by decide +kernel
theorem d12_24 : decode prog_51_method_2_code 24 = .ok (.invokevirtual 32, 3) := by decide +kernel
theorem d12_27 : decode prog_51_method_2_code 27 = .ok (.pop, 1) := by decide +kernel
theorem d12_28 : decode prog_51_method_2_code 28 = .ok (.aload_n 0, 1) := by decide +kernel
theorem d12_29 : decode prog_51_method_2_code 29 = .ok (.getfield 10, 3) := by decide +kernel
theorem d12_32 : decode prog_51_method_2_code 32 = .ok (.bipush 10, 2) := by decide +kernel
theorem d12_34 : decode prog_51_method_2_code 34 = .ok (.invokevirtual 36, 3) := by decide +kernel
theorem d12_37 : decode prog_51_method_2_code 37 = .ok (.pop, 1) := by decide +kernel
theorem d12_38 : decode prog_51_method_2_code 38 = .ok (.aload_n 0, 1) := by decide +kernel
theorem d12_39 : decode prog_51_method_2_code 39 = .ok (.areturn, 1) := by decide +kernel
theorem d13_0 : decode jdk_42_method_55_code 0 = .ok (.aload_n 0, 1) := by decide +kernel
theorem d13_1 : decode jdk_42_method_55_code 1 = .ok (.getfield 9, 3) := by decide +kernel
theorem d13_4 : decode jdk_42_method_55_code 4 = .ok (.arraylength, 1) := by decide +kernel
theorem d13_5 : decode jdk_42_method_55_code 5 = .ok (.ifCond .ne 7, 3) := by decide +kernel
theorem d13_8 : decode jdk_42_method_55_code 8 = .ok (.iconst 1, 1) := by decide +kernel
theorem d13_9 : decode jdk_42_method_55_code 9 = .ok (.goto 4, 3) := by decide +kernel
theorem d13_12 : decode jdk_42_method_55_code 12 = .ok (.iconst 0, 1) := by decide +kernel
theorem d13_13 : decode jdk_42_method_55_code 13 = .ok (.ireturn, 1) := by decide +kernel
theorem d14_0 : decode jdk_42_method_145_code 0 = .ok (.iload_n 1, 1) := by decide +kernel
theorem d14_1 : decode jdk_42_method_145_code 1 = .ok (.ifCond .ge 31, 3) := by decide +kernel
theorem d14_32 : decode jdk_42_method_145_code 32 = .ok (.iload_n 1, 1) := by decide +kernel
theorem d14_33 : decode jdk_42_method_145_code 33 = .ok (.iconst 1, 1) := by decide +kernel
theorem d14_34 : decode jdk_42_method_145_code 34 = .ok (.if_icmp .ne 5, 3) := by decide +kernel
theorem d14_37 : decode jdk_42_method_145_code 37 = .ok (.aload_n 0, 1) := by decide +kernel
theorem d14_38 : decode jdk_42_method_145_code 38 = .ok (.areturn, 1) := by decide +kernel
theorem d14_39 : decode jdk_42_method_145_code 39 = .ok (.aload_n 0, 1) := by decide +kernel
theorem d14_40 : decode jdk_42_method_145_code 40 = .ok (.getfield 9, 3) := by decide +kernel
theorem d14_43 : decode jdk_42_method_145_code 43 = .ok (.arraylength, 1) := by decide +kernel
theorem d14_44 : decode jdk_42_method_145_code 44 = .ok (.istore_n 2, 1) := by decide +kernel
theorem d14_45 : decode jdk_42_method_145_code 45 = .ok (.iload_n 2, 1) := by decide +kernel
theorem d14_46 : decode jdk_42_method_145_code 46 = .ok (.ifCond .eq 7, 3) := by decide +kernel
theorem d14_49 : decode jdk_42_method_145_code 49 = .ok (.iload_n 1, 1) := by decide +kernel
theorem d14_50 : decode jdk_42_method_145_code 50 = .ok (.ifCond .ne 6, 3) := by decide +kernel
theorem d14_53 : decode jdk_42_method_145_code 53 = .ok (.ldc 7, 2) := by decide +kernel
theorem d14_55 : decode jdk_42_method_145_code 55 = .ok (.areturn, 1) := by decide +kernel
theorem d14_56 : decode jdk_42_method_145_code 56 = .ok (.ldc_w 943, 3) := by decide +kernel
theorem d14_59 : decode jdk_42_method_145_code 59 = .ok (.iload_n 1, 1) := by decide +kernel
theorem d14_60 : decode jdk_42_method_145_code 60 = .ok (.idiv, 1) := by decide +kernel
theorem d14_61 : decode jdk_42_method_145_code 61 = .ok (.iload_n 2, 1) := by decide +kernel
theorem d14_62 : decode jdk_42_method_145_code 62 = .ok (.if_icmp .ge 14, 3) := by decide +kernel
theorem d14_76 : decode jdk_42_method_145_code 76 = .ok (.iload_n 2, 1) := by decide +kernel
theorem d14_77 : decode jdk_42_method_145_code 77 = .ok (.iconst 1, 1) := by decide +kernel
theorem d14_78 : decode jdk_42_method_145_code 78 = .ok (.if_icmp .ne 30, 3) := by decide +kernel
theorem d14_108 : decode jdk_42_method_145_code 108 = .ok (.iload_n 2, 1) := by decide +kernel
theorem d14_109 : decode jdk_42_method_145_code 109 = .ok (.iload_n 1, 1) := by decide +kernel
theorem d14_110 : decode jdk_42_method_145_code 110 = .ok (.imul, 1) := by decide +kernel
theorem d14_111 : decode jdk_42_method_145_code 111 = .ok (.istore_n 3, 1) := by decide +kernel
theorem d14_112 : decode jdk_42_method_145_code 112 = .ok (.iload_n 3, 1) := by decide +kernel
theorem d14_113 : decode jdk_42_method_145_code 113 = .ok (.newarray .byte, 2) := by decide +kernel
theorem d14_115 : decode jdk_42_method_145_code 115 = .ok (.astore 4, 2) := by decide +kernel
theorem d14_117 : decode jdk_42_method_145_code 117 = .ok (.aload_n 0, 1) := by decide +kernel
theorem d14_118 : decode jdk_42_method_145_code 118 = .ok (.getfield 9, 3) := by decide +kernel
theorem d14_121 : decode jdk_42_method_145_code 121 = .ok (.iconst 0, 1) := by decide +kernel
theorem d14_122 : decode jdk_42_method_145_code 122 = .ok (.aload 4, 2) := by decide +kernel
theorem d14_124 : decode jdk_42_method_145_code 124 = .ok (.iconst 0, 1) := by decide +kernel
theorem d14_125 : decode jdk_42_method_145_code 125 = .ok (.iload_n 2, 1) := by decide +kernel
theorem d14_126 : decode jdk_42_method_145_code 126 = .ok (.invokestatic 212, 3) := by decide +kernel
theorem d14_129 : decode jdk_42_method_145_code 129 = .ok (.aload 4, 2) := by decide +kernel
theorem d14_131 : decode jdk_42_method_145_code 131 = .ok (.iconst 0, 1) := by decide +kernel
theorem d14_132 : decode jdk_42_method_145_code 132 = .ok (.iload_n 3, 1) := by decide +kernel
theorem d14_133 : decode jdk_42_method_145_code 133 = .ok (.iload_n 2, 1) := by decide +kernel
theorem d14_134 : decode jdk_42_method_145_code 134 = .ok (.invokestatic 1044, 3) := by decide +kernel
theorem d14_137 : decode jdk_42_method_145_code 137 = .ok (.new 10, 3) := by decide +kernel
theorem d14_140 : decode jdk_42_method_145_code 140 = .ok (.dup, 1) := by decide +kernel
theorem d14_141 : decode jdk_42_method_145_code 141 = .ok (.aload 4, 2) := by decide +kernel
theorem d14_143 : decode jdk_42_method_145_code 143 = .ok (.aload_n 0, 1) := by decide +kernel
theorem d14_144 : decode jdk_42_method_145_code 144 = .ok (.getfield 15, 3) := by decide +kernel
theorem d14_147 : decode jdk_42_method_145_code 147 = .ok (.invokespecial 209, 3) := by decide +kernel
theorem d14_150 : decode jdk_42_method_145_code 150 = .ok (.areturn, 1) := by decide +kernel
theorem d15_0 : decode jdk_67_method_7_code 0 = .ok (.aload_n 0, 1) := by decide +kernel
theorem d15_1 : decode jdk_67_method_7_code 1 = .ok (.aload_n 1, 1) := by decide +kernel
theorem d15_2 : decode jdk_67_method_7_code 2 = .ok (.invokespecial 29, 3) := by decide +kernel
theorem d15_5 : decode jdk_67_method_7_code 5 = .ok (.pop, 1) := by decide +kernel
theorem d15_6 : decode jdk_67_method_7_code 6 = .ok (.aload_n 0, 1) := by decide +kernel
theorem d15_7 : decode jdk_67_method_7_code 7 = .ok (.areturn, 1) := by decide +kernel
theorem d16_0 : decode jdk_68_method_22_code 0 = .ok (.aload_n 1, 1) := by decide +kernel
theorem d16_1 : decode jdk_68_method_22_code 1 = .ok (.ifnonnull 8, 3) := by decide +kernel
theorem d16_9 : decode jdk_68_method_22_code 9 = .ok (.aload_n 1, 1) := by decide +kernel
theorem d16_10 : decode jdk_68_method_22_code 10 = .ok (.invokevirtual 32, 3) := by decide +kernel
theorem d16_13 : decode jdk_68_method_22_code 13 = .ok (.istore_n 2, 1) := by decide +kernel
theorem d16_14 : decode jdk_68_method_22_code 14 = .ok (.aload_n 0, 1) := by decide +kernel
theorem d16_15 : decode jdk_68_method_22_code 15 = .ok (.aload_n 0, 1) := by decide +kernel
theorem d16_16 : decode jdk_68_method_22_code 16 = .ok (.getfield 79, 3) := by decide +kernel
theorem d16_19 : decode jdk_68_method_22_code 19 = .ok (.iload_n 2, 1) := by decide +kernel
theorem d16_20 : decode jdk_68_method_22_code 20 = .ok (.iadd, 1) := by decide +kernel
theorem d16_21 : decode jdk_68_method_22_code 21 = .ok (.invokevirtual 100, 3) := by decide +kernel
theorem d16_24 : decode jdk_68_method_22_code 24 = .ok (.aload_n 0, 1) := by decide +kernel
theorem d16_25 : decode jdk_68_method_22_code 25 = .ok (.aload_n 0, 1) := by decide +kernel
theorem d16_26 : decode jdk_68_method_22_code 26 = .ok (.getfield 79, 3) := by decide +kernel
theorem d16_29 : decode jdk_68_method_22_code 29 = .ok (.aload_n 1, 1) := by decide +kernel
theorem d16_30 : decode jdk_68_method_22_code 30 = .ok (.invokevirtual 208, 3) := by decide +kernel
theorem d16_33 : decode jdk_68_method_22_code 33 = .ok (.aload_n 0, 1) := by decide +kernel
theorem d16_34 : decode jdk_68_method_22_code 34 = .ok (.dup, 1) := by decide +kernel
theorem d16_35 : decode jdk_68_method_22_code 35 = .ok (.getfield 79, 3) := by decide +kernel
theorem d16_38 : decode jdk_68_method_22_code 38 = .ok (.iload_n 2, 1) := by decide +kernel
theorem d16_39 : decode jdk_68_method_22_code 39 = .ok (.iadd, 1) := by decide +kernel
theorem d16_40 : decode jdk_68_method_22_code 40 = .ok (.putfield 79, 3) := by decide +kernel
theorem d16_43 : decode jdk_68_method_22_code 43 = .ok (.aload_n 0, 1) := by decide +kernel
theorem d16_44 : decode jdk_68_method_22_code 44 = .ok (.areturn, 1) := by decide +kernel
theorem d17_0 : decode jdk_42_method_54_code 0 = .ok (.aload_n 0, 1) := by decide +kernel
theorem d17_1 : decode jdk_42_method_54_code 1 = .ok (.getfield 9, 3) := by decide +kernel
theorem d17_4 : decode jdk_42_method_54_code 4 = .ok (.arraylength, 1) := by decide +kernel
theorem d17_5 : decode jdk_42_method_54_code 5 = .ok (.aload_n 0, 1) := by decide +kernel
theorem d17_6 : decode jdk_42_method_54_code 6 = .ok (.invokevirtual 335, 3) := by decide +kernel
theorem d17_9 : decode jdk_42_method_54_code 9 = .ok (.ishr, 1) := by decide +kernel
theorem d17_10 : decode jdk_42_method_54_code 10 = .ok (.ireturn, 1) := by decide +kernel
theorem d18_0 : decode jdk_42_method_152_code 0 = .ok (.getstatic 38, 3) := by decide +kernel
theorem d18_3 : decode jdk_42_method_152_code 3 = .ok (.ifCond .eq 10, 3) := by decide +kernel
theorem d18_6 : decode jdk_42_method_152_code 6 = .ok (.aload_n 0, 1) := by decide +kernel
theorem d18_7 : decode jdk_42_method_152_code 7 = .ok (.getfield 15, 3) := by decide +kernel
theorem d18_10 : decode jdk_42_method_152_code 10 = .ok (.goto 4, 3) := by decide +kernel
theorem d18_14 : decode jdk_42_method_152_code 14 = .ok (.ireturn, 1) := by decide +kernel
theorem d19_0 : decode jdk_68_method_9_code 0 = .ok (.aload_n 0, 1) := by decide +kernel
theorem d19_1 : decode jdk_68_method_9_code 1 = .ok (.getfield 15, 3) := by decide +kernel
theorem d19_4 : decode jdk_68_method_9_code 4 = .ok (.arraylength, 1) := by decide +kernel
theorem d19_5 : decode jdk_68_method_9_code 5 = .ok (.aload_n 0, 1) := by decide +kernel
theorem d19_6 : decode jdk_68_method_9_code 6 = .ok (.getfield 22, 3) := by decide +kernel
theorem d19_9 : decode jdk_68_method_9_code 9 = .ok (.ishr, 1) := by decide +kernel
theorem d19_10 : decode jdk_68_method_9_code 10 = .ok (.istore_n 2, 1) := by decide +kernel
theorem d19_11 : decode jdk_68_method_9_code 11 = .ok (.iload_n 1, 1) := by decide +kernel
theorem d19_12 : decode jdk_68_method_9_code 12 = .ok (.iload_n 2, 1) := by decide +kernel
theorem d19_13 : decode jdk_68_method_9_code 13 = .ok (.isub, 1) := by decide +kernel
theorem d19_14 : decode jdk_68_method_9_code 14 = .ok (.ifCond .le 24, 3) := by decide +kernel
theorem d19_38 : decode jdk_68_method_9_code 38 = .ok (.return_, 1) := by decide +kernel
theorem d20_0 : decode jdk_68_method_73_code 0 = .ok (.aload_n 0, 1) := by decide +kernel
theorem d20_1 : decode jdk_68_method_73_code 1 = .ok (.aload_n 2, 1) := by decide +kernel
theorem d20_2 : decode jdk_68_method_73_code 2 = .ok (.invokevirtual 397, 3) := by decide +kernel
theorem d20_5 : decode jdk_68_method_73_code 5 = .ok (.aload_n 2, 1) := by decide +kernel
theorem d20_6 : decode jdk_68_method_73_code 6 = .ok (.aload_n 0, 1) := by decide +kernel
theorem d20_7 : decode jdk_68_method_73_code 7 = .ok (.getfield 15, 3) := by decide +kernel
theorem d20_10 : decode jdk_68_method_73_code 10 = .ok (.iload_n 1, 1) := by decide +kernel
theorem d20_11 : decode jdk_68_method_73_code 11 = .ok (.aload_n 0, 1) := by decide +kernel
theorem d20_12 : decode jdk_68_method_73_code 12 = .ok (.getfield 22, 3) := by decide +kernel
theorem d20_15 : decode jdk_68_method_73_code 15 = .ok (.invokevirtual 399, 3) := by decide +kernel
theorem d20_18 : decode jdk_68_method_73_code 18 = .ok (.return_, 1) := by decide +kernel
theorem d21_0 : decode jdk_68_method_71_code 0 = .ok (.getstatic 18, 3) := by decide +kernel
theorem d21_3 : decode jdk_68_method_71_code 3 = .ok (.ifCond .eq 18, 3) := by decide +kernel
theorem d21_6 : decode jdk_68_method_71_code 6 = .ok (.aload_n 0, 1) := by decide +kernel
theorem d21_7 : decode jdk_68_method_71_code 7 = .ok (.getfield 22, 3) := by decide +kernel
theorem d21_10 : decode jdk_68_method_71_code 10 = .ok (.aload_n 1, 1) := by decide +kernel
theorem d21_11 : decode jdk_68_method_71_code 11 = .ok (.invokevirtual 40, 3) := by decide +kernel
theorem d21_14 : decode jdk_68_method_71_code 14 = .ok (.if_icmp .eq 7, 3) := by decide +kernel
theorem d21_21 : decode jdk_68_method_71_code 21 = .ok (.return_, 1) := by decide +kernel
theorem d22_0 : decode jdk_42_method_147_code 0 = .ok (.aload_n 0, 1) := by decide +kernel
theorem d22_1 : decode jdk_42_method_147_code 1 = .ok (.invokevirtual 335, 3) := by decide +kernel
theorem d22_4 : decode jdk_42_method_147_code 4 = .ok (.iload_n 3, 1) := by decide +kernel
theorem d22_5 : decode jdk_42_method_147_code 5 = .ok (.if_icmp .ne 23, 3) := by decide +kernel
theorem d22_8 : decode jdk_42_method_147_code 8 = .ok (.aload_n 0, 1) := by decide +kernel
theorem d22_9 : decode jdk_42_method_147_code 9 = .ok (.getfield 9, 3) := by decide +kernel
theorem d22_12 : decode jdk_42_method_147_code 12 = .ok (.iconst 0, 1) := by decide +kernel
theorem d22_13 : decode jdk_42_method_147_code 13 = .ok (.aload_n 1, 1) := by decide +kernel
theorem d22_14 : decode jdk_42_method_147_code 14 = .ok (.iload_n 2, 1) := by decide +kernel
theorem d22_15 : decode jdk_42_method_147_code 15 = .ok (.iload_n 3, 1) := by decide +kernel
theorem d22_16 : decode jdk_42_method_147_code 16 = .ok (.ishl, 1) := by decide +kernel
theorem d22_17 : decode jdk_42_method_147_code 17 = .ok (.aload_n 0, 1) := by decide +kernel
theorem d22_18 : decode jdk_42_method_147_code 18 = .ok (.getfield 9, 3) := by decide +kernel
theorem d22_21 : decode jdk_42_method_147_code 21 = .ok (.arraylength, 1) := by decide +kernel
theorem d22_22 : decode jdk_42_method_147_code 22 = .ok (.invokestatic 212, 3) := by decide +kernel
theorem d22_25 : decode jdk_42_method_147_code 25 = .ok (.goto 18, 3) := by decide +kernel
theorem d22_43 : decode jdk_42_method_147_code 43 = .ok (.return_, 1) := by decide +kernel
theorem d23_0 : decode jdk_67_method_14_code 0 = .ok (.aload_n 0, 1) := by decide +kernel
theorem d23_1 : decode jdk_67_method_14_code 1 = .ok (.iload_n 1, 1) := by decide +kernel
theorem d23_2 : decode jdk_67_method_14_code 2 = .ok (.invokespecial 50, 3) := by decide +kernel
theorem d23_5 : decode jdk_67_method_14_code 5 = .ok (.pop, 1) := by decide +kernel
theorem d23_6 : decode jdk_67_method_14_code 6 = .ok (.aload_n 0, 1) := by decide +kernel
theorem d23_7 : decode jdk_67_method_14_code 7 = .ok (.areturn, 1) := by decide +kernel
theorem d24_0 : decode jdk_68_method_31_code 0 = .ok (.aload_n 0, 1) := by decide +kernel
theorem d24_1 : decode jdk_68_method_31_code 1 = .ok (.aload_n 0, 1) := by decide +kernel
theorem d24_2 : decode jdk_68_method_31_code 2 = .ok (.getfield 79, 3) := by decide +kernel
theorem d24_5 : decode jdk_68_method_31_code 5 = .ok (.iconst 1, 1) := by decide +kernel
theorem d24_6 : decode jdk_68_method_31_code 6 = .ok (.iadd, 1) := by decide +kernel
theorem d24_7 : decode jdk_68_method_31_code 7 = .ok (.invokevirtual 100, 3) := by decide +kernel
theorem d24_10 : decode jdk_68_method_31_code 10 = .ok (.aload_n 0, 1) := by decide +kernel
theorem d24_11 : decode jdk_68_method_31_code 11 = .ok (.invokevirtual 83, 3) := by decide +kernel
theorem d24_14 : decode jdk_68_method_31_code 14 = .ok (.ifCond .eq 31, 3) := by decide +kernel
theorem d24_17 : decode jdk_68_method_31_code 17 = .ok (.iload_n 1, 1) := by decide +kernel
theorem d24_18 : decode jdk_68_method_31_code 18 = .ok (.invokestatic 191, 3) := by decide +kernel
theorem d24_21 : decode jdk_68_method_31_code 21 = .ok (.ifCond .eq 24, 3) := by decide +kernel
theorem d24_24 : decode jdk_68_method_31_code 24 = .ok (.aload_n 0, 1) := by decide +kernel
theorem d24_25 : decode jdk_68_method_31_code 25 = .ok (.getfield 15, 3) := by decide +kernel
theorem d24_28 : decode jdk_68_method_31_code 28 = .ok (.aload_n 0, 1) := by decide +kernel
theorem d24_29 : decode jdk_68_method_31_code 29 = .ok (.dup, 1) := by decide +kernel
theorem d24_30 : decode jdk_68_method_31_code 30 = .ok (.getfield 79, 3) := by decide +kernel
theorem d24_33 : decode jdk_68_method_31_code 33 = .ok (.dup_x1, 1) := by decide +kernel
theorem d24_34 : decode jdk_68_method_31_code 34 = .ok (.iconst 1, 1) := by decide +kernel
theorem d24_35 : decode jdk_68_method_31_code 35 = .ok (.iadd, 1) := by decide +kernel
theorem d24_36 : decode jdk_68_method_31_code 36 = .ok (.putfield 79, 3) := by decide +kernel
theorem d24_39 : decode jdk_68_method_31_code 39 = .ok (.iload_n 1, 1) := by decide +kernel
theorem d24_40 : decode jdk_68_method_31_code 40 = .ok (.i2b, 1) := by decide +kernel
theorem d24_41 : decode jdk_68_method_31_code 41 = .ok (.bastore, 1) := by decide +kernel
theorem d24_42 : decode jdk_68_method_31_code 42 = .ok (.goto 33, 3) := by decide +kernel
theorem d24_75 : decode jdk_68_method_31_code 75 = .ok (.aload_n 0, 1) := by decide +kernel
theorem d24_76 : decode jdk_68_method_31_code 76 = .ok (.areturn, 1) := by decide +kernel
theorem d25_0 : decode jdk_68_method_68_code 0 = .ok (.getstatic 18, 3) := by decide +kernel
theorem d25_3 : decode jdk_68_method_68_code 3 = .ok (.ifCond .eq 14, 3) := by decide +kernel
theorem d25_6 : decode jdk_68_method_68_code 6 = .ok (.aload_n 0, 1) := by decide +kernel
theorem d25_7 : decode jdk_68_method_68_code 7 = .ok (.getfield 22, 3) := by decide +kernel
theorem d25_10 : decode jdk_68_method_68_code 10 = .ok (.ifCond .ne 7, 3) := by decide +kernel
theorem d25_13 : decode jdk_68_method_68_code 13 = .ok (.iconst 1, 1) := by decide +kernel
theorem d25_14 : decode jdk_68_method_68_code 14 = .ok (.goto 4, 3) := by decide +kernel
theorem d25_18 : decode jdk_68_method_68_code 18 = .ok (.ireturn, 1) := by decide +kernel
theorem d26_0 : decode jdk_43_method_3_code 0 = .ok (.iload_n 0, 1) := by decide +kernel
theorem d26_1 : decode jdk_43_method_3_code 1 = .ok (.sipush 255, 3) := by decide +kernel
theorem d26_4 : decode jdk_43_method_3_code 4 = .ok (.if_icmp .gt 7, 3) := by decide +kernel
theorem d26_7 : decode jdk_43_method_3_code 7 = .ok (.iconst 1, 1) := by decide +kernel
theorem d26_8 : decode jdk_43_method_3_code 8 = .ok (.goto 4, 3) := by decide +kernel
theorem d26_12 : decode jdk_43_method_3_code 12 = .ok (.ireturn, 1) := by decide +kernel
theorem d27_0 : decode prog_51_method_9_code 0 = .ok (.aload_n 0, 1) := by decide +kernel
theorem d27_1 : decode prog_51_method_9_code 1 = .ok (.getfield 10, 3) := by decide +kernel
theorem d27_4 : decode prog_51_method_9_code 4 = .ok (.invokevirtual 56, 3) := by decide +kernel
theorem d27_7 : decode prog_51_method_9_code 7 = .ok (.areturn, 1) := by decide +kernel
theorem d28_0 : decode jdk_67_method_42_code 0 = .ok (.new 18, 3) := by decide +kernel
theorem d28_3 : decode jdk_67_method_42_code 3 = .ok (.dup, 1) := by decide +kernel
theorem d28_4 : decode jdk_67_method_42_code 4 = .ok (.aload_n 0, 1) := by decide +kernel
theorem d28_5 : decode jdk_67_method_42_code 5 = .ok (.invokespecial 137, 3) := by decide +kernel
theorem d28_8 : decode jdk_67_method_42_code 8 = .ok (.areturn, 1) := by decide +kernel
theorem d29_0 : decode jdk_42_method_53_code 0 = .ok (.aload_n 0, 1) := by decide +kernel
theorem d29_1 : decode jdk_42_method_53_code 1 = .ok (.aload_n 1, 1) := by decide +kernel
theorem d29_2 : decode jdk_42_method_53_code 2 = .ok (.aconst_null, 1) := by decide +kernel
theorem d29_3 : decode jdk_42_method_53_code 3 = .ok (.invokespecial 489, 3) := by decide +kernel
theorem d29_6 : decode jdk_42_method_53_code 6 = .ok (.return_, 1) := by decide +kernel
theorem d30_0 : decode jdk_42_method_150_code 0 = .ok (.aload_n 0, 1) := by decide +kernel
theorem d30_1 : decode jdk_42_method_150_code 1 = .ok (.invokespecial 1, 3) := by decide +kernel
theorem d30_4 : decode jdk_42_method_150_code 4 = .ok (.aload_n 1, 1) := by decide +kernel
theorem d30_5 : decode jdk_42_method_150_code 5 = .ok (.invokevirtual 552, 3) := by decide +kernel
theorem d30_8 : decode jdk_42_method_150_code 8 = .ok (.astore_n 3, 1) := by decide +kernel
theorem d30_9 : decode jdk_42_method_150_code 9 = .ok (.aload_n 1, 1) := by decide +kernel
theorem d30_10 : decode jdk_42_method_150_code 10 = .ok (.invokevirtual 549, 3) := by decide +kernel
theorem d30_13 : decode jdk_42_method_150_code 13 = .ok (.istore 4, 2) := by decide +kernel
theorem d30_15 : decode jdk_42_method_150_code 15 = .ok (.aload_n 1, 1) := by decide +kernel
theorem d30_16 : decode jdk_42_method_150_code 16 = .ok (.invokevirtual 1047, 3) := by decide +kernel
theorem d30_19 : decode jdk_42_method_150_code 19 = .ok (.ifCond .eq 22, 3) := by decide +kernel
theorem d30_22 : decode jdk_42_method_150_code 22 = .ok (.aload_n 0, 1) := by decide +kernel
theorem d30_23 : decode jdk_42_method_150_code 23 = .ok (.iconst 0, 1) := by decide +kernel
theorem d30_24 : decode jdk_42_method_150_code 24 = .ok (.putfield 15, 3) := by decide +kernel
theorem d30_27 : decode jdk_42_method_150_code 27 = .ok (.aload_n 0, 1) := by decide +kernel
theorem d30_28 : decode jdk_42_method_150_code 28 = .ok (.aload_n 3, 1) := by decide +kernel
theorem d30_29 : decode jdk_42_method_150_code 29 = .ok (.iconst 0, 1) := by decide +kernel
theorem d30_30 : decode jdk_42_method_150_code 30 = .ok (.iload 4, 2) := by decide +kernel
theorem d30_32 : decode jdk_42_method_150_code 32 = .ok (.invokestatic 54, 3) := by decide +kernel
theorem d30_35 : decode jdk_42_method_150_code 35 = .ok (.putfield 9, 3) := by decide +kernel
theorem d30_38 : decode jdk_42_method_150_code 38 = .ok (.goto 59, 3) := by decide +kernel
theorem d30_97 : decode jdk_42_method_150_code 97 = .ok (.return_, 1) := by decide +kernel
theorem d31_0 : decode jdk_68_method_64_code 0 = .ok (.aload_n 0, 1) := by decide +kernel
theorem d31_1 : decode jdk_68_method_64_code 1 = .ok (.getfield 15, 3) := by decide +kernel
theorem d31_4 : decode jdk_68_method_64_code 4 = .ok (.areturn, 1) := by decide +kernel
theorem d32_0 : decode jdk_67_method_93_code 0 = .ok (.aload_n 0, 1) := by decide +kernel
theorem d32_1 : decode jdk_67_method_93_code 1 = .ok (.invokespecial 343, 3) := by decide +kernel
theorem d32_4 : decode jdk_67_method_93_code 4 = .ok (.ireturn, 1) := by decide +kernel
theorem d33_0 : decode jdk_68_method_6_code 0 = .ok (.aload_n 0, 1) := by decide +kernel
theorem d33_1 : decode jdk_68_method_6_code 1 = .ok (.getfield 79, 3) := by decide +kernel
theorem d33_4 : decode jdk_68_method_6_code 4 = .ok (.ireturn, 1) := by decide +kernel
theorem d34_0 : decode jdk_65_method_132_code 0 = .ok (.iload_n 1, 1) := by decide +kernel
theorem d34_1 : decode jdk_65_method_132_code 1 = .ok (.ifCond .ne 9, 3) := by decide +kernel
theorem d34_4 : decode jdk_65_method_132_code 4 = .ok (.iload_n 2, 1) := by decide +kernel
theorem d34_5 : decode jdk_65_method_132_code 5 = .ok (.aload_n 0, 1) := by decide +kernel
theorem d34_6 : decode jdk_65_method_132_code 6 = .ok (.arraylength, 1) := by decide +kernel
theorem d34_7 : decode jdk_65_method_132_code 7 = .ok (.if_icmp .eq 10, 3) := by decide +kernel
theorem d34_10 : decode jdk_65_method_132_code 10 = .ok (.aload_n 0, 1) := by decide +kernel
theorem d34_11 : decode jdk_65_method_132_code 11 = .ok (.iload_n 1, 1) := by decide +kernel
theorem d34_12 : decode jdk_65_method_132_code 12 = .ok (.iload_n 2, 1) := by decide +kernel
theorem d34_13 : decode jdk_65_method_132_code 13 = .ok (.invokestatic 339, 3) := by decide +kernel
theorem d34_16 : decode jdk_65_method_132_code 16 = .ok (.areturn, 1) := by decide +kernel
theorem d35_0 : decode jdk_65_method_133_code 0 = .ok (.iload_n 1, 1) := by decide +kernel
theorem d35_1 : decode jdk_65_method_133_code 1 = .ok (.iload_n 2, 1) := by decide +kernel
theorem d35_2 : decode jdk_65_method_133_code 2 = .ok (.invokestatic 343, 3) := by decide +kernel
theorem d35_5 : decode jdk_65_method_133_code 5 = .ok (.iload_n 2, 1) := by decide +kernel
theorem d35_6 : decode jdk_65_method_133_code 6 = .ok (.iload_n 1, 1) := by decide +kernel
theorem d35_7 : decode jdk_65_method_133_code 7 = .ok (.isub, 1) := by decide +kernel
theorem d35_8 : decode jdk_65_method_133_code 8 = .ok (.istore_n 3, 1) := by decide +kernel
theorem d35_9 : decode jdk_65_method_133_code 9 = .ok (.iload_n 3, 1) := by decide +kernel
theorem d35_10 : decode jdk_65_method_133_code 10 = .ok (.newarray .byte, 2) := by decide +kernel
theorem d35_12 : decode jdk_65_method_133_code 12 = .ok (.astore 4, 2) := by decide +kernel
theorem d35_14 : decode jdk_65_method_133_code 14 = .ok (.aload_n 0, 1) := by decide +kernel
theorem d35_15 : decode jdk_65_method_133_code 15 = .ok (.iload_n 1, 1) := by decide +kernel
theorem d35_16 : decode jdk_65_method_133_code 16 = .ok (.aload 4, 2) := by decide +kernel
theorem d35_18 : decode jdk_65_method_133_code 18 = .ok (.iconst 0, 1) := by decide +kernel
theorem d35_19 : decode jdk_65_method_133_code 19 = .ok (.aload_n 0, 1) := by decide +kernel
theorem d35_20 : decode jdk_65_method_133_code 20 = .ok (.arraylength, 1) := by decide +kernel
theorem d35_21 : decode jdk_65_method_133_code 21 = .ok (.iload_n 1, 1) := by decide +kernel
theorem d35_22 : decode jdk_65_method_133_code 22 = .ok (.isub, 1) := by decide +kernel
theorem d35_23 : decode jdk_65_method_133_code 23 = .ok (.iload_n 3, 1) := by decide +kernel
theorem d35_24 : decode jdk_65_method_133_code 24 = .ok (.invokestatic 304, 3) := by decide +kernel
theorem d35_27 : decode jdk_65_method_133_code 27 = .ok (.invokestatic 150, 3) := by decide +kernel
theorem d35_30 : decode jdk_65_method_133_code 30 = .ok (.aload 4, 2) := by decide +kernel
theorem d35_32 : decode jdk_65_method_133_code 32 = .ok (.areturn, 1) := by decide +kernel
theorem d36_0 : decode jdk_65_method_131_code 0 = .ok (.iload_n 1, 1) := by decide +kernel
theorem d36_1 : decode jdk_65_method_131_code 1 = .ok (.iload_n 0, 1) := by decide +kernel
theorem d36_2 : decode jdk_65_method_131_code 2 = .ok (.if_icmp .ge 35, 3) := by decide +kernel
theorem d36_37 : decode jdk_65_method_131_code 37 = .ok (.return_, 1) := by decide +kernel
theorem d37_0 : decode jdk_29_method_69_code 0 = .ok (.iload_n 0, 1) := by decide +kernel
theorem d37_1 : decode jdk_29_method_69_code 1 = .ok (.iload_n 1, 1) := by decide +kernel
theorem d37_2 : decode jdk_29_method_69_code 2 = .ok (.if_icmp .gt 7, 3) := by decide +kernel
theorem d37_5 : decode jdk_29_method_69_code 5 = .ok (.iload_n 0, 1) := by decide +kernel
theorem d37_6 : decode jdk_29_method_69_code 6 = .ok (.goto 4, 3) := by decide +kernel
theorem d37_9 : decode jdk_29_method_69_code 9 = .ok (.iload_n 1, 1) := by decide +kernel
theorem d37_10 : decode jdk_29_method_69_code 10 = .ok (.ireturn, 1) := by decide +kernel
theorem d38_0 : decode method_3_code 0 = .ok (.aload_n 0, 1) := by decide +kernel
theorem d38_1 : decode method_3_code 1 = .ok (.iconst 0, 1) := by decide +kernel
theorem d38_2 : decode method_3_code 2 = .ok (.iload_n 1, 1) := by decide +kernel
theorem d38_3 : decode method_3_code 3 = .ok (.invokestatic 44, 3) := by decide +kernel
theorem d38_6 : decode method_3_code 6 = .ok (.ifCond .eq 112, 3) := by decide +kernel
theorem d38_9 : decode method_3_code 9 = .ok (.aload_n 0, 1) := by decide +kernel
theorem d38_10 : decode method_3_code 10 = .ok (.iconst 1, 1) := by decide +kernel
theorem d38_11 : decode method_3_code 11 = .ok (.iload_n 1, 1) := by decide +kernel
theorem d38_12 : decode method_3_code 12 = .ok (.invokestatic 44, 3) := by decide +kernel
theorem d38_15 : decode method_3_code 15 = .ok (.ifCond .eq 103, 3) := by decide +kernel
theorem d38_18 : decode method_3_code 18 = .ok (.aload_n 0, 1) := by decide +kernel
theorem d38_19 : decode method_3_code 19 = .ok (.iconst 2, 1) := by decide +kernel
theorem d38_20 : decode method_3_code 20 = .ok (.iload_n 1, 1) := by decide +kernel
theorem d38_21 : decode method_3_code 21 = .ok (.invokestatic 44, 3) := by decide +kernel
theorem d38_24 : decode method_3_code 24 = .ok (.ifCond .eq 94, 3) := by decide +kernel
theorem d38_27 : decode method_3_code 27 = .ok (.aload_n 0, 1) := by decide +kernel
theorem d38_28 : decode method_3_code 28 = .ok (.iconst 3, 1) := by decide +kernel
theorem d38_29 : decode method_3_code 29 = .ok (.iload_n 1, 1) := by decide +kernel
theorem d38_30 : decode method_3_code 30 = .ok (.invokestatic 44, 3) := by decide +kernel
theorem d38_33 : decode method_3_code 33 = .ok (.ifCond .eq 85, 3) := by decide +kernel
theorem d38_36 : decode method_3_code 36 = .ok (.aload_n 0, 1) := by decide +kernel
theorem d38_37 : decode method_3_code 37 = .ok (.iconst 4, 1) := by decide +kernel
theorem d38_38 : decode method_3_code 38 = .ok (.iload_n 1, 1) := by decide +kernel
theorem d38_39 : decode method_3_code 39 = .ok (.invokestatic 44, 3) := by decide +kernel
theorem d38_42 : decode method_3_code 42 = .ok (.ifCond .eq 76, 3) := by decide +kernel
theorem d38_45 : decode method_3_code 45 = .ok (.aload_n 0, 1) := by decide +kernel
theorem d38_46 : decode method_3_code 46 = .ok (.iconst 5, 1) := by decide +kernel
theorem d38_47 : decode method_3_code 47 = .ok (.iload_n 1, 1) := by decide +kernel
theorem d38_48 : decode method_3_code 48 = .ok (.invokestatic 44, 3) := by decide +kernel
theorem d38_51 : decode method_3_code 51 = .ok (.ifCond .eq 67, 3) := by decide +kernel
theorem d38_54 : decode method_3_code 54 = .ok (.aload_n 0, 1) := by decide +kernel
theorem d38_55 : decode method_3_code 55 = .ok (.bipush 6, 2) := by decide +kernel
theorem d38_57 : decode method_3_code 57 = .ok (.iload_n 1, 1) := by decide +kernel
theorem d38_58 : decode method_3_code 58 = .ok (.invokestatic 44, 3) := by decide +kernel
theorem d38_61 : decode method_3_code 61 = .ok (.ifCond .eq 57, 3) := by decide +kernel
theorem d38_64 : decode method_3_code 64 = .ok (.aload_n 0, 1) := by decide +kernel
theorem d38_65 : decode method_3_code 65 = .ok (.bipush 7, 2) := by decide +kernel
theorem d38_67 : decode method_3_code 67 = .ok (.iload_n 1, 1) := by decide +kernel
theorem d38_68 : decode method_3_code 68 = .ok (.invokestatic 44, 3) := by decide +kernel
theorem d38_71 : decode method_3_code 71 = .ok (.ifCond .eq 47, 3) := by decide +kernel
theorem d38_74 : decode method_3_code 74 = .ok (.aload_n 0, 1) := by decide +kernel
theorem d38_75 : decode method_3_code 75 = .ok (.bipush 8, 2) := by decide +kernel
theorem d38_77 : decode method_3_code 77 = .ok (.iload_n 1, 1) := by decide +kernel
theorem d38_78 : decode method_3_code 78 = .ok (.invokestatic 44, 3) := by decide +kernel
theorem d38_81 : decode method_3_code 81 = .ok (.ifCond .eq 37, 3) := by decide +kernel
theorem d38_84 : decode method_3_code 84 = .ok (.aload_n 0, 1) := by decide +kernel
theorem d38_85 : decode method_3_code 85 = .ok (.bipush 9, 2) := by decide +kernel
theorem d38_87 : decode method_3_code 87 = .ok (.iload_n 1, 1) := by decide +kernel
theorem d38_88 : decode method_3_code 88 = .ok (.invokestatic 44, 3) := by decide +kernel
theorem d38_91 : decode method_3_code 91 = .ok (.ifCond .eq 27, 3) := by decide +kernel
theorem d38_94 : decode method_3_code 94 = .ok (.aload_n 0, 1) := by decide +kernel
theorem d38_95 : decode method_3_code 95 = .ok (.bipush 10, 2) := by decide +kernel
theorem d38_97 : decode method_3_code 97 = .ok (.iload_n 1, 1) := by decide +kernel
theorem d38_98 : decode method_3_code 98 = .ok (.invokestatic 44, 3) := by decide +kernel
theorem d38_101 : decode method_3_code 101 = .ok (.ifCond .eq 17, 3) := by decide +kernel
theorem d38_104 : decode method_3_code 104 = .ok (.aload_n 0, 1) := by decide +kernel
theorem d38_105 : decode method_3_code 105 = .ok (.bipush 11, 2) := by decide +kernel
theorem d38_107 : decode method_3_code 107 = .ok (.iload_n 1, 1) := by decide +kernel
theorem d38_108 : decode method_3_code 108 = .ok (.invokestatic 44, 3) := by decide +kernel
theorem d38_111 : decode method_3_code 111 = .ok (.ifCond .eq 7, 3) := by decide +kernel
theorem d38_114 : decode method_3_code 114 = .ok (.iconst 1, 1) := by decide +kernel
theorem d38_115 : decode method_3_code 115 = .ok (.goto 4, 3) := by decide +kernel
theorem d38_119 : decode method_3_code 119 = .ok (.ireturn, 1) := by decide +kernel
theorem d39_0 : decode method_4_code 0 = .ok (.iload_n 1, 1) := by decide +kernel
theorem d39_1 : decode method_4_code 1 = .ok (.iload_n 2, 1) := by decide +kernel
theorem d39_2 : decode method_4_code 2 = .ok (.if_icmp .ge 13, 3) := by decide +kernel
theorem d39_5 : decode method_4_code 5 = .ok (.aload_n 0, 1) := by decide +kernel
theorem d39_6 : decode method_4_code 6 = .ok (.iload_n 1, 1) := by decide +kernel
theorem d39_7 : decode method_4_code 7 = .ok (.invokevirtual 40, 3) := by decide +kernel
theorem d39_10 : decode method_4_code 10 = .ok (.bipush 32, 2) := by decide +kernel
theorem d39_12 : decode method_4_code 12 = .ok (.if_icmp .ne 7, 3) := by decide +kernel
theorem d39_15 : decode method_4_code 15 = .ok (.iconst 1, 1) := by decide +kernel
theorem d39_16 : decode method_4_code 16 = .ok (.goto 4, 3) := by decide +kernel
theorem d39_20 : decode method_4_code 20 = .ok (.ireturn, 1) := by decide +kernel
theorem d40_0 : decode jdk_42_method_56_code 0 = .ok (.aload_n 0, 1) := by decide +kernel
theorem d40_1 : decode jdk_42_method_56_code 1 = .ok (.invokevirtual 492, 3) := by decide +kernel
theorem d40_4 : decode jdk_42_method_56_code 4 = .ok (.ifCond .eq 12, 3) := by decide +kernel
theorem d40_7 : decode jdk_42_method_56_code 7 = .ok (.aload_n 0, 1) := by decide +kernel
theorem d40_8 : decode jdk_42_method_56_code 8 = .ok (.getfield 9, 3) := by decide +kernel
theorem d40_11 : decode jdk_42_method_56_code 11 = .ok (.iload_n 1, 1) := by decide +kernel
theorem d40_12 : decode jdk_42_method_56_code 12 = .ok (.invokestatic 495, 3) := by decide +kernel
theorem d40_15 : decode jdk_42_method_56_code 15 = .ok (.ireturn, 1) := by decide +kernel
theorem d41_0 : decode jdk_42_method_154_code 0 = .ok (.getstatic 38, 3) := by decide +kernel
theorem d41_3 : decode jdk_42_method_154_code 3 = .ok (.ifCond .eq 14, 3) := by decide +kernel
theorem d41_6 : decode jdk_42_method_154_code 6 = .ok (.aload_n 0, 1) := by decide +kernel
theorem d41_7 : decode jdk_42_method_154_code 7 = .ok (.getfield 15, 3) := by decide +kernel
theorem d41_10 : decode jdk_42_method_154_code 10 = .ok (.ifCond .ne 7, 3) := by decide +kernel
theorem d41_13 : decode jdk_42_method_154_code 13 = .ok (.iconst 1, 1) := by decide +kernel
theorem d41_14 : decode jdk_42_method_154_code 14 = .ok (.goto 4, 3) := by decide +kernel
theorem d41_18 : decode jdk_42_method_154_code 18 = .ok (.ireturn, 1) := by decide +kernel
theorem d42_0 : decode jdk_43_method_2_code 0 = .ok (.iload_n 1, 1) := by decide +kernel
theorem d42_1 : decode jdk_43_method_2_code 1 = .ok (.aload_n 0, 1) := by decide +kernel
theorem d42_2 : decode jdk_43_method_2_code 2 = .ok (.arraylength, 1) := by decide +kernel
theorem d42_3 : decode jdk_43_method_2_code 3 = .ok (.invokestatic 9, 3) := by decide +kernel
theorem d42_6 : decode jdk_43_method_2_code 6 = .ok (.aload_n 0, 1) := by decide +kernel
theorem d42_7 : decode jdk_43_method_2_code 7 = .ok (.iload_n 1, 1) := by decide +kernel
theorem d42_8 : decode jdk_43_method_2_code 8 = .ok (.baload, 1) := by decide +kernel
theorem d42_9 : decode jdk_43_method_2_code 9 = .ok (.sipush 255, 3) := by decide +kernel
theorem d42_12 : decode jdk_43_method_2_code 12 = .ok (.iand, 1) := by decide +kernel
theorem d42_13 : decode jdk_43_method_2_code 13 = .ok (.i2c, 1) := by decide +kernel
theorem d42_14 : decode jdk_43_method_2_code 14 = .ok (.ireturn, 1) := by decide +kernel
theorem d43_0 : decode jdk_42_method_155_code 0 = .ok (.iload_n 0, 1) := by decide +kernel
theorem d43_1 : decode jdk_42_method_155_code 1 = .ok (.iload_n 1, 1) := by decide +kernel
theorem d43_2 : decode jdk_42_method_155_code 2 = .ok (.getstatic 1053, 3) := by decide +kernel
theorem d43_5 : decode jdk_42_method_155_code 5 = .ok (.invokestatic 1059, 3) := by decide +kernel
theorem d43_8 : decode jdk_42_method_155_code 8 = .ok (.pop, 1) := by decide +kernel
theorem d43_9 : decode jdk_42_method_155_code 9 = .ok (.return_, 1) := by decide +kernel
theorem d44_0 : decode jdk_41_method_11_code 0 = .ok (.iload_n 0, 1) := by decide +kernel
theorem d44_1 : decode jdk_41_method_11_code 1 = .ok (.ifCond .lt 8, 3) := by decide +kernel
theorem d44_4 : decode jdk_41_method_11_code 4 = .ok (.iload_n 0, 1) := by decide +kernel
theorem d44_5 : decode jdk_41_method_11_code 5 = .ok (.iload_n 1, 1) := by decide +kernel
theorem d44_6 : decode jdk_41_method_11_code 6 = .ok (.if_icmp .lt 10, 3) := by decide +kernel
theorem d44_16 : decode jdk_41_method_11_code 16 = .ok (.iload_n 0, 1) := by decide +kernel
theorem d44_17 : decode jdk_41_method_11_code 17 = .ok (.ireturn, 1) := by decide +kernel
theorem d45_0 : decode jdk_42_method_146_code 0 = .ok (.iload_n 3, 1) := by decide +kernel
theorem d45_1 : decode jdk_42_method_146_code 1 = .ok (.iload_n 2, 1) := by decide +kernel
theorem d45_2 : decode jdk_42_method_146_code 2 = .ok (.iload_n 3, 1) := by decide +kernel
theorem d45_3 : decode jdk_42_method_146_code 3 = .ok (.isub, 1) := by decide +kernel
theorem d45_4 : decode jdk_42_method_146_code 4 = .ok (.if_icmp .ge 20, 3) := by decide +kernel
theorem d45_7 : decode jdk_42_method_146_code 7 = .ok (.aload_n 0, 1) := by decide +kernel
theorem d45_8 : decode jdk_42_method_146_code 8 = .ok (.iload_n 1, 1) := by decide +kernel
theorem d45_9 : decode jdk_42_method_146_code 9 = .ok (.aload_n 0, 1) := by decide +kernel
theorem d45_10 : decode jdk_42_method_146_code 10 = .ok (.iload_n 1, 1) := by decide +kernel
theorem d45_11 : decode jdk_42_method_146_code 11 = .ok (.iload_n 3, 1) := by decide +kernel
theorem d45_12 : decode jdk_42_method_146_code 12 = .ok (.iadd, 1) := by decide +kernel
theorem d45_13 : decode jdk_42_method_146_code 13 = .ok (.iload_n 3, 1) := by decide +kernel
theorem d45_14 : decode jdk_42_method_146_code 14 = .ok (.invokestatic 212, 3) := by decide +kernel
theorem d45_17 : decode jdk_42_method_146_code 17 = .ok (.iload_n 3, 1) := by decide +kernel
theorem d45_18 : decode jdk_42_method_146_code 18 = .ok (.iconst 1, 1) := by decide +kernel
theorem d45_19 : decode jdk_42_method_146_code 19 = .ok (.ishl, 1) := by decide +kernel
theorem d45_20 : decode jdk_42_method_146_code 20 = .ok (.istore_n 3, 1) := by decide +kernel
theorem d45_21 : decode jdk_42_method_146_code 21 = .ok (.goto (-21), 3) := by decide +kernel
theorem d45_24 : decode jdk_42_method_146_code 24 = .ok (.aload_n 0, 1) := by decide +kernel
theorem d45_25 : decode jdk_42_method_146_code 25 = .ok (.iload_n 1, 1) := by decide +kernel
theorem d45_26 : decode jdk_42_method_146_code 26 = .ok (.aload_n 0, 1) := by decide +kernel
theorem d45_27 : decode jdk_42_method_146_code 27 = .ok (.iload_n 1, 1) := by decide +kernel
theorem d45_28 : decode jdk_42_method_146_code 28 = .ok (.iload_n 3, 1) := by decide +kernel
theorem d45_29 : decode jdk_42_method_146_code 29 = .ok (.iadd, 1) := by decide +kernel
theorem d45_30 : decode jdk_42_method_146_code 30 = .ok (.iload_n 2, 1) := by decide +kernel
theorem d45_31 : decode jdk_42_method_146_code 31 = .ok (.iload_n 3, 1) := by decide +kernel
theorem d45_32 : decode jdk_42_method_146_code 32 = .ok (.isub, 1) := by decide +kernel
theorem d45_33 : decode jdk_42_method_146_code 33 = .ok (.invokestatic 212, 3) := by decide +kernel
theorem d45_36 : decode jdk_42_method_146_code 36 = .ok (.return_, 1) := by decide +kernel
theorem d46_0 : decode jdk_42_method_151_code 0 = .ok (.aload_n 0, 1) := by decide +kernel
theorem d46_1 : decode jdk_42_method_151_code 1 = .ok (.invokespecial 1, 3) := by decide +kernel
theorem d46_4 : decode jdk_42_method_151_code 4 = .ok (.aload_n 0, 1) := by decide +kernel
theorem d46_5 : decode jdk_42_method_151_code 5 = .ok (.aload_n 1, 1) := by decide +kernel
theorem d46_6 : decode jdk_42_method_151_code 6 = .ok (.putfield 9, 3) := by decide +kernel
theorem d46_9 : decode jdk_42_method_151_code 9 = .ok (.aload_n 0, 1) := by decide +kernel
theorem d46_10 : decode jdk_42_method_151_code 10 = .ok (.iload_n 2, 1) := by decide +kernel
theorem d46_11 : decode jdk_42_method_151_code 11 = .ok (.putfield 15, 3) := by decide +kernel
theorem d46_14 : decode jdk_42_method_151_code 14 = .ok (.return_, 1) := by decide +kernel
theorem pn_0 : plainName "java/lang/String" = true := by first | (simp [plainName, overriddenIn]; done) | decide +kernel
theorem pn_1 : plainName "java/lang/AbstractStringBuilder" = true := by first | (simp [plainName, overriddenIn]; done) | decide +kernel
theorem pn_2 : plainName "java/lang/StringBuilder" = true := by first | (simp [plainName, overriddenIn]; done) | decide +kernel
theorem pn_3 : plainName "com/example/tetrad/tetrad/generate/SourceText" = true := by first | (simp [plainName, overriddenIn]; done) | decide +kernel
theorem pn_4 : plainName "java/lang/StringLatin1" = true := by first | (simp [plainName, overriddenIn]; done) | decide +kernel
theorem pn_5 : plainName "java/util/Arrays" = true := by first | (simp [plainName, overriddenIn]; done) | decide +kernel
theorem pn_6 : plainName "jdk/internal/util/Preconditions" = true := by first | (simp [plainName, overriddenIn]; done) | decide +kernel
theorem pn_7 : plainName "com/example/tetrad/tetrad/generate/SourceTextDedentPinLaw" = true := by first | (simp [plainName, overriddenIn]; done) | decide +kernel
theorem pd_0 : parseMethodDescriptor "()B" = some ⟨[], some .byte⟩ := by decide +kernel
theorem pd_1 : parseMethodDescriptor "()I" = some ⟨[], some .int⟩ := by decide +kernel
theorem pd_2 : parseMethodDescriptor "(I)V" = some ⟨[.int], none⟩ := by decide +kernel
theorem pd_3 : parseMethodDescriptor "()V" = some ⟨[], none⟩ := by decide +kernel
theorem pd_4 : parseMethodDescriptor "(Ljava/lang/String;)V" = some ⟨[(.object "java/lang/String")], none⟩ := by decide +kernel
theorem pd_5 : parseMethodDescriptor "([BIB)V" = some ⟨[(.array .byte), .int, .byte], none⟩ := by decide +kernel
theorem pd_6 : parseMethodDescriptor "(ILjava/lang/String;)V" = some ⟨[.int, (.object "java/lang/String")], none⟩ := by decide +kernel
theorem pd_7 : parseMethodDescriptor "(Ljava/lang/String;)Ljava/lang/AbstractStringBuilder;" = some ⟨[(.object "java/lang/String")], some (.object "java/lang/AbstractStringBuilder")⟩ := by decide +kernel
theorem pd_8 : parseMethodDescriptor "()Z" = some ⟨[], some .boolean⟩ := by decide +kernel
theorem pd_9 : parseMethodDescriptor "(C)Z" = some ⟨[.char], some .boolean⟩ := by decide +kernel
theorem pd_10 : parseMethodDescriptor "(C)Ljava/lang/AbstractStringBuilder;" = some ⟨[.char], some (.object "java/lang/AbstractStringBuilder")⟩ := by decide +kernel
theorem pd_11 : parseMethodDescriptor "(II)V" = some ⟨[.int, .int], none⟩ := by decide +kernel
theorem pd_12 : parseMethodDescriptor "(II)I" = some ⟨[.int, .int], some .int⟩ := by decide +kernel
theorem pd_13 : parseMethodDescriptor "([BII)[B" = some ⟨[(.array .byte), .int, .int], some (.array .byte)⟩ := by decide +kernel
theorem pd_14 : parseMethodDescriptor "()[B" = some ⟨[], some (.array .byte)⟩ := by decide +kernel
theorem pd_15 : parseMethodDescriptor "(Ljava/lang/AbstractStringBuilder;Ljava/lang/Void;)V" = some ⟨[(.object "java/lang/AbstractStringBuilder"), (.object "java/lang/Void")], none⟩ := by decide +kernel
theorem pd_16 : parseMethodDescriptor "(Ljava/lang/StringBuilder;)V" = some ⟨[(.object "java/lang/StringBuilder")], none⟩ := by decide +kernel
theorem pd_17 : parseMethodDescriptor "()Ljava/lang/String;" = some ⟨[], some (.object "java/lang/String")⟩ := by decide +kernel
theorem pd_18 : parseMethodDescriptor "([BIII)V" = some ⟨[(.array .byte), .int, .int, .int], none⟩ := by decide +kernel
theorem pd_19 : parseMethodDescriptor "([BB)V" = some ⟨[(.array .byte), .byte], none⟩ := by decide +kernel
theorem pd_20 : parseMethodDescriptor "(I)Ljava/lang/String;" = some ⟨[.int], some (.object "java/lang/String")⟩ := by decide +kernel
theorem pd_21 : parseMethodDescriptor "(Ljava/lang/String;)Ljava/lang/StringBuilder;" = some ⟨[(.object "java/lang/String")], some (.object "java/lang/StringBuilder")⟩ := by decide +kernel
theorem pd_22 : parseMethodDescriptor "(C)Ljava/lang/StringBuilder;" = some ⟨[.char], some (.object "java/lang/StringBuilder")⟩ := by decide +kernel
theorem pd_23 : parseMethodDescriptor "(IILjava/util/function/BiFunction;)I" = some ⟨[.int, .int, (.object "java/util/function/BiFunction")], some .int⟩ := by decide +kernel
theorem pd_24 : parseMethodDescriptor "([BI)C" = some ⟨[(.array .byte), .int], some .char⟩ := by decide +kernel
theorem pd_25 : parseMethodDescriptor "(I)C" = some ⟨[.int], some .char⟩ := by decide +kernel
theorem pd_26 : parseMethodDescriptor "(Ljava/lang/String;II)Z" = some ⟨[(.object "java/lang/String"), .int, .int], some .boolean⟩ := by decide +kernel
theorem pd_27 : parseMethodDescriptor "()Lcom/example/tetrad/tetrad/generate/SourceText;" = some ⟨[], some (.object "com/example/tetrad/tetrad/generate/SourceText")⟩ := by decide +kernel
theorem pd_28 : parseMethodDescriptor "([C)V" = some ⟨[(.array .char)], none⟩ := by decide +kernel
theorem pd_29 : parseMethodDescriptor "(Ljava/lang/String;)Lcom/example/tetrad/tetrad/generate/SourceText;" = some ⟨[(.object "java/lang/String")], some (.object "com/example/tetrad/tetrad/generate/SourceText")⟩ := by decide +kernel
theorem pd_30 : parseMethodDescriptor "(Ljava/lang/String;I)Z" = some ⟨[(.object "java/lang/String"), .int], some .boolean⟩ := by decide +kernel
theorem own_rwh {T : State} {h : Heap} {a : Addr} {c : Cell} (e : T.heap = h) (q : h[a]? = some c) : T.heap[a]? = some c := e ▸ q
theorem own_osz {Z : State} {n0 : Nat} {h : Heap} (O : Old Z n0 h) : n0 ≤ h.size := O.1 ▸ O.2.1

def Lat (cs : List Int32) : Prop := (∀ c ∈ cs, ¬ c < 0 ∧ ¬ (255 : Int32) < c) ∧ cs.length ≤ 4000
theorem own_up {cs : List Int32} (h : Lat cs) : ∀ c ∈ cs, ¬ c < 0 ∧ ¬ (65535 : Int32) < c := fun c hc => ⟨(h.1 c hc).1, fun q => (h.1 c hc).2 (by rw [Int32.lt_iff_toInt_lt] at q ⊢; have e1 : (65535 : Int32).toInt = 65535 := rfl; have e2 : (255 : Int32).toInt = 255 := rfl; omega)⟩
theorem own_cod {cs : List Int32} (h : Lat cs) : StrChars.Road.CodA cs 0 (Int32.ofNat cs.length) ((cs.map StrChars.lo8).map Value.int) := StrChars.Road.codOf rfl (fun c hc => (h.1 c hc).2)
abbrev strV (cs : List Int32) : List Value := (cs.map StrChars.lo8).map Value.int
theorem own_lat0 : Lat [] := ⟨fun c hc => (nomatch hc), by decide⟩
theorem own_latC {c : Int32} {cs : List Int32} (h1 : ¬ c < 0 ∧ ¬ (255 : Int32) < c) (h : Lat cs) (hl : cs.length < 4000) : Lat (c :: cs) := ⟨fun d hd => by
  rcases List.mem_cons.mp hd with rfl | q
  · exact h1
  · exact h.1 d q, by simp only [List.length_cons]; omega⟩
theorem own_latD {cs : List Int32} (h1 : ∀ c ∈ cs, ¬ c < 0 ∧ ¬ (255 : Int32) < c) (h2 : cs.length ≤ 4000) : Lat cs := ⟨h1, h2⟩
theorem own_range {x : Int32} (h1 : 0 ≤ x.toInt) (h2 : x.toInt ≤ 255) : ¬ x < 0 ∧ ¬ (255 : Int32) < x := by
  have e0 : (0 : Int32).toInt = 0 := rfl
  have e2 : (255 : Int32).toInt = 255 := rfl
  constructor <;> rw [Int32.lt_iff_toInt_lt] <;> omega


theorem own_safe0 {Z : State} {vm : Vm} {h : Heap} {x : Addr} : Safe Z [] vm h x := fun B => by obtain ⟨p, hp, -⟩ := B; cases hp
theorem own_safearr {Z : State} {EL : List (String × Nat)} {vm : Vm} {h : Heap} {a : Addr} {k : ClassId} {ty : FieldType} {z : Int32} {vs : List Value} {d : Value} (hal : Z.vm.Alike vm) (V : Arv Z h a k ty z vs d) (ht : ty ≠ .byte) : Safe Z EL vm h a := by
  obtain ⟨c, A, -⟩ := V
  exact Safe.arr hal A ht

def own_EL : List (String × Nat) := [("com/example/tetrad/tetrad/generate/SourceText", 22), ("java/lang/String", 7)]
theorem own_EW {Z : State} {a0 : Array Value} (hw : ∀ d ∈ tables_1, d.before a0 Z = true) : EW Z a0 own_EL := (EW.cons (hw _ (List.mem_of_getElem? (i := 79) rfl)) (by decide) (EW.cons (hw _ (List.mem_of_getElem? (i := 87) rfl)) (by decide) EW.nil))
theorem own_SA {Z : State} {a0 : Array Value} (hw : ∀ d ∈ tables_1, d.before a0 Z = true) : ∀ a ∈ Bundle.stringAtoms, a.before a0 Z = true := fun d hd => hw d ((by decide +kernel : ∀ d ∈ Bundle.stringAtoms, d ∈ tables_1) d hd)
theorem own_mem {p : String × Nat} (h : p ∈ own_EL) : p ∈ own_EL := h
theorem own_wn {Z : State} {a0 : Array Value} (hw : ∀ d ∈ tables_1, d.before a0 Z = true) : ∀ d ∈ StrChars.Road.words, d.before a0 Z = true := fun d hd => hw d ((by decide +kernel : ∀ d ∈ StrChars.Road.words, d ∈ tables_1) d hd)
section
variable {p : Program} {l : Launch} {e : Env} {R : Room} {s : State} {m : MethodId} {args : Array Value} {below : List Frame} {Z : State} {a0 : Array Value} {EL : List (String × Nat)} {h : Heap} {vm0 : Vm} {b : Addr}
theorem own_backSH {y : MethodName} {bytes : ByteArray} {maxL : Nat} {ret : Option FieldType} {rm : Room} {len W : Nat} {as' : Array Value} {Q : Option Value → Heap → List Loc → Prop}
    (hM : MetFree l y (head1 [Cond.code y bytes maxL ret] rm) (fun a U => a = as' ∧ Z.Warmed39 U.vm ∧ U.heap = h ∧ CHv Z EL U.vm h ∧ Safe Z EL U.vm h b) (fun _ _ _ _ _ => True) (fun _ U o U' => ∃ v L, o = .returned v ∧ Q v U'.heap L ∧ CHr Z EL U.vm U.heap U'.vm U'.heap ∧ ReturnedEndW U o U' L rm.cells rm.slots))
    (hZ : Z.Warmed39 vm0) (wc : (Cond.code y bytes maxL ret).before a0 Z = true) (wz : (Cond.initialized y.cls).before a0 Z = true) (hf : rm.frames + 1 ≤ R.frames) (hl : W + (maxL + 11) + rm.locals ≤ R.locals) (hEL : EW Z a0 EL) (H : CHv Z EL vm0 h) (hb : b < h.size) (hS : Safe Z EL vm0 h b) :
    BackS l R p e below (s.setVm vm0) args y len W (fun A a => a = as' ∧ A.U.heap = h ∧ A.cells + rm.cells ≤ R.cells ∧ A.slots + rm.slots ≤ R.slots)
      (fun A _ v B => ∃ L, Q v B.U.heap L ∧ B.locs = A.locs ++ L ∧ B.cells = A.cells + rm.cells ∧ B.slots = A.slots + rm.slots ∧ CHr Z EL vm0 h B.U.vm B.U.heap) :=
  BackS.of_freeW (bytes := bytes) (maxL := maxL) (ret := ret) (E := fun _ first o t L k n => k = rm.cells ∧ n = rm.slots ∧ (∃ v, o = .returned v ∧ Q v t.heap L) ∧ CHr Z EL first.vm first.heap t.vm t.heap) hM hf hl
    (fun m meth c A a Y hp => have hU : Z.Warmed39 A.U.vm := wtrans (s := s.setVm vm0) hZ Y.warmed
      ⟨by show (Cond.and _ .tt).before a A.U = true; rw [Cond.before_and, mv hU wc]; rfl, mv hU wc, mv hU wz, hp.2.2.1, hp.2.2.2⟩)
    (fun m meth c A a g mk Y hp => ⟨hp.1, wtrans (s := s.setVm vm0) hZ Y.warmed, hp.2.1, (CHv.at Y hZ hEL H).1, (CHv.at Y hZ hEL H).safe hb hS⟩) (fun _ _ _ _ _ _ _ _ _ => trivial)
    (fun _ _ _ _ ⟨v, L, h1, h2, h3, h4⟩ => ⟨L, _, _, h4, rfl, rfl, ⟨v, h1, h2⟩, h3⟩)
    (fun m meth c A a g mk v t L k n Y hp _ _ ⟨e1, e2, ⟨v', e3, e4⟩, e5⟩ => by
      cases e3; subst e1 e2
      refine ⟨L, e4, rfl, rfl, rfl, (CHv.at Y hZ hEL H).trans ?_⟩
      rw [← hp.2.1]; exact e5)
end
theorem own_same {s : State} {args : Array Value} {K : String} {y y2 : MethodName} (h2 : (Cond.selects K y2 y2).before args s = true) (e : y2.cls = y.cls) (hinst : (Cond.instanceMethod y).before args s = true) (hy : y.cls ≠ "java/lang/invoke/MethodHandle" ∧ y.cls ≠ "java/lang/invoke/VarHandle") : (Cond.sameMethod y.cls y.cls y.name y.desc).before args s = true := by
  obtain ⟨c, r, m, -, -, h3, -, mk, h5, h6⟩ := Cond.selects_spec h2
  obtain ⟨mm, methM, hnamed, hmethM, -, -⟩ := Cond.instanceMethod_spec hinst
  have hfound : s.methodFound? y.cls y.name y.desc = some mm := State.methodFound?_of_named hnamed hy
  have hc := findClass_of_methodNamed hnamed
  have hc2 := findClass_of_methodNamed h3
  rw [e] at hc2
  have hcls : mm.cls = m.cls := Option.some.inj (hc.symm.trans hc2)
  have hn' : s.methodNamed? ⟨y.cls, y.name, y.desc⟩ = some mm := hnamed
  simp only [Cond.before, Cond.holds, Cond.value, hc, hfound, hn', hcls, h5]
  simp [h6]
theorem own_nface {args : Array Value} {s : State} {K : String} {y y2 : MethodName} (h : (Cond.selects K y2 y2).before args s = true) (e : y2.cls = y.cls) : NotFace s y := fun r0 h0 => by
  obtain ⟨c2, r2, m2, q1, q2, q3, q4, kP, hkP, hkPi⟩ := Cond.selects_spec h
  have h1 := findClass_of_methodNamed h0
  have h2 := findClass_of_methodNamed q3
  rw [e] at h2
  have : r0.cls = m2.cls := Option.some.inj (h1.symm.trans h2)
  exact ⟨kP, by rw [this]; exact hkP, hkPi⟩
theorem own_selp {s : State} {args : Array Value} {K : String} {y y2 : MethodName} (h2 : (Cond.selects K y2 y2).before args s = true) (e : y2.cls = y.cls) (hpriv : s.PrivateAt y) (hinst : (Cond.instanceMethod y).before args s = true) (hy : y.cls ≠ "java/lang/invoke/MethodHandle" ∧ y.cls ≠ "java/lang/invoke/VarHandle") : (Cond.selects y.cls y y).before args s = true := by
  obtain ⟨c, r, m, h1, -, h3, -, mk, h5, h6⟩ := Cond.selects_spec h2
  exact Jvm.Stand.selects_self_of_private (by rw [← e]; exact findClass_of_methodNamed h3) h5 h6 hpriv hinst hy

def Sm (x : Int32) (n : Nat) : Prop := x.toInt = (n : Int) ∧ n ≤ 1000
theorem Sm.lit {x : Int32} {n : Nat} (h : x.toInt = (n : Int) ∧ n ≤ 1000) : Sm x n := h
theorem Sm.nn {x : Int32} {n : Nat} (h : Sm x n) : ¬ x < (0 : Int32) := by
  have e0 : (0 : Int32).toInt = 0 := rfl
  rw [Int32.lt_iff_toInt_lt, h.1]; omega
theorem Sm.nat {x : Int32} {n : Nat} (h : Sm x n) : x.toNatClampNeg = n := by
  simp only [Int32.toNatClampNeg, h.1]; omega
theorem Sm.le48 {x : Int32} {n : Nat} (h : Sm x n) (q : n ≤ 48) : x.toNatClampNeg ≤ 48 := by rw [h.nat]; exact q
theorem Sm.add {x y : Int32} {n m : Nat} (a : Sm x n) (b : Sm y m) (h : n + m ≤ 1000) : Sm (x + y) (n + m) := by
  have a1 := a.1; have b1 := b.1
  refine ⟨?_, h⟩
  rw [Jvm.Kit.i32_add (by omega) (by omega), a1, b1]; omega
theorem Sm.mul {x y : Int32} {n m : Nat} (a : Sm x n) (b : Sm y m) (hn : n ≤ 4) (hm : m ≤ 4) : Sm (x * y) (n * m) := by
  have a1 := a.1; have b1 := b.1
  have k : n * m ≤ 4 * 4 := Nat.mul_le_mul hn hm
  have e : x.toInt * y.toInt = ((n * m : Nat) : Int) := by rw [a1, b1]; simp
  refine ⟨?_, by omega⟩
  rw [Jvm.Kit.i32_mul (by rw [e]; omega) (by rw [e]; omega), e]
theorem Sm.big {x : Int32} {n : Nat} (h : Sm x n) : ¬ (2147483639 : Int32) < x := by
  have e0 : (2147483639 : Int32).toInt = 2147483639 := rfl
  have := h.1; have := h.2
  rw [Int32.lt_iff_toInt_lt]; omega
theorem Sm.ne1 {x : Int32} {n : Nat} (h : Sm x n) : ¬ x = (-1 : Int32) := fun e => by
  have e0 : (-1 : Int32).toInt = -1 := rfl
  have := h.1; rw [e, e0] at this; omega
theorem Sm.inj {x y : Int32} {n m : Nat} (a : Sm x n) (b : Sm y m) : x = y ↔ n = m := by
  have a1 := a.1; have b1 := b.1
  rw [← Int32.toInt_inj]; omega
theorem own_smne {x y : Int32} {n m : Nat} (a : Sm x n) (b : Sm y m) (h : n ≠ m) : ¬ x = y := fun e => h ((a.inj b).mp e)
theorem own_inb {c : Cell} {z j : Int32} {zn jn : Nat} (S : c.slots.size = z.toNatClampNeg) (sj : Sm j jn) (sz : Sm z zn) (h : jn < zn) : ¬ (j < 0 ∨ c.slots.size ≤ j.toNatClampNeg) := by
  rw [S, sj.nat, sz.nat]; intro q
  rcases q with q | q
  · exact sj.nn q
  · omega


abbrev z16 : List Value := [] ++ List.replicate 16 (.int (0 : Int32))
def cpy (vs : List Value) (n : Nat) (us : List Value) (sp m : Nat) : List Value := vs.take n ++ (List.range m).map (fun i => us.getD (sp + i) (.int (0 : Int32))) ++ vs.drop (n + m)
theorem own_cpy {Z : State} {h : Heap} {b : Addr} {k : ClassId} {z sp dp m : Int32} {spn dpn mn : Nat} {vs us : List Value} (hs : Sm sp spn) (hd : Sm dp dpn) (hm : Sm m mn) (V : Arv Z h b k .byte z (vs.take dp.toNatClampNeg ++ (List.range m.toNatClampNeg).map (fun i => us.getD (sp.toNatClampNeg + i) (.int (0 : Int32))) ++ vs.drop (dp.toNatClampNeg + m.toNatClampNeg)) (.int (0 : Int32))) : Arv Z h b k .byte z (cpy vs dpn us spn mn) (.int (0 : Int32)) := by
  rw [hs.nat, hd.nat, hm.nat] at V; exact V
theorem own_capn {x : Int32} {n c : Nat} (h : Sm x n) (q : n ≤ c) : x.toNatClampNeg ≤ c := by rw [h.nat]; exact q
theorem own_le3 {a b c : Int32} {x y z : Nat} (ha : Sm a x) (hb : Sm b y) (hc : Sm c z) (h : x + y ≤ z) : a.toNatClampNeg + b.toNatClampNeg ≤ c.toNatClampNeg := by rw [ha.nat, hb.nat, hc.nat]; exact h
theorem own_le2 {a b : Int32} {x y n : Nat} (ha : Sm a x) (hb : Sm b y) (h : x + y ≤ n) : a.toNatClampNeg + b.toNatClampNeg ≤ n := by rw [ha.nat, hb.nat]; exact h
theorem own_cpyl {vs us : List Value} {n sp m : Nat} (h : vs.length = 16) (q : n + m ≤ 16) : (cpy vs n us sp m).length = 16 := by simp [cpy, h]; omega
theorem own_z0 (m : Nat) : 0 + m ≤ m := by omega
theorem own_sh0 (x : Int32) : x >>> ((0 : Int32) &&& 31) = x := by
  have : ((0 : Int32) &&& 31) = 0 := by decide
  rw [this]; simp
theorem own_sl0 (x : Int32) : x <<< ((0 : Int32) &&& 31) = x := by
  have : ((0 : Int32) &&& 31) = 0 := by decide
  rw [this]; simp
theorem own_smsl {x : Int32} {n : Nat} (h : Sm x n) : Sm (x <<< ((0 : Int32) &&& 31)) n := by rw [own_sl0]; exact h
theorem own_ens {p : Int32} {n : Nat} (h : Sm p n) (q : n ≤ 16) : ¬ (0 : Int32) < (p - ((16 : Int32) >>> ((0 : Int32) &&& 31))) := by
  have e : ((16 : Int32) >>> ((0 : Int32) &&& 31)) = 16 := by decide
  have e16 : (16 : Int32).toInt = 16 := rfl
  have e0 : (0 : Int32).toInt = 0 := rfl
  have h1 := h.1
  rw [e, Int32.lt_iff_toInt_lt, Jvm.Kit.i32_sub (by omega) (by omega)]; omega
theorem own_sub0 (x : Int32) : (x - (0 : Int32)) = x := by simp
theorem own_n16 {x : Int32} {n : Nat} (h : Sm x n) (q : n < 16) : ¬ x = (16 : Int32) := fun e => by
  have := h.1; have e16 : (16 : Int32).toInt = 16 := rfl
  rw [e, e16] at this; omega
theorem own_min16 {x r : Int32} {n : Nat} (hr : r = (if x < ((16 : Int32) - (0 : Int32)) then x else ((16 : Int32) - (0 : Int32)))) (h : Sm x n) (q : n < 16) : Sm r n := by
  have e : ((16 : Int32) - (0 : Int32)) = 16 := by decide
  have e16 : (16 : Int32).toInt = 16 := rfl
  have h1 := h.1
  rw [hr, e, if_pos (by rw [Int32.lt_iff_toInt_lt]; omega)]; exact h
abbrev s4 : List Value := [.int (32 : Int32), .int (32 : Int32), .int (32 : Int32), .int (32 : Int32)]
theorem own_fi {Z : State} {h : Heap} {a : Addr} {C f d : String} {x y : Int32} (e : x = y) (F : Fld Z h a C f d (.int x)) : Fld Z h a C f d (.int y) := e ▸ F
theorem own_smlt {a b : Int32} {x y : Nat} (ha : Sm a x) (hb : Sm b y) (h : x < y) : a < b := by
  have h1 := ha.1; have h2 := hb.1
  rw [Int32.lt_iff_toInt_lt]; omega


theorem own_ch256 {x : Int32} (h : ¬ x < 0 ∧ ¬ (255 : Int32) < x) : ∃ k : Fin 256, x = Int32.ofNat k.val := by
  have e0 : (0 : Int32).toInt = 0 := rfl
  have e2 : (255 : Int32).toInt = 255 := rfl
  have h1 := h.1; have h2 := h.2
  rw [Int32.lt_iff_toInt_lt] at h1 h2
  refine ⟨⟨x.toInt.toNat, by omega⟩, ?_⟩
  apply Int32.toInt_inj.mp
  rw [Int32.toInt_ofNat_small (by show x.toInt.toNat < 2147483648; omega)]; show x.toInt = (x.toInt.toNat : Int); omega
theorem own_narC {x : Int32} (h : ¬ x < 0 ∧ ¬ (255 : Int32) < x) : nar .char x = x := by
  have t : ∀ k : Fin 256, nar .char (Int32.ofNat k.val) = Int32.ofNat k.val := by decide +kernel
  obtain ⟨k, rfl⟩ := own_ch256 h
  exact t k
theorem own_chb {x : Int32} (h : ¬ x < 0 ∧ ¬ (255 : Int32) < x) : ((StrChars.lo8 (nar .char x) &&& (255 : Int32)).toUInt32.toUInt16.toUInt32.toInt32) = x := by
  have t : ∀ k : Fin 256, ((StrChars.lo8 (nar .char (Int32.ofNat k.val)) &&& (255 : Int32)).toUInt32.toUInt16.toUInt32.toInt32) = Int32.ofNat k.val := by decide +kernel
  obtain ⟨k, rfl⟩ := own_ch256 h
  exact t k
theorem own_lat2 {x y : Int32} (h : ¬ x < 0 ∧ ¬ (255 : Int32) < x) (h' : ¬ y < 0 ∧ ¬ (255 : Int32) < y) : Lat [nar .char x, nar .char y] := own_latC (by rw [own_narC h]; exact h) (own_latC (by rw [own_narC h']; exact h') own_lat0 (by simp)) (by simp)
theorem own_and255 (x : Int32) : ¬ ((x &&& (255 : Int32)).toUInt32.toUInt16.toUInt32.toInt32) < 0 ∧ ¬ (255 : Int32) < ((x &&& (255 : Int32)).toUInt32.toUInt16.toUInt32.toInt32) := by
  have t : ∀ k : Fin 256, ¬ ((Int32.ofNat k.val).toUInt32.toUInt16.toUInt32.toInt32) < 0 ∧ ¬ (255 : Int32) < ((Int32.ofNat k.val).toUInt32.toUInt16.toUInt32.toInt32) := by decide +kernel
  have m : (x &&& (255 : Int32)).toInt = x.toInt % 2 ^ 8 := Jvm.Kit.i32_mask _ _ (by decide) (by decide)
  have e : (x &&& 255) = Int32.ofNat (x &&& 255).toInt.toNat := by
    apply Int32.toInt_inj.mp
    rw [Int32.toInt_ofNat_small (by omega)]; omega
  rw [e]
  exact t ⟨(x &&& 255).toInt.toNat, by omega⟩
theorem own_chr {x u : Int32} (h : u = ((x &&& (255 : Int32)).toUInt32.toUInt16.toUInt32.toInt32)) : ¬ u < 0 ∧ ¬ (255 : Int32) < u := by rw [h]; exact own_and255 x
theorem own_and3c (x : Int32) : (x &&& (3 : Int32)) = 0 ∨ (x &&& (3 : Int32)) = 1 ∨ (x &&& (3 : Int32)) = 2 ∨ (x &&& (3 : Int32)) = 3 := by
  have m : (x &&& (3 : Int32)).toInt = x.toInt % 2 ^ 2 := Jvm.Kit.i32_mask _ _ (by decide) (by decide)
  have e1 : (1 : Int32).toInt = 1 := rfl
  have e0 : (0 : Int32).toInt = 0 := rfl
  have e2 : (2 : Int32).toInt = 2 := rfl
  have e3 : (3 : Int32).toInt = 3 := rfl
  simp only [← Int32.toInt_inj]; omega
theorem own_and1c (x : Int32) : (x &&& (1 : Int32)) = 0 ∨ (x &&& (1 : Int32)) = 1 := by
  have m : (x &&& (1 : Int32)).toInt = x.toInt % 2 ^ 1 := Jvm.Kit.i32_mask _ _ (by decide) (by decide)
  have e1 : (1 : Int32).toInt = 1 := rfl
  have e0 : (0 : Int32).toInt = 0 := rfl
  simp only [← Int32.toInt_inj]; omega
theorem own_and3 {x u : Int32} (h : u = (x &&& (3 : Int32))) (h0 : ¬ u = (0 : Int32)) (h1 : ¬ u = (1 : Int32)) (h2 : ¬ u = (2 : Int32)) : u = (3 : Int32) := by
  rcases own_and3c x with q | q | q | q
  · exact absurd (h.trans q) h0
  · exact absurd (h.trans q) h1
  · exact absurd (h.trans q) h2
  · exact h.trans q


theorem own_dep {p n m i d1 d2 d3 d4 d5 d6 : Int32} (hn : n = (p &&& (3 : Int32))) (hm : m = ((1 : Int32) + (((p.toUInt32 >>> ((2 : Int32) &&& 31).toUInt32).toInt32) &&& (1 : Int32)))) (hi : i = (n + m))
    (e1 : d1 = (if i < (1 : Int32) then (0 : Int32) else ((0 : Int32) + (1 : Int32)))) (e2 : d2 = (if i < (2 : Int32) then d1 else (d1 + (1 : Int32)))) (e3 : d3 = (if i < (3 : Int32) then d2 else (d2 + (1 : Int32)))) (e4 : d4 = (if i < (4 : Int32) then d3 else (d3 + (1 : Int32)))) (e5 : d5 = (if i < (5 : Int32) then d4 else (d4 + (1 : Int32))))
    (e6 : d6 = (if m = (2 : Int32) then ((d5 - (1 : Int32)) - (1 : Int32)) else (d5 - (1 : Int32)))) : d6 = n := by
  have q1 := own_and3c p
  rw [← hn] at q1
  have q2 : m = 1 ∨ m = 2 := by
    rcases own_and1c ((p.toUInt32 >>> ((2 : Int32) &&& 31).toUInt32).toInt32) with q | q
    · left; rw [hm, q]; decide
    · right; rw [hm, q]; decide
  clear hn hm
  subst e6 e5 e4 e3 e2 e1 hi
  rcases q1 with rfl | rfl | rfl | rfl <;> rcases q2 with rfl | rfl <;> decide

theorem tw {a0 : Array Value} {Z : State} (hw : ∀ d ∈ tables_1, d.before a0 Z = true) (i : Nat) {d : Jvm.Cond} (e : tables_1[i]? = some d) : d.before a0 Z = true := hw d (List.mem_of_getElem? e)
theorem sn {a0 : Array Value} {Z : State} {C O n d O' n' d' : String} {p : Prop} (t t' : FieldType) (L : Laid Z a0 C O n d) (L' : Laid Z a0 C O' n' d') (hn : n ≠ n' := by decide) (ht : parseFieldDescriptor d = some t := by decide) (ht' : parseFieldDescriptor d' = some t' := by decide) : p ∨ Jvm.RoadKit.slotOf Z O n d ≠ Jvm.RoadKit.slotOf Z O' n' d' := Or.inr (slot_ne L L' hn ht ht')
abbrev Rf (a : Addr) : Slot := .val (.ref a)
abbrev It (z : Int32) : Slot := .val (.int z)
abbrev rk (f c s l : Nat) : Room := { frames := f, cells := c, slots := s, locals := l }
abbrev SG (tb : Tables) (e : Env) (bl : List Frame) (A B : State) : Prop := ∀ target, Steps tb e bl A target → Steps tb e bl B target
theorem w0 {g : JFrame} {rest : List Value} {W : Nat} (h : 2 * g.monitorRoom + (rest.map fun v => v.category).sum = W) : 2 * g.monitorRoom + (rest.map fun v => v.category).sum ≤ W := Nat.le_of_eq h
theorem own_pre {tb : Tables} {e : Env} {bl : List Frame} {s : State} {F G : JFrame} (q : F = G) : ∀ t, Steps tb e bl (s.setTop G) t → Steps tb e bl (s.setTop F) t := fun t k => castTop q k
theorem tm {a0 a1 : Array Value} {Z s : State} (hZ : Z.Warmed39 s.vm) (hw : ∀ d ∈ tables_1, d.before a0 Z = true) (i : Nat) {d : Jvm.Cond} (e : tables_1[i]? = some d) (hd : d.before a0 Z = true → d.before a1 s = true) : d.before a1 s = true := hd (tw hw i e)
set_option maxRecDepth 65536
set_option maxHeartbeats 40000000
abbrev m_0 : MethodName := ⟨"java/lang/String", "coder", "()B"⟩
abbrev m_1 : MethodName := ⟨"java/lang/String", "isLatin1", "()Z"⟩
abbrev m_2 : MethodName := ⟨"java/lang/String", "length", "()I"⟩
abbrev m_3 : MethodName := ⟨"java/lang/String", "isEmpty", "()Z"⟩
abbrev m_4 : MethodName := ⟨"java/lang/AbstractStringBuilder", "isLatin1", "()Z"⟩
abbrev m_5 : MethodName := ⟨"java/lang/AbstractStringBuilder", "getValue", "()[B"⟩
abbrev m_6 : MethodName := ⟨"java/lang/AbstractStringBuilder", "length", "()I"⟩
abbrev m_7 : MethodName := ⟨"java/lang/StringBuilder", "length", "()I"⟩
abbrev m_8 : MethodName := ⟨"java/lang/AbstractStringBuilder", "ensureCapacityInternal", "(I)V"⟩
abbrev m_9 : MethodName := ⟨"java/lang/AbstractStringBuilder", "<init>", "(I)V"⟩
abbrev m_10 : MethodName := ⟨"java/lang/StringBuilder", "<init>", "()V"⟩
abbrev m_11 : MethodName := ⟨"com/example/tetrad/tetrad/generate/SourceText", "<init>", "()V"⟩
abbrev m_12 : MethodName := ⟨"com/example/tetrad/tetrad/generate/SourceText", "indent", "()Lcom/example/tetrad/tetrad/generate/SourceText;"⟩
abbrev m_13 : MethodName := ⟨"com/example/tetrad/tetrad/generate/SourceText", "dedent", "()Lcom/example/tetrad/tetrad/generate/SourceText;"⟩
abbrev m_14 : MethodName := ⟨"java/lang/AbstractStringBuilder", "inflateIfNeededFor", "(Ljava/lang/String;)V"⟩
abbrev m_15 : MethodName := ⟨"java/lang/String", "getBytes", "([BIB)V"⟩
abbrev m_16 : MethodName := ⟨"java/lang/AbstractStringBuilder", "putStringAt", "(ILjava/lang/String;)V"⟩
abbrev m_17 : MethodName := ⟨"java/lang/AbstractStringBuilder", "append", "(Ljava/lang/String;)Ljava/lang/AbstractStringBuilder;"⟩
abbrev m_18 : MethodName := ⟨"java/lang/StringBuilder", "append", "(Ljava/lang/String;)Ljava/lang/StringBuilder;"⟩
abbrev m_19 : MethodName := ⟨"java/lang/StringLatin1", "canEncode", "(C)Z"⟩
abbrev m_20 : MethodName := ⟨"java/lang/AbstractStringBuilder", "append", "(C)Ljava/lang/AbstractStringBuilder;"⟩
abbrev m_21 : MethodName := ⟨"java/lang/StringBuilder", "append", "(C)Ljava/lang/StringBuilder;"⟩
abbrev m_22 : MethodName := ⟨"java/lang/Math", "min", "(II)I"⟩
abbrev m_23 : MethodName := ⟨"java/util/Arrays", "checkLength", "(II)V"⟩
abbrev m_24 : MethodName := ⟨"java/util/Arrays", "copyOfRangeByte", "([BII)[B"⟩
abbrev m_25 : MethodName := ⟨"java/util/Arrays", "copyOfRange", "([BII)[B"⟩
abbrev m_26 : MethodName := ⟨"java/lang/String", "<init>", "(Ljava/lang/AbstractStringBuilder;Ljava/lang/Void;)V"⟩
abbrev m_27 : MethodName := ⟨"java/lang/String", "<init>", "(Ljava/lang/StringBuilder;)V"⟩
abbrev m_28 : MethodName := ⟨"java/lang/StringBuilder", "toString", "()Ljava/lang/String;"⟩
abbrev m_29 : MethodName := ⟨"com/example/tetrad/tetrad/generate/SourceText", "toString", "()Ljava/lang/String;"⟩
abbrev m_30 : MethodName := ⟨"java/lang/String", "<init>", "([BB)V"⟩
abbrev m_31 : MethodName := ⟨"java/lang/String", "repeatCopyRest", "([BIII)V"⟩
abbrev m_32 : MethodName := ⟨"java/lang/String", "repeat", "(I)Ljava/lang/String;"⟩
abbrev m_33 : MethodName := ⟨"com/example/tetrad/tetrad/generate/SourceText", "line", "(Ljava/lang/String;)Lcom/example/tetrad/tetrad/generate/SourceText;"⟩
abbrev m_34 : MethodName := ⟨"jdk/internal/util/Preconditions", "checkIndex", "(IILjava/util/function/BiFunction;)I"⟩
abbrev m_35 : MethodName := ⟨"java/lang/String", "checkIndex", "(II)V"⟩
abbrev m_36 : MethodName := ⟨"java/lang/StringLatin1", "charAt", "([BI)C"⟩
abbrev m_37 : MethodName := ⟨"java/lang/String", "charAt", "(I)C"⟩
abbrev m_38 : MethodName := ⟨"com/example/tetrad/tetrad/generate/SourceTextDedentPinLaw", "sp", "(Ljava/lang/String;II)Z"⟩
abbrev m_39 : MethodName := ⟨"com/example/tetrad/tetrad/generate/SourceTextDedentPinLaw", "spaces", "(Ljava/lang/String;I)Z"⟩
abbrev m_40 : MethodName := ⟨"java/lang/String", "<init>", "([C)V"⟩
abbrev TS_0 (Z : State) (zC : Int32) : Prop := Sta Z Z.heap "java/lang/String" "COMPACT_STRINGS" "Z" (.int zC)
abbrev TS_1 (Z : State) : Prop := Sta Z Z.heap "jdk/internal/util/Preconditions" "SIOOBE_FORMATTER" "Ljava/util/function/BiFunction;" .null
abbrev TS_2 (Z : State) (wF : Addr) : Prop := Sta Z Z.heap "jdk/internal/util/Preconditions" "SIOOBE_FORMATTER" "Ljava/util/function/BiFunction;" (.ref wF)
abbrev TS_3 (Z : State) (vFM : Value) : Prop := Sta Z Z.heap "jdk/internal/util/Preconditions" "SIOOBE_FORMATTER" "Ljava/util/function/BiFunction;" vFM
def Q18 (Z : State) (a1 : Addr) (zC : Int32) (h0 : Heap) (n0 : Nat) (v : Option Value) (h : Heap) (L : List Loc) : Prop := v = some (.int (0 : Int32)) ∧ Fr n0 L ∧ h = h0
theorem ef_18 (m : MethodId) (x0 : Addr) : entryFrame m #[(.ref x0)] 1 = mkF m 0 #[.val (.ref x0)] [] := by first | (simp [entryFrame, mkF, argsToLocals, Value.category]; done) | rfl
theorem rm18 (l : Launch) (Z : State) (a0 : Array Value) (hw : ∀ d ∈ tables_1, d.before a0 Z = true) (ws : List Jvm.Cond) (a1 : Addr) (zC : Int32) (h0 : Heap) (n0 : Nat) (O0 : Old Z n0 h0) (hCS : ¬ zC = 0) (sC : TS_0 Z zC) (F_coder_a1 : Fld Z h0 a1 "java/lang/String" "coder" "B" (.int (0 : Int32))) :
    MetFree l m_0 (head1 (Jvm.Cond.code m_0 jdk_42_method_152_code 1 (some .byte) :: ws) (rk 0 0 0 0)) (fun a U => a = #[(.ref a1)] ∧ Z.Warmed39 U.vm ∧ U.heap = h0) (fun _ _ _ _ _ => True) (fun _ U o U' => ∃ v L, o = .returned v ∧ Q18 Z a1 zC h0 n0 v U'.heap L ∧ FrameEnd U o U' L (rk 0 0 0 0).cells (rk 0 0 0 0).slots) := by
  refine MetFree.of_bodySF (plainFor_of_name pn_0) hisR ?_
  intro p e s m args below meth c s₁ Bd hml0 hP hK
  obtain ⟨rfl, hZ, hh⟩ := hP
  have hx := Bd.exec
  have hby := Bd.bytes
  have hml : c.maxLocals = 1 := hml0
  have hown : s.vm.findClass "java/lang/String" = some m.cls := findClass_of_methodNamed Bd.named
  have X0 : Stand p l e (rk 0 0 0 0) s m #[(.ref a1)] below meth c s₁ [] 0 0 := Stand.of_body Bd
  have e0 : s₁.heap = h0 := by rw [← hh, Bd.state]; rfl
  have N0 := Fr.nil n0
  have pre0 := own_pre (tb := p.tables) (e := e) (bl := below) (s := s₁) (ef_18 m a1)
  obtain ⟨T1, X1, e1, st1⟩ := getS2 X0 hx hZ hown (host := "") (Or.inl (tw hw 54 rfl)) Via.refl e0 (sC.ext O0.2) (g := (mkF m 0 #[Rf a1] [])) rfl (hb hby d18_0)
  obtain ⟨T2, X2, e2, st2⟩ := getF X1 hx hZ hown (host := "") (Or.inl (tw hw 65 rfl)) Via.refl e1 F_coder_a1 (g := (mkF m 7 #[Rf a1] [(.ref a1)])) rfl rfl (hb hby d18_7)
  have sg3 : SG p.tables e below (T2.setTop (mkF m 14 #[Rf a1] [(.int (0 : Int32))])) (s₁.setTop (mkF m 0 #[Rf a1] [])) := by
    intro target kt
    show Steps _ _ _ (s₁.setTop (mkF m 0 #[Rf a1] [])) _
    refine st1 _ ?_
    refine XS.ifNo X1.here hx rfl (hb hby d18_3) rfl ((if0 _ _).trans (feq hCS).1) ?_
    refine XS.aloadN X1.here hx rfl (hb hby d18_6) rfl rfl ?_
    refine st2 _ ?_
    refine XS.goto X2.here hx rfl (pc0 := 10) (pc' := 14) rfl (hb hby d18_10) (by decide) (by decide) ?_
    exact kt
  obtain ⟨fs, hr, hrun, hended, hW, hsame⟩ := X2.leave (v := some (.int (0 : Int32))) (fun h => by rw [Bd.returns] at h; cases h)
  refine ⟨_, _, pre0 _ (sg3 _ (?_)), hrun, hended, _, _, rfl, ?_, ⟨_, rfl⟩, hW, hsame.mono (by decide) (by decide)⟩
  · show Steps _ _ _ (T2.setTop (mkF m 14 #[Rf a1] [(.int (0 : Int32))])) _
    exact retN X2 hx (t := .byte) Bd.returns (by simp) (hb hby d18_14) hr
  · show Q18 Z a1 zC h0 n0 _ T2.heap _
    rw [e2]
    exact ⟨rfl, N0, rfl⟩
def Q41 (Z : State) (a1 : Addr) (zC : Int32) (h0 : Heap) (n0 : Nat) (v : Option Value) (h : Heap) (L : List Loc) : Prop := v = some (.int (1 : Int32)) ∧ Fr n0 L ∧ h = h0
theorem rm41 (l : Launch) (Z : State) (a0 : Array Value) (hw : ∀ d ∈ tables_1, d.before a0 Z = true) (ws : List Jvm.Cond) (a1 : Addr) (zC : Int32) (h0 : Heap) (n0 : Nat) (O0 : Old Z n0 h0) (hCS : ¬ zC = 0) (sC : TS_0 Z zC) (F_coder_a1 : Fld Z h0 a1 "java/lang/String" "coder" "B" (.int (0 : Int32))) :
    MetFree l m_1 (head1 (Jvm.Cond.code m_1 jdk_42_method_154_code 1 (some .boolean) :: ws) (rk 0 0 0 0)) (fun a U => a = #[(.ref a1)] ∧ Z.Warmed39 U.vm ∧ U.heap = h0) (fun _ _ _ _ _ => True) (fun _ U o U' => ∃ v L, o = .returned v ∧ Q41 Z a1 zC h0 n0 v U'.heap L ∧ FrameEnd U o U' L (rk 0 0 0 0).cells (rk 0 0 0 0).slots) := by
  refine MetFree.of_bodySF (plainFor_of_name pn_0) hisR ?_
  intro p e s m args below meth c s₁ Bd hml0 hP hK
  obtain ⟨rfl, hZ, hh⟩ := hP
  have hx := Bd.exec
  have hby := Bd.bytes
  have hml : c.maxLocals = 1 := hml0
  have hown : s.vm.findClass "java/lang/String" = some m.cls := findClass_of_methodNamed Bd.named
  have X0 : Stand p l e (rk 0 0 0 0) s m #[(.ref a1)] below meth c s₁ [] 0 0 := Stand.of_body Bd
  have e0 : s₁.heap = h0 := by rw [← hh, Bd.state]; rfl
  have N0 := Fr.nil n0
  have pre0 := own_pre (tb := p.tables) (e := e) (bl := below) (s := s₁) (ef_18 m a1)
  obtain ⟨T1, X1, e1, st1⟩ := getS2 X0 hx hZ hown (host := "") (Or.inl (tw hw 54 rfl)) Via.refl e0 (sC.ext O0.2) (g := (mkF m 0 #[Rf a1] [])) rfl (hb hby d41_0)
  obtain ⟨T2, X2, e2, st2⟩ := getF X1 hx hZ hown (host := "") (Or.inl (tw hw 65 rfl)) Via.refl e1 F_coder_a1 (g := (mkF m 7 #[Rf a1] [(.ref a1)])) rfl rfl (hb hby d41_7)
  have sg3 : SG p.tables e below (T2.setTop (mkF m 18 #[Rf a1] [(.int (1 : Int32))])) (s₁.setTop (mkF m 0 #[Rf a1] [])) := by
    intro target kt
    show Steps _ _ _ (s₁.setTop (mkF m 0 #[Rf a1] [])) _
    refine st1 _ ?_
    refine XS.ifNo X1.here hx rfl (hb hby d41_3) rfl ((if0 _ _).trans (feq hCS).1) ?_
    refine XS.aloadN X1.here hx rfl (hb hby d41_6) rfl rfl ?_
    refine st2 _ ?_
    refine XS.ifNo X2.here hx rfl (hb hby d41_10) rfl ((if0 _ _).trans (teq (by decide : (0 : Int32) = (0 : Int32))).2) ?_
    refine XS.iconst X2.here hx rfl (hb hby d41_13) ?_
    refine XS.goto X2.here hx rfl (pc0 := 14) (pc' := 18) rfl (hb hby d41_14) (by decide) (by decide) ?_
    exact kt
  obtain ⟨fs, hr, hrun, hended, hW, hsame⟩ := X2.leave (v := some (.int (1 : Int32))) (fun h => by rw [Bd.returns] at h; cases h)
  refine ⟨_, _, pre0 _ (sg3 _ (?_)), hrun, hended, _, _, rfl, ?_, ⟨_, rfl⟩, hW, hsame.mono (by decide) (by decide)⟩
  · show Steps _ _ _ (T2.setTop (mkF m 18 #[Rf a1] [(.int (1 : Int32))])) _
    exact retN X2 hx (t := .boolean) Bd.returns (by simp) (hb hby d41_18) hr
  · show Q41 Z a1 zC h0 n0 _ T2.heap _
    rw [e2]
    exact ⟨rfl, N0, rfl⟩
def Q17 (Z : State) (a1 : Addr) (tv : Addr) (zm : Int32) (us : List Value) (zC : Int32) (kt : ClassId) (h0 : Heap) (n0 : Nat) (v : Option Value) (h : Heap) (L : List Loc) : Prop := v = some (.int zm) ∧ Fr n0 L ∧ h = h0
theorem rm17 (l : Launch) (Z : State) (a0 : Array Value) (hw : ∀ d ∈ tables_1, d.before a0 Z = true) (ws : List Jvm.Cond) (a1 : Addr) (tv : Addr) (zm : Int32) (us : List Value) (zC : Int32) (kt : ClassId) (h0 : Heap) (n0 : Nat) (O0 : Old Z n0 h0) (hCS : ¬ zC = 0) (sC : TS_0 Z zC) (E_a1 : Exa Z h0 a1 "java/lang/String") (F_coder_a1 : Fld Z h0 a1 "java/lang/String" "coder" "B" (.int (0 : Int32))) (F_value_a1 : Fld Z h0 a1 "java/lang/String" "value" "[B" (.ref tv)) (A_tv : Arv Z h0 tv kt .byte zm us (.int (0 : Int32))) :
    MetFree l m_2 (head1 (Jvm.Cond.code m_2 jdk_42_method_54_code 1 (some .int) :: ws) (rk 1 0 0 13)) (fun a U => a = #[(.ref a1)] ∧ Z.Warmed39 U.vm ∧ U.heap = h0) (fun _ _ _ _ _ => True) (fun _ U o U' => ∃ v L, o = .returned v ∧ Q17 Z a1 tv zm us zC kt h0 n0 v U'.heap L ∧ FrameEnd U o U' L (rk 1 0 0 13).cells (rk 1 0 0 13).slots) := by
  refine MetFree.of_bodySF (plainFor_of_name pn_0) hisR ?_
  intro p e s m args below meth c s₁ Bd hml0 hP hK
  obtain ⟨rfl, hZ, hh⟩ := hP
  have hx := Bd.exec
  have hby := Bd.bytes
  have hml : c.maxLocals = 1 := hml0
  have hown : s.vm.findClass "java/lang/String" = some m.cls := findClass_of_methodNamed Bd.named
  have X0 : Stand p l e (rk 1 0 0 13) s m #[(.ref a1)] below meth c s₁ [] 0 0 := Stand.of_body Bd
  have e0 : s₁.heap = h0 := by rw [← hh, Bd.state]; rfl
  have N0 := Fr.nil n0
  have pre0 := own_pre (tb := p.tables) (e := e) (bl := below) (s := s₁) (ef_18 m a1)
  obtain ⟨T1, X1, e1, st1⟩ := getF X0 hx hZ hown (host := "") (Or.inl (tw hw 67 rfl)) Via.refl e0 F_value_a1 (g := (mkF m 1 #[Rf a1] [(.ref a1)])) rfl rfl (hb hby d17_1)
  obtain ⟨cl2, Ar2, -, Sz2, Nn2, -, -⟩ := id A_tv
  obtain ⟨cq3, kq3, q3a, q3b, q3c⟩ := isOf hZ e1 E_a1
  obtain ⟨_, _, ⟨T3, L3, k3, n3⟩, -, X3, ⟨Lc3, hQ3, l3, y3, z3⟩, st3⟩ := X1.virtualBack hx (y := m_0) (z := m_0) hown (mvT hZ (tw hw 103 rfl)) (mvT hZ (tw hw 104 rfl)) (notFace_of_selects (args := #[]) (mvT hZ (tw hw 106 rfl))) (mvT hZ (tw hw 106 rfl)) (mvT hZ (tw hw 105 rfl)) (by decide) (backOf (W := 1) (rm18 l Z a0 hw [] a1 zC h0 n0 O0 hCS sC F_coder_a1) hZ (tw hw 107 rfl) (tw hw 23 rfl) (by decide) (by decide)) q3a q3c (g := (mkF m 6 #[Rf a1] [(.ref a1), (.int zm)])) rfl (by rw [hml]; rfl) (Steps.refl _) (argsL := []) (rest := [(.int zm)]) (lenOf pd_0 rfl) rfl (w0 rfl) (hb hby d17_6) (fun _ _ => ⟨rfl, e1, (by decide : 0 + 0 ≤ _), (by decide : 0 + 0 ≤ _)⟩)
  dsimp only [Pt.U, Pt.locs, Pt.cells, Pt.slots] at X3 l3 y3 z3 st3 hQ3
  subst l3 y3 z3
  obtain ⟨rfl, N3q, e3⟩ := hQ3
  have N3 := Fr.app N0 N3q
  have sg4 : SG p.tables e below (T3.setTop (mkF m 10 #[Rf a1] [(.int (zm >>> ((0 : Int32) &&& 31)))])) (s₁.setTop (mkF m 0 #[Rf a1] [])) := by
    intro target kt
    show Steps _ _ _ (s₁.setTop (mkF m 0 #[Rf a1] [])) _
    refine XS.aloadN X0.here hx rfl (hb hby d17_0) rfl rfl ?_
    refine st1 _ ?_
    refine X1.arraylength hx (own_rwh e1 Ar2.1) (State.isArrayOf_alike hZ.alike Ar2.2.1) (g := (mkF m 4 #[Rf a1] [(.ref tv)])) rfl rfl (hb hby d17_4) _ ?_
    rw [len_of Sz2 Nn2]
    show Steps _ _ _ (T1.setTop (mkF m 5 #[Rf a1] [(.int zm)])) _
    refine XS.aloadN X1.here hx rfl (hb hby d17_5) rfl rfl ?_
    refine st3.trans ?_
    refine XS.ishr X3.here hx rfl (hb hby d17_9) rfl ?_
    exact kt
  obtain ⟨fs, hr, hrun, hended, hW, hsame⟩ := X3.leave (v := some (.int (zm >>> ((0 : Int32) &&& 31)))) (fun h => by rw [Bd.returns] at h; cases h)
  refine ⟨_, _, pre0 _ (sg4 _ (?_)), hrun, hended, _, _, rfl, ?_, ⟨_, rfl⟩, hW, hsame.mono (by decide) (by decide)⟩
  · show Steps _ _ _ (T3.setTop (mkF m 10 #[Rf a1] [(.int (zm >>> ((0 : Int32) &&& 31)))])) _
    exact retI X3 hx Bd.returns (hb hby d17_10) hr
  · show Q17 Z a1 tv zm us zC kt h0 n0 _ T3.heap _
    rw [e3]
    exact ⟨(by rw [own_sh0]), N3, rfl⟩
def Q13_n (Z : State) (a1 : Addr) (tv : Addr) (zm : Int32) (us : List Value) (kt : ClassId) (h0 : Heap) (n0 : Nat) (v : Option Value) (h : Heap) (L : List Loc) : Prop := v = some (.int (0 : Int32)) ∧ Fr n0 L ∧ h = h0
theorem rm13_n (l : Launch) (Z : State) (a0 : Array Value) (hw : ∀ d ∈ tables_1, d.before a0 Z = true) (ws : List Jvm.Cond) (a1 : Addr) (tv : Addr) (zm : Int32) (us : List Value) (kt : ClassId) (h0 : Heap) (n0 : Nat) (O0 : Old Z n0 h0) (h_ne : ¬ zm = (0 : Int32)) (E_a1 : Exa Z h0 a1 "java/lang/String") (F_coder_a1 : Fld Z h0 a1 "java/lang/String" "coder" "B" (.int (0 : Int32))) (F_value_a1 : Fld Z h0 a1 "java/lang/String" "value" "[B" (.ref tv)) (A_tv : Arv Z h0 tv kt .byte zm us (.int (0 : Int32))) :
    MetFree l m_3 (head1 (Jvm.Cond.code m_3 jdk_42_method_55_code 1 (some .boolean) :: ws) (rk 0 0 0 0)) (fun a U => a = #[(.ref a1)] ∧ Z.Warmed39 U.vm ∧ U.heap = h0) (fun _ _ _ _ _ => True) (fun _ U o U' => ∃ v L, o = .returned v ∧ Q13_n Z a1 tv zm us kt h0 n0 v U'.heap L ∧ FrameEnd U o U' L (rk 0 0 0 0).cells (rk 0 0 0 0).slots) := by
  refine MetFree.of_bodySF (plainFor_of_name pn_0) hisR ?_
  intro p e s m args below meth c s₁ Bd hml0 hP hK
  obtain ⟨rfl, hZ, hh⟩ := hP
  have hx := Bd.exec
  have hby := Bd.bytes
  have hml : c.maxLocals = 1 := hml0
  have hown : s.vm.findClass "java/lang/String" = some m.cls := findClass_of_methodNamed Bd.named
  have X0 : Stand p l e (rk 0 0 0 0) s m #[(.ref a1)] below meth c s₁ [] 0 0 := Stand.of_body Bd
  have e0 : s₁.heap = h0 := by rw [← hh, Bd.state]; rfl
  have N0 := Fr.nil n0
  have pre0 := own_pre (tb := p.tables) (e := e) (bl := below) (s := s₁) (ef_18 m a1)
  obtain ⟨T1, X1, e1, st1⟩ := getF X0 hx hZ hown (host := "") (Or.inl (tw hw 67 rfl)) Via.refl e0 F_value_a1 (g := (mkF m 1 #[Rf a1] [(.ref a1)])) rfl rfl (hb hby d13_1)
  obtain ⟨cl2, Ar2, -, Sz2, Nn2, -, -⟩ := id A_tv
  have sg3 : SG p.tables e below (T1.setTop (mkF m 13 #[Rf a1] [(.int (0 : Int32))])) (s₁.setTop (mkF m 0 #[Rf a1] [])) := by
    intro target kt
    show Steps _ _ _ (s₁.setTop (mkF m 0 #[Rf a1] [])) _
    refine XS.aloadN X0.here hx rfl (hb hby d13_0) rfl rfl ?_
    refine st1 _ ?_
    refine X1.arraylength hx (own_rwh e1 Ar2.1) (State.isArrayOf_alike hZ.alike Ar2.2.1) (g := (mkF m 4 #[Rf a1] [(.ref tv)])) rfl rfl (hb hby d13_4) _ ?_
    rw [len_of Sz2 Nn2]
    show Steps _ _ _ (T1.setTop (mkF m 5 #[Rf a1] [(.int zm)])) _
    refine XS.ifYes X1.here hx rfl (pc0 := 5) (pc' := 12) rfl (hb hby d13_5) rfl ((if0 _ _).trans (feq h_ne).2) (by decide) (by decide) ?_
    refine XS.iconst X1.here hx rfl (hb hby d13_12) ?_
    exact kt
  obtain ⟨fs, hr, hrun, hended, hW, hsame⟩ := X1.leave (v := some (.int (0 : Int32))) (fun h => by rw [Bd.returns] at h; cases h)
  refine ⟨_, _, pre0 _ (sg3 _ (?_)), hrun, hended, _, _, rfl, ?_, ⟨_, rfl⟩, hW, hsame.mono (by decide) (by decide)⟩
  · show Steps _ _ _ (T1.setTop (mkF m 13 #[Rf a1] [(.int (0 : Int32))])) _
    exact retN X1 hx (t := .boolean) Bd.returns (by simp) (hb hby d13_13) hr
  · show Q13_n Z a1 tv zm us kt h0 n0 _ T1.heap _
    rw [e1]
    exact ⟨rfl, N0, rfl⟩
def Q13_e (Z : State) (a1 : Addr) (tv : Addr) (us : List Value) (kt : ClassId) (h0 : Heap) (n0 : Nat) (v : Option Value) (h : Heap) (L : List Loc) : Prop := v = some (.int (1 : Int32)) ∧ Fr n0 L ∧ h = h0
theorem rm13_e (l : Launch) (Z : State) (a0 : Array Value) (hw : ∀ d ∈ tables_1, d.before a0 Z = true) (ws : List Jvm.Cond) (a1 : Addr) (tv : Addr) (us : List Value) (kt : ClassId) (h0 : Heap) (n0 : Nat) (O0 : Old Z n0 h0) (E_a1 : Exa Z h0 a1 "java/lang/String") (F_coder_a1 : Fld Z h0 a1 "java/lang/String" "coder" "B" (.int (0 : Int32))) (F_value_a1 : Fld Z h0 a1 "java/lang/String" "value" "[B" (.ref tv)) (A_tv : Arv Z h0 tv kt .byte (0 : Int32) us (.int (0 : Int32))) :
    MetFree l m_3 (head1 (Jvm.Cond.code m_3 jdk_42_method_55_code 1 (some .boolean) :: ws) (rk 0 0 0 0)) (fun a U => a = #[(.ref a1)] ∧ Z.Warmed39 U.vm ∧ U.heap = h0) (fun _ _ _ _ _ => True) (fun _ U o U' => ∃ v L, o = .returned v ∧ Q13_e Z a1 tv us kt h0 n0 v U'.heap L ∧ FrameEnd U o U' L (rk 0 0 0 0).cells (rk 0 0 0 0).slots) := by
  refine MetFree.of_bodySF (plainFor_of_name pn_0) hisR ?_
  intro p e s m args below meth c s₁ Bd hml0 hP hK
  obtain ⟨rfl, hZ, hh⟩ := hP
  have hx := Bd.exec
  have hby := Bd.bytes
  have hml : c.maxLocals = 1 := hml0
  have hown : s.vm.findClass "java/lang/String" = some m.cls := findClass_of_methodNamed Bd.named
  have X0 : Stand p l e (rk 0 0 0 0) s m #[(.ref a1)] below meth c s₁ [] 0 0 := Stand.of_body Bd
  have e0 : s₁.heap = h0 := by rw [← hh, Bd.state]; rfl
  have N0 := Fr.nil n0
  have pre0 := own_pre (tb := p.tables) (e := e) (bl := below) (s := s₁) (ef_18 m a1)
  obtain ⟨T1, X1, e1, st1⟩ := getF X0 hx hZ hown (host := "") (Or.inl (tw hw 67 rfl)) Via.refl e0 F_value_a1 (g := (mkF m 1 #[Rf a1] [(.ref a1)])) rfl rfl (hb hby d13_1)
  obtain ⟨cl2, Ar2, -, Sz2, Nn2, -, -⟩ := id A_tv
  have sg3 : SG p.tables e below (T1.setTop (mkF m 13 #[Rf a1] [(.int (1 : Int32))])) (s₁.setTop (mkF m 0 #[Rf a1] [])) := by
    intro target kt
    show Steps _ _ _ (s₁.setTop (mkF m 0 #[Rf a1] [])) _
    refine XS.aloadN X0.here hx rfl (hb hby d13_0) rfl rfl ?_
    refine st1 _ ?_
    refine X1.arraylength hx (own_rwh e1 Ar2.1) (State.isArrayOf_alike hZ.alike Ar2.2.1) (g := (mkF m 4 #[Rf a1] [(.ref tv)])) rfl rfl (hb hby d13_4) _ ?_
    rw [len_of Sz2 Nn2]
    show Steps _ _ _ (T1.setTop (mkF m 5 #[Rf a1] [(.int (0 : Int32))])) _
    refine XS.ifNo X1.here hx rfl (hb hby d13_5) rfl ((if0 _ _).trans (teq (by decide : (0 : Int32) = (0 : Int32))).2) ?_
    refine XS.iconst X1.here hx rfl (hb hby d13_8) ?_
    refine XS.goto X1.here hx rfl (pc0 := 9) (pc' := 13) rfl (hb hby d13_9) (by decide) (by decide) ?_
    exact kt
  obtain ⟨fs, hr, hrun, hended, hW, hsame⟩ := X1.leave (v := some (.int (1 : Int32))) (fun h => by rw [Bd.returns] at h; cases h)
  refine ⟨_, _, pre0 _ (sg3 _ (?_)), hrun, hended, _, _, rfl, ?_, ⟨_, rfl⟩, hW, hsame.mono (by decide) (by decide)⟩
  · show Steps _ _ _ (T1.setTop (mkF m 13 #[Rf a1] [(.int (1 : Int32))])) _
    exact retN X1 hx (t := .boolean) Bd.returns (by simp) (hb hby d13_13) hr
  · show Q13_e Z a1 tv us kt h0 n0 _ T1.heap _
    rw [e1]
    exact ⟨rfl, N0, rfl⟩
def Q25 (Z : State) (a1 : Addr) (zC : Int32) (h0 : Heap) (n0 : Nat) (v : Option Value) (h : Heap) (L : List Loc) : Prop := v = some (.int (1 : Int32)) ∧ Fr n0 L ∧ h = h0
theorem rm25 (l : Launch) (Z : State) (a0 : Array Value) (hw : ∀ d ∈ tables_1, d.before a0 Z = true) (ws : List Jvm.Cond) (a1 : Addr) (zC : Int32) (h0 : Heap) (n0 : Nat) (O0 : Old Z n0 h0) (hCS : ¬ zC = 0) (sC : TS_0 Z zC) (F_coder_a1 : Fld Z h0 a1 "java/lang/AbstractStringBuilder" "coder" "B" (.int (0 : Int32))) :
    MetFree l m_4 (head1 (Jvm.Cond.code m_4 jdk_68_method_68_code 1 (some .boolean) :: ws) (rk 0 0 0 0)) (fun a U => a = #[(.ref a1)] ∧ Z.Warmed39 U.vm ∧ U.heap = h0) (fun _ _ _ _ _ => True) (fun _ U o U' => ∃ v L, o = .returned v ∧ Q25 Z a1 zC h0 n0 v U'.heap L ∧ FrameEnd U o U' L (rk 0 0 0 0).cells (rk 0 0 0 0).slots) := by
  refine MetFree.of_bodySF (plainFor_of_name pn_1) hisR ?_
  intro p e s m args below meth c s₁ Bd hml0 hP hK
  obtain ⟨rfl, hZ, hh⟩ := hP
  have hx := Bd.exec
  have hby := Bd.bytes
  have hml : c.maxLocals = 1 := hml0
  have hown : s.vm.findClass "java/lang/AbstractStringBuilder" = some m.cls := findClass_of_methodNamed Bd.named
  have X0 : Stand p l e (rk 0 0 0 0) s m #[(.ref a1)] below meth c s₁ [] 0 0 := Stand.of_body Bd
  have e0 : s₁.heap = h0 := by rw [← hh, Bd.state]; rfl
  have N0 := Fr.nil n0
  have pre0 := own_pre (tb := p.tables) (e := e) (bl := below) (s := s₁) (ef_18 m a1)
  obtain ⟨T1, X1, e1, st1⟩ := getS2 X0 hx hZ hown (host := "") (Or.inl (tw hw 22 rfl)) Via.refl e0 (sC.ext O0.2) (g := (mkF m 0 #[Rf a1] [])) rfl (hb hby d25_0)
  obtain ⟨T2, X2, e2, st2⟩ := getF X1 hx hZ hown (host := "") (Or.inl (tw hw 27 rfl)) Via.refl e1 F_coder_a1 (g := (mkF m 7 #[Rf a1] [(.ref a1)])) rfl rfl (hb hby d25_7)
  have sg3 : SG p.tables e below (T2.setTop (mkF m 18 #[Rf a1] [(.int (1 : Int32))])) (s₁.setTop (mkF m 0 #[Rf a1] [])) := by
    intro target kt
    show Steps _ _ _ (s₁.setTop (mkF m 0 #[Rf a1] [])) _
    refine st1 _ ?_
    refine XS.ifNo X1.here hx rfl (hb hby d25_3) rfl ((if0 _ _).trans (feq hCS).1) ?_
    refine XS.aloadN X1.here hx rfl (hb hby d25_6) rfl rfl ?_
    refine st2 _ ?_
    refine XS.ifNo X2.here hx rfl (hb hby d25_10) rfl ((if0 _ _).trans (teq (by decide : (0 : Int32) = (0 : Int32))).2) ?_
    refine XS.iconst X2.here hx rfl (hb hby d25_13) ?_
    refine XS.goto X2.here hx rfl (pc0 := 14) (pc' := 18) rfl (hb hby d25_14) (by decide) (by decide) ?_
    exact kt
  obtain ⟨fs, hr, hrun, hended, hW, hsame⟩ := X2.leave (v := some (.int (1 : Int32))) (fun h => by rw [Bd.returns] at h; cases h)
  refine ⟨_, _, pre0 _ (sg3 _ (?_)), hrun, hended, _, _, rfl, ?_, ⟨_, rfl⟩, hW, hsame.mono (by decide) (by decide)⟩
  · show Steps _ _ _ (T2.setTop (mkF m 18 #[Rf a1] [(.int (1 : Int32))])) _
    exact retN X2 hx (t := .boolean) Bd.returns (by simp) (hb hby d25_18) hr
  · show Q25 Z a1 zC h0 n0 _ T2.heap _
    rw [e2]
    exact ⟨rfl, N0, rfl⟩
def Q31 (Z : State) (a1 : Addr) (arr : Addr) (h0 : Heap) (n0 : Nat) (v : Option Value) (h : Heap) (L : List Loc) : Prop := v = some (.ref arr) ∧ Fr n0 L ∧ h = h0
theorem rm31 (l : Launch) (Z : State) (a0 : Array Value) (hw : ∀ d ∈ tables_1, d.before a0 Z = true) (ws : List Jvm.Cond) (a1 : Addr) (arr : Addr) (h0 : Heap) (n0 : Nat) (O0 : Old Z n0 h0) (F_value_a1 : Fld Z h0 a1 "java/lang/AbstractStringBuilder" "value" "[B" (.ref arr)) :
    MetFree l m_5 (head1 (Jvm.Cond.code m_5 jdk_68_method_64_code 1 (some (.array .byte)) :: ws) (rk 0 0 0 0)) (fun a U => a = #[(.ref a1)] ∧ Z.Warmed39 U.vm ∧ U.heap = h0) (fun _ _ _ _ _ => True) (fun _ U o U' => ∃ v L, o = .returned v ∧ Q31 Z a1 arr h0 n0 v U'.heap L ∧ FrameEnd U o U' L (rk 0 0 0 0).cells (rk 0 0 0 0).slots) := by
  refine MetFree.of_bodySF (plainFor_of_name pn_1) hisR ?_
  intro p e s m args below meth c s₁ Bd hml0 hP hK
  obtain ⟨rfl, hZ, hh⟩ := hP
  have hx := Bd.exec
  have hby := Bd.bytes
  have hml : c.maxLocals = 1 := hml0
  have hown : s.vm.findClass "java/lang/AbstractStringBuilder" = some m.cls := findClass_of_methodNamed Bd.named
  have X0 : Stand p l e (rk 0 0 0 0) s m #[(.ref a1)] below meth c s₁ [] 0 0 := Stand.of_body Bd
  have e0 : s₁.heap = h0 := by rw [← hh, Bd.state]; rfl
  have N0 := Fr.nil n0
  have pre0 := own_pre (tb := p.tables) (e := e) (bl := below) (s := s₁) (ef_18 m a1)
  obtain ⟨T1, X1, e1, st1⟩ := getF X0 hx hZ hown (host := "") (Or.inl (tw hw 25 rfl)) Via.refl e0 F_value_a1 (g := (mkF m 1 #[Rf a1] [(.ref a1)])) rfl rfl (hb hby d31_1)
  have sg2 : SG p.tables e below (T1.setTop (mkF m 4 #[Rf a1] [(.ref arr)])) (s₁.setTop (mkF m 0 #[Rf a1] [])) := by
    intro target kt
    show Steps _ _ _ (s₁.setTop (mkF m 0 #[Rf a1] [])) _
    refine XS.aloadN X0.here hx rfl (hb hby d31_0) rfl rfl ?_
    refine st1 _ ?_
    exact kt
  obtain ⟨fs, hr, hrun, hended, hW, hsame⟩ := X1.leave (v := some (.ref arr)) (fun h => by rw [Bd.returns] at h; cases h)
  refine ⟨_, _, pre0 _ (sg2 _ (?_)), hrun, hended, _, _, rfl, ?_, ⟨_, rfl⟩, hW, hsame.mono (by decide) (by decide)⟩
  · show Steps _ _ _ (T1.setTop (mkF m 4 #[Rf a1] [(.ref arr)])) _
    jvm_step X1.here [X1.here.top, hx, (hb hby d31_4), X1.method', Bd.returns, Value.isRef, FieldType.isReference]
    first | (intro acts; rw [hr _ acts rfl rfl rfl]) | rw [hr _ _ rfl rfl rfl]
    exact Steps.refl _
  · show Q31 Z a1 arr h0 n0 _ T1.heap _
    rw [e1]
    exact ⟨rfl, N0, rfl⟩
def Q33 (Z : State) (a1 : Addr) (cn : Int32) (h0 : Heap) (n0 : Nat) (v : Option Value) (h : Heap) (L : List Loc) : Prop := v = some (.int cn) ∧ Fr n0 L ∧ h = h0
theorem rm33 (l : Launch) (Z : State) (a0 : Array Value) (hw : ∀ d ∈ tables_1, d.before a0 Z = true) (ws : List Jvm.Cond) (a1 : Addr) (cn : Int32) (h0 : Heap) (n0 : Nat) (O0 : Old Z n0 h0) (F_count_a1 : Fld Z h0 a1 "java/lang/AbstractStringBuilder" "count" "I" (.int cn)) :
    MetFree l m_6 (head1 (Jvm.Cond.code m_6 jdk_68_method_6_code 1 (some .int) :: ws) (rk 0 0 0 0)) (fun a U => a = #[(.ref a1)] ∧ Z.Warmed39 U.vm ∧ U.heap = h0) (fun _ _ _ _ _ => True) (fun _ U o U' => ∃ v L, o = .returned v ∧ Q33 Z a1 cn h0 n0 v U'.heap L ∧ FrameEnd U o U' L (rk 0 0 0 0).cells (rk 0 0 0 0).slots) := by
  refine MetFree.of_bodySF (plainFor_of_name pn_1) hisR ?_
  intro p e s m args below meth c s₁ Bd hml0 hP hK
  obtain ⟨rfl, hZ, hh⟩ := hP
  have hx := Bd.exec
  have hby := Bd.bytes
  have hml : c.maxLocals = 1 := hml0
  have hown : s.vm.findClass "java/lang/AbstractStringBuilder" = some m.cls := findClass_of_methodNamed Bd.named
  have X0 : Stand p l e (rk 0 0 0 0) s m #[(.ref a1)] below meth c s₁ [] 0 0 := Stand.of_body Bd
  have e0 : s₁.heap = h0 := by rw [← hh, Bd.state]; rfl
  have N0 := Fr.nil n0
  have pre0 := own_pre (tb := p.tables) (e := e) (bl := below) (s := s₁) (ef_18 m a1)
  obtain ⟨T1, X1, e1, st1⟩ := getF X0 hx hZ hown (host := "") (Or.inl (tw hw 108 rfl)) Via.refl e0 F_count_a1 (g := (mkF m 1 #[Rf a1] [(.ref a1)])) rfl rfl (hb hby d33_1)
  have sg2 : SG p.tables e below (T1.setTop (mkF m 4 #[Rf a1] [(.int cn)])) (s₁.setTop (mkF m 0 #[Rf a1] [])) := by
    intro target kt
    show Steps _ _ _ (s₁.setTop (mkF m 0 #[Rf a1] [])) _
    refine XS.aloadN X0.here hx rfl (hb hby d33_0) rfl rfl ?_
    refine st1 _ ?_
    exact kt
  obtain ⟨fs, hr, hrun, hended, hW, hsame⟩ := X1.leave (v := some (.int cn)) (fun h => by rw [Bd.returns] at h; cases h)
  refine ⟨_, _, pre0 _ (sg2 _ (?_)), hrun, hended, _, _, rfl, ?_, ⟨_, rfl⟩, hW, hsame.mono (by decide) (by decide)⟩
  · show Steps _ _ _ (T1.setTop (mkF m 4 #[Rf a1] [(.int cn)])) _
    exact retI X1 hx Bd.returns (hb hby d33_4) hr
  · show Q33 Z a1 cn h0 n0 _ T1.heap _
    rw [e1]
    exact ⟨rfl, N0, rfl⟩
def Q32 (Z : State) (a1 : Addr) (cn : Int32) (h0 : Heap) (n0 : Nat) (v : Option Value) (h : Heap) (L : List Loc) : Prop := v = some (.int cn) ∧ Fr n0 L ∧ h = h0
theorem rm32 (l : Launch) (Z : State) (a0 : Array Value) (hw : ∀ d ∈ tables_1, d.before a0 Z = true) (ws : List Jvm.Cond) (a1 : Addr) (cn : Int32) (h0 : Heap) (n0 : Nat) (O0 : Old Z n0 h0) (E_a1 : Exa Z h0 a1 "java/lang/StringBuilder") (F_count_a1 : Fld Z h0 a1 "java/lang/AbstractStringBuilder" "count" "I" (.int cn)) :
    MetFree l m_7 (head1 (Jvm.Cond.code m_7 jdk_67_method_93_code 1 (some .int) :: ws) (rk 1 0 0 12)) (fun a U => a = #[(.ref a1)] ∧ Z.Warmed39 U.vm ∧ U.heap = h0) (fun _ _ _ _ _ => True) (fun _ U o U' => ∃ v L, o = .returned v ∧ Q32 Z a1 cn h0 n0 v U'.heap L ∧ FrameEnd U o U' L (rk 1 0 0 12).cells (rk 1 0 0 12).slots) := by
  refine MetFree.of_bodySF (plainFor_of_name pn_2) hisR ?_
  intro p e s m args below meth c s₁ Bd hml0 hP hK
  obtain ⟨rfl, hZ, hh⟩ := hP
  have hx := Bd.exec
  have hby := Bd.bytes
  have hml : c.maxLocals = 1 := hml0
  have hown : s.vm.findClass "java/lang/StringBuilder" = some m.cls := findClass_of_methodNamed Bd.named
  have X0 : Stand p l e (rk 1 0 0 12) s m #[(.ref a1)] below meth c s₁ [] 0 0 := Stand.of_body Bd
  have e0 : s₁.heap = h0 := by rw [← hh, Bd.state]; rfl
  have N0 := Fr.nil n0
  have pre0 := own_pre (tb := p.tables) (e := e) (bl := below) (s := s₁) (ef_18 m a1)
  obtain ⟨_, _, ⟨T1, L1, k1, n1⟩, -, X1, ⟨Lc1, hQ1, l1, y1, z1⟩, st1⟩ := superBack X0 hx hZ (y := m_6) hown (tw hw 181 rfl) (own_same (y := m_6) (y2 := m_8) (tw hw 113 rfl) rfl (tw hw 177 rfl) (by decide)) (tw hw 177 rfl) (tw hw 95 rfl) (by decide) (backOf (W := 0) (rm33 l Z a0 hw [] a1 cn h0 n0 O0 F_count_a1) hZ (tw hw 182 rfl) (tw hw 19 rfl) (by decide) (by decide)) e0 (Ins.self E_a1) (g := (mkF m 1 #[Rf a1] [(.ref a1)])) rfl (by rw [hml]; rfl) (tw hw 182 rfl) (argsL := []) (rest := []) (lenOf pd_1 rfl) rfl (w0 rfl) (hb hby d32_1) (fun _ _ => ⟨rfl, e0, (by decide : 0 + 0 ≤ _), (by decide : 0 + 0 ≤ _)⟩)
  dsimp only [Pt.U, Pt.locs, Pt.cells, Pt.slots] at X1 l1 y1 z1 st1 hQ1
  subst l1 y1 z1
  obtain ⟨rfl, N1q, e1⟩ := hQ1
  have N1 := Fr.app N0 N1q
  have sg2 : SG p.tables e below (T1.setTop (mkF m 4 #[Rf a1] [(.int cn)])) (s₁.setTop (mkF m 0 #[Rf a1] [])) := by
    intro target kt
    show Steps _ _ _ (s₁.setTop (mkF m 0 #[Rf a1] [])) _
    refine XS.aloadN X0.here hx rfl (hb hby d32_0) rfl rfl ?_
    refine st1.trans ?_
    exact kt
  obtain ⟨fs, hr, hrun, hended, hW, hsame⟩ := X1.leave (v := some (.int cn)) (fun h => by rw [Bd.returns] at h; cases h)
  refine ⟨_, _, pre0 _ (sg2 _ (?_)), hrun, hended, _, _, rfl, ?_, ⟨_, rfl⟩, hW, hsame.mono (by decide) (by decide)⟩
  · show Steps _ _ _ (T1.setTop (mkF m 4 #[Rf a1] [(.int cn)])) _
    exact retI X1 hx Bd.returns (hb hby d32_4) hr
  · show Q32 Z a1 cn h0 n0 _ T1.heap _
    rw [e1]
    exact ⟨rfl, N1, rfl⟩
def Q4 (Z : State) (a1 : Addr) (zC : Int32) (h0 : Heap) (n0 : Nat) (v : Option Value) (h : Heap) (L : List Loc) : Prop := ∃ ro : Addr, ∃ ko : ClassId, v = none ∧ Fr n0 L ∧ Keep h0 h [a1] ∧ Old Z n0 h ∧ Fld Z h a1 "java/lang/AbstractStringBuilder" "value" "[B" (.ref ro) ∧ Fld Z h a1 "java/lang/AbstractStringBuilder" "coder" "B" (.int (0 : Int32)) ∧ Fld Z h a1 "java/lang/AbstractStringBuilder" "count" "I" (.int (0 : Int32)) ∧ Arv Z h ro ko .byte (16 : Int32) z16 (.int (0 : Int32)) ∧ n0 ≤ ro ∧ h0.size ≤ ro
theorem ef_4 (m : MethodId) (x0 : Addr) (x1 : Int32) : entryFrame m #[(.ref x0), (.int x1)] 2 = mkF m 0 #[.val (.ref x0), .val (.int x1)] [] := by first | (simp [entryFrame, mkF, argsToLocals, Value.category]; done) | rfl
theorem rm4 (l : Launch) (Z : State) (a0 : Array Value) (hw : ∀ d ∈ tables_1, d.before a0 Z = true) (ws : List Jvm.Cond) (a1 : Addr) (zC : Int32) (h0 : Heap) (n0 : Nat) (O0 : Old Z n0 h0) (sC : TS_0 Z zC) (E_a1 : Exa Z h0 a1 "java/lang/StringBuilder") (F_value_a1 : Fld Z h0 a1 "java/lang/AbstractStringBuilder" "value" "[B" .null) (F_coder_a1 : Fld Z h0 a1 "java/lang/AbstractStringBuilder" "coder" "B" (.int (0 : Int32))) (F_count_a1 : Fld Z h0 a1 "java/lang/AbstractStringBuilder" "count" "I" (.int (0 : Int32))) (ge_a1 : n0 ≤ a1) (hCS : ¬ zC = 0) :
    MetFree l m_9 (head1 (Jvm.Cond.code m_9 jdk_68_method_2_code 2 none :: ws) (rk 1 1 16 12)) (fun a U => a = #[(.ref a1), (.int (16 : Int32))] ∧ Z.Warmed39 U.vm ∧ U.heap = h0) (fun _ _ _ _ _ => True) (fun _ U o U' => ∃ v L, o = .returned v ∧ Q4 Z a1 zC h0 n0 v U'.heap L ∧ FrameEnd U o U' L (rk 1 1 16 12).cells (rk 1 1 16 12).slots) := by
  refine MetFree.of_bodySF (plainFor_of_name pn_1) hisR ?_
  intro p e s m args below meth c s₁ Bd hml0 hP hK
  obtain ⟨rfl, hZ, hh⟩ := hP
  have hx := Bd.exec
  have hby := Bd.bytes
  have hml : c.maxLocals = 2 := hml0
  have hown : s.vm.findClass "java/lang/AbstractStringBuilder" = some m.cls := findClass_of_methodNamed Bd.named
  have X0 : Stand p l e (rk 1 1 16 12) s m #[(.ref a1), (.int (16 : Int32))] below meth c s₁ [] 0 0 := Stand.of_body Bd
  have e0 : s₁.heap = h0 := by rw [← hh, Bd.state]; rfl
  have N0 := Fr.nil n0
  have pre0 := own_pre (tb := p.tables) (e := e) (bl := below) (s := s₁) (ef_4 m a1 (16 : Int32))
  have K0 := Keep.refl h0 [a1]
  obtain ⟨T1, X1, e1, st1⟩ := initO X0 hx hZ hown (tw hw 21 rfl) (tw hw 7 rfl) (tw hw 8 rfl) e0 (g := (mkF m 1 #[Rf a1, It (16 : Int32)] [(.ref a1)])) rfl (by rw [hml]; rfl) rfl (hb hby d4_1) (by decide) (W := 0) (w0 rfl) (by decide)
  obtain ⟨T2, X2, e2, st2⟩ := getS2 X1 hx hZ hown (host := "") (Or.inl (tw hw 22 rfl)) Via.refl e1 (sC.ext O0.2) (g := (mkF m 4 #[Rf a1, It (16 : Int32)] [])) rfl (hb hby d4_4)
  obtain ⟨T3, h3, k3, X3, e3, E3, A3, st3⟩ := newP X2 hx hZ (tw hw 24 rfl) e2 (g := (mkF m 12 #[Rf a1, It (16 : Int32)] [(.int (16 : Int32)), (.ref a1)])) rfl (hb hby d4_12) rfl (Sm.lit (x := (16 : Int32)) (n := 16) (by decide)).nn (cap := 16) (own_capn (Sm.lit (x := (16 : Int32)) (n := 16) (by decide)) (by decide)) (by decide) (by decide) (by decide)
  obtain ⟨b3, g3⟩ : ∃ z, z = h0.size := ⟨_, rfl⟩
  rw [← g3] at A3 st3
  have ge_b3 : n0 ≤ b3 := Nat.le_trans (own_osz O0) (Nat.le_of_eq g3.symm)
  have sz_b3 : h0.size ≤ b3 := Nat.le_trans K0.1 (Nat.le_of_eq g3.symm)
  have O4 := O0.ext E3
  have K3 := K0.ext E3
  have V_b3 : Arv Z h3 b3 k3 .byte (16 : Int32) z16 (.int (0 : Int32)) := (Arv.new A3 (Sm.lit (x := (16 : Int32)) (n := 16) (by decide)).nn).pad (pad_rep [] (.int (0 : Int32)) 16)
  obtain ⟨T5, h5, X5, e5, W5, st5⟩ := putF X3 hx hZ hown (host := "") (Or.inl (tw hw 25 rfl)) Via.refl e3 (F_value_a1.ext E3) (E_a1.ext E3) (Or.inl (tw hw 26 rfl)) (tw hw 10 rfl) (ty := (.array .byte)) (by decide) rfl rfl (g := (mkF m 14 #[Rf a1, It (16 : Int32)] [(.ref b3), (.ref a1)])) rfl rfl (hb hby d4_14)
  have Fw5 := (F_value_a1.ext E3).same W5
  have N5 := Fr.snoc X5 N0 ge_a1
  have O6 := O4.wr W5 ge_a1
  have K5 := K3.wr W5 (Or.inl (List.mem_of_getElem? (i := 0) rfl))
  obtain ⟨T7, h7, X7, e7, W7, st7⟩ := putFN X5 hx hZ hown (tw hw 27 rfl) Via.refl e5 ((F_coder_a1.ext E3).other W5 (sn .byte (.array .byte) (Or.inl (tw hw 28 rfl)) (Or.inl (tw hw 26 rfl)))) ((E_a1.ext E3).wr W5) (Or.inl (tw hw 28 rfl)) (tw hw 10 rfl) (ty := .byte) (v' := .int ((0 : Int32).toInt8.toInt32)) (by decide) rfl (fits_nar_byte _) (g := (mkF m 19 #[Rf a1, It (16 : Int32)] [(.int (0 : Int32)), (.ref a1)])) rfl rfl (hb hby d4_19)
  have Fw7 := ((F_coder_a1.ext E3).other W5 (sn .byte (.array .byte) (Or.inl (tw hw 28 rfl)) (Or.inl (tw hw 26 rfl)))).same W7
  have N7 := Fr.snoc X7 N5 ge_a1
  have O8 := O6.wr W7 ge_a1
  have K7 := K5.wr W7 (Or.inl (List.mem_of_getElem? (i := 0) rfl))
  have sg9 : SG p.tables e below (T7.setTop (mkF m 38 #[Rf a1, It (16 : Int32)] [])) (s₁.setTop (mkF m 0 #[Rf a1, It (16 : Int32)] [])) := by
    intro target kt
    show Steps _ _ _ (s₁.setTop (mkF m 0 #[Rf a1, It (16 : Int32)] [])) _
    refine XS.aloadN X0.here hx rfl (hb hby d4_0) rfl rfl ?_
    refine st1 _ ?_
    refine st2 _ ?_
    refine XS.ifNo X2.here hx rfl (hb hby d4_7) rfl ((if0 _ _).trans (feq hCS).1) ?_
    refine XS.aloadN X2.here hx rfl (hb hby d4_10) rfl rfl ?_
    refine XS.iloadN X2.here hx rfl (hb hby d4_11) rfl ?_
    refine st3 _ ?_
    refine st5 _ ?_
    refine XS.aloadN X5.here hx rfl (hb hby d4_17) rfl rfl ?_
    refine XS.iconst X5.here hx rfl (hb hby d4_18) ?_
    refine st7 _ ?_
    refine XS.goto X7.here hx rfl (pc0 := 22) (pc' := 38) rfl (hb hby d4_22) (by decide) (by decide) ?_
    exact kt
  obtain ⟨fs, hr, hrun, hended, hW, hsame⟩ := X7.leave (v := none) (fun _ => rfl)
  refine ⟨_, _, pre0 _ (sg9 _ (?_)), hrun, hended, _, _, rfl, ?_, ⟨_, rfl⟩, hW, hsame.mono (by decide) (by decide)⟩
  · show Steps _ _ _ (T7.setTop (mkF m 38 #[Rf a1, It (16 : Int32)] [])) _
    exact X7.returnOut hx Bd.returns (hb hby d4_38) hr
  · show Q4 Z a1 zC h0 n0 _ T7.heap _
    rw [e7]
    exact ⟨b3, k3, rfl, N7, K7, O8, (Fw5.other W7 (sn (.array .byte) .byte (Or.inl (tw hw 26 rfl)) (Or.inl (tw hw 28 rfl)))), Fw7, (((F_count_a1.ext E3).other W5 (sn .int (.array .byte) (Or.inl (tw hw 109 rfl)) (Or.inl (tw hw 26 rfl)))).other W7 (sn .int .byte (Or.inl (tw hw 109 rfl)) (Or.inl (tw hw 28 rfl)))), ((V_b3.other W5 (Ne.symm (Nat.ne_of_lt (Nat.lt_of_lt_of_le E_a1.lt (Nat.le_of_eq g3.symm))))).other W7 (Ne.symm (Nat.ne_of_lt (Nat.lt_of_lt_of_le E_a1.lt (Nat.le_of_eq g3.symm))))), ge_b3, sz_b3⟩
def Q3 (Z : State) (a1 : Addr) (zC : Int32) (h0 : Heap) (n0 : Nat) (v : Option Value) (h : Heap) (L : List Loc) : Prop := ∃ ro : Addr, ∃ ko : ClassId, v = none ∧ Fr n0 L ∧ Keep h0 h [a1] ∧ Old Z n0 h ∧ Fld Z h a1 "java/lang/AbstractStringBuilder" "value" "[B" (.ref ro) ∧ Fld Z h a1 "java/lang/AbstractStringBuilder" "coder" "B" (.int (0 : Int32)) ∧ Fld Z h a1 "java/lang/AbstractStringBuilder" "count" "I" (.int (0 : Int32)) ∧ Arv Z h ro ko .byte (16 : Int32) z16 (.int (0 : Int32)) ∧ n0 ≤ ro ∧ h0.size ≤ ro
theorem rm3 (l : Launch) (Z : State) (a0 : Array Value) (hw : ∀ d ∈ tables_1, d.before a0 Z = true) (ws : List Jvm.Cond) (a1 : Addr) (zC : Int32) (h0 : Heap) (n0 : Nat) (O0 : Old Z n0 h0) (sC : TS_0 Z zC) (E_a1 : Exa Z h0 a1 "java/lang/StringBuilder") (F_value_a1 : Fld Z h0 a1 "java/lang/AbstractStringBuilder" "value" "[B" .null) (F_coder_a1 : Fld Z h0 a1 "java/lang/AbstractStringBuilder" "coder" "B" (.int (0 : Int32))) (F_count_a1 : Fld Z h0 a1 "java/lang/AbstractStringBuilder" "count" "I" (.int (0 : Int32))) (ge_a1 : n0 ≤ a1) (hCS : ¬ zC = 0) :
    MetFree l m_10 (head1 (Jvm.Cond.code m_10 jdk_67_method_1_code 1 none :: ws) (rk 2 1 16 25)) (fun a U => a = #[(.ref a1)] ∧ Z.Warmed39 U.vm ∧ U.heap = h0) (fun _ _ _ _ _ => True) (fun _ U o U' => ∃ v L, o = .returned v ∧ Q3 Z a1 zC h0 n0 v U'.heap L ∧ FrameEnd U o U' L (rk 2 1 16 25).cells (rk 2 1 16 25).slots) := by
  refine MetFree.of_bodySF (plainFor_of_name pn_2) hisR ?_
  intro p e s m args below meth c s₁ Bd hml0 hP hK
  obtain ⟨rfl, hZ, hh⟩ := hP
  have hx := Bd.exec
  have hby := Bd.bytes
  have hml : c.maxLocals = 1 := hml0
  have hown : s.vm.findClass "java/lang/StringBuilder" = some m.cls := findClass_of_methodNamed Bd.named
  have X0 : Stand p l e (rk 2 1 16 25) s m #[(.ref a1)] below meth c s₁ [] 0 0 := Stand.of_body Bd
  have e0 : s₁.heap = h0 := by rw [← hh, Bd.state]; rfl
  have N0 := Fr.nil n0
  have pre0 := own_pre (tb := p.tables) (e := e) (bl := below) (s := s₁) (ef_18 m a1)
  have K0 := Keep.refl h0 [a1]
  obtain ⟨_, _, ⟨T1, L1, k1, n1⟩, -, X1, ⟨Lc1, hQ1, l1, y1, z1⟩, st1⟩ := X0.specialBack hx (y := m_9) rfl hown (mvT hZ (tw hw 15 rfl)) (mvT hZ (tw hw 16 rfl)) (mvT hZ (tw hw 20 rfl)) (by decide) (backOf (W := 0) (rm4 l Z a0 hw [] a1 zC h0 n0 O0 sC E_a1 F_value_a1 F_coder_a1 F_count_a1 ge_a1 hCS) hZ (tw hw 20 rfl) (tw hw 19 rfl) (by decide) (by decide)) (g := (mkF m 3 #[Rf a1] [(.int (16 : Int32)), (.ref a1)])) rfl (by rw [hml]; rfl) (Steps.refl _) (a := a1) (argsL := [(.int (16 : Int32))]) (rest := []) (lenOf pd_2 rfl) rfl (w0 rfl) (hb hby d3_3) (fun _ _ => ⟨rfl, e0, (by decide : 0 + 1 ≤ _), (by decide : 0 + 16 ≤ _)⟩)
  dsimp only [Pt.U, Pt.locs, Pt.cells, Pt.slots] at X1 l1 y1 z1 st1 hQ1
  subst l1 y1 z1
  obtain ⟨ro_1, ko_1, rfl, N1q, K1q, O1, f1_0, f1_1, f1_2, f1_3, f1_4, f1_5⟩ := hQ1
  have N1 := Fr.app N0 N1q
  have K1 := K0.trans K1q (allS (Or.inl (List.mem_of_getElem? (i := 0) rfl)) all0)
  have sg2 : SG p.tables e below (T1.setTop (mkF m 6 #[Rf a1] [])) (s₁.setTop (mkF m 0 #[Rf a1] [])) := by
    intro target kt
    show Steps _ _ _ (s₁.setTop (mkF m 0 #[Rf a1] [])) _
    refine XS.aloadN X0.here hx rfl (hb hby d3_0) rfl rfl ?_
    refine XS.bipush X0.here hx rfl (hb hby d3_1) ?_
    refine st1.trans ?_
    exact kt
  obtain ⟨fs, hr, hrun, hended, hW, hsame⟩ := X1.leave (v := none) (fun _ => rfl)
  refine ⟨_, _, pre0 _ (sg2 _ (?_)), hrun, hended, _, _, rfl, ?_, ⟨_, rfl⟩, hW, hsame.mono (by decide) (by decide)⟩
  · show Steps _ _ _ (T1.setTop (mkF m 6 #[Rf a1] [])) _
    exact X1.returnOut hx Bd.returns (hb hby d3_6) hr
  · show Q3 Z a1 zC h0 n0 _ T1.heap _
    exact ⟨ro_1, ko_1, rfl, N1, K1, O1, f1_0, f1_1, f1_2, f1_3, f1_4, (Nat.le_trans K0.1 f1_5)⟩
def Q1 (Z : State) (a1 : Addr) (zC : Int32) (h0 : Heap) (n0 : Nat) (v : Option Value) (h : Heap) (L : List Loc) : Prop := ∃ sb : Addr, ∃ ro : Addr, ∃ ko : ClassId, v = none ∧ Fr n0 L ∧ Keep h0 h [a1] ∧ Old Z n0 h ∧ Fld Z h a1 "com/example/tetrad/tetrad/generate/SourceText" "text" "Ljava/lang/StringBuilder;" (.ref sb) ∧ Fld Z h a1 "com/example/tetrad/tetrad/generate/SourceText" "depth" "I" (.int (0 : Int32)) ∧ Exa Z h sb "java/lang/StringBuilder" ∧ Fld Z h sb "java/lang/AbstractStringBuilder" "value" "[B" (.ref ro) ∧ Fld Z h sb "java/lang/AbstractStringBuilder" "coder" "B" (.int (0 : Int32)) ∧ Fld Z h sb "java/lang/AbstractStringBuilder" "count" "I" (.int (0 : Int32)) ∧ Arv Z h ro ko .byte (16 : Int32) z16 (.int (0 : Int32)) ∧ n0 ≤ sb ∧ h0.size ≤ sb ∧ n0 ≤ ro ∧ h0.size ≤ ro
theorem rm1 (l : Launch) (Z : State) (a0 : Array Value) (hw : ∀ d ∈ tables_1, d.before a0 Z = true) (ws : List Jvm.Cond) (a1 : Addr) (zC : Int32) (h0 : Heap) (n0 : Nat) (O0 : Old Z n0 h0) (sC : TS_0 Z zC) (E_a1 : Exa Z h0 a1 "com/example/tetrad/tetrad/generate/SourceText") (F_text_a1 : Fld Z h0 a1 "com/example/tetrad/tetrad/generate/SourceText" "text" "Ljava/lang/StringBuilder;" .null) (F_depth_a1 : Fld Z h0 a1 "com/example/tetrad/tetrad/generate/SourceText" "depth" "I" (.int (0 : Int32))) (ge_a1 : n0 ≤ a1) (hCS : ¬ zC = 0) :
    MetFree l m_11 (head1 (Jvm.Cond.code m_11 prog_51_method_1_code 1 none :: ws) (rk 3 2 20 39)) (fun a U => a = #[(.ref a1)] ∧ Z.Warmed39 U.vm ∧ U.heap = h0) (fun _ _ _ _ _ => True) (fun _ U o U' => ∃ v L, o = .returned v ∧ Q1 Z a1 zC h0 n0 v U'.heap L ∧ FrameEnd U o U' L (rk 3 2 20 39).cells (rk 3 2 20 39).slots) := by
  refine MetFree.of_bodySF (plainFor_of_name pn_3) hisR ?_
  intro p e s m args below meth c s₁ Bd hml0 hP hK
  obtain ⟨rfl, hZ, hh⟩ := hP
  have hx := Bd.exec
  have hby := Bd.bytes
  have hml : c.maxLocals = 1 := hml0
  have hown : s.vm.findClass "com/example/tetrad/tetrad/generate/SourceText" = some m.cls := findClass_of_methodNamed Bd.named
  have hnm := (name_of_methodNamed Bd.named Bd.method).1
  have X0 : Stand p l e (rk 3 2 20 39) s m #[(.ref a1)] below meth c s₁ [] 0 0 := Stand.of_body Bd
  have e0 : s₁.heap = h0 := by rw [← hh, Bd.state]; rfl
  have N0 := Fr.nil n0
  have pre0 := own_pre (tb := p.tables) (e := e) (bl := below) (s := s₁) (ef_18 m a1)
  have K0 := Keep.refl h0 [a1]
  obtain ⟨T1, X1, e1, st1⟩ := initO X0 hx hZ hown (tw hw 6 rfl) (tw hw 7 rfl) (tw hw 8 rfl) e0 (g := (mkF m 1 #[Rf a1] [(.ref a1)])) rfl (by rw [hml]; rfl) rfl (hb hby d1_1) (by decide) (W := 0) (w0 rfl) (by decide)
  obtain ⟨T2, h2, X2, e2, E2, A2, D2, -, st2⟩ := newO X1 hx hZ hown (tw hw 9 rfl) (tw hw 10 rfl) (tw hw 11 rfl) e1 (g := (mkF m 5 #[Rf a1] [(.ref a1)])) rfl (hb hby d1_5) (by decide) (by decide)
  obtain ⟨b2, g2⟩ : ∃ z, z = h0.size := ⟨_, rfl⟩
  rw [← g2] at A2 D2 st2
  have ge_b2 : n0 ≤ b2 := Nat.le_trans (own_osz O0) (Nat.le_of_eq g2.symm)
  have sz_b2 : h0.size ≤ b2 := Nat.le_trans K0.1 (Nat.le_of_eq g2.symm)
  have O3 := O0.ext E2
  have K2 := K0.ext E2
  have F_value_b2 : Fld Z h2 b2 "java/lang/AbstractStringBuilder" "value" "[B" .null := D2 (Or.inl (tw hw 26 rfl)) (ty := (.array .byte)) (by decide)
  have F_coder_b2 : Fld Z h2 b2 "java/lang/AbstractStringBuilder" "coder" "B" (.int (0 : Int32)) := D2 (Or.inl (tw hw 28 rfl)) (ty := .byte) (by decide)
  have F_count_b2 : Fld Z h2 b2 "java/lang/AbstractStringBuilder" "count" "I" (.int (0 : Int32)) := D2 (Or.inl (tw hw 109 rfl)) (ty := .int) (by decide)
  obtain ⟨_, _, ⟨T4, L4, k4, n4⟩, -, X4, ⟨Lc4, hQ4, l4, y4, z4⟩, st4⟩ := X2.specialBack hx (y := m_10) rfl hown (mvT hZ (tw hw 12 rfl)) (mvT hZ (tw hw 13 rfl)) (mvT hZ (tw hw 14 rfl)) (by decide) (backOf (W := 2) (rm3 l Z a0 hw [] b2 zC h2 n0 O3 sC A2 F_value_b2 F_coder_b2 F_count_b2 ge_b2 hCS) hZ (tw hw 14 rfl) (tw hw 11 rfl) (by decide) (by decide)) (g := (mkF m 9 #[Rf a1] [(.ref b2), (.ref b2), (.ref a1)])) rfl (by rw [hml]; rfl) (Steps.refl _) (a := b2) (argsL := []) (rest := [(.ref b2), (.ref a1)]) (lenOf pd_3 rfl) rfl (w0 rfl) (hb hby d1_9) (fun _ _ => ⟨rfl, e2, (by decide : 1 + 1 ≤ _), (by decide : 4 + 16 ≤ _)⟩)
  dsimp only [Pt.U, Pt.locs, Pt.cells, Pt.slots] at X4 l4 y4 z4 st4 hQ4
  subst l4 y4 z4
  obtain ⟨ro_4, ko_4, rfl, N4q, K4q, O4, f4_0, f4_1, f4_2, f4_3, f4_4, f4_5⟩ := hQ4
  have N4 := Fr.app N0 N4q
  have K4 := K2.trans K4q (allS (Or.inr sz_b2) all0)
  obtain ⟨T5, h5, X5, e5, W5, st5⟩ := putF X4 hx hZ hown (host := "") (Or.inl (tw hw 29 rfl)) Via.refl rfl ((F_text_a1.ext E2).keep K4q (ninS (Nat.ne_of_lt (Nat.lt_of_lt_of_le E_a1.lt (Nat.le_of_eq g2.symm))) nin0)) ((E_a1.ext E2).keep K4q) (Or.inr ⟨(tw hw 30 rfl), rfl, hnm⟩) (tw hw 1 rfl) (ty := (.object "java/lang/StringBuilder")) (by decide) rfl rfl (g := (mkF m 12 #[Rf a1] [(.ref b2), (.ref a1)])) rfl rfl (hb hby d1_12)
  have Fw5 := ((F_text_a1.ext E2).keep K4q (ninS (Nat.ne_of_lt (Nat.lt_of_lt_of_le E_a1.lt (Nat.le_of_eq g2.symm))) nin0)).same W5
  have N5 := Fr.snoc X5 N4 ge_a1
  have O6 := O4.wr W5 ge_a1
  have K5 := K4.wr W5 (Or.inl (List.mem_of_getElem? (i := 0) rfl))
  have sg7 : SG p.tables e below (T5.setTop (mkF m 15 #[Rf a1] [])) (s₁.setTop (mkF m 0 #[Rf a1] [])) := by
    intro target kt
    show Steps _ _ _ (s₁.setTop (mkF m 0 #[Rf a1] [])) _
    refine XS.aloadN X0.here hx rfl (hb hby d1_0) rfl rfl ?_
    refine st1 _ ?_
    refine XS.aloadN X1.here hx rfl (hb hby d1_4) rfl rfl ?_
    refine st2 _ ?_
    refine XS.dup X2.here hx rfl (hb hby d1_8) rfl rfl ?_
    refine st4.trans ?_
    refine st5 _ ?_
    exact kt
  obtain ⟨fs, hr, hrun, hended, hW, hsame⟩ := X5.leave (v := none) (fun _ => rfl)
  refine ⟨_, _, pre0 _ (sg7 _ (?_)), hrun, hended, _, _, rfl, ?_, ⟨_, rfl⟩, hW, hsame.mono (by decide) (by decide)⟩
  · show Steps _ _ _ (T5.setTop (mkF m 15 #[Rf a1] [])) _
    exact X5.returnOut hx Bd.returns (hb hby d1_15) hr
  · show Q1 Z a1 zC h0 n0 _ T5.heap _
    rw [e5]
    exact ⟨b2, ro_4, ko_4, rfl, N5, K5, O6, Fw5, (((F_depth_a1.ext E2).keep K4q (ninS (Nat.ne_of_lt (Nat.lt_of_lt_of_le E_a1.lt (Nat.le_of_eq g2.symm))) nin0)).other W5 (sn .int (.object "java/lang/StringBuilder") (Or.inl (tw hw 37 rfl)) (Or.inr (tw hw 30 rfl)))), ((A2.keep K4q).wr W5), (f4_0.other W5 (Or.inl (Ne.symm (Nat.ne_of_lt (Nat.lt_of_lt_of_le E_a1.lt (Nat.le_of_eq g2.symm)))))), (f4_1.other W5 (Or.inl (Ne.symm (Nat.ne_of_lt (Nat.lt_of_lt_of_le E_a1.lt (Nat.le_of_eq g2.symm)))))), (f4_2.other W5 (Or.inl (Ne.symm (Nat.ne_of_lt (Nat.lt_of_lt_of_le E_a1.lt (Nat.le_of_eq g2.symm)))))), (f4_3.other W5 (Ne.symm (Nat.ne_of_lt (Nat.lt_of_lt_of_le (E_a1.ext E2).lt f4_5)))), ge_b2, sz_b2, f4_4, (Nat.le_trans K2.1 f4_5)⟩
def Q5 (Z : State) (a1 : Addr) (dp : Int32) (sb : Addr) (h0 : Heap) (n0 : Nat) (v : Option Value) (h : Heap) (L : List Loc) : Prop := v = some (.ref a1) ∧ Fr n0 L ∧ Keep h0 h [a1] ∧ Old Z n0 h ∧ Fld Z h a1 "com/example/tetrad/tetrad/generate/SourceText" "depth" "I" (.int (dp + (1 : Int32))) ∧ Fld Z h a1 "com/example/tetrad/tetrad/generate/SourceText" "text" "Ljava/lang/StringBuilder;" (.ref sb)
theorem rm5 (l : Launch) (Z : State) (a0 : Array Value) (hw : ∀ d ∈ tables_1, d.before a0 Z = true) (ws : List Jvm.Cond) (a1 : Addr) (dp : Int32) (sb : Addr) (h0 : Heap) (n0 : Nat) (O0 : Old Z n0 h0) (E_a1 : Exa Z h0 a1 "com/example/tetrad/tetrad/generate/SourceText") (F_depth_a1 : Fld Z h0 a1 "com/example/tetrad/tetrad/generate/SourceText" "depth" "I" (.int dp)) (F_text_a1 : Fld Z h0 a1 "com/example/tetrad/tetrad/generate/SourceText" "text" "Ljava/lang/StringBuilder;" (.ref sb)) (ge_a1 : n0 ≤ a1) :
    MetFree l m_12 (head1 (Jvm.Cond.code m_12 prog_51_method_5_code 1 (some (.object "com/example/tetrad/tetrad/generate/SourceText")) :: ws) (rk 0 0 0 0)) (fun a U => a = #[(.ref a1)] ∧ Z.Warmed39 U.vm ∧ U.heap = h0) (fun _ _ _ _ _ => True) (fun _ U o U' => ∃ v L, o = .returned v ∧ Q5 Z a1 dp sb h0 n0 v U'.heap L ∧ FrameEnd U o U' L (rk 0 0 0 0).cells (rk 0 0 0 0).slots) := by
  refine MetFree.of_bodySF (plainFor_of_name pn_3) hisR ?_
  intro p e s m args below meth c s₁ Bd hml0 hP hK
  obtain ⟨rfl, hZ, hh⟩ := hP
  have hx := Bd.exec
  have hby := Bd.bytes
  have hml : c.maxLocals = 1 := hml0
  have hown : s.vm.findClass "com/example/tetrad/tetrad/generate/SourceText" = some m.cls := findClass_of_methodNamed Bd.named
  have X0 : Stand p l e (rk 0 0 0 0) s m #[(.ref a1)] below meth c s₁ [] 0 0 := Stand.of_body Bd
  have e0 : s₁.heap = h0 := by rw [← hh, Bd.state]; rfl
  have N0 := Fr.nil n0
  have pre0 := own_pre (tb := p.tables) (e := e) (bl := below) (s := s₁) (ef_18 m a1)
  have K0 := Keep.refl h0 [a1]
  obtain ⟨T1, X1, e1, st1⟩ := getF X0 hx hZ hown (host := "") (Or.inl (tw hw 36 rfl)) Via.refl e0 F_depth_a1 (g := (mkF m 2 #[Rf a1] [(.ref a1), (.ref a1)])) rfl rfl (hb hby d5_2)
  obtain ⟨T2, h2, X2, e2, W2, st2⟩ := putF X1 hx hZ hown (host := "") (Or.inl (tw hw 36 rfl)) Via.refl e1 F_depth_a1 E_a1 (Or.inl (tw hw 37 rfl)) (tw hw 1 rfl) (ty := .int) (by decide) rfl rfl (g := (mkF m 7 #[Rf a1] [(.int (dp + (1 : Int32))), (.ref a1)])) rfl rfl (hb hby d5_7)
  have Fw2 := F_depth_a1.same W2
  have N2 := Fr.snoc X2 N0 ge_a1
  have O3 := O0.wr W2 ge_a1
  have K2 := K0.wr W2 (Or.inl (List.mem_of_getElem? (i := 0) rfl))
  have sg4 : SG p.tables e below (T2.setTop (mkF m 11 #[Rf a1] [(.ref a1)])) (s₁.setTop (mkF m 0 #[Rf a1] [])) := by
    intro target kt
    show Steps _ _ _ (s₁.setTop (mkF m 0 #[Rf a1] [])) _
    refine XS.aloadN X0.here hx rfl (hb hby d5_0) rfl rfl ?_
    refine XS.dup X0.here hx rfl (hb hby d5_1) rfl rfl ?_
    refine st1 _ ?_
    refine XS.iconst X1.here hx rfl (hb hby d5_5) ?_
    refine XS.iadd X1.here hx rfl (hb hby d5_6) rfl ?_
    refine st2 _ ?_
    refine XS.aloadN X2.here hx rfl (hb hby d5_10) rfl rfl ?_
    exact kt
  obtain ⟨fs, hr, hrun, hended, hW, hsame⟩ := X2.leave (v := some (.ref a1)) (fun h => by rw [Bd.returns] at h; cases h)
  refine ⟨_, _, pre0 _ (sg4 _ (?_)), hrun, hended, _, _, rfl, ?_, ⟨_, rfl⟩, hW, hsame.mono (by decide) (by decide)⟩
  · show Steps _ _ _ (T2.setTop (mkF m 11 #[Rf a1] [(.ref a1)])) _
    jvm_step X2.here [X2.here.top, hx, (hb hby d5_11), X2.method', Bd.returns, Value.isRef, FieldType.isReference]
    first | (intro acts; rw [hr _ acts rfl rfl rfl]) | rw [hr _ _ rfl rfl rfl]
    exact Steps.refl _
  · show Q5 Z a1 dp sb h0 n0 _ T2.heap _
    rw [e2]
    exact ⟨rfl, N2, K2, O3, Fw2, (F_text_a1.other W2 (sn (.object "java/lang/StringBuilder") .int (Or.inr (tw hw 30 rfl)) (Or.inl (tw hw 37 rfl))))⟩
def Q6 (Z : State) (a1 : Addr) (dp : Int32) (sb : Addr) (h0 : Heap) (n0 : Nat) (v : Option Value) (h : Heap) (L : List Loc) : Prop := v = some (.ref a1) ∧ Fr n0 L ∧ Keep h0 h [a1] ∧ Old Z n0 h ∧ Fld Z h a1 "com/example/tetrad/tetrad/generate/SourceText" "depth" "I" (.int (dp - (1 : Int32))) ∧ Fld Z h a1 "com/example/tetrad/tetrad/generate/SourceText" "text" "Ljava/lang/StringBuilder;" (.ref sb)
theorem rm6 (l : Launch) (Z : State) (a0 : Array Value) (hw : ∀ d ∈ tables_1, d.before a0 Z = true) (ws : List Jvm.Cond) (a1 : Addr) (dp : Int32) (sb : Addr) (h0 : Heap) (n0 : Nat) (O0 : Old Z n0 h0) (E_a1 : Exa Z h0 a1 "com/example/tetrad/tetrad/generate/SourceText") (F_depth_a1 : Fld Z h0 a1 "com/example/tetrad/tetrad/generate/SourceText" "depth" "I" (.int dp)) (F_text_a1 : Fld Z h0 a1 "com/example/tetrad/tetrad/generate/SourceText" "text" "Ljava/lang/StringBuilder;" (.ref sb)) (ge_a1 : n0 ≤ a1) :
    MetFree l m_13 (head1 (Jvm.Cond.code m_13 prog_51_method_6_code 1 (some (.object "com/example/tetrad/tetrad/generate/SourceText")) :: ws) (rk 0 0 0 0)) (fun a U => a = #[(.ref a1)] ∧ Z.Warmed39 U.vm ∧ U.heap = h0) (fun _ _ _ _ _ => True) (fun _ U o U' => ∃ v L, o = .returned v ∧ Q6 Z a1 dp sb h0 n0 v U'.heap L ∧ FrameEnd U o U' L (rk 0 0 0 0).cells (rk 0 0 0 0).slots) := by
  refine MetFree.of_bodySF (plainFor_of_name pn_3) hisR ?_
  intro p e s m args below meth c s₁ Bd hml0 hP hK
  obtain ⟨rfl, hZ, hh⟩ := hP
  have hx := Bd.exec
  have hby := Bd.bytes
  have hml : c.maxLocals = 1 := hml0
  have hown : s.vm.findClass "com/example/tetrad/tetrad/generate/SourceText" = some m.cls := findClass_of_methodNamed Bd.named
  have X0 : Stand p l e (rk 0 0 0 0) s m #[(.ref a1)] below meth c s₁ [] 0 0 := Stand.of_body Bd
  have e0 : s₁.heap = h0 := by rw [← hh, Bd.state]; rfl
  have N0 := Fr.nil n0
  have pre0 := own_pre (tb := p.tables) (e := e) (bl := below) (s := s₁) (ef_18 m a1)
  have K0 := Keep.refl h0 [a1]
  obtain ⟨T1, X1, e1, st1⟩ := getF X0 hx hZ hown (host := "") (Or.inl (tw hw 36 rfl)) Via.refl e0 F_depth_a1 (g := (mkF m 2 #[Rf a1] [(.ref a1), (.ref a1)])) rfl rfl (hb hby d6_2)
  obtain ⟨T2, h2, X2, e2, W2, st2⟩ := putF X1 hx hZ hown (host := "") (Or.inl (tw hw 36 rfl)) Via.refl e1 F_depth_a1 E_a1 (Or.inl (tw hw 37 rfl)) (tw hw 1 rfl) (ty := .int) (by decide) rfl rfl (g := (mkF m 7 #[Rf a1] [(.int (dp - (1 : Int32))), (.ref a1)])) rfl rfl (hb hby d6_7)
  have Fw2 := F_depth_a1.same W2
  have N2 := Fr.snoc X2 N0 ge_a1
  have O3 := O0.wr W2 ge_a1
  have K2 := K0.wr W2 (Or.inl (List.mem_of_getElem? (i := 0) rfl))
  have sg4 : SG p.tables e below (T2.setTop (mkF m 11 #[Rf a1] [(.ref a1)])) (s₁.setTop (mkF m 0 #[Rf a1] [])) := by
    intro target kt
    show Steps _ _ _ (s₁.setTop (mkF m 0 #[Rf a1] [])) _
    refine XS.aloadN X0.here hx rfl (hb hby d6_0) rfl rfl ?_
    refine XS.dup X0.here hx rfl (hb hby d6_1) rfl rfl ?_
    refine st1 _ ?_
    refine XS.iconst X1.here hx rfl (hb hby d6_5) ?_
    refine XS.isub X1.here hx rfl (hb hby d6_6) rfl ?_
    refine st2 _ ?_
    refine XS.aloadN X2.here hx rfl (hb hby d6_10) rfl rfl ?_
    exact kt
  obtain ⟨fs, hr, hrun, hended, hW, hsame⟩ := X2.leave (v := some (.ref a1)) (fun h => by rw [Bd.returns] at h; cases h)
  refine ⟨_, _, pre0 _ (sg4 _ (?_)), hrun, hended, _, _, rfl, ?_, ⟨_, rfl⟩, hW, hsame.mono (by decide) (by decide)⟩
  · show Steps _ _ _ (T2.setTop (mkF m 11 #[Rf a1] [(.ref a1)])) _
    jvm_step X2.here [X2.here.top, hx, (hb hby d6_11), X2.method', Bd.returns, Value.isRef, FieldType.isReference]
    first | (intro acts; rw [hr _ acts rfl rfl rfl]) | rw [hr _ _ rfl rfl rfl]
    exact Steps.refl _
  · show Q6 Z a1 dp sb h0 n0 _ T2.heap _
    rw [e2]
    exact ⟨rfl, N2, K2, O3, Fw2, (F_text_a1.other W2 (sn (.object "java/lang/StringBuilder") .int (Or.inr (tw hw 30 rfl)) (Or.inl (tw hw 37 rfl))))⟩
def Q19 (Z : State) (a1 : Addr) (p2 : Int32) (arr : Addr) (vs : List Value) (pn : Nat) (ka : ClassId) (h0 : Heap) (n0 : Nat) (v : Option Value) (h : Heap) (L : List Loc) : Prop := v = none ∧ Fr n0 L ∧ h = h0
theorem ef_19 (m : MethodId) (x0 : Addr) (x1 : Int32) : entryFrame m #[(.ref x0), (.int x1)] 3 = mkF m 0 #[.val (.ref x0), .val (.int x1), .unset] [] := by first | (simp [entryFrame, mkF, argsToLocals, Value.category]; done) | rfl
theorem rm19 (l : Launch) (Z : State) (a0 : Array Value) (hw : ∀ d ∈ tables_1, d.before a0 Z = true) (ws : List Jvm.Cond) (a1 : Addr) (p2 : Int32) (arr : Addr) (vs : List Value) (pn : Nat) (ka : ClassId) (h0 : Heap) (n0 : Nat) (O0 : Old Z n0 h0) (F_value_a1 : Fld Z h0 a1 "java/lang/AbstractStringBuilder" "value" "[B" (.ref arr)) (F_coder_a1 : Fld Z h0 a1 "java/lang/AbstractStringBuilder" "coder" "B" (.int (0 : Int32))) (A_arr : Arv Z h0 arr ka .byte (16 : Int32) vs (.int (0 : Int32))) (h_p : Sm p2 pn) (h_16 : pn ≤ 16) :
    MetFree l m_8 (head1 (Jvm.Cond.code m_8 jdk_68_method_9_code 3 none :: ws) (rk 0 0 0 0)) (fun a U => a = #[(.ref a1), (.int p2)] ∧ Z.Warmed39 U.vm ∧ U.heap = h0) (fun _ _ _ _ _ => True) (fun _ U o U' => ∃ v L, o = .returned v ∧ Q19 Z a1 p2 arr vs pn ka h0 n0 v U'.heap L ∧ FrameEnd U o U' L (rk 0 0 0 0).cells (rk 0 0 0 0).slots) := by
  refine MetFree.of_bodySF (plainFor_of_name pn_1) hisR ?_
  intro p e s m args below meth c s₁ Bd hml0 hP hK
  obtain ⟨rfl, hZ, hh⟩ := hP
  have hx := Bd.exec
  have hby := Bd.bytes
  have hml : c.maxLocals = 3 := hml0
  have hown : s.vm.findClass "java/lang/AbstractStringBuilder" = some m.cls := findClass_of_methodNamed Bd.named
  have X0 : Stand p l e (rk 0 0 0 0) s m #[(.ref a1), (.int p2)] below meth c s₁ [] 0 0 := Stand.of_body Bd
  have e0 : s₁.heap = h0 := by rw [← hh, Bd.state]; rfl
  have N0 := Fr.nil n0
  have pre0 := own_pre (tb := p.tables) (e := e) (bl := below) (s := s₁) (ef_19 m a1 p2)
  obtain ⟨T1, X1, e1, st1⟩ := getF X0 hx hZ hown (host := "") (Or.inl (tw hw 25 rfl)) Via.refl e0 F_value_a1 (g := (mkF m 1 #[Rf a1, It p2, .unset] [(.ref a1)])) rfl rfl (hb hby d19_1)
  obtain ⟨cl2, Ar2, -, Sz2, Nn2, -, -⟩ := id A_arr
  obtain ⟨T3, X3, e3, st3⟩ := getF X1 hx hZ hown (host := "") (Or.inl (tw hw 27 rfl)) Via.refl e1 F_coder_a1 (g := (mkF m 6 #[Rf a1, It p2, .unset] [(.ref a1), (.int (16 : Int32))])) rfl rfl (hb hby d19_6)
  have sg4 : SG p.tables e below (T3.setTop (mkF m 38 #[Rf a1, It p2, .val (.int ((16 : Int32) >>> ((0 : Int32) &&& 31)))] [])) (s₁.setTop (mkF m 0 #[Rf a1, It p2, .unset] [])) := by
    intro target kt
    show Steps _ _ _ (s₁.setTop (mkF m 0 #[Rf a1, It p2, .unset] [])) _
    refine XS.aloadN X0.here hx rfl (hb hby d19_0) rfl rfl ?_
    refine st1 _ ?_
    refine X1.arraylength hx (own_rwh e1 Ar2.1) (State.isArrayOf_alike hZ.alike Ar2.2.1) (g := (mkF m 4 #[Rf a1, It p2, .unset] [(.ref arr)])) rfl rfl (hb hby d19_4) _ ?_
    rw [len_of Sz2 Nn2]
    show Steps _ _ _ (T1.setTop (mkF m 5 #[Rf a1, It p2, .unset] [(.int (16 : Int32))])) _
    refine XS.aloadN X1.here hx rfl (hb hby d19_5) rfl rfl ?_
    refine st3 _ ?_
    refine XS.ishr X3.here hx rfl (hb hby d19_9) rfl ?_
    refine XS.istoreN X3.here hx rfl (hb hby d19_10) rfl (l' := #[Rf a1, It p2, .val (.int ((16 : Int32) >>> ((0 : Int32) &&& 31)))]) rfl ?_
    refine XS.iloadN X3.here hx rfl (hb hby d19_11) rfl ?_
    refine XS.iloadN X3.here hx rfl (hb hby d19_12) rfl ?_
    refine XS.isub X3.here hx rfl (hb hby d19_13) rfl ?_
    refine XS.ifYes X3.here hx rfl (pc0 := 14) (pc' := 38) rfl (hb hby d19_14) rfl ((if0 _ _).trans (flt (own_ens h_p h_16)).2.2.2) (by decide) (by decide) ?_
    exact kt
  obtain ⟨fs, hr, hrun, hended, hW, hsame⟩ := X3.leave (v := none) (fun _ => rfl)
  refine ⟨_, _, pre0 _ (sg4 _ (?_)), hrun, hended, _, _, rfl, ?_, ⟨_, rfl⟩, hW, hsame.mono (by decide) (by decide)⟩
  · show Steps _ _ _ (T3.setTop (mkF m 38 #[Rf a1, It p2, .val (.int ((16 : Int32) >>> ((0 : Int32) &&& 31)))] [])) _
    exact X3.returnOut hx Bd.returns (hb hby d19_38) hr
  · show Q19 Z a1 p2 arr vs pn ka h0 n0 _ T3.heap _
    rw [e3]
    exact ⟨rfl, N0, rfl⟩
def Q21 (Z : State) (a1 : Addr) (a2 : Addr) (zC : Int32) (h0 : Heap) (n0 : Nat) (v : Option Value) (h : Heap) (L : List Loc) : Prop := v = none ∧ Fr n0 L ∧ h = h0
theorem ef_21 (m : MethodId) (x0 : Addr) (x1 : Addr) : entryFrame m #[(.ref x0), (.ref x1)] 2 = mkF m 0 #[.val (.ref x0), .val (.ref x1)] [] := by first | (simp [entryFrame, mkF, argsToLocals, Value.category]; done) | rfl
theorem rm21 (l : Launch) (Z : State) (a0 : Array Value) (hw : ∀ d ∈ tables_1, d.before a0 Z = true) (ws : List Jvm.Cond) (a1 : Addr) (a2 : Addr) (zC : Int32) (h0 : Heap) (n0 : Nat) (O0 : Old Z n0 h0) (hCS : ¬ zC = 0) (sC : TS_0 Z zC) (E_a2 : Exa Z h0 a2 "java/lang/String") (F_coder_a1 : Fld Z h0 a1 "java/lang/AbstractStringBuilder" "coder" "B" (.int (0 : Int32))) (F_coder_a2 : Fld Z h0 a2 "java/lang/String" "coder" "B" (.int (0 : Int32))) :
    MetFree l m_14 (head1 (Jvm.Cond.code m_14 jdk_68_method_71_code 2 none :: ws) (rk 1 0 0 13)) (fun a U => a = #[(.ref a1), (.ref a2)] ∧ Z.Warmed39 U.vm ∧ U.heap = h0) (fun _ _ _ _ _ => True) (fun _ U o U' => ∃ v L, o = .returned v ∧ Q21 Z a1 a2 zC h0 n0 v U'.heap L ∧ FrameEnd U o U' L (rk 1 0 0 13).cells (rk 1 0 0 13).slots) := by
  refine MetFree.of_bodySF (plainFor_of_name pn_1) hisR ?_
  intro p e s m args below meth c s₁ Bd hml0 hP hK
  obtain ⟨rfl, hZ, hh⟩ := hP
  have hx := Bd.exec
  have hby := Bd.bytes
  have hml : c.maxLocals = 2 := hml0
  have hown : s.vm.findClass "java/lang/AbstractStringBuilder" = some m.cls := findClass_of_methodNamed Bd.named
  have X0 : Stand p l e (rk 1 0 0 13) s m #[(.ref a1), (.ref a2)] below meth c s₁ [] 0 0 := Stand.of_body Bd
  have e0 : s₁.heap = h0 := by rw [← hh, Bd.state]; rfl
  have N0 := Fr.nil n0
  have pre0 := own_pre (tb := p.tables) (e := e) (bl := below) (s := s₁) (ef_21 m a1 a2)
  obtain ⟨T1, X1, e1, st1⟩ := getS2 X0 hx hZ hown (host := "") (Or.inl (tw hw 22 rfl)) Via.refl e0 (sC.ext O0.2) (g := (mkF m 0 #[Rf a1, Rf a2] [])) rfl (hb hby d21_0)
  obtain ⟨T2, X2, e2, st2⟩ := getF X1 hx hZ hown (host := "") (Or.inl (tw hw 27 rfl)) Via.refl e1 F_coder_a1 (g := (mkF m 7 #[Rf a1, Rf a2] [(.ref a1)])) rfl rfl (hb hby d21_7)
  obtain ⟨cq3, kq3, q3a, q3b, q3c⟩ := isOf hZ e2 E_a2
  obtain ⟨_, _, ⟨T3, L3, k3, n3⟩, -, X3, ⟨Lc3, hQ3, l3, y3, z3⟩, st3⟩ := X2.virtualBack hx (y := m_0) (z := m_0) hown (mvT hZ (tw hw 125 rfl)) (mvT hZ (tw hw 104 rfl)) (notFace_of_selects (args := #[]) (mvT hZ (tw hw 106 rfl))) (mvT hZ (tw hw 106 rfl)) (mvT hZ (tw hw 105 rfl)) (by decide) (backOf (W := 1) (rm18 l Z a0 hw [] a2 zC h0 n0 O0 hCS sC F_coder_a2) hZ (tw hw 107 rfl) (tw hw 23 rfl) (by decide) (by decide)) q3a q3c (g := (mkF m 11 #[Rf a1, Rf a2] [(.ref a2), (.int (0 : Int32))])) rfl (by rw [hml]; rfl) (Steps.refl _) (argsL := []) (rest := [(.int (0 : Int32))]) (lenOf pd_0 rfl) rfl (w0 rfl) (hb hby d21_11) (fun _ _ => ⟨rfl, e2, (by decide : 0 + 0 ≤ _), (by decide : 0 + 0 ≤ _)⟩)
  dsimp only [Pt.U, Pt.locs, Pt.cells, Pt.slots] at X3 l3 y3 z3 st3 hQ3
  subst l3 y3 z3
  obtain ⟨rfl, N3q, e3⟩ := hQ3
  have N3 := Fr.app N0 N3q
  have sg4 : SG p.tables e below (T3.setTop (mkF m 21 #[Rf a1, Rf a2] [])) (s₁.setTop (mkF m 0 #[Rf a1, Rf a2] [])) := by
    intro target kt
    show Steps _ _ _ (s₁.setTop (mkF m 0 #[Rf a1, Rf a2] [])) _
    refine st1 _ ?_
    refine XS.ifNo X1.here hx rfl (hb hby d21_3) rfl ((if0 _ _).trans (feq hCS).1) ?_
    refine XS.aloadN X1.here hx rfl (hb hby d21_6) rfl rfl ?_
    refine st2 _ ?_
    refine XS.aloadN X2.here hx rfl (hb hby d21_10) rfl rfl ?_
    refine st3.trans ?_
    refine XS.icmpYes X3.here hx rfl (pc0 := 14) (pc' := 21) rfl (hb hby d21_14) rfl (teq (by decide : (0 : Int32) = (0 : Int32))).1 (by decide) (by decide) ?_
    exact kt
  obtain ⟨fs, hr, hrun, hended, hW, hsame⟩ := X3.leave (v := none) (fun _ => rfl)
  refine ⟨_, _, pre0 _ (sg4 _ (?_)), hrun, hended, _, _, rfl, ?_, ⟨_, rfl⟩, hW, hsame.mono (by decide) (by decide)⟩
  · show Steps _ _ _ (T3.setTop (mkF m 21 #[Rf a1, Rf a2] [])) _
    exact X3.returnOut hx Bd.returns (hb hby d21_21) hr
  · show Q21 Z a1 a2 zC h0 n0 _ T3.heap _
    rw [e3]
    exact ⟨rfl, N3, rfl⟩
def Q22 (Z : State) (a1 : Addr) (a2 : Addr) (cn : Int32) (tv : Addr) (zm : Int32) (mm : Nat) (us : List Value) (nn : Nat) (vs : List Value) (zC : Int32) (kt : ClassId) (ka : ClassId) (h0 : Heap) (n0 : Nat) (v : Option Value) (h : Heap) (L : List Loc) : Prop := v = none ∧ Fr n0 L ∧ Keep h0 h [a2] ∧ Old Z n0 h ∧ Arv Z h a2 ka .byte (16 : Int32) (cpy vs nn us 0 mm) (.int (0 : Int32))
theorem ef_22 (m : MethodId) (x0 : Addr) (x1 : Addr) (x2 : Int32) (x3 : Int32) : entryFrame m #[(.ref x0), (.ref x1), (.int x2), (.int x3)] 4 = mkF m 0 #[.val (.ref x0), .val (.ref x1), .val (.int x2), .val (.int x3)] [] := by first | (simp [entryFrame, mkF, argsToLocals, Value.category]; done) | rfl
theorem rm22 (l : Launch) (Z : State) (a0 : Array Value) (hw : ∀ d ∈ tables_1, d.before a0 Z = true) (ws : List Jvm.Cond) (a1 : Addr) (a2 : Addr) (cn : Int32) (tv : Addr) (zm : Int32) (mm : Nat) (us : List Value) (nn : Nat) (vs : List Value) (zC : Int32) (kt : ClassId) (ka : ClassId) (h0 : Heap) (n0 : Nat) (O0 : Old Z n0 h0) (hCS : ¬ zC = 0) (sC : TS_0 Z zC) (E_a1 : Exa Z h0 a1 "java/lang/String") (F_coder_a1 : Fld Z h0 a1 "java/lang/String" "coder" "B" (.int (0 : Int32))) (F_value_a1 : Fld Z h0 a1 "java/lang/String" "value" "[B" (.ref tv)) (A_tv : Arv Z h0 tv kt .byte zm us (.int (0 : Int32))) (A_a2 : Arv Z h0 a2 ka .byte (16 : Int32) vs (.int (0 : Int32))) (ge_a2 : n0 ≤ a2) (h_n : Sm cn nn) (h_m : Sm zm mm) (h_r : nn + mm ≤ 16) (h_v : vs.length = 16) :
    MetFree l m_15 (head1 (Jvm.Cond.code m_15 jdk_42_method_147_code 4 none :: ws) (rk 1 0 0 40)) (fun a U => a = #[(.ref a1), (.ref a2), (.int cn), (.int (0 : Int32))] ∧ Z.Warmed39 U.vm ∧ U.heap = h0) (fun _ _ _ _ _ => True) (fun _ U o U' => ∃ v L, o = .returned v ∧ Q22 Z a1 a2 cn tv zm mm us nn vs zC kt ka h0 n0 v U'.heap L ∧ FrameEnd U o U' L (rk 1 0 0 40).cells (rk 1 0 0 40).slots) := by
  refine MetFree.of_bodySF (plainFor_of_name pn_0) hisR ?_
  intro p e s m args below meth c s₁ Bd hml0 hP hK
  obtain ⟨rfl, hZ, hh⟩ := hP
  have hx := Bd.exec
  have hby := Bd.bytes
  have hml : c.maxLocals = 4 := hml0
  have hown : s.vm.findClass "java/lang/String" = some m.cls := findClass_of_methodNamed Bd.named
  have X0 : Stand p l e (rk 1 0 0 40) s m #[(.ref a1), (.ref a2), (.int cn), (.int (0 : Int32))] below meth c s₁ [] 0 0 := Stand.of_body Bd
  have e0 : s₁.heap = h0 := by rw [← hh, Bd.state]; rfl
  have N0 := Fr.nil n0
  have pre0 := own_pre (tb := p.tables) (e := e) (bl := below) (s := s₁) (ef_22 m a1 a2 cn (0 : Int32))
  have K0 := Keep.refl h0 [a2]
  obtain ⟨cq1, kq1, q1a, q1b, q1c⟩ := isOf hZ e0 E_a1
  obtain ⟨_, _, ⟨T1, L1, k1, n1⟩, -, X1, ⟨Lc1, hQ1, l1, y1, z1⟩, st1⟩ := X0.virtualBack hx (y := m_0) (z := m_0) hown (mvT hZ (tw hw 103 rfl)) (mvT hZ (tw hw 104 rfl)) (notFace_of_selects (args := #[]) (mvT hZ (tw hw 106 rfl))) (mvT hZ (tw hw 106 rfl)) (mvT hZ (tw hw 105 rfl)) (by decide) (backOf (W := 0) (rm18 l Z a0 hw [] a1 zC h0 n0 O0 hCS sC F_coder_a1) hZ (tw hw 107 rfl) (tw hw 23 rfl) (by decide) (by decide)) q1a q1c (g := (mkF m 1 #[Rf a1, Rf a2, It cn, It (0 : Int32)] [(.ref a1)])) rfl (by rw [hml]; rfl) (Steps.refl _) (argsL := []) (rest := []) (lenOf pd_0 rfl) rfl (w0 rfl) (hb hby d22_1) (fun _ _ => ⟨rfl, e0, (by decide : 0 + 0 ≤ _), (by decide : 0 + 0 ≤ _)⟩)
  dsimp only [Pt.U, Pt.locs, Pt.cells, Pt.slots] at X1 l1 y1 z1 st1 hQ1
  subst l1 y1 z1
  obtain ⟨rfl, N1q, e1⟩ := hQ1
  have N1 := Fr.app N0 N1q
  obtain ⟨T2, X2, e2, st2⟩ := getF X1 hx hZ hown (host := "") (Or.inl (tw hw 67 rfl)) Via.refl e1 F_value_a1 (g := (mkF m 9 #[Rf a1, Rf a2, It cn, It (0 : Int32)] [(.ref a1)])) rfl rfl (hb hby d22_9)
  obtain ⟨T3, X3, e3, st3⟩ := getF X2 hx hZ hown (host := "") (Or.inl (tw hw 67 rfl)) Via.refl e2 F_value_a1 (g := (mkF m 18 #[Rf a1, Rf a2, It cn, It (0 : Int32)] [(.ref a1), (.int (cn <<< ((0 : Int32) &&& 31))), (.ref a2), (.int (0 : Int32)), (.ref tv)])) rfl rfl (hb hby d22_18)
  obtain ⟨cl4, Ar4, -, Sz4, Nn4, -, -⟩ := id A_tv
  obtain ⟨T5, h5, L5, X5, e5, N5, K5q, V5, st5⟩ := cpA X3 hx hZ hown (tw hw 131 rfl) (tw hw 134 rfl) (tw hw 132 rfl) (tw hw 133 rfl) e3 A_tv A_a2 (Or.inl ⟨rfl, rfl⟩) (Sm.lit (x := (0 : Int32)) (n := 0) (by decide)).nn (own_smsl h_n).nn h_m.nn (own_le3 (Sm.lit (x := (0 : Int32)) (n := 0) (by decide)) h_m h_m (own_z0 mm)) (own_le3 (own_smsl h_n) h_m (Sm.lit (x := (16 : Int32)) (n := 16) (by decide)) h_r) rfl (own_le2 (own_smsl h_n) h_m (h_v ▸ h_r)) N1 ge_a2 (g := (mkF m 22 #[Rf a1, Rf a2, It cn, It (0 : Int32)] [(.int zm), (.int (cn <<< ((0 : Int32) &&& 31))), (.ref a2), (.int (0 : Int32)), (.ref tv)])) rfl (by rw [hml]; rfl) rfl (hb hby d22_22) (by decide) (W := 0) (w0 rfl) (by decide)
  have VV5 : Arv Z h5 a2 ka .byte (16 : Int32) (cpy vs nn us 0 mm) (.int (0 : Int32)) := own_cpy (Sm.lit (x := (0 : Int32)) (n := 0) (by decide)) (own_smsl h_n) h_m V5
  have K5 := K0.trans K5q (allS (Or.inl (List.mem_of_getElem? (i := 0) rfl)) all0)
  have O5 := O0.keep K5q (allS ge_a2 all0)
  have sg6 : SG p.tables e below (T5.setTop (mkF m 43 #[Rf a1, Rf a2, It cn, It (0 : Int32)] [])) (s₁.setTop (mkF m 0 #[Rf a1, Rf a2, It cn, It (0 : Int32)] [])) := by
    intro target kt
    show Steps _ _ _ (s₁.setTop (mkF m 0 #[Rf a1, Rf a2, It cn, It (0 : Int32)] [])) _
    refine XS.aloadN X0.here hx rfl (hb hby d22_0) rfl rfl ?_
    refine st1.trans ?_
    refine XS.iloadN X1.here hx rfl (hb hby d22_4) rfl ?_
    refine XS.icmpNo X1.here hx rfl (hb hby d22_5) rfl (teq (by decide : (0 : Int32) = (0 : Int32))).2 ?_
    refine XS.aloadN X1.here hx rfl (hb hby d22_8) rfl rfl ?_
    refine st2 _ ?_
    refine XS.iconst X2.here hx rfl (hb hby d22_12) ?_
    refine XS.aloadN X2.here hx rfl (hb hby d22_13) rfl rfl ?_
    refine XS.iloadN X2.here hx rfl (hb hby d22_14) rfl ?_
    refine XS.iloadN X2.here hx rfl (hb hby d22_15) rfl ?_
    refine XS.ishl X2.here hx rfl (hb hby d22_16) rfl ?_
    refine XS.aloadN X2.here hx rfl (hb hby d22_17) rfl rfl ?_
    refine st3 _ ?_
    refine X3.arraylength hx (own_rwh e3 Ar4.1) (State.isArrayOf_alike hZ.alike Ar4.2.1) (g := (mkF m 21 #[Rf a1, Rf a2, It cn, It (0 : Int32)] [(.ref tv), (.int (cn <<< ((0 : Int32) &&& 31))), (.ref a2), (.int (0 : Int32)), (.ref tv)])) rfl rfl (hb hby d22_21) _ ?_
    rw [len_of Sz4 Nn4]
    show Steps _ _ _ (T3.setTop (mkF m 22 #[Rf a1, Rf a2, It cn, It (0 : Int32)] [(.int zm), (.int (cn <<< ((0 : Int32) &&& 31))), (.ref a2), (.int (0 : Int32)), (.ref tv)])) _
    refine st5 _ ?_
    refine XS.goto X5.here hx rfl (pc0 := 25) (pc' := 43) rfl (hb hby d22_25) (by decide) (by decide) ?_
    exact kt
  obtain ⟨fs, hr, hrun, hended, hW, hsame⟩ := X5.leave (v := none) (fun _ => rfl)
  refine ⟨_, _, pre0 _ (sg6 _ (?_)), hrun, hended, _, _, rfl, ?_, ⟨_, rfl⟩, hW, hsame.mono (by decide) (by decide)⟩
  · show Steps _ _ _ (T5.setTop (mkF m 43 #[Rf a1, Rf a2, It cn, It (0 : Int32)] [])) _
    exact X5.returnOut hx Bd.returns (hb hby d22_43) hr
  · show Q22 Z a1 a2 cn tv zm mm us nn vs zC kt ka h0 n0 _ T5.heap _
    rw [e5]
    exact ⟨rfl, N5, K5, O5, VV5⟩
def Q20 (Z : State) (a1 : Addr) (cn : Int32) (a3 : Addr) (tv : Addr) (zm : Int32) (mm : Nat) (us : List Value) (arr : Addr) (nn : Nat) (vs : List Value) (zC : Int32) (ka : ClassId) (kt : ClassId) (h0 : Heap) (n0 : Nat) (v : Option Value) (h : Heap) (L : List Loc) : Prop := v = none ∧ Fr n0 L ∧ Keep h0 h [arr] ∧ Old Z n0 h ∧ Arv Z h arr ka .byte (16 : Int32) (cpy vs nn us 0 mm) (.int (0 : Int32))
theorem ef_20 (m : MethodId) (x0 : Addr) (x1 : Int32) (x2 : Addr) : entryFrame m #[(.ref x0), (.int x1), (.ref x2)] 3 = mkF m 0 #[.val (.ref x0), .val (.int x1), .val (.ref x2)] [] := by first | (simp [entryFrame, mkF, argsToLocals, Value.category]; done) | rfl
theorem rm20 (l : Launch) (Z : State) (a0 : Array Value) (hw : ∀ d ∈ tables_1, d.before a0 Z = true) (ws : List Jvm.Cond) (a1 : Addr) (cn : Int32) (a3 : Addr) (tv : Addr) (zm : Int32) (mm : Nat) (us : List Value) (arr : Addr) (nn : Nat) (vs : List Value) (zC : Int32) (ka : ClassId) (kt : ClassId) (h0 : Heap) (n0 : Nat) (O0 : Old Z n0 h0) (hCS : ¬ zC = 0) (sC : TS_0 Z zC) (E_a1 : Exa Z h0 a1 "java/lang/StringBuilder") (F_value_a1 : Fld Z h0 a1 "java/lang/AbstractStringBuilder" "value" "[B" (.ref arr)) (F_coder_a1 : Fld Z h0 a1 "java/lang/AbstractStringBuilder" "coder" "B" (.int (0 : Int32))) (A_arr : Arv Z h0 arr ka .byte (16 : Int32) vs (.int (0 : Int32))) (E_a3 : Exa Z h0 a3 "java/lang/String") (F_coder_a3 : Fld Z h0 a3 "java/lang/String" "coder" "B" (.int (0 : Int32))) (F_value_a3 : Fld Z h0 a3 "java/lang/String" "value" "[B" (.ref tv)) (A_tv : Arv Z h0 tv kt .byte zm us (.int (0 : Int32))) (ge_arr : n0 ≤ arr) (h_n : Sm cn nn) (h_m : Sm zm mm) (h_r : nn + mm ≤ 16) (h_v : vs.length = 16) :
    MetFree l m_16 (head1 (Jvm.Cond.code m_16 jdk_68_method_73_code 3 none :: ws) (rk 2 0 0 55)) (fun a U => a = #[(.ref a1), (.int cn), (.ref a3)] ∧ Z.Warmed39 U.vm ∧ U.heap = h0) (fun _ _ _ _ _ => True) (fun _ U o U' => ∃ v L, o = .returned v ∧ Q20 Z a1 cn a3 tv zm mm us arr nn vs zC ka kt h0 n0 v U'.heap L ∧ FrameEnd U o U' L (rk 2 0 0 55).cells (rk 2 0 0 55).slots) := by
  refine MetFree.of_bodySF (plainFor_of_name pn_1) hisR ?_
  intro p e s m args below meth c s₁ Bd hml0 hP hK
  obtain ⟨rfl, hZ, hh⟩ := hP
  have hx := Bd.exec
  have hby := Bd.bytes
  have hml : c.maxLocals = 3 := hml0
  have hown : s.vm.findClass "java/lang/AbstractStringBuilder" = some m.cls := findClass_of_methodNamed Bd.named
  have X0 : Stand p l e (rk 2 0 0 55) s m #[(.ref a1), (.int cn), (.ref a3)] below meth c s₁ [] 0 0 := Stand.of_body Bd
  have e0 : s₁.heap = h0 := by rw [← hh, Bd.state]; rfl
  have N0 := Fr.nil n0
  have pre0 := own_pre (tb := p.tables) (e := e) (bl := below) (s := s₁) (ef_20 m a1 cn a3)
  have K0 := Keep.refl h0 [arr]
  obtain ⟨cq1, qq1, qr1⟩ := E_a1.cell
  obtain ⟨_, _, ⟨T1, L1, k1, n1⟩, -, X1, ⟨Lc1, hQ1, l1, y1, z1⟩, st1⟩ := X0.privateBack hx (y := m_14) hown (mvT hZ (tw hw 120 rfl)) (mvT hZ (tw hw 121 rfl)) (own_selp (y2 := m_8) (mvT hZ (tw hw 113 rfl)) rfl (Cond.privateMethod_at (mvP hZ (tw hw 122 rfl) (args := #[]))) (mvT hZ (tw hw 121 rfl)) (by decide)) (Cond.privateMethod_at (mvP hZ (tw hw 122 rfl) (args := #[]))) (mvT hZ (tw hw 124 rfl)) (by decide) (backOf (W := 0) (rm21 l Z a0 hw [] a1 a3 zC h0 n0 O0 hCS sC E_a3 F_coder_a1 F_coder_a3) hZ (tw hw 124 rfl) (tw hw 19 rfl) (by decide) (by decide)) (g := (mkF m 2 #[Rf a1, It cn, Rf a3] [(.ref a3), (.ref a1)])) rfl (by rw [hml]; rfl) (Steps.refl _) (a := a1) (by rw [e0]; exact qq1) qr1 (argsL := [(.ref a3)]) (rest := []) (lenOf pd_4 rfl) rfl (w0 rfl) (hb hby d20_2) (fun _ _ => ⟨rfl, e0, (by decide : 0 + 0 ≤ _), (by decide : 0 + 0 ≤ _)⟩)
  dsimp only [Pt.U, Pt.locs, Pt.cells, Pt.slots] at X1 l1 y1 z1 st1 hQ1
  subst l1 y1 z1
  obtain ⟨rfl, N1q, e1⟩ := hQ1
  have N1 := Fr.app N0 N1q
  obtain ⟨T2, X2, e2, st2⟩ := getF X1 hx hZ hown (host := "") (Or.inl (tw hw 25 rfl)) Via.refl e1 F_value_a1 (g := (mkF m 7 #[Rf a1, It cn, Rf a3] [(.ref a1), (.ref a3)])) rfl rfl (hb hby d20_7)
  obtain ⟨T3, X3, e3, st3⟩ := getF X2 hx hZ hown (host := "") (Or.inl (tw hw 27 rfl)) Via.refl e2 F_coder_a1 (g := (mkF m 12 #[Rf a1, It cn, Rf a3] [(.ref a1), (.int cn), (.ref arr), (.ref a3)])) rfl rfl (hb hby d20_12)
  obtain ⟨cq4, kq4, q4a, q4b, q4c⟩ := isOf hZ e3 E_a3
  obtain ⟨_, _, ⟨T4, L4, k4, n4⟩, -, X4, ⟨Lc4, hQ4, l4, y4, z4⟩, st4⟩ := X3.virtualBack hx (y := m_15) (z := m_15) hown (mvT hZ (tw hw 126 rfl)) (mvT hZ (tw hw 127 rfl)) (notFace_of_selects (args := #[]) (mvT hZ (tw hw 129 rfl))) (mvT hZ (tw hw 129 rfl)) (mvT hZ (tw hw 128 rfl)) (by decide) (backOf (W := 0) (rm22 l Z a0 hw [] a3 arr cn tv zm mm us nn vs zC kt ka h0 n0 O0 hCS sC E_a3 F_coder_a3 F_value_a3 A_tv A_arr ge_arr h_n h_m h_r h_v) hZ (tw hw 130 rfl) (tw hw 23 rfl) (by decide) (by decide)) q4a q4c (g := (mkF m 15 #[Rf a1, It cn, Rf a3] [(.int (0 : Int32)), (.int cn), (.ref arr), (.ref a3)])) rfl (by rw [hml]; rfl) (Steps.refl _) (argsL := [(.ref arr), (.int cn), (.int (0 : Int32))]) (rest := []) (lenOf pd_5 rfl) rfl (w0 rfl) (hb hby d20_15) (fun _ _ => ⟨rfl, e3, (by decide : 0 + 0 ≤ _), (by decide : 0 + 0 ≤ _)⟩)
  dsimp only [Pt.U, Pt.locs, Pt.cells, Pt.slots] at X4 l4 y4 z4 st4 hQ4
  subst l4 y4 z4
  obtain ⟨rfl, N4q, K4q, O4, f4_0⟩ := hQ4
  have N4 := Fr.app N1 N4q
  have K4 := K0.trans K4q (allS (Or.inl (List.mem_of_getElem? (i := 0) rfl)) all0)
  have sg5 : SG p.tables e below (T4.setTop (mkF m 18 #[Rf a1, It cn, Rf a3] [])) (s₁.setTop (mkF m 0 #[Rf a1, It cn, Rf a3] [])) := by
    intro target kt
    show Steps _ _ _ (s₁.setTop (mkF m 0 #[Rf a1, It cn, Rf a3] [])) _
    refine XS.aloadN X0.here hx rfl (hb hby d20_0) rfl rfl ?_
    refine XS.aloadN X0.here hx rfl (hb hby d20_1) rfl rfl ?_
    refine st1.trans ?_
    refine XS.aloadN X1.here hx rfl (hb hby d20_5) rfl rfl ?_
    refine XS.aloadN X1.here hx rfl (hb hby d20_6) rfl rfl ?_
    refine st2 _ ?_
    refine XS.iloadN X2.here hx rfl (hb hby d20_10) rfl ?_
    refine XS.aloadN X2.here hx rfl (hb hby d20_11) rfl rfl ?_
    refine st3 _ ?_
    refine st4.trans ?_
    exact kt
  obtain ⟨fs, hr, hrun, hended, hW, hsame⟩ := X4.leave (v := none) (fun _ => rfl)
  refine ⟨_, _, pre0 _ (sg5 _ (?_)), hrun, hended, _, _, rfl, ?_, ⟨_, rfl⟩, hW, hsame.mono (by decide) (by decide)⟩
  · show Steps _ _ _ (T4.setTop (mkF m 18 #[Rf a1, It cn, Rf a3] [])) _
    exact X4.returnOut hx Bd.returns (hb hby d20_18) hr
  · show Q20 Z a1 cn a3 tv zm mm us arr nn vs zC ka kt h0 n0 _ T4.heap _
    exact ⟨rfl, N4, K4, O4, f4_0⟩
def Q16 (Z : State) (a1 : Addr) (a2 : Addr) (arr : Addr) (cn : Int32) (nn : Nat) (vs : List Value) (tv : Addr) (zm : Int32) (mm : Nat) (us : List Value) (zC : Int32) (ka : ClassId) (kt : ClassId) (h0 : Heap) (n0 : Nat) (v : Option Value) (h : Heap) (L : List Loc) : Prop := v = some (.ref a1) ∧ Fr n0 L ∧ Keep h0 h [a1, arr] ∧ Old Z n0 h ∧ Fld Z h a1 "java/lang/AbstractStringBuilder" "value" "[B" (.ref arr) ∧ Fld Z h a1 "java/lang/AbstractStringBuilder" "coder" "B" (.int (0 : Int32)) ∧ Fld Z h a1 "java/lang/AbstractStringBuilder" "count" "I" (.int (cn + zm)) ∧ Arv Z h arr ka .byte (16 : Int32) (cpy vs nn us 0 mm) (.int (0 : Int32))
theorem ef_16 (m : MethodId) (x0 : Addr) (x1 : Addr) : entryFrame m #[(.ref x0), (.ref x1)] 3 = mkF m 0 #[.val (.ref x0), .val (.ref x1), .unset] [] := by first | (simp [entryFrame, mkF, argsToLocals, Value.category]; done) | rfl
theorem rm16 (l : Launch) (Z : State) (a0 : Array Value) (hw : ∀ d ∈ tables_1, d.before a0 Z = true) (ws : List Jvm.Cond) (a1 : Addr) (a2 : Addr) (arr : Addr) (cn : Int32) (nn : Nat) (vs : List Value) (tv : Addr) (zm : Int32) (mm : Nat) (us : List Value) (zC : Int32) (ka : ClassId) (kt : ClassId) (h0 : Heap) (n0 : Nat) (O0 : Old Z n0 h0) (hCS : ¬ zC = 0) (sC : TS_0 Z zC) (E_a1 : Exa Z h0 a1 "java/lang/StringBuilder") (F_value_a1 : Fld Z h0 a1 "java/lang/AbstractStringBuilder" "value" "[B" (.ref arr)) (F_coder_a1 : Fld Z h0 a1 "java/lang/AbstractStringBuilder" "coder" "B" (.int (0 : Int32))) (F_count_a1 : Fld Z h0 a1 "java/lang/AbstractStringBuilder" "count" "I" (.int cn)) (A_arr : Arv Z h0 arr ka .byte (16 : Int32) vs (.int (0 : Int32))) (E_a2 : Exa Z h0 a2 "java/lang/String") (F_coder_a2 : Fld Z h0 a2 "java/lang/String" "coder" "B" (.int (0 : Int32))) (F_value_a2 : Fld Z h0 a2 "java/lang/String" "value" "[B" (.ref tv)) (A_tv : Arv Z h0 tv kt .byte zm us (.int (0 : Int32))) (ge_a1 : n0 ≤ a1) (ge_arr : n0 ≤ arr) (h_n : Sm cn nn) (h_m : Sm zm mm) (h_r : nn + mm ≤ 16) (h_v : vs.length = 16) :
    MetFree l m_17 (head1 (Jvm.Cond.code m_17 jdk_68_method_22_code 3 (some (.object "java/lang/AbstractStringBuilder")) :: ws) (rk 3 0 0 69)) (fun a U => a = #[(.ref a1), (.ref a2)] ∧ Z.Warmed39 U.vm ∧ U.heap = h0) (fun _ _ _ _ _ => True) (fun _ U o U' => ∃ v L, o = .returned v ∧ Q16 Z a1 a2 arr cn nn vs tv zm mm us zC ka kt h0 n0 v U'.heap L ∧ FrameEnd U o U' L (rk 3 0 0 69).cells (rk 3 0 0 69).slots) := by
  refine MetFree.of_bodySF (plainFor_of_name pn_1) hisR ?_
  intro p e s m args below meth c s₁ Bd hml0 hP hK
  obtain ⟨rfl, hZ, hh⟩ := hP
  have hx := Bd.exec
  have hby := Bd.bytes
  have hml : c.maxLocals = 3 := hml0
  have hown : s.vm.findClass "java/lang/AbstractStringBuilder" = some m.cls := findClass_of_methodNamed Bd.named
  have X0 : Stand p l e (rk 3 0 0 69) s m #[(.ref a1), (.ref a2)] below meth c s₁ [] 0 0 := Stand.of_body Bd
  have e0 : s₁.heap = h0 := by rw [← hh, Bd.state]; rfl
  have N0 := Fr.nil n0
  have pre0 := own_pre (tb := p.tables) (e := e) (bl := below) (s := s₁) (ef_16 m a1 a2)
  have K0 := Keep.refl h0 [a1, arr]
  obtain ⟨cq1, kq1, q1a, q1b, q1c⟩ := isOf hZ e0 E_a2
  obtain ⟨_, _, ⟨T1, L1, k1, n1⟩, -, X1, ⟨Lc1, hQ1, l1, y1, z1⟩, st1⟩ := X0.virtualBack hx (y := m_2) (z := m_2) hown (mvT hZ (tw hw 98 rfl)) (mvT hZ (tw hw 99 rfl)) (notFace_of_selects (args := #[]) (mvT hZ (tw hw 101 rfl))) (mvT hZ (tw hw 101 rfl)) (mvT hZ (tw hw 100 rfl)) (by decide) (backOf (W := 0) (rm17 l Z a0 hw [] a2 tv zm us zC kt h0 n0 O0 hCS sC E_a2 F_coder_a2 F_value_a2 A_tv) hZ (tw hw 102 rfl) (tw hw 23 rfl) (by decide) (by decide)) q1a q1c (g := (mkF m 10 #[Rf a1, Rf a2, .unset] [(.ref a2)])) rfl (by rw [hml]; rfl) (Steps.refl _) (argsL := []) (rest := []) (lenOf pd_1 rfl) rfl (w0 rfl) (hb hby d16_10) (fun _ _ => ⟨rfl, e0, (by decide : 0 + 0 ≤ _), (by decide : 0 + 0 ≤ _)⟩)
  dsimp only [Pt.U, Pt.locs, Pt.cells, Pt.slots] at X1 l1 y1 z1 st1 hQ1
  subst l1 y1 z1
  obtain ⟨rfl, N1q, e1⟩ := hQ1
  have N1 := Fr.app N0 N1q
  obtain ⟨T2, X2, e2, st2⟩ := getF X1 hx hZ hown (host := "") (Or.inl (tw hw 108 rfl)) Via.refl e1 F_count_a1 (g := (mkF m 16 #[Rf a1, Rf a2, It zm] [(.ref a1), (.ref a1)])) rfl rfl (hb hby d16_16)
  obtain ⟨cq3, qq3, qr3⟩ := E_a1.cell
  obtain ⟨_, _, ⟨T3, L3, k3, n3⟩, -, X3, ⟨Lc3, hQ3, l3, y3, z3⟩, st3⟩ := X2.privateBack hx (y := m_8) hown (mvT hZ (tw hw 110 rfl)) (mvT hZ (tw hw 111 rfl)) (own_selp (y2 := m_8) (mvT hZ (tw hw 113 rfl)) rfl (Cond.privateMethod_at (mvP hZ (tw hw 112 rfl) (args := #[]))) (mvT hZ (tw hw 111 rfl)) (by decide)) (Cond.privateMethod_at (mvP hZ (tw hw 112 rfl) (args := #[]))) (mvT hZ (tw hw 114 rfl)) (by decide) (backOf (W := 0) (rm19 l Z a0 hw [] a1 (cn + zm) arr vs (nn + mm) ka h0 n0 O0 F_value_a1 F_coder_a1 A_arr (Sm.add h_n h_m (by omega)) h_r) hZ (tw hw 114 rfl) (tw hw 19 rfl) (by decide) (by decide)) (g := (mkF m 21 #[Rf a1, Rf a2, It zm] [(.int (cn + zm)), (.ref a1)])) rfl (by rw [hml]; rfl) (Steps.refl _) (a := a1) (by rw [e2]; exact qq3) qr3 (argsL := [(.int (cn + zm))]) (rest := []) (lenOf pd_2 rfl) rfl (w0 rfl) (hb hby d16_21) (fun _ _ => ⟨rfl, e2, (by decide : 0 + 0 ≤ _), (by decide : 0 + 0 ≤ _)⟩)
  dsimp only [Pt.U, Pt.locs, Pt.cells, Pt.slots] at X3 l3 y3 z3 st3 hQ3
  subst l3 y3 z3
  obtain ⟨rfl, N3q, e3⟩ := hQ3
  have N3 := Fr.app N1 N3q
  obtain ⟨T4, X4, e4, st4⟩ := getF X3 hx hZ hown (host := "") (Or.inl (tw hw 108 rfl)) Via.refl e3 F_count_a1 (g := (mkF m 26 #[Rf a1, Rf a2, It zm] [(.ref a1), (.ref a1)])) rfl rfl (hb hby d16_26)
  obtain ⟨cq5, qq5, qr5⟩ := E_a1.cell
  obtain ⟨_, _, ⟨T5, L5, k5, n5⟩, -, X5, ⟨Lc5, hQ5, l5, y5, z5⟩, st5⟩ := X4.privateBack hx (y := m_16) hown (mvT hZ (tw hw 115 rfl)) (mvT hZ (tw hw 116 rfl)) (own_selp (y2 := m_8) (mvT hZ (tw hw 113 rfl)) rfl (Cond.privateMethod_at (mvP hZ (tw hw 117 rfl) (args := #[]))) (mvT hZ (tw hw 116 rfl)) (by decide)) (Cond.privateMethod_at (mvP hZ (tw hw 117 rfl) (args := #[]))) (mvT hZ (tw hw 119 rfl)) (by decide) (backOf (W := 0) (rm20 l Z a0 hw [] a1 cn a2 tv zm mm us arr nn vs zC ka kt h0 n0 O0 hCS sC E_a1 F_value_a1 F_coder_a1 A_arr E_a2 F_coder_a2 F_value_a2 A_tv ge_arr h_n h_m h_r h_v) hZ (tw hw 119 rfl) (tw hw 19 rfl) (by decide) (by decide)) (g := (mkF m 30 #[Rf a1, Rf a2, It zm] [(.ref a2), (.int cn), (.ref a1)])) rfl (by rw [hml]; rfl) (Steps.refl _) (a := a1) (by rw [e4]; exact qq5) qr5 (argsL := [(.int cn), (.ref a2)]) (rest := []) (lenOf pd_6 rfl) rfl (w0 rfl) (hb hby d16_30) (fun _ _ => ⟨rfl, e4, (by decide : 0 + 0 ≤ _), (by decide : 0 + 0 ≤ _)⟩)
  dsimp only [Pt.U, Pt.locs, Pt.cells, Pt.slots] at X5 l5 y5 z5 st5 hQ5
  subst l5 y5 z5
  obtain ⟨rfl, N5q, K5q, O5, f5_0⟩ := hQ5
  have N5 := Fr.app N3 N5q
  have K5 := K0.trans K5q (allS (Or.inl (List.mem_of_getElem? (i := 1) rfl)) all0)
  obtain ⟨T6, X6, e6, st6⟩ := getF X5 hx hZ hown (host := "") (Or.inl (tw hw 108 rfl)) Via.refl rfl (F_count_a1.keep K5q (ninS (Exa.neArv (E_a1.keep K5q) f5_0 (tw hw 10 rfl)) nin0)) (g := (mkF m 35 #[Rf a1, Rf a2, It zm] [(.ref a1), (.ref a1)])) rfl rfl (hb hby d16_35)
  obtain ⟨T7, h7, X7, e7, W7, st7⟩ := putF X6 hx hZ hown (host := "") (Or.inl (tw hw 108 rfl)) Via.refl e6 (F_count_a1.keep K5q (ninS (Exa.neArv (E_a1.keep K5q) f5_0 (tw hw 10 rfl)) nin0)) (E_a1.keep K5q) (Or.inl (tw hw 109 rfl)) (tw hw 10 rfl) (ty := .int) (by decide) rfl rfl (g := (mkF m 40 #[Rf a1, Rf a2, It zm] [(.int (cn + zm)), (.ref a1)])) rfl rfl (hb hby d16_40)
  have Fw7 := (F_count_a1.keep K5q (ninS (Exa.neArv (E_a1.keep K5q) f5_0 (tw hw 10 rfl)) nin0)).same W7
  have N7 := Fr.snoc X7 N5 ge_a1
  have O8 := O5.wr W7 ge_a1
  have K7 := K5.wr W7 (Or.inl (List.mem_of_getElem? (i := 0) rfl))
  have sg9 : SG p.tables e below (T7.setTop (mkF m 44 #[Rf a1, Rf a2, It zm] [(.ref a1)])) (s₁.setTop (mkF m 0 #[Rf a1, Rf a2, .unset] [])) := by
    intro target kt
    show Steps _ _ _ (s₁.setTop (mkF m 0 #[Rf a1, Rf a2, .unset] [])) _
    refine XS.aloadN X0.here hx rfl (hb hby d16_0) rfl rfl ?_
    refine XS.ifnonnullYes X0.here hx rfl (pc0 := 1) (pc' := 9) rfl (hb hby d16_1) rfl (by decide) (by decide) ?_
    refine XS.aloadN X0.here hx rfl (hb hby d16_9) rfl rfl ?_
    refine st1.trans ?_
    refine XS.istoreN X1.here hx rfl (hb hby d16_13) rfl (l' := #[Rf a1, Rf a2, It zm]) rfl ?_
    refine XS.aloadN X1.here hx rfl (hb hby d16_14) rfl rfl ?_
    refine XS.aloadN X1.here hx rfl (hb hby d16_15) rfl rfl ?_
    refine st2 _ ?_
    refine XS.iloadN X2.here hx rfl (hb hby d16_19) rfl ?_
    refine XS.iadd X2.here hx rfl (hb hby d16_20) rfl ?_
    refine st3.trans ?_
    refine XS.aloadN X3.here hx rfl (hb hby d16_24) rfl rfl ?_
    refine XS.aloadN X3.here hx rfl (hb hby d16_25) rfl rfl ?_
    refine st4 _ ?_
    refine XS.aloadN X4.here hx rfl (hb hby d16_29) rfl rfl ?_
    refine st5.trans ?_
    refine XS.aloadN X5.here hx rfl (hb hby d16_33) rfl rfl ?_
    refine XS.dup X5.here hx rfl (hb hby d16_34) rfl rfl ?_
    refine st6 _ ?_
    refine XS.iloadN X6.here hx rfl (hb hby d16_38) rfl ?_
    refine XS.iadd X6.here hx rfl (hb hby d16_39) rfl ?_
    refine st7 _ ?_
    refine XS.aloadN X7.here hx rfl (hb hby d16_43) rfl rfl ?_
    exact kt
  obtain ⟨fs, hr, hrun, hended, hW, hsame⟩ := X7.leave (v := some (.ref a1)) (fun h => by rw [Bd.returns] at h; cases h)
  refine ⟨_, _, pre0 _ (sg9 _ (?_)), hrun, hended, _, _, rfl, ?_, ⟨_, rfl⟩, hW, hsame.mono (by decide) (by decide)⟩
  · show Steps _ _ _ (T7.setTop (mkF m 44 #[Rf a1, Rf a2, It zm] [(.ref a1)])) _
    jvm_step X7.here [X7.here.top, hx, (hb hby d16_44), X7.method', Bd.returns, Value.isRef, FieldType.isReference]
    first | (intro acts; rw [hr _ acts rfl rfl rfl]) | rw [hr _ _ rfl rfl rfl]
    exact Steps.refl _
  · show Q16 Z a1 a2 arr cn nn vs tv zm mm us zC ka kt h0 n0 _ T7.heap _
    rw [e7]
    exact ⟨rfl, N7, K7, O8, ((F_value_a1.keep K5q (ninS (Exa.neArv (E_a1.keep K5q) f5_0 (tw hw 10 rfl)) nin0)).other W7 (sn (.array .byte) .int (Or.inl (tw hw 26 rfl)) (Or.inl (tw hw 109 rfl)))), ((F_coder_a1.keep K5q (ninS (Exa.neArv (E_a1.keep K5q) f5_0 (tw hw 10 rfl)) nin0)).other W7 (sn .byte .int (Or.inl (tw hw 28 rfl)) (Or.inl (tw hw 109 rfl)))), Fw7, (f5_0.other W7 (Ne.symm (Exa.neArv (E_a1.keep K5q) f5_0 (tw hw 10 rfl))))⟩
def Q15 (Z : State) (a1 : Addr) (a2 : Addr) (arr : Addr) (cn : Int32) (nn : Nat) (vs : List Value) (tv : Addr) (zm : Int32) (mm : Nat) (us : List Value) (zC : Int32) (ka : ClassId) (kt : ClassId) (h0 : Heap) (n0 : Nat) (v : Option Value) (h : Heap) (L : List Loc) : Prop := v = some (.ref a1) ∧ Fr n0 L ∧ Keep h0 h [a1, arr] ∧ Old Z n0 h ∧ Fld Z h a1 "java/lang/AbstractStringBuilder" "value" "[B" (.ref arr) ∧ Fld Z h a1 "java/lang/AbstractStringBuilder" "coder" "B" (.int (0 : Int32)) ∧ Fld Z h a1 "java/lang/AbstractStringBuilder" "count" "I" (.int (cn + zm)) ∧ Arv Z h arr ka .byte (16 : Int32) (cpy vs nn us 0 mm) (.int (0 : Int32))
theorem rm15 (l : Launch) (Z : State) (a0 : Array Value) (hw : ∀ d ∈ tables_1, d.before a0 Z = true) (ws : List Jvm.Cond) (a1 : Addr) (a2 : Addr) (arr : Addr) (cn : Int32) (nn : Nat) (vs : List Value) (tv : Addr) (zm : Int32) (mm : Nat) (us : List Value) (zC : Int32) (ka : ClassId) (kt : ClassId) (h0 : Heap) (n0 : Nat) (O0 : Old Z n0 h0) (hCS : ¬ zC = 0) (sC : TS_0 Z zC) (E_a1 : Exa Z h0 a1 "java/lang/StringBuilder") (F_value_a1 : Fld Z h0 a1 "java/lang/AbstractStringBuilder" "value" "[B" (.ref arr)) (F_coder_a1 : Fld Z h0 a1 "java/lang/AbstractStringBuilder" "coder" "B" (.int (0 : Int32))) (F_count_a1 : Fld Z h0 a1 "java/lang/AbstractStringBuilder" "count" "I" (.int cn)) (A_arr : Arv Z h0 arr ka .byte (16 : Int32) vs (.int (0 : Int32))) (E_a2 : Exa Z h0 a2 "java/lang/String") (F_coder_a2 : Fld Z h0 a2 "java/lang/String" "coder" "B" (.int (0 : Int32))) (F_value_a2 : Fld Z h0 a2 "java/lang/String" "value" "[B" (.ref tv)) (A_tv : Arv Z h0 tv kt .byte zm us (.int (0 : Int32))) (ge_a1 : n0 ≤ a1) (ge_arr : n0 ≤ arr) (h_n : Sm cn nn) (h_m : Sm zm mm) (h_r : nn + mm ≤ 16) (h_v : vs.length = 16) :
    MetFree l m_18 (head1 (Jvm.Cond.code m_18 jdk_67_method_7_code 2 (some (.object "java/lang/StringBuilder")) :: ws) (rk 4 0 0 83)) (fun a U => a = #[(.ref a1), (.ref a2)] ∧ Z.Warmed39 U.vm ∧ U.heap = h0) (fun _ _ _ _ _ => True) (fun _ U o U' => ∃ v L, o = .returned v ∧ Q15 Z a1 a2 arr cn nn vs tv zm mm us zC ka kt h0 n0 v U'.heap L ∧ FrameEnd U o U' L (rk 4 0 0 83).cells (rk 4 0 0 83).slots) := by
  refine MetFree.of_bodySF (plainFor_of_name pn_2) hisR ?_
  intro p e s m args below meth c s₁ Bd hml0 hP hK
  obtain ⟨rfl, hZ, hh⟩ := hP
  have hx := Bd.exec
  have hby := Bd.bytes
  have hml : c.maxLocals = 2 := hml0
  have hown : s.vm.findClass "java/lang/StringBuilder" = some m.cls := findClass_of_methodNamed Bd.named
  have X0 : Stand p l e (rk 4 0 0 83) s m #[(.ref a1), (.ref a2)] below meth c s₁ [] 0 0 := Stand.of_body Bd
  have e0 : s₁.heap = h0 := by rw [← hh, Bd.state]; rfl
  have N0 := Fr.nil n0
  have pre0 := own_pre (tb := p.tables) (e := e) (bl := below) (s := s₁) (ef_21 m a1 a2)
  have K0 := Keep.refl h0 [a1, arr]
  obtain ⟨_, _, ⟨T1, L1, k1, n1⟩, -, X1, ⟨Lc1, hQ1, l1, y1, z1⟩, st1⟩ := superBack X0 hx hZ (y := m_17) hown (tw hw 93 rfl) (own_same (y := m_17) (y2 := m_8) (tw hw 113 rfl) rfl (tw hw 94 rfl) (by decide)) (tw hw 94 rfl) (tw hw 95 rfl) (by decide) (backOf (W := 0) (rm16 l Z a0 hw [] a1 a2 arr cn nn vs tv zm mm us zC ka kt h0 n0 O0 hCS sC E_a1 F_value_a1 F_coder_a1 F_count_a1 A_arr E_a2 F_coder_a2 F_value_a2 A_tv ge_a1 ge_arr h_n h_m h_r h_v) hZ (tw hw 97 rfl) (tw hw 19 rfl) (by decide) (by decide)) e0 (Ins.self E_a1) (g := (mkF m 2 #[Rf a1, Rf a2] [(.ref a2), (.ref a1)])) rfl (by rw [hml]; rfl) (tw hw 97 rfl) (argsL := [(.ref a2)]) (rest := []) (lenOf pd_7 rfl) rfl (w0 rfl) (hb hby d15_2) (fun _ _ => ⟨rfl, e0, (by decide : 0 + 0 ≤ _), (by decide : 0 + 0 ≤ _)⟩)
  dsimp only [Pt.U, Pt.locs, Pt.cells, Pt.slots] at X1 l1 y1 z1 st1 hQ1
  subst l1 y1 z1
  obtain ⟨rfl, N1q, K1q, O1, f1_0, f1_1, f1_2, f1_3⟩ := hQ1
  have N1 := Fr.app N0 N1q
  have K1 := K0.trans K1q (allS (Or.inl (List.mem_of_getElem? (i := 0) rfl)) (allS (Or.inl (List.mem_of_getElem? (i := 1) rfl)) all0))
  have sg2 : SG p.tables e below (T1.setTop (mkF m 7 #[Rf a1, Rf a2] [(.ref a1)])) (s₁.setTop (mkF m 0 #[Rf a1, Rf a2] [])) := by
    intro target kt
    show Steps _ _ _ (s₁.setTop (mkF m 0 #[Rf a1, Rf a2] [])) _
    refine XS.aloadN X0.here hx rfl (hb hby d15_0) rfl rfl ?_
    refine XS.aloadN X0.here hx rfl (hb hby d15_1) rfl rfl ?_
    refine st1.trans ?_
    refine XS.pop X1.here hx rfl (hb hby d15_5) rfl rfl ?_
    refine XS.aloadN X1.here hx rfl (hb hby d15_6) rfl rfl ?_
    exact kt
  obtain ⟨fs, hr, hrun, hended, hW, hsame⟩ := X1.leave (v := some (.ref a1)) (fun h => by rw [Bd.returns] at h; cases h)
  refine ⟨_, _, pre0 _ (sg2 _ (?_)), hrun, hended, _, _, rfl, ?_, ⟨_, rfl⟩, hW, hsame.mono (by decide) (by decide)⟩
  · show Steps _ _ _ (T1.setTop (mkF m 7 #[Rf a1, Rf a2] [(.ref a1)])) _
    jvm_step X1.here [X1.here.top, hx, (hb hby d15_7), X1.method', Bd.returns, Value.isRef, FieldType.isReference]
    first | (intro acts; rw [hr _ acts rfl rfl rfl]) | rw [hr _ _ rfl rfl rfl]
    exact Steps.refl _
  · show Q15 Z a1 a2 arr cn nn vs tv zm mm us zC ka kt h0 n0 _ T1.heap _
    exact ⟨rfl, N1, K1, O1, f1_0, f1_1, f1_2, f1_3⟩
def Q26 (Z : State) (p1 : Int32) (h0 : Heap) (n0 : Nat) (v : Option Value) (h : Heap) (L : List Loc) : Prop := v = some (.int (1 : Int32)) ∧ Fr n0 L ∧ h = h0
theorem ef_26 (m : MethodId) (x0 : Int32) : entryFrame m #[(.int x0)] 1 = mkF m 0 #[.val (.int x0)] [] := by first | (simp [entryFrame, mkF, argsToLocals, Value.category]; done) | rfl
theorem rm26 (l : Launch) (Z : State) (a0 : Array Value) (hw : ∀ d ∈ tables_1, d.before a0 Z = true) (ws : List Jvm.Cond) (p1 : Int32) (h0 : Heap) (n0 : Nat) (O0 : Old Z n0 h0) (h_l : ¬ (255 : Int32) < p1) :
    MetFree l m_19 (head1 (Jvm.Cond.code m_19 jdk_43_method_3_code 1 (some .boolean) :: ws) (rk 0 0 0 0)) (fun a U => a = #[(.int p1)] ∧ Z.Warmed39 U.vm ∧ U.heap = h0) (fun _ _ _ _ _ => True) (fun _ U o U' => ∃ v L, o = .returned v ∧ Q26 Z p1 h0 n0 v U'.heap L ∧ FrameEnd U o U' L (rk 0 0 0 0).cells (rk 0 0 0 0).slots) := by
  refine MetFree.of_bodySF (plainFor_of_name pn_4) hisR ?_
  intro p e s m args below meth c s₁ Bd hml0 hP hK
  obtain ⟨rfl, hZ, hh⟩ := hP
  have hx := Bd.exec
  have hby := Bd.bytes
  have hml : c.maxLocals = 1 := hml0
  have hown : s.vm.findClass "java/lang/StringLatin1" = some m.cls := findClass_of_methodNamed Bd.named
  have X0 : Stand p l e (rk 0 0 0 0) s m #[(.int p1)] below meth c s₁ [] 0 0 := Stand.of_body Bd
  have e0 : s₁.heap = h0 := by rw [← hh, Bd.state]; rfl
  have N0 := Fr.nil n0
  have pre0 := own_pre (tb := p.tables) (e := e) (bl := below) (s := s₁) (ef_26 m p1)
  have sg1 : SG p.tables e below (s₁.setTop (mkF m 12 #[It p1] [(.int (1 : Int32))])) (s₁.setTop (mkF m 0 #[It p1] [])) := by
    intro target kt
    show Steps _ _ _ (s₁.setTop (mkF m 0 #[It p1] [])) _
    refine XS.iloadN X0.here hx rfl (hb hby d26_0) rfl ?_
    refine XS.sipush X0.here hx rfl (hb hby d26_1) ?_
    refine XS.icmpNo X0.here hx rfl (hb hby d26_4) rfl (flt h_l).2.2.1 ?_
    refine XS.iconst X0.here hx rfl (hb hby d26_7) ?_
    refine XS.goto X0.here hx rfl (pc0 := 8) (pc' := 12) rfl (hb hby d26_8) (by decide) (by decide) ?_
    exact kt
  obtain ⟨fs, hr, hrun, hended, hW, hsame⟩ := X0.leave (v := some (.int (1 : Int32))) (fun h => by rw [Bd.returns] at h; cases h)
  refine ⟨_, _, pre0 _ (sg1 _ (?_)), hrun, hended, _, _, rfl, ?_, ⟨_, rfl⟩, hW, hsame.mono (by decide) (by decide)⟩
  · show Steps _ _ _ (s₁.setTop (mkF m 12 #[It p1] [(.int (1 : Int32))])) _
    exact retN X0 hx (t := .boolean) Bd.returns (by simp) (hb hby d26_12) hr
  · show Q26 Z p1 h0 n0 _ s₁.heap _
    rw [e0]
    exact ⟨rfl, N0, rfl⟩
def Q24 (Z : State) (a1 : Addr) (p2 : Int32) (arr : Addr) (cn : Int32) (nn : Nat) (vs : List Value) (zC : Int32) (ka : ClassId) (h0 : Heap) (n0 : Nat) (v : Option Value) (h : Heap) (L : List Loc) : Prop := v = some (.ref a1) ∧ Fr n0 L ∧ Keep h0 h [a1, arr] ∧ Old Z n0 h ∧ Fld Z h a1 "java/lang/AbstractStringBuilder" "value" "[B" (.ref arr) ∧ Fld Z h a1 "java/lang/AbstractStringBuilder" "coder" "B" (.int (0 : Int32)) ∧ Fld Z h a1 "java/lang/AbstractStringBuilder" "count" "I" (.int (cn + (1 : Int32))) ∧ Arv Z h arr ka .byte (16 : Int32) (vs.set nn (.int (p2.toInt8.toInt32.toInt8.toInt32))) (.int (0 : Int32))
theorem rm24 (l : Launch) (Z : State) (a0 : Array Value) (hw : ∀ d ∈ tables_1, d.before a0 Z = true) (ws : List Jvm.Cond) (a1 : Addr) (p2 : Int32) (arr : Addr) (cn : Int32) (nn : Nat) (vs : List Value) (zC : Int32) (ka : ClassId) (h0 : Heap) (n0 : Nat) (O0 : Old Z n0 h0) (hCS : ¬ zC = 0) (sC : TS_0 Z zC) (E_a1 : Exa Z h0 a1 "java/lang/StringBuilder") (F_value_a1 : Fld Z h0 a1 "java/lang/AbstractStringBuilder" "value" "[B" (.ref arr)) (F_coder_a1 : Fld Z h0 a1 "java/lang/AbstractStringBuilder" "coder" "B" (.int (0 : Int32))) (F_count_a1 : Fld Z h0 a1 "java/lang/AbstractStringBuilder" "count" "I" (.int cn)) (A_arr : Arv Z h0 arr ka .byte (16 : Int32) vs (.int (0 : Int32))) (ge_a1 : n0 ≤ a1) (ge_arr : n0 ≤ arr) (h_n : Sm cn nn) (h_r : nn + 1 ≤ 16) (h_v : vs.length = 16) (h_l : ¬ (255 : Int32) < p2) :
    MetFree l m_20 (head1 (Jvm.Cond.code m_20 jdk_68_method_31_code 2 (some (.object "java/lang/AbstractStringBuilder")) :: ws) (rk 1 0 0 14)) (fun a U => a = #[(.ref a1), (.int p2)] ∧ Z.Warmed39 U.vm ∧ U.heap = h0) (fun _ _ _ _ _ => True) (fun _ U o U' => ∃ v L, o = .returned v ∧ Q24 Z a1 p2 arr cn nn vs zC ka h0 n0 v U'.heap L ∧ FrameEnd U o U' L (rk 1 0 0 14).cells (rk 1 0 0 14).slots) := by
  refine MetFree.of_bodySF (plainFor_of_name pn_1) hisR ?_
  intro p e s m args below meth c s₁ Bd hml0 hP hK
  obtain ⟨rfl, hZ, hh⟩ := hP
  have hx := Bd.exec
  have hby := Bd.bytes
  have hml : c.maxLocals = 2 := hml0
  have hown : s.vm.findClass "java/lang/AbstractStringBuilder" = some m.cls := findClass_of_methodNamed Bd.named
  have X0 : Stand p l e (rk 1 0 0 14) s m #[(.ref a1), (.int p2)] below meth c s₁ [] 0 0 := Stand.of_body Bd
  have e0 : s₁.heap = h0 := by rw [← hh, Bd.state]; rfl
  have N0 := Fr.nil n0
  have pre0 := own_pre (tb := p.tables) (e := e) (bl := below) (s := s₁) (ef_4 m a1 p2)
  have K0 := Keep.refl h0 [a1, arr]
  obtain ⟨T1, X1, e1, st1⟩ := getF X0 hx hZ hown (host := "") (Or.inl (tw hw 108 rfl)) Via.refl e0 F_count_a1 (g := (mkF m 2 #[Rf a1, It p2] [(.ref a1), (.ref a1)])) rfl rfl (hb hby d24_2)
  obtain ⟨cq2, qq2, qr2⟩ := E_a1.cell
  obtain ⟨_, _, ⟨T2, L2, k2, n2⟩, -, X2, ⟨Lc2, hQ2, l2, y2, z2⟩, st2⟩ := X1.privateBack hx (y := m_8) hown (mvT hZ (tw hw 110 rfl)) (mvT hZ (tw hw 111 rfl)) (own_selp (y2 := m_8) (mvT hZ (tw hw 113 rfl)) rfl (Cond.privateMethod_at (mvP hZ (tw hw 112 rfl) (args := #[]))) (mvT hZ (tw hw 111 rfl)) (by decide)) (Cond.privateMethod_at (mvP hZ (tw hw 112 rfl) (args := #[]))) (mvT hZ (tw hw 114 rfl)) (by decide) (backOf (W := 0) (rm19 l Z a0 hw [] a1 (cn + (1 : Int32)) arr vs (nn + 1) ka h0 n0 O0 F_value_a1 F_coder_a1 A_arr (Sm.add h_n (Sm.lit (x := (1 : Int32)) (n := 1) (by decide)) (by omega)) h_r) hZ (tw hw 114 rfl) (tw hw 19 rfl) (by decide) (by decide)) (g := (mkF m 7 #[Rf a1, It p2] [(.int (cn + (1 : Int32))), (.ref a1)])) rfl (by rw [hml]; rfl) (Steps.refl _) (a := a1) (by rw [e1]; exact qq2) qr2 (argsL := [(.int (cn + (1 : Int32)))]) (rest := []) (lenOf pd_2 rfl) rfl (w0 rfl) (hb hby d24_7) (fun _ _ => ⟨rfl, e1, (by decide : 0 + 0 ≤ _), (by decide : 0 + 0 ≤ _)⟩)
  dsimp only [Pt.U, Pt.locs, Pt.cells, Pt.slots] at X2 l2 y2 z2 st2 hQ2
  subst l2 y2 z2
  obtain ⟨rfl, N2q, e2⟩ := hQ2
  have N2 := Fr.app N0 N2q
  obtain ⟨cq3, kq3, q3a, q3b, q3c⟩ := isOf hZ e2 E_a1
  obtain ⟨_, _, ⟨T3, L3, k3, n3⟩, -, X3, ⟨Lc3, hQ3, l3, y3, z3⟩, st3⟩ := X2.virtualBack hx (y := m_4) (z := m_4) hown (mvT hZ (tw hw 144 rfl)) (mvT hZ (tw hw 145 rfl)) (notFace_of_selects (args := #[]) (mvT hZ (tw hw 147 rfl))) (mvT hZ (tw hw 147 rfl)) (mvT hZ (tw hw 146 rfl)) (by decide) (backOf (W := 0) (rm25 l Z a0 hw [] a1 zC h0 n0 O0 hCS sC F_coder_a1) hZ (tw hw 148 rfl) (tw hw 19 rfl) (by decide) (by decide)) q3a q3c (g := (mkF m 11 #[Rf a1, It p2] [(.ref a1)])) rfl (by rw [hml]; rfl) (Steps.refl _) (argsL := []) (rest := []) (lenOf pd_8 rfl) rfl (w0 rfl) (hb hby d24_11) (fun _ _ => ⟨rfl, e2, (by decide : 0 + 0 ≤ _), (by decide : 0 + 0 ≤ _)⟩)
  dsimp only [Pt.U, Pt.locs, Pt.cells, Pt.slots] at X3 l3 y3 z3 st3 hQ3
  subst l3 y3 z3
  obtain ⟨rfl, N3q, e3⟩ := hQ3
  have N3 := Fr.app N2 N3q
  obtain ⟨_, _, ⟨T4, L4, k4, n4⟩, -, X4, ⟨Lc4, hQ4, l4, y4, z4⟩, st4⟩ := Jvm.LawKit.callS X3 hx (y := m_19) hown (mvT hZ (tw hw 149 rfl)) (mvT hZ (tw hw 150 rfl)) (mvT hZ (tw hw 151 rfl)) (mvT hZ (tw hw 152 rfl)) (by decide) (backOf (W := 0) (rm26 l Z a0 hw [] p2 h0 n0 O0 h_l) hZ (tw hw 152 rfl) (tw hw 151 rfl) (by decide) (by decide)) (g := (mkF m 18 #[Rf a1, It p2] [(.int p2)])) rfl (by rw [hml]; rfl) (argsL := [(.int p2)]) (rest := []) (lenOf pd_9 rfl) rfl (w0 rfl) (hb hby d24_18) (fun _ _ => ⟨rfl, e3, (by decide : 0 + 0 ≤ _), (by decide : 0 + 0 ≤ _)⟩)
  dsimp only [Pt.U, Pt.locs, Pt.cells, Pt.slots] at X4 l4 y4 z4 st4 hQ4
  subst l4 y4 z4
  obtain ⟨rfl, N4q, e4⟩ := hQ4
  have N4 := Fr.app N3 N4q
  obtain ⟨T5, X5, e5, st5⟩ := getF X4 hx hZ hown (host := "") (Or.inl (tw hw 25 rfl)) Via.refl e4 F_value_a1 (g := (mkF m 25 #[Rf a1, It p2] [(.ref a1)])) rfl rfl (hb hby d24_25)
  obtain ⟨T6, X6, e6, st6⟩ := getF X5 hx hZ hown (host := "") (Or.inl (tw hw 108 rfl)) Via.refl e5 F_count_a1 (g := (mkF m 30 #[Rf a1, It p2] [(.ref a1), (.ref a1), (.ref arr)])) rfl rfl (hb hby d24_30)
  obtain ⟨T7, h7, X7, e7, W7, st7⟩ := putF X6 hx hZ hown (host := "") (Or.inl (tw hw 108 rfl)) Via.refl e6 F_count_a1 E_a1 (Or.inl (tw hw 109 rfl)) (tw hw 10 rfl) (ty := .int) (by decide) rfl rfl (g := (mkF m 36 #[Rf a1, It p2] [(.int (cn + (1 : Int32))), (.ref a1), (.int cn), (.ref arr)])) rfl rfl (hb hby d24_36)
  have Fw7 := F_count_a1.same W7
  have N7 := Fr.snoc X7 N4 ge_a1
  have O8 := O0.wr W7 ge_a1
  have K7 := K0.wr W7 (Or.inl (List.mem_of_getElem? (i := 0) rfl))
  obtain ⟨cl9, Ar9, q9, Sz9, Nn9, Hh9, Gg9⟩ := id (A_arr.other W7 (Ne.symm (Exa.neArv E_a1 A_arr (tw hw 10 rfl))))
  have hin9 : ¬ (cn < 0 ∨ cl9.slots.size ≤ (cn).toNatClampNeg) := own_inb Sz9 h_n (Sm.lit (x := (16 : Int32)) (n := 16) (by decide)) h_r
  obtain ⟨T10, h10, X10, e10, W10, st10⟩ := stB X7 hx hZ e7 Ar9 (j := cn) hin9 (g := (mkF m 41 #[Rf a1, It p2] [(.int (p2.toInt8.toInt32)), (.int cn), (.ref arr)])) rfl rfl (hb hby d24_41)
  have V10 : Arv Z h10 arr ka .byte (16 : Int32) (vs.set nn (.int ((p2.toInt8.toInt32).toInt8.toInt32))) (.int (0 : Int32)) := Arv.set Ar9 q9 Sz9 Nn9 Hh9 Gg9 (fits_nar_byte _) W10 nn h_n.nat (h_v ▸ h_r)
  have N10 := Fr.snoc X10 N7 ge_arr
  have O11 := O8.wr W10 ge_arr
  have K10 := K7.wr W10 (Or.inl (List.mem_of_getElem? (i := 1) rfl))
  have sg12 : SG p.tables e below (T10.setTop (mkF m 76 #[Rf a1, It p2] [(.ref a1)])) (s₁.setTop (mkF m 0 #[Rf a1, It p2] [])) := by
    intro target kt
    show Steps _ _ _ (s₁.setTop (mkF m 0 #[Rf a1, It p2] [])) _
    refine XS.aloadN X0.here hx rfl (hb hby d24_0) rfl rfl ?_
    refine XS.aloadN X0.here hx rfl (hb hby d24_1) rfl rfl ?_
    refine st1 _ ?_
    refine XS.iconst X1.here hx rfl (hb hby d24_5) ?_
    refine XS.iadd X1.here hx rfl (hb hby d24_6) rfl ?_
    refine st2.trans ?_
    refine XS.aloadN X2.here hx rfl (hb hby d24_10) rfl rfl ?_
    refine st3.trans ?_
    refine XS.ifNo X3.here hx rfl (hb hby d24_14) rfl ((if0 _ _).trans (feq (by decide : ¬ ((1 : Int32) = (0 : Int32)))).1) ?_
    refine XS.iloadN X3.here hx rfl (hb hby d24_17) rfl ?_
    refine st4 _ ?_
    refine XS.ifNo X4.here hx rfl (hb hby d24_21) rfl ((if0 _ _).trans (feq (by decide : ¬ ((1 : Int32) = (0 : Int32)))).1) ?_
    refine XS.aloadN X4.here hx rfl (hb hby d24_24) rfl rfl ?_
    refine st5 _ ?_
    refine XS.aloadN X5.here hx rfl (hb hby d24_28) rfl rfl ?_
    refine XS.dup X5.here hx rfl (hb hby d24_29) rfl rfl ?_
    refine st6 _ ?_
    refine XS.dupX1 X6.here hx rfl (hb hby d24_33) rfl rfl rfl ?_
    refine XS.iconst X6.here hx rfl (hb hby d24_34) ?_
    refine XS.iadd X6.here hx rfl (hb hby d24_35) rfl ?_
    refine st7 _ ?_
    refine XS.iloadN X7.here hx rfl (hb hby d24_39) rfl ?_
    refine XS.i2b X7.here hx rfl (hb hby d24_40) rfl ?_
    refine st10 _ ?_
    refine XS.goto X10.here hx rfl (pc0 := 42) (pc' := 75) rfl (hb hby d24_42) (by decide) (by decide) ?_
    refine XS.aloadN X10.here hx rfl (hb hby d24_75) rfl rfl ?_
    exact kt
  obtain ⟨fs, hr, hrun, hended, hW, hsame⟩ := X10.leave (v := some (.ref a1)) (fun h => by rw [Bd.returns] at h; cases h)
  refine ⟨_, _, pre0 _ (sg12 _ (?_)), hrun, hended, _, _, rfl, ?_, ⟨_, rfl⟩, hW, hsame.mono (by decide) (by decide)⟩
  · show Steps _ _ _ (T10.setTop (mkF m 76 #[Rf a1, It p2] [(.ref a1)])) _
    jvm_step X10.here [X10.here.top, hx, (hb hby d24_76), X10.method', Bd.returns, Value.isRef, FieldType.isReference]
    first | (intro acts; rw [hr _ acts rfl rfl rfl]) | rw [hr _ _ rfl rfl rfl]
    exact Steps.refl _
  · show Q24 Z a1 p2 arr cn nn vs zC ka h0 n0 _ T10.heap _
    rw [e10]
    exact ⟨rfl, N10, K10, O11, ((F_value_a1.other W7 (sn (.array .byte) .int (Or.inl (tw hw 26 rfl)) (Or.inl (tw hw 109 rfl)))).other W10 (Or.inl (Exa.neArv ((E_a1.wr W7).wr W10) V10 (tw hw 10 rfl)))), ((F_coder_a1.other W7 (sn .byte .int (Or.inl (tw hw 28 rfl)) (Or.inl (tw hw 109 rfl)))).other W10 (Or.inl (Exa.neArv ((E_a1.wr W7).wr W10) V10 (tw hw 10 rfl)))), (Fw7.other W10 (Or.inl (Exa.neArv ((E_a1.wr W7).wr W10) V10 (tw hw 10 rfl)))), V10⟩
def Q23 (Z : State) (a1 : Addr) (p2 : Int32) (arr : Addr) (cn : Int32) (nn : Nat) (vs : List Value) (zC : Int32) (ka : ClassId) (h0 : Heap) (n0 : Nat) (v : Option Value) (h : Heap) (L : List Loc) : Prop := v = some (.ref a1) ∧ Fr n0 L ∧ Keep h0 h [a1, arr] ∧ Old Z n0 h ∧ Fld Z h a1 "java/lang/AbstractStringBuilder" "value" "[B" (.ref arr) ∧ Fld Z h a1 "java/lang/AbstractStringBuilder" "coder" "B" (.int (0 : Int32)) ∧ Fld Z h a1 "java/lang/AbstractStringBuilder" "count" "I" (.int (cn + (1 : Int32))) ∧ Arv Z h arr ka .byte (16 : Int32) (vs.set nn (.int (p2.toInt8.toInt32.toInt8.toInt32))) (.int (0 : Int32))
theorem rm23 (l : Launch) (Z : State) (a0 : Array Value) (hw : ∀ d ∈ tables_1, d.before a0 Z = true) (ws : List Jvm.Cond) (a1 : Addr) (p2 : Int32) (arr : Addr) (cn : Int32) (nn : Nat) (vs : List Value) (zC : Int32) (ka : ClassId) (h0 : Heap) (n0 : Nat) (O0 : Old Z n0 h0) (hCS : ¬ zC = 0) (sC : TS_0 Z zC) (E_a1 : Exa Z h0 a1 "java/lang/StringBuilder") (F_value_a1 : Fld Z h0 a1 "java/lang/AbstractStringBuilder" "value" "[B" (.ref arr)) (F_coder_a1 : Fld Z h0 a1 "java/lang/AbstractStringBuilder" "coder" "B" (.int (0 : Int32))) (F_count_a1 : Fld Z h0 a1 "java/lang/AbstractStringBuilder" "count" "I" (.int cn)) (A_arr : Arv Z h0 arr ka .byte (16 : Int32) vs (.int (0 : Int32))) (ge_a1 : n0 ≤ a1) (ge_arr : n0 ≤ arr) (h_n : Sm cn nn) (h_r : nn + 1 ≤ 16) (h_v : vs.length = 16) (h_l : ¬ (255 : Int32) < p2) :
    MetFree l m_21 (head1 (Jvm.Cond.code m_21 jdk_67_method_14_code 2 (some (.object "java/lang/StringBuilder")) :: ws) (rk 2 0 0 27)) (fun a U => a = #[(.ref a1), (.int p2)] ∧ Z.Warmed39 U.vm ∧ U.heap = h0) (fun _ _ _ _ _ => True) (fun _ U o U' => ∃ v L, o = .returned v ∧ Q23 Z a1 p2 arr cn nn vs zC ka h0 n0 v U'.heap L ∧ FrameEnd U o U' L (rk 2 0 0 27).cells (rk 2 0 0 27).slots) := by
  refine MetFree.of_bodySF (plainFor_of_name pn_2) hisR ?_
  intro p e s m args below meth c s₁ Bd hml0 hP hK
  obtain ⟨rfl, hZ, hh⟩ := hP
  have hx := Bd.exec
  have hby := Bd.bytes
  have hml : c.maxLocals = 2 := hml0
  have hown : s.vm.findClass "java/lang/StringBuilder" = some m.cls := findClass_of_methodNamed Bd.named
  have X0 : Stand p l e (rk 2 0 0 27) s m #[(.ref a1), (.int p2)] below meth c s₁ [] 0 0 := Stand.of_body Bd
  have e0 : s₁.heap = h0 := by rw [← hh, Bd.state]; rfl
  have N0 := Fr.nil n0
  have pre0 := own_pre (tb := p.tables) (e := e) (bl := below) (s := s₁) (ef_4 m a1 p2)
  have K0 := Keep.refl h0 [a1, arr]
  obtain ⟨_, _, ⟨T1, L1, k1, n1⟩, -, X1, ⟨Lc1, hQ1, l1, y1, z1⟩, st1⟩ := superBack X0 hx hZ (y := m_20) hown (tw hw 140 rfl) (own_same (y := m_20) (y2 := m_8) (tw hw 113 rfl) rfl (tw hw 141 rfl) (by decide)) (tw hw 141 rfl) (tw hw 95 rfl) (by decide) (backOf (W := 0) (rm24 l Z a0 hw [] a1 p2 arr cn nn vs zC ka h0 n0 O0 hCS sC E_a1 F_value_a1 F_coder_a1 F_count_a1 A_arr ge_a1 ge_arr h_n h_r h_v h_l) hZ (tw hw 143 rfl) (tw hw 19 rfl) (by decide) (by decide)) e0 (Ins.self E_a1) (g := (mkF m 2 #[Rf a1, It p2] [(.int p2), (.ref a1)])) rfl (by rw [hml]; rfl) (tw hw 143 rfl) (argsL := [(.int p2)]) (rest := []) (lenOf pd_10 rfl) rfl (w0 rfl) (hb hby d23_2) (fun _ _ => ⟨rfl, e0, (by decide : 0 + 0 ≤ _), (by decide : 0 + 0 ≤ _)⟩)
  dsimp only [Pt.U, Pt.locs, Pt.cells, Pt.slots] at X1 l1 y1 z1 st1 hQ1
  subst l1 y1 z1
  obtain ⟨rfl, N1q, K1q, O1, f1_0, f1_1, f1_2, f1_3⟩ := hQ1
  have N1 := Fr.app N0 N1q
  have K1 := K0.trans K1q (allS (Or.inl (List.mem_of_getElem? (i := 0) rfl)) (allS (Or.inl (List.mem_of_getElem? (i := 1) rfl)) all0))
  have sg2 : SG p.tables e below (T1.setTop (mkF m 7 #[Rf a1, It p2] [(.ref a1)])) (s₁.setTop (mkF m 0 #[Rf a1, It p2] [])) := by
    intro target kt
    show Steps _ _ _ (s₁.setTop (mkF m 0 #[Rf a1, It p2] [])) _
    refine XS.aloadN X0.here hx rfl (hb hby d23_0) rfl rfl ?_
    refine XS.iloadN X0.here hx rfl (hb hby d23_1) rfl ?_
    refine st1.trans ?_
    refine XS.pop X1.here hx rfl (hb hby d23_5) rfl rfl ?_
    refine XS.aloadN X1.here hx rfl (hb hby d23_6) rfl rfl ?_
    exact kt
  obtain ⟨fs, hr, hrun, hended, hW, hsame⟩ := X1.leave (v := some (.ref a1)) (fun h => by rw [Bd.returns] at h; cases h)
  refine ⟨_, _, pre0 _ (sg2 _ (?_)), hrun, hended, _, _, rfl, ?_, ⟨_, rfl⟩, hW, hsame.mono (by decide) (by decide)⟩
  · show Steps _ _ _ (T1.setTop (mkF m 7 #[Rf a1, It p2] [(.ref a1)])) _
    jvm_step X1.here [X1.here.top, hx, (hb hby d23_7), X1.method', Bd.returns, Value.isRef, FieldType.isReference]
    first | (intro acts; rw [hr _ acts rfl rfl rfl]) | rw [hr _ _ rfl rfl rfl]
    exact Steps.refl _
  · show Q23 Z a1 p2 arr cn nn vs zC ka h0 n0 _ T1.heap _
    exact ⟨rfl, N1, K1, O1, f1_0, f1_1, f1_2, f1_3⟩
def Q37 (Z : State) (p1 : Int32) (p2 : Int32) (h0 : Heap) (n0 : Nat) (v : Option Value) (h : Heap) (L : List Loc) : Prop := v = some (.int (if p2 < p1 then p2 else p1)) ∧ Fr n0 L ∧ h = h0
theorem ef_37 (m : MethodId) (x0 : Int32) (x1 : Int32) : entryFrame m #[(.int x0), (.int x1)] 2 = mkF m 0 #[.val (.int x0), .val (.int x1)] [] := by first | (simp [entryFrame, mkF, argsToLocals, Value.category]; done) | rfl
theorem rm37 (l : Launch) (Z : State) (a0 : Array Value) (hw : ∀ d ∈ tables_1, d.before a0 Z = true) (ws : List Jvm.Cond) (p1 : Int32) (p2 : Int32) (h0 : Heap) (n0 : Nat) (O0 : Old Z n0 h0) :
    MetFree l m_22 (head1 (Jvm.Cond.code m_22 jdk_29_method_69_code 2 (some .int) :: ws) (rk 0 0 0 0)) (fun a U => a = #[(.int p1), (.int p2)] ∧ Z.Warmed39 U.vm ∧ U.heap = h0) (fun _ _ _ _ _ => True) (fun _ U o U' => ∃ v L, o = .returned v ∧ Q37 Z p1 p2 h0 n0 v U'.heap L ∧ FrameEnd U o U' L (rk 0 0 0 0).cells (rk 0 0 0 0).slots) := by
  refine MetFree.of_bodySF (Jvm.Free.JP.mathPlain rfl (by decide +kernel)) hisR ?_
  intro p e s m args below meth c s₁ Bd hml0 hP hK
  obtain ⟨rfl, hZ, hh⟩ := hP
  have hx := Bd.exec
  have hby := Bd.bytes
  have hml : c.maxLocals = 2 := hml0
  have hown : s.vm.findClass "java/lang/Math" = some m.cls := findClass_of_methodNamed Bd.named
  have X0 : Stand p l e (rk 0 0 0 0) s m #[(.int p1), (.int p2)] below meth c s₁ [] 0 0 := Stand.of_body Bd
  have e0 : s₁.heap = h0 := by rw [← hh, Bd.state]; rfl
  have N0 := Fr.nil n0
  have pre0 := own_pre (tb := p.tables) (e := e) (bl := below) (s := s₁) (ef_37 m p1 p2)
  have sg1 : SG p.tables e below (s₁.setTop (mkF m 2 #[It p1, It p2] [(.int p2), (.int p1)])) (s₁.setTop (mkF m 0 #[It p1, It p2] [])) := by
    intro target kt
    show Steps _ _ _ (s₁.setTop (mkF m 0 #[It p1, It p2] [])) _
    refine XS.iloadN X0.here hx rfl (hb hby d37_0) rfl ?_
    refine XS.iloadN X0.here hx rfl (hb hby d37_1) rfl ?_
    exact kt
  by_cases hc2 : p2 < p1
  · have sg3 : SG p.tables e below (s₁.setTop (mkF m 10 #[It p1, It p2] [(.int p2)])) (s₁.setTop (mkF m 2 #[It p1, It p2] [(.int p2), (.int p1)])) := by
      intro target kt
      show Steps _ _ _ (s₁.setTop (mkF m 2 #[It p1, It p2] [(.int p2), (.int p1)])) _
      refine XS.icmpYes X0.here hx rfl (pc0 := 2) (pc' := 9) rfl (hb hby d37_2) rfl (tlt hc2).2.2.1 (by decide) (by decide) ?_
      refine XS.iloadN X0.here hx rfl (hb hby d37_9) rfl ?_
      exact kt
    obtain ⟨fs, hr, hrun, hended, hW, hsame⟩ := X0.leave (v := some (.int p2)) (fun h => by rw [Bd.returns] at h; cases h)
    refine ⟨_, _, pre0 _ (sg1 _ (sg3 _ (?_))), hrun, hended, _, _, rfl, ?_, ⟨_, rfl⟩, hW, hsame.mono (by decide) (by decide)⟩
    · show Steps _ _ _ (s₁.setTop (mkF m 10 #[It p1, It p2] [(.int p2)])) _
      exact retI X0 hx Bd.returns (hb hby d37_10) hr
    · show Q37 Z p1 p2 h0 n0 _ s₁.heap _
      rw [e0]
      exact ⟨(by rw [if_pos hc2]), N0, rfl⟩
  · have sg4 : SG p.tables e below (s₁.setTop (mkF m 10 #[It p1, It p2] [(.int p1)])) (s₁.setTop (mkF m 2 #[It p1, It p2] [(.int p2), (.int p1)])) := by
      intro target kt
      show Steps _ _ _ (s₁.setTop (mkF m 2 #[It p1, It p2] [(.int p2), (.int p1)])) _
      refine XS.icmpNo X0.here hx rfl (hb hby d37_2) rfl (flt hc2).2.2.1 ?_
      refine XS.iloadN X0.here hx rfl (hb hby d37_5) rfl ?_
      refine XS.goto X0.here hx rfl (pc0 := 6) (pc' := 10) rfl (hb hby d37_6) (by decide) (by decide) ?_
      exact kt
    obtain ⟨fs, hr, hrun, hended, hW, hsame⟩ := X0.leave (v := some (.int p1)) (fun h => by rw [Bd.returns] at h; cases h)
    refine ⟨_, _, pre0 _ (sg1 _ (sg4 _ (?_))), hrun, hended, _, _, rfl, ?_, ⟨_, rfl⟩, hW, hsame.mono (by decide) (by decide)⟩
    · show Steps _ _ _ (s₁.setTop (mkF m 10 #[It p1, It p2] [(.int p1)])) _
      exact retI X0 hx Bd.returns (hb hby d37_10) hr
    · show Q37 Z p1 p2 h0 n0 _ s₁.heap _
      rw [e0]
      exact ⟨(by rw [if_neg hc2]), N0, rfl⟩
def Q36 (Z : State) (p2 : Int32) (h0 : Heap) (n0 : Nat) (v : Option Value) (h : Heap) (L : List Loc) : Prop := v = none ∧ Fr n0 L ∧ h = h0
theorem rm36 (l : Launch) (Z : State) (a0 : Array Value) (hw : ∀ d ∈ tables_1, d.before a0 Z = true) (ws : List Jvm.Cond) (p2 : Int32) (h0 : Heap) (n0 : Nat) (O0 : Old Z n0 h0) (h_nn : ¬ p2 < (0 : Int32)) :
    MetFree l m_23 (head1 (Jvm.Cond.code m_23 jdk_65_method_131_code 2 none :: ws) (rk 0 0 0 0)) (fun a U => a = #[(.int (0 : Int32)), (.int p2)] ∧ Z.Warmed39 U.vm ∧ U.heap = h0) (fun _ _ _ _ _ => True) (fun _ U o U' => ∃ v L, o = .returned v ∧ Q36 Z p2 h0 n0 v U'.heap L ∧ FrameEnd U o U' L (rk 0 0 0 0).cells (rk 0 0 0 0).slots) := by
  refine MetFree.of_bodySF (plainFor_of_name pn_5) hisR ?_
  intro p e s m args below meth c s₁ Bd hml0 hP hK
  obtain ⟨rfl, hZ, hh⟩ := hP
  have hx := Bd.exec
  have hby := Bd.bytes
  have hml : c.maxLocals = 2 := hml0
  have hown : s.vm.findClass "java/util/Arrays" = some m.cls := findClass_of_methodNamed Bd.named
  have X0 : Stand p l e (rk 0 0 0 0) s m #[(.int (0 : Int32)), (.int p2)] below meth c s₁ [] 0 0 := Stand.of_body Bd
  have e0 : s₁.heap = h0 := by rw [← hh, Bd.state]; rfl
  have N0 := Fr.nil n0
  have pre0 := own_pre (tb := p.tables) (e := e) (bl := below) (s := s₁) (ef_37 m (0 : Int32) p2)
  have sg1 : SG p.tables e below (s₁.setTop (mkF m 37 #[It (0 : Int32), It p2] [])) (s₁.setTop (mkF m 0 #[It (0 : Int32), It p2] [])) := by
    intro target kt
    show Steps _ _ _ (s₁.setTop (mkF m 0 #[It (0 : Int32), It p2] [])) _
    refine XS.iloadN X0.here hx rfl (hb hby d36_0) rfl ?_
    refine XS.iloadN X0.here hx rfl (hb hby d36_1) rfl ?_
    refine XS.icmpYes X0.here hx rfl (pc0 := 2) (pc' := 37) rfl (hb hby d36_2) rfl (flt h_nn).2.1 (by decide) (by decide) ?_
    exact kt
  obtain ⟨fs, hr, hrun, hended, hW, hsame⟩ := X0.leave (v := none) (fun _ => rfl)
  refine ⟨_, _, pre0 _ (sg1 _ (?_)), hrun, hended, _, _, rfl, ?_, ⟨_, rfl⟩, hW, hsame.mono (by decide) (by decide)⟩
  · show Steps _ _ _ (s₁.setTop (mkF m 37 #[It (0 : Int32), It p2] [])) _
    exact X0.returnOut hx Bd.returns (hb hby d36_37) hr
  · show Q36 Z p2 h0 n0 _ s₁.heap _
    rw [e0]
    exact ⟨rfl, N0, rfl⟩
def Q35 (Z : State) (arr : Addr) (cn : Int32) (nn : Nat) (vs : List Value) (ka : ClassId) (h0 : Heap) (n0 : Nat) (v : Option Value) (h : Heap) (L : List Loc) : Prop := ∃ ro : Addr, ∃ ko : ClassId, v = some (.ref ro) ∧ Fr n0 L ∧ Keep h0 h [] ∧ Old Z n0 h ∧ Arv Z h ro ko .byte cn (cpy z16 0 vs 0 nn) (.int (0 : Int32)) ∧ n0 ≤ ro ∧ h0.size ≤ ro
theorem ef_35 (m : MethodId) (x0 : Addr) (x1 : Int32) (x2 : Int32) : entryFrame m #[(.ref x0), (.int x1), (.int x2)] 5 = mkF m 0 #[.val (.ref x0), .val (.int x1), .val (.int x2), .unset, .unset] [] := by first | (simp [entryFrame, mkF, argsToLocals, Value.category]; done) | rfl
theorem rm35 (l : Launch) (Z : State) (a0 : Array Value) (hw : ∀ d ∈ tables_1, d.before a0 Z = true) (ws : List Jvm.Cond) (arr : Addr) (cn : Int32) (nn : Nat) (vs : List Value) (ka : ClassId) (h0 : Heap) (n0 : Nat) (O0 : Old Z n0 h0) (A_arr : Arv Z h0 arr ka .byte (16 : Int32) vs (.int (0 : Int32))) (h_n : Sm cn nn) (h_r : nn < 16) :
    MetFree l m_24 (head1 (Jvm.Cond.code m_24 jdk_65_method_133_code 5 (some (.array .byte)) :: ws) (rk 1 1 16 40)) (fun a U => a = #[(.ref arr), (.int (0 : Int32)), (.int cn)] ∧ Z.Warmed39 U.vm ∧ U.heap = h0) (fun _ _ _ _ _ => True) (fun _ U o U' => ∃ v L, o = .returned v ∧ Q35 Z arr cn nn vs ka h0 n0 v U'.heap L ∧ FrameEnd U o U' L (rk 1 1 16 40).cells (rk 1 1 16 40).slots) := by
  refine MetFree.of_bodySF (plainFor_of_name pn_5) hisR ?_
  intro p e s m args below meth c s₁ Bd hml0 hP hK
  obtain ⟨rfl, hZ, hh⟩ := hP
  have hx := Bd.exec
  have hby := Bd.bytes
  have hml : c.maxLocals = 5 := hml0
  have hown : s.vm.findClass "java/util/Arrays" = some m.cls := findClass_of_methodNamed Bd.named
  have X0 : Stand p l e (rk 1 1 16 40) s m #[(.ref arr), (.int (0 : Int32)), (.int cn)] below meth c s₁ [] 0 0 := Stand.of_body Bd
  have e0 : s₁.heap = h0 := by rw [← hh, Bd.state]; rfl
  have N0 := Fr.nil n0
  have pre0 := own_pre (tb := p.tables) (e := e) (bl := below) (s := s₁) (ef_35 m arr (0 : Int32) cn)
  have K0 := Keep.refl h0 []
  obtain ⟨_, _, ⟨T1, L1, k1, n1⟩, -, X1, ⟨Lc1, hQ1, l1, y1, z1⟩, st1⟩ := Jvm.LawKit.callS X0 hx (y := m_23) hown (mvT hZ (tw hw 191 rfl)) (mvT hZ (tw hw 192 rfl)) (mvT hZ (tw hw 186 rfl)) (mvT hZ (tw hw 193 rfl)) (by decide) (backOf (W := 0) (rm36 l Z a0 hw [] cn h0 n0 O0 h_n.nn) hZ (tw hw 193 rfl) (tw hw 186 rfl) (by decide) (by decide)) (g := (mkF m 2 #[Rf arr, It (0 : Int32), It cn, .unset, .unset] [(.int cn), (.int (0 : Int32))])) rfl (by rw [hml]; rfl) (argsL := [(.int (0 : Int32)), (.int cn)]) (rest := []) (lenOf pd_11 rfl) rfl (w0 rfl) (hb hby d35_2) (fun _ _ => ⟨rfl, e0, (by decide : 0 + 0 ≤ _), (by decide : 0 + 0 ≤ _)⟩)
  dsimp only [Pt.U, Pt.locs, Pt.cells, Pt.slots] at X1 l1 y1 z1 st1 hQ1
  subst l1 y1 z1
  obtain ⟨rfl, N1q, e1⟩ := hQ1
  have N1 := Fr.app N0 N1q
  obtain ⟨u2, hu2⟩ : ∃ z, z = (cn - (0 : Int32)) := ⟨_, rfl⟩
  have sg3 : SG p.tables e below (T1.setTop (mkF m 8 #[Rf arr, It (0 : Int32), It cn, .unset, .unset] [(.int u2)])) (s₁.setTop (mkF m 0 #[Rf arr, It (0 : Int32), It cn, .unset, .unset] [])) := by
    intro target kt
    subst hu2
    show Steps _ _ _ (s₁.setTop (mkF m 0 #[Rf arr, It (0 : Int32), It cn, .unset, .unset] [])) _
    refine XS.iloadN X0.here hx rfl (hb hby d35_0) rfl ?_
    refine XS.iloadN X0.here hx rfl (hb hby d35_1) rfl ?_
    refine st1 _ ?_
    refine XS.iloadN X1.here hx rfl (hb hby d35_5) rfl ?_
    refine XS.iloadN X1.here hx rfl (hb hby d35_6) rfl ?_
    refine XS.isub X1.here hx rfl (hb hby d35_7) rfl ?_
    exact kt
  have hl3 : u2 = cn := hu2.trans (own_sub0 cn)
  have h_l3 : Sm u2 nn := by rw [hl3]; exact h_n
  obtain ⟨T4, h4, k4, X4, e4, E4, A4, st4⟩ := newP X1 hx hZ (tw hw 24 rfl) e1 (g := (mkF m 10 #[Rf arr, It (0 : Int32), It cn, It u2, .unset] [(.int u2)])) rfl (hb hby d35_10) rfl h_l3.nn (cap := 16) (own_capn h_l3 (Nat.le_of_lt h_r)) (by decide) (by decide) (by decide)
  obtain ⟨b4, g4⟩ : ∃ z, z = h0.size := ⟨_, rfl⟩
  rw [← g4] at A4 st4
  have ge_b4 : n0 ≤ b4 := Nat.le_trans (own_osz O0) (Nat.le_of_eq g4.symm)
  have sz_b4 : h0.size ≤ b4 := Nat.le_trans K0.1 (Nat.le_of_eq g4.symm)
  have O5 := O0.ext E4
  have K4 := K0.ext E4
  have V_b4 : Arv Z h4 b4 k4 .byte u2 z16 (.int (0 : Int32)) := (Arv.new A4 h_l3.nn).pad (pad_rep [] (.int (0 : Int32)) 16)
  obtain ⟨cl6, Ar6, -, Sz6, Nn6, -, -⟩ := id (A_arr.ext E4)
  obtain ⟨_, _, ⟨T7, L7, k7, n7⟩, -, X7, ⟨Lc7, hQ7, l7, y7, z7⟩, st7⟩ := Jvm.LawKit.callS X4 hx (y := m_22) hown (mvT hZ (tw hw 194 rfl)) (mvT hZ (tw hw 195 rfl)) (mvT hZ (tw hw 196 rfl)) (mvT hZ (tw hw 197 rfl)) (by decide) (backOf (W := 4) (rm37 l Z a0 hw [] ((16 : Int32) - (0 : Int32)) u2 h4 n0 O5 ) hZ (tw hw 197 rfl) (tw hw 196 rfl) (by decide) (by decide)) (g := (mkF m 24 #[Rf arr, It (0 : Int32), It cn, It u2, Rf b4] [(.int u2), (.int ((16 : Int32) - (0 : Int32))), (.int (0 : Int32)), (.ref b4), (.int (0 : Int32)), (.ref arr)])) rfl (by rw [hml]; rfl) (argsL := [(.int ((16 : Int32) - (0 : Int32))), (.int u2)]) (rest := [(.int (0 : Int32)), (.ref b4), (.int (0 : Int32)), (.ref arr)]) (lenOf pd_12 rfl) rfl (w0 rfl) (hb hby d35_24) (fun _ _ => ⟨rfl, e4, (by decide : 1 + 0 ≤ _), (by decide : 16 + 0 ≤ _)⟩)
  dsimp only [Pt.U, Pt.locs, Pt.cells, Pt.slots] at X7 l7 y7 z7 st7 hQ7
  subst l7 y7 z7
  obtain ⟨rfl, N7q, e7⟩ := hQ7
  have N7 := Fr.app N1 N7q
  obtain ⟨r7, hr7⟩ : ∃ z, z = (if u2 < ((16 : Int32) - (0 : Int32)) then u2 else ((16 : Int32) - (0 : Int32))) := ⟨_, rfl⟩
  rw [← hr7] at st7
  have hmn : Sm r7 nn := own_min16 hr7 h_l3 h_r
  obtain ⟨T8, h8, L8, X8, e8, N8, K8q, V8, st8⟩ := cpA X7 hx hZ hown (tw hw 198 rfl) (tw hw 134 rfl) (tw hw 132 rfl) (tw hw 133 rfl) e7 (A_arr.ext E4) V_b4 (Or.inl ⟨rfl, rfl⟩) (Sm.lit (x := (0 : Int32)) (n := 0) (by decide)).nn (Sm.lit (x := (0 : Int32)) (n := 0) (by decide)).nn hmn.nn (own_le3 (Sm.lit (x := (0 : Int32)) (n := 0) (by decide)) hmn (Sm.lit (x := (16 : Int32)) (n := 16) (by decide)) (Nat.le_of_lt (by rw [Nat.zero_add]; exact h_r))) (own_le3 (Sm.lit (x := (0 : Int32)) (n := 0) (by decide)) hmn h_l3 (own_z0 nn)) rfl (own_le2 (Sm.lit (x := (0 : Int32)) (n := 0) (by decide)) hmn (by rw [Nat.zero_add]; exact Nat.le_of_lt h_r)) N7 ge_b4 (g := (mkF m 27 #[Rf arr, It (0 : Int32), It cn, It u2, Rf b4] [(.int r7), (.int (0 : Int32)), (.ref b4), (.int (0 : Int32)), (.ref arr)])) rfl (by rw [hml]; rfl) rfl (hb hby d35_27) (by decide) (W := 0) (w0 rfl) (by decide)
  have VV8 : Arv Z h8 b4 k4 .byte u2 (cpy z16 0 vs 0 nn) (.int (0 : Int32)) := own_cpy (Sm.lit (x := (0 : Int32)) (n := 0) (by decide)) (Sm.lit (x := (0 : Int32)) (n := 0) (by decide)) hmn V8
  have K8 := K4.trans K8q (allS (Or.inr sz_b4) all0)
  have O8 := O5.keep K8q (allS ge_b4 all0)
  have sg9 : SG p.tables e below (T8.setTop (mkF m 32 #[Rf arr, It (0 : Int32), It cn, It u2, Rf b4] [(.ref b4)])) (T1.setTop (mkF m 8 #[Rf arr, It (0 : Int32), It cn, .unset, .unset] [(.int u2)])) := by
    intro target kt
    show Steps _ _ _ (T1.setTop (mkF m 8 #[Rf arr, It (0 : Int32), It cn, .unset, .unset] [(.int u2)])) _
    refine XS.istoreN X1.here hx rfl (hb hby d35_8) rfl (l' := #[Rf arr, It (0 : Int32), It cn, It u2, .unset]) rfl ?_
    refine XS.iloadN X1.here hx rfl (hb hby d35_9) rfl ?_
    refine st4 _ ?_
    refine XS.astore X4.here hx rfl (hb hby d35_12) rfl rfl (l' := #[Rf arr, It (0 : Int32), It cn, It u2, Rf b4]) rfl ?_
    refine XS.aloadN X4.here hx rfl (hb hby d35_14) rfl rfl ?_
    refine XS.iloadN X4.here hx rfl (hb hby d35_15) rfl ?_
    refine XS.aload X4.here hx rfl (hb hby d35_16) rfl rfl ?_
    refine XS.iconst X4.here hx rfl (hb hby d35_18) ?_
    refine XS.aloadN X4.here hx rfl (hb hby d35_19) rfl rfl ?_
    refine X4.arraylength hx (own_rwh e4 Ar6.1) (State.isArrayOf_alike hZ.alike Ar6.2.1) (g := (mkF m 20 #[Rf arr, It (0 : Int32), It cn, It u2, Rf b4] [(.ref arr), (.int (0 : Int32)), (.ref b4), (.int (0 : Int32)), (.ref arr)])) rfl rfl (hb hby d35_20) _ ?_
    rw [len_of Sz6 Nn6]
    show Steps _ _ _ (T4.setTop (mkF m 21 #[Rf arr, It (0 : Int32), It cn, It u2, Rf b4] [(.int (16 : Int32)), (.int (0 : Int32)), (.ref b4), (.int (0 : Int32)), (.ref arr)])) _
    refine XS.iloadN X4.here hx rfl (hb hby d35_21) rfl ?_
    refine XS.isub X4.here hx rfl (hb hby d35_22) rfl ?_
    refine XS.iloadN X4.here hx rfl (hb hby d35_23) rfl ?_
    refine st7 _ ?_
    refine st8 _ ?_
    refine XS.aload X8.here hx rfl (hb hby d35_30) rfl rfl ?_
    exact kt
  obtain ⟨fs, hr, hrun, hended, hW, hsame⟩ := X8.leave (v := some (.ref b4)) (fun h => by rw [Bd.returns] at h; cases h)
  refine ⟨_, _, pre0 _ (sg3 _ (sg9 _ (?_))), hrun, hended, _, _, rfl, ?_, ⟨_, rfl⟩, hW, hsame.mono (by decide) (by decide)⟩
  · show Steps _ _ _ (T8.setTop (mkF m 32 #[Rf arr, It (0 : Int32), It cn, It u2, Rf b4] [(.ref b4)])) _
    jvm_step X8.here [X8.here.top, hx, (hb hby d35_32), X8.method', Bd.returns, Value.isRef, FieldType.isReference]
    first | (intro acts; rw [hr _ acts rfl rfl rfl]) | rw [hr _ _ rfl rfl rfl]
    exact Steps.refl _
  · show Q35 Z arr cn nn vs ka h0 n0 _ T8.heap _
    rw [e8]
    exact ⟨b4, k4, rfl, N8, K8, O8, (hl3 ▸ VV8), ge_b4, sz_b4⟩
def Q34 (Z : State) (arr : Addr) (cn : Int32) (nn : Nat) (vs : List Value) (ka : ClassId) (h0 : Heap) (n0 : Nat) (v : Option Value) (h : Heap) (L : List Loc) : Prop := ∃ ro : Addr, ∃ ko : ClassId, v = some (.ref ro) ∧ Fr n0 L ∧ Keep h0 h [] ∧ Old Z n0 h ∧ Arv Z h ro ko .byte cn (cpy z16 0 vs 0 nn) (.int (0 : Int32)) ∧ n0 ≤ ro ∧ h0.size ≤ ro
theorem ef_34 (m : MethodId) (x0 : Addr) (x1 : Int32) (x2 : Int32) : entryFrame m #[(.ref x0), (.int x1), (.int x2)] 3 = mkF m 0 #[.val (.ref x0), .val (.int x1), .val (.int x2)] [] := by first | (simp [entryFrame, mkF, argsToLocals, Value.category]; done) | rfl
theorem rm34 (l : Launch) (Z : State) (a0 : Array Value) (hw : ∀ d ∈ tables_1, d.before a0 Z = true) (ws : List Jvm.Cond) (arr : Addr) (cn : Int32) (nn : Nat) (vs : List Value) (ka : ClassId) (h0 : Heap) (n0 : Nat) (O0 : Old Z n0 h0) (A_arr : Arv Z h0 arr ka .byte (16 : Int32) vs (.int (0 : Int32))) (h_n : Sm cn nn) (h_r : nn < 16) :
    MetFree l m_25 (head1 (Jvm.Cond.code m_25 jdk_65_method_132_code 3 (some (.array .byte)) :: ws) (rk 2 1 16 56)) (fun a U => a = #[(.ref arr), (.int (0 : Int32)), (.int cn)] ∧ Z.Warmed39 U.vm ∧ U.heap = h0) (fun _ _ _ _ _ => True) (fun _ U o U' => ∃ v L, o = .returned v ∧ Q34 Z arr cn nn vs ka h0 n0 v U'.heap L ∧ FrameEnd U o U' L (rk 2 1 16 56).cells (rk 2 1 16 56).slots) := by
  refine MetFree.of_bodySF (plainFor_of_name pn_5) hisR ?_
  intro p e s m args below meth c s₁ Bd hml0 hP hK
  obtain ⟨rfl, hZ, hh⟩ := hP
  have hx := Bd.exec
  have hby := Bd.bytes
  have hml : c.maxLocals = 3 := hml0
  have hown : s.vm.findClass "java/util/Arrays" = some m.cls := findClass_of_methodNamed Bd.named
  have X0 : Stand p l e (rk 2 1 16 56) s m #[(.ref arr), (.int (0 : Int32)), (.int cn)] below meth c s₁ [] 0 0 := Stand.of_body Bd
  have e0 : s₁.heap = h0 := by rw [← hh, Bd.state]; rfl
  have N0 := Fr.nil n0
  have pre0 := own_pre (tb := p.tables) (e := e) (bl := below) (s := s₁) (ef_34 m arr (0 : Int32) cn)
  have K0 := Keep.refl h0 []
  obtain ⟨cl1, Ar1, -, Sz1, Nn1, -, -⟩ := id A_arr
  obtain ⟨_, _, ⟨T2, L2, k2, n2⟩, -, X2, ⟨Lc2, hQ2, l2, y2, z2⟩, st2⟩ := Jvm.LawKit.callS X0 hx (y := m_24) hown (mvT hZ (tw hw 188 rfl)) (mvT hZ (tw hw 189 rfl)) (mvT hZ (tw hw 186 rfl)) (mvT hZ (tw hw 190 rfl)) (by decide) (backOf (W := 0) (rm35 l Z a0 hw [] arr cn nn vs ka h0 n0 O0 A_arr h_n h_r) hZ (tw hw 190 rfl) (tw hw 186 rfl) (by decide) (by decide)) (g := (mkF m 13 #[Rf arr, It (0 : Int32), It cn] [(.int cn), (.int (0 : Int32)), (.ref arr)])) rfl (by rw [hml]; rfl) (argsL := [(.ref arr), (.int (0 : Int32)), (.int cn)]) (rest := []) (lenOf pd_13 rfl) rfl (w0 rfl) (hb hby d34_13) (fun _ _ => ⟨rfl, e0, (by decide : 0 + 1 ≤ _), (by decide : 0 + 16 ≤ _)⟩)
  dsimp only [Pt.U, Pt.locs, Pt.cells, Pt.slots] at X2 l2 y2 z2 st2 hQ2
  subst l2 y2 z2
  obtain ⟨ro_2, ko_2, rfl, N2q, K2q, O2, f2_0, f2_1, f2_2⟩ := hQ2
  have N2 := Fr.app N0 N2q
  have K2 := K0.trans K2q all0
  have sg3 : SG p.tables e below (T2.setTop (mkF m 16 #[Rf arr, It (0 : Int32), It cn] [(.ref ro_2)])) (s₁.setTop (mkF m 0 #[Rf arr, It (0 : Int32), It cn] [])) := by
    intro target kt
    show Steps _ _ _ (s₁.setTop (mkF m 0 #[Rf arr, It (0 : Int32), It cn] [])) _
    refine XS.iloadN X0.here hx rfl (hb hby d34_0) rfl ?_
    refine XS.ifNo X0.here hx rfl (hb hby d34_1) rfl ((if0 _ _).trans (teq (by decide : (0 : Int32) = (0 : Int32))).2) ?_
    refine XS.iloadN X0.here hx rfl (hb hby d34_4) rfl ?_
    refine XS.aloadN X0.here hx rfl (hb hby d34_5) rfl rfl ?_
    refine X0.arraylength hx (own_rwh e0 Ar1.1) (State.isArrayOf_alike hZ.alike Ar1.2.1) (g := (mkF m 6 #[Rf arr, It (0 : Int32), It cn] [(.ref arr), (.int cn)])) rfl rfl (hb hby d34_6) _ ?_
    rw [len_of Sz1 Nn1]
    show Steps _ _ _ (s₁.setTop (mkF m 7 #[Rf arr, It (0 : Int32), It cn] [(.int (16 : Int32)), (.int cn)])) _
    refine XS.icmpNo X0.here hx rfl (hb hby d34_7) rfl (feq (own_n16 h_n h_r)).1 ?_
    refine XS.aloadN X0.here hx rfl (hb hby d34_10) rfl rfl ?_
    refine XS.iloadN X0.here hx rfl (hb hby d34_11) rfl ?_
    refine XS.iloadN X0.here hx rfl (hb hby d34_12) rfl ?_
    refine st2 _ ?_
    exact kt
  obtain ⟨fs, hr, hrun, hended, hW, hsame⟩ := X2.leave (v := some (.ref ro_2)) (fun h => by rw [Bd.returns] at h; cases h)
  refine ⟨_, _, pre0 _ (sg3 _ (?_)), hrun, hended, _, _, rfl, ?_, ⟨_, rfl⟩, hW, hsame.mono (by decide) (by decide)⟩
  · show Steps _ _ _ (T2.setTop (mkF m 16 #[Rf arr, It (0 : Int32), It cn] [(.ref ro_2)])) _
    jvm_step X2.here [X2.here.top, hx, (hb hby d34_16), X2.method', Bd.returns, Value.isRef, FieldType.isReference]
    first | (intro acts; rw [hr _ acts rfl rfl rfl]) | rw [hr _ _ rfl rfl rfl]
    exact Steps.refl _
  · show Q34 Z arr cn nn vs ka h0 n0 _ T2.heap _
    exact ⟨ro_2, ko_2, rfl, N2, K2, O2, f2_0, f2_1, (Nat.le_trans K0.1 f2_2)⟩
def Q30 (Z : State) (a1 : Addr) (a2 : Addr) (arr : Addr) (cn : Int32) (nn : Nat) (vs : List Value) (zC : Int32) (ka : ClassId) (h0 : Heap) (n0 : Nat) (v : Option Value) (h : Heap) (L : List Loc) : Prop := ∃ ro : Addr, ∃ ko : ClassId, v = none ∧ Fr n0 L ∧ Keep h0 h [a1] ∧ Old Z n0 h ∧ Fld Z h a1 "java/lang/String" "coder" "B" (.int (0 : Int32)) ∧ Fld Z h a1 "java/lang/String" "value" "[B" (.ref ro) ∧ Arv Z h ro ko .byte cn (cpy z16 0 vs 0 nn) (.int (0 : Int32)) ∧ n0 ≤ ro ∧ h0.size ≤ ro
theorem ef_30 (m : MethodId) (x0 : Addr) (x1 : Addr) : entryFrame m #[(.ref x0), (.ref x1), .null] 5 = mkF m 0 #[.val (.ref x0), .val (.ref x1), .val .null, .unset, .unset] [] := by first | (simp [entryFrame, mkF, argsToLocals, Value.category]; done) | rfl
theorem rm30 (l : Launch) (Z : State) (a0 : Array Value) (hw : ∀ d ∈ tables_1, d.before a0 Z = true) (ws : List Jvm.Cond) (a1 : Addr) (a2 : Addr) (arr : Addr) (cn : Int32) (nn : Nat) (vs : List Value) (zC : Int32) (ka : ClassId) (h0 : Heap) (n0 : Nat) (O0 : Old Z n0 h0) (hCS : ¬ zC = 0) (sC : TS_0 Z zC) (E_a1 : Exa Z h0 a1 "java/lang/String") (F_value_a1 : Fld Z h0 a1 "java/lang/String" "value" "[B" .null) (F_coder_a1 : Fld Z h0 a1 "java/lang/String" "coder" "B" (.int (0 : Int32))) (ge_a1 : n0 ≤ a1) (E_a2 : Exa Z h0 a2 "java/lang/StringBuilder") (F_value_a2 : Fld Z h0 a2 "java/lang/AbstractStringBuilder" "value" "[B" (.ref arr)) (F_coder_a2 : Fld Z h0 a2 "java/lang/AbstractStringBuilder" "coder" "B" (.int (0 : Int32))) (F_count_a2 : Fld Z h0 a2 "java/lang/AbstractStringBuilder" "count" "I" (.int cn)) (A_arr : Arv Z h0 arr ka .byte (16 : Int32) vs (.int (0 : Int32))) (h_n : Sm cn nn) (h_r : nn < 16) :
    MetFree l m_26 (head1 (Jvm.Cond.code m_26 jdk_42_method_150_code 5 none :: ws) (rk 3 1 16 71)) (fun a U => a = #[(.ref a1), (.ref a2), .null] ∧ Z.Warmed39 U.vm ∧ U.heap = h0) (fun _ _ _ _ _ => True) (fun _ U o U' => ∃ v L, o = .returned v ∧ Q30 Z a1 a2 arr cn nn vs zC ka h0 n0 v U'.heap L ∧ FrameEnd U o U' L (rk 3 1 16 71).cells (rk 3 1 16 71).slots) := by
  refine MetFree.of_bodySF (plainFor_of_name pn_0) hisR ?_
  intro p e s m args below meth c s₁ Bd hml0 hP hK
  obtain ⟨rfl, hZ, hh⟩ := hP
  have hx := Bd.exec
  have hby := Bd.bytes
  have hml : c.maxLocals = 5 := hml0
  have hown : s.vm.findClass "java/lang/String" = some m.cls := findClass_of_methodNamed Bd.named
  have hnm := (name_of_methodNamed Bd.named Bd.method).1
  have X0 : Stand p l e (rk 3 1 16 71) s m #[(.ref a1), (.ref a2), .null] below meth c s₁ [] 0 0 := Stand.of_body Bd
  have e0 : s₁.heap = h0 := by rw [← hh, Bd.state]; rfl
  have N0 := Fr.nil n0
  have pre0 := own_pre (tb := p.tables) (e := e) (bl := below) (s := s₁) (ef_30 m a1 a2)
  have K0 := Keep.refl h0 [a1]
  obtain ⟨T1, X1, e1, st1⟩ := initO X0 hx hZ hown (tw hw 53 rfl) (tw hw 7 rfl) (tw hw 8 rfl) e0 (g := (mkF m 1 #[Rf a1, Rf a2, .val .null, .unset, .unset] [(.ref a1)])) rfl (by rw [hml]; rfl) rfl (hb hby d30_1) (by decide) (W := 0) (w0 rfl) (by decide)
  obtain ⟨cq2, kq2, q2a, q2b, q2c⟩ := isOf hZ e1 E_a2
  obtain ⟨_, _, ⟨T2, L2, k2, n2⟩, -, X2, ⟨Lc2, hQ2, l2, y2, z2⟩, st2⟩ := X1.virtualBack hx (y := m_5) (z := m_5) hown (mvT hZ (tw hw 170 rfl)) (mvT hZ (tw hw 171 rfl)) (notFace_of_selects (args := #[]) (mvT hZ (tw hw 173 rfl))) (mvT hZ (tw hw 173 rfl)) (mvT hZ (tw hw 172 rfl)) (by decide) (backOf (W := 0) (rm31 l Z a0 hw [] a2 arr h0 n0 O0 F_value_a2) hZ (tw hw 174 rfl) (tw hw 19 rfl) (by decide) (by decide)) q2a q2c (g := (mkF m 5 #[Rf a1, Rf a2, .val .null, .unset, .unset] [(.ref a2)])) rfl (by rw [hml]; rfl) (Steps.refl _) (argsL := []) (rest := []) (lenOf pd_14 rfl) rfl (w0 rfl) (hb hby d30_5) (fun _ _ => ⟨rfl, e1, (by decide : 0 + 0 ≤ _), (by decide : 0 + 0 ≤ _)⟩)
  dsimp only [Pt.U, Pt.locs, Pt.cells, Pt.slots] at X2 l2 y2 z2 st2 hQ2
  subst l2 y2 z2
  obtain ⟨rfl, N2q, e2⟩ := hQ2
  have N2 := Fr.app N0 N2q
  obtain ⟨cq3, kq3, q3a, q3b, q3c⟩ := isOf hZ e2 E_a2
  obtain ⟨_, _, ⟨T3, L3, k3, n3⟩, -, X3, ⟨Lc3, hQ3, l3, y3, z3⟩, st3⟩ := X2.virtualBack hx (y := m_6) (z := m_7) hown (mvT hZ (tw hw 175 rfl)) (mvT hZ (tw hw 176 rfl)) (own_nface (args := #[]) (y2 := m_8) (mvT hZ (tw hw 113 rfl)) rfl) (mvT hZ (tw hw 178 rfl)) (mvT hZ (tw hw 179 rfl)) (by decide) (backOf (W := 0) (rm32 l Z a0 hw [] a2 cn h0 n0 O0 E_a2 F_count_a2) hZ (tw hw 180 rfl) (tw hw 11 rfl) (by decide) (by decide)) q3a q3c (g := (mkF m 10 #[Rf a1, Rf a2, .val .null, Rf arr, .unset] [(.ref a2)])) rfl (by rw [hml]; rfl) (Steps.refl _) (argsL := []) (rest := []) (lenOf pd_1 rfl) rfl (w0 rfl) (hb hby d30_10) (fun _ _ => ⟨rfl, e2, (by decide : 0 + 0 ≤ _), (by decide : 0 + 0 ≤ _)⟩)
  dsimp only [Pt.U, Pt.locs, Pt.cells, Pt.slots] at X3 l3 y3 z3 st3 hQ3
  subst l3 y3 z3
  obtain ⟨rfl, N3q, e3⟩ := hQ3
  have N3 := Fr.app N2 N3q
  obtain ⟨cq4, kq4, q4a, q4b, q4c⟩ := isOf hZ e3 E_a2
  obtain ⟨_, _, ⟨T4, L4, k4, n4⟩, -, X4, ⟨Lc4, hQ4, l4, y4, z4⟩, st4⟩ := X3.virtualBack hx (y := m_4) (z := m_4) hown (mvT hZ (tw hw 183 rfl)) (mvT hZ (tw hw 145 rfl)) (notFace_of_selects (args := #[]) (mvT hZ (tw hw 147 rfl))) (mvT hZ (tw hw 147 rfl)) (mvT hZ (tw hw 146 rfl)) (by decide) (backOf (W := 0) (rm25 l Z a0 hw [] a2 zC h0 n0 O0 hCS sC F_coder_a2) hZ (tw hw 148 rfl) (tw hw 19 rfl) (by decide) (by decide)) q4a q4c (g := (mkF m 16 #[Rf a1, Rf a2, .val .null, Rf arr, It cn] [(.ref a2)])) rfl (by rw [hml]; rfl) (Steps.refl _) (argsL := []) (rest := []) (lenOf pd_8 rfl) rfl (w0 rfl) (hb hby d30_16) (fun _ _ => ⟨rfl, e3, (by decide : 0 + 0 ≤ _), (by decide : 0 + 0 ≤ _)⟩)
  dsimp only [Pt.U, Pt.locs, Pt.cells, Pt.slots] at X4 l4 y4 z4 st4 hQ4
  subst l4 y4 z4
  obtain ⟨rfl, N4q, e4⟩ := hQ4
  have N4 := Fr.app N3 N4q
  obtain ⟨T5, h5, X5, e5, W5, st5⟩ := putFN X4 hx hZ hown (tw hw 65 rfl) Via.refl e4 F_coder_a1 E_a1 (Or.inr ⟨(tw hw 66 rfl), rfl, hnm⟩) (tw hw 44 rfl) (ty := .byte) (v' := .int ((0 : Int32).toInt8.toInt32)) (by decide) rfl (fits_nar_byte _) (g := (mkF m 24 #[Rf a1, Rf a2, .val .null, Rf arr, It cn] [(.int (0 : Int32)), (.ref a1)])) rfl rfl (hb hby d30_24)
  have Fw5 := F_coder_a1.same W5
  have N5 := Fr.snoc X5 N4 ge_a1
  have O6 := O0.wr W5 ge_a1
  have K5 := K0.wr W5 (Or.inl (List.mem_of_getElem? (i := 0) rfl))
  obtain ⟨_, _, ⟨T7, L7, k7, n7⟩, -, X7, ⟨Lc7, hQ7, l7, y7, z7⟩, st7⟩ := Jvm.LawKit.callS X5 hx (y := m_25) hown (mvT hZ (tw hw 184 rfl)) (mvT hZ (tw hw 185 rfl)) (mvT hZ (tw hw 186 rfl)) (mvT hZ (tw hw 187 rfl)) (by decide) (backOf (W := 1) (rm34 l Z a0 hw [] arr cn nn vs ka h5 n0 O6 (A_arr.other W5 (Ne.symm (Exa.neArv E_a1 A_arr (tw hw 44 rfl)))) h_n h_r) hZ (tw hw 187 rfl) (tw hw 186 rfl) (by decide) (by decide)) (g := (mkF m 32 #[Rf a1, Rf a2, .val .null, Rf arr, It cn] [(.int cn), (.int (0 : Int32)), (.ref arr), (.ref a1)])) rfl (by rw [hml]; rfl) (argsL := [(.ref arr), (.int (0 : Int32)), (.int cn)]) (rest := [(.ref a1)]) (lenOf pd_13 rfl) rfl (w0 rfl) (hb hby d30_32) (fun _ _ => ⟨rfl, e5, (by decide : 0 + 1 ≤ _), (by decide : 0 + 16 ≤ _)⟩)
  dsimp only [Pt.U, Pt.locs, Pt.cells, Pt.slots] at X7 l7 y7 z7 st7 hQ7
  subst l7 y7 z7
  obtain ⟨ro_7, ko_7, rfl, N7q, K7q, O7, f7_0, f7_1, f7_2⟩ := hQ7
  have N7 := Fr.app N5 N7q
  have K7 := K5.trans K7q all0
  obtain ⟨T8, h8, X8, e8, W8, st8⟩ := putF X7 hx hZ hown (host := "") (Or.inl (tw hw 67 rfl)) Via.refl rfl ((F_value_a1.other W5 (sn (.array .byte) .byte (Or.inr (tw hw 68 rfl)) (Or.inr (tw hw 66 rfl)))).keep K7q nin0) ((E_a1.wr W5).keep K7q) (Or.inr ⟨(tw hw 68 rfl), rfl, hnm⟩) (tw hw 44 rfl) (ty := (.array .byte)) (by decide) rfl rfl (g := (mkF m 35 #[Rf a1, Rf a2, .val .null, Rf arr, It cn] [(.ref ro_7), (.ref a1)])) rfl rfl (hb hby d30_35)
  have Fw8 := ((F_value_a1.other W5 (sn (.array .byte) .byte (Or.inr (tw hw 68 rfl)) (Or.inr (tw hw 66 rfl)))).keep K7q nin0).same W8
  have N8 := Fr.snoc X8 N7 ge_a1
  have O9 := O7.wr W8 ge_a1
  have K8 := K7.wr W8 (Or.inl (List.mem_of_getElem? (i := 0) rfl))
  have sg10 : SG p.tables e below (T8.setTop (mkF m 97 #[Rf a1, Rf a2, .val .null, Rf arr, It cn] [])) (s₁.setTop (mkF m 0 #[Rf a1, Rf a2, .val .null, .unset, .unset] [])) := by
    intro target kt
    show Steps _ _ _ (s₁.setTop (mkF m 0 #[Rf a1, Rf a2, .val .null, .unset, .unset] [])) _
    refine XS.aloadN X0.here hx rfl (hb hby d30_0) rfl rfl ?_
    refine st1 _ ?_
    refine XS.aloadN X1.here hx rfl (hb hby d30_4) rfl rfl ?_
    refine st2.trans ?_
    refine XS.astoreN X2.here hx rfl (hb hby d30_8) rfl rfl (l' := #[Rf a1, Rf a2, .val .null, Rf arr, .unset]) rfl ?_
    refine XS.aloadN X2.here hx rfl (hb hby d30_9) rfl rfl ?_
    refine st3.trans ?_
    refine XS.istore X3.here hx rfl (hb hby d30_13) rfl (l' := #[Rf a1, Rf a2, .val .null, Rf arr, It cn]) rfl ?_
    refine XS.aloadN X3.here hx rfl (hb hby d30_15) rfl rfl ?_
    refine st4.trans ?_
    refine XS.ifNo X4.here hx rfl (hb hby d30_19) rfl ((if0 _ _).trans (feq (by decide : ¬ ((1 : Int32) = (0 : Int32)))).1) ?_
    refine XS.aloadN X4.here hx rfl (hb hby d30_22) rfl rfl ?_
    refine XS.iconst X4.here hx rfl (hb hby d30_23) ?_
    refine st5 _ ?_
    refine XS.aloadN X5.here hx rfl (hb hby d30_27) rfl rfl ?_
    refine XS.aloadN X5.here hx rfl (hb hby d30_28) rfl rfl ?_
    refine XS.iconst X5.here hx rfl (hb hby d30_29) ?_
    refine XS.iload X5.here hx rfl (hb hby d30_30) rfl ?_
    refine st7 _ ?_
    refine st8 _ ?_
    refine XS.goto X8.here hx rfl (pc0 := 38) (pc' := 97) rfl (hb hby d30_38) (by decide) (by decide) ?_
    exact kt
  obtain ⟨fs, hr, hrun, hended, hW, hsame⟩ := X8.leave (v := none) (fun _ => rfl)
  refine ⟨_, _, pre0 _ (sg10 _ (?_)), hrun, hended, _, _, rfl, ?_, ⟨_, rfl⟩, hW, hsame.mono (by decide) (by decide)⟩
  · show Steps _ _ _ (T8.setTop (mkF m 97 #[Rf a1, Rf a2, .val .null, Rf arr, It cn] [])) _
    exact X8.returnOut hx Bd.returns (hb hby d30_97) hr
  · show Q30 Z a1 a2 arr cn nn vs zC ka h0 n0 _ T8.heap _
    rw [e8]
    exact ⟨ro_7, ko_7, rfl, N8, K8, O9, ((Fw5.keep K7q nin0).other W8 (sn .byte (.array .byte) (Or.inr (tw hw 66 rfl)) (Or.inr (tw hw 68 rfl)))), Fw8, (f7_0.other W8 (Ne.symm (Nat.ne_of_lt (Nat.lt_of_lt_of_le (E_a1.wr W5).lt f7_2)))), f7_1, (Nat.le_trans K5.1 f7_2)⟩
def Q29 (Z : State) (a1 : Addr) (a2 : Addr) (arr : Addr) (cn : Int32) (nn : Nat) (vs : List Value) (zC : Int32) (ka : ClassId) (h0 : Heap) (n0 : Nat) (v : Option Value) (h : Heap) (L : List Loc) : Prop := ∃ ro : Addr, ∃ ko : ClassId, v = none ∧ Fr n0 L ∧ Keep h0 h [a1] ∧ Old Z n0 h ∧ Fld Z h a1 "java/lang/String" "coder" "B" (.int (0 : Int32)) ∧ Fld Z h a1 "java/lang/String" "value" "[B" (.ref ro) ∧ Arv Z h ro ko .byte cn (cpy z16 0 vs 0 nn) (.int (0 : Int32)) ∧ n0 ≤ ro ∧ h0.size ≤ ro
theorem rm29 (l : Launch) (Z : State) (a0 : Array Value) (hw : ∀ d ∈ tables_1, d.before a0 Z = true) (ws : List Jvm.Cond) (a1 : Addr) (a2 : Addr) (arr : Addr) (cn : Int32) (nn : Nat) (vs : List Value) (zC : Int32) (ka : ClassId) (h0 : Heap) (n0 : Nat) (O0 : Old Z n0 h0) (hCS : ¬ zC = 0) (sC : TS_0 Z zC) (E_a1 : Exa Z h0 a1 "java/lang/String") (F_value_a1 : Fld Z h0 a1 "java/lang/String" "value" "[B" .null) (F_coder_a1 : Fld Z h0 a1 "java/lang/String" "coder" "B" (.int (0 : Int32))) (ge_a1 : n0 ≤ a1) (E_a2 : Exa Z h0 a2 "java/lang/StringBuilder") (F_value_a2 : Fld Z h0 a2 "java/lang/AbstractStringBuilder" "value" "[B" (.ref arr)) (F_coder_a2 : Fld Z h0 a2 "java/lang/AbstractStringBuilder" "coder" "B" (.int (0 : Int32))) (F_count_a2 : Fld Z h0 a2 "java/lang/AbstractStringBuilder" "count" "I" (.int cn)) (A_arr : Arv Z h0 arr ka .byte (16 : Int32) vs (.int (0 : Int32))) (h_n : Sm cn nn) (h_r : nn < 16) :
    MetFree l m_27 (head1 (Jvm.Cond.code m_27 jdk_42_method_53_code 2 none :: ws) (rk 4 1 16 87)) (fun a U => a = #[(.ref a1), (.ref a2)] ∧ Z.Warmed39 U.vm ∧ U.heap = h0) (fun _ _ _ _ _ => True) (fun _ U o U' => ∃ v L, o = .returned v ∧ Q29 Z a1 a2 arr cn nn vs zC ka h0 n0 v U'.heap L ∧ FrameEnd U o U' L (rk 4 1 16 87).cells (rk 4 1 16 87).slots) := by
  refine MetFree.of_bodySF (plainFor_of_name pn_0) hisR ?_
  intro p e s m args below meth c s₁ Bd hml0 hP hK
  obtain ⟨rfl, hZ, hh⟩ := hP
  have hx := Bd.exec
  have hby := Bd.bytes
  have hml : c.maxLocals = 2 := hml0
  have hown : s.vm.findClass "java/lang/String" = some m.cls := findClass_of_methodNamed Bd.named
  have X0 : Stand p l e (rk 4 1 16 87) s m #[(.ref a1), (.ref a2)] below meth c s₁ [] 0 0 := Stand.of_body Bd
  have e0 : s₁.heap = h0 := by rw [← hh, Bd.state]; rfl
  have N0 := Fr.nil n0
  have pre0 := own_pre (tb := p.tables) (e := e) (bl := below) (s := s₁) (ef_21 m a1 a2)
  have K0 := Keep.refl h0 [a1]
  obtain ⟨_, _, ⟨T1, L1, k1, n1⟩, -, X1, ⟨Lc1, hQ1, l1, y1, z1⟩, st1⟩ := X0.specialBack hx (y := m_26) rfl hown (mvT hZ (tw hw 167 rfl)) (mvT hZ (tw hw 168 rfl)) (mvT hZ (tw hw 169 rfl)) (by decide) (backOf (W := 0) (rm30 l Z a0 hw [] a1 a2 arr cn nn vs zC ka h0 n0 O0 hCS sC E_a1 F_value_a1 F_coder_a1 ge_a1 E_a2 F_value_a2 F_coder_a2 F_count_a2 A_arr h_n h_r) hZ (tw hw 169 rfl) (tw hw 23 rfl) (by decide) (by decide)) (g := (mkF m 3 #[Rf a1, Rf a2] [.null, (.ref a2), (.ref a1)])) rfl (by rw [hml]; rfl) (Steps.refl _) (a := a1) (argsL := [(.ref a2), .null]) (rest := []) (lenOf pd_15 rfl) rfl (w0 rfl) (hb hby d29_3) (fun _ _ => ⟨rfl, e0, (by decide : 0 + 1 ≤ _), (by decide : 0 + 16 ≤ _)⟩)
  dsimp only [Pt.U, Pt.locs, Pt.cells, Pt.slots] at X1 l1 y1 z1 st1 hQ1
  subst l1 y1 z1
  obtain ⟨ro_1, ko_1, rfl, N1q, K1q, O1, f1_0, f1_1, f1_2, f1_3, f1_4⟩ := hQ1
  have N1 := Fr.app N0 N1q
  have K1 := K0.trans K1q (allS (Or.inl (List.mem_of_getElem? (i := 0) rfl)) all0)
  have sg2 : SG p.tables e below (T1.setTop (mkF m 6 #[Rf a1, Rf a2] [])) (s₁.setTop (mkF m 0 #[Rf a1, Rf a2] [])) := by
    intro target kt
    show Steps _ _ _ (s₁.setTop (mkF m 0 #[Rf a1, Rf a2] [])) _
    refine XS.aloadN X0.here hx rfl (hb hby d29_0) rfl rfl ?_
    refine XS.aloadN X0.here hx rfl (hb hby d29_1) rfl rfl ?_
    refine XS.aconstNull X0.here hx rfl (hb hby d29_2) ?_
    refine st1.trans ?_
    exact kt
  obtain ⟨fs, hr, hrun, hended, hW, hsame⟩ := X1.leave (v := none) (fun _ => rfl)
  refine ⟨_, _, pre0 _ (sg2 _ (?_)), hrun, hended, _, _, rfl, ?_, ⟨_, rfl⟩, hW, hsame.mono (by decide) (by decide)⟩
  · show Steps _ _ _ (T1.setTop (mkF m 6 #[Rf a1, Rf a2] [])) _
    exact X1.returnOut hx Bd.returns (hb hby d29_6) hr
  · show Q29 Z a1 a2 arr cn nn vs zC ka h0 n0 _ T1.heap _
    exact ⟨ro_1, ko_1, rfl, N1, K1, O1, f1_0, f1_1, f1_2, f1_3, (Nat.le_trans K0.1 f1_4)⟩
def Q28 (Z : State) (a1 : Addr) (arr : Addr) (cn : Int32) (nn : Nat) (vs : List Value) (zC : Int32) (ka : ClassId) (h0 : Heap) (n0 : Nat) (v : Option Value) (h : Heap) (L : List Loc) : Prop := ∃ rs : Addr, ∃ ro : Addr, ∃ ko : ClassId, v = some (.ref rs) ∧ Fr n0 L ∧ Keep h0 h [] ∧ Old Z n0 h ∧ Exa Z h rs "java/lang/String" ∧ n0 ≤ rs ∧ h0.size ≤ rs ∧ Fld Z h rs "java/lang/String" "coder" "B" (.int (0 : Int32)) ∧ Fld Z h rs "java/lang/String" "value" "[B" (.ref ro) ∧ Arv Z h ro ko .byte cn (cpy z16 0 vs 0 nn) (.int (0 : Int32)) ∧ n0 ≤ ro ∧ h0.size ≤ ro
theorem rm28 (l : Launch) (Z : State) (a0 : Array Value) (hw : ∀ d ∈ tables_1, d.before a0 Z = true) (ws : List Jvm.Cond) (a1 : Addr) (arr : Addr) (cn : Int32) (nn : Nat) (vs : List Value) (zC : Int32) (ka : ClassId) (h0 : Heap) (n0 : Nat) (O0 : Old Z n0 h0) (hCS : ¬ zC = 0) (sC : TS_0 Z zC) (E_a1 : Exa Z h0 a1 "java/lang/StringBuilder") (F_value_a1 : Fld Z h0 a1 "java/lang/AbstractStringBuilder" "value" "[B" (.ref arr)) (F_coder_a1 : Fld Z h0 a1 "java/lang/AbstractStringBuilder" "coder" "B" (.int (0 : Int32))) (F_count_a1 : Fld Z h0 a1 "java/lang/AbstractStringBuilder" "count" "I" (.int cn)) (A_arr : Arv Z h0 arr ka .byte (16 : Int32) vs (.int (0 : Int32))) (h_n : Sm cn nn) (h_r : nn < 16) :
    MetFree l m_28 (head1 (Jvm.Cond.code m_28 jdk_67_method_42_code 1 (some (.object "java/lang/String")) :: ws) (rk 5 2 20 101)) (fun a U => a = #[(.ref a1)] ∧ Z.Warmed39 U.vm ∧ U.heap = h0) (fun _ _ _ _ _ => True) (fun _ U o U' => ∃ v L, o = .returned v ∧ Q28 Z a1 arr cn nn vs zC ka h0 n0 v U'.heap L ∧ FrameEnd U o U' L (rk 5 2 20 101).cells (rk 5 2 20 101).slots) := by
  refine MetFree.of_bodySF (plainFor_of_name pn_2) hisR ?_
  intro p e s m args below meth c s₁ Bd hml0 hP hK
  obtain ⟨rfl, hZ, hh⟩ := hP
  have hx := Bd.exec
  have hby := Bd.bytes
  have hml : c.maxLocals = 1 := hml0
  have hown : s.vm.findClass "java/lang/StringBuilder" = some m.cls := findClass_of_methodNamed Bd.named
  have X0 : Stand p l e (rk 5 2 20 101) s m #[(.ref a1)] below meth c s₁ [] 0 0 := Stand.of_body Bd
  have e0 : s₁.heap = h0 := by rw [← hh, Bd.state]; rfl
  have N0 := Fr.nil n0
  have pre0 := own_pre (tb := p.tables) (e := e) (bl := below) (s := s₁) (ef_18 m a1)
  have K0 := Keep.refl h0 []
  obtain ⟨T1, h1, X1, e1, E1, A1, D1, -, st1⟩ := newO X0 hx hZ hown (tw hw 163 rfl) (tw hw 44 rfl) (tw hw 23 rfl) e0 (g := (mkF m 0 #[Rf a1] [])) rfl (hb hby d28_0) (by decide) (by decide)
  obtain ⟨b1, g1⟩ : ∃ z, z = h0.size := ⟨_, rfl⟩
  rw [← g1] at A1 D1 st1
  have ge_b1 : n0 ≤ b1 := Nat.le_trans (own_osz O0) (Nat.le_of_eq g1.symm)
  have sz_b1 : h0.size ≤ b1 := Nat.le_trans K0.1 (Nat.le_of_eq g1.symm)
  have O2 := O0.ext E1
  have K1 := K0.ext E1
  have F_coder_b1 : Fld Z h1 b1 "java/lang/String" "coder" "B" (.int (0 : Int32)) := D1 (Or.inr (tw hw 66 rfl)) (ty := .byte) (by decide)
  have F_value_b1 : Fld Z h1 b1 "java/lang/String" "value" "[B" .null := D1 (Or.inr (tw hw 68 rfl)) (ty := (.array .byte)) (by decide)
  obtain ⟨_, _, ⟨T3, L3, k3, n3⟩, -, X3, ⟨Lc3, hQ3, l3, y3, z3⟩, st3⟩ := X1.specialBack hx (y := m_27) rfl hown (mvT hZ (tw hw 164 rfl)) (mvT hZ (tw hw 165 rfl)) (mvT hZ (tw hw 166 rfl)) (by decide) (backOf (W := 1) (rm29 l Z a0 hw [] b1 a1 arr cn nn vs zC ka h1 n0 O2 hCS sC A1 F_value_b1 F_coder_b1 ge_b1 (E_a1.ext E1) (F_value_a1.ext E1) (F_coder_a1.ext E1) (F_count_a1.ext E1) (A_arr.ext E1) h_n h_r) hZ (tw hw 166 rfl) (tw hw 23 rfl) (by decide) (by decide)) (g := (mkF m 5 #[Rf a1] [(.ref a1), (.ref b1), (.ref b1)])) rfl (by rw [hml]; rfl) (Steps.refl _) (a := b1) (argsL := [(.ref a1)]) (rest := [(.ref b1)]) (lenOf pd_16 rfl) rfl (w0 rfl) (hb hby d28_5) (fun _ _ => ⟨rfl, e1, (by decide : 1 + 1 ≤ _), (by decide : 4 + 16 ≤ _)⟩)
  dsimp only [Pt.U, Pt.locs, Pt.cells, Pt.slots] at X3 l3 y3 z3 st3 hQ3
  subst l3 y3 z3
  obtain ⟨ro_3, ko_3, rfl, N3q, K3q, O3, f3_0, f3_1, f3_2, f3_3, f3_4⟩ := hQ3
  have N3 := Fr.app N0 N3q
  have K3 := K1.trans K3q (allS (Or.inr sz_b1) all0)
  have sg4 : SG p.tables e below (T3.setTop (mkF m 8 #[Rf a1] [(.ref b1)])) (s₁.setTop (mkF m 0 #[Rf a1] [])) := by
    intro target kt
    show Steps _ _ _ (s₁.setTop (mkF m 0 #[Rf a1] [])) _
    refine st1 _ ?_
    refine XS.dup X1.here hx rfl (hb hby d28_3) rfl rfl ?_
    refine XS.aloadN X1.here hx rfl (hb hby d28_4) rfl rfl ?_
    refine st3.trans ?_
    exact kt
  obtain ⟨fs, hr, hrun, hended, hW, hsame⟩ := X3.leave (v := some (.ref b1)) (fun h => by rw [Bd.returns] at h; cases h)
  refine ⟨_, _, pre0 _ (sg4 _ (?_)), hrun, hended, _, _, rfl, ?_, ⟨_, rfl⟩, hW, hsame.mono (by decide) (by decide)⟩
  · show Steps _ _ _ (T3.setTop (mkF m 8 #[Rf a1] [(.ref b1)])) _
    jvm_step X3.here [X3.here.top, hx, (hb hby d28_8), X3.method', Bd.returns, Value.isRef, FieldType.isReference]
    first | (intro acts; rw [hr _ acts rfl rfl rfl]) | rw [hr _ _ rfl rfl rfl]
    exact Steps.refl _
  · show Q28 Z a1 arr cn nn vs zC ka h0 n0 _ T3.heap _
    exact ⟨b1, ro_3, ko_3, rfl, N3, K3, O3, (A1.keep K3q), ge_b1, sz_b1, f3_0, f3_1, f3_2, f3_3, (Nat.le_trans K1.1 f3_4)⟩
def Q27 (Z : State) (a1 : Addr) (arr : Addr) (cn : Int32) (nn : Nat) (vs : List Value) (sb : Addr) (zC : Int32) (ka : ClassId) (h0 : Heap) (n0 : Nat) (v : Option Value) (h : Heap) (L : List Loc) : Prop := ∃ rs : Addr, ∃ ro : Addr, ∃ ko : ClassId, v = some (.ref rs) ∧ Fr n0 L ∧ Keep h0 h [] ∧ Old Z n0 h ∧ Exa Z h rs "java/lang/String" ∧ n0 ≤ rs ∧ h0.size ≤ rs ∧ Fld Z h rs "java/lang/String" "coder" "B" (.int (0 : Int32)) ∧ Fld Z h rs "java/lang/String" "value" "[B" (.ref ro) ∧ Arv Z h ro ko .byte cn (cpy z16 0 vs 0 nn) (.int (0 : Int32)) ∧ n0 ≤ ro ∧ h0.size ≤ ro
theorem rm27 (l : Launch) (Z : State) (a0 : Array Value) (hw : ∀ d ∈ tables_1, d.before a0 Z = true) (ws : List Jvm.Cond) (a1 : Addr) (arr : Addr) (cn : Int32) (nn : Nat) (vs : List Value) (sb : Addr) (zC : Int32) (ka : ClassId) (h0 : Heap) (n0 : Nat) (O0 : Old Z n0 h0) (hCS : ¬ zC = 0) (sC : TS_0 Z zC) (F_text_a1 : Fld Z h0 a1 "com/example/tetrad/tetrad/generate/SourceText" "text" "Ljava/lang/StringBuilder;" (.ref sb)) (E_sb : Exa Z h0 sb "java/lang/StringBuilder") (F_value_sb : Fld Z h0 sb "java/lang/AbstractStringBuilder" "value" "[B" (.ref arr)) (F_coder_sb : Fld Z h0 sb "java/lang/AbstractStringBuilder" "coder" "B" (.int (0 : Int32))) (F_count_sb : Fld Z h0 sb "java/lang/AbstractStringBuilder" "count" "I" (.int cn)) (A_arr : Arv Z h0 arr ka .byte (16 : Int32) vs (.int (0 : Int32))) (h_n : Sm cn nn) (h_r : nn < 16) :
    MetFree l m_29 (head1 (Jvm.Cond.code m_29 prog_51_method_9_code 1 (some (.object "java/lang/String")) :: ws) (rk 6 2 20 113)) (fun a U => a = #[(.ref a1)] ∧ Z.Warmed39 U.vm ∧ U.heap = h0) (fun _ _ _ _ _ => True) (fun _ U o U' => ∃ v L, o = .returned v ∧ Q27 Z a1 arr cn nn vs sb zC ka h0 n0 v U'.heap L ∧ FrameEnd U o U' L (rk 6 2 20 113).cells (rk 6 2 20 113).slots) := by
  refine MetFree.of_bodySF (plainFor_of_name pn_3) hisR ?_
  intro p e s m args below meth c s₁ Bd hml0 hP hK
  obtain ⟨rfl, hZ, hh⟩ := hP
  have hx := Bd.exec
  have hby := Bd.bytes
  have hml : c.maxLocals = 1 := hml0
  have hown : s.vm.findClass "com/example/tetrad/tetrad/generate/SourceText" = some m.cls := findClass_of_methodNamed Bd.named
  have X0 : Stand p l e (rk 6 2 20 113) s m #[(.ref a1)] below meth c s₁ [] 0 0 := Stand.of_body Bd
  have e0 : s₁.heap = h0 := by rw [← hh, Bd.state]; rfl
  have N0 := Fr.nil n0
  have pre0 := own_pre (tb := p.tables) (e := e) (bl := below) (s := s₁) (ef_18 m a1)
  have K0 := Keep.refl h0 []
  obtain ⟨T1, X1, e1, st1⟩ := getF X0 hx hZ hown (host := "") (Or.inl (tw hw 29 rfl)) Via.refl e0 F_text_a1 (g := (mkF m 1 #[Rf a1] [(.ref a1)])) rfl rfl (hb hby d27_1)
  obtain ⟨cq2, kq2, q2a, q2b, q2c⟩ := isOf hZ e1 E_sb
  obtain ⟨_, _, ⟨T2, L2, k2, n2⟩, -, X2, ⟨Lc2, hQ2, l2, y2, z2⟩, st2⟩ := X1.virtualBack hx (y := m_28) (z := m_28) hown (mvT hZ (tw hw 158 rfl)) (mvT hZ (tw hw 159 rfl)) (notFace_of_selects (args := #[]) (mvT hZ (tw hw 161 rfl))) (mvT hZ (tw hw 161 rfl)) (mvT hZ (tw hw 160 rfl)) (by decide) (backOf (W := 0) (rm28 l Z a0 hw [] sb arr cn nn vs zC ka h0 n0 O0 hCS sC E_sb F_value_sb F_coder_sb F_count_sb A_arr h_n h_r) hZ (tw hw 162 rfl) (tw hw 11 rfl) (by decide) (by decide)) q2a q2c (g := (mkF m 4 #[Rf a1] [(.ref sb)])) rfl (by rw [hml]; rfl) (Steps.refl _) (argsL := []) (rest := []) (lenOf pd_17 rfl) rfl (w0 rfl) (hb hby d27_4) (fun _ _ => ⟨rfl, e1, (by decide : 0 + 2 ≤ _), (by decide : 0 + 20 ≤ _)⟩)
  dsimp only [Pt.U, Pt.locs, Pt.cells, Pt.slots] at X2 l2 y2 z2 st2 hQ2
  subst l2 y2 z2
  obtain ⟨rs_2, ro_2, ko_2, rfl, N2q, K2q, O2, f2_0, f2_1, f2_2, f2_3, f2_4, f2_5, f2_6, f2_7⟩ := hQ2
  have N2 := Fr.app N0 N2q
  have K2 := K0.trans K2q all0
  have sg3 : SG p.tables e below (T2.setTop (mkF m 7 #[Rf a1] [(.ref rs_2)])) (s₁.setTop (mkF m 0 #[Rf a1] [])) := by
    intro target kt
    show Steps _ _ _ (s₁.setTop (mkF m 0 #[Rf a1] [])) _
    refine XS.aloadN X0.here hx rfl (hb hby d27_0) rfl rfl ?_
    refine st1 _ ?_
    refine st2.trans ?_
    exact kt
  obtain ⟨fs, hr, hrun, hended, hW, hsame⟩ := X2.leave (v := some (.ref rs_2)) (fun h => by rw [Bd.returns] at h; cases h)
  refine ⟨_, _, pre0 _ (sg3 _ (?_)), hrun, hended, _, _, rfl, ?_, ⟨_, rfl⟩, hW, hsame.mono (by decide) (by decide)⟩
  · show Steps _ _ _ (T2.setTop (mkF m 7 #[Rf a1] [(.ref rs_2)])) _
    jvm_step X2.here [X2.here.top, hx, (hb hby d27_7), X2.method', Bd.returns, Value.isRef, FieldType.isReference]
    first | (intro acts; rw [hr _ acts rfl rfl rfl]) | rw [hr _ _ rfl rfl rfl]
    exact Steps.refl _
  · show Q27 Z a1 arr cn nn vs sb zC ka h0 n0 _ T2.heap _
    exact ⟨rs_2, ro_2, ko_2, rfl, N2, K2, O2, f2_0, f2_1, (Nat.le_trans K0.1 f2_2), f2_3, f2_4, f2_5, f2_6, (Nat.le_trans K0.1 f2_7)⟩
def Q46 (Z : State) (a1 : Addr) (a2 : Addr) (h0 : Heap) (n0 : Nat) (v : Option Value) (h : Heap) (L : List Loc) : Prop := v = none ∧ Fr n0 L ∧ Keep h0 h [a1] ∧ Old Z n0 h ∧ Fld Z h a1 "java/lang/String" "coder" "B" (.int (0 : Int32)) ∧ Fld Z h a1 "java/lang/String" "value" "[B" (.ref a2)
theorem ef_46 (m : MethodId) (x0 : Addr) (x1 : Addr) (x2 : Int32) : entryFrame m #[(.ref x0), (.ref x1), (.int x2)] 3 = mkF m 0 #[.val (.ref x0), .val (.ref x1), .val (.int x2)] [] := by first | (simp [entryFrame, mkF, argsToLocals, Value.category]; done) | rfl
theorem rm46 (l : Launch) (Z : State) (a0 : Array Value) (hw : ∀ d ∈ tables_1, d.before a0 Z = true) (ws : List Jvm.Cond) (a1 : Addr) (a2 : Addr) (h0 : Heap) (n0 : Nat) (O0 : Old Z n0 h0) (E_a1 : Exa Z h0 a1 "java/lang/String") (F_value_a1 : Fld Z h0 a1 "java/lang/String" "value" "[B" .null) (F_coder_a1 : Fld Z h0 a1 "java/lang/String" "coder" "B" (.int (0 : Int32))) (ge_a1 : n0 ≤ a1) :
    MetFree l m_30 (head1 (Jvm.Cond.code m_30 jdk_42_method_151_code 3 none :: ws) (rk 1 0 0 12)) (fun a U => a = #[(.ref a1), (.ref a2), (.int (0 : Int32))] ∧ Z.Warmed39 U.vm ∧ U.heap = h0) (fun _ _ _ _ _ => True) (fun _ U o U' => ∃ v L, o = .returned v ∧ Q46 Z a1 a2 h0 n0 v U'.heap L ∧ FrameEnd U o U' L (rk 1 0 0 12).cells (rk 1 0 0 12).slots) := by
  refine MetFree.of_bodySF (plainFor_of_name pn_0) hisR ?_
  intro p e s m args below meth c s₁ Bd hml0 hP hK
  obtain ⟨rfl, hZ, hh⟩ := hP
  have hx := Bd.exec
  have hby := Bd.bytes
  have hml : c.maxLocals = 3 := hml0
  have hown : s.vm.findClass "java/lang/String" = some m.cls := findClass_of_methodNamed Bd.named
  have hnm := (name_of_methodNamed Bd.named Bd.method).1
  have X0 : Stand p l e (rk 1 0 0 12) s m #[(.ref a1), (.ref a2), (.int (0 : Int32))] below meth c s₁ [] 0 0 := Stand.of_body Bd
  have e0 : s₁.heap = h0 := by rw [← hh, Bd.state]; rfl
  have N0 := Fr.nil n0
  have pre0 := own_pre (tb := p.tables) (e := e) (bl := below) (s := s₁) (ef_46 m a1 a2 (0 : Int32))
  have K0 := Keep.refl h0 [a1]
  obtain ⟨T1, X1, e1, st1⟩ := initO X0 hx hZ hown (tw hw 53 rfl) (tw hw 7 rfl) (tw hw 8 rfl) e0 (g := (mkF m 1 #[Rf a1, Rf a2, It (0 : Int32)] [(.ref a1)])) rfl (by rw [hml]; rfl) rfl (hb hby d46_1) (by decide) (W := 0) (w0 rfl) (by decide)
  obtain ⟨T2, h2, X2, e2, W2, st2⟩ := putF X1 hx hZ hown (host := "") (Or.inl (tw hw 67 rfl)) Via.refl e1 F_value_a1 E_a1 (Or.inr ⟨(tw hw 68 rfl), rfl, hnm⟩) (tw hw 44 rfl) (ty := (.array .byte)) (by decide) rfl rfl (g := (mkF m 6 #[Rf a1, Rf a2, It (0 : Int32)] [(.ref a2), (.ref a1)])) rfl rfl (hb hby d46_6)
  have Fw2 := F_value_a1.same W2
  have N2 := Fr.snoc X2 N0 ge_a1
  have O3 := O0.wr W2 ge_a1
  have K2 := K0.wr W2 (Or.inl (List.mem_of_getElem? (i := 0) rfl))
  obtain ⟨T4, h4, X4, e4, W4, st4⟩ := putFN X2 hx hZ hown (tw hw 65 rfl) Via.refl e2 (F_coder_a1.other W2 (sn .byte (.array .byte) (Or.inr (tw hw 66 rfl)) (Or.inr (tw hw 68 rfl)))) (E_a1.wr W2) (Or.inr ⟨(tw hw 66 rfl), rfl, hnm⟩) (tw hw 44 rfl) (ty := .byte) (v' := .int ((0 : Int32).toInt8.toInt32)) (by decide) rfl (fits_nar_byte _) (g := (mkF m 11 #[Rf a1, Rf a2, It (0 : Int32)] [(.int (0 : Int32)), (.ref a1)])) rfl rfl (hb hby d46_11)
  have Fw4 := (F_coder_a1.other W2 (sn .byte (.array .byte) (Or.inr (tw hw 66 rfl)) (Or.inr (tw hw 68 rfl)))).same W4
  have N4 := Fr.snoc X4 N2 ge_a1
  have O5 := O3.wr W4 ge_a1
  have K4 := K2.wr W4 (Or.inl (List.mem_of_getElem? (i := 0) rfl))
  have sg6 : SG p.tables e below (T4.setTop (mkF m 14 #[Rf a1, Rf a2, It (0 : Int32)] [])) (s₁.setTop (mkF m 0 #[Rf a1, Rf a2, It (0 : Int32)] [])) := by
    intro target kt
    show Steps _ _ _ (s₁.setTop (mkF m 0 #[Rf a1, Rf a2, It (0 : Int32)] [])) _
    refine XS.aloadN X0.here hx rfl (hb hby d46_0) rfl rfl ?_
    refine st1 _ ?_
    refine XS.aloadN X1.here hx rfl (hb hby d46_4) rfl rfl ?_
    refine XS.aloadN X1.here hx rfl (hb hby d46_5) rfl rfl ?_
    refine st2 _ ?_
    refine XS.aloadN X2.here hx rfl (hb hby d46_9) rfl rfl ?_
    refine XS.iloadN X2.here hx rfl (hb hby d46_10) rfl ?_
    refine st4 _ ?_
    exact kt
  obtain ⟨fs, hr, hrun, hended, hW, hsame⟩ := X4.leave (v := none) (fun _ => rfl)
  refine ⟨_, _, pre0 _ (sg6 _ (?_)), hrun, hended, _, _, rfl, ?_, ⟨_, rfl⟩, hW, hsame.mono (by decide) (by decide)⟩
  · show Steps _ _ _ (T4.setTop (mkF m 14 #[Rf a1, Rf a2, It (0 : Int32)] [])) _
    exact X4.returnOut hx Bd.returns (hb hby d46_14) hr
  · show Q46 Z a1 a2 h0 n0 _ T4.heap _
    rw [e4]
    exact ⟨rfl, N4, K4, O5, Fw4, (Fw2.other W4 (sn (.array .byte) .byte (Or.inr (tw hw 68 rfl)) (Or.inr (tw hw 66 rfl))))⟩
def Q45_2 (Z : State) (a1 : Addr) (vs : List Value) (ka : ClassId) (h0 : Heap) (n0 : Nat) (v : Option Value) (h : Heap) (L : List Loc) : Prop := v = none ∧ Fr n0 L ∧ Keep h0 h [a1] ∧ Old Z n0 h ∧ Arv Z h a1 ka .byte (8 : Int32) (cpy vs 4 vs 0 4) (.int (0 : Int32))
theorem ef_45_2 (m : MethodId) (x0 : Addr) (x1 : Int32) (x2 : Int32) (x3 : Int32) : entryFrame m #[(.ref x0), (.int x1), (.int x2), (.int x3)] 4 = mkF m 0 #[.val (.ref x0), .val (.int x1), .val (.int x2), .val (.int x3)] [] := by first | (simp [entryFrame, mkF, argsToLocals, Value.category]; done) | rfl
theorem rm45_2 (l : Launch) (Z : State) (a0 : Array Value) (hw : ∀ d ∈ tables_1, d.before a0 Z = true) (ws : List Jvm.Cond) (a1 : Addr) (vs : List Value) (ka : ClassId) (h0 : Heap) (n0 : Nat) (O0 : Old Z n0 h0) (h_v : vs.length = 16) (A_a1 : Arv Z h0 a1 ka .byte (8 : Int32) vs (.int (0 : Int32))) (ge_a1 : n0 ≤ a1) :
    MetFree l m_31 (head1 (Jvm.Cond.code m_31 jdk_42_method_146_code 4 none :: ws) (rk 1 0 0 40)) (fun a U => a = #[(.ref a1), (.int (0 : Int32)), (.int (8 : Int32)), (.int (4 : Int32))] ∧ Z.Warmed39 U.vm ∧ U.heap = h0) (fun _ _ _ _ _ => True) (fun _ U o U' => ∃ v L, o = .returned v ∧ Q45_2 Z a1 vs ka h0 n0 v U'.heap L ∧ FrameEnd U o U' L (rk 1 0 0 40).cells (rk 1 0 0 40).slots) := by
  refine MetFree.of_bodySF (plainFor_of_name pn_0) hisR ?_
  intro p e s m args below meth c s₁ Bd hml0 hP hK
  obtain ⟨rfl, hZ, hh⟩ := hP
  have hx := Bd.exec
  have hby := Bd.bytes
  have hml : c.maxLocals = 4 := hml0
  have hown : s.vm.findClass "java/lang/String" = some m.cls := findClass_of_methodNamed Bd.named
  have X0 : Stand p l e (rk 1 0 0 40) s m #[(.ref a1), (.int (0 : Int32)), (.int (8 : Int32)), (.int (4 : Int32))] below meth c s₁ [] 0 0 := Stand.of_body Bd
  have e0 : s₁.heap = h0 := by rw [← hh, Bd.state]; rfl
  have N0 := Fr.nil n0
  have pre0 := own_pre (tb := p.tables) (e := e) (bl := below) (s := s₁) (ef_45_2 m a1 (0 : Int32) (8 : Int32) (4 : Int32))
  have K0 := Keep.refl h0 [a1]
  obtain ⟨T1, h1, L1, X1, e1, N1, K1q, V1, st1⟩ := cpA X0 hx hZ hown (tw hw 131 rfl) (tw hw 134 rfl) (tw hw 132 rfl) (tw hw 133 rfl) e0 A_a1 A_a1 (Or.inl ⟨rfl, rfl⟩) (Sm.lit (x := (0 : Int32)) (n := 0) (by decide)).nn (Sm.lit (x := ((0 : Int32) + (4 : Int32))) (n := 4) (by decide)).nn (Sm.lit (x := ((8 : Int32) - (4 : Int32))) (n := 4) (by decide)).nn (own_le3 (Sm.lit (x := (0 : Int32)) (n := 0) (by decide)) (Sm.lit (x := ((8 : Int32) - (4 : Int32))) (n := 4) (by decide)) (Sm.lit (x := (8 : Int32)) (n := 8) (by decide)) (by decide)) (own_le3 (Sm.lit (x := ((0 : Int32) + (4 : Int32))) (n := 4) (by decide)) (Sm.lit (x := ((8 : Int32) - (4 : Int32))) (n := 4) (by decide)) (Sm.lit (x := (8 : Int32)) (n := 8) (by decide)) (by decide)) rfl (own_le2 (Sm.lit (x := ((0 : Int32) + (4 : Int32))) (n := 4) (by decide)) (Sm.lit (x := ((8 : Int32) - (4 : Int32))) (n := 4) (by decide)) (by rw [h_v]; decide)) N0 ge_a1 (g := (mkF m 33 #[Rf a1, It (0 : Int32), It (8 : Int32), It (4 : Int32)] [(.int ((8 : Int32) - (4 : Int32))), (.int ((0 : Int32) + (4 : Int32))), (.ref a1), (.int (0 : Int32)), (.ref a1)])) rfl (by rw [hml]; rfl) rfl (hb hby d45_33) (by decide) (W := 0) (w0 rfl) (by decide)
  have VV1 : Arv Z h1 a1 ka .byte (8 : Int32) (cpy vs 4 vs 0 4) (.int (0 : Int32)) := own_cpy (Sm.lit (x := (0 : Int32)) (n := 0) (by decide)) (Sm.lit (x := ((0 : Int32) + (4 : Int32))) (n := 4) (by decide)) (Sm.lit (x := ((8 : Int32) - (4 : Int32))) (n := 4) (by decide)) V1
  have K1 := K0.trans K1q (allS (Or.inl (List.mem_of_getElem? (i := 0) rfl)) all0)
  have O1 := O0.keep K1q (allS ge_a1 all0)
  have sg2 : SG p.tables e below (T1.setTop (mkF m 36 #[Rf a1, It (0 : Int32), It (8 : Int32), It (4 : Int32)] [])) (s₁.setTop (mkF m 0 #[Rf a1, It (0 : Int32), It (8 : Int32), It (4 : Int32)] [])) := by
    intro target kt
    show Steps _ _ _ (s₁.setTop (mkF m 0 #[Rf a1, It (0 : Int32), It (8 : Int32), It (4 : Int32)] [])) _
    refine XS.iloadN X0.here hx rfl (hb hby d45_0) rfl ?_
    refine XS.iloadN X0.here hx rfl (hb hby d45_1) rfl ?_
    refine XS.iloadN X0.here hx rfl (hb hby d45_2) rfl ?_
    refine XS.isub X0.here hx rfl (hb hby d45_3) rfl ?_
    refine XS.icmpYes X0.here hx rfl (pc0 := 4) (pc' := 24) rfl (hb hby d45_4) rfl (flt (by decide : ¬ ((4 : Int32) < ((8 : Int32) - (4 : Int32))))).2.1 (by decide) (by decide) ?_
    refine XS.aloadN X0.here hx rfl (hb hby d45_24) rfl rfl ?_
    refine XS.iloadN X0.here hx rfl (hb hby d45_25) rfl ?_
    refine XS.aloadN X0.here hx rfl (hb hby d45_26) rfl rfl ?_
    refine XS.iloadN X0.here hx rfl (hb hby d45_27) rfl ?_
    refine XS.iloadN X0.here hx rfl (hb hby d45_28) rfl ?_
    refine XS.iadd X0.here hx rfl (hb hby d45_29) rfl ?_
    refine XS.iloadN X0.here hx rfl (hb hby d45_30) rfl ?_
    refine XS.iloadN X0.here hx rfl (hb hby d45_31) rfl ?_
    refine XS.isub X0.here hx rfl (hb hby d45_32) rfl ?_
    refine st1 _ ?_
    exact kt
  obtain ⟨fs, hr, hrun, hended, hW, hsame⟩ := X1.leave (v := none) (fun _ => rfl)
  refine ⟨_, _, pre0 _ (sg2 _ (?_)), hrun, hended, _, _, rfl, ?_, ⟨_, rfl⟩, hW, hsame.mono (by decide) (by decide)⟩
  · show Steps _ _ _ (T1.setTop (mkF m 36 #[Rf a1, It (0 : Int32), It (8 : Int32), It (4 : Int32)] [])) _
    exact X1.returnOut hx Bd.returns (hb hby d45_36) hr
  · show Q45_2 Z a1 vs ka h0 n0 _ T1.heap _
    rw [e1]
    exact ⟨rfl, N1, K1, O1, VV1⟩
def Q45_3 (Z : State) (a1 : Addr) (vs : List Value) (ka : ClassId) (h0 : Heap) (n0 : Nat) (v : Option Value) (h : Heap) (L : List Loc) : Prop := v = none ∧ Fr n0 L ∧ Keep h0 h [a1] ∧ Old Z n0 h ∧ Arv Z h a1 ka .byte (12 : Int32) (cpy (cpy vs 4 vs 0 4) 8 (cpy vs 4 vs 0 4) 0 4) (.int (0 : Int32))
theorem rm45_3 (l : Launch) (Z : State) (a0 : Array Value) (hw : ∀ d ∈ tables_1, d.before a0 Z = true) (ws : List Jvm.Cond) (a1 : Addr) (vs : List Value) (ka : ClassId) (h0 : Heap) (n0 : Nat) (O0 : Old Z n0 h0) (h_v : vs.length = 16) (A_a1 : Arv Z h0 a1 ka .byte (12 : Int32) vs (.int (0 : Int32))) (ge_a1 : n0 ≤ a1) :
    MetFree l m_31 (head1 (Jvm.Cond.code m_31 jdk_42_method_146_code 4 none :: ws) (rk 1 0 0 40)) (fun a U => a = #[(.ref a1), (.int (0 : Int32)), (.int (12 : Int32)), (.int (4 : Int32))] ∧ Z.Warmed39 U.vm ∧ U.heap = h0) (fun _ _ _ _ _ => True) (fun _ U o U' => ∃ v L, o = .returned v ∧ Q45_3 Z a1 vs ka h0 n0 v U'.heap L ∧ FrameEnd U o U' L (rk 1 0 0 40).cells (rk 1 0 0 40).slots) := by
  refine MetFree.of_bodySF (plainFor_of_name pn_0) hisR ?_
  intro p e s m args below meth c s₁ Bd hml0 hP hK
  obtain ⟨rfl, hZ, hh⟩ := hP
  have hx := Bd.exec
  have hby := Bd.bytes
  have hml : c.maxLocals = 4 := hml0
  have hown : s.vm.findClass "java/lang/String" = some m.cls := findClass_of_methodNamed Bd.named
  have X0 : Stand p l e (rk 1 0 0 40) s m #[(.ref a1), (.int (0 : Int32)), (.int (12 : Int32)), (.int (4 : Int32))] below meth c s₁ [] 0 0 := Stand.of_body Bd
  have e0 : s₁.heap = h0 := by rw [← hh, Bd.state]; rfl
  have N0 := Fr.nil n0
  have pre0 := own_pre (tb := p.tables) (e := e) (bl := below) (s := s₁) (ef_45_2 m a1 (0 : Int32) (12 : Int32) (4 : Int32))
  have K0 := Keep.refl h0 [a1]
  obtain ⟨T1, h1, L1, X1, e1, N1, K1q, V1, st1⟩ := cpA X0 hx hZ hown (tw hw 131 rfl) (tw hw 134 rfl) (tw hw 132 rfl) (tw hw 133 rfl) e0 A_a1 A_a1 (Or.inl ⟨rfl, rfl⟩) (Sm.lit (x := (0 : Int32)) (n := 0) (by decide)).nn (Sm.lit (x := ((0 : Int32) + (4 : Int32))) (n := 4) (by decide)).nn (Sm.lit (x := (4 : Int32)) (n := 4) (by decide)).nn (own_le3 (Sm.lit (x := (0 : Int32)) (n := 0) (by decide)) (Sm.lit (x := (4 : Int32)) (n := 4) (by decide)) (Sm.lit (x := (12 : Int32)) (n := 12) (by decide)) (by decide)) (own_le3 (Sm.lit (x := ((0 : Int32) + (4 : Int32))) (n := 4) (by decide)) (Sm.lit (x := (4 : Int32)) (n := 4) (by decide)) (Sm.lit (x := (12 : Int32)) (n := 12) (by decide)) (by decide)) rfl (own_le2 (Sm.lit (x := ((0 : Int32) + (4 : Int32))) (n := 4) (by decide)) (Sm.lit (x := (4 : Int32)) (n := 4) (by decide)) (by rw [h_v]; decide)) N0 ge_a1 (g := (mkF m 14 #[Rf a1, It (0 : Int32), It (12 : Int32), It (4 : Int32)] [(.int (4 : Int32)), (.int ((0 : Int32) + (4 : Int32))), (.ref a1), (.int (0 : Int32)), (.ref a1)])) rfl (by rw [hml]; rfl) rfl (hb hby d45_14) (by decide) (W := 0) (w0 rfl) (by decide)
  have VV1 : Arv Z h1 a1 ka .byte (12 : Int32) (cpy vs 4 vs 0 4) (.int (0 : Int32)) := own_cpy (Sm.lit (x := (0 : Int32)) (n := 0) (by decide)) (Sm.lit (x := ((0 : Int32) + (4 : Int32))) (n := 4) (by decide)) (Sm.lit (x := (4 : Int32)) (n := 4) (by decide)) V1
  have K1 := K0.trans K1q (allS (Or.inl (List.mem_of_getElem? (i := 0) rfl)) all0)
  have O1 := O0.keep K1q (allS ge_a1 all0)
  obtain ⟨T2, h2, L2, X2, e2, N2, K2q, V2, st2⟩ := cpA X1 hx hZ hown (tw hw 131 rfl) (tw hw 134 rfl) (tw hw 132 rfl) (tw hw 133 rfl) e1 VV1 VV1 (Or.inl ⟨rfl, rfl⟩) (Sm.lit (x := (0 : Int32)) (n := 0) (by decide)).nn (Sm.lit (x := ((0 : Int32) + ((4 : Int32) <<< ((1 : Int32) &&& 31)))) (n := 8) (by decide)).nn (Sm.lit (x := ((12 : Int32) - ((4 : Int32) <<< ((1 : Int32) &&& 31)))) (n := 4) (by decide)).nn (own_le3 (Sm.lit (x := (0 : Int32)) (n := 0) (by decide)) (Sm.lit (x := ((12 : Int32) - ((4 : Int32) <<< ((1 : Int32) &&& 31)))) (n := 4) (by decide)) (Sm.lit (x := (12 : Int32)) (n := 12) (by decide)) (by decide)) (own_le3 (Sm.lit (x := ((0 : Int32) + ((4 : Int32) <<< ((1 : Int32) &&& 31)))) (n := 8) (by decide)) (Sm.lit (x := ((12 : Int32) - ((4 : Int32) <<< ((1 : Int32) &&& 31)))) (n := 4) (by decide)) (Sm.lit (x := (12 : Int32)) (n := 12) (by decide)) (by decide)) rfl (own_le2 (Sm.lit (x := ((0 : Int32) + ((4 : Int32) <<< ((1 : Int32) &&& 31)))) (n := 8) (by decide)) (Sm.lit (x := ((12 : Int32) - ((4 : Int32) <<< ((1 : Int32) &&& 31)))) (n := 4) (by decide)) (by rw [own_cpyl h_v (by decide)]; decide)) N1 ge_a1 (g := (mkF m 33 #[Rf a1, It (0 : Int32), It (12 : Int32), .val (.int ((4 : Int32) <<< ((1 : Int32) &&& 31)))] [(.int ((12 : Int32) - ((4 : Int32) <<< ((1 : Int32) &&& 31)))), (.int ((0 : Int32) + ((4 : Int32) <<< ((1 : Int32) &&& 31)))), (.ref a1), (.int (0 : Int32)), (.ref a1)])) rfl (by rw [hml]; rfl) rfl (hb hby d45_33) (by decide) (W := 0) (w0 rfl) (by decide)
  have VV2 : Arv Z h2 a1 ka .byte (12 : Int32) (cpy (cpy vs 4 vs 0 4) 8 (cpy vs 4 vs 0 4) 0 4) (.int (0 : Int32)) := own_cpy (Sm.lit (x := (0 : Int32)) (n := 0) (by decide)) (Sm.lit (x := ((0 : Int32) + ((4 : Int32) <<< ((1 : Int32) &&& 31)))) (n := 8) (by decide)) (Sm.lit (x := ((12 : Int32) - ((4 : Int32) <<< ((1 : Int32) &&& 31)))) (n := 4) (by decide)) V2
  have K2 := K1.trans K2q (allS (Or.inl (List.mem_of_getElem? (i := 0) rfl)) all0)
  have O2 := O1.keep K2q (allS ge_a1 all0)
  have sg3 : SG p.tables e below (T2.setTop (mkF m 36 #[Rf a1, It (0 : Int32), It (12 : Int32), .val (.int ((4 : Int32) <<< ((1 : Int32) &&& 31)))] [])) (s₁.setTop (mkF m 0 #[Rf a1, It (0 : Int32), It (12 : Int32), It (4 : Int32)] [])) := by
    intro target kt
    show Steps _ _ _ (s₁.setTop (mkF m 0 #[Rf a1, It (0 : Int32), It (12 : Int32), It (4 : Int32)] [])) _
    refine XS.iloadN X0.here hx rfl (hb hby d45_0) rfl ?_
    refine XS.iloadN X0.here hx rfl (hb hby d45_1) rfl ?_
    refine XS.iloadN X0.here hx rfl (hb hby d45_2) rfl ?_
    refine XS.isub X0.here hx rfl (hb hby d45_3) rfl ?_
    refine XS.icmpNo X0.here hx rfl (hb hby d45_4) rfl (tlt (by decide : (4 : Int32) < ((12 : Int32) - (4 : Int32)))).2.1 ?_
    refine XS.aloadN X0.here hx rfl (hb hby d45_7) rfl rfl ?_
    refine XS.iloadN X0.here hx rfl (hb hby d45_8) rfl ?_
    refine XS.aloadN X0.here hx rfl (hb hby d45_9) rfl rfl ?_
    refine XS.iloadN X0.here hx rfl (hb hby d45_10) rfl ?_
    refine XS.iloadN X0.here hx rfl (hb hby d45_11) rfl ?_
    refine XS.iadd X0.here hx rfl (hb hby d45_12) rfl ?_
    refine XS.iloadN X0.here hx rfl (hb hby d45_13) rfl ?_
    refine st1 _ ?_
    refine XS.iloadN X1.here hx rfl (hb hby d45_17) rfl ?_
    refine XS.iconst X1.here hx rfl (hb hby d45_18) ?_
    refine XS.ishl X1.here hx rfl (hb hby d45_19) rfl ?_
    refine XS.istoreN X1.here hx rfl (hb hby d45_20) rfl (l' := #[Rf a1, It (0 : Int32), It (12 : Int32), .val (.int ((4 : Int32) <<< ((1 : Int32) &&& 31)))]) rfl ?_
    refine XS.goto X1.here hx rfl (pc0 := 21) (pc' := 0) rfl (hb hby d45_21) (by decide) (by decide) ?_
    refine XS.iloadN X1.here hx rfl (hb hby d45_0) rfl ?_
    refine XS.iloadN X1.here hx rfl (hb hby d45_1) rfl ?_
    refine XS.iloadN X1.here hx rfl (hb hby d45_2) rfl ?_
    refine XS.isub X1.here hx rfl (hb hby d45_3) rfl ?_
    refine XS.icmpYes X1.here hx rfl (pc0 := 4) (pc' := 24) rfl (hb hby d45_4) rfl (flt (by decide : ¬ (((4 : Int32) <<< ((1 : Int32) &&& 31)) < ((12 : Int32) - ((4 : Int32) <<< ((1 : Int32) &&& 31)))))).2.1 (by decide) (by decide) ?_
    refine XS.aloadN X1.here hx rfl (hb hby d45_24) rfl rfl ?_
    refine XS.iloadN X1.here hx rfl (hb hby d45_25) rfl ?_
    refine XS.aloadN X1.here hx rfl (hb hby d45_26) rfl rfl ?_
    refine XS.iloadN X1.here hx rfl (hb hby d45_27) rfl ?_
    refine XS.iloadN X1.here hx rfl (hb hby d45_28) rfl ?_
    refine XS.iadd X1.here hx rfl (hb hby d45_29) rfl ?_
    refine XS.iloadN X1.here hx rfl (hb hby d45_30) rfl ?_
    show Steps _ _ _ (T1.setTop (mkF m 31 #[Rf a1, It (0 : Int32), It (12 : Int32), .val (.int ((4 : Int32) <<< ((1 : Int32) &&& 31)))] [(.int (12 : Int32)), (.int ((0 : Int32) + ((4 : Int32) <<< ((1 : Int32) &&& 31)))), (.ref a1), (.int (0 : Int32)), (.ref a1)])) _
    refine XS.iloadN X1.here hx rfl (hb hby d45_31) rfl ?_
    refine XS.isub X1.here hx rfl (hb hby d45_32) rfl ?_
    refine st2 _ ?_
    exact kt
  obtain ⟨fs, hr, hrun, hended, hW, hsame⟩ := X2.leave (v := none) (fun _ => rfl)
  refine ⟨_, _, pre0 _ (sg3 _ (?_)), hrun, hended, _, _, rfl, ?_, ⟨_, rfl⟩, hW, hsame.mono (by decide) (by decide)⟩
  · show Steps _ _ _ (T2.setTop (mkF m 36 #[Rf a1, It (0 : Int32), It (12 : Int32), .val (.int ((4 : Int32) <<< ((1 : Int32) &&& 31)))] [])) _
    exact X2.returnOut hx Bd.returns (hb hby d45_36) hr
  · show Q45_3 Z a1 vs ka h0 n0 _ T2.heap _
    rw [e2]
    exact ⟨rfl, N2, K2, O2, VV2⟩
def Q14_0 (Z : State) (a1 : Addr) (tv : Addr) (us : List Value) (kt : ClassId) (h0 : Heap) (n0 : Nat) (v : Option Value) (h : Heap) (L : List Loc) : Prop := ∃ rs : Addr, ∃ ro : Addr, ∃ ko : ClassId, v = some (.ref rs) ∧ Fr n0 L ∧ Keep h0 h [] ∧ Old Z n0 h ∧ Exa Z h rs "java/lang/String" ∧ Fld Z h rs "java/lang/String" "coder" "B" (.int (0 : Int32)) ∧ Fld Z h rs "java/lang/String" "value" "[B" (.ref ro) ∧ Arv Z h ro ko .byte (0 : Int32) [] (.int (0 : Int32))
theorem ef_14_0 (m : MethodId) (x0 : Addr) (x1 : Int32) : entryFrame m #[(.ref x0), (.int x1)] 5 = mkF m 0 #[.val (.ref x0), .val (.int x1), .unset, .unset, .unset] [] := by first | (simp [entryFrame, mkF, argsToLocals, Value.category]; done) | rfl
theorem rm14_0 (l : Launch) (Z : State) (a0 : Array Value) (hw : ∀ d ∈ tables_1, d.before a0 Z = true) (ws : List Jvm.Cond) (a1 : Addr) (tv : Addr) (us : List Value) (kt : ClassId) (h0 : Heap) (n0 : Nat) (O0 : Old Z n0 h0) (E_a1 : Exa Z h0 a1 "java/lang/String") (F_coder_a1 : Fld Z h0 a1 "java/lang/String" "coder" "B" (.int (0 : Int32))) (F_value_a1 : Fld Z h0 a1 "java/lang/String" "value" "[B" (.ref tv)) (A_tv : Arv Z h0 tv kt .byte (4 : Int32) us (.int (0 : Int32))) :
    MetFree l m_32 (head1 (Jvm.Cond.code m_32 jdk_42_method_145_code 5 (some (.object "java/lang/String")) :: ws) (rk 0 2 4 0)) (fun a U => a = #[(.ref a1), (.int (0 : Int32))] ∧ Z.Warmed39 U.vm ∧ U.heap = h0 ∧ CHv Z own_EL U.vm h0) (fun _ _ _ _ _ => True) (fun _ U o U' => ∃ v L, o = .returned v ∧ Q14_0 Z a1 tv us kt h0 n0 v U'.heap L ∧ CHr Z own_EL U.vm U.heap U'.vm U'.heap ∧ ReturnedEndW U o U' L (rk 0 2 4 0).cells (rk 0 2 4 0).slots) := by
  refine MetFree.of_bodySF (plainFor_of_name pn_0) hisR ?_
  intro p e s m args below meth c s₁ Bd hml0 hP hK
  obtain ⟨rfl, hZ, hh, hCH⟩ := hP
  have hx := Bd.exec
  have hby := Bd.bytes
  have hml : c.maxLocals = 5 := hml0
  have hown : s.vm.findClass "java/lang/String" = some m.cls := findClass_of_methodNamed Bd.named
  have X0 : Stand p l e (rk 0 2 4 0) (s.setVm s.vm) m #[(.ref a1), (.int (0 : Int32))] below meth c s₁ [] 0 0 := Stand.of_body Bd
  have e0 : s₁.heap = h0 := by rw [← hh, Bd.state]; rfl
  have N0 := Fr.nil n0
  have pre0 := own_pre (tb := p.tables) (e := e) (bl := below) (s := s₁) (ef_14_0 m a1 (0 : Int32))
  have Y0 : s.Since s.vm h0.size := (State.WarmedH.refl s).since h0.size
  have Yk0 : h0.size ≤ h0.size := Nat.le_refl _
  have CR0 : CHr Z own_EL s.vm h0 s.vm h0 := CHr.refl hCH
  have hEL := own_EW hw
  have hSA := own_SA hw
  have K0 := Keep.refl h0 []
  obtain ⟨T1, X1, e1, st1⟩ := getF X0 hx hZ hown (host := "") (Or.inl (tw hw 67 rfl)) Via.refl e0 F_value_a1 (g := (mkF m 40 #[Rf a1, It (0 : Int32), .unset, .unset, .unset] [(.ref a1)])) rfl rfl (hb hby d14_40)
  obtain ⟨cl2, Ar2, -, Sz2, Nn2, -, -⟩ := id A_tv
  obtain ⟨sa3, T3, h3, k3, sb3, kb3, X3, e3, E3, Y3, Yk3, hZ3, hown3, A3, Fc3, Fv3, V3, la3, lb3, C3, Lt3, SF3, st3⟩ := ldcCH X1 hx hZ hown (tw hw 87 rfl) hSA e1 Y0 Yk0 hEL (own_mem (by decide)) CR0.1 (vs := []) (z := (0 : Int32)) (by decide) (by decide) (by decide) (g := (mkF m 53 #[Rf a1, It (0 : Int32), It (4 : Int32), .unset, .unset] [])) rfl (hb hby d14_53) (n := 0) (by decide) (by decide) (by decide) (by decide)
  have O4 := O0.ext E3
  have K3 := K0.ext E3
  have CR5 := CR0.trans (C3)
  have sg6 : SG p.tables e below (T3.setTop (mkF m 55 #[Rf a1, It (0 : Int32), It (4 : Int32), .unset, .unset] [(.ref sa3)])) (s₁.setTop (mkF m 0 #[Rf a1, It (0 : Int32), .unset, .unset, .unset] [])) := by
    intro target kt
    show Steps _ _ _ (s₁.setTop (mkF m 0 #[Rf a1, It (0 : Int32), .unset, .unset, .unset] [])) _
    refine XS.iloadN X0.here hx rfl (hb hby d14_0) rfl ?_
    refine XS.ifYes X0.here hx rfl (pc0 := 1) (pc' := 32) rfl (hb hby d14_1) rfl ((if0 _ _).trans (flt (by decide : ¬ ((0 : Int32) < (0 : Int32)))).2.1) (by decide) (by decide) ?_
    refine XS.iloadN X0.here hx rfl (hb hby d14_32) rfl ?_
    refine XS.iconst X0.here hx rfl (hb hby d14_33) ?_
    refine XS.icmpYes X0.here hx rfl (pc0 := 34) (pc' := 39) rfl (hb hby d14_34) rfl (feq (by decide : ¬ ((0 : Int32) = (1 : Int32)))).2 (by decide) (by decide) ?_
    refine XS.aloadN X0.here hx rfl (hb hby d14_39) rfl rfl ?_
    refine st1 _ ?_
    refine X1.arraylength hx (own_rwh e1 Ar2.1) (State.isArrayOf_alike hZ.alike Ar2.2.1) (g := (mkF m 43 #[Rf a1, It (0 : Int32), .unset, .unset, .unset] [(.ref tv)])) rfl rfl (hb hby d14_43) _ ?_
    rw [len_of Sz2 Nn2]
    show Steps _ _ _ (T1.setTop (mkF m 44 #[Rf a1, It (0 : Int32), .unset, .unset, .unset] [(.int (4 : Int32))])) _
    refine XS.istoreN X1.here hx rfl (hb hby d14_44) rfl (l' := #[Rf a1, It (0 : Int32), It (4 : Int32), .unset, .unset]) rfl ?_
    refine XS.iloadN X1.here hx rfl (hb hby d14_45) rfl ?_
    refine XS.ifNo X1.here hx rfl (hb hby d14_46) rfl ((if0 _ _).trans (feq (by decide : ¬ ((4 : Int32) = (0 : Int32)))).1) ?_
    refine XS.iloadN X1.here hx rfl (hb hby d14_49) rfl ?_
    refine XS.ifNo X1.here hx rfl (hb hby d14_50) rfl ((if0 _ _).trans (teq (by decide : (0 : Int32) = (0 : Int32))).2) ?_
    refine st3 _ ?_
    exact kt
  obtain ⟨fs, hr, hrun, hended, hRW⟩ := X3.leaveW Y3 (show _ ≤ T3.heap.size by rw [e3]; exact Yk3) (v := some (.ref sa3)) (fun h => by rw [Bd.returns] at h; cases h)
  refine ⟨_, _, pre0 _ (sg6 _ (?_)), hrun, hended, _, _, rfl, ?_, (by rw [hh]; show CHr Z own_EL s.vm h0 T3.vm T3.heap; rw [e3]; exact CR5.trans (CHv.at X3 hZ3 hEL CR5.1)), hRW.1, hRW.2.1, hRW.2.2.1, hRW.2.2.2.mono (by decide) (by decide)⟩
  · show Steps _ _ _ (T3.setTop (mkF m 55 #[Rf a1, It (0 : Int32), It (4 : Int32), .unset, .unset] [(.ref sa3)])) _
    jvm_step X3.here [X3.here.top, hx, (hb hby d14_55), X3.method', Bd.returns, Value.isRef, FieldType.isReference]
    first | (intro acts; rw [hr _ acts rfl rfl rfl]) | rw [hr _ _ rfl rfl rfl]
    exact Steps.refl _
  · show Q14_0 Z a1 tv us kt h0 n0 _ T3.heap _
    rw [e3]
    exact ⟨sa3, sb3, kb3, rfl, N0, K3, O4, A3, Fc3, Fv3, V3⟩
def Q14_1 (Z : State) (a1 : Addr) (h0 : Heap) (n0 : Nat) (v : Option Value) (h : Heap) (L : List Loc) : Prop := v = some (.ref a1) ∧ Fr n0 L ∧ h = h0
theorem rm14_1 (l : Launch) (Z : State) (a0 : Array Value) (hw : ∀ d ∈ tables_1, d.before a0 Z = true) (ws : List Jvm.Cond) (a1 : Addr) (h0 : Heap) (n0 : Nat) (O0 : Old Z n0 h0) :
    MetFree l m_32 (head1 (Jvm.Cond.code m_32 jdk_42_method_145_code 5 (some (.object "java/lang/String")) :: ws) (rk 0 0 0 0)) (fun a U => a = #[(.ref a1), (.int (1 : Int32))] ∧ Z.Warmed39 U.vm ∧ U.heap = h0) (fun _ _ _ _ _ => True) (fun _ U o U' => ∃ v L, o = .returned v ∧ Q14_1 Z a1 h0 n0 v U'.heap L ∧ FrameEnd U o U' L (rk 0 0 0 0).cells (rk 0 0 0 0).slots) := by
  refine MetFree.of_bodySF (plainFor_of_name pn_0) hisR ?_
  intro p e s m args below meth c s₁ Bd hml0 hP hK
  obtain ⟨rfl, hZ, hh⟩ := hP
  have hx := Bd.exec
  have hby := Bd.bytes
  have hml : c.maxLocals = 5 := hml0
  have hown : s.vm.findClass "java/lang/String" = some m.cls := findClass_of_methodNamed Bd.named
  have X0 : Stand p l e (rk 0 0 0 0) s m #[(.ref a1), (.int (1 : Int32))] below meth c s₁ [] 0 0 := Stand.of_body Bd
  have e0 : s₁.heap = h0 := by rw [← hh, Bd.state]; rfl
  have N0 := Fr.nil n0
  have pre0 := own_pre (tb := p.tables) (e := e) (bl := below) (s := s₁) (ef_14_0 m a1 (1 : Int32))
  have sg1 : SG p.tables e below (s₁.setTop (mkF m 38 #[Rf a1, It (1 : Int32), .unset, .unset, .unset] [(.ref a1)])) (s₁.setTop (mkF m 0 #[Rf a1, It (1 : Int32), .unset, .unset, .unset] [])) := by
    intro target kt
    show Steps _ _ _ (s₁.setTop (mkF m 0 #[Rf a1, It (1 : Int32), .unset, .unset, .unset] [])) _
    refine XS.iloadN X0.here hx rfl (hb hby d14_0) rfl ?_
    refine XS.ifYes X0.here hx rfl (pc0 := 1) (pc' := 32) rfl (hb hby d14_1) rfl ((if0 _ _).trans (flt (by decide : ¬ ((1 : Int32) < (0 : Int32)))).2.1) (by decide) (by decide) ?_
    refine XS.iloadN X0.here hx rfl (hb hby d14_32) rfl ?_
    refine XS.iconst X0.here hx rfl (hb hby d14_33) ?_
    refine XS.icmpNo X0.here hx rfl (hb hby d14_34) rfl (teq (by decide : (1 : Int32) = (1 : Int32))).2 ?_
    refine XS.aloadN X0.here hx rfl (hb hby d14_37) rfl rfl ?_
    exact kt
  obtain ⟨fs, hr, hrun, hended, hW, hsame⟩ := X0.leave (v := some (.ref a1)) (fun h => by rw [Bd.returns] at h; cases h)
  refine ⟨_, _, pre0 _ (sg1 _ (?_)), hrun, hended, _, _, rfl, ?_, ⟨_, rfl⟩, hW, hsame.mono (by decide) (by decide)⟩
  · show Steps _ _ _ (s₁.setTop (mkF m 38 #[Rf a1, It (1 : Int32), .unset, .unset, .unset] [(.ref a1)])) _
    jvm_step X0.here [X0.here.top, hx, (hb hby d14_38), X0.method', Bd.returns, Value.isRef, FieldType.isReference]
    first | (intro acts; rw [hr _ acts rfl rfl rfl]) | rw [hr _ _ rfl rfl rfl]
    exact Steps.refl _
  · show Q14_1 Z a1 h0 n0 _ s₁.heap _
    rw [e0]
    exact ⟨rfl, N0, rfl⟩
def Q14_2 (Z : State) (a1 : Addr) (tv : Addr) (us : List Value) (kt : ClassId) (h0 : Heap) (n0 : Nat) (v : Option Value) (h : Heap) (L : List Loc) : Prop := ∃ rs : Addr, ∃ ro : Addr, ∃ ko : ClassId, v = some (.ref rs) ∧ Fr n0 L ∧ Keep h0 h [] ∧ Old Z n0 h ∧ Exa Z h rs "java/lang/String" ∧ n0 ≤ rs ∧ h0.size ≤ rs ∧ Fld Z h rs "java/lang/String" "coder" "B" (.int (0 : Int32)) ∧ Fld Z h rs "java/lang/String" "value" "[B" (.ref ro) ∧ Arv Z h ro ko .byte (8 : Int32) (cpy (cpy z16 0 us 0 4) 4 (cpy z16 0 us 0 4) 0 4) (.int (0 : Int32)) ∧ n0 ≤ ro ∧ h0.size ≤ ro
theorem rm14_2 (l : Launch) (Z : State) (a0 : Array Value) (hw : ∀ d ∈ tables_1, d.before a0 Z = true) (ws : List Jvm.Cond) (a1 : Addr) (tv : Addr) (us : List Value) (kt : ClassId) (h0 : Heap) (n0 : Nat) (O0 : Old Z n0 h0) (E_a1 : Exa Z h0 a1 "java/lang/String") (F_coder_a1 : Fld Z h0 a1 "java/lang/String" "coder" "B" (.int (0 : Int32))) (F_value_a1 : Fld Z h0 a1 "java/lang/String" "value" "[B" (.ref tv)) (A_tv : Arv Z h0 tv kt .byte (4 : Int32) us (.int (0 : Int32))) :
    MetFree l m_32 (head1 (Jvm.Cond.code m_32 jdk_42_method_145_code 5 (some (.object "java/lang/String")) :: ws) (rk 2 2 12 55)) (fun a U => a = #[(.ref a1), (.int (2 : Int32))] ∧ Z.Warmed39 U.vm ∧ U.heap = h0) (fun _ _ _ _ _ => True) (fun _ U o U' => ∃ v L, o = .returned v ∧ Q14_2 Z a1 tv us kt h0 n0 v U'.heap L ∧ FrameEnd U o U' L (rk 2 2 12 55).cells (rk 2 2 12 55).slots) := by
  refine MetFree.of_bodySF (plainFor_of_name pn_0) hisR ?_
  intro p e s m args below meth c s₁ Bd hml0 hP hK
  obtain ⟨rfl, hZ, hh⟩ := hP
  have hx := Bd.exec
  have hby := Bd.bytes
  have hml : c.maxLocals = 5 := hml0
  have hown : s.vm.findClass "java/lang/String" = some m.cls := findClass_of_methodNamed Bd.named
  have X0 : Stand p l e (rk 2 2 12 55) s m #[(.ref a1), (.int (2 : Int32))] below meth c s₁ [] 0 0 := Stand.of_body Bd
  have e0 : s₁.heap = h0 := by rw [← hh, Bd.state]; rfl
  have N0 := Fr.nil n0
  have pre0 := own_pre (tb := p.tables) (e := e) (bl := below) (s := s₁) (ef_14_0 m a1 (2 : Int32))
  have K0 := Keep.refl h0 []
  obtain ⟨T1, X1, e1, st1⟩ := getF X0 hx hZ hown (host := "") (Or.inl (tw hw 67 rfl)) Via.refl e0 F_value_a1 (g := (mkF m 40 #[Rf a1, It (2 : Int32), .unset, .unset, .unset] [(.ref a1)])) rfl rfl (hb hby d14_40)
  obtain ⟨cl2, Ar2, -, Sz2, Nn2, -, -⟩ := id A_tv
  obtain ⟨u3, hu3⟩ : ∃ z, z = ((4 : Int32) * (2 : Int32)) := ⟨_, rfl⟩
  have sg4 : SG p.tables e below (T1.setTop (mkF m 111 #[Rf a1, It (2 : Int32), It (4 : Int32), .unset, .unset] [(.int u3)])) (s₁.setTop (mkF m 0 #[Rf a1, It (2 : Int32), .unset, .unset, .unset] [])) := by
    intro target kt
    subst hu3
    show Steps _ _ _ (s₁.setTop (mkF m 0 #[Rf a1, It (2 : Int32), .unset, .unset, .unset] [])) _
    refine XS.iloadN X0.here hx rfl (hb hby d14_0) rfl ?_
    refine XS.ifYes X0.here hx rfl (pc0 := 1) (pc' := 32) rfl (hb hby d14_1) rfl ((if0 _ _).trans (flt (by decide : ¬ ((2 : Int32) < (0 : Int32)))).2.1) (by decide) (by decide) ?_
    refine XS.iloadN X0.here hx rfl (hb hby d14_32) rfl ?_
    refine XS.iconst X0.here hx rfl (hb hby d14_33) ?_
    refine XS.icmpYes X0.here hx rfl (pc0 := 34) (pc' := 39) rfl (hb hby d14_34) rfl (feq (by decide : ¬ ((2 : Int32) = (1 : Int32)))).2 (by decide) (by decide) ?_
    refine XS.aloadN X0.here hx rfl (hb hby d14_39) rfl rfl ?_
    refine st1 _ ?_
    refine X1.arraylength hx (own_rwh e1 Ar2.1) (State.isArrayOf_alike hZ.alike Ar2.2.1) (g := (mkF m 43 #[Rf a1, It (2 : Int32), .unset, .unset, .unset] [(.ref tv)])) rfl rfl (hb hby d14_43) _ ?_
    rw [len_of Sz2 Nn2]
    show Steps _ _ _ (T1.setTop (mkF m 44 #[Rf a1, It (2 : Int32), .unset, .unset, .unset] [(.int (4 : Int32))])) _
    refine XS.istoreN X1.here hx rfl (hb hby d14_44) rfl (l' := #[Rf a1, It (2 : Int32), It (4 : Int32), .unset, .unset]) rfl ?_
    refine XS.iloadN X1.here hx rfl (hb hby d14_45) rfl ?_
    refine XS.ifNo X1.here hx rfl (hb hby d14_46) rfl ((if0 _ _).trans (feq (by decide : ¬ ((4 : Int32) = (0 : Int32)))).1) ?_
    refine XS.iloadN X1.here hx rfl (hb hby d14_49) rfl ?_
    refine XS.ifYes X1.here hx rfl (pc0 := 50) (pc' := 56) rfl (hb hby d14_50) rfl ((if0 _ _).trans (feq (by decide : ¬ ((2 : Int32) = (0 : Int32)))).2) (by decide) (by decide) ?_
    refine X1.ldcwInt hx hown (mvT hZ (tw hw 228 rfl)) (g := (mkF m 56 #[Rf a1, It (2 : Int32), It (4 : Int32), .unset, .unset] [])) rfl (hb hby d14_56) _ ?_
    refine XS.iloadN X1.here hx rfl (hb hby d14_59) rfl ?_
    refine XS.idiv X1.here hx rfl (hb hby d14_60) rfl (by decide) ?_
    refine XS.iloadN X1.here hx rfl (hb hby d14_61) rfl ?_
    refine XS.icmpYes X1.here hx rfl (pc0 := 62) (pc' := 76) rfl (hb hby d14_62) rfl (flt (by decide : ¬ ((2147483647 : Int32) / (2 : Int32)) < (4 : Int32))).2.1 (by decide) (by decide) ?_
    refine XS.iloadN X1.here hx rfl (hb hby d14_76) rfl ?_
    refine XS.iconst X1.here hx rfl (hb hby d14_77) ?_
    refine XS.icmpYes X1.here hx rfl (pc0 := 78) (pc' := 108) rfl (hb hby d14_78) rfl (feq (by decide : ¬ ((4 : Int32) = (1 : Int32)))).2 (by decide) (by decide) ?_
    refine XS.iloadN X1.here hx rfl (hb hby d14_108) rfl ?_
    refine XS.iloadN X1.here hx rfl (hb hby d14_109) rfl ?_
    refine XS.imul X1.here hx rfl (hb hby d14_110) rfl ?_
    exact kt
  have hk_u3 : u3 = (8 : Int32) := by rw [hu3]; decide
  subst hk_u3
  obtain ⟨T5, h5, k5, X5, e5, E5, A5, st5⟩ := newP X1 hx hZ (tw hw 24 rfl) e1 (g := (mkF m 113 #[Rf a1, It (2 : Int32), It (4 : Int32), It (8 : Int32), .unset] [(.int (8 : Int32))])) rfl (hb hby d14_113) rfl (Sm.lit (x := (8 : Int32)) (n := 8) (by decide)).nn (cap := 8) (own_capn (Sm.lit (x := (8 : Int32)) (n := 8) (by decide)) (by decide)) (by decide) (by decide) (by decide)
  obtain ⟨b5, g5⟩ : ∃ z, z = h0.size := ⟨_, rfl⟩
  rw [← g5] at A5 st5
  have ge_b5 : n0 ≤ b5 := Nat.le_trans (own_osz O0) (Nat.le_of_eq g5.symm)
  have sz_b5 : h0.size ≤ b5 := Nat.le_trans K0.1 (Nat.le_of_eq g5.symm)
  have O6 := O0.ext E5
  have K5 := K0.ext E5
  have V_b5 : Arv Z h5 b5 k5 .byte (8 : Int32) z16 (.int (0 : Int32)) := (Arv.new A5 (Sm.lit (x := (8 : Int32)) (n := 8) (by decide)).nn).pad (pad_rep [] (.int (0 : Int32)) 16)
  obtain ⟨T7, X7, e7, st7⟩ := getF X5 hx hZ hown (host := "") (Or.inl (tw hw 67 rfl)) Via.refl e5 (F_value_a1.ext E5) (g := (mkF m 118 #[Rf a1, It (2 : Int32), It (4 : Int32), It (8 : Int32), Rf b5] [(.ref a1)])) rfl rfl (hb hby d14_118)
  obtain ⟨T8, h8, L8, X8, e8, N8, K8q, V8, st8⟩ := cpA X7 hx hZ hown (tw hw 131 rfl) (tw hw 134 rfl) (tw hw 132 rfl) (tw hw 133 rfl) e7 (A_tv.ext E5) V_b5 (Or.inl ⟨rfl, rfl⟩) (Sm.lit (x := (0 : Int32)) (n := 0) (by decide)).nn (Sm.lit (x := (0 : Int32)) (n := 0) (by decide)).nn (Sm.lit (x := (4 : Int32)) (n := 4) (by decide)).nn (own_le3 (Sm.lit (x := (0 : Int32)) (n := 0) (by decide)) (Sm.lit (x := (4 : Int32)) (n := 4) (by decide)) (Sm.lit (x := (4 : Int32)) (n := 4) (by decide)) (by decide)) (own_le3 (Sm.lit (x := (0 : Int32)) (n := 0) (by decide)) (Sm.lit (x := (4 : Int32)) (n := 4) (by decide)) (Sm.lit (x := (8 : Int32)) (n := 8) (by decide)) (by decide)) rfl (own_le2 (Sm.lit (x := (0 : Int32)) (n := 0) (by decide)) (Sm.lit (x := (4 : Int32)) (n := 4) (by decide)) (by decide)) N0 ge_b5 (g := (mkF m 126 #[Rf a1, It (2 : Int32), It (4 : Int32), It (8 : Int32), Rf b5] [(.int (4 : Int32)), (.int (0 : Int32)), (.ref b5), (.int (0 : Int32)), (.ref tv)])) rfl (by rw [hml]; rfl) rfl (hb hby d14_126) (by decide) (W := 0) (w0 rfl) (by decide)
  have VV8 : Arv Z h8 b5 k5 .byte (8 : Int32) (cpy z16 0 us 0 4) (.int (0 : Int32)) := own_cpy (Sm.lit (x := (0 : Int32)) (n := 0) (by decide)) (Sm.lit (x := (0 : Int32)) (n := 0) (by decide)) (Sm.lit (x := (4 : Int32)) (n := 4) (by decide)) V8
  have K8 := K5.trans K8q (allS (Or.inr sz_b5) all0)
  have O8 := O6.keep K8q (allS ge_b5 all0)
  obtain ⟨_, _, ⟨T9, L9, k9, n9⟩, -, X9, ⟨Lc9, hQ9, l9, y9, z9⟩, st9⟩ := Jvm.LawKit.callS X8 hx (y := m_31) hown (mvT hZ (tw hw 229 rfl)) (mvT hZ (tw hw 230 rfl)) (mvT hZ (tw hw 23 rfl)) (mvT hZ (tw hw 231 rfl)) (by decide) (backOf (W := 0) (rm45_2 l Z a0 hw [] b5 (cpy z16 0 us 0 4) k5 h8 n0 O8 (own_cpyl rfl (by decide)) VV8 ge_b5) hZ (tw hw 231 rfl) (tw hw 23 rfl) (by decide) (by decide)) (g := (mkF m 134 #[Rf a1, It (2 : Int32), It (4 : Int32), It (8 : Int32), Rf b5] [(.int (4 : Int32)), (.int (8 : Int32)), (.int (0 : Int32)), (.ref b5)])) rfl (by rw [hml]; rfl) (argsL := [(.ref b5), (.int (0 : Int32)), (.int (8 : Int32)), (.int (4 : Int32))]) (rest := []) (lenOf pd_18 rfl) rfl (w0 rfl) (hb hby d14_134) (fun _ _ => ⟨rfl, e8, (by decide : 1 + 0 ≤ _), (by decide : 8 + 0 ≤ _)⟩)
  dsimp only [Pt.U, Pt.locs, Pt.cells, Pt.slots] at X9 l9 y9 z9 st9 hQ9
  subst l9 y9 z9
  obtain ⟨rfl, N9q, K9q, O9, f9_0⟩ := hQ9
  have N9 := Fr.app N8 N9q
  have K9 := K8.trans K9q (allS (Or.inr sz_b5) all0)
  obtain ⟨T10, h10, X10, e10, E10, A10, D10, -, st10⟩ := newO X9 hx hZ hown (tw hw 232 rfl) (tw hw 44 rfl) (tw hw 23 rfl) rfl (g := (mkF m 137 #[Rf a1, It (2 : Int32), It (4 : Int32), It (8 : Int32), Rf b5] [])) rfl (hb hby d14_137) (by decide) (by decide)
  obtain ⟨b10, g10⟩ : ∃ z, z = T9.heap.size := ⟨_, rfl⟩
  rw [← g10] at A10 D10 st10
  have ge_b10 : n0 ≤ b10 := Nat.le_trans (own_osz O9) (Nat.le_of_eq g10.symm)
  have sz_b10 : h0.size ≤ b10 := Nat.le_trans K9.1 (Nat.le_of_eq g10.symm)
  have O11 := O9.ext E10
  have K10 := K9.ext E10
  have F_coder_b10 : Fld Z h10 b10 "java/lang/String" "coder" "B" (.int (0 : Int32)) := D10 (Or.inr (tw hw 66 rfl)) (ty := .byte) (by decide)
  have F_value_b10 : Fld Z h10 b10 "java/lang/String" "value" "[B" .null := D10 (Or.inr (tw hw 68 rfl)) (ty := (.array .byte)) (by decide)
  obtain ⟨T12, X12, e12, st12⟩ := getF X10 hx hZ hown (host := "") (Or.inl (tw hw 65 rfl)) Via.refl e10 ((((F_coder_a1.ext E5).keep K8q (ninS (Nat.ne_of_lt (Nat.lt_of_lt_of_le E_a1.lt (Nat.le_of_eq g5.symm))) nin0)).keep K9q (ninS (Nat.ne_of_lt (Nat.lt_of_lt_of_le E_a1.lt (Nat.le_of_eq g5.symm))) nin0)).ext E10) (g := (mkF m 144 #[Rf a1, It (2 : Int32), It (4 : Int32), It (8 : Int32), Rf b5] [(.ref a1), (.ref b5), (.ref b10), (.ref b10)])) rfl rfl (hb hby d14_144)
  obtain ⟨_, _, ⟨T13, L13, k13, n13⟩, -, X13, ⟨Lc13, hQ13, l13, y13, z13⟩, st13⟩ := X12.specialBack hx (y := m_30) rfl hown (mvT hZ (tw hw 233 rfl)) (mvT hZ (tw hw 234 rfl)) (mvT hZ (tw hw 235 rfl)) (by decide) (backOf (W := 1) (rm46 l Z a0 hw [] b10 b5 h10 n0 O11 A10 F_value_b10 F_coder_b10 ge_b10) hZ (tw hw 235 rfl) (tw hw 23 rfl) (by decide) (by decide)) (g := (mkF m 147 #[Rf a1, It (2 : Int32), It (4 : Int32), It (8 : Int32), Rf b5] [(.int (0 : Int32)), (.ref b5), (.ref b10), (.ref b10)])) rfl (by rw [hml]; rfl) (Steps.refl _) (a := b10) (argsL := [(.ref b5), (.int (0 : Int32))]) (rest := [(.ref b10)]) (lenOf pd_19 rfl) rfl (w0 rfl) (hb hby d14_147) (fun _ _ => ⟨rfl, e12, (by decide : 2 + 0 ≤ _), (by decide : 12 + 0 ≤ _)⟩)
  dsimp only [Pt.U, Pt.locs, Pt.cells, Pt.slots] at X13 l13 y13 z13 st13 hQ13
  subst l13 y13 z13
  obtain ⟨rfl, N13q, K13q, O13, f13_0, f13_1⟩ := hQ13
  have N13 := Fr.app N9 N13q
  have K13 := K10.trans K13q (allS (Or.inr sz_b10) all0)
  have sg14 : SG p.tables e below (T13.setTop (mkF m 150 #[Rf a1, It (2 : Int32), It (4 : Int32), It (8 : Int32), Rf b5] [(.ref b10)])) (T1.setTop (mkF m 111 #[Rf a1, It (2 : Int32), It (4 : Int32), .unset, .unset] [(.int (8 : Int32))])) := by
    intro target kt
    show Steps _ _ _ (T1.setTop (mkF m 111 #[Rf a1, It (2 : Int32), It (4 : Int32), .unset, .unset] [(.int (8 : Int32))])) _
    refine XS.istoreN X1.here hx rfl (hb hby d14_111) rfl (l' := #[Rf a1, It (2 : Int32), It (4 : Int32), It (8 : Int32), .unset]) rfl ?_
    refine XS.iloadN X1.here hx rfl (hb hby d14_112) rfl ?_
    refine st5 _ ?_
    refine XS.astore X5.here hx rfl (hb hby d14_115) rfl rfl (l' := #[Rf a1, It (2 : Int32), It (4 : Int32), It (8 : Int32), Rf b5]) rfl ?_
    refine XS.aloadN X5.here hx rfl (hb hby d14_117) rfl rfl ?_
    refine st7 _ ?_
    refine XS.iconst X7.here hx rfl (hb hby d14_121) ?_
    refine XS.aload X7.here hx rfl (hb hby d14_122) rfl rfl ?_
    refine XS.iconst X7.here hx rfl (hb hby d14_124) ?_
    refine XS.iloadN X7.here hx rfl (hb hby d14_125) rfl ?_
    refine st8 _ ?_
    refine XS.aload X8.here hx rfl (hb hby d14_129) rfl rfl ?_
    refine XS.iconst X8.here hx rfl (hb hby d14_131) ?_
    refine XS.iloadN X8.here hx rfl (hb hby d14_132) rfl ?_
    refine XS.iloadN X8.here hx rfl (hb hby d14_133) rfl ?_
    refine st9 _ ?_
    refine st10 _ ?_
    refine XS.dup X10.here hx rfl (hb hby d14_140) rfl rfl ?_
    refine XS.aload X10.here hx rfl (hb hby d14_141) rfl rfl ?_
    refine XS.aloadN X10.here hx rfl (hb hby d14_143) rfl rfl ?_
    refine st12 _ ?_
    refine st13.trans ?_
    exact kt
  obtain ⟨fs, hr, hrun, hended, hW, hsame⟩ := X13.leave (v := some (.ref b10)) (fun h => by rw [Bd.returns] at h; cases h)
  refine ⟨_, _, pre0 _ (sg4 _ (sg14 _ (?_))), hrun, hended, _, _, rfl, ?_, ⟨_, rfl⟩, hW, hsame.mono (by decide) (by decide)⟩
  · show Steps _ _ _ (T13.setTop (mkF m 150 #[Rf a1, It (2 : Int32), It (4 : Int32), It (8 : Int32), Rf b5] [(.ref b10)])) _
    jvm_step X13.here [X13.here.top, hx, (hb hby d14_150), X13.method', Bd.returns, Value.isRef, FieldType.isReference]
    first | (intro acts; rw [hr _ acts rfl rfl rfl]) | rw [hr _ _ rfl rfl rfl]
    exact Steps.refl _
  · show Q14_2 Z a1 tv us kt h0 n0 _ T13.heap _
    exact ⟨b10, b5, k5, rfl, N13, K13, O13, (A10.keep K13q), ge_b10, sz_b10, f13_0, f13_1, ((f9_0.ext E10).keep K13q (ninS (Nat.ne_of_lt (Nat.lt_of_lt_of_le f9_0.lt (Nat.le_of_eq g10.symm))) nin0)), ge_b5, sz_b5⟩
def Q14_3 (Z : State) (a1 : Addr) (tv : Addr) (us : List Value) (kt : ClassId) (h0 : Heap) (n0 : Nat) (v : Option Value) (h : Heap) (L : List Loc) : Prop := ∃ rs : Addr, ∃ ro : Addr, ∃ ko : ClassId, v = some (.ref rs) ∧ Fr n0 L ∧ Keep h0 h [] ∧ Old Z n0 h ∧ Exa Z h rs "java/lang/String" ∧ n0 ≤ rs ∧ h0.size ≤ rs ∧ Fld Z h rs "java/lang/String" "coder" "B" (.int (0 : Int32)) ∧ Fld Z h rs "java/lang/String" "value" "[B" (.ref ro) ∧ Arv Z h ro ko .byte (12 : Int32) (cpy (cpy (cpy z16 0 us 0 4) 4 (cpy z16 0 us 0 4) 0 4) 8 (cpy (cpy z16 0 us 0 4) 4 (cpy z16 0 us 0 4) 0 4) 0 4) (.int (0 : Int32)) ∧ n0 ≤ ro ∧ h0.size ≤ ro
theorem rm14_3 (l : Launch) (Z : State) (a0 : Array Value) (hw : ∀ d ∈ tables_1, d.before a0 Z = true) (ws : List Jvm.Cond) (a1 : Addr) (tv : Addr) (us : List Value) (kt : ClassId) (h0 : Heap) (n0 : Nat) (O0 : Old Z n0 h0) (E_a1 : Exa Z h0 a1 "java/lang/String") (F_coder_a1 : Fld Z h0 a1 "java/lang/String" "coder" "B" (.int (0 : Int32))) (F_value_a1 : Fld Z h0 a1 "java/lang/String" "value" "[B" (.ref tv)) (A_tv : Arv Z h0 tv kt .byte (4 : Int32) us (.int (0 : Int32))) :
    MetFree l m_32 (head1 (Jvm.Cond.code m_32 jdk_42_method_145_code 5 (some (.object "java/lang/String")) :: ws) (rk 2 2 16 55)) (fun a U => a = #[(.ref a1), (.int (3 : Int32))] ∧ Z.Warmed39 U.vm ∧ U.heap = h0) (fun _ _ _ _ _ => True) (fun _ U o U' => ∃ v L, o = .returned v ∧ Q14_3 Z a1 tv us kt h0 n0 v U'.heap L ∧ FrameEnd U o U' L (rk 2 2 16 55).cells (rk 2 2 16 55).slots) := by
  refine MetFree.of_bodySF (plainFor_of_name pn_0) hisR ?_
  intro p e s m args below meth c s₁ Bd hml0 hP hK
  obtain ⟨rfl, hZ, hh⟩ := hP
  have hx := Bd.exec
  have hby := Bd.bytes
  have hml : c.maxLocals = 5 := hml0
  have hown : s.vm.findClass "java/lang/String" = some m.cls := findClass_of_methodNamed Bd.named
  have X0 : Stand p l e (rk 2 2 16 55) s m #[(.ref a1), (.int (3 : Int32))] below meth c s₁ [] 0 0 := Stand.of_body Bd
  have e0 : s₁.heap = h0 := by rw [← hh, Bd.state]; rfl
  have N0 := Fr.nil n0
  have pre0 := own_pre (tb := p.tables) (e := e) (bl := below) (s := s₁) (ef_14_0 m a1 (3 : Int32))
  have K0 := Keep.refl h0 []
  obtain ⟨T1, X1, e1, st1⟩ := getF X0 hx hZ hown (host := "") (Or.inl (tw hw 67 rfl)) Via.refl e0 F_value_a1 (g := (mkF m 40 #[Rf a1, It (3 : Int32), .unset, .unset, .unset] [(.ref a1)])) rfl rfl (hb hby d14_40)
  obtain ⟨cl2, Ar2, -, Sz2, Nn2, -, -⟩ := id A_tv
  obtain ⟨u3, hu3⟩ : ∃ z, z = ((4 : Int32) * (3 : Int32)) := ⟨_, rfl⟩
  have sg4 : SG p.tables e below (T1.setTop (mkF m 111 #[Rf a1, It (3 : Int32), It (4 : Int32), .unset, .unset] [(.int u3)])) (s₁.setTop (mkF m 0 #[Rf a1, It (3 : Int32), .unset, .unset, .unset] [])) := by
    intro target kt
    subst hu3
    show Steps _ _ _ (s₁.setTop (mkF m 0 #[Rf a1, It (3 : Int32), .unset, .unset, .unset] [])) _
    refine XS.iloadN X0.here hx rfl (hb hby d14_0) rfl ?_
    refine XS.ifYes X0.here hx rfl (pc0 := 1) (pc' := 32) rfl (hb hby d14_1) rfl ((if0 _ _).trans (flt (by decide : ¬ ((3 : Int32) < (0 : Int32)))).2.1) (by decide) (by decide) ?_
    refine XS.iloadN X0.here hx rfl (hb hby d14_32) rfl ?_
    refine XS.iconst X0.here hx rfl (hb hby d14_33) ?_
    refine XS.icmpYes X0.here hx rfl (pc0 := 34) (pc' := 39) rfl (hb hby d14_34) rfl (feq (by decide : ¬ ((3 : Int32) = (1 : Int32)))).2 (by decide) (by decide) ?_
    refine XS.aloadN X0.here hx rfl (hb hby d14_39) rfl rfl ?_
    refine st1 _ ?_
    refine X1.arraylength hx (own_rwh e1 Ar2.1) (State.isArrayOf_alike hZ.alike Ar2.2.1) (g := (mkF m 43 #[Rf a1, It (3 : Int32), .unset, .unset, .unset] [(.ref tv)])) rfl rfl (hb hby d14_43) _ ?_
    rw [len_of Sz2 Nn2]
    show Steps _ _ _ (T1.setTop (mkF m 44 #[Rf a1, It (3 : Int32), .unset, .unset, .unset] [(.int (4 : Int32))])) _
    refine XS.istoreN X1.here hx rfl (hb hby d14_44) rfl (l' := #[Rf a1, It (3 : Int32), It (4 : Int32), .unset, .unset]) rfl ?_
    refine XS.iloadN X1.here hx rfl (hb hby d14_45) rfl ?_
    refine XS.ifNo X1.here hx rfl (hb hby d14_46) rfl ((if0 _ _).trans (feq (by decide : ¬ ((4 : Int32) = (0 : Int32)))).1) ?_
    refine XS.iloadN X1.here hx rfl (hb hby d14_49) rfl ?_
    refine XS.ifYes X1.here hx rfl (pc0 := 50) (pc' := 56) rfl (hb hby d14_50) rfl ((if0 _ _).trans (feq (by decide : ¬ ((3 : Int32) = (0 : Int32)))).2) (by decide) (by decide) ?_
    refine X1.ldcwInt hx hown (mvT hZ (tw hw 228 rfl)) (g := (mkF m 56 #[Rf a1, It (3 : Int32), It (4 : Int32), .unset, .unset] [])) rfl (hb hby d14_56) _ ?_
    refine XS.iloadN X1.here hx rfl (hb hby d14_59) rfl ?_
    refine XS.idiv X1.here hx rfl (hb hby d14_60) rfl (by decide) ?_
    refine XS.iloadN X1.here hx rfl (hb hby d14_61) rfl ?_
    refine XS.icmpYes X1.here hx rfl (pc0 := 62) (pc' := 76) rfl (hb hby d14_62) rfl (flt (by decide : ¬ ((2147483647 : Int32) / (3 : Int32)) < (4 : Int32))).2.1 (by decide) (by decide) ?_
    refine XS.iloadN X1.here hx rfl (hb hby d14_76) rfl ?_
    refine XS.iconst X1.here hx rfl (hb hby d14_77) ?_
    refine XS.icmpYes X1.here hx rfl (pc0 := 78) (pc' := 108) rfl (hb hby d14_78) rfl (feq (by decide : ¬ ((4 : Int32) = (1 : Int32)))).2 (by decide) (by decide) ?_
    refine XS.iloadN X1.here hx rfl (hb hby d14_108) rfl ?_
    refine XS.iloadN X1.here hx rfl (hb hby d14_109) rfl ?_
    refine XS.imul X1.here hx rfl (hb hby d14_110) rfl ?_
    exact kt
  have hk_u3 : u3 = (12 : Int32) := by rw [hu3]; decide
  subst hk_u3
  obtain ⟨T5, h5, k5, X5, e5, E5, A5, st5⟩ := newP X1 hx hZ (tw hw 24 rfl) e1 (g := (mkF m 113 #[Rf a1, It (3 : Int32), It (4 : Int32), It (12 : Int32), .unset] [(.int (12 : Int32))])) rfl (hb hby d14_113) rfl (Sm.lit (x := (12 : Int32)) (n := 12) (by decide)).nn (cap := 12) (own_capn (Sm.lit (x := (12 : Int32)) (n := 12) (by decide)) (by decide)) (by decide) (by decide) (by decide)
  obtain ⟨b5, g5⟩ : ∃ z, z = h0.size := ⟨_, rfl⟩
  rw [← g5] at A5 st5
  have ge_b5 : n0 ≤ b5 := Nat.le_trans (own_osz O0) (Nat.le_of_eq g5.symm)
  have sz_b5 : h0.size ≤ b5 := Nat.le_trans K0.1 (Nat.le_of_eq g5.symm)
  have O6 := O0.ext E5
  have K5 := K0.ext E5
  have V_b5 : Arv Z h5 b5 k5 .byte (12 : Int32) z16 (.int (0 : Int32)) := (Arv.new A5 (Sm.lit (x := (12 : Int32)) (n := 12) (by decide)).nn).pad (pad_rep [] (.int (0 : Int32)) 16)
  obtain ⟨T7, X7, e7, st7⟩ := getF X5 hx hZ hown (host := "") (Or.inl (tw hw 67 rfl)) Via.refl e5 (F_value_a1.ext E5) (g := (mkF m 118 #[Rf a1, It (3 : Int32), It (4 : Int32), It (12 : Int32), Rf b5] [(.ref a1)])) rfl rfl (hb hby d14_118)
  obtain ⟨T8, h8, L8, X8, e8, N8, K8q, V8, st8⟩ := cpA X7 hx hZ hown (tw hw 131 rfl) (tw hw 134 rfl) (tw hw 132 rfl) (tw hw 133 rfl) e7 (A_tv.ext E5) V_b5 (Or.inl ⟨rfl, rfl⟩) (Sm.lit (x := (0 : Int32)) (n := 0) (by decide)).nn (Sm.lit (x := (0 : Int32)) (n := 0) (by decide)).nn (Sm.lit (x := (4 : Int32)) (n := 4) (by decide)).nn (own_le3 (Sm.lit (x := (0 : Int32)) (n := 0) (by decide)) (Sm.lit (x := (4 : Int32)) (n := 4) (by decide)) (Sm.lit (x := (4 : Int32)) (n := 4) (by decide)) (by decide)) (own_le3 (Sm.lit (x := (0 : Int32)) (n := 0) (by decide)) (Sm.lit (x := (4 : Int32)) (n := 4) (by decide)) (Sm.lit (x := (12 : Int32)) (n := 12) (by decide)) (by decide)) rfl (own_le2 (Sm.lit (x := (0 : Int32)) (n := 0) (by decide)) (Sm.lit (x := (4 : Int32)) (n := 4) (by decide)) (by decide)) N0 ge_b5 (g := (mkF m 126 #[Rf a1, It (3 : Int32), It (4 : Int32), It (12 : Int32), Rf b5] [(.int (4 : Int32)), (.int (0 : Int32)), (.ref b5), (.int (0 : Int32)), (.ref tv)])) rfl (by rw [hml]; rfl) rfl (hb hby d14_126) (by decide) (W := 0) (w0 rfl) (by decide)
  have VV8 : Arv Z h8 b5 k5 .byte (12 : Int32) (cpy z16 0 us 0 4) (.int (0 : Int32)) := own_cpy (Sm.lit (x := (0 : Int32)) (n := 0) (by decide)) (Sm.lit (x := (0 : Int32)) (n := 0) (by decide)) (Sm.lit (x := (4 : Int32)) (n := 4) (by decide)) V8
  have K8 := K5.trans K8q (allS (Or.inr sz_b5) all0)
  have O8 := O6.keep K8q (allS ge_b5 all0)
  obtain ⟨_, _, ⟨T9, L9, k9, n9⟩, -, X9, ⟨Lc9, hQ9, l9, y9, z9⟩, st9⟩ := Jvm.LawKit.callS X8 hx (y := m_31) hown (mvT hZ (tw hw 229 rfl)) (mvT hZ (tw hw 230 rfl)) (mvT hZ (tw hw 23 rfl)) (mvT hZ (tw hw 231 rfl)) (by decide) (backOf (W := 0) (rm45_3 l Z a0 hw [] b5 (cpy z16 0 us 0 4) k5 h8 n0 O8 (own_cpyl rfl (by decide)) VV8 ge_b5) hZ (tw hw 231 rfl) (tw hw 23 rfl) (by decide) (by decide)) (g := (mkF m 134 #[Rf a1, It (3 : Int32), It (4 : Int32), It (12 : Int32), Rf b5] [(.int (4 : Int32)), (.int (12 : Int32)), (.int (0 : Int32)), (.ref b5)])) rfl (by rw [hml]; rfl) (argsL := [(.ref b5), (.int (0 : Int32)), (.int (12 : Int32)), (.int (4 : Int32))]) (rest := []) (lenOf pd_18 rfl) rfl (w0 rfl) (hb hby d14_134) (fun _ _ => ⟨rfl, e8, (by decide : 1 + 0 ≤ _), (by decide : 12 + 0 ≤ _)⟩)
  dsimp only [Pt.U, Pt.locs, Pt.cells, Pt.slots] at X9 l9 y9 z9 st9 hQ9
  subst l9 y9 z9
  obtain ⟨rfl, N9q, K9q, O9, f9_0⟩ := hQ9
  have N9 := Fr.app N8 N9q
  have K9 := K8.trans K9q (allS (Or.inr sz_b5) all0)
  obtain ⟨T10, h10, X10, e10, E10, A10, D10, -, st10⟩ := newO X9 hx hZ hown (tw hw 232 rfl) (tw hw 44 rfl) (tw hw 23 rfl) rfl (g := (mkF m 137 #[Rf a1, It (3 : Int32), It (4 : Int32), It (12 : Int32), Rf b5] [])) rfl (hb hby d14_137) (by decide) (by decide)
  obtain ⟨b10, g10⟩ : ∃ z, z = T9.heap.size := ⟨_, rfl⟩
  rw [← g10] at A10 D10 st10
  have ge_b10 : n0 ≤ b10 := Nat.le_trans (own_osz O9) (Nat.le_of_eq g10.symm)
  have sz_b10 : h0.size ≤ b10 := Nat.le_trans K9.1 (Nat.le_of_eq g10.symm)
  have O11 := O9.ext E10
  have K10 := K9.ext E10
  have F_coder_b10 : Fld Z h10 b10 "java/lang/String" "coder" "B" (.int (0 : Int32)) := D10 (Or.inr (tw hw 66 rfl)) (ty := .byte) (by decide)
  have F_value_b10 : Fld Z h10 b10 "java/lang/String" "value" "[B" .null := D10 (Or.inr (tw hw 68 rfl)) (ty := (.array .byte)) (by decide)
  obtain ⟨T12, X12, e12, st12⟩ := getF X10 hx hZ hown (host := "") (Or.inl (tw hw 65 rfl)) Via.refl e10 ((((F_coder_a1.ext E5).keep K8q (ninS (Nat.ne_of_lt (Nat.lt_of_lt_of_le E_a1.lt (Nat.le_of_eq g5.symm))) nin0)).keep K9q (ninS (Nat.ne_of_lt (Nat.lt_of_lt_of_le E_a1.lt (Nat.le_of_eq g5.symm))) nin0)).ext E10) (g := (mkF m 144 #[Rf a1, It (3 : Int32), It (4 : Int32), It (12 : Int32), Rf b5] [(.ref a1), (.ref b5), (.ref b10), (.ref b10)])) rfl rfl (hb hby d14_144)
  obtain ⟨_, _, ⟨T13, L13, k13, n13⟩, -, X13, ⟨Lc13, hQ13, l13, y13, z13⟩, st13⟩ := X12.specialBack hx (y := m_30) rfl hown (mvT hZ (tw hw 233 rfl)) (mvT hZ (tw hw 234 rfl)) (mvT hZ (tw hw 235 rfl)) (by decide) (backOf (W := 1) (rm46 l Z a0 hw [] b10 b5 h10 n0 O11 A10 F_value_b10 F_coder_b10 ge_b10) hZ (tw hw 235 rfl) (tw hw 23 rfl) (by decide) (by decide)) (g := (mkF m 147 #[Rf a1, It (3 : Int32), It (4 : Int32), It (12 : Int32), Rf b5] [(.int (0 : Int32)), (.ref b5), (.ref b10), (.ref b10)])) rfl (by rw [hml]; rfl) (Steps.refl _) (a := b10) (argsL := [(.ref b5), (.int (0 : Int32))]) (rest := [(.ref b10)]) (lenOf pd_19 rfl) rfl (w0 rfl) (hb hby d14_147) (fun _ _ => ⟨rfl, e12, (by decide : 2 + 0 ≤ _), (by decide : 16 + 0 ≤ _)⟩)
  dsimp only [Pt.U, Pt.locs, Pt.cells, Pt.slots] at X13 l13 y13 z13 st13 hQ13
  subst l13 y13 z13
  obtain ⟨rfl, N13q, K13q, O13, f13_0, f13_1⟩ := hQ13
  have N13 := Fr.app N9 N13q
  have K13 := K10.trans K13q (allS (Or.inr sz_b10) all0)
  have sg14 : SG p.tables e below (T13.setTop (mkF m 150 #[Rf a1, It (3 : Int32), It (4 : Int32), It (12 : Int32), Rf b5] [(.ref b10)])) (T1.setTop (mkF m 111 #[Rf a1, It (3 : Int32), It (4 : Int32), .unset, .unset] [(.int (12 : Int32))])) := by
    intro target kt
    show Steps _ _ _ (T1.setTop (mkF m 111 #[Rf a1, It (3 : Int32), It (4 : Int32), .unset, .unset] [(.int (12 : Int32))])) _
    refine XS.istoreN X1.here hx rfl (hb hby d14_111) rfl (l' := #[Rf a1, It (3 : Int32), It (4 : Int32), It (12 : Int32), .unset]) rfl ?_
    refine XS.iloadN X1.here hx rfl (hb hby d14_112) rfl ?_
    refine st5 _ ?_
    refine XS.astore X5.here hx rfl (hb hby d14_115) rfl rfl (l' := #[Rf a1, It (3 : Int32), It (4 : Int32), It (12 : Int32), Rf b5]) rfl ?_
    refine XS.aloadN X5.here hx rfl (hb hby d14_117) rfl rfl ?_
    refine st7 _ ?_
    refine XS.iconst X7.here hx rfl (hb hby d14_121) ?_
    refine XS.aload X7.here hx rfl (hb hby d14_122) rfl rfl ?_
    refine XS.iconst X7.here hx rfl (hb hby d14_124) ?_
    refine XS.iloadN X7.here hx rfl (hb hby d14_125) rfl ?_
    refine st8 _ ?_
    refine XS.aload X8.here hx rfl (hb hby d14_129) rfl rfl ?_
    refine XS.iconst X8.here hx rfl (hb hby d14_131) ?_
    refine XS.iloadN X8.here hx rfl (hb hby d14_132) rfl ?_
    refine XS.iloadN X8.here hx rfl (hb hby d14_133) rfl ?_
    refine st9 _ ?_
    refine st10 _ ?_
    refine XS.dup X10.here hx rfl (hb hby d14_140) rfl rfl ?_
    refine XS.aload X10.here hx rfl (hb hby d14_141) rfl rfl ?_
    refine XS.aloadN X10.here hx rfl (hb hby d14_143) rfl rfl ?_
    refine st12 _ ?_
    refine st13.trans ?_
    exact kt
  obtain ⟨fs, hr, hrun, hended, hW, hsame⟩ := X13.leave (v := some (.ref b10)) (fun h => by rw [Bd.returns] at h; cases h)
  refine ⟨_, _, pre0 _ (sg4 _ (sg14 _ (?_))), hrun, hended, _, _, rfl, ?_, ⟨_, rfl⟩, hW, hsame.mono (by decide) (by decide)⟩
  · show Steps _ _ _ (T13.setTop (mkF m 150 #[Rf a1, It (3 : Int32), It (4 : Int32), It (12 : Int32), Rf b5] [(.ref b10)])) _
    jvm_step X13.here [X13.here.top, hx, (hb hby d14_150), X13.method', Bd.returns, Value.isRef, FieldType.isReference]
    first | (intro acts; rw [hr _ acts rfl rfl rfl]) | rw [hr _ _ rfl rfl rfl]
    exact Steps.refl _
  · show Q14_3 Z a1 tv us kt h0 n0 _ T13.heap _
    exact ⟨b10, b5, k5, rfl, N13, K13, O13, (A10.keep K13q), ge_b10, sz_b10, f13_0, f13_1, ((f9_0.ext E10).keep K13q (ninS (Nat.ne_of_lt (Nat.lt_of_lt_of_le f9_0.lt (Nat.le_of_eq g10.symm))) nin0)), ge_b5, sz_b5⟩
def Q12_02 (Z : State) (a1 : Addr) (a2 : Addr) (sb : Addr) (arr : Addr) (sv : Addr) (us : List Value) (zC : Int32) (ka : ClassId) (ks : ClassId) (h0 : Heap) (n0 : Nat) (v : Option Value) (h : Heap) (L : List Loc) : Prop := v = some (.ref a1) ∧ Fr n0 L ∧ Keep h0 h [sb, arr] ∧ Old Z n0 h ∧ Fld Z h sb "java/lang/AbstractStringBuilder" "value" "[B" (.ref arr) ∧ Fld Z h sb "java/lang/AbstractStringBuilder" "coder" "B" (.int (0 : Int32)) ∧ Fld Z h sb "java/lang/AbstractStringBuilder" "count" "I" (.int (3 : Int32)) ∧ Arv Z h arr ka .byte (16 : Int32) ((cpy (cpy z16 0 ([] : List Value) 0 0) 0 us 0 2).set 2 (.int ((10 : Int32).toInt8.toInt32.toInt8.toInt32))) (.int (0 : Int32))
theorem rm12_02 (l : Launch) (Z : State) (a0 : Array Value) (hw : ∀ d ∈ tables_1, d.before a0 Z = true) (ws : List Jvm.Cond) (a1 : Addr) (a2 : Addr) (sb : Addr) (arr : Addr) (sv : Addr) (us : List Value) (zC : Int32) (ka : ClassId) (ks : ClassId) (h0 : Heap) (n0 : Nat) (O0 : Old Z n0 h0) (sC : TS_0 Z zC) (E_a1 : Exa Z h0 a1 "com/example/tetrad/tetrad/generate/SourceText") (F_text_a1 : Fld Z h0 a1 "com/example/tetrad/tetrad/generate/SourceText" "text" "Ljava/lang/StringBuilder;" (.ref sb)) (F_depth_a1 : Fld Z h0 a1 "com/example/tetrad/tetrad/generate/SourceText" "depth" "I" (.int (0 : Int32))) (E_sb : Exa Z h0 sb "java/lang/StringBuilder") (F_value_sb : Fld Z h0 sb "java/lang/AbstractStringBuilder" "value" "[B" (.ref arr)) (F_coder_sb : Fld Z h0 sb "java/lang/AbstractStringBuilder" "coder" "B" (.int (0 : Int32))) (F_count_sb : Fld Z h0 sb "java/lang/AbstractStringBuilder" "count" "I" (.int (0 : Int32))) (A_arr : Arv Z h0 arr ka .byte (16 : Int32) z16 (.int (0 : Int32))) (E_a2 : Exa Z h0 a2 "java/lang/String") (F_coder_a2 : Fld Z h0 a2 "java/lang/String" "coder" "B" (.int (0 : Int32))) (F_value_a2 : Fld Z h0 a2 "java/lang/String" "value" "[B" (.ref sv)) (A_sv : Arv Z h0 sv ks .byte (2 : Int32) us (.int (0 : Int32))) (ge_sb : n0 ≤ sb) (ge_arr : n0 ≤ arr) (h_ne : sv ≠ arr) (hCS : ¬ zC = 0) :
    MetFree l m_33 (head1 (Jvm.Cond.code m_33 prog_51_method_2_code 2 (some (.object "com/example/tetrad/tetrad/generate/SourceText")) :: ws) (rk 5 4 24 96)) (fun a U => a = #[(.ref a1), (.ref a2)] ∧ Z.Warmed39 U.vm ∧ U.heap = h0 ∧ CHv Z own_EL U.vm h0 ∧ Safe Z own_EL U.vm h0 arr) (fun _ _ _ _ _ => True) (fun _ U o U' => ∃ v L, o = .returned v ∧ Q12_02 Z a1 a2 sb arr sv us zC ka ks h0 n0 v U'.heap L ∧ CHr Z own_EL U.vm U.heap U'.vm U'.heap ∧ ReturnedEndW U o U' L (rk 5 4 24 96).cells (rk 5 4 24 96).slots) := by
  refine MetFree.of_bodySF (plainFor_of_name pn_3) hisR ?_
  intro p e s m args below meth c s₁ Bd hml0 hP hK
  obtain ⟨rfl, hZ, hh, hCH, hSf⟩ := hP
  have hx := Bd.exec
  have hby := Bd.bytes
  have hml : c.maxLocals = 2 := hml0
  have hown : s.vm.findClass "com/example/tetrad/tetrad/generate/SourceText" = some m.cls := findClass_of_methodNamed Bd.named
  have X0 : Stand p l e (rk 5 4 24 96) (s.setVm s.vm) m #[(.ref a1), (.ref a2)] below meth c s₁ [] 0 0 := Stand.of_body Bd
  have e0 : s₁.heap = h0 := by rw [← hh, Bd.state]; rfl
  have N0 := Fr.nil n0
  have pre0 := own_pre (tb := p.tables) (e := e) (bl := below) (s := s₁) (ef_21 m a1 a2)
  have Y0 : s.Since s.vm h0.size := (State.WarmedH.refl s).since h0.size
  have Yk0 : h0.size ≤ h0.size := Nat.le_refl _
  have CR0 : CHr Z own_EL s.vm h0 s.vm h0 := CHr.refl hCH
  have hEL := own_EW hw
  have hSA := own_SA hw
  have K0 := Keep.refl h0 [sb, arr]
  obtain ⟨cq1, kq1, q1a, q1b, q1c⟩ := isOf hZ e0 E_a2
  obtain ⟨_, _, ⟨T1, L1, k1, n1⟩, -, X1, ⟨Lc1, hQ1, l1, y1, z1⟩, st1⟩ := X0.virtualBack hx (y := m_3) (z := m_3) hown (mvT hZ (tw hw 74 rfl)) (mvT hZ (tw hw 75 rfl)) (notFace_of_selects (args := #[]) (mvT hZ (tw hw 77 rfl))) (mvT hZ (tw hw 77 rfl)) (mvT hZ (tw hw 76 rfl)) (by decide) (backOf (W := 0) (rm13_n l Z a0 hw [] a2 sv (2 : Int32) us ks h0 n0 O0 (by decide) E_a2 F_coder_a2 F_value_a2 A_sv) hZ (tw hw 78 rfl) (tw hw 23 rfl) (by decide) (by decide)) q1a q1c (g := (mkF m 1 #[Rf a1, Rf a2] [(.ref a2)])) rfl (by rw [hml]; rfl) (Steps.refl _) (argsL := []) (rest := []) (lenOf pd_8 rfl) rfl (w0 rfl) (hb hby d12_1) (fun _ _ => ⟨rfl, e0, (by decide : 0 + 0 ≤ _), (by decide : 0 + 0 ≤ _)⟩)
  dsimp only [Pt.U, Pt.locs, Pt.cells, Pt.slots] at X1 l1 y1 z1 st1 hQ1
  subst l1 y1 z1
  obtain ⟨rfl, N1q, e1⟩ := hQ1
  have N1 := Fr.app N0 N1q
  obtain ⟨T2, X2, e2, st2⟩ := getF X1 hx hZ hown (host := "") (Or.inl (tw hw 29 rfl)) Via.refl e1 F_text_a1 (g := (mkF m 8 #[Rf a1, Rf a2] [(.ref a1)])) rfl rfl (hb hby d12_8)
  obtain ⟨sa3, T3, h3, k3, sb3, kb3, X3, e3, E3, Y3, Yk3, hZ3, hown3, A3, Fc3, Fv3, V3, la3, lb3, C3, Lt3, SF3, st3⟩ := ldcCH X2 hx hZ hown (tw hw 79 rfl) hSA e2 Y0 Yk0 hEL (own_mem (by decide)) CR0.1 (vs := [(.int (32 : Int32)), (.int (32 : Int32)), (.int (32 : Int32)), (.int (32 : Int32))]) (z := (4 : Int32)) (by decide) (by decide) (by decide) (g := (mkF m 11 #[Rf a1, Rf a2] [(.ref sb)])) rfl (hb hby d12_11) (n := 16) (by decide) (by decide) (by decide) (by decide)
  have O4 := O0.ext E3
  have K3 := K0.ext E3
  have CR5 := CR0.trans (C3)
  obtain ⟨T6, X6, e6, st6⟩ := getF X3 hx hZ3 hown3 (host := "") (Or.inl (tw hw 36 rfl)) Via.refl e3 (F_depth_a1.ext E3) (g := (mkF m 14 #[Rf a1, Rf a2] [(.ref a1), (.ref sa3), (.ref sb)])) rfl rfl (hb hby d12_14)
  obtain ⟨cq7, kq7, q7a, q7b, q7c⟩ := isOf hZ3 e6 A3
  obtain ⟨_, _, ⟨T7, L7, k7, n7⟩, -, X7, Y7, G7, ⟨Lc7, hQ7, l7, y7, z7, C7⟩, st7⟩ := X6.virtualBackS hx (y := m_32) (z := m_32) hown3 (mvT hZ3 (tw hw 82 rfl)) (mvT hZ3 (tw hw 83 rfl)) (notFace_of_selects (args := #[]) (mvT hZ3 (tw hw 85 rfl))) (mvT hZ3 (tw hw 85 rfl)) (mvT hZ3 (tw hw 84 rfl)) (by decide) (backOfSH (W := 1) (rm14_0 l Z a0 hw [] sa3 sb3 s4 kb3 h3 n0 O4 A3 Fc3 Fv3 V3) hZ3 (tw hw 86 rfl) (tw hw 23 rfl) (by decide) (by decide) hEL CR5.1) q7a q7c (g := (mkF m 17 #[Rf a1, Rf a2] [(.int (0 : Int32)), (.ref sa3), (.ref sb)])) rfl (by rw [hml]; rfl) (Steps.refl _) (argsL := [(.int (0 : Int32))]) (rest := [(.ref sb)]) (lenOf pd_20 rfl) rfl (w0 rfl) (hb hby d12_17) (fun _ _ => ⟨rfl, e6, (by decide : 2 + 2 ≤ _), (by decide : 20 + 4 ≤ _)⟩)
  dsimp only [Pt.U, Pt.locs, Pt.cells, Pt.slots] at X7 l7 y7 z7 st7 hQ7 Y7 G7 C7
  subst l7 y7 z7
  obtain ⟨rs_7, ro_7, ko_7, rfl, N7q, K7q, O7, f7_0, f7_1, f7_2, f7_3⟩ := hQ7
  have N7 := Fr.app N1 N7q
  obtain ⟨X7, Y7, hZ7, hown7⟩ := rebS Y3 (by rw [e6]; exact Yk3) X7 Y7 G7 hZ3 hown3
  have CR8 := CR5.trans (C7)
  have K7 := K3.trans K7q all0
  obtain ⟨cq9, kq9, q9a, q9b, q9c⟩ := isOf hZ7 rfl ((E_sb.ext E3).keep K7q)
  obtain ⟨_, _, ⟨T9, L9, k9, n9⟩, -, X9, ⟨Lc9, hQ9, l9, y9, z9⟩, st9⟩ := X7.virtualBack hx (y := m_18) (z := m_18) hown7 (mvT hZ7 (tw hw 88 rfl)) (mvT hZ7 (tw hw 89 rfl)) (notFace_of_selects (args := #[]) (mvT hZ7 (tw hw 91 rfl))) (mvT hZ7 (tw hw 91 rfl)) (mvT hZ7 (tw hw 90 rfl)) (by decide) (backOf (W := 0) (rm15 l Z a0 hw [] sb rs_7 arr (0 : Int32) 0 z16 ro_7 (0 : Int32) 0 [] zC ka ko_7 T7.heap n0 O7 hCS sC ((E_sb.ext E3).keep K7q) ((F_value_sb.ext E3).keep K7q nin0) ((F_coder_sb.ext E3).keep K7q nin0) ((F_count_sb.ext E3).keep K7q nin0) ((A_arr.ext E3).keep K7q nin0) f7_0 f7_1 f7_2 f7_3 ge_sb ge_arr (Sm.lit (x := (0 : Int32)) (n := 0) (by decide)) (Sm.lit (x := (0 : Int32)) (n := 0) (by decide)) (by decide) rfl) hZ7 (tw hw 92 rfl) (tw hw 11 rfl) (by decide) (by decide)) q9a q9c (g := (mkF m 20 #[Rf a1, Rf a2] [(.ref rs_7), (.ref sb)])) rfl (by rw [hml]; rfl) (Steps.refl _) (argsL := [(.ref rs_7)]) (rest := []) (lenOf pd_21 rfl) rfl (w0 rfl) (hb hby d12_20) (fun _ _ => ⟨rfl, rfl, (by decide : 4 + 0 ≤ _), (by decide : 24 + 0 ≤ _)⟩)
  dsimp only [Pt.U, Pt.locs, Pt.cells, Pt.slots] at X9 l9 y9 z9 st9 hQ9
  subst l9 y9 z9
  obtain ⟨rfl, N9q, K9q, O9, f9_0, f9_1, f9_2, f9_3⟩ := hQ9
  have N9 := Fr.app N7 N9q
  have CR10 := CR8.trans (CHr.keep K9q (allS (Safe.exa hZ7.alike ((E_sb.ext E3).keep K7q) (by decide) (by decide)) (allS (C7.safe (A_arr.ext E3).lt (C3.safe A_arr.lt hSf)) all0)) CR8.1)
  have Sf9_arr := (Safe.keep K9q (allS (Safe.exa hZ7.alike ((E_sb.ext E3).keep K7q) (by decide) (by decide)) (allS (C7.safe (A_arr.ext E3).lt (C3.safe A_arr.lt hSf)) all0)) CR8.1 (C7.safe (A_arr.ext E3).lt (C3.safe A_arr.lt hSf)))
  have K9 := K7.trans K9q (allS (Or.inl (List.mem_of_getElem? (i := 0) rfl)) (allS (Or.inl (List.mem_of_getElem? (i := 1) rfl)) all0))
  obtain ⟨cq11, kq11, q11a, q11b, q11c⟩ := isOf hZ7 rfl (((E_sb.ext E3).keep K7q).keep K9q)
  obtain ⟨_, _, ⟨T11, L11, k11, n11⟩, -, X11, ⟨Lc11, hQ11, l11, y11, z11⟩, st11⟩ := X9.virtualBack hx (y := m_18) (z := m_18) hown7 (mvT hZ7 (tw hw 88 rfl)) (mvT hZ7 (tw hw 89 rfl)) (notFace_of_selects (args := #[]) (mvT hZ7 (tw hw 91 rfl))) (mvT hZ7 (tw hw 91 rfl)) (mvT hZ7 (tw hw 90 rfl)) (by decide) (backOf (W := 0) (rm15 l Z a0 hw [] sb a2 arr ((0 : Int32) + (0 : Int32)) 0 (cpy z16 0 [] 0 0) sv (2 : Int32) 2 us zC ka ks T9.heap n0 O9 hCS sC (((E_sb.ext E3).keep K7q).keep K9q) f9_0 f9_1 f9_2 f9_3 (((E_a2.ext E3).keep K7q).keep K9q) (((F_coder_a2.ext E3).keep K7q nin0).keep K9q (ninS (Exa.ne E_a2 E_sb (by decide)) (ninS (Exa.neArv (((E_a2.ext E3).keep K7q).keep K9q) f9_3 (tw hw 44 rfl)) nin0))) (((F_value_a2.ext E3).keep K7q nin0).keep K9q (ninS (Exa.ne E_a2 E_sb (by decide)) (ninS (Exa.neArv (((E_a2.ext E3).keep K7q).keep K9q) f9_3 (tw hw 44 rfl)) nin0))) (((A_sv.ext E3).keep K7q nin0).keep K9q (ninS (Ne.symm (Exa.neArv E_sb A_sv (tw hw 10 rfl))) (ninS h_ne nin0))) ge_sb ge_arr (Sm.lit (x := ((0 : Int32) + (0 : Int32))) (n := 0) (by decide)) (Sm.lit (x := (2 : Int32)) (n := 2) (by decide)) (by decide) (own_cpyl rfl (by decide))) hZ7 (tw hw 92 rfl) (tw hw 11 rfl) (by decide) (by decide)) q11a q11c (g := (mkF m 24 #[Rf a1, Rf a2] [(.ref a2), (.ref sb)])) rfl (by rw [hml]; rfl) (Steps.refl _) (argsL := [(.ref a2)]) (rest := []) (lenOf pd_21 rfl) rfl (w0 rfl) (hb hby d12_24) (fun _ _ => ⟨rfl, rfl, (by decide : 4 + 0 ≤ _), (by decide : 24 + 0 ≤ _)⟩)
  dsimp only [Pt.U, Pt.locs, Pt.cells, Pt.slots] at X11 l11 y11 z11 st11 hQ11
  subst l11 y11 z11
  obtain ⟨rfl, N11q, K11q, O11, f11_0, f11_1, f11_2, f11_3⟩ := hQ11
  have N11 := Fr.app N9 N11q
  have CR12 := CR10.trans (CHr.keep K11q (allS (Safe.exa hZ7.alike (((E_sb.ext E3).keep K7q).keep K9q) (by decide) (by decide)) (allS Sf9_arr all0)) CR10.1)
  have Sf11_arr := (Safe.keep K11q (allS (Safe.exa hZ7.alike (((E_sb.ext E3).keep K7q).keep K9q) (by decide) (by decide)) (allS Sf9_arr all0)) CR10.1 Sf9_arr)
  have K11 := K9.trans K11q (allS (Or.inl (List.mem_of_getElem? (i := 0) rfl)) (allS (Or.inl (List.mem_of_getElem? (i := 1) rfl)) all0))
  obtain ⟨T13, X13, e13, st13⟩ := getF X11 hx hZ7 hown7 (host := "") (Or.inl (tw hw 29 rfl)) Via.refl rfl ((((F_text_a1.ext E3).keep K7q nin0).keep K9q (ninS (Exa.ne E_a1 E_sb (by decide)) (ninS (Exa.neArv ((((E_a1.ext E3).keep K7q).keep K9q).keep K11q) f11_3 (tw hw 1 rfl)) nin0))).keep K11q (ninS (Exa.ne E_a1 E_sb (by decide)) (ninS (Exa.neArv ((((E_a1.ext E3).keep K7q).keep K9q).keep K11q) f11_3 (tw hw 1 rfl)) nin0))) (g := (mkF m 29 #[Rf a1, Rf a2] [(.ref a1)])) rfl rfl (hb hby d12_29)
  obtain ⟨cq14, kq14, q14a, q14b, q14c⟩ := isOf hZ7 e13 ((((E_sb.ext E3).keep K7q).keep K9q).keep K11q)
  obtain ⟨_, _, ⟨T14, L14, k14, n14⟩, -, X14, ⟨Lc14, hQ14, l14, y14, z14⟩, st14⟩ := X13.virtualBack hx (y := m_21) (z := m_21) hown7 (mvT hZ7 (tw hw 135 rfl)) (mvT hZ7 (tw hw 136 rfl)) (notFace_of_selects (args := #[]) (mvT hZ7 (tw hw 138 rfl))) (mvT hZ7 (tw hw 138 rfl)) (mvT hZ7 (tw hw 137 rfl)) (by decide) (backOf (W := 0) (rm23 l Z a0 hw [] sb (10 : Int32) arr (((0 : Int32) + (0 : Int32)) + (2 : Int32)) 2 (cpy (cpy z16 0 [] 0 0) 0 us 0 2) zC ka T11.heap n0 O11 hCS sC ((((E_sb.ext E3).keep K7q).keep K9q).keep K11q) f11_0 f11_1 f11_2 f11_3 ge_sb ge_arr (Sm.lit (x := (((0 : Int32) + (0 : Int32)) + (2 : Int32))) (n := 2) (by decide)) (by decide) (own_cpyl (own_cpyl rfl (by decide)) (by decide)) (by decide)) hZ7 (tw hw 139 rfl) (tw hw 11 rfl) (by decide) (by decide)) q14a q14c (g := (mkF m 34 #[Rf a1, Rf a2] [(.int (10 : Int32)), (.ref sb)])) rfl (by rw [hml]; rfl) (Steps.refl _) (argsL := [(.int (10 : Int32))]) (rest := []) (lenOf pd_22 rfl) rfl (w0 rfl) (hb hby d12_34) (fun _ _ => ⟨rfl, e13, (by decide : 4 + 0 ≤ _), (by decide : 24 + 0 ≤ _)⟩)
  dsimp only [Pt.U, Pt.locs, Pt.cells, Pt.slots] at X14 l14 y14 z14 st14 hQ14
  subst l14 y14 z14
  obtain ⟨rfl, N14q, K14q, O14, f14_0, f14_1, f14_2, f14_3⟩ := hQ14
  have N14 := Fr.app N11 N14q
  have CR15 := CR12.trans (CHr.keep K14q (allS (Safe.exa hZ7.alike ((((E_sb.ext E3).keep K7q).keep K9q).keep K11q) (by decide) (by decide)) (allS Sf11_arr all0)) CR12.1)
  have Sf14_arr := (Safe.keep K14q (allS (Safe.exa hZ7.alike ((((E_sb.ext E3).keep K7q).keep K9q).keep K11q) (by decide) (by decide)) (allS Sf11_arr all0)) CR12.1 Sf11_arr)
  have K14 := K11.trans K14q (allS (Or.inl (List.mem_of_getElem? (i := 0) rfl)) (allS (Or.inl (List.mem_of_getElem? (i := 1) rfl)) all0))
  have sg16 : SG p.tables e below (T14.setTop (mkF m 39 #[Rf a1, Rf a2] [(.ref a1)])) (s₁.setTop (mkF m 0 #[Rf a1, Rf a2] [])) := by
    intro target kt
    show Steps _ _ _ (s₁.setTop (mkF m 0 #[Rf a1, Rf a2] [])) _
    refine XS.aloadN X0.here hx rfl (hb hby d12_0) rfl rfl ?_
    refine st1.trans ?_
    refine XS.ifNo X1.here hx rfl (hb hby d12_4) rfl ((if0 _ _).trans (teq (by decide : (0 : Int32) = (0 : Int32))).2) ?_
    refine XS.aloadN X1.here hx rfl (hb hby d12_7) rfl rfl ?_
    refine st2 _ ?_
    refine st3 _ ?_
    refine XS.aloadN X3.here hx rfl (hb hby d12_13) rfl rfl ?_
    refine st6 _ ?_
    refine st7.trans ?_
    refine st9.trans ?_
    refine XS.aloadN X9.here hx rfl (hb hby d12_23) rfl rfl ?_
    refine st11.trans ?_
    refine XS.pop X11.here hx rfl (hb hby d12_27) rfl rfl ?_
    refine XS.aloadN X11.here hx rfl (hb hby d12_28) rfl rfl ?_
    refine st13 _ ?_
    refine XS.bipush X13.here hx rfl (hb hby d12_32) ?_
    refine st14.trans ?_
    refine XS.pop X14.here hx rfl (hb hby d12_37) rfl rfl ?_
    refine XS.aloadN X14.here hx rfl (hb hby d12_38) rfl rfl ?_
    exact kt
  obtain ⟨fs, hr, hrun, hended, hRW⟩ := X14.leaveW Y7 (show _ ≤ T14.heap.size by exact (Nat.le_trans (Nat.le_trans (Nat.le_trans (Nat.le_refl _) K9q.1) K11q.1) K14q.1)) (v := some (.ref a1)) (fun h => by rw [Bd.returns] at h; cases h)
  refine ⟨_, _, pre0 _ (sg16 _ (?_)), hrun, hended, _, _, rfl, ?_, (by rw [hh]; show CHr Z own_EL s.vm h0 T14.vm T14.heap; exact CR15.trans (CHv.at X14 hZ7 hEL CR15.1)), hRW.1, hRW.2.1, hRW.2.2.1, hRW.2.2.2.mono (by decide) (by decide)⟩
  · show Steps _ _ _ (T14.setTop (mkF m 39 #[Rf a1, Rf a2] [(.ref a1)])) _
    jvm_step X14.here [X14.here.top, hx, (hb hby d12_39), X14.method', Bd.returns, Value.isRef, FieldType.isReference]
    first | (intro acts; rw [hr _ acts rfl rfl rfl]) | rw [hr _ _ rfl rfl rfl]
    exact Steps.refl _
  · show Q12_02 Z a1 a2 sb arr sv us zC ka ks h0 n0 _ T14.heap _
    exact ⟨rfl, N14, K14, O14, f14_0, f14_1, (own_fi (by decide) f14_2), f14_3⟩
def Q12_12 (Z : State) (a1 : Addr) (a2 : Addr) (sb : Addr) (arr : Addr) (sv : Addr) (us : List Value) (zC : Int32) (ka : ClassId) (ks : ClassId) (h0 : Heap) (n0 : Nat) (v : Option Value) (h : Heap) (L : List Loc) : Prop := v = some (.ref a1) ∧ Fr n0 L ∧ Keep h0 h [sb, arr] ∧ Old Z n0 h ∧ Fld Z h sb "java/lang/AbstractStringBuilder" "value" "[B" (.ref arr) ∧ Fld Z h sb "java/lang/AbstractStringBuilder" "coder" "B" (.int (0 : Int32)) ∧ Fld Z h sb "java/lang/AbstractStringBuilder" "count" "I" (.int (7 : Int32)) ∧ Arv Z h arr ka .byte (16 : Int32) ((cpy (cpy z16 0 s4 0 4) 4 us 0 2).set 6 (.int ((10 : Int32).toInt8.toInt32.toInt8.toInt32))) (.int (0 : Int32))
theorem rm12_12 (l : Launch) (Z : State) (a0 : Array Value) (hw : ∀ d ∈ tables_1, d.before a0 Z = true) (ws : List Jvm.Cond) (a1 : Addr) (a2 : Addr) (sb : Addr) (arr : Addr) (sv : Addr) (us : List Value) (zC : Int32) (ka : ClassId) (ks : ClassId) (h0 : Heap) (n0 : Nat) (O0 : Old Z n0 h0) (sC : TS_0 Z zC) (E_a1 : Exa Z h0 a1 "com/example/tetrad/tetrad/generate/SourceText") (F_text_a1 : Fld Z h0 a1 "com/example/tetrad/tetrad/generate/SourceText" "text" "Ljava/lang/StringBuilder;" (.ref sb)) (F_depth_a1 : Fld Z h0 a1 "com/example/tetrad/tetrad/generate/SourceText" "depth" "I" (.int (1 : Int32))) (E_sb : Exa Z h0 sb "java/lang/StringBuilder") (F_value_sb : Fld Z h0 sb "java/lang/AbstractStringBuilder" "value" "[B" (.ref arr)) (F_coder_sb : Fld Z h0 sb "java/lang/AbstractStringBuilder" "coder" "B" (.int (0 : Int32))) (F_count_sb : Fld Z h0 sb "java/lang/AbstractStringBuilder" "count" "I" (.int (0 : Int32))) (A_arr : Arv Z h0 arr ka .byte (16 : Int32) z16 (.int (0 : Int32))) (E_a2 : Exa Z h0 a2 "java/lang/String") (F_coder_a2 : Fld Z h0 a2 "java/lang/String" "coder" "B" (.int (0 : Int32))) (F_value_a2 : Fld Z h0 a2 "java/lang/String" "value" "[B" (.ref sv)) (A_sv : Arv Z h0 sv ks .byte (2 : Int32) us (.int (0 : Int32))) (ge_sb : n0 ≤ sb) (ge_arr : n0 ≤ arr) (h_ne : sv ≠ arr) (hCS : ¬ zC = 0) :
    MetFree l m_33 (head1 (Jvm.Cond.code m_33 prog_51_method_2_code 2 (some (.object "com/example/tetrad/tetrad/generate/SourceText")) :: ws) (rk 5 2 20 96)) (fun a U => a = #[(.ref a1), (.ref a2)] ∧ Z.Warmed39 U.vm ∧ U.heap = h0 ∧ CHv Z own_EL U.vm h0 ∧ Safe Z own_EL U.vm h0 arr) (fun _ _ _ _ _ => True) (fun _ U o U' => ∃ v L, o = .returned v ∧ Q12_12 Z a1 a2 sb arr sv us zC ka ks h0 n0 v U'.heap L ∧ CHr Z own_EL U.vm U.heap U'.vm U'.heap ∧ ReturnedEndW U o U' L (rk 5 2 20 96).cells (rk 5 2 20 96).slots) := by
  refine MetFree.of_bodySF (plainFor_of_name pn_3) hisR ?_
  intro p e s m args below meth c s₁ Bd hml0 hP hK
  obtain ⟨rfl, hZ, hh, hCH, hSf⟩ := hP
  have hx := Bd.exec
  have hby := Bd.bytes
  have hml : c.maxLocals = 2 := hml0
  have hown : s.vm.findClass "com/example/tetrad/tetrad/generate/SourceText" = some m.cls := findClass_of_methodNamed Bd.named
  have X0 : Stand p l e (rk 5 2 20 96) (s.setVm s.vm) m #[(.ref a1), (.ref a2)] below meth c s₁ [] 0 0 := Stand.of_body Bd
  have e0 : s₁.heap = h0 := by rw [← hh, Bd.state]; rfl
  have N0 := Fr.nil n0
  have pre0 := own_pre (tb := p.tables) (e := e) (bl := below) (s := s₁) (ef_21 m a1 a2)
  have Y0 : s.Since s.vm h0.size := (State.WarmedH.refl s).since h0.size
  have Yk0 : h0.size ≤ h0.size := Nat.le_refl _
  have CR0 : CHr Z own_EL s.vm h0 s.vm h0 := CHr.refl hCH
  have hEL := own_EW hw
  have hSA := own_SA hw
  have K0 := Keep.refl h0 [sb, arr]
  obtain ⟨cq1, kq1, q1a, q1b, q1c⟩ := isOf hZ e0 E_a2
  obtain ⟨_, _, ⟨T1, L1, k1, n1⟩, -, X1, ⟨Lc1, hQ1, l1, y1, z1⟩, st1⟩ := X0.virtualBack hx (y := m_3) (z := m_3) hown (mvT hZ (tw hw 74 rfl)) (mvT hZ (tw hw 75 rfl)) (notFace_of_selects (args := #[]) (mvT hZ (tw hw 77 rfl))) (mvT hZ (tw hw 77 rfl)) (mvT hZ (tw hw 76 rfl)) (by decide) (backOf (W := 0) (rm13_n l Z a0 hw [] a2 sv (2 : Int32) us ks h0 n0 O0 (by decide) E_a2 F_coder_a2 F_value_a2 A_sv) hZ (tw hw 78 rfl) (tw hw 23 rfl) (by decide) (by decide)) q1a q1c (g := (mkF m 1 #[Rf a1, Rf a2] [(.ref a2)])) rfl (by rw [hml]; rfl) (Steps.refl _) (argsL := []) (rest := []) (lenOf pd_8 rfl) rfl (w0 rfl) (hb hby d12_1) (fun _ _ => ⟨rfl, e0, (by decide : 0 + 0 ≤ _), (by decide : 0 + 0 ≤ _)⟩)
  dsimp only [Pt.U, Pt.locs, Pt.cells, Pt.slots] at X1 l1 y1 z1 st1 hQ1
  subst l1 y1 z1
  obtain ⟨rfl, N1q, e1⟩ := hQ1
  have N1 := Fr.app N0 N1q
  obtain ⟨T2, X2, e2, st2⟩ := getF X1 hx hZ hown (host := "") (Or.inl (tw hw 29 rfl)) Via.refl e1 F_text_a1 (g := (mkF m 8 #[Rf a1, Rf a2] [(.ref a1)])) rfl rfl (hb hby d12_8)
  obtain ⟨sa3, T3, h3, k3, sb3, kb3, X3, e3, E3, Y3, Yk3, hZ3, hown3, A3, Fc3, Fv3, V3, la3, lb3, C3, Lt3, SF3, st3⟩ := ldcCH X2 hx hZ hown (tw hw 79 rfl) hSA e2 Y0 Yk0 hEL (own_mem (by decide)) CR0.1 (vs := [(.int (32 : Int32)), (.int (32 : Int32)), (.int (32 : Int32)), (.int (32 : Int32))]) (z := (4 : Int32)) (by decide) (by decide) (by decide) (g := (mkF m 11 #[Rf a1, Rf a2] [(.ref sb)])) rfl (hb hby d12_11) (n := 16) (by decide) (by decide) (by decide) (by decide)
  have O4 := O0.ext E3
  have K3 := K0.ext E3
  have CR5 := CR0.trans (C3)
  obtain ⟨T6, X6, e6, st6⟩ := getF X3 hx hZ3 hown3 (host := "") (Or.inl (tw hw 36 rfl)) Via.refl e3 (F_depth_a1.ext E3) (g := (mkF m 14 #[Rf a1, Rf a2] [(.ref a1), (.ref sa3), (.ref sb)])) rfl rfl (hb hby d12_14)
  obtain ⟨cq7, kq7, q7a, q7b, q7c⟩ := isOf hZ3 e6 A3
  obtain ⟨_, _, ⟨T7, L7, k7, n7⟩, -, X7, ⟨Lc7, hQ7, l7, y7, z7⟩, st7⟩ := X6.virtualBack hx (y := m_32) (z := m_32) hown3 (mvT hZ3 (tw hw 82 rfl)) (mvT hZ3 (tw hw 83 rfl)) (notFace_of_selects (args := #[]) (mvT hZ3 (tw hw 85 rfl))) (mvT hZ3 (tw hw 85 rfl)) (mvT hZ3 (tw hw 84 rfl)) (by decide) (backOf (W := 1) (rm14_1 l Z a0 hw [] sa3 h3 n0 O4 ) hZ3 (tw hw 86 rfl) (tw hw 23 rfl) (by decide) (by decide)) q7a q7c (g := (mkF m 17 #[Rf a1, Rf a2] [(.int (1 : Int32)), (.ref sa3), (.ref sb)])) rfl (by rw [hml]; rfl) (Steps.refl _) (argsL := [(.int (1 : Int32))]) (rest := [(.ref sb)]) (lenOf pd_20 rfl) rfl (w0 rfl) (hb hby d12_17) (fun _ _ => ⟨rfl, e6, (by decide : 2 + 0 ≤ _), (by decide : 20 + 0 ≤ _)⟩)
  dsimp only [Pt.U, Pt.locs, Pt.cells, Pt.slots] at X7 l7 y7 z7 st7 hQ7
  subst l7 y7 z7
  obtain ⟨rfl, N7q, e7⟩ := hQ7
  have N7 := Fr.app N1 N7q
  obtain ⟨cq8, kq8, q8a, q8b, q8c⟩ := isOf hZ3 e7 (E_sb.ext E3)
  obtain ⟨_, _, ⟨T8, L8, k8, n8⟩, -, X8, ⟨Lc8, hQ8, l8, y8, z8⟩, st8⟩ := X7.virtualBack hx (y := m_18) (z := m_18) hown3 (mvT hZ3 (tw hw 88 rfl)) (mvT hZ3 (tw hw 89 rfl)) (notFace_of_selects (args := #[]) (mvT hZ3 (tw hw 91 rfl))) (mvT hZ3 (tw hw 91 rfl)) (mvT hZ3 (tw hw 90 rfl)) (by decide) (backOf (W := 0) (rm15 l Z a0 hw [] sb sa3 arr (0 : Int32) 0 z16 sb3 (4 : Int32) 4 s4 zC ka kb3 h3 n0 O4 hCS sC (E_sb.ext E3) (F_value_sb.ext E3) (F_coder_sb.ext E3) (F_count_sb.ext E3) (A_arr.ext E3) A3 Fc3 Fv3 V3 ge_sb ge_arr (Sm.lit (x := (0 : Int32)) (n := 0) (by decide)) (Sm.lit (x := (4 : Int32)) (n := 4) (by decide)) (by decide) rfl) hZ3 (tw hw 92 rfl) (tw hw 11 rfl) (by decide) (by decide)) q8a q8c (g := (mkF m 20 #[Rf a1, Rf a2] [(.ref sa3), (.ref sb)])) rfl (by rw [hml]; rfl) (Steps.refl _) (argsL := [(.ref sa3)]) (rest := []) (lenOf pd_21 rfl) rfl (w0 rfl) (hb hby d12_20) (fun _ _ => ⟨rfl, e7, (by decide : 2 + 0 ≤ _), (by decide : 20 + 0 ≤ _)⟩)
  dsimp only [Pt.U, Pt.locs, Pt.cells, Pt.slots] at X8 l8 y8 z8 st8 hQ8
  subst l8 y8 z8
  obtain ⟨rfl, N8q, K8q, O8, f8_0, f8_1, f8_2, f8_3⟩ := hQ8
  have N8 := Fr.app N7 N8q
  have CR9 := CR5.trans (CHr.keep K8q (allS (Safe.exa hZ3.alike (E_sb.ext E3) (by decide) (by decide)) (allS (C3.safe A_arr.lt hSf) all0)) CR5.1)
  have Sf8_arr := (Safe.keep K8q (allS (Safe.exa hZ3.alike (E_sb.ext E3) (by decide) (by decide)) (allS (C3.safe A_arr.lt hSf) all0)) CR5.1 (C3.safe A_arr.lt hSf))
  have K8 := K3.trans K8q (allS (Or.inl (List.mem_of_getElem? (i := 0) rfl)) (allS (Or.inl (List.mem_of_getElem? (i := 1) rfl)) all0))
  obtain ⟨cq10, kq10, q10a, q10b, q10c⟩ := isOf hZ3 rfl ((E_sb.ext E3).keep K8q)
  obtain ⟨_, _, ⟨T10, L10, k10, n10⟩, -, X10, ⟨Lc10, hQ10, l10, y10, z10⟩, st10⟩ := X8.virtualBack hx (y := m_18) (z := m_18) hown3 (mvT hZ3 (tw hw 88 rfl)) (mvT hZ3 (tw hw 89 rfl)) (notFace_of_selects (args := #[]) (mvT hZ3 (tw hw 91 rfl))) (mvT hZ3 (tw hw 91 rfl)) (mvT hZ3 (tw hw 90 rfl)) (by decide) (backOf (W := 0) (rm15 l Z a0 hw [] sb a2 arr ((0 : Int32) + (4 : Int32)) 4 (cpy z16 0 s4 0 4) sv (2 : Int32) 2 us zC ka ks T8.heap n0 O8 hCS sC ((E_sb.ext E3).keep K8q) f8_0 f8_1 f8_2 f8_3 ((E_a2.ext E3).keep K8q) ((F_coder_a2.ext E3).keep K8q (ninS (Exa.ne E_a2 E_sb (by decide)) (ninS (Exa.neArv ((E_a2.ext E3).keep K8q) f8_3 (tw hw 44 rfl)) nin0))) ((F_value_a2.ext E3).keep K8q (ninS (Exa.ne E_a2 E_sb (by decide)) (ninS (Exa.neArv ((E_a2.ext E3).keep K8q) f8_3 (tw hw 44 rfl)) nin0))) ((A_sv.ext E3).keep K8q (ninS (Ne.symm (Exa.neArv E_sb A_sv (tw hw 10 rfl))) (ninS h_ne nin0))) ge_sb ge_arr (Sm.lit (x := ((0 : Int32) + (4 : Int32))) (n := 4) (by decide)) (Sm.lit (x := (2 : Int32)) (n := 2) (by decide)) (by decide) (own_cpyl rfl (by decide))) hZ3 (tw hw 92 rfl) (tw hw 11 rfl) (by decide) (by decide)) q10a q10c (g := (mkF m 24 #[Rf a1, Rf a2] [(.ref a2), (.ref sb)])) rfl (by rw [hml]; rfl) (Steps.refl _) (argsL := [(.ref a2)]) (rest := []) (lenOf pd_21 rfl) rfl (w0 rfl) (hb hby d12_24) (fun _ _ => ⟨rfl, rfl, (by decide : 2 + 0 ≤ _), (by decide : 20 + 0 ≤ _)⟩)
  dsimp only [Pt.U, Pt.locs, Pt.cells, Pt.slots] at X10 l10 y10 z10 st10 hQ10
  subst l10 y10 z10
  obtain ⟨rfl, N10q, K10q, O10, f10_0, f10_1, f10_2, f10_3⟩ := hQ10
  have N10 := Fr.app N8 N10q
  have CR11 := CR9.trans (CHr.keep K10q (allS (Safe.exa hZ3.alike ((E_sb.ext E3).keep K8q) (by decide) (by decide)) (allS Sf8_arr all0)) CR9.1)
  have Sf10_arr := (Safe.keep K10q (allS (Safe.exa hZ3.alike ((E_sb.ext E3).keep K8q) (by decide) (by decide)) (allS Sf8_arr all0)) CR9.1 Sf8_arr)
  have K10 := K8.trans K10q (allS (Or.inl (List.mem_of_getElem? (i := 0) rfl)) (allS (Or.inl (List.mem_of_getElem? (i := 1) rfl)) all0))
  obtain ⟨T12, X12, e12, st12⟩ := getF X10 hx hZ3 hown3 (host := "") (Or.inl (tw hw 29 rfl)) Via.refl rfl (((F_text_a1.ext E3).keep K8q (ninS (Exa.ne E_a1 E_sb (by decide)) (ninS (Exa.neArv (((E_a1.ext E3).keep K8q).keep K10q) f10_3 (tw hw 1 rfl)) nin0))).keep K10q (ninS (Exa.ne E_a1 E_sb (by decide)) (ninS (Exa.neArv (((E_a1.ext E3).keep K8q).keep K10q) f10_3 (tw hw 1 rfl)) nin0))) (g := (mkF m 29 #[Rf a1, Rf a2] [(.ref a1)])) rfl rfl (hb hby d12_29)
  obtain ⟨cq13, kq13, q13a, q13b, q13c⟩ := isOf hZ3 e12 (((E_sb.ext E3).keep K8q).keep K10q)
  obtain ⟨_, _, ⟨T13, L13, k13, n13⟩, -, X13, ⟨Lc13, hQ13, l13, y13, z13⟩, st13⟩ := X12.virtualBack hx (y := m_21) (z := m_21) hown3 (mvT hZ3 (tw hw 135 rfl)) (mvT hZ3 (tw hw 136 rfl)) (notFace_of_selects (args := #[]) (mvT hZ3 (tw hw 138 rfl))) (mvT hZ3 (tw hw 138 rfl)) (mvT hZ3 (tw hw 137 rfl)) (by decide) (backOf (W := 0) (rm23 l Z a0 hw [] sb (10 : Int32) arr (((0 : Int32) + (4 : Int32)) + (2 : Int32)) 6 (cpy (cpy z16 0 s4 0 4) 4 us 0 2) zC ka T10.heap n0 O10 hCS sC (((E_sb.ext E3).keep K8q).keep K10q) f10_0 f10_1 f10_2 f10_3 ge_sb ge_arr (Sm.lit (x := (((0 : Int32) + (4 : Int32)) + (2 : Int32))) (n := 6) (by decide)) (by decide) (own_cpyl (own_cpyl rfl (by decide)) (by decide)) (by decide)) hZ3 (tw hw 139 rfl) (tw hw 11 rfl) (by decide) (by decide)) q13a q13c (g := (mkF m 34 #[Rf a1, Rf a2] [(.int (10 : Int32)), (.ref sb)])) rfl (by rw [hml]; rfl) (Steps.refl _) (argsL := [(.int (10 : Int32))]) (rest := []) (lenOf pd_22 rfl) rfl (w0 rfl) (hb hby d12_34) (fun _ _ => ⟨rfl, e12, (by decide : 2 + 0 ≤ _), (by decide : 20 + 0 ≤ _)⟩)
  dsimp only [Pt.U, Pt.locs, Pt.cells, Pt.slots] at X13 l13 y13 z13 st13 hQ13
  subst l13 y13 z13
  obtain ⟨rfl, N13q, K13q, O13, f13_0, f13_1, f13_2, f13_3⟩ := hQ13
  have N13 := Fr.app N10 N13q
  have CR14 := CR11.trans (CHr.keep K13q (allS (Safe.exa hZ3.alike (((E_sb.ext E3).keep K8q).keep K10q) (by decide) (by decide)) (allS Sf10_arr all0)) CR11.1)
  have Sf13_arr := (Safe.keep K13q (allS (Safe.exa hZ3.alike (((E_sb.ext E3).keep K8q).keep K10q) (by decide) (by decide)) (allS Sf10_arr all0)) CR11.1 Sf10_arr)
  have K13 := K10.trans K13q (allS (Or.inl (List.mem_of_getElem? (i := 0) rfl)) (allS (Or.inl (List.mem_of_getElem? (i := 1) rfl)) all0))
  have sg15 : SG p.tables e below (T13.setTop (mkF m 39 #[Rf a1, Rf a2] [(.ref a1)])) (s₁.setTop (mkF m 0 #[Rf a1, Rf a2] [])) := by
    intro target kt
    show Steps _ _ _ (s₁.setTop (mkF m 0 #[Rf a1, Rf a2] [])) _
    refine XS.aloadN X0.here hx rfl (hb hby d12_0) rfl rfl ?_
    refine st1.trans ?_
    refine XS.ifNo X1.here hx rfl (hb hby d12_4) rfl ((if0 _ _).trans (teq (by decide : (0 : Int32) = (0 : Int32))).2) ?_
    refine XS.aloadN X1.here hx rfl (hb hby d12_7) rfl rfl ?_
    refine st2 _ ?_
    refine st3 _ ?_
    refine XS.aloadN X3.here hx rfl (hb hby d12_13) rfl rfl ?_
    refine st6 _ ?_
    refine st7.trans ?_
    refine st8.trans ?_
    refine XS.aloadN X8.here hx rfl (hb hby d12_23) rfl rfl ?_
    refine st10.trans ?_
    refine XS.pop X10.here hx rfl (hb hby d12_27) rfl rfl ?_
    refine XS.aloadN X10.here hx rfl (hb hby d12_28) rfl rfl ?_
    refine st12 _ ?_
    refine XS.bipush X12.here hx rfl (hb hby d12_32) ?_
    refine st13.trans ?_
    refine XS.pop X13.here hx rfl (hb hby d12_37) rfl rfl ?_
    refine XS.aloadN X13.here hx rfl (hb hby d12_38) rfl rfl ?_
    exact kt
  obtain ⟨fs, hr, hrun, hended, hRW⟩ := X13.leaveW Y3 (show _ ≤ T13.heap.size by exact (Nat.le_trans (Nat.le_trans (Nat.le_trans Yk3 K8q.1) K10q.1) K13q.1)) (v := some (.ref a1)) (fun h => by rw [Bd.returns] at h; cases h)
  refine ⟨_, _, pre0 _ (sg15 _ (?_)), hrun, hended, _, _, rfl, ?_, (by rw [hh]; show CHr Z own_EL s.vm h0 T13.vm T13.heap; exact CR14.trans (CHv.at X13 hZ3 hEL CR14.1)), hRW.1, hRW.2.1, hRW.2.2.1, hRW.2.2.2.mono (by decide) (by decide)⟩
  · show Steps _ _ _ (T13.setTop (mkF m 39 #[Rf a1, Rf a2] [(.ref a1)])) _
    jvm_step X13.here [X13.here.top, hx, (hb hby d12_39), X13.method', Bd.returns, Value.isRef, FieldType.isReference]
    first | (intro acts; rw [hr _ acts rfl rfl rfl]) | rw [hr _ _ rfl rfl rfl]
    exact Steps.refl _
  · show Q12_12 Z a1 a2 sb arr sv us zC ka ks h0 n0 _ T13.heap _
    exact ⟨rfl, N13, K13, O13, f13_0, f13_1, (own_fi (by decide) f13_2), f13_3⟩
def Q12_22 (Z : State) (a1 : Addr) (a2 : Addr) (sb : Addr) (arr : Addr) (sv : Addr) (us : List Value) (zC : Int32) (ka : ClassId) (ks : ClassId) (h0 : Heap) (n0 : Nat) (v : Option Value) (h : Heap) (L : List Loc) : Prop := v = some (.ref a1) ∧ Fr n0 L ∧ Keep h0 h [sb, arr] ∧ Old Z n0 h ∧ Fld Z h sb "java/lang/AbstractStringBuilder" "value" "[B" (.ref arr) ∧ Fld Z h sb "java/lang/AbstractStringBuilder" "coder" "B" (.int (0 : Int32)) ∧ Fld Z h sb "java/lang/AbstractStringBuilder" "count" "I" (.int (11 : Int32)) ∧ Arv Z h arr ka .byte (16 : Int32) ((cpy (cpy z16 0 (cpy (cpy z16 0 s4 0 4) 4 (cpy z16 0 s4 0 4) 0 4) 0 8) 8 us 0 2).set 10 (.int ((10 : Int32).toInt8.toInt32.toInt8.toInt32))) (.int (0 : Int32))
theorem rm12_22 (l : Launch) (Z : State) (a0 : Array Value) (hw : ∀ d ∈ tables_1, d.before a0 Z = true) (ws : List Jvm.Cond) (a1 : Addr) (a2 : Addr) (sb : Addr) (arr : Addr) (sv : Addr) (us : List Value) (zC : Int32) (ka : ClassId) (ks : ClassId) (h0 : Heap) (n0 : Nat) (O0 : Old Z n0 h0) (sC : TS_0 Z zC) (E_a1 : Exa Z h0 a1 "com/example/tetrad/tetrad/generate/SourceText") (F_text_a1 : Fld Z h0 a1 "com/example/tetrad/tetrad/generate/SourceText" "text" "Ljava/lang/StringBuilder;" (.ref sb)) (F_depth_a1 : Fld Z h0 a1 "com/example/tetrad/tetrad/generate/SourceText" "depth" "I" (.int (2 : Int32))) (E_sb : Exa Z h0 sb "java/lang/StringBuilder") (F_value_sb : Fld Z h0 sb "java/lang/AbstractStringBuilder" "value" "[B" (.ref arr)) (F_coder_sb : Fld Z h0 sb "java/lang/AbstractStringBuilder" "coder" "B" (.int (0 : Int32))) (F_count_sb : Fld Z h0 sb "java/lang/AbstractStringBuilder" "count" "I" (.int (0 : Int32))) (A_arr : Arv Z h0 arr ka .byte (16 : Int32) z16 (.int (0 : Int32))) (E_a2 : Exa Z h0 a2 "java/lang/String") (F_coder_a2 : Fld Z h0 a2 "java/lang/String" "coder" "B" (.int (0 : Int32))) (F_value_a2 : Fld Z h0 a2 "java/lang/String" "value" "[B" (.ref sv)) (A_sv : Arv Z h0 sv ks .byte (2 : Int32) us (.int (0 : Int32))) (ge_sb : n0 ≤ sb) (ge_arr : n0 ≤ arr) (h_ne : sv ≠ arr) (hCS : ¬ zC = 0) :
    MetFree l m_33 (head1 (Jvm.Cond.code m_33 prog_51_method_2_code 2 (some (.object "com/example/tetrad/tetrad/generate/SourceText")) :: ws) (rk 5 4 32 96)) (fun a U => a = #[(.ref a1), (.ref a2)] ∧ Z.Warmed39 U.vm ∧ U.heap = h0 ∧ CHv Z own_EL U.vm h0 ∧ Safe Z own_EL U.vm h0 arr) (fun _ _ _ _ _ => True) (fun _ U o U' => ∃ v L, o = .returned v ∧ Q12_22 Z a1 a2 sb arr sv us zC ka ks h0 n0 v U'.heap L ∧ CHr Z own_EL U.vm U.heap U'.vm U'.heap ∧ ReturnedEndW U o U' L (rk 5 4 32 96).cells (rk 5 4 32 96).slots) := by
  refine MetFree.of_bodySF (plainFor_of_name pn_3) hisR ?_
  intro p e s m args below meth c s₁ Bd hml0 hP hK
  obtain ⟨rfl, hZ, hh, hCH, hSf⟩ := hP
  have hx := Bd.exec
  have hby := Bd.bytes
  have hml : c.maxLocals = 2 := hml0
  have hown : s.vm.findClass "com/example/tetrad/tetrad/generate/SourceText" = some m.cls := findClass_of_methodNamed Bd.named
  have X0 : Stand p l e (rk 5 4 32 96) (s.setVm s.vm) m #[(.ref a1), (.ref a2)] below meth c s₁ [] 0 0 := Stand.of_body Bd
  have e0 : s₁.heap = h0 := by rw [← hh, Bd.state]; rfl
  have N0 := Fr.nil n0
  have pre0 := own_pre (tb := p.tables) (e := e) (bl := below) (s := s₁) (ef_21 m a1 a2)
  have Y0 : s.Since s.vm h0.size := (State.WarmedH.refl s).since h0.size
  have Yk0 : h0.size ≤ h0.size := Nat.le_refl _
  have CR0 : CHr Z own_EL s.vm h0 s.vm h0 := CHr.refl hCH
  have hEL := own_EW hw
  have hSA := own_SA hw
  have K0 := Keep.refl h0 [sb, arr]
  obtain ⟨cq1, kq1, q1a, q1b, q1c⟩ := isOf hZ e0 E_a2
  obtain ⟨_, _, ⟨T1, L1, k1, n1⟩, -, X1, ⟨Lc1, hQ1, l1, y1, z1⟩, st1⟩ := X0.virtualBack hx (y := m_3) (z := m_3) hown (mvT hZ (tw hw 74 rfl)) (mvT hZ (tw hw 75 rfl)) (notFace_of_selects (args := #[]) (mvT hZ (tw hw 77 rfl))) (mvT hZ (tw hw 77 rfl)) (mvT hZ (tw hw 76 rfl)) (by decide) (backOf (W := 0) (rm13_n l Z a0 hw [] a2 sv (2 : Int32) us ks h0 n0 O0 (by decide) E_a2 F_coder_a2 F_value_a2 A_sv) hZ (tw hw 78 rfl) (tw hw 23 rfl) (by decide) (by decide)) q1a q1c (g := (mkF m 1 #[Rf a1, Rf a2] [(.ref a2)])) rfl (by rw [hml]; rfl) (Steps.refl _) (argsL := []) (rest := []) (lenOf pd_8 rfl) rfl (w0 rfl) (hb hby d12_1) (fun _ _ => ⟨rfl, e0, (by decide : 0 + 0 ≤ _), (by decide : 0 + 0 ≤ _)⟩)
  dsimp only [Pt.U, Pt.locs, Pt.cells, Pt.slots] at X1 l1 y1 z1 st1 hQ1
  subst l1 y1 z1
  obtain ⟨rfl, N1q, e1⟩ := hQ1
  have N1 := Fr.app N0 N1q
  obtain ⟨T2, X2, e2, st2⟩ := getF X1 hx hZ hown (host := "") (Or.inl (tw hw 29 rfl)) Via.refl e1 F_text_a1 (g := (mkF m 8 #[Rf a1, Rf a2] [(.ref a1)])) rfl rfl (hb hby d12_8)
  obtain ⟨sa3, T3, h3, k3, sb3, kb3, X3, e3, E3, Y3, Yk3, hZ3, hown3, A3, Fc3, Fv3, V3, la3, lb3, C3, Lt3, SF3, st3⟩ := ldcCH X2 hx hZ hown (tw hw 79 rfl) hSA e2 Y0 Yk0 hEL (own_mem (by decide)) CR0.1 (vs := [(.int (32 : Int32)), (.int (32 : Int32)), (.int (32 : Int32)), (.int (32 : Int32))]) (z := (4 : Int32)) (by decide) (by decide) (by decide) (g := (mkF m 11 #[Rf a1, Rf a2] [(.ref sb)])) rfl (hb hby d12_11) (n := 16) (by decide) (by decide) (by decide) (by decide)
  have O4 := O0.ext E3
  have K3 := K0.ext E3
  have CR5 := CR0.trans (C3)
  obtain ⟨T6, X6, e6, st6⟩ := getF X3 hx hZ3 hown3 (host := "") (Or.inl (tw hw 36 rfl)) Via.refl e3 (F_depth_a1.ext E3) (g := (mkF m 14 #[Rf a1, Rf a2] [(.ref a1), (.ref sa3), (.ref sb)])) rfl rfl (hb hby d12_14)
  obtain ⟨cq7, kq7, q7a, q7b, q7c⟩ := isOf hZ3 e6 A3
  obtain ⟨_, _, ⟨T7, L7, k7, n7⟩, -, X7, ⟨Lc7, hQ7, l7, y7, z7⟩, st7⟩ := X6.virtualBack hx (y := m_32) (z := m_32) hown3 (mvT hZ3 (tw hw 82 rfl)) (mvT hZ3 (tw hw 83 rfl)) (notFace_of_selects (args := #[]) (mvT hZ3 (tw hw 85 rfl))) (mvT hZ3 (tw hw 85 rfl)) (mvT hZ3 (tw hw 84 rfl)) (by decide) (backOf (W := 1) (rm14_2 l Z a0 hw [] sa3 sb3 s4 kb3 h3 n0 O4 A3 Fc3 Fv3 V3) hZ3 (tw hw 86 rfl) (tw hw 23 rfl) (by decide) (by decide)) q7a q7c (g := (mkF m 17 #[Rf a1, Rf a2] [(.int (2 : Int32)), (.ref sa3), (.ref sb)])) rfl (by rw [hml]; rfl) (Steps.refl _) (argsL := [(.int (2 : Int32))]) (rest := [(.ref sb)]) (lenOf pd_20 rfl) rfl (w0 rfl) (hb hby d12_17) (fun _ _ => ⟨rfl, e6, (by decide : 2 + 2 ≤ _), (by decide : 20 + 12 ≤ _)⟩)
  dsimp only [Pt.U, Pt.locs, Pt.cells, Pt.slots] at X7 l7 y7 z7 st7 hQ7
  subst l7 y7 z7
  obtain ⟨rs_7, ro_7, ko_7, rfl, N7q, K7q, O7, f7_0, f7_1, f7_2, f7_3, f7_4, f7_5, f7_6, f7_7⟩ := hQ7
  have N7 := Fr.app N1 N7q
  have CR8 := CR5.trans (CHr.keep K7q all0 CR5.1)
  have K7 := K3.trans K7q all0
  obtain ⟨cq9, kq9, q9a, q9b, q9c⟩ := isOf hZ3 rfl ((E_sb.ext E3).keep K7q)
  obtain ⟨_, _, ⟨T9, L9, k9, n9⟩, -, X9, ⟨Lc9, hQ9, l9, y9, z9⟩, st9⟩ := X7.virtualBack hx (y := m_18) (z := m_18) hown3 (mvT hZ3 (tw hw 88 rfl)) (mvT hZ3 (tw hw 89 rfl)) (notFace_of_selects (args := #[]) (mvT hZ3 (tw hw 91 rfl))) (mvT hZ3 (tw hw 91 rfl)) (mvT hZ3 (tw hw 90 rfl)) (by decide) (backOf (W := 0) (rm15 l Z a0 hw [] sb rs_7 arr (0 : Int32) 0 z16 ro_7 (8 : Int32) 8 (cpy (cpy z16 0 s4 0 4) 4 (cpy z16 0 s4 0 4) 0 4) zC ka ko_7 T7.heap n0 O7 hCS sC ((E_sb.ext E3).keep K7q) ((F_value_sb.ext E3).keep K7q nin0) ((F_coder_sb.ext E3).keep K7q nin0) ((F_count_sb.ext E3).keep K7q nin0) ((A_arr.ext E3).keep K7q nin0) f7_0 f7_3 f7_4 f7_5 ge_sb ge_arr (Sm.lit (x := (0 : Int32)) (n := 0) (by decide)) (Sm.lit (x := (8 : Int32)) (n := 8) (by decide)) (by decide) rfl) hZ3 (tw hw 92 rfl) (tw hw 11 rfl) (by decide) (by decide)) q9a q9c (g := (mkF m 20 #[Rf a1, Rf a2] [(.ref rs_7), (.ref sb)])) rfl (by rw [hml]; rfl) (Steps.refl _) (argsL := [(.ref rs_7)]) (rest := []) (lenOf pd_21 rfl) rfl (w0 rfl) (hb hby d12_20) (fun _ _ => ⟨rfl, rfl, (by decide : 4 + 0 ≤ _), (by decide : 32 + 0 ≤ _)⟩)
  dsimp only [Pt.U, Pt.locs, Pt.cells, Pt.slots] at X9 l9 y9 z9 st9 hQ9
  subst l9 y9 z9
  obtain ⟨rfl, N9q, K9q, O9, f9_0, f9_1, f9_2, f9_3⟩ := hQ9
  have N9 := Fr.app N7 N9q
  have CR10 := CR8.trans (CHr.keep K9q (allS (Safe.exa hZ3.alike ((E_sb.ext E3).keep K7q) (by decide) (by decide)) (allS (Safe.keep K7q all0 CR5.1 (C3.safe A_arr.lt hSf)) all0)) CR8.1)
  have Sf9_arr := (Safe.keep K9q (allS (Safe.exa hZ3.alike ((E_sb.ext E3).keep K7q) (by decide) (by decide)) (allS (Safe.keep K7q all0 CR5.1 (C3.safe A_arr.lt hSf)) all0)) CR8.1 (Safe.keep K7q all0 CR5.1 (C3.safe A_arr.lt hSf)))
  have K9 := K7.trans K9q (allS (Or.inl (List.mem_of_getElem? (i := 0) rfl)) (allS (Or.inl (List.mem_of_getElem? (i := 1) rfl)) all0))
  obtain ⟨cq11, kq11, q11a, q11b, q11c⟩ := isOf hZ3 rfl (((E_sb.ext E3).keep K7q).keep K9q)
  obtain ⟨_, _, ⟨T11, L11, k11, n11⟩, -, X11, ⟨Lc11, hQ11, l11, y11, z11⟩, st11⟩ := X9.virtualBack hx (y := m_18) (z := m_18) hown3 (mvT hZ3 (tw hw 88 rfl)) (mvT hZ3 (tw hw 89 rfl)) (notFace_of_selects (args := #[]) (mvT hZ3 (tw hw 91 rfl))) (mvT hZ3 (tw hw 91 rfl)) (mvT hZ3 (tw hw 90 rfl)) (by decide) (backOf (W := 0) (rm15 l Z a0 hw [] sb a2 arr ((0 : Int32) + (8 : Int32)) 8 (cpy z16 0 (cpy (cpy z16 0 s4 0 4) 4 (cpy z16 0 s4 0 4) 0 4) 0 8) sv (2 : Int32) 2 us zC ka ks T9.heap n0 O9 hCS sC (((E_sb.ext E3).keep K7q).keep K9q) f9_0 f9_1 f9_2 f9_3 (((E_a2.ext E3).keep K7q).keep K9q) (((F_coder_a2.ext E3).keep K7q nin0).keep K9q (ninS (Exa.ne E_a2 E_sb (by decide)) (ninS (Exa.neArv (((E_a2.ext E3).keep K7q).keep K9q) f9_3 (tw hw 44 rfl)) nin0))) (((F_value_a2.ext E3).keep K7q nin0).keep K9q (ninS (Exa.ne E_a2 E_sb (by decide)) (ninS (Exa.neArv (((E_a2.ext E3).keep K7q).keep K9q) f9_3 (tw hw 44 rfl)) nin0))) (((A_sv.ext E3).keep K7q nin0).keep K9q (ninS (Ne.symm (Exa.neArv E_sb A_sv (tw hw 10 rfl))) (ninS h_ne nin0))) ge_sb ge_arr (Sm.lit (x := ((0 : Int32) + (8 : Int32))) (n := 8) (by decide)) (Sm.lit (x := (2 : Int32)) (n := 2) (by decide)) (by decide) (own_cpyl rfl (by decide))) hZ3 (tw hw 92 rfl) (tw hw 11 rfl) (by decide) (by decide)) q11a q11c (g := (mkF m 24 #[Rf a1, Rf a2] [(.ref a2), (.ref sb)])) rfl (by rw [hml]; rfl) (Steps.refl _) (argsL := [(.ref a2)]) (rest := []) (lenOf pd_21 rfl) rfl (w0 rfl) (hb hby d12_24) (fun _ _ => ⟨rfl, rfl, (by decide : 4 + 0 ≤ _), (by decide : 32 + 0 ≤ _)⟩)
  dsimp only [Pt.U, Pt.locs, Pt.cells, Pt.slots] at X11 l11 y11 z11 st11 hQ11
  subst l11 y11 z11
  obtain ⟨rfl, N11q, K11q, O11, f11_0, f11_1, f11_2, f11_3⟩ := hQ11
  have N11 := Fr.app N9 N11q
  have CR12 := CR10.trans (CHr.keep K11q (allS (Safe.exa hZ3.alike (((E_sb.ext E3).keep K7q).keep K9q) (by decide) (by decide)) (allS Sf9_arr all0)) CR10.1)
  have Sf11_arr := (Safe.keep K11q (allS (Safe.exa hZ3.alike (((E_sb.ext E3).keep K7q).keep K9q) (by decide) (by decide)) (allS Sf9_arr all0)) CR10.1 Sf9_arr)
  have K11 := K9.trans K11q (allS (Or.inl (List.mem_of_getElem? (i := 0) rfl)) (allS (Or.inl (List.mem_of_getElem? (i := 1) rfl)) all0))
  obtain ⟨T13, X13, e13, st13⟩ := getF X11 hx hZ3 hown3 (host := "") (Or.inl (tw hw 29 rfl)) Via.refl rfl ((((F_text_a1.ext E3).keep K7q nin0).keep K9q (ninS (Exa.ne E_a1 E_sb (by decide)) (ninS (Exa.neArv ((((E_a1.ext E3).keep K7q).keep K9q).keep K11q) f11_3 (tw hw 1 rfl)) nin0))).keep K11q (ninS (Exa.ne E_a1 E_sb (by decide)) (ninS (Exa.neArv ((((E_a1.ext E3).keep K7q).keep K9q).keep K11q) f11_3 (tw hw 1 rfl)) nin0))) (g := (mkF m 29 #[Rf a1, Rf a2] [(.ref a1)])) rfl rfl (hb hby d12_29)
  obtain ⟨cq14, kq14, q14a, q14b, q14c⟩ := isOf hZ3 e13 ((((E_sb.ext E3).keep K7q).keep K9q).keep K11q)
  obtain ⟨_, _, ⟨T14, L14, k14, n14⟩, -, X14, ⟨Lc14, hQ14, l14, y14, z14⟩, st14⟩ := X13.virtualBack hx (y := m_21) (z := m_21) hown3 (mvT hZ3 (tw hw 135 rfl)) (mvT hZ3 (tw hw 136 rfl)) (notFace_of_selects (args := #[]) (mvT hZ3 (tw hw 138 rfl))) (mvT hZ3 (tw hw 138 rfl)) (mvT hZ3 (tw hw 137 rfl)) (by decide) (backOf (W := 0) (rm23 l Z a0 hw [] sb (10 : Int32) arr (((0 : Int32) + (8 : Int32)) + (2 : Int32)) 10 (cpy (cpy z16 0 (cpy (cpy z16 0 s4 0 4) 4 (cpy z16 0 s4 0 4) 0 4) 0 8) 8 us 0 2) zC ka T11.heap n0 O11 hCS sC ((((E_sb.ext E3).keep K7q).keep K9q).keep K11q) f11_0 f11_1 f11_2 f11_3 ge_sb ge_arr (Sm.lit (x := (((0 : Int32) + (8 : Int32)) + (2 : Int32))) (n := 10) (by decide)) (by decide) (own_cpyl (own_cpyl rfl (by decide)) (by decide)) (by decide)) hZ3 (tw hw 139 rfl) (tw hw 11 rfl) (by decide) (by decide)) q14a q14c (g := (mkF m 34 #[Rf a1, Rf a2] [(.int (10 : Int32)), (.ref sb)])) rfl (by rw [hml]; rfl) (Steps.refl _) (argsL := [(.int (10 : Int32))]) (rest := []) (lenOf pd_22 rfl) rfl (w0 rfl) (hb hby d12_34) (fun _ _ => ⟨rfl, e13, (by decide : 4 + 0 ≤ _), (by decide : 32 + 0 ≤ _)⟩)
  dsimp only [Pt.U, Pt.locs, Pt.cells, Pt.slots] at X14 l14 y14 z14 st14 hQ14
  subst l14 y14 z14
  obtain ⟨rfl, N14q, K14q, O14, f14_0, f14_1, f14_2, f14_3⟩ := hQ14
  have N14 := Fr.app N11 N14q
  have CR15 := CR12.trans (CHr.keep K14q (allS (Safe.exa hZ3.alike ((((E_sb.ext E3).keep K7q).keep K9q).keep K11q) (by decide) (by decide)) (allS Sf11_arr all0)) CR12.1)
  have Sf14_arr := (Safe.keep K14q (allS (Safe.exa hZ3.alike ((((E_sb.ext E3).keep K7q).keep K9q).keep K11q) (by decide) (by decide)) (allS Sf11_arr all0)) CR12.1 Sf11_arr)
  have K14 := K11.trans K14q (allS (Or.inl (List.mem_of_getElem? (i := 0) rfl)) (allS (Or.inl (List.mem_of_getElem? (i := 1) rfl)) all0))
  have sg16 : SG p.tables e below (T14.setTop (mkF m 39 #[Rf a1, Rf a2] [(.ref a1)])) (s₁.setTop (mkF m 0 #[Rf a1, Rf a2] [])) := by
    intro target kt
    show Steps _ _ _ (s₁.setTop (mkF m 0 #[Rf a1, Rf a2] [])) _
    refine XS.aloadN X0.here hx rfl (hb hby d12_0) rfl rfl ?_
    refine st1.trans ?_
    refine XS.ifNo X1.here hx rfl (hb hby d12_4) rfl ((if0 _ _).trans (teq (by decide : (0 : Int32) = (0 : Int32))).2) ?_
    refine XS.aloadN X1.here hx rfl (hb hby d12_7) rfl rfl ?_
    refine st2 _ ?_
    refine st3 _ ?_
    refine XS.aloadN X3.here hx rfl (hb hby d12_13) rfl rfl ?_
    refine st6 _ ?_
    refine st7.trans ?_
    refine st9.trans ?_
    refine XS.aloadN X9.here hx rfl (hb hby d12_23) rfl rfl ?_
    refine st11.trans ?_
    refine XS.pop X11.here hx rfl (hb hby d12_27) rfl rfl ?_
    refine XS.aloadN X11.here hx rfl (hb hby d12_28) rfl rfl ?_
    refine st13 _ ?_
    refine XS.bipush X13.here hx rfl (hb hby d12_32) ?_
    refine st14.trans ?_
    refine XS.pop X14.here hx rfl (hb hby d12_37) rfl rfl ?_
    refine XS.aloadN X14.here hx rfl (hb hby d12_38) rfl rfl ?_
    exact kt
  obtain ⟨fs, hr, hrun, hended, hRW⟩ := X14.leaveW Y3 (show _ ≤ T14.heap.size by exact (Nat.le_trans (Nat.le_trans (Nat.le_trans (Nat.le_trans Yk3 K7q.1) K9q.1) K11q.1) K14q.1)) (v := some (.ref a1)) (fun h => by rw [Bd.returns] at h; cases h)
  refine ⟨_, _, pre0 _ (sg16 _ (?_)), hrun, hended, _, _, rfl, ?_, (by rw [hh]; show CHr Z own_EL s.vm h0 T14.vm T14.heap; exact CR15.trans (CHv.at X14 hZ3 hEL CR15.1)), hRW.1, hRW.2.1, hRW.2.2.1, hRW.2.2.2.mono (by decide) (by decide)⟩
  · show Steps _ _ _ (T14.setTop (mkF m 39 #[Rf a1, Rf a2] [(.ref a1)])) _
    jvm_step X14.here [X14.here.top, hx, (hb hby d12_39), X14.method', Bd.returns, Value.isRef, FieldType.isReference]
    first | (intro acts; rw [hr _ acts rfl rfl rfl]) | rw [hr _ _ rfl rfl rfl]
    exact Steps.refl _
  · show Q12_22 Z a1 a2 sb arr sv us zC ka ks h0 n0 _ T14.heap _
    exact ⟨rfl, N14, K14, O14, f14_0, f14_1, (own_fi (by decide) f14_2), f14_3⟩
def Q12_32 (Z : State) (a1 : Addr) (a2 : Addr) (sb : Addr) (arr : Addr) (sv : Addr) (us : List Value) (zC : Int32) (ka : ClassId) (ks : ClassId) (h0 : Heap) (n0 : Nat) (v : Option Value) (h : Heap) (L : List Loc) : Prop := v = some (.ref a1) ∧ Fr n0 L ∧ Keep h0 h [sb, arr] ∧ Old Z n0 h ∧ Fld Z h sb "java/lang/AbstractStringBuilder" "value" "[B" (.ref arr) ∧ Fld Z h sb "java/lang/AbstractStringBuilder" "coder" "B" (.int (0 : Int32)) ∧ Fld Z h sb "java/lang/AbstractStringBuilder" "count" "I" (.int (15 : Int32)) ∧ Arv Z h arr ka .byte (16 : Int32) ((cpy (cpy z16 0 (cpy (cpy (cpy z16 0 s4 0 4) 4 (cpy z16 0 s4 0 4) 0 4) 8 (cpy (cpy z16 0 s4 0 4) 4 (cpy z16 0 s4 0 4) 0 4) 0 4) 0 12) 12 us 0 2).set 14 (.int ((10 : Int32).toInt8.toInt32.toInt8.toInt32))) (.int (0 : Int32))
theorem rm12_32 (l : Launch) (Z : State) (a0 : Array Value) (hw : ∀ d ∈ tables_1, d.before a0 Z = true) (ws : List Jvm.Cond) (a1 : Addr) (a2 : Addr) (sb : Addr) (arr : Addr) (sv : Addr) (us : List Value) (zC : Int32) (ka : ClassId) (ks : ClassId) (h0 : Heap) (n0 : Nat) (O0 : Old Z n0 h0) (sC : TS_0 Z zC) (E_a1 : Exa Z h0 a1 "com/example/tetrad/tetrad/generate/SourceText") (F_text_a1 : Fld Z h0 a1 "com/example/tetrad/tetrad/generate/SourceText" "text" "Ljava/lang/StringBuilder;" (.ref sb)) (F_depth_a1 : Fld Z h0 a1 "com/example/tetrad/tetrad/generate/SourceText" "depth" "I" (.int (3 : Int32))) (E_sb : Exa Z h0 sb "java/lang/StringBuilder") (F_value_sb : Fld Z h0 sb "java/lang/AbstractStringBuilder" "value" "[B" (.ref arr)) (F_coder_sb : Fld Z h0 sb "java/lang/AbstractStringBuilder" "coder" "B" (.int (0 : Int32))) (F_count_sb : Fld Z h0 sb "java/lang/AbstractStringBuilder" "count" "I" (.int (0 : Int32))) (A_arr : Arv Z h0 arr ka .byte (16 : Int32) z16 (.int (0 : Int32))) (E_a2 : Exa Z h0 a2 "java/lang/String") (F_coder_a2 : Fld Z h0 a2 "java/lang/String" "coder" "B" (.int (0 : Int32))) (F_value_a2 : Fld Z h0 a2 "java/lang/String" "value" "[B" (.ref sv)) (A_sv : Arv Z h0 sv ks .byte (2 : Int32) us (.int (0 : Int32))) (ge_sb : n0 ≤ sb) (ge_arr : n0 ≤ arr) (h_ne : sv ≠ arr) (hCS : ¬ zC = 0) :
    MetFree l m_33 (head1 (Jvm.Cond.code m_33 prog_51_method_2_code 2 (some (.object "com/example/tetrad/tetrad/generate/SourceText")) :: ws) (rk 5 4 36 96)) (fun a U => a = #[(.ref a1), (.ref a2)] ∧ Z.Warmed39 U.vm ∧ U.heap = h0 ∧ CHv Z own_EL U.vm h0 ∧ Safe Z own_EL U.vm h0 arr) (fun _ _ _ _ _ => True) (fun _ U o U' => ∃ v L, o = .returned v ∧ Q12_32 Z a1 a2 sb arr sv us zC ka ks h0 n0 v U'.heap L ∧ CHr Z own_EL U.vm U.heap U'.vm U'.heap ∧ ReturnedEndW U o U' L (rk 5 4 36 96).cells (rk 5 4 36 96).slots) := by
  refine MetFree.of_bodySF (plainFor_of_name pn_3) hisR ?_
  intro p e s m args below meth c s₁ Bd hml0 hP hK
  obtain ⟨rfl, hZ, hh, hCH, hSf⟩ := hP
  have hx := Bd.exec
  have hby := Bd.bytes
  have hml : c.maxLocals = 2 := hml0
  have hown : s.vm.findClass "com/example/tetrad/tetrad/generate/SourceText" = some m.cls := findClass_of_methodNamed Bd.named
  have X0 : Stand p l e (rk 5 4 36 96) (s.setVm s.vm) m #[(.ref a1), (.ref a2)] below meth c s₁ [] 0 0 := Stand.of_body Bd
  have e0 : s₁.heap = h0 := by rw [← hh, Bd.state]; rfl
  have N0 := Fr.nil n0
  have pre0 := own_pre (tb := p.tables) (e := e) (bl := below) (s := s₁) (ef_21 m a1 a2)
  have Y0 : s.Since s.vm h0.size := (State.WarmedH.refl s).since h0.size
  have Yk0 : h0.size ≤ h0.size := Nat.le_refl _
  have CR0 : CHr Z own_EL s.vm h0 s.vm h0 := CHr.refl hCH
  have hEL := own_EW hw
  have hSA := own_SA hw
  have K0 := Keep.refl h0 [sb, arr]
  obtain ⟨cq1, kq1, q1a, q1b, q1c⟩ := isOf hZ e0 E_a2
  obtain ⟨_, _, ⟨T1, L1, k1, n1⟩, -, X1, ⟨Lc1, hQ1, l1, y1, z1⟩, st1⟩ := X0.virtualBack hx (y := m_3) (z := m_3) hown (mvT hZ (tw hw 74 rfl)) (mvT hZ (tw hw 75 rfl)) (notFace_of_selects (args := #[]) (mvT hZ (tw hw 77 rfl))) (mvT hZ (tw hw 77 rfl)) (mvT hZ (tw hw 76 rfl)) (by decide) (backOf (W := 0) (rm13_n l Z a0 hw [] a2 sv (2 : Int32) us ks h0 n0 O0 (by decide) E_a2 F_coder_a2 F_value_a2 A_sv) hZ (tw hw 78 rfl) (tw hw 23 rfl) (by decide) (by decide)) q1a q1c (g := (mkF m 1 #[Rf a1, Rf a2] [(.ref a2)])) rfl (by rw [hml]; rfl) (Steps.refl _) (argsL := []) (rest := []) (lenOf pd_8 rfl) rfl (w0 rfl) (hb hby d12_1) (fun _ _ => ⟨rfl, e0, (by decide : 0 + 0 ≤ _), (by decide : 0 + 0 ≤ _)⟩)
  dsimp only [Pt.U, Pt.locs, Pt.cells, Pt.slots] at X1 l1 y1 z1 st1 hQ1
  subst l1 y1 z1
  obtain ⟨rfl, N1q, e1⟩ := hQ1
  have N1 := Fr.app N0 N1q
  obtain ⟨T2, X2, e2, st2⟩ := getF X1 hx hZ hown (host := "") (Or.inl (tw hw 29 rfl)) Via.refl e1 F_text_a1 (g := (mkF m 8 #[Rf a1, Rf a2] [(.ref a1)])) rfl rfl (hb hby d12_8)
  obtain ⟨sa3, T3, h3, k3, sb3, kb3, X3, e3, E3, Y3, Yk3, hZ3, hown3, A3, Fc3, Fv3, V3, la3, lb3, C3, Lt3, SF3, st3⟩ := ldcCH X2 hx hZ hown (tw hw 79 rfl) hSA e2 Y0 Yk0 hEL (own_mem (by decide)) CR0.1 (vs := [(.int (32 : Int32)), (.int (32 : Int32)), (.int (32 : Int32)), (.int (32 : Int32))]) (z := (4 : Int32)) (by decide) (by decide) (by decide) (g := (mkF m 11 #[Rf a1, Rf a2] [(.ref sb)])) rfl (hb hby d12_11) (n := 16) (by decide) (by decide) (by decide) (by decide)
  have O4 := O0.ext E3
  have K3 := K0.ext E3
  have CR5 := CR0.trans (C3)
  obtain ⟨T6, X6, e6, st6⟩ := getF X3 hx hZ3 hown3 (host := "") (Or.inl (tw hw 36 rfl)) Via.refl e3 (F_depth_a1.ext E3) (g := (mkF m 14 #[Rf a1, Rf a2] [(.ref a1), (.ref sa3), (.ref sb)])) rfl rfl (hb hby d12_14)
  obtain ⟨cq7, kq7, q7a, q7b, q7c⟩ := isOf hZ3 e6 A3
  obtain ⟨_, _, ⟨T7, L7, k7, n7⟩, -, X7, ⟨Lc7, hQ7, l7, y7, z7⟩, st7⟩ := X6.virtualBack hx (y := m_32) (z := m_32) hown3 (mvT hZ3 (tw hw 82 rfl)) (mvT hZ3 (tw hw 83 rfl)) (notFace_of_selects (args := #[]) (mvT hZ3 (tw hw 85 rfl))) (mvT hZ3 (tw hw 85 rfl)) (mvT hZ3 (tw hw 84 rfl)) (by decide) (backOf (W := 1) (rm14_3 l Z a0 hw [] sa3 sb3 s4 kb3 h3 n0 O4 A3 Fc3 Fv3 V3) hZ3 (tw hw 86 rfl) (tw hw 23 rfl) (by decide) (by decide)) q7a q7c (g := (mkF m 17 #[Rf a1, Rf a2] [(.int (3 : Int32)), (.ref sa3), (.ref sb)])) rfl (by rw [hml]; rfl) (Steps.refl _) (argsL := [(.int (3 : Int32))]) (rest := [(.ref sb)]) (lenOf pd_20 rfl) rfl (w0 rfl) (hb hby d12_17) (fun _ _ => ⟨rfl, e6, (by decide : 2 + 2 ≤ _), (by decide : 20 + 16 ≤ _)⟩)
  dsimp only [Pt.U, Pt.locs, Pt.cells, Pt.slots] at X7 l7 y7 z7 st7 hQ7
  subst l7 y7 z7
  obtain ⟨rs_7, ro_7, ko_7, rfl, N7q, K7q, O7, f7_0, f7_1, f7_2, f7_3, f7_4, f7_5, f7_6, f7_7⟩ := hQ7
  have N7 := Fr.app N1 N7q
  have CR8 := CR5.trans (CHr.keep K7q all0 CR5.1)
  have K7 := K3.trans K7q all0
  obtain ⟨cq9, kq9, q9a, q9b, q9c⟩ := isOf hZ3 rfl ((E_sb.ext E3).keep K7q)
  obtain ⟨_, _, ⟨T9, L9, k9, n9⟩, -, X9, ⟨Lc9, hQ9, l9, y9, z9⟩, st9⟩ := X7.virtualBack hx (y := m_18) (z := m_18) hown3 (mvT hZ3 (tw hw 88 rfl)) (mvT hZ3 (tw hw 89 rfl)) (notFace_of_selects (args := #[]) (mvT hZ3 (tw hw 91 rfl))) (mvT hZ3 (tw hw 91 rfl)) (mvT hZ3 (tw hw 90 rfl)) (by decide) (backOf (W := 0) (rm15 l Z a0 hw [] sb rs_7 arr (0 : Int32) 0 z16 ro_7 (12 : Int32) 12 (cpy (cpy (cpy z16 0 s4 0 4) 4 (cpy z16 0 s4 0 4) 0 4) 8 (cpy (cpy z16 0 s4 0 4) 4 (cpy z16 0 s4 0 4) 0 4) 0 4) zC ka ko_7 T7.heap n0 O7 hCS sC ((E_sb.ext E3).keep K7q) ((F_value_sb.ext E3).keep K7q nin0) ((F_coder_sb.ext E3).keep K7q nin0) ((F_count_sb.ext E3).keep K7q nin0) ((A_arr.ext E3).keep K7q nin0) f7_0 f7_3 f7_4 f7_5 ge_sb ge_arr (Sm.lit (x := (0 : Int32)) (n := 0) (by decide)) (Sm.lit (x := (12 : Int32)) (n := 12) (by decide)) (by decide) rfl) hZ3 (tw hw 92 rfl) (tw hw 11 rfl) (by decide) (by decide)) q9a q9c (g := (mkF m 20 #[Rf a1, Rf a2] [(.ref rs_7), (.ref sb)])) rfl (by rw [hml]; rfl) (Steps.refl _) (argsL := [(.ref rs_7)]) (rest := []) (lenOf pd_21 rfl) rfl (w0 rfl) (hb hby d12_20) (fun _ _ => ⟨rfl, rfl, (by decide : 4 + 0 ≤ _), (by decide : 36 + 0 ≤ _)⟩)
  dsimp only [Pt.U, Pt.locs, Pt.cells, Pt.slots] at X9 l9 y9 z9 st9 hQ9
  subst l9 y9 z9
  obtain ⟨rfl, N9q, K9q, O9, f9_0, f9_1, f9_2, f9_3⟩ := hQ9
  have N9 := Fr.app N7 N9q
  have CR10 := CR8.trans (CHr.keep K9q (allS (Safe.exa hZ3.alike ((E_sb.ext E3).keep K7q) (by decide) (by decide)) (allS (Safe.keep K7q all0 CR5.1 (C3.safe A_arr.lt hSf)) all0)) CR8.1)
  have Sf9_arr := (Safe.keep K9q (allS (Safe.exa hZ3.alike ((E_sb.ext E3).keep K7q) (by decide) (by decide)) (allS (Safe.keep K7q all0 CR5.1 (C3.safe A_arr.lt hSf)) all0)) CR8.1 (Safe.keep K7q all0 CR5.1 (C3.safe A_arr.lt hSf)))
  have K9 := K7.trans K9q (allS (Or.inl (List.mem_of_getElem? (i := 0) rfl)) (allS (Or.inl (List.mem_of_getElem? (i := 1) rfl)) all0))
  obtain ⟨cq11, kq11, q11a, q11b, q11c⟩ := isOf hZ3 rfl (((E_sb.ext E3).keep K7q).keep K9q)
  obtain ⟨_, _, ⟨T11, L11, k11, n11⟩, -, X11, ⟨Lc11, hQ11, l11, y11, z11⟩, st11⟩ := X9.virtualBack hx (y := m_18) (z := m_18) hown3 (mvT hZ3 (tw hw 88 rfl)) (mvT hZ3 (tw hw 89 rfl)) (notFace_of_selects (args := #[]) (mvT hZ3 (tw hw 91 rfl))) (mvT hZ3 (tw hw 91 rfl)) (mvT hZ3 (tw hw 90 rfl)) (by decide) (backOf (W := 0) (rm15 l Z a0 hw [] sb a2 arr ((0 : Int32) + (12 : Int32)) 12 (cpy z16 0 (cpy (cpy (cpy z16 0 s4 0 4) 4 (cpy z16 0 s4 0 4) 0 4) 8 (cpy (cpy z16 0 s4 0 4) 4 (cpy z16 0 s4 0 4) 0 4) 0 4) 0 12) sv (2 : Int32) 2 us zC ka ks T9.heap n0 O9 hCS sC (((E_sb.ext E3).keep K7q).keep K9q) f9_0 f9_1 f9_2 f9_3 (((E_a2.ext E3).keep K7q).keep K9q) (((F_coder_a2.ext E3).keep K7q nin0).keep K9q (ninS (Exa.ne E_a2 E_sb (by decide)) (ninS (Exa.neArv (((E_a2.ext E3).keep K7q).keep K9q) f9_3 (tw hw 44 rfl)) nin0))) (((F_value_a2.ext E3).keep K7q nin0).keep K9q (ninS (Exa.ne E_a2 E_sb (by decide)) (ninS (Exa.neArv (((E_a2.ext E3).keep K7q).keep K9q) f9_3 (tw hw 44 rfl)) nin0))) (((A_sv.ext E3).keep K7q nin0).keep K9q (ninS (Ne.symm (Exa.neArv E_sb A_sv (tw hw 10 rfl))) (ninS h_ne nin0))) ge_sb ge_arr (Sm.lit (x := ((0 : Int32) + (12 : Int32))) (n := 12) (by decide)) (Sm.lit (x := (2 : Int32)) (n := 2) (by decide)) (by decide) (own_cpyl rfl (by decide))) hZ3 (tw hw 92 rfl) (tw hw 11 rfl) (by decide) (by decide)) q11a q11c (g := (mkF m 24 #[Rf a1, Rf a2] [(.ref a2), (.ref sb)])) rfl (by rw [hml]; rfl) (Steps.refl _) (argsL := [(.ref a2)]) (rest := []) (lenOf pd_21 rfl) rfl (w0 rfl) (hb hby d12_24) (fun _ _ => ⟨rfl, rfl, (by decide : 4 + 0 ≤ _), (by decide : 36 + 0 ≤ _)⟩)
  dsimp only [Pt.U, Pt.locs, Pt.cells, Pt.slots] at X11 l11 y11 z11 st11 hQ11
  subst l11 y11 z11
  obtain ⟨rfl, N11q, K11q, O11, f11_0, f11_1, f11_2, f11_3⟩ := hQ11
  have N11 := Fr.app N9 N11q
  have CR12 := CR10.trans (CHr.keep K11q (allS (Safe.exa hZ3.alike (((E_sb.ext E3).keep K7q).keep K9q) (by decide) (by decide)) (allS Sf9_arr all0)) CR10.1)
  have Sf11_arr := (Safe.keep K11q (allS (Safe.exa hZ3.alike (((E_sb.ext E3).keep K7q).keep K9q) (by decide) (by decide)) (allS Sf9_arr all0)) CR10.1 Sf9_arr)
  have K11 := K9.trans K11q (allS (Or.inl (List.mem_of_getElem? (i := 0) rfl)) (allS (Or.inl (List.mem_of_getElem? (i := 1) rfl)) all0))
  obtain ⟨T13, X13, e13, st13⟩ := getF X11 hx hZ3 hown3 (host := "") (Or.inl (tw hw 29 rfl)) Via.refl rfl ((((F_text_a1.ext E3).keep K7q nin0).keep K9q (ninS (Exa.ne E_a1 E_sb (by decide)) (ninS (Exa.neArv ((((E_a1.ext E3).keep K7q).keep K9q).keep K11q) f11_3 (tw hw 1 rfl)) nin0))).keep K11q (ninS (Exa.ne E_a1 E_sb (by decide)) (ninS (Exa.neArv ((((E_a1.ext E3).keep K7q).keep K9q).keep K11q) f11_3 (tw hw 1 rfl)) nin0))) (g := (mkF m 29 #[Rf a1, Rf a2] [(.ref a1)])) rfl rfl (hb hby d12_29)
  obtain ⟨cq14, kq14, q14a, q14b, q14c⟩ := isOf hZ3 e13 ((((E_sb.ext E3).keep K7q).keep K9q).keep K11q)
  obtain ⟨_, _, ⟨T14, L14, k14, n14⟩, -, X14, ⟨Lc14, hQ14, l14, y14, z14⟩, st14⟩ := X13.virtualBack hx (y := m_21) (z := m_21) hown3 (mvT hZ3 (tw hw 135 rfl)) (mvT hZ3 (tw hw 136 rfl)) (notFace_of_selects (args := #[]) (mvT hZ3 (tw hw 138 rfl))) (mvT hZ3 (tw hw 138 rfl)) (mvT hZ3 (tw hw 137 rfl)) (by decide) (backOf (W := 0) (rm23 l Z a0 hw [] sb (10 : Int32) arr (((0 : Int32) + (12 : Int32)) + (2 : Int32)) 14 (cpy (cpy z16 0 (cpy (cpy (cpy z16 0 s4 0 4) 4 (cpy z16 0 s4 0 4) 0 4) 8 (cpy (cpy z16 0 s4 0 4) 4 (cpy z16 0 s4 0 4) 0 4) 0 4) 0 12) 12 us 0 2) zC ka T11.heap n0 O11 hCS sC ((((E_sb.ext E3).keep K7q).keep K9q).keep K11q) f11_0 f11_1 f11_2 f11_3 ge_sb ge_arr (Sm.lit (x := (((0 : Int32) + (12 : Int32)) + (2 : Int32))) (n := 14) (by decide)) (by decide) (own_cpyl (own_cpyl rfl (by decide)) (by decide)) (by decide)) hZ3 (tw hw 139 rfl) (tw hw 11 rfl) (by decide) (by decide)) q14a q14c (g := (mkF m 34 #[Rf a1, Rf a2] [(.int (10 : Int32)), (.ref sb)])) rfl (by rw [hml]; rfl) (Steps.refl _) (argsL := [(.int (10 : Int32))]) (rest := []) (lenOf pd_22 rfl) rfl (w0 rfl) (hb hby d12_34) (fun _ _ => ⟨rfl, e13, (by decide : 4 + 0 ≤ _), (by decide : 36 + 0 ≤ _)⟩)
  dsimp only [Pt.U, Pt.locs, Pt.cells, Pt.slots] at X14 l14 y14 z14 st14 hQ14
  subst l14 y14 z14
  obtain ⟨rfl, N14q, K14q, O14, f14_0, f14_1, f14_2, f14_3⟩ := hQ14
  have N14 := Fr.app N11 N14q
  have CR15 := CR12.trans (CHr.keep K14q (allS (Safe.exa hZ3.alike ((((E_sb.ext E3).keep K7q).keep K9q).keep K11q) (by decide) (by decide)) (allS Sf11_arr all0)) CR12.1)
  have Sf14_arr := (Safe.keep K14q (allS (Safe.exa hZ3.alike ((((E_sb.ext E3).keep K7q).keep K9q).keep K11q) (by decide) (by decide)) (allS Sf11_arr all0)) CR12.1 Sf11_arr)
  have K14 := K11.trans K14q (allS (Or.inl (List.mem_of_getElem? (i := 0) rfl)) (allS (Or.inl (List.mem_of_getElem? (i := 1) rfl)) all0))
  have sg16 : SG p.tables e below (T14.setTop (mkF m 39 #[Rf a1, Rf a2] [(.ref a1)])) (s₁.setTop (mkF m 0 #[Rf a1, Rf a2] [])) := by
    intro target kt
    show Steps _ _ _ (s₁.setTop (mkF m 0 #[Rf a1, Rf a2] [])) _
    refine XS.aloadN X0.here hx rfl (hb hby d12_0) rfl rfl ?_
    refine st1.trans ?_
    refine XS.ifNo X1.here hx rfl (hb hby d12_4) rfl ((if0 _ _).trans (teq (by decide : (0 : Int32) = (0 : Int32))).2) ?_
    refine XS.aloadN X1.here hx rfl (hb hby d12_7) rfl rfl ?_
    refine st2 _ ?_
    refine st3 _ ?_
    refine XS.aloadN X3.here hx rfl (hb hby d12_13) rfl rfl ?_
    refine st6 _ ?_
    refine st7.trans ?_
    refine st9.trans ?_
    refine XS.aloadN X9.here hx rfl (hb hby d12_23) rfl rfl ?_
    refine st11.trans ?_
    refine XS.pop X11.here hx rfl (hb hby d12_27) rfl rfl ?_
    refine XS.aloadN X11.here hx rfl (hb hby d12_28) rfl rfl ?_
    refine st13 _ ?_
    refine XS.bipush X13.here hx rfl (hb hby d12_32) ?_
    refine st14.trans ?_
    refine XS.pop X14.here hx rfl (hb hby d12_37) rfl rfl ?_
    refine XS.aloadN X14.here hx rfl (hb hby d12_38) rfl rfl ?_
    exact kt
  obtain ⟨fs, hr, hrun, hended, hRW⟩ := X14.leaveW Y3 (show _ ≤ T14.heap.size by exact (Nat.le_trans (Nat.le_trans (Nat.le_trans (Nat.le_trans Yk3 K7q.1) K9q.1) K11q.1) K14q.1)) (v := some (.ref a1)) (fun h => by rw [Bd.returns] at h; cases h)
  refine ⟨_, _, pre0 _ (sg16 _ (?_)), hrun, hended, _, _, rfl, ?_, (by rw [hh]; show CHr Z own_EL s.vm h0 T14.vm T14.heap; exact CR15.trans (CHv.at X14 hZ3 hEL CR15.1)), hRW.1, hRW.2.1, hRW.2.2.1, hRW.2.2.2.mono (by decide) (by decide)⟩
  · show Steps _ _ _ (T14.setTop (mkF m 39 #[Rf a1, Rf a2] [(.ref a1)])) _
    jvm_step X14.here [X14.here.top, hx, (hb hby d12_39), X14.method', Bd.returns, Value.isRef, FieldType.isReference]
    first | (intro acts; rw [hr _ acts rfl rfl rfl]) | rw [hr _ _ rfl rfl rfl]
    exact Steps.refl _
  · show Q12_32 Z a1 a2 sb arr sv us zC ka ks h0 n0 _ T14.heap _
    exact ⟨rfl, N14, K14, O14, f14_0, f14_1, (own_fi (by decide) f14_2), f14_3⟩
def Q44_n (Z : State) (p1 : Int32) (p2 : Int32) (h0 : Heap) (n0 : Nat) (v : Option Value) (h : Heap) (L : List Loc) : Prop := v = some (.int p1) ∧ Fr n0 L ∧ h = h0
theorem ef_44_n (m : MethodId) (x0 : Int32) (x1 : Int32) : entryFrame m #[(.int x0), (.int x1), .null] 3 = mkF m 0 #[.val (.int x0), .val (.int x1), .val .null] [] := by first | (simp [entryFrame, mkF, argsToLocals, Value.category]; done) | rfl
theorem rm44_n (l : Launch) (Z : State) (a0 : Array Value) (hw : ∀ d ∈ tables_1, d.before a0 Z = true) (ws : List Jvm.Cond) (p1 : Int32) (p2 : Int32) (h0 : Heap) (n0 : Nat) (O0 : Old Z n0 h0) (h1 : ¬ p1 < (0 : Int32)) (h2 : p1 < p2) :
    MetFree l m_34 (head1 (Jvm.Cond.code m_34 jdk_41_method_11_code 3 (some .int) :: ws) (rk 0 0 0 0)) (fun a U => a = #[(.int p1), (.int p2), .null] ∧ Z.Warmed39 U.vm ∧ U.heap = h0) (fun _ _ _ _ _ => True) (fun _ U o U' => ∃ v L, o = .returned v ∧ Q44_n Z p1 p2 h0 n0 v U'.heap L ∧ FrameEnd U o U' L (rk 0 0 0 0).cells (rk 0 0 0 0).slots) := by
  refine MetFree.of_bodySF (plainFor_of_name pn_6) hisR ?_
  intro p e s m args below meth c s₁ Bd hml0 hP hK
  obtain ⟨rfl, hZ, hh⟩ := hP
  have hx := Bd.exec
  have hby := Bd.bytes
  have hml : c.maxLocals = 3 := hml0
  have hown : s.vm.findClass "jdk/internal/util/Preconditions" = some m.cls := findClass_of_methodNamed Bd.named
  have X0 : Stand p l e (rk 0 0 0 0) s m #[(.int p1), (.int p2), .null] below meth c s₁ [] 0 0 := Stand.of_body Bd
  have e0 : s₁.heap = h0 := by rw [← hh, Bd.state]; rfl
  have N0 := Fr.nil n0
  have pre0 := own_pre (tb := p.tables) (e := e) (bl := below) (s := s₁) (ef_44_n m p1 p2)
  have sg1 : SG p.tables e below (s₁.setTop (mkF m 17 #[It p1, It p2, .val .null] [(.int p1)])) (s₁.setTop (mkF m 0 #[It p1, It p2, .val .null] [])) := by
    intro target kt
    show Steps _ _ _ (s₁.setTop (mkF m 0 #[It p1, It p2, .val .null] [])) _
    refine XS.iloadN X0.here hx rfl (hb hby d44_0) rfl ?_
    refine XS.ifNo X0.here hx rfl (hb hby d44_1) rfl ((if0 _ _).trans (flt h1).1) ?_
    refine XS.iloadN X0.here hx rfl (hb hby d44_4) rfl ?_
    refine XS.iloadN X0.here hx rfl (hb hby d44_5) rfl ?_
    refine XS.icmpYes X0.here hx rfl (pc0 := 6) (pc' := 16) rfl (hb hby d44_6) rfl (tlt h2).1 (by decide) (by decide) ?_
    refine XS.iloadN X0.here hx rfl (hb hby d44_16) rfl ?_
    exact kt
  obtain ⟨fs, hr, hrun, hended, hW, hsame⟩ := X0.leave (v := some (.int p1)) (fun h => by rw [Bd.returns] at h; cases h)
  refine ⟨_, _, pre0 _ (sg1 _ (?_)), hrun, hended, _, _, rfl, ?_, ⟨_, rfl⟩, hW, hsame.mono (by decide) (by decide)⟩
  · show Steps _ _ _ (s₁.setTop (mkF m 17 #[It p1, It p2, .val .null] [(.int p1)])) _
    exact retI X0 hx Bd.returns (hb hby d44_17) hr
  · show Q44_n Z p1 p2 h0 n0 _ s₁.heap _
    rw [e0]
    exact ⟨rfl, N0, rfl⟩
def Q43_n (Z : State) (p1 : Int32) (p2 : Int32) (h0 : Heap) (n0 : Nat) (v : Option Value) (h : Heap) (L : List Loc) : Prop := v = none ∧ Fr n0 L ∧ h = h0
theorem rm43_n (l : Launch) (Z : State) (a0 : Array Value) (hw : ∀ d ∈ tables_1, d.before a0 Z = true) (ws : List Jvm.Cond) (p1 : Int32) (p2 : Int32) (h0 : Heap) (n0 : Nat) (O0 : Old Z n0 h0) (h1 : ¬ p1 < (0 : Int32)) (h2 : p1 < p2) (sF : TS_1 Z) :
    MetFree l m_35 (head1 (Jvm.Cond.code m_35 jdk_42_method_155_code 2 none :: ws) (rk 1 0 0 14)) (fun a U => a = #[(.int p1), (.int p2)] ∧ Z.Warmed39 U.vm ∧ U.heap = h0) (fun _ _ _ _ _ => True) (fun _ U o U' => ∃ v L, o = .returned v ∧ Q43_n Z p1 p2 h0 n0 v U'.heap L ∧ FrameEnd U o U' L (rk 1 0 0 14).cells (rk 1 0 0 14).slots) := by
  refine MetFree.of_bodySF (plainFor_of_name pn_0) hisR ?_
  intro p e s m args below meth c s₁ Bd hml0 hP hK
  obtain ⟨rfl, hZ, hh⟩ := hP
  have hx := Bd.exec
  have hby := Bd.bytes
  have hml : c.maxLocals = 2 := hml0
  have hown : s.vm.findClass "java/lang/String" = some m.cls := findClass_of_methodNamed Bd.named
  have X0 : Stand p l e (rk 1 0 0 14) s m #[(.int p1), (.int p2)] below meth c s₁ [] 0 0 := Stand.of_body Bd
  have e0 : s₁.heap = h0 := by rw [← hh, Bd.state]; rfl
  have N0 := Fr.nil n0
  have pre0 := own_pre (tb := p.tables) (e := e) (bl := below) (s := s₁) (ef_37 m p1 p2)
  obtain ⟨T1, X1, e1, st1⟩ := getS2 X0 hx hZ hown (host := "") (Or.inl (tw hw 223 rfl)) Via.refl e0 (sF.ext O0.2) (g := (mkF m 2 #[It p1, It p2] [(.int p2), (.int p1)])) rfl (hb hby d43_2)
  obtain ⟨_, _, ⟨T2, L2, k2, n2⟩, -, X2, ⟨Lc2, hQ2, l2, y2, z2⟩, st2⟩ := Jvm.LawKit.callS X1 hx (y := m_34) hown (mvT hZ (tw hw 225 rfl)) (mvT hZ (tw hw 226 rfl)) (mvT hZ (tw hw 224 rfl)) (mvT hZ (tw hw 227 rfl)) (by decide) (backOf (W := 0) (rm44_n l Z a0 hw [] p1 p2 h0 n0 O0 h1 h2) hZ (tw hw 227 rfl) (tw hw 224 rfl) (by decide) (by decide)) (g := (mkF m 5 #[It p1, It p2] [.null, (.int p2), (.int p1)])) rfl (by rw [hml]; rfl) (argsL := [(.int p1), (.int p2), .null]) (rest := []) (lenOf pd_23 rfl) rfl (w0 rfl) (hb hby d43_5) (fun _ _ => ⟨rfl, e1, (by decide : 0 + 0 ≤ _), (by decide : 0 + 0 ≤ _)⟩)
  dsimp only [Pt.U, Pt.locs, Pt.cells, Pt.slots] at X2 l2 y2 z2 st2 hQ2
  subst l2 y2 z2
  obtain ⟨rfl, N2q, e2⟩ := hQ2
  have N2 := Fr.app N0 N2q
  have sg3 : SG p.tables e below (T2.setTop (mkF m 9 #[It p1, It p2] [])) (s₁.setTop (mkF m 0 #[It p1, It p2] [])) := by
    intro target kt
    show Steps _ _ _ (s₁.setTop (mkF m 0 #[It p1, It p2] [])) _
    refine XS.iloadN X0.here hx rfl (hb hby d43_0) rfl ?_
    refine XS.iloadN X0.here hx rfl (hb hby d43_1) rfl ?_
    refine st1 _ ?_
    refine st2 _ ?_
    refine XS.pop X2.here hx rfl (hb hby d43_8) rfl rfl ?_
    exact kt
  obtain ⟨fs, hr, hrun, hended, hW, hsame⟩ := X2.leave (v := none) (fun _ => rfl)
  refine ⟨_, _, pre0 _ (sg3 _ (?_)), hrun, hended, _, _, rfl, ?_, ⟨_, rfl⟩, hW, hsame.mono (by decide) (by decide)⟩
  · show Steps _ _ _ (T2.setTop (mkF m 9 #[It p1, It p2] [])) _
    exact X2.returnOut hx Bd.returns (hb hby d43_9) hr
  · show Q43_n Z p1 p2 h0 n0 _ T2.heap _
    rw [e2]
    exact ⟨rfl, N2, rfl⟩
def Q44_r (Z : State) (p1 : Int32) (p2 : Int32) (a3 : Addr) (h0 : Heap) (n0 : Nat) (v : Option Value) (h : Heap) (L : List Loc) : Prop := v = some (.int p1) ∧ Fr n0 L ∧ h = h0
theorem ef_44_r (m : MethodId) (x0 : Int32) (x1 : Int32) (x2 : Addr) : entryFrame m #[(.int x0), (.int x1), (.ref x2)] 3 = mkF m 0 #[.val (.int x0), .val (.int x1), .val (.ref x2)] [] := by first | (simp [entryFrame, mkF, argsToLocals, Value.category]; done) | rfl
theorem rm44_r (l : Launch) (Z : State) (a0 : Array Value) (hw : ∀ d ∈ tables_1, d.before a0 Z = true) (ws : List Jvm.Cond) (p1 : Int32) (p2 : Int32) (a3 : Addr) (h0 : Heap) (n0 : Nat) (O0 : Old Z n0 h0) (h1 : ¬ p1 < (0 : Int32)) (h2 : p1 < p2) :
    MetFree l m_34 (head1 (Jvm.Cond.code m_34 jdk_41_method_11_code 3 (some .int) :: ws) (rk 0 0 0 0)) (fun a U => a = #[(.int p1), (.int p2), (.ref a3)] ∧ Z.Warmed39 U.vm ∧ U.heap = h0) (fun _ _ _ _ _ => True) (fun _ U o U' => ∃ v L, o = .returned v ∧ Q44_r Z p1 p2 a3 h0 n0 v U'.heap L ∧ FrameEnd U o U' L (rk 0 0 0 0).cells (rk 0 0 0 0).slots) := by
  refine MetFree.of_bodySF (plainFor_of_name pn_6) hisR ?_
  intro p e s m args below meth c s₁ Bd hml0 hP hK
  obtain ⟨rfl, hZ, hh⟩ := hP
  have hx := Bd.exec
  have hby := Bd.bytes
  have hml : c.maxLocals = 3 := hml0
  have hown : s.vm.findClass "jdk/internal/util/Preconditions" = some m.cls := findClass_of_methodNamed Bd.named
  have X0 : Stand p l e (rk 0 0 0 0) s m #[(.int p1), (.int p2), (.ref a3)] below meth c s₁ [] 0 0 := Stand.of_body Bd
  have e0 : s₁.heap = h0 := by rw [← hh, Bd.state]; rfl
  have N0 := Fr.nil n0
  have pre0 := own_pre (tb := p.tables) (e := e) (bl := below) (s := s₁) (ef_44_r m p1 p2 a3)
  have sg1 : SG p.tables e below (s₁.setTop (mkF m 17 #[It p1, It p2, Rf a3] [(.int p1)])) (s₁.setTop (mkF m 0 #[It p1, It p2, Rf a3] [])) := by
    intro target kt
    show Steps _ _ _ (s₁.setTop (mkF m 0 #[It p1, It p2, Rf a3] [])) _
    refine XS.iloadN X0.here hx rfl (hb hby d44_0) rfl ?_
    refine XS.ifNo X0.here hx rfl (hb hby d44_1) rfl ((if0 _ _).trans (flt h1).1) ?_
    refine XS.iloadN X0.here hx rfl (hb hby d44_4) rfl ?_
    refine XS.iloadN X0.here hx rfl (hb hby d44_5) rfl ?_
    refine XS.icmpYes X0.here hx rfl (pc0 := 6) (pc' := 16) rfl (hb hby d44_6) rfl (tlt h2).1 (by decide) (by decide) ?_
    refine XS.iloadN X0.here hx rfl (hb hby d44_16) rfl ?_
    exact kt
  obtain ⟨fs, hr, hrun, hended, hW, hsame⟩ := X0.leave (v := some (.int p1)) (fun h => by rw [Bd.returns] at h; cases h)
  refine ⟨_, _, pre0 _ (sg1 _ (?_)), hrun, hended, _, _, rfl, ?_, ⟨_, rfl⟩, hW, hsame.mono (by decide) (by decide)⟩
  · show Steps _ _ _ (s₁.setTop (mkF m 17 #[It p1, It p2, Rf a3] [(.int p1)])) _
    exact retI X0 hx Bd.returns (hb hby d44_17) hr
  · show Q44_r Z p1 p2 a3 h0 n0 _ s₁.heap _
    rw [e0]
    exact ⟨rfl, N0, rfl⟩
def Q43_r (Z : State) (p1 : Int32) (p2 : Int32) (wF : Addr) (h0 : Heap) (n0 : Nat) (v : Option Value) (h : Heap) (L : List Loc) : Prop := v = none ∧ Fr n0 L ∧ h = h0
theorem rm43_r (l : Launch) (Z : State) (a0 : Array Value) (hw : ∀ d ∈ tables_1, d.before a0 Z = true) (ws : List Jvm.Cond) (p1 : Int32) (p2 : Int32) (wF : Addr) (h0 : Heap) (n0 : Nat) (O0 : Old Z n0 h0) (h1 : ¬ p1 < (0 : Int32)) (h2 : p1 < p2) (sF : TS_2 Z wF) :
    MetFree l m_35 (head1 (Jvm.Cond.code m_35 jdk_42_method_155_code 2 none :: ws) (rk 1 0 0 14)) (fun a U => a = #[(.int p1), (.int p2)] ∧ Z.Warmed39 U.vm ∧ U.heap = h0) (fun _ _ _ _ _ => True) (fun _ U o U' => ∃ v L, o = .returned v ∧ Q43_r Z p1 p2 wF h0 n0 v U'.heap L ∧ FrameEnd U o U' L (rk 1 0 0 14).cells (rk 1 0 0 14).slots) := by
  refine MetFree.of_bodySF (plainFor_of_name pn_0) hisR ?_
  intro p e s m args below meth c s₁ Bd hml0 hP hK
  obtain ⟨rfl, hZ, hh⟩ := hP
  have hx := Bd.exec
  have hby := Bd.bytes
  have hml : c.maxLocals = 2 := hml0
  have hown : s.vm.findClass "java/lang/String" = some m.cls := findClass_of_methodNamed Bd.named
  have X0 : Stand p l e (rk 1 0 0 14) s m #[(.int p1), (.int p2)] below meth c s₁ [] 0 0 := Stand.of_body Bd
  have e0 : s₁.heap = h0 := by rw [← hh, Bd.state]; rfl
  have N0 := Fr.nil n0
  have pre0 := own_pre (tb := p.tables) (e := e) (bl := below) (s := s₁) (ef_37 m p1 p2)
  obtain ⟨T1, X1, e1, st1⟩ := getS2 X0 hx hZ hown (host := "") (Or.inl (tw hw 223 rfl)) Via.refl e0 (sF.ext O0.2) (g := (mkF m 2 #[It p1, It p2] [(.int p2), (.int p1)])) rfl (hb hby d43_2)
  obtain ⟨_, _, ⟨T2, L2, k2, n2⟩, -, X2, ⟨Lc2, hQ2, l2, y2, z2⟩, st2⟩ := Jvm.LawKit.callS X1 hx (y := m_34) hown (mvT hZ (tw hw 225 rfl)) (mvT hZ (tw hw 226 rfl)) (mvT hZ (tw hw 224 rfl)) (mvT hZ (tw hw 227 rfl)) (by decide) (backOf (W := 0) (rm44_r l Z a0 hw [] p1 p2 wF h0 n0 O0 h1 h2) hZ (tw hw 227 rfl) (tw hw 224 rfl) (by decide) (by decide)) (g := (mkF m 5 #[It p1, It p2] [(.ref wF), (.int p2), (.int p1)])) rfl (by rw [hml]; rfl) (argsL := [(.int p1), (.int p2), (.ref wF)]) (rest := []) (lenOf pd_23 rfl) rfl (w0 rfl) (hb hby d43_5) (fun _ _ => ⟨rfl, e1, (by decide : 0 + 0 ≤ _), (by decide : 0 + 0 ≤ _)⟩)
  dsimp only [Pt.U, Pt.locs, Pt.cells, Pt.slots] at X2 l2 y2 z2 st2 hQ2
  subst l2 y2 z2
  obtain ⟨rfl, N2q, e2⟩ := hQ2
  have N2 := Fr.app N0 N2q
  have sg3 : SG p.tables e below (T2.setTop (mkF m 9 #[It p1, It p2] [])) (s₁.setTop (mkF m 0 #[It p1, It p2] [])) := by
    intro target kt
    show Steps _ _ _ (s₁.setTop (mkF m 0 #[It p1, It p2] [])) _
    refine XS.iloadN X0.here hx rfl (hb hby d43_0) rfl ?_
    refine XS.iloadN X0.here hx rfl (hb hby d43_1) rfl ?_
    refine st1 _ ?_
    refine st2 _ ?_
    refine XS.pop X2.here hx rfl (hb hby d43_8) rfl rfl ?_
    exact kt
  obtain ⟨fs, hr, hrun, hended, hW, hsame⟩ := X2.leave (v := none) (fun _ => rfl)
  refine ⟨_, _, pre0 _ (sg3 _ (?_)), hrun, hended, _, _, rfl, ?_, ⟨_, rfl⟩, hW, hsame.mono (by decide) (by decide)⟩
  · show Steps _ _ _ (T2.setTop (mkF m 9 #[It p1, It p2] [])) _
    exact X2.returnOut hx Bd.returns (hb hby d43_9) hr
  · show Q43_r Z p1 p2 wF h0 n0 _ T2.heap _
    rw [e2]
    exact ⟨rfl, N2, rfl⟩
def Q43 (Z : State) (p1 : Int32) (p2 : Int32) (vFM : Value) (h0 : Heap) (n0 : Nat) (v : Option Value) (h : Heap) (L : List Loc) : Prop := v = none ∧ Fr n0 L ∧ h = h0
theorem rm43 (l : Launch) (Z : State) (a0 : Array Value) (hw : ∀ d ∈ tables_1, d.before a0 Z = true) (ws : List Jvm.Cond) (p1 : Int32) (p2 : Int32) (vFM : Value) (h0 : Heap) (n0 : Nat) (O0 : Old Z n0 h0) (hFM : vFM.isRef = true) (h1 : ¬ p1 < (0 : Int32)) (h2 : p1 < p2) (sF : TS_3 Z vFM) :
    MetFree l m_35 (head1 (Jvm.Cond.code m_35 jdk_42_method_155_code 2 none :: ws) (rk 1 0 0 14)) (fun a U => a = #[(.int p1), (.int p2)] ∧ Z.Warmed39 U.vm ∧ U.heap = h0) (fun _ _ _ _ _ => True) (fun _ U o U' => ∃ v L, o = .returned v ∧ Q43 Z p1 p2 vFM h0 n0 v U'.heap L ∧ FrameEnd U o U' L (rk 1 0 0 14).cells (rk 1 0 0 14).slots) := by
  rcases ref_cases hFM with e | ⟨b, e⟩
  · subst e; exact rm43_n l Z a0 hw ws p1 p2 h0 n0 O0 h1 h2 sF
  · subst e; exact rm43_r l Z a0 hw ws p1 p2 b h0 n0 O0 h1 h2 sF
def Q42 (Z : State) (a1 : Addr) (p2 : Int32) (zm : Int32) (zn : Nat) (ni : Nat) (bb : Int32) (xx : Int32) (us : List Value) (vFM : Value) (ka : ClassId) (h0 : Heap) (n0 : Nat) (v : Option Value) (h : Heap) (L : List Loc) : Prop := v = some (.int xx) ∧ Fr n0 L ∧ h = h0
theorem rm42 (l : Launch) (Z : State) (a0 : Array Value) (hw : ∀ d ∈ tables_1, d.before a0 Z = true) (ws : List Jvm.Cond) (a1 : Addr) (p2 : Int32) (zm : Int32) (zn : Nat) (ni : Nat) (bb : Int32) (xx : Int32) (us : List Value) (vFM : Value) (ka : ClassId) (h0 : Heap) (n0 : Nat) (O0 : Old Z n0 h0) (hFM : vFM.isRef = true) (h_i : Sm p2 ni) (h_z : Sm zm zn) (h_lt : ni < zn) (h_g : us.getD ni (.int (0 : Int32)) = .int bb) (h_b : ((bb &&& (255 : Int32)).toUInt32.toUInt16.toUInt32.toInt32) = xx) (h_x : nar .char xx = xx) (sF : TS_3 Z vFM) (A_a1 : Arv Z h0 a1 ka .byte zm us (.int (0 : Int32))) :
    MetFree l m_36 (head1 (Jvm.Cond.code m_36 jdk_43_method_2_code 2 (some .char) :: ws) (rk 2 0 0 27)) (fun a U => a = #[(.ref a1), (.int p2)] ∧ Z.Warmed39 U.vm ∧ U.heap = h0) (fun _ _ _ _ _ => True) (fun _ U o U' => ∃ v L, o = .returned v ∧ Q42 Z a1 p2 zm zn ni bb xx us vFM ka h0 n0 v U'.heap L ∧ FrameEnd U o U' L (rk 2 0 0 27).cells (rk 2 0 0 27).slots) := by
  refine MetFree.of_bodySF (plainFor_of_name pn_4) hisR ?_
  intro p e s m args below meth c s₁ Bd hml0 hP hK
  obtain ⟨rfl, hZ, hh⟩ := hP
  have hx := Bd.exec
  have hby := Bd.bytes
  have hml : c.maxLocals = 2 := hml0
  have hown : s.vm.findClass "java/lang/StringLatin1" = some m.cls := findClass_of_methodNamed Bd.named
  have X0 : Stand p l e (rk 2 0 0 27) s m #[(.ref a1), (.int p2)] below meth c s₁ [] 0 0 := Stand.of_body Bd
  have e0 : s₁.heap = h0 := by rw [← hh, Bd.state]; rfl
  have N0 := Fr.nil n0
  have pre0 := own_pre (tb := p.tables) (e := e) (bl := below) (s := s₁) (ef_4 m a1 p2)
  obtain ⟨cl1, Ar1, -, Sz1, Nn1, -, -⟩ := id A_a1
  obtain ⟨_, _, ⟨T2, L2, k2, n2⟩, -, X2, ⟨Lc2, hQ2, l2, y2, z2⟩, st2⟩ := Jvm.LawKit.callS X0 hx (y := m_35) hown (mvT hZ (tw hw 220 rfl)) (mvT hZ (tw hw 221 rfl)) (mvT hZ (tw hw 23 rfl)) (mvT hZ (tw hw 222 rfl)) (by decide) (backOf (W := 0) (rm43 l Z a0 hw [] p2 zm vFM h0 n0 O0 hFM h_i.nn (own_smlt h_i h_z h_lt) sF) hZ (tw hw 222 rfl) (tw hw 23 rfl) (by decide) (by decide)) (g := (mkF m 3 #[Rf a1, It p2] [(.int zm), (.int p2)])) rfl (by rw [hml]; rfl) (argsL := [(.int p2), (.int zm)]) (rest := []) (lenOf pd_11 rfl) rfl (w0 rfl) (hb hby d42_3) (fun _ _ => ⟨rfl, e0, (by decide : 0 + 0 ≤ _), (by decide : 0 + 0 ≤ _)⟩)
  dsimp only [Pt.U, Pt.locs, Pt.cells, Pt.slots] at X2 l2 y2 z2 st2 hQ2
  subst l2 y2 z2
  obtain ⟨rfl, N2q, e2⟩ := hQ2
  have N2 := Fr.app N0 N2q
  obtain ⟨cl3, Ar3, -, Sz3, Nn3, Hh3, -⟩ := id A_a1
  have hin3 : ¬ (p2 < 0 ∨ cl3.slots.size ≤ (p2).toNatClampNeg) := own_inb Sz3 h_i h_z h_lt
  have hat3 : cl3.slots[(p2).toNatClampNeg]? = some (.int bb) := Has.at Hh3 hin3 (by rw [h_i.nat]; exact h_g)
  have sg4 : SG p.tables e below (T2.setTop (mkF m 14 #[Rf a1, It p2] [(.int ((bb &&& (255 : Int32)).toUInt32.toUInt16.toUInt32.toInt32))])) (s₁.setTop (mkF m 0 #[Rf a1, It p2] [])) := by
    intro target kt
    show Steps _ _ _ (s₁.setTop (mkF m 0 #[Rf a1, It p2] [])) _
    refine XS.iloadN X0.here hx rfl (hb hby d42_0) rfl ?_
    refine XS.aloadN X0.here hx rfl (hb hby d42_1) rfl rfl ?_
    refine X0.arraylength hx (own_rwh e0 Ar1.1) (State.isArrayOf_alike hZ.alike Ar1.2.1) (g := (mkF m 2 #[Rf a1, It p2] [(.ref a1), (.int p2)])) rfl rfl (hb hby d42_2) _ ?_
    rw [len_of Sz1 Nn1]
    show Steps _ _ _ (s₁.setTop (mkF m 3 #[Rf a1, It p2] [(.int zm), (.int p2)])) _
    refine st2 _ ?_
    refine XS.aloadN X2.here hx rfl (hb hby d42_6) rfl rfl ?_
    refine XS.iloadN X2.here hx rfl (hb hby d42_7) rfl ?_
    refine X2.baloadBytes hx (j := p2) (v := (.int bb)) (own_rwh e2 Ar3.1) (State.isArrayOf_alike hZ.alike Ar3.2.1) Ar3.2.2 hin3 hat3 (g := (mkF m 8 #[Rf a1, It p2] [(.int p2), (.ref a1)])) rfl rfl (hb hby d42_8) _ ?_
    refine XS.sipush X2.here hx rfl (hb hby d42_9) ?_
    refine XS.iand X2.here hx rfl (hb hby d42_12) rfl ?_
    refine XS.i2c X2.here hx rfl (hb hby d42_13) rfl ?_
    exact kt
  have hnar : nar .char ((bb &&& (255 : Int32)).toUInt32.toUInt16.toUInt32.toInt32) = ((bb &&& (255 : Int32)).toUInt32.toUInt16.toUInt32.toInt32) := (by rw [h_b]; exact h_x)
  obtain ⟨fs, hr, hrun, hended, hW, hsame⟩ := X2.leave (v := some (.int ((bb &&& (255 : Int32)).toUInt32.toUInt16.toUInt32.toInt32))) (fun h => by rw [Bd.returns] at h; cases h)
  rw [← hnar] at hr
  refine ⟨_, _, pre0 _ (sg4 _ (?_)), hrun, hended, _, _, rfl, ?_, ⟨_, rfl⟩, hW, hsame.mono (by decide) (by decide)⟩
  · show Steps _ _ _ (T2.setTop (mkF m 14 #[Rf a1, It p2] [(.int ((bb &&& (255 : Int32)).toUInt32.toUInt16.toUInt32.toInt32))])) _
    exact retN X2 hx (t := .char) Bd.returns (by simp) (hb hby d42_14) hr
  · show Q42 Z a1 p2 zm zn ni bb xx us vFM ka h0 n0 _ T2.heap _
    rw [e2]
    exact ⟨(by rw [h_b]), N2, rfl⟩
def Q40 (Z : State) (a1 : Addr) (p2 : Int32) (tv : Addr) (zm : Int32) (zn : Nat) (ni : Nat) (bb : Int32) (xx : Int32) (us : List Value) (vFM : Value) (zC : Int32) (kt : ClassId) (h0 : Heap) (n0 : Nat) (v : Option Value) (h : Heap) (L : List Loc) : Prop := v = some (.int xx) ∧ Fr n0 L ∧ h = h0
theorem rm40 (l : Launch) (Z : State) (a0 : Array Value) (hw : ∀ d ∈ tables_1, d.before a0 Z = true) (ws : List Jvm.Cond) (a1 : Addr) (p2 : Int32) (tv : Addr) (zm : Int32) (zn : Nat) (ni : Nat) (bb : Int32) (xx : Int32) (us : List Value) (vFM : Value) (zC : Int32) (kt : ClassId) (h0 : Heap) (n0 : Nat) (O0 : Old Z n0 h0) (hCS : ¬ zC = 0) (hFM : vFM.isRef = true) (h_i : Sm p2 ni) (h_z : Sm zm zn) (h_lt : ni < zn) (h_g : us.getD ni (.int (0 : Int32)) = .int bb) (h_b : ((bb &&& (255 : Int32)).toUInt32.toUInt16.toUInt32.toInt32) = xx) (h_x : nar .char xx = xx) (sC : TS_0 Z zC) (sF : TS_3 Z vFM) (E_a1 : Exa Z h0 a1 "java/lang/String") (F_coder_a1 : Fld Z h0 a1 "java/lang/String" "coder" "B" (.int (0 : Int32))) (F_value_a1 : Fld Z h0 a1 "java/lang/String" "value" "[B" (.ref tv)) (A_tv : Arv Z h0 tv kt .byte zm us (.int (0 : Int32))) :
    MetFree l m_37 (head1 (Jvm.Cond.code m_37 jdk_42_method_56_code 2 (some .char) :: ws) (rk 3 0 0 40)) (fun a U => a = #[(.ref a1), (.int p2)] ∧ Z.Warmed39 U.vm ∧ U.heap = h0) (fun _ _ _ _ _ => True) (fun _ U o U' => ∃ v L, o = .returned v ∧ Q40 Z a1 p2 tv zm zn ni bb xx us vFM zC kt h0 n0 v U'.heap L ∧ FrameEnd U o U' L (rk 3 0 0 40).cells (rk 3 0 0 40).slots) := by
  refine MetFree.of_bodySF (plainFor_of_name pn_0) hisR ?_
  intro p e s m args below meth c s₁ Bd hml0 hP hK
  obtain ⟨rfl, hZ, hh⟩ := hP
  have hx := Bd.exec
  have hby := Bd.bytes
  have hml : c.maxLocals = 2 := hml0
  have hown : s.vm.findClass "java/lang/String" = some m.cls := findClass_of_methodNamed Bd.named
  have X0 : Stand p l e (rk 3 0 0 40) s m #[(.ref a1), (.int p2)] below meth c s₁ [] 0 0 := Stand.of_body Bd
  have e0 : s₁.heap = h0 := by rw [← hh, Bd.state]; rfl
  have N0 := Fr.nil n0
  have pre0 := own_pre (tb := p.tables) (e := e) (bl := below) (s := s₁) (ef_4 m a1 p2)
  obtain ⟨cq1, kq1, q1a, q1b, q1c⟩ := isOf hZ e0 E_a1
  obtain ⟨_, _, ⟨T1, L1, k1, n1⟩, -, X1, ⟨Lc1, hQ1, l1, y1, z1⟩, st1⟩ := X0.virtualBack hx (y := m_1) (z := m_1) hown (mvT hZ (tw hw 212 rfl)) (mvT hZ (tw hw 213 rfl)) (notFace_of_selects (args := #[]) (mvT hZ (tw hw 215 rfl))) (mvT hZ (tw hw 215 rfl)) (mvT hZ (tw hw 214 rfl)) (by decide) (backOf (W := 0) (rm41 l Z a0 hw [] a1 zC h0 n0 O0 hCS sC F_coder_a1) hZ (tw hw 216 rfl) (tw hw 23 rfl) (by decide) (by decide)) q1a q1c (g := (mkF m 1 #[Rf a1, It p2] [(.ref a1)])) rfl (by rw [hml]; rfl) (Steps.refl _) (argsL := []) (rest := []) (lenOf pd_8 rfl) rfl (w0 rfl) (hb hby d40_1) (fun _ _ => ⟨rfl, e0, (by decide : 0 + 0 ≤ _), (by decide : 0 + 0 ≤ _)⟩)
  dsimp only [Pt.U, Pt.locs, Pt.cells, Pt.slots] at X1 l1 y1 z1 st1 hQ1
  subst l1 y1 z1
  obtain ⟨rfl, N1q, e1⟩ := hQ1
  have N1 := Fr.app N0 N1q
  obtain ⟨T2, X2, e2, st2⟩ := getF X1 hx hZ hown (host := "") (Or.inl (tw hw 67 rfl)) Via.refl e1 F_value_a1 (g := (mkF m 8 #[Rf a1, It p2] [(.ref a1)])) rfl rfl (hb hby d40_8)
  obtain ⟨_, _, ⟨T3, L3, k3, n3⟩, -, X3, ⟨Lc3, hQ3, l3, y3, z3⟩, st3⟩ := Jvm.LawKit.callS X2 hx (y := m_36) hown (mvT hZ (tw hw 217 rfl)) (mvT hZ (tw hw 218 rfl)) (mvT hZ (tw hw 151 rfl)) (mvT hZ (tw hw 219 rfl)) (by decide) (backOf (W := 0) (rm42 l Z a0 hw [] tv p2 zm zn ni bb xx us vFM kt h0 n0 O0 hFM h_i h_z h_lt h_g h_b h_x sF A_tv) hZ (tw hw 219 rfl) (tw hw 151 rfl) (by decide) (by decide)) (g := (mkF m 12 #[Rf a1, It p2] [(.int p2), (.ref tv)])) rfl (by rw [hml]; rfl) (argsL := [(.ref tv), (.int p2)]) (rest := []) (lenOf pd_24 rfl) rfl (w0 rfl) (hb hby d40_12) (fun _ _ => ⟨rfl, e2, (by decide : 0 + 0 ≤ _), (by decide : 0 + 0 ≤ _)⟩)
  dsimp only [Pt.U, Pt.locs, Pt.cells, Pt.slots] at X3 l3 y3 z3 st3 hQ3
  subst l3 y3 z3
  obtain ⟨rfl, N3q, e3⟩ := hQ3
  have N3 := Fr.app N1 N3q
  have sg4 : SG p.tables e below (T3.setTop (mkF m 15 #[Rf a1, It p2] [(.int xx)])) (s₁.setTop (mkF m 0 #[Rf a1, It p2] [])) := by
    intro target kt
    show Steps _ _ _ (s₁.setTop (mkF m 0 #[Rf a1, It p2] [])) _
    refine XS.aloadN X0.here hx rfl (hb hby d40_0) rfl rfl ?_
    refine st1.trans ?_
    refine XS.ifNo X1.here hx rfl (hb hby d40_4) rfl ((if0 _ _).trans (feq (by decide : ¬ ((1 : Int32) = (0 : Int32)))).1) ?_
    refine XS.aloadN X1.here hx rfl (hb hby d40_7) rfl rfl ?_
    refine st2 _ ?_
    refine XS.iloadN X2.here hx rfl (hb hby d40_11) rfl ?_
    refine st3 _ ?_
    exact kt
  have hnar : nar .char xx = xx := h_x
  obtain ⟨fs, hr, hrun, hended, hW, hsame⟩ := X3.leave (v := some (.int xx)) (fun h => by rw [Bd.returns] at h; cases h)
  rw [← hnar] at hr
  refine ⟨_, _, pre0 _ (sg4 _ (?_)), hrun, hended, _, _, rfl, ?_, ⟨_, rfl⟩, hW, hsame.mono (by decide) (by decide)⟩
  · show Steps _ _ _ (T3.setTop (mkF m 15 #[Rf a1, It p2] [(.int xx)])) _
    exact retN X3 hx (t := .char) Bd.returns (by simp) (hb hby d40_15) hr
  · show Q40 Z a1 p2 tv zm zn ni bb xx us vFM zC kt h0 n0 _ T3.heap _
    rw [e3]
    exact ⟨rfl, N3, rfl⟩
def Q39_o (Z : State) (a1 : Addr) (p2 : Int32) (p3 : Int32) (h0 : Heap) (n0 : Nat) (v : Option Value) (h : Heap) (L : List Loc) : Prop := v = some (.int (1 : Int32)) ∧ Fr n0 L ∧ h = h0
theorem rm39_o (l : Launch) (Z : State) (a0 : Array Value) (hw : ∀ d ∈ tables_1, d.before a0 Z = true) (ws : List Jvm.Cond) (a1 : Addr) (p2 : Int32) (p3 : Int32) (h0 : Heap) (n0 : Nat) (O0 : Old Z n0 h0) (h_o : ¬ p2 < p3) :
    MetFree l m_38 (head1 (Jvm.Cond.code m_38 method_4_code 3 (some .boolean) :: ws) (rk 0 0 0 0)) (fun a U => a = #[(.ref a1), (.int p2), (.int p3)] ∧ Z.Warmed39 U.vm ∧ U.heap = h0) (fun _ _ _ _ _ => True) (fun _ U o U' => ∃ v L, o = .returned v ∧ Q39_o Z a1 p2 p3 h0 n0 v U'.heap L ∧ FrameEnd U o U' L (rk 0 0 0 0).cells (rk 0 0 0 0).slots) := by
  refine MetFree.of_bodySF (plainFor_of_name pn_7) hisR ?_
  intro p e s m args below meth c s₁ Bd hml0 hP hK
  obtain ⟨rfl, hZ, hh⟩ := hP
  have hx := Bd.exec
  have hby := Bd.bytes
  have hml : c.maxLocals = 3 := hml0
  have hown : s.vm.findClass "com/example/tetrad/tetrad/generate/SourceTextDedentPinLaw" = some m.cls := findClass_of_methodNamed Bd.named
  have X0 : Stand p l e (rk 0 0 0 0) s m #[(.ref a1), (.int p2), (.int p3)] below meth c s₁ [] 0 0 := Stand.of_body Bd
  have e0 : s₁.heap = h0 := by rw [← hh, Bd.state]; rfl
  have N0 := Fr.nil n0
  have pre0 := own_pre (tb := p.tables) (e := e) (bl := below) (s := s₁) (ef_34 m a1 p2 p3)
  have sg1 : SG p.tables e below (s₁.setTop (mkF m 20 #[Rf a1, It p2, It p3] [(.int (1 : Int32))])) (s₁.setTop (mkF m 0 #[Rf a1, It p2, It p3] [])) := by
    intro target kt
    show Steps _ _ _ (s₁.setTop (mkF m 0 #[Rf a1, It p2, It p3] [])) _
    refine XS.iloadN X0.here hx rfl (hb hby d39_0) rfl ?_
    refine XS.iloadN X0.here hx rfl (hb hby d39_1) rfl ?_
    refine XS.icmpYes X0.here hx rfl (pc0 := 2) (pc' := 15) rfl (hb hby d39_2) rfl (flt h_o).2.1 (by decide) (by decide) ?_
    refine XS.iconst X0.here hx rfl (hb hby d39_15) ?_
    refine XS.goto X0.here hx rfl (pc0 := 16) (pc' := 20) rfl (hb hby d39_16) (by decide) (by decide) ?_
    exact kt
  obtain ⟨fs, hr, hrun, hended, hW, hsame⟩ := X0.leave (v := some (.int (1 : Int32))) (fun h => by rw [Bd.returns] at h; cases h)
  refine ⟨_, _, pre0 _ (sg1 _ (?_)), hrun, hended, _, _, rfl, ?_, ⟨_, rfl⟩, hW, hsame.mono (by decide) (by decide)⟩
  · show Steps _ _ _ (s₁.setTop (mkF m 20 #[Rf a1, It p2, It p3] [(.int (1 : Int32))])) _
    exact retN X0 hx (t := .boolean) Bd.returns (by simp) (hb hby d39_20) hr
  · show Q39_o Z a1 p2 p3 h0 n0 _ s₁.heap _
    rw [e0]
    exact ⟨rfl, N0, rfl⟩
def Q39_i (Z : State) (a1 : Addr) (p2 : Int32) (p3 : Int32) (tv : Addr) (zm : Int32) (zn : Nat) (ni : Nat) (us : List Value) (vFM : Value) (zC : Int32) (kt : ClassId) (h0 : Heap) (n0 : Nat) (v : Option Value) (h : Heap) (L : List Loc) : Prop := v = some (.int (1 : Int32)) ∧ Fr n0 L ∧ h = h0
theorem rm39_i (l : Launch) (Z : State) (a0 : Array Value) (hw : ∀ d ∈ tables_1, d.before a0 Z = true) (ws : List Jvm.Cond) (a1 : Addr) (p2 : Int32) (p3 : Int32) (tv : Addr) (zm : Int32) (zn : Nat) (ni : Nat) (us : List Value) (vFM : Value) (zC : Int32) (kt : ClassId) (h0 : Heap) (n0 : Nat) (O0 : Old Z n0 h0) (h_o : p2 < p3) (hCS : ¬ zC = 0) (hFM : vFM.isRef = true) (h_i : Sm p2 ni) (h_z : Sm zm zn) (h_lt : ni < zn) (h_g : us.getD ni (.int (0 : Int32)) = .int (32 : Int32)) (sC : TS_0 Z zC) (sF : TS_3 Z vFM) (E_a1 : Exa Z h0 a1 "java/lang/String") (F_coder_a1 : Fld Z h0 a1 "java/lang/String" "coder" "B" (.int (0 : Int32))) (F_value_a1 : Fld Z h0 a1 "java/lang/String" "value" "[B" (.ref tv)) (A_tv : Arv Z h0 tv kt .byte zm us (.int (0 : Int32))) :
    MetFree l m_38 (head1 (Jvm.Cond.code m_38 method_4_code 3 (some .boolean) :: ws) (rk 4 0 0 53)) (fun a U => a = #[(.ref a1), (.int p2), (.int p3)] ∧ Z.Warmed39 U.vm ∧ U.heap = h0) (fun _ _ _ _ _ => True) (fun _ U o U' => ∃ v L, o = .returned v ∧ Q39_i Z a1 p2 p3 tv zm zn ni us vFM zC kt h0 n0 v U'.heap L ∧ FrameEnd U o U' L (rk 4 0 0 53).cells (rk 4 0 0 53).slots) := by
  refine MetFree.of_bodySF (plainFor_of_name pn_7) hisR ?_
  intro p e s m args below meth c s₁ Bd hml0 hP hK
  obtain ⟨rfl, hZ, hh⟩ := hP
  have hx := Bd.exec
  have hby := Bd.bytes
  have hml : c.maxLocals = 3 := hml0
  have hown : s.vm.findClass "com/example/tetrad/tetrad/generate/SourceTextDedentPinLaw" = some m.cls := findClass_of_methodNamed Bd.named
  have X0 : Stand p l e (rk 4 0 0 53) s m #[(.ref a1), (.int p2), (.int p3)] below meth c s₁ [] 0 0 := Stand.of_body Bd
  have e0 : s₁.heap = h0 := by rw [← hh, Bd.state]; rfl
  have N0 := Fr.nil n0
  have pre0 := own_pre (tb := p.tables) (e := e) (bl := below) (s := s₁) (ef_34 m a1 p2 p3)
  obtain ⟨cq1, kq1, q1a, q1b, q1c⟩ := isOf hZ e0 E_a1
  obtain ⟨_, _, ⟨T1, L1, k1, n1⟩, -, X1, ⟨Lc1, hQ1, l1, y1, z1⟩, st1⟩ := X0.virtualBack hx (y := m_37) (z := m_37) hown (mvT hZ (tw hw 207 rfl)) (mvT hZ (tw hw 208 rfl)) (notFace_of_selects (args := #[]) (mvT hZ (tw hw 210 rfl))) (mvT hZ (tw hw 210 rfl)) (mvT hZ (tw hw 209 rfl)) (by decide) (backOf (W := 0) (rm40 l Z a0 hw [] a1 p2 tv zm zn ni (32 : Int32) (32 : Int32) us vFM zC kt h0 n0 O0 hCS hFM h_i h_z h_lt h_g (by decide) (by decide) sC sF E_a1 F_coder_a1 F_value_a1 A_tv) hZ (tw hw 211 rfl) (tw hw 23 rfl) (by decide) (by decide)) q1a q1c (g := (mkF m 7 #[Rf a1, It p2, It p3] [(.int p2), (.ref a1)])) rfl (by rw [hml]; rfl) (Steps.refl _) (argsL := [(.int p2)]) (rest := []) (lenOf pd_25 rfl) rfl (w0 rfl) (hb hby d39_7) (fun _ _ => ⟨rfl, e0, (by decide : 0 + 0 ≤ _), (by decide : 0 + 0 ≤ _)⟩)
  dsimp only [Pt.U, Pt.locs, Pt.cells, Pt.slots] at X1 l1 y1 z1 st1 hQ1
  subst l1 y1 z1
  obtain ⟨rfl, N1q, e1⟩ := hQ1
  have N1 := Fr.app N0 N1q
  have sg2 : SG p.tables e below (T1.setTop (mkF m 20 #[Rf a1, It p2, It p3] [(.int (1 : Int32))])) (s₁.setTop (mkF m 0 #[Rf a1, It p2, It p3] [])) := by
    intro target kt
    show Steps _ _ _ (s₁.setTop (mkF m 0 #[Rf a1, It p2, It p3] [])) _
    refine XS.iloadN X0.here hx rfl (hb hby d39_0) rfl ?_
    refine XS.iloadN X0.here hx rfl (hb hby d39_1) rfl ?_
    refine XS.icmpNo X0.here hx rfl (hb hby d39_2) rfl (tlt h_o).2.1 ?_
    refine XS.aloadN X0.here hx rfl (hb hby d39_5) rfl rfl ?_
    refine XS.iloadN X0.here hx rfl (hb hby d39_6) rfl ?_
    refine st1.trans ?_
    refine XS.bipush X1.here hx rfl (hb hby d39_10) ?_
    refine XS.icmpNo X1.here hx rfl (hb hby d39_12) rfl (teq (by decide : (32 : Int32) = (32 : Int32))).2 ?_
    refine XS.iconst X1.here hx rfl (hb hby d39_15) ?_
    refine XS.goto X1.here hx rfl (pc0 := 16) (pc' := 20) rfl (hb hby d39_16) (by decide) (by decide) ?_
    exact kt
  obtain ⟨fs, hr, hrun, hended, hW, hsame⟩ := X1.leave (v := some (.int (1 : Int32))) (fun h => by rw [Bd.returns] at h; cases h)
  refine ⟨_, _, pre0 _ (sg2 _ (?_)), hrun, hended, _, _, rfl, ?_, ⟨_, rfl⟩, hW, hsame.mono (by decide) (by decide)⟩
  · show Steps _ _ _ (T1.setTop (mkF m 20 #[Rf a1, It p2, It p3] [(.int (1 : Int32))])) _
    exact retN X1 hx (t := .boolean) Bd.returns (by simp) (hb hby d39_20) hr
  · show Q39_i Z a1 p2 p3 tv zm zn ni us vFM zC kt h0 n0 _ T1.heap _
    rw [e1]
    exact ⟨rfl, N1, rfl⟩
def Q38_0 (Z : State) (a1 : Addr) (tv : Addr) (zm : Int32) (zn : Nat) (us : List Value) (vFM : Value) (zC : Int32) (kt : ClassId) (h0 : Heap) (n0 : Nat) (v : Option Value) (h : Heap) (L : List Loc) : Prop := v = some (.int (1 : Int32)) ∧ Fr n0 L ∧ h = h0
theorem rm38_0 (l : Launch) (Z : State) (a0 : Array Value) (hw : ∀ d ∈ tables_1, d.before a0 Z = true) (ws : List Jvm.Cond) (a1 : Addr) (tv : Addr) (zm : Int32) (zn : Nat) (us : List Value) (vFM : Value) (zC : Int32) (kt : ClassId) (h0 : Heap) (n0 : Nat) (O0 : Old Z n0 h0) (hCS : ¬ zC = 0) (hFM : vFM.isRef = true) (h_z : Sm zm zn) (h_lt : 0 ≤ zn) (sC : TS_0 Z zC) (sF : TS_3 Z vFM) (E_a1 : Exa Z h0 a1 "java/lang/String") (F_coder_a1 : Fld Z h0 a1 "java/lang/String" "coder" "B" (.int (0 : Int32))) (F_value_a1 : Fld Z h0 a1 "java/lang/String" "value" "[B" (.ref tv)) (A_tv : Arv Z h0 tv kt .byte zm us (.int (0 : Int32))) :
    MetFree l m_39 (head1 (Jvm.Cond.code m_39 method_3_code 2 (some .boolean) :: ws) (rk 1 0 0 14)) (fun a U => a = #[(.ref a1), (.int (0 : Int32))] ∧ Z.Warmed39 U.vm ∧ U.heap = h0) (fun _ _ _ _ _ => True) (fun _ U o U' => ∃ v L, o = .returned v ∧ Q38_0 Z a1 tv zm zn us vFM zC kt h0 n0 v U'.heap L ∧ FrameEnd U o U' L (rk 1 0 0 14).cells (rk 1 0 0 14).slots) := by
  refine MetFree.of_bodySF (plainFor_of_name pn_7) hisR ?_
  intro p e s m args below meth c s₁ Bd hml0 hP hK
  obtain ⟨rfl, hZ, hh⟩ := hP
  have hx := Bd.exec
  have hby := Bd.bytes
  have hml : c.maxLocals = 2 := hml0
  have hown : s.vm.findClass "com/example/tetrad/tetrad/generate/SourceTextDedentPinLaw" = some m.cls := findClass_of_methodNamed Bd.named
  have X0 : Stand p l e (rk 1 0 0 14) s m #[(.ref a1), (.int (0 : Int32))] below meth c s₁ [] 0 0 := Stand.of_body Bd
  have e0 : s₁.heap = h0 := by rw [← hh, Bd.state]; rfl
  have N0 := Fr.nil n0
  have pre0 := own_pre (tb := p.tables) (e := e) (bl := below) (s := s₁) (ef_4 m a1 (0 : Int32))
  obtain ⟨_, _, ⟨T1, L1, k1, n1⟩, -, X1, ⟨Lc1, hQ1, l1, y1, z1⟩, st1⟩ := Jvm.LawKit.callS X0 hx (y := m_38) hown (mvT hZ (tw hw 204 rfl)) (mvT hZ (tw hw 205 rfl)) (mvT hZ (tw hw 202 rfl)) (mvT hZ (tw hw 206 rfl)) (by decide) (backOf (W := 0) (rm39_o l Z a0 hw [] a1 (0 : Int32) (0 : Int32) h0 n0 O0 (by decide)) hZ (tw hw 206 rfl) (tw hw 202 rfl) (by decide) (by decide)) (g := (mkF m 3 #[Rf a1, It (0 : Int32)] [(.int (0 : Int32)), (.int (0 : Int32)), (.ref a1)])) rfl (by rw [hml]; rfl) (argsL := [(.ref a1), (.int (0 : Int32)), (.int (0 : Int32))]) (rest := []) (lenOf pd_26 rfl) rfl (w0 rfl) (hb hby d38_3) (fun _ _ => ⟨rfl, e0, (by decide : 0 + 0 ≤ _), (by decide : 0 + 0 ≤ _)⟩)
  dsimp only [Pt.U, Pt.locs, Pt.cells, Pt.slots] at X1 l1 y1 z1 st1 hQ1
  subst l1 y1 z1
  obtain ⟨rfl, N1q, e1⟩ := hQ1
  have N1 := Fr.app N0 N1q
  obtain ⟨_, _, ⟨T2, L2, k2, n2⟩, -, X2, ⟨Lc2, hQ2, l2, y2, z2⟩, st2⟩ := Jvm.LawKit.callS X1 hx (y := m_38) hown (mvT hZ (tw hw 204 rfl)) (mvT hZ (tw hw 205 rfl)) (mvT hZ (tw hw 202 rfl)) (mvT hZ (tw hw 206 rfl)) (by decide) (backOf (W := 0) (rm39_o l Z a0 hw [] a1 (1 : Int32) (0 : Int32) h0 n0 O0 (by decide)) hZ (tw hw 206 rfl) (tw hw 202 rfl) (by decide) (by decide)) (g := (mkF m 12 #[Rf a1, It (0 : Int32)] [(.int (0 : Int32)), (.int (1 : Int32)), (.ref a1)])) rfl (by rw [hml]; rfl) (argsL := [(.ref a1), (.int (1 : Int32)), (.int (0 : Int32))]) (rest := []) (lenOf pd_26 rfl) rfl (w0 rfl) (hb hby d38_12) (fun _ _ => ⟨rfl, e1, (by decide : 0 + 0 ≤ _), (by decide : 0 + 0 ≤ _)⟩)
  dsimp only [Pt.U, Pt.locs, Pt.cells, Pt.slots] at X2 l2 y2 z2 st2 hQ2
  subst l2 y2 z2
  obtain ⟨rfl, N2q, e2⟩ := hQ2
  have N2 := Fr.app N1 N2q
  obtain ⟨_, _, ⟨T3, L3, k3, n3⟩, -, X3, ⟨Lc3, hQ3, l3, y3, z3⟩, st3⟩ := Jvm.LawKit.callS X2 hx (y := m_38) hown (mvT hZ (tw hw 204 rfl)) (mvT hZ (tw hw 205 rfl)) (mvT hZ (tw hw 202 rfl)) (mvT hZ (tw hw 206 rfl)) (by decide) (backOf (W := 0) (rm39_o l Z a0 hw [] a1 (2 : Int32) (0 : Int32) h0 n0 O0 (by decide)) hZ (tw hw 206 rfl) (tw hw 202 rfl) (by decide) (by decide)) (g := (mkF m 21 #[Rf a1, It (0 : Int32)] [(.int (0 : Int32)), (.int (2 : Int32)), (.ref a1)])) rfl (by rw [hml]; rfl) (argsL := [(.ref a1), (.int (2 : Int32)), (.int (0 : Int32))]) (rest := []) (lenOf pd_26 rfl) rfl (w0 rfl) (hb hby d38_21) (fun _ _ => ⟨rfl, e2, (by decide : 0 + 0 ≤ _), (by decide : 0 + 0 ≤ _)⟩)
  dsimp only [Pt.U, Pt.locs, Pt.cells, Pt.slots] at X3 l3 y3 z3 st3 hQ3
  subst l3 y3 z3
  obtain ⟨rfl, N3q, e3⟩ := hQ3
  have N3 := Fr.app N2 N3q
  obtain ⟨_, _, ⟨T4, L4, k4, n4⟩, -, X4, ⟨Lc4, hQ4, l4, y4, z4⟩, st4⟩ := Jvm.LawKit.callS X3 hx (y := m_38) hown (mvT hZ (tw hw 204 rfl)) (mvT hZ (tw hw 205 rfl)) (mvT hZ (tw hw 202 rfl)) (mvT hZ (tw hw 206 rfl)) (by decide) (backOf (W := 0) (rm39_o l Z a0 hw [] a1 (3 : Int32) (0 : Int32) h0 n0 O0 (by decide)) hZ (tw hw 206 rfl) (tw hw 202 rfl) (by decide) (by decide)) (g := (mkF m 30 #[Rf a1, It (0 : Int32)] [(.int (0 : Int32)), (.int (3 : Int32)), (.ref a1)])) rfl (by rw [hml]; rfl) (argsL := [(.ref a1), (.int (3 : Int32)), (.int (0 : Int32))]) (rest := []) (lenOf pd_26 rfl) rfl (w0 rfl) (hb hby d38_30) (fun _ _ => ⟨rfl, e3, (by decide : 0 + 0 ≤ _), (by decide : 0 + 0 ≤ _)⟩)
  dsimp only [Pt.U, Pt.locs, Pt.cells, Pt.slots] at X4 l4 y4 z4 st4 hQ4
  subst l4 y4 z4
  obtain ⟨rfl, N4q, e4⟩ := hQ4
  have N4 := Fr.app N3 N4q
  obtain ⟨_, _, ⟨T5, L5, k5, n5⟩, -, X5, ⟨Lc5, hQ5, l5, y5, z5⟩, st5⟩ := Jvm.LawKit.callS X4 hx (y := m_38) hown (mvT hZ (tw hw 204 rfl)) (mvT hZ (tw hw 205 rfl)) (mvT hZ (tw hw 202 rfl)) (mvT hZ (tw hw 206 rfl)) (by decide) (backOf (W := 0) (rm39_o l Z a0 hw [] a1 (4 : Int32) (0 : Int32) h0 n0 O0 (by decide)) hZ (tw hw 206 rfl) (tw hw 202 rfl) (by decide) (by decide)) (g := (mkF m 39 #[Rf a1, It (0 : Int32)] [(.int (0 : Int32)), (.int (4 : Int32)), (.ref a1)])) rfl (by rw [hml]; rfl) (argsL := [(.ref a1), (.int (4 : Int32)), (.int (0 : Int32))]) (rest := []) (lenOf pd_26 rfl) rfl (w0 rfl) (hb hby d38_39) (fun _ _ => ⟨rfl, e4, (by decide : 0 + 0 ≤ _), (by decide : 0 + 0 ≤ _)⟩)
  dsimp only [Pt.U, Pt.locs, Pt.cells, Pt.slots] at X5 l5 y5 z5 st5 hQ5
  subst l5 y5 z5
  obtain ⟨rfl, N5q, e5⟩ := hQ5
  have N5 := Fr.app N4 N5q
  obtain ⟨_, _, ⟨T6, L6, k6, n6⟩, -, X6, ⟨Lc6, hQ6, l6, y6, z6⟩, st6⟩ := Jvm.LawKit.callS X5 hx (y := m_38) hown (mvT hZ (tw hw 204 rfl)) (mvT hZ (tw hw 205 rfl)) (mvT hZ (tw hw 202 rfl)) (mvT hZ (tw hw 206 rfl)) (by decide) (backOf (W := 0) (rm39_o l Z a0 hw [] a1 (5 : Int32) (0 : Int32) h0 n0 O0 (by decide)) hZ (tw hw 206 rfl) (tw hw 202 rfl) (by decide) (by decide)) (g := (mkF m 48 #[Rf a1, It (0 : Int32)] [(.int (0 : Int32)), (.int (5 : Int32)), (.ref a1)])) rfl (by rw [hml]; rfl) (argsL := [(.ref a1), (.int (5 : Int32)), (.int (0 : Int32))]) (rest := []) (lenOf pd_26 rfl) rfl (w0 rfl) (hb hby d38_48) (fun _ _ => ⟨rfl, e5, (by decide : 0 + 0 ≤ _), (by decide : 0 + 0 ≤ _)⟩)
  dsimp only [Pt.U, Pt.locs, Pt.cells, Pt.slots] at X6 l6 y6 z6 st6 hQ6
  subst l6 y6 z6
  obtain ⟨rfl, N6q, e6⟩ := hQ6
  have N6 := Fr.app N5 N6q
  obtain ⟨_, _, ⟨T7, L7, k7, n7⟩, -, X7, ⟨Lc7, hQ7, l7, y7, z7⟩, st7⟩ := Jvm.LawKit.callS X6 hx (y := m_38) hown (mvT hZ (tw hw 204 rfl)) (mvT hZ (tw hw 205 rfl)) (mvT hZ (tw hw 202 rfl)) (mvT hZ (tw hw 206 rfl)) (by decide) (backOf (W := 0) (rm39_o l Z a0 hw [] a1 (6 : Int32) (0 : Int32) h0 n0 O0 (by decide)) hZ (tw hw 206 rfl) (tw hw 202 rfl) (by decide) (by decide)) (g := (mkF m 58 #[Rf a1, It (0 : Int32)] [(.int (0 : Int32)), (.int (6 : Int32)), (.ref a1)])) rfl (by rw [hml]; rfl) (argsL := [(.ref a1), (.int (6 : Int32)), (.int (0 : Int32))]) (rest := []) (lenOf pd_26 rfl) rfl (w0 rfl) (hb hby d38_58) (fun _ _ => ⟨rfl, e6, (by decide : 0 + 0 ≤ _), (by decide : 0 + 0 ≤ _)⟩)
  dsimp only [Pt.U, Pt.locs, Pt.cells, Pt.slots] at X7 l7 y7 z7 st7 hQ7
  subst l7 y7 z7
  obtain ⟨rfl, N7q, e7⟩ := hQ7
  have N7 := Fr.app N6 N7q
  obtain ⟨_, _, ⟨T8, L8, k8, n8⟩, -, X8, ⟨Lc8, hQ8, l8, y8, z8⟩, st8⟩ := Jvm.LawKit.callS X7 hx (y := m_38) hown (mvT hZ (tw hw 204 rfl)) (mvT hZ (tw hw 205 rfl)) (mvT hZ (tw hw 202 rfl)) (mvT hZ (tw hw 206 rfl)) (by decide) (backOf (W := 0) (rm39_o l Z a0 hw [] a1 (7 : Int32) (0 : Int32) h0 n0 O0 (by decide)) hZ (tw hw 206 rfl) (tw hw 202 rfl) (by decide) (by decide)) (g := (mkF m 68 #[Rf a1, It (0 : Int32)] [(.int (0 : Int32)), (.int (7 : Int32)), (.ref a1)])) rfl (by rw [hml]; rfl) (argsL := [(.ref a1), (.int (7 : Int32)), (.int (0 : Int32))]) (rest := []) (lenOf pd_26 rfl) rfl (w0 rfl) (hb hby d38_68) (fun _ _ => ⟨rfl, e7, (by decide : 0 + 0 ≤ _), (by decide : 0 + 0 ≤ _)⟩)
  dsimp only [Pt.U, Pt.locs, Pt.cells, Pt.slots] at X8 l8 y8 z8 st8 hQ8
  subst l8 y8 z8
  obtain ⟨rfl, N8q, e8⟩ := hQ8
  have N8 := Fr.app N7 N8q
  obtain ⟨_, _, ⟨T9, L9, k9, n9⟩, -, X9, ⟨Lc9, hQ9, l9, y9, z9⟩, st9⟩ := Jvm.LawKit.callS X8 hx (y := m_38) hown (mvT hZ (tw hw 204 rfl)) (mvT hZ (tw hw 205 rfl)) (mvT hZ (tw hw 202 rfl)) (mvT hZ (tw hw 206 rfl)) (by decide) (backOf (W := 0) (rm39_o l Z a0 hw [] a1 (8 : Int32) (0 : Int32) h0 n0 O0 (by decide)) hZ (tw hw 206 rfl) (tw hw 202 rfl) (by decide) (by decide)) (g := (mkF m 78 #[Rf a1, It (0 : Int32)] [(.int (0 : Int32)), (.int (8 : Int32)), (.ref a1)])) rfl (by rw [hml]; rfl) (argsL := [(.ref a1), (.int (8 : Int32)), (.int (0 : Int32))]) (rest := []) (lenOf pd_26 rfl) rfl (w0 rfl) (hb hby d38_78) (fun _ _ => ⟨rfl, e8, (by decide : 0 + 0 ≤ _), (by decide : 0 + 0 ≤ _)⟩)
  dsimp only [Pt.U, Pt.locs, Pt.cells, Pt.slots] at X9 l9 y9 z9 st9 hQ9
  subst l9 y9 z9
  obtain ⟨rfl, N9q, e9⟩ := hQ9
  have N9 := Fr.app N8 N9q
  obtain ⟨_, _, ⟨T10, L10, k10, n10⟩, -, X10, ⟨Lc10, hQ10, l10, y10, z10⟩, st10⟩ := Jvm.LawKit.callS X9 hx (y := m_38) hown (mvT hZ (tw hw 204 rfl)) (mvT hZ (tw hw 205 rfl)) (mvT hZ (tw hw 202 rfl)) (mvT hZ (tw hw 206 rfl)) (by decide) (backOf (W := 0) (rm39_o l Z a0 hw [] a1 (9 : Int32) (0 : Int32) h0 n0 O0 (by decide)) hZ (tw hw 206 rfl) (tw hw 202 rfl) (by decide) (by decide)) (g := (mkF m 88 #[Rf a1, It (0 : Int32)] [(.int (0 : Int32)), (.int (9 : Int32)), (.ref a1)])) rfl (by rw [hml]; rfl) (argsL := [(.ref a1), (.int (9 : Int32)), (.int (0 : Int32))]) (rest := []) (lenOf pd_26 rfl) rfl (w0 rfl) (hb hby d38_88) (fun _ _ => ⟨rfl, e9, (by decide : 0 + 0 ≤ _), (by decide : 0 + 0 ≤ _)⟩)
  dsimp only [Pt.U, Pt.locs, Pt.cells, Pt.slots] at X10 l10 y10 z10 st10 hQ10
  subst l10 y10 z10
  obtain ⟨rfl, N10q, e10⟩ := hQ10
  have N10 := Fr.app N9 N10q
  obtain ⟨_, _, ⟨T11, L11, k11, n11⟩, -, X11, ⟨Lc11, hQ11, l11, y11, z11⟩, st11⟩ := Jvm.LawKit.callS X10 hx (y := m_38) hown (mvT hZ (tw hw 204 rfl)) (mvT hZ (tw hw 205 rfl)) (mvT hZ (tw hw 202 rfl)) (mvT hZ (tw hw 206 rfl)) (by decide) (backOf (W := 0) (rm39_o l Z a0 hw [] a1 (10 : Int32) (0 : Int32) h0 n0 O0 (by decide)) hZ (tw hw 206 rfl) (tw hw 202 rfl) (by decide) (by decide)) (g := (mkF m 98 #[Rf a1, It (0 : Int32)] [(.int (0 : Int32)), (.int (10 : Int32)), (.ref a1)])) rfl (by rw [hml]; rfl) (argsL := [(.ref a1), (.int (10 : Int32)), (.int (0 : Int32))]) (rest := []) (lenOf pd_26 rfl) rfl (w0 rfl) (hb hby d38_98) (fun _ _ => ⟨rfl, e10, (by decide : 0 + 0 ≤ _), (by decide : 0 + 0 ≤ _)⟩)
  dsimp only [Pt.U, Pt.locs, Pt.cells, Pt.slots] at X11 l11 y11 z11 st11 hQ11
  subst l11 y11 z11
  obtain ⟨rfl, N11q, e11⟩ := hQ11
  have N11 := Fr.app N10 N11q
  obtain ⟨_, _, ⟨T12, L12, k12, n12⟩, -, X12, ⟨Lc12, hQ12, l12, y12, z12⟩, st12⟩ := Jvm.LawKit.callS X11 hx (y := m_38) hown (mvT hZ (tw hw 204 rfl)) (mvT hZ (tw hw 205 rfl)) (mvT hZ (tw hw 202 rfl)) (mvT hZ (tw hw 206 rfl)) (by decide) (backOf (W := 0) (rm39_o l Z a0 hw [] a1 (11 : Int32) (0 : Int32) h0 n0 O0 (by decide)) hZ (tw hw 206 rfl) (tw hw 202 rfl) (by decide) (by decide)) (g := (mkF m 108 #[Rf a1, It (0 : Int32)] [(.int (0 : Int32)), (.int (11 : Int32)), (.ref a1)])) rfl (by rw [hml]; rfl) (argsL := [(.ref a1), (.int (11 : Int32)), (.int (0 : Int32))]) (rest := []) (lenOf pd_26 rfl) rfl (w0 rfl) (hb hby d38_108) (fun _ _ => ⟨rfl, e11, (by decide : 0 + 0 ≤ _), (by decide : 0 + 0 ≤ _)⟩)
  dsimp only [Pt.U, Pt.locs, Pt.cells, Pt.slots] at X12 l12 y12 z12 st12 hQ12
  subst l12 y12 z12
  obtain ⟨rfl, N12q, e12⟩ := hQ12
  have N12 := Fr.app N11 N12q
  have sg13 : SG p.tables e below (T12.setTop (mkF m 119 #[Rf a1, It (0 : Int32)] [(.int (1 : Int32))])) (s₁.setTop (mkF m 0 #[Rf a1, It (0 : Int32)] [])) := by
    intro target kt
    show Steps _ _ _ (s₁.setTop (mkF m 0 #[Rf a1, It (0 : Int32)] [])) _
    refine XS.aloadN X0.here hx rfl (hb hby d38_0) rfl rfl ?_
    refine XS.iconst X0.here hx rfl (hb hby d38_1) ?_
    refine XS.iloadN X0.here hx rfl (hb hby d38_2) rfl ?_
    refine st1 _ ?_
    refine XS.ifNo X1.here hx rfl (hb hby d38_6) rfl ((if0 _ _).trans (feq (by decide : ¬ ((1 : Int32) = (0 : Int32)))).1) ?_
    refine XS.aloadN X1.here hx rfl (hb hby d38_9) rfl rfl ?_
    refine XS.iconst X1.here hx rfl (hb hby d38_10) ?_
    refine XS.iloadN X1.here hx rfl (hb hby d38_11) rfl ?_
    refine st2 _ ?_
    refine XS.ifNo X2.here hx rfl (hb hby d38_15) rfl ((if0 _ _).trans (feq (by decide : ¬ ((1 : Int32) = (0 : Int32)))).1) ?_
    refine XS.aloadN X2.here hx rfl (hb hby d38_18) rfl rfl ?_
    refine XS.iconst X2.here hx rfl (hb hby d38_19) ?_
    refine XS.iloadN X2.here hx rfl (hb hby d38_20) rfl ?_
    refine st3 _ ?_
    refine XS.ifNo X3.here hx rfl (hb hby d38_24) rfl ((if0 _ _).trans (feq (by decide : ¬ ((1 : Int32) = (0 : Int32)))).1) ?_
    refine XS.aloadN X3.here hx rfl (hb hby d38_27) rfl rfl ?_
    refine XS.iconst X3.here hx rfl (hb hby d38_28) ?_
    refine XS.iloadN X3.here hx rfl (hb hby d38_29) rfl ?_
    refine st4 _ ?_
    refine XS.ifNo X4.here hx rfl (hb hby d38_33) rfl ((if0 _ _).trans (feq (by decide : ¬ ((1 : Int32) = (0 : Int32)))).1) ?_
    refine XS.aloadN X4.here hx rfl (hb hby d38_36) rfl rfl ?_
    refine XS.iconst X4.here hx rfl (hb hby d38_37) ?_
    refine XS.iloadN X4.here hx rfl (hb hby d38_38) rfl ?_
    refine st5 _ ?_
    refine XS.ifNo X5.here hx rfl (hb hby d38_42) rfl ((if0 _ _).trans (feq (by decide : ¬ ((1 : Int32) = (0 : Int32)))).1) ?_
    refine XS.aloadN X5.here hx rfl (hb hby d38_45) rfl rfl ?_
    refine XS.iconst X5.here hx rfl (hb hby d38_46) ?_
    refine XS.iloadN X5.here hx rfl (hb hby d38_47) rfl ?_
    refine st6 _ ?_
    refine XS.ifNo X6.here hx rfl (hb hby d38_51) rfl ((if0 _ _).trans (feq (by decide : ¬ ((1 : Int32) = (0 : Int32)))).1) ?_
    show Steps _ _ _ (T6.setTop (mkF m 54 #[Rf a1, It (0 : Int32)] [])) _
    refine XS.aloadN X6.here hx rfl (hb hby d38_54) rfl rfl ?_
    refine XS.bipush X6.here hx rfl (hb hby d38_55) ?_
    refine XS.iloadN X6.here hx rfl (hb hby d38_57) rfl ?_
    refine st7 _ ?_
    refine XS.ifNo X7.here hx rfl (hb hby d38_61) rfl ((if0 _ _).trans (feq (by decide : ¬ ((1 : Int32) = (0 : Int32)))).1) ?_
    refine XS.aloadN X7.here hx rfl (hb hby d38_64) rfl rfl ?_
    refine XS.bipush X7.here hx rfl (hb hby d38_65) ?_
    refine XS.iloadN X7.here hx rfl (hb hby d38_67) rfl ?_
    refine st8 _ ?_
    refine XS.ifNo X8.here hx rfl (hb hby d38_71) rfl ((if0 _ _).trans (feq (by decide : ¬ ((1 : Int32) = (0 : Int32)))).1) ?_
    refine XS.aloadN X8.here hx rfl (hb hby d38_74) rfl rfl ?_
    refine XS.bipush X8.here hx rfl (hb hby d38_75) ?_
    refine XS.iloadN X8.here hx rfl (hb hby d38_77) rfl ?_
    refine st9 _ ?_
    refine XS.ifNo X9.here hx rfl (hb hby d38_81) rfl ((if0 _ _).trans (feq (by decide : ¬ ((1 : Int32) = (0 : Int32)))).1) ?_
    refine XS.aloadN X9.here hx rfl (hb hby d38_84) rfl rfl ?_
    refine XS.bipush X9.here hx rfl (hb hby d38_85) ?_
    refine XS.iloadN X9.here hx rfl (hb hby d38_87) rfl ?_
    refine st10 _ ?_
    refine XS.ifNo X10.here hx rfl (hb hby d38_91) rfl ((if0 _ _).trans (feq (by decide : ¬ ((1 : Int32) = (0 : Int32)))).1) ?_
    refine XS.aloadN X10.here hx rfl (hb hby d38_94) rfl rfl ?_
    refine XS.bipush X10.here hx rfl (hb hby d38_95) ?_
    refine XS.iloadN X10.here hx rfl (hb hby d38_97) rfl ?_
    refine st11 _ ?_
    refine XS.ifNo X11.here hx rfl (hb hby d38_101) rfl ((if0 _ _).trans (feq (by decide : ¬ ((1 : Int32) = (0 : Int32)))).1) ?_
    refine XS.aloadN X11.here hx rfl (hb hby d38_104) rfl rfl ?_
    refine XS.bipush X11.here hx rfl (hb hby d38_105) ?_
    refine XS.iloadN X11.here hx rfl (hb hby d38_107) rfl ?_
    refine st12 _ ?_
    refine XS.ifNo X12.here hx rfl (hb hby d38_111) rfl ((if0 _ _).trans (feq (by decide : ¬ ((1 : Int32) = (0 : Int32)))).1) ?_
    show Steps _ _ _ (T12.setTop (mkF m 114 #[Rf a1, It (0 : Int32)] [])) _
    refine XS.iconst X12.here hx rfl (hb hby d38_114) ?_
    refine XS.goto X12.here hx rfl (pc0 := 115) (pc' := 119) rfl (hb hby d38_115) (by decide) (by decide) ?_
    exact kt
  obtain ⟨fs, hr, hrun, hended, hW, hsame⟩ := X12.leave (v := some (.int (1 : Int32))) (fun h => by rw [Bd.returns] at h; cases h)
  refine ⟨_, _, pre0 _ (sg13 _ (?_)), hrun, hended, _, _, rfl, ?_, ⟨_, rfl⟩, hW, hsame.mono (by decide) (by decide)⟩
  · show Steps _ _ _ (T12.setTop (mkF m 119 #[Rf a1, It (0 : Int32)] [(.int (1 : Int32))])) _
    exact retN X12 hx (t := .boolean) Bd.returns (by simp) (hb hby d38_119) hr
  · show Q38_0 Z a1 tv zm zn us vFM zC kt h0 n0 _ T12.heap _
    rw [e12]
    exact ⟨rfl, N12, rfl⟩
def Q38_1 (Z : State) (a1 : Addr) (tv : Addr) (zm : Int32) (zn : Nat) (us : List Value) (vFM : Value) (zC : Int32) (kt : ClassId) (h0 : Heap) (n0 : Nat) (v : Option Value) (h : Heap) (L : List Loc) : Prop := v = some (.int (1 : Int32)) ∧ Fr n0 L ∧ h = h0
theorem rm38_1 (l : Launch) (Z : State) (a0 : Array Value) (hw : ∀ d ∈ tables_1, d.before a0 Z = true) (ws : List Jvm.Cond) (a1 : Addr) (tv : Addr) (zm : Int32) (zn : Nat) (us : List Value) (vFM : Value) (zC : Int32) (kt : ClassId) (h0 : Heap) (n0 : Nat) (O0 : Old Z n0 h0) (hCS : ¬ zC = 0) (hFM : vFM.isRef = true) (h_z : Sm zm zn) (h_lt : 4 ≤ zn) (g0 : us.getD 0 (.int (0 : Int32)) = .int (32 : Int32)) (g1 : us.getD 1 (.int (0 : Int32)) = .int (32 : Int32)) (g2 : us.getD 2 (.int (0 : Int32)) = .int (32 : Int32)) (g3 : us.getD 3 (.int (0 : Int32)) = .int (32 : Int32)) (sC : TS_0 Z zC) (sF : TS_3 Z vFM) (E_a1 : Exa Z h0 a1 "java/lang/String") (F_coder_a1 : Fld Z h0 a1 "java/lang/String" "coder" "B" (.int (0 : Int32))) (F_value_a1 : Fld Z h0 a1 "java/lang/String" "value" "[B" (.ref tv)) (A_tv : Arv Z h0 tv kt .byte zm us (.int (0 : Int32))) :
    MetFree l m_39 (head1 (Jvm.Cond.code m_39 method_3_code 2 (some .boolean) :: ws) (rk 5 0 0 67)) (fun a U => a = #[(.ref a1), (.int (4 : Int32))] ∧ Z.Warmed39 U.vm ∧ U.heap = h0) (fun _ _ _ _ _ => True) (fun _ U o U' => ∃ v L, o = .returned v ∧ Q38_1 Z a1 tv zm zn us vFM zC kt h0 n0 v U'.heap L ∧ FrameEnd U o U' L (rk 5 0 0 67).cells (rk 5 0 0 67).slots) := by
  refine MetFree.of_bodySF (plainFor_of_name pn_7) hisR ?_
  intro p e s m args below meth c s₁ Bd hml0 hP hK
  obtain ⟨rfl, hZ, hh⟩ := hP
  have hx := Bd.exec
  have hby := Bd.bytes
  have hml : c.maxLocals = 2 := hml0
  have hown : s.vm.findClass "com/example/tetrad/tetrad/generate/SourceTextDedentPinLaw" = some m.cls := findClass_of_methodNamed Bd.named
  have X0 : Stand p l e (rk 5 0 0 67) s m #[(.ref a1), (.int (4 : Int32))] below meth c s₁ [] 0 0 := Stand.of_body Bd
  have e0 : s₁.heap = h0 := by rw [← hh, Bd.state]; rfl
  have N0 := Fr.nil n0
  have pre0 := own_pre (tb := p.tables) (e := e) (bl := below) (s := s₁) (ef_4 m a1 (4 : Int32))
  obtain ⟨_, _, ⟨T1, L1, k1, n1⟩, -, X1, ⟨Lc1, hQ1, l1, y1, z1⟩, st1⟩ := Jvm.LawKit.callS X0 hx (y := m_38) hown (mvT hZ (tw hw 204 rfl)) (mvT hZ (tw hw 205 rfl)) (mvT hZ (tw hw 202 rfl)) (mvT hZ (tw hw 206 rfl)) (by decide) (backOf (W := 0) (rm39_i l Z a0 hw [] a1 (0 : Int32) (4 : Int32) tv zm zn 0 us vFM zC kt h0 n0 O0 (by decide) hCS hFM (Sm.lit (x := (0 : Int32)) (n := 0) (by decide)) h_z (Nat.lt_of_lt_of_le (by decide) h_lt) g0 sC sF E_a1 F_coder_a1 F_value_a1 A_tv) hZ (tw hw 206 rfl) (tw hw 202 rfl) (by decide) (by decide)) (g := (mkF m 3 #[Rf a1, It (4 : Int32)] [(.int (4 : Int32)), (.int (0 : Int32)), (.ref a1)])) rfl (by rw [hml]; rfl) (argsL := [(.ref a1), (.int (0 : Int32)), (.int (4 : Int32))]) (rest := []) (lenOf pd_26 rfl) rfl (w0 rfl) (hb hby d38_3) (fun _ _ => ⟨rfl, e0, (by decide : 0 + 0 ≤ _), (by decide : 0 + 0 ≤ _)⟩)
  dsimp only [Pt.U, Pt.locs, Pt.cells, Pt.slots] at X1 l1 y1 z1 st1 hQ1
  subst l1 y1 z1
  obtain ⟨rfl, N1q, e1⟩ := hQ1
  have N1 := Fr.app N0 N1q
  obtain ⟨_, _, ⟨T2, L2, k2, n2⟩, -, X2, ⟨Lc2, hQ2, l2, y2, z2⟩, st2⟩ := Jvm.LawKit.callS X1 hx (y := m_38) hown (mvT hZ (tw hw 204 rfl)) (mvT hZ (tw hw 205 rfl)) (mvT hZ (tw hw 202 rfl)) (mvT hZ (tw hw 206 rfl)) (by decide) (backOf (W := 0) (rm39_i l Z a0 hw [] a1 (1 : Int32) (4 : Int32) tv zm zn 1 us vFM zC kt h0 n0 O0 (by decide) hCS hFM (Sm.lit (x := (1 : Int32)) (n := 1) (by decide)) h_z (Nat.lt_of_lt_of_le (by decide) h_lt) g1 sC sF E_a1 F_coder_a1 F_value_a1 A_tv) hZ (tw hw 206 rfl) (tw hw 202 rfl) (by decide) (by decide)) (g := (mkF m 12 #[Rf a1, It (4 : Int32)] [(.int (4 : Int32)), (.int (1 : Int32)), (.ref a1)])) rfl (by rw [hml]; rfl) (argsL := [(.ref a1), (.int (1 : Int32)), (.int (4 : Int32))]) (rest := []) (lenOf pd_26 rfl) rfl (w0 rfl) (hb hby d38_12) (fun _ _ => ⟨rfl, e1, (by decide : 0 + 0 ≤ _), (by decide : 0 + 0 ≤ _)⟩)
  dsimp only [Pt.U, Pt.locs, Pt.cells, Pt.slots] at X2 l2 y2 z2 st2 hQ2
  subst l2 y2 z2
  obtain ⟨rfl, N2q, e2⟩ := hQ2
  have N2 := Fr.app N1 N2q
  obtain ⟨_, _, ⟨T3, L3, k3, n3⟩, -, X3, ⟨Lc3, hQ3, l3, y3, z3⟩, st3⟩ := Jvm.LawKit.callS X2 hx (y := m_38) hown (mvT hZ (tw hw 204 rfl)) (mvT hZ (tw hw 205 rfl)) (mvT hZ (tw hw 202 rfl)) (mvT hZ (tw hw 206 rfl)) (by decide) (backOf (W := 0) (rm39_i l Z a0 hw [] a1 (2 : Int32) (4 : Int32) tv zm zn 2 us vFM zC kt h0 n0 O0 (by decide) hCS hFM (Sm.lit (x := (2 : Int32)) (n := 2) (by decide)) h_z (Nat.lt_of_lt_of_le (by decide) h_lt) g2 sC sF E_a1 F_coder_a1 F_value_a1 A_tv) hZ (tw hw 206 rfl) (tw hw 202 rfl) (by decide) (by decide)) (g := (mkF m 21 #[Rf a1, It (4 : Int32)] [(.int (4 : Int32)), (.int (2 : Int32)), (.ref a1)])) rfl (by rw [hml]; rfl) (argsL := [(.ref a1), (.int (2 : Int32)), (.int (4 : Int32))]) (rest := []) (lenOf pd_26 rfl) rfl (w0 rfl) (hb hby d38_21) (fun _ _ => ⟨rfl, e2, (by decide : 0 + 0 ≤ _), (by decide : 0 + 0 ≤ _)⟩)
  dsimp only [Pt.U, Pt.locs, Pt.cells, Pt.slots] at X3 l3 y3 z3 st3 hQ3
  subst l3 y3 z3
  obtain ⟨rfl, N3q, e3⟩ := hQ3
  have N3 := Fr.app N2 N3q
  obtain ⟨_, _, ⟨T4, L4, k4, n4⟩, -, X4, ⟨Lc4, hQ4, l4, y4, z4⟩, st4⟩ := Jvm.LawKit.callS X3 hx (y := m_38) hown (mvT hZ (tw hw 204 rfl)) (mvT hZ (tw hw 205 rfl)) (mvT hZ (tw hw 202 rfl)) (mvT hZ (tw hw 206 rfl)) (by decide) (backOf (W := 0) (rm39_i l Z a0 hw [] a1 (3 : Int32) (4 : Int32) tv zm zn 3 us vFM zC kt h0 n0 O0 (by decide) hCS hFM (Sm.lit (x := (3 : Int32)) (n := 3) (by decide)) h_z (Nat.lt_of_lt_of_le (by decide) h_lt) g3 sC sF E_a1 F_coder_a1 F_value_a1 A_tv) hZ (tw hw 206 rfl) (tw hw 202 rfl) (by decide) (by decide)) (g := (mkF m 30 #[Rf a1, It (4 : Int32)] [(.int (4 : Int32)), (.int (3 : Int32)), (.ref a1)])) rfl (by rw [hml]; rfl) (argsL := [(.ref a1), (.int (3 : Int32)), (.int (4 : Int32))]) (rest := []) (lenOf pd_26 rfl) rfl (w0 rfl) (hb hby d38_30) (fun _ _ => ⟨rfl, e3, (by decide : 0 + 0 ≤ _), (by decide : 0 + 0 ≤ _)⟩)
  dsimp only [Pt.U, Pt.locs, Pt.cells, Pt.slots] at X4 l4 y4 z4 st4 hQ4
  subst l4 y4 z4
  obtain ⟨rfl, N4q, e4⟩ := hQ4
  have N4 := Fr.app N3 N4q
  obtain ⟨_, _, ⟨T5, L5, k5, n5⟩, -, X5, ⟨Lc5, hQ5, l5, y5, z5⟩, st5⟩ := Jvm.LawKit.callS X4 hx (y := m_38) hown (mvT hZ (tw hw 204 rfl)) (mvT hZ (tw hw 205 rfl)) (mvT hZ (tw hw 202 rfl)) (mvT hZ (tw hw 206 rfl)) (by decide) (backOf (W := 0) (rm39_o l Z a0 hw [] a1 (4 : Int32) (4 : Int32) h0 n0 O0 (by decide)) hZ (tw hw 206 rfl) (tw hw 202 rfl) (by decide) (by decide)) (g := (mkF m 39 #[Rf a1, It (4 : Int32)] [(.int (4 : Int32)), (.int (4 : Int32)), (.ref a1)])) rfl (by rw [hml]; rfl) (argsL := [(.ref a1), (.int (4 : Int32)), (.int (4 : Int32))]) (rest := []) (lenOf pd_26 rfl) rfl (w0 rfl) (hb hby d38_39) (fun _ _ => ⟨rfl, e4, (by decide : 0 + 0 ≤ _), (by decide : 0 + 0 ≤ _)⟩)
  dsimp only [Pt.U, Pt.locs, Pt.cells, Pt.slots] at X5 l5 y5 z5 st5 hQ5
  subst l5 y5 z5
  obtain ⟨rfl, N5q, e5⟩ := hQ5
  have N5 := Fr.app N4 N5q
  obtain ⟨_, _, ⟨T6, L6, k6, n6⟩, -, X6, ⟨Lc6, hQ6, l6, y6, z6⟩, st6⟩ := Jvm.LawKit.callS X5 hx (y := m_38) hown (mvT hZ (tw hw 204 rfl)) (mvT hZ (tw hw 205 rfl)) (mvT hZ (tw hw 202 rfl)) (mvT hZ (tw hw 206 rfl)) (by decide) (backOf (W := 0) (rm39_o l Z a0 hw [] a1 (5 : Int32) (4 : Int32) h0 n0 O0 (by decide)) hZ (tw hw 206 rfl) (tw hw 202 rfl) (by decide) (by decide)) (g := (mkF m 48 #[Rf a1, It (4 : Int32)] [(.int (4 : Int32)), (.int (5 : Int32)), (.ref a1)])) rfl (by rw [hml]; rfl) (argsL := [(.ref a1), (.int (5 : Int32)), (.int (4 : Int32))]) (rest := []) (lenOf pd_26 rfl) rfl (w0 rfl) (hb hby d38_48) (fun _ _ => ⟨rfl, e5, (by decide : 0 + 0 ≤ _), (by decide : 0 + 0 ≤ _)⟩)
  dsimp only [Pt.U, Pt.locs, Pt.cells, Pt.slots] at X6 l6 y6 z6 st6 hQ6
  subst l6 y6 z6
  obtain ⟨rfl, N6q, e6⟩ := hQ6
  have N6 := Fr.app N5 N6q
  obtain ⟨_, _, ⟨T7, L7, k7, n7⟩, -, X7, ⟨Lc7, hQ7, l7, y7, z7⟩, st7⟩ := Jvm.LawKit.callS X6 hx (y := m_38) hown (mvT hZ (tw hw 204 rfl)) (mvT hZ (tw hw 205 rfl)) (mvT hZ (tw hw 202 rfl)) (mvT hZ (tw hw 206 rfl)) (by decide) (backOf (W := 0) (rm39_o l Z a0 hw [] a1 (6 : Int32) (4 : Int32) h0 n0 O0 (by decide)) hZ (tw hw 206 rfl) (tw hw 202 rfl) (by decide) (by decide)) (g := (mkF m 58 #[Rf a1, It (4 : Int32)] [(.int (4 : Int32)), (.int (6 : Int32)), (.ref a1)])) rfl (by rw [hml]; rfl) (argsL := [(.ref a1), (.int (6 : Int32)), (.int (4 : Int32))]) (rest := []) (lenOf pd_26 rfl) rfl (w0 rfl) (hb hby d38_58) (fun _ _ => ⟨rfl, e6, (by decide : 0 + 0 ≤ _), (by decide : 0 + 0 ≤ _)⟩)
  dsimp only [Pt.U, Pt.locs, Pt.cells, Pt.slots] at X7 l7 y7 z7 st7 hQ7
  subst l7 y7 z7
  obtain ⟨rfl, N7q, e7⟩ := hQ7
  have N7 := Fr.app N6 N7q
  obtain ⟨_, _, ⟨T8, L8, k8, n8⟩, -, X8, ⟨Lc8, hQ8, l8, y8, z8⟩, st8⟩ := Jvm.LawKit.callS X7 hx (y := m_38) hown (mvT hZ (tw hw 204 rfl)) (mvT hZ (tw hw 205 rfl)) (mvT hZ (tw hw 202 rfl)) (mvT hZ (tw hw 206 rfl)) (by decide) (backOf (W := 0) (rm39_o l Z a0 hw [] a1 (7 : Int32) (4 : Int32) h0 n0 O0 (by decide)) hZ (tw hw 206 rfl) (tw hw 202 rfl) (by decide) (by decide)) (g := (mkF m 68 #[Rf a1, It (4 : Int32)] [(.int (4 : Int32)), (.int (7 : Int32)), (.ref a1)])) rfl (by rw [hml]; rfl) (argsL := [(.ref a1), (.int (7 : Int32)), (.int (4 : Int32))]) (rest := []) (lenOf pd_26 rfl) rfl (w0 rfl) (hb hby d38_68) (fun _ _ => ⟨rfl, e7, (by decide : 0 + 0 ≤ _), (by decide : 0 + 0 ≤ _)⟩)
  dsimp only [Pt.U, Pt.locs, Pt.cells, Pt.slots] at X8 l8 y8 z8 st8 hQ8
  subst l8 y8 z8
  obtain ⟨rfl, N8q, e8⟩ := hQ8
  have N8 := Fr.app N7 N8q
  obtain ⟨_, _, ⟨T9, L9, k9, n9⟩, -, X9, ⟨Lc9, hQ9, l9, y9, z9⟩, st9⟩ := Jvm.LawKit.callS X8 hx (y := m_38) hown (mvT hZ (tw hw 204 rfl)) (mvT hZ (tw hw 205 rfl)) (mvT hZ (tw hw 202 rfl)) (mvT hZ (tw hw 206 rfl)) (by decide) (backOf (W := 0) (rm39_o l Z a0 hw [] a1 (8 : Int32) (4 : Int32) h0 n0 O0 (by decide)) hZ (tw hw 206 rfl) (tw hw 202 rfl) (by decide) (by decide)) (g := (mkF m 78 #[Rf a1, It (4 : Int32)] [(.int (4 : Int32)), (.int (8 : Int32)), (.ref a1)])) rfl (by rw [hml]; rfl) (argsL := [(.ref a1), (.int (8 : Int32)), (.int (4 : Int32))]) (rest := []) (lenOf pd_26 rfl) rfl (w0 rfl) (hb hby d38_78) (fun _ _ => ⟨rfl, e8, (by decide : 0 + 0 ≤ _), (by decide : 0 + 0 ≤ _)⟩)
  dsimp only [Pt.U, Pt.locs, Pt.cells, Pt.slots] at X9 l9 y9 z9 st9 hQ9
  subst l9 y9 z9
  obtain ⟨rfl, N9q, e9⟩ := hQ9
  have N9 := Fr.app N8 N9q
  obtain ⟨_, _, ⟨T10, L10, k10, n10⟩, -, X10, ⟨Lc10, hQ10, l10, y10, z10⟩, st10⟩ := Jvm.LawKit.callS X9 hx (y := m_38) hown (mvT hZ (tw hw 204 rfl)) (mvT hZ (tw hw 205 rfl)) (mvT hZ (tw hw 202 rfl)) (mvT hZ (tw hw 206 rfl)) (by decide) (backOf (W := 0) (rm39_o l Z a0 hw [] a1 (9 : Int32) (4 : Int32) h0 n0 O0 (by decide)) hZ (tw hw 206 rfl) (tw hw 202 rfl) (by decide) (by decide)) (g := (mkF m 88 #[Rf a1, It (4 : Int32)] [(.int (4 : Int32)), (.int (9 : Int32)), (.ref a1)])) rfl (by rw [hml]; rfl) (argsL := [(.ref a1), (.int (9 : Int32)), (.int (4 : Int32))]) (rest := []) (lenOf pd_26 rfl) rfl (w0 rfl) (hb hby d38_88) (fun _ _ => ⟨rfl, e9, (by decide : 0 + 0 ≤ _), (by decide : 0 + 0 ≤ _)⟩)
  dsimp only [Pt.U, Pt.locs, Pt.cells, Pt.slots] at X10 l10 y10 z10 st10 hQ10
  subst l10 y10 z10
  obtain ⟨rfl, N10q, e10⟩ := hQ10
  have N10 := Fr.app N9 N10q
  obtain ⟨_, _, ⟨T11, L11, k11, n11⟩, -, X11, ⟨Lc11, hQ11, l11, y11, z11⟩, st11⟩ := Jvm.LawKit.callS X10 hx (y := m_38) hown (mvT hZ (tw hw 204 rfl)) (mvT hZ (tw hw 205 rfl)) (mvT hZ (tw hw 202 rfl)) (mvT hZ (tw hw 206 rfl)) (by decide) (backOf (W := 0) (rm39_o l Z a0 hw [] a1 (10 : Int32) (4 : Int32) h0 n0 O0 (by decide)) hZ (tw hw 206 rfl) (tw hw 202 rfl) (by decide) (by decide)) (g := (mkF m 98 #[Rf a1, It (4 : Int32)] [(.int (4 : Int32)), (.int (10 : Int32)), (.ref a1)])) rfl (by rw [hml]; rfl) (argsL := [(.ref a1), (.int (10 : Int32)), (.int (4 : Int32))]) (rest := []) (lenOf pd_26 rfl) rfl (w0 rfl) (hb hby d38_98) (fun _ _ => ⟨rfl, e10, (by decide : 0 + 0 ≤ _), (by decide : 0 + 0 ≤ _)⟩)
  dsimp only [Pt.U, Pt.locs, Pt.cells, Pt.slots] at X11 l11 y11 z11 st11 hQ11
  subst l11 y11 z11
  obtain ⟨rfl, N11q, e11⟩ := hQ11
  have N11 := Fr.app N10 N11q
  obtain ⟨_, _, ⟨T12, L12, k12, n12⟩, -, X12, ⟨Lc12, hQ12, l12, y12, z12⟩, st12⟩ := Jvm.LawKit.callS X11 hx (y := m_38) hown (mvT hZ (tw hw 204 rfl)) (mvT hZ (tw hw 205 rfl)) (mvT hZ (tw hw 202 rfl)) (mvT hZ (tw hw 206 rfl)) (by decide) (backOf (W := 0) (rm39_o l Z a0 hw [] a1 (11 : Int32) (4 : Int32) h0 n0 O0 (by decide)) hZ (tw hw 206 rfl) (tw hw 202 rfl) (by decide) (by decide)) (g := (mkF m 108 #[Rf a1, It (4 : Int32)] [(.int (4 : Int32)), (.int (11 : Int32)), (.ref a1)])) rfl (by rw [hml]; rfl) (argsL := [(.ref a1), (.int (11 : Int32)), (.int (4 : Int32))]) (rest := []) (lenOf pd_26 rfl) rfl (w0 rfl) (hb hby d38_108) (fun _ _ => ⟨rfl, e11, (by decide : 0 + 0 ≤ _), (by decide : 0 + 0 ≤ _)⟩)
  dsimp only [Pt.U, Pt.locs, Pt.cells, Pt.slots] at X12 l12 y12 z12 st12 hQ12
  subst l12 y12 z12
  obtain ⟨rfl, N12q, e12⟩ := hQ12
  have N12 := Fr.app N11 N12q
  have sg13 : SG p.tables e below (T12.setTop (mkF m 119 #[Rf a1, It (4 : Int32)] [(.int (1 : Int32))])) (s₁.setTop (mkF m 0 #[Rf a1, It (4 : Int32)] [])) := by
    intro target kt
    show Steps _ _ _ (s₁.setTop (mkF m 0 #[Rf a1, It (4 : Int32)] [])) _
    refine XS.aloadN X0.here hx rfl (hb hby d38_0) rfl rfl ?_
    refine XS.iconst X0.here hx rfl (hb hby d38_1) ?_
    refine XS.iloadN X0.here hx rfl (hb hby d38_2) rfl ?_
    refine st1 _ ?_
    refine XS.ifNo X1.here hx rfl (hb hby d38_6) rfl ((if0 _ _).trans (feq (by decide : ¬ ((1 : Int32) = (0 : Int32)))).1) ?_
    refine XS.aloadN X1.here hx rfl (hb hby d38_9) rfl rfl ?_
    refine XS.iconst X1.here hx rfl (hb hby d38_10) ?_
    refine XS.iloadN X1.here hx rfl (hb hby d38_11) rfl ?_
    refine st2 _ ?_
    refine XS.ifNo X2.here hx rfl (hb hby d38_15) rfl ((if0 _ _).trans (feq (by decide : ¬ ((1 : Int32) = (0 : Int32)))).1) ?_
    refine XS.aloadN X2.here hx rfl (hb hby d38_18) rfl rfl ?_
    refine XS.iconst X2.here hx rfl (hb hby d38_19) ?_
    refine XS.iloadN X2.here hx rfl (hb hby d38_20) rfl ?_
    refine st3 _ ?_
    refine XS.ifNo X3.here hx rfl (hb hby d38_24) rfl ((if0 _ _).trans (feq (by decide : ¬ ((1 : Int32) = (0 : Int32)))).1) ?_
    refine XS.aloadN X3.here hx rfl (hb hby d38_27) rfl rfl ?_
    refine XS.iconst X3.here hx rfl (hb hby d38_28) ?_
    refine XS.iloadN X3.here hx rfl (hb hby d38_29) rfl ?_
    refine st4 _ ?_
    refine XS.ifNo X4.here hx rfl (hb hby d38_33) rfl ((if0 _ _).trans (feq (by decide : ¬ ((1 : Int32) = (0 : Int32)))).1) ?_
    refine XS.aloadN X4.here hx rfl (hb hby d38_36) rfl rfl ?_
    refine XS.iconst X4.here hx rfl (hb hby d38_37) ?_
    refine XS.iloadN X4.here hx rfl (hb hby d38_38) rfl ?_
    refine st5 _ ?_
    refine XS.ifNo X5.here hx rfl (hb hby d38_42) rfl ((if0 _ _).trans (feq (by decide : ¬ ((1 : Int32) = (0 : Int32)))).1) ?_
    refine XS.aloadN X5.here hx rfl (hb hby d38_45) rfl rfl ?_
    refine XS.iconst X5.here hx rfl (hb hby d38_46) ?_
    refine XS.iloadN X5.here hx rfl (hb hby d38_47) rfl ?_
    refine st6 _ ?_
    refine XS.ifNo X6.here hx rfl (hb hby d38_51) rfl ((if0 _ _).trans (feq (by decide : ¬ ((1 : Int32) = (0 : Int32)))).1) ?_
    show Steps _ _ _ (T6.setTop (mkF m 54 #[Rf a1, It (4 : Int32)] [])) _
    refine XS.aloadN X6.here hx rfl (hb hby d38_54) rfl rfl ?_
    refine XS.bipush X6.here hx rfl (hb hby d38_55) ?_
    refine XS.iloadN X6.here hx rfl (hb hby d38_57) rfl ?_
    refine st7 _ ?_
    refine XS.ifNo X7.here hx rfl (hb hby d38_61) rfl ((if0 _ _).trans (feq (by decide : ¬ ((1 : Int32) = (0 : Int32)))).1) ?_
    refine XS.aloadN X7.here hx rfl (hb hby d38_64) rfl rfl ?_
    refine XS.bipush X7.here hx rfl (hb hby d38_65) ?_
    refine XS.iloadN X7.here hx rfl (hb hby d38_67) rfl ?_
    refine st8 _ ?_
    refine XS.ifNo X8.here hx rfl (hb hby d38_71) rfl ((if0 _ _).trans (feq (by decide : ¬ ((1 : Int32) = (0 : Int32)))).1) ?_
    refine XS.aloadN X8.here hx rfl (hb hby d38_74) rfl rfl ?_
    refine XS.bipush X8.here hx rfl (hb hby d38_75) ?_
    refine XS.iloadN X8.here hx rfl (hb hby d38_77) rfl ?_
    refine st9 _ ?_
    refine XS.ifNo X9.here hx rfl (hb hby d38_81) rfl ((if0 _ _).trans (feq (by decide : ¬ ((1 : Int32) = (0 : Int32)))).1) ?_
    refine XS.aloadN X9.here hx rfl (hb hby d38_84) rfl rfl ?_
    refine XS.bipush X9.here hx rfl (hb hby d38_85) ?_
    refine XS.iloadN X9.here hx rfl (hb hby d38_87) rfl ?_
    refine st10 _ ?_
    refine XS.ifNo X10.here hx rfl (hb hby d38_91) rfl ((if0 _ _).trans (feq (by decide : ¬ ((1 : Int32) = (0 : Int32)))).1) ?_
    refine XS.aloadN X10.here hx rfl (hb hby d38_94) rfl rfl ?_
    refine XS.bipush X10.here hx rfl (hb hby d38_95) ?_
    refine XS.iloadN X10.here hx rfl (hb hby d38_97) rfl ?_
    refine st11 _ ?_
    refine XS.ifNo X11.here hx rfl (hb hby d38_101) rfl ((if0 _ _).trans (feq (by decide : ¬ ((1 : Int32) = (0 : Int32)))).1) ?_
    refine XS.aloadN X11.here hx rfl (hb hby d38_104) rfl rfl ?_
    refine XS.bipush X11.here hx rfl (hb hby d38_105) ?_
    refine XS.iloadN X11.here hx rfl (hb hby d38_107) rfl ?_
    refine st12 _ ?_
    refine XS.ifNo X12.here hx rfl (hb hby d38_111) rfl ((if0 _ _).trans (feq (by decide : ¬ ((1 : Int32) = (0 : Int32)))).1) ?_
    show Steps _ _ _ (T12.setTop (mkF m 114 #[Rf a1, It (4 : Int32)] [])) _
    refine XS.iconst X12.here hx rfl (hb hby d38_114) ?_
    refine XS.goto X12.here hx rfl (pc0 := 115) (pc' := 119) rfl (hb hby d38_115) (by decide) (by decide) ?_
    exact kt
  obtain ⟨fs, hr, hrun, hended, hW, hsame⟩ := X12.leave (v := some (.int (1 : Int32))) (fun h => by rw [Bd.returns] at h; cases h)
  refine ⟨_, _, pre0 _ (sg13 _ (?_)), hrun, hended, _, _, rfl, ?_, ⟨_, rfl⟩, hW, hsame.mono (by decide) (by decide)⟩
  · show Steps _ _ _ (T12.setTop (mkF m 119 #[Rf a1, It (4 : Int32)] [(.int (1 : Int32))])) _
    exact retN X12 hx (t := .boolean) Bd.returns (by simp) (hb hby d38_119) hr
  · show Q38_1 Z a1 tv zm zn us vFM zC kt h0 n0 _ T12.heap _
    rw [e12]
    exact ⟨rfl, N12, rfl⟩
def Q38_2 (Z : State) (a1 : Addr) (tv : Addr) (zm : Int32) (zn : Nat) (us : List Value) (vFM : Value) (zC : Int32) (kt : ClassId) (h0 : Heap) (n0 : Nat) (v : Option Value) (h : Heap) (L : List Loc) : Prop := v = some (.int (1 : Int32)) ∧ Fr n0 L ∧ h = h0
theorem rm38_2 (l : Launch) (Z : State) (a0 : Array Value) (hw : ∀ d ∈ tables_1, d.before a0 Z = true) (ws : List Jvm.Cond) (a1 : Addr) (tv : Addr) (zm : Int32) (zn : Nat) (us : List Value) (vFM : Value) (zC : Int32) (kt : ClassId) (h0 : Heap) (n0 : Nat) (O0 : Old Z n0 h0) (hCS : ¬ zC = 0) (hFM : vFM.isRef = true) (h_z : Sm zm zn) (h_lt : 8 ≤ zn) (g0 : us.getD 0 (.int (0 : Int32)) = .int (32 : Int32)) (g1 : us.getD 1 (.int (0 : Int32)) = .int (32 : Int32)) (g2 : us.getD 2 (.int (0 : Int32)) = .int (32 : Int32)) (g3 : us.getD 3 (.int (0 : Int32)) = .int (32 : Int32)) (g4 : us.getD 4 (.int (0 : Int32)) = .int (32 : Int32)) (g5 : us.getD 5 (.int (0 : Int32)) = .int (32 : Int32)) (g6 : us.getD 6 (.int (0 : Int32)) = .int (32 : Int32)) (g7 : us.getD 7 (.int (0 : Int32)) = .int (32 : Int32)) (sC : TS_0 Z zC) (sF : TS_3 Z vFM) (E_a1 : Exa Z h0 a1 "java/lang/String") (F_coder_a1 : Fld Z h0 a1 "java/lang/String" "coder" "B" (.int (0 : Int32))) (F_value_a1 : Fld Z h0 a1 "java/lang/String" "value" "[B" (.ref tv)) (A_tv : Arv Z h0 tv kt .byte zm us (.int (0 : Int32))) :
    MetFree l m_39 (head1 (Jvm.Cond.code m_39 method_3_code 2 (some .boolean) :: ws) (rk 5 0 0 67)) (fun a U => a = #[(.ref a1), (.int (8 : Int32))] ∧ Z.Warmed39 U.vm ∧ U.heap = h0) (fun _ _ _ _ _ => True) (fun _ U o U' => ∃ v L, o = .returned v ∧ Q38_2 Z a1 tv zm zn us vFM zC kt h0 n0 v U'.heap L ∧ FrameEnd U o U' L (rk 5 0 0 67).cells (rk 5 0 0 67).slots) := by
  refine MetFree.of_bodySF (plainFor_of_name pn_7) hisR ?_
  intro p e s m args below meth c s₁ Bd hml0 hP hK
  obtain ⟨rfl, hZ, hh⟩ := hP
  have hx := Bd.exec
  have hby := Bd.bytes
  have hml : c.maxLocals = 2 := hml0
  have hown : s.vm.findClass "com/example/tetrad/tetrad/generate/SourceTextDedentPinLaw" = some m.cls := findClass_of_methodNamed Bd.named
  have X0 : Stand p l e (rk 5 0 0 67) s m #[(.ref a1), (.int (8 : Int32))] below meth c s₁ [] 0 0 := Stand.of_body Bd
  have e0 : s₁.heap = h0 := by rw [← hh, Bd.state]; rfl
  have N0 := Fr.nil n0
  have pre0 := own_pre (tb := p.tables) (e := e) (bl := below) (s := s₁) (ef_4 m a1 (8 : Int32))
  obtain ⟨_, _, ⟨T1, L1, k1, n1⟩, -, X1, ⟨Lc1, hQ1, l1, y1, z1⟩, st1⟩ := Jvm.LawKit.callS X0 hx (y := m_38) hown (mvT hZ (tw hw 204 rfl)) (mvT hZ (tw hw 205 rfl)) (mvT hZ (tw hw 202 rfl)) (mvT hZ (tw hw 206 rfl)) (by decide) (backOf (W := 0) (rm39_i l Z a0 hw [] a1 (0 : Int32) (8 : Int32) tv zm zn 0 us vFM zC kt h0 n0 O0 (by decide) hCS hFM (Sm.lit (x := (0 : Int32)) (n := 0) (by decide)) h_z (Nat.lt_of_lt_of_le (by decide) h_lt) g0 sC sF E_a1 F_coder_a1 F_value_a1 A_tv) hZ (tw hw 206 rfl) (tw hw 202 rfl) (by decide) (by decide)) (g := (mkF m 3 #[Rf a1, It (8 : Int32)] [(.int (8 : Int32)), (.int (0 : Int32)), (.ref a1)])) rfl (by rw [hml]; rfl) (argsL := [(.ref a1), (.int (0 : Int32)), (.int (8 : Int32))]) (rest := []) (lenOf pd_26 rfl) rfl (w0 rfl) (hb hby d38_3) (fun _ _ => ⟨rfl, e0, (by decide : 0 + 0 ≤ _), (by decide : 0 + 0 ≤ _)⟩)
  dsimp only [Pt.U, Pt.locs, Pt.cells, Pt.slots] at X1 l1 y1 z1 st1 hQ1
  subst l1 y1 z1
  obtain ⟨rfl, N1q, e1⟩ := hQ1
  have N1 := Fr.app N0 N1q
  obtain ⟨_, _, ⟨T2, L2, k2, n2⟩, -, X2, ⟨Lc2, hQ2, l2, y2, z2⟩, st2⟩ := Jvm.LawKit.callS X1 hx (y := m_38) hown (mvT hZ (tw hw 204 rfl)) (mvT hZ (tw hw 205 rfl)) (mvT hZ (tw hw 202 rfl)) (mvT hZ (tw hw 206 rfl)) (by decide) (backOf (W := 0) (rm39_i l Z a0 hw [] a1 (1 : Int32) (8 : Int32) tv zm zn 1 us vFM zC kt h0 n0 O0 (by decide) hCS hFM (Sm.lit (x := (1 : Int32)) (n := 1) (by decide)) h_z (Nat.lt_of_lt_of_le (by decide) h_lt) g1 sC sF E_a1 F_coder_a1 F_value_a1 A_tv) hZ (tw hw 206 rfl) (tw hw 202 rfl) (by decide) (by decide)) (g := (mkF m 12 #[Rf a1, It (8 : Int32)] [(.int (8 : Int32)), (.int (1 : Int32)), (.ref a1)])) rfl (by rw [hml]; rfl) (argsL := [(.ref a1), (.int (1 : Int32)), (.int (8 : Int32))]) (rest := []) (lenOf pd_26 rfl) rfl (w0 rfl) (hb hby d38_12) (fun _ _ => ⟨rfl, e1, (by decide : 0 + 0 ≤ _), (by decide : 0 + 0 ≤ _)⟩)
  dsimp only [Pt.U, Pt.locs, Pt.cells, Pt.slots] at X2 l2 y2 z2 st2 hQ2
  subst l2 y2 z2
  obtain ⟨rfl, N2q, e2⟩ := hQ2
  have N2 := Fr.app N1 N2q
  obtain ⟨_, _, ⟨T3, L3, k3, n3⟩, -, X3, ⟨Lc3, hQ3, l3, y3, z3⟩, st3⟩ := Jvm.LawKit.callS X2 hx (y := m_38) hown (mvT hZ (tw hw 204 rfl)) (mvT hZ (tw hw 205 rfl)) (mvT hZ (tw hw 202 rfl)) (mvT hZ (tw hw 206 rfl)) (by decide) (backOf (W := 0) (rm39_i l Z a0 hw [] a1 (2 : Int32) (8 : Int32) tv zm zn 2 us vFM zC kt h0 n0 O0 (by decide) hCS hFM (Sm.lit (x := (2 : Int32)) (n := 2) (by decide)) h_z (Nat.lt_of_lt_of_le (by decide) h_lt) g2 sC sF E_a1 F_coder_a1 F_value_a1 A_tv) hZ (tw hw 206 rfl) (tw hw 202 rfl) (by decide) (by decide)) (g := (mkF m 21 #[Rf a1, It (8 : Int32)] [(.int (8 : Int32)), (.int (2 : Int32)), (.ref a1)])) rfl (by rw [hml]; rfl) (argsL := [(.ref a1), (.int (2 : Int32)), (.int (8 : Int32))]) (rest := []) (lenOf pd_26 rfl) rfl (w0 rfl) (hb hby d38_21) (fun _ _ => ⟨rfl, e2, (by decide : 0 + 0 ≤ _), (by decide : 0 + 0 ≤ _)⟩)
  dsimp only [Pt.U, Pt.locs, Pt.cells, Pt.slots] at X3 l3 y3 z3 st3 hQ3
  subst l3 y3 z3
  obtain ⟨rfl, N3q, e3⟩ := hQ3
  have N3 := Fr.app N2 N3q
  obtain ⟨_, _, ⟨T4, L4, k4, n4⟩, -, X4, ⟨Lc4, hQ4, l4, y4, z4⟩, st4⟩ := Jvm.LawKit.callS X3 hx (y := m_38) hown (mvT hZ (tw hw 204 rfl)) (mvT hZ (tw hw 205 rfl)) (mvT hZ (tw hw 202 rfl)) (mvT hZ (tw hw 206 rfl)) (by decide) (backOf (W := 0) (rm39_i l Z a0 hw [] a1 (3 : Int32) (8 : Int32) tv zm zn 3 us vFM zC kt h0 n0 O0 (by decide) hCS hFM (Sm.lit (x := (3 : Int32)) (n := 3) (by decide)) h_z (Nat.lt_of_lt_of_le (by decide) h_lt) g3 sC sF E_a1 F_coder_a1 F_value_a1 A_tv) hZ (tw hw 206 rfl) (tw hw 202 rfl) (by decide) (by decide)) (g := (mkF m 30 #[Rf a1, It (8 : Int32)] [(.int (8 : Int32)), (.int (3 : Int32)), (.ref a1)])) rfl (by rw [hml]; rfl) (argsL := [(.ref a1), (.int (3 : Int32)), (.int (8 : Int32))]) (rest := []) (lenOf pd_26 rfl) rfl (w0 rfl) (hb hby d38_30) (fun _ _ => ⟨rfl, e3, (by decide : 0 + 0 ≤ _), (by decide : 0 + 0 ≤ _)⟩)
  dsimp only [Pt.U, Pt.locs, Pt.cells, Pt.slots] at X4 l4 y4 z4 st4 hQ4
  subst l4 y4 z4
  obtain ⟨rfl, N4q, e4⟩ := hQ4
  have N4 := Fr.app N3 N4q
  obtain ⟨_, _, ⟨T5, L5, k5, n5⟩, -, X5, ⟨Lc5, hQ5, l5, y5, z5⟩, st5⟩ := Jvm.LawKit.callS X4 hx (y := m_38) hown (mvT hZ (tw hw 204 rfl)) (mvT hZ (tw hw 205 rfl)) (mvT hZ (tw hw 202 rfl)) (mvT hZ (tw hw 206 rfl)) (by decide) (backOf (W := 0) (rm39_i l Z a0 hw [] a1 (4 : Int32) (8 : Int32) tv zm zn 4 us vFM zC kt h0 n0 O0 (by decide) hCS hFM (Sm.lit (x := (4 : Int32)) (n := 4) (by decide)) h_z (Nat.lt_of_lt_of_le (by decide) h_lt) g4 sC sF E_a1 F_coder_a1 F_value_a1 A_tv) hZ (tw hw 206 rfl) (tw hw 202 rfl) (by decide) (by decide)) (g := (mkF m 39 #[Rf a1, It (8 : Int32)] [(.int (8 : Int32)), (.int (4 : Int32)), (.ref a1)])) rfl (by rw [hml]; rfl) (argsL := [(.ref a1), (.int (4 : Int32)), (.int (8 : Int32))]) (rest := []) (lenOf pd_26 rfl) rfl (w0 rfl) (hb hby d38_39) (fun _ _ => ⟨rfl, e4, (by decide : 0 + 0 ≤ _), (by decide : 0 + 0 ≤ _)⟩)
  dsimp only [Pt.U, Pt.locs, Pt.cells, Pt.slots] at X5 l5 y5 z5 st5 hQ5
  subst l5 y5 z5
  obtain ⟨rfl, N5q, e5⟩ := hQ5
  have N5 := Fr.app N4 N5q
  obtain ⟨_, _, ⟨T6, L6, k6, n6⟩, -, X6, ⟨Lc6, hQ6, l6, y6, z6⟩, st6⟩ := Jvm.LawKit.callS X5 hx (y := m_38) hown (mvT hZ (tw hw 204 rfl)) (mvT hZ (tw hw 205 rfl)) (mvT hZ (tw hw 202 rfl)) (mvT hZ (tw hw 206 rfl)) (by decide) (backOf (W := 0) (rm39_i l Z a0 hw [] a1 (5 : Int32) (8 : Int32) tv zm zn 5 us vFM zC kt h0 n0 O0 (by decide) hCS hFM (Sm.lit (x := (5 : Int32)) (n := 5) (by decide)) h_z (Nat.lt_of_lt_of_le (by decide) h_lt) g5 sC sF E_a1 F_coder_a1 F_value_a1 A_tv) hZ (tw hw 206 rfl) (tw hw 202 rfl) (by decide) (by decide)) (g := (mkF m 48 #[Rf a1, It (8 : Int32)] [(.int (8 : Int32)), (.int (5 : Int32)), (.ref a1)])) rfl (by rw [hml]; rfl) (argsL := [(.ref a1), (.int (5 : Int32)), (.int (8 : Int32))]) (rest := []) (lenOf pd_26 rfl) rfl (w0 rfl) (hb hby d38_48) (fun _ _ => ⟨rfl, e5, (by decide : 0 + 0 ≤ _), (by decide : 0 + 0 ≤ _)⟩)
  dsimp only [Pt.U, Pt.locs, Pt.cells, Pt.slots] at X6 l6 y6 z6 st6 hQ6
  subst l6 y6 z6
  obtain ⟨rfl, N6q, e6⟩ := hQ6
  have N6 := Fr.app N5 N6q
  obtain ⟨_, _, ⟨T7, L7, k7, n7⟩, -, X7, ⟨Lc7, hQ7, l7, y7, z7⟩, st7⟩ := Jvm.LawKit.callS X6 hx (y := m_38) hown (mvT hZ (tw hw 204 rfl)) (mvT hZ (tw hw 205 rfl)) (mvT hZ (tw hw 202 rfl)) (mvT hZ (tw hw 206 rfl)) (by decide) (backOf (W := 0) (rm39_i l Z a0 hw [] a1 (6 : Int32) (8 : Int32) tv zm zn 6 us vFM zC kt h0 n0 O0 (by decide) hCS hFM (Sm.lit (x := (6 : Int32)) (n := 6) (by decide)) h_z (Nat.lt_of_lt_of_le (by decide) h_lt) g6 sC sF E_a1 F_coder_a1 F_value_a1 A_tv) hZ (tw hw 206 rfl) (tw hw 202 rfl) (by decide) (by decide)) (g := (mkF m 58 #[Rf a1, It (8 : Int32)] [(.int (8 : Int32)), (.int (6 : Int32)), (.ref a1)])) rfl (by rw [hml]; rfl) (argsL := [(.ref a1), (.int (6 : Int32)), (.int (8 : Int32))]) (rest := []) (lenOf pd_26 rfl) rfl (w0 rfl) (hb hby d38_58) (fun _ _ => ⟨rfl, e6, (by decide : 0 + 0 ≤ _), (by decide : 0 + 0 ≤ _)⟩)
  dsimp only [Pt.U, Pt.locs, Pt.cells, Pt.slots] at X7 l7 y7 z7 st7 hQ7
  subst l7 y7 z7
  obtain ⟨rfl, N7q, e7⟩ := hQ7
  have N7 := Fr.app N6 N7q
  obtain ⟨_, _, ⟨T8, L8, k8, n8⟩, -, X8, ⟨Lc8, hQ8, l8, y8, z8⟩, st8⟩ := Jvm.LawKit.callS X7 hx (y := m_38) hown (mvT hZ (tw hw 204 rfl)) (mvT hZ (tw hw 205 rfl)) (mvT hZ (tw hw 202 rfl)) (mvT hZ (tw hw 206 rfl)) (by decide) (backOf (W := 0) (rm39_i l Z a0 hw [] a1 (7 : Int32) (8 : Int32) tv zm zn 7 us vFM zC kt h0 n0 O0 (by decide) hCS hFM (Sm.lit (x := (7 : Int32)) (n := 7) (by decide)) h_z (Nat.lt_of_lt_of_le (by decide) h_lt) g7 sC sF E_a1 F_coder_a1 F_value_a1 A_tv) hZ (tw hw 206 rfl) (tw hw 202 rfl) (by decide) (by decide)) (g := (mkF m 68 #[Rf a1, It (8 : Int32)] [(.int (8 : Int32)), (.int (7 : Int32)), (.ref a1)])) rfl (by rw [hml]; rfl) (argsL := [(.ref a1), (.int (7 : Int32)), (.int (8 : Int32))]) (rest := []) (lenOf pd_26 rfl) rfl (w0 rfl) (hb hby d38_68) (fun _ _ => ⟨rfl, e7, (by decide : 0 + 0 ≤ _), (by decide : 0 + 0 ≤ _)⟩)
  dsimp only [Pt.U, Pt.locs, Pt.cells, Pt.slots] at X8 l8 y8 z8 st8 hQ8
  subst l8 y8 z8
  obtain ⟨rfl, N8q, e8⟩ := hQ8
  have N8 := Fr.app N7 N8q
  obtain ⟨_, _, ⟨T9, L9, k9, n9⟩, -, X9, ⟨Lc9, hQ9, l9, y9, z9⟩, st9⟩ := Jvm.LawKit.callS X8 hx (y := m_38) hown (mvT hZ (tw hw 204 rfl)) (mvT hZ (tw hw 205 rfl)) (mvT hZ (tw hw 202 rfl)) (mvT hZ (tw hw 206 rfl)) (by decide) (backOf (W := 0) (rm39_o l Z a0 hw [] a1 (8 : Int32) (8 : Int32) h0 n0 O0 (by decide)) hZ (tw hw 206 rfl) (tw hw 202 rfl) (by decide) (by decide)) (g := (mkF m 78 #[Rf a1, It (8 : Int32)] [(.int (8 : Int32)), (.int (8 : Int32)), (.ref a1)])) rfl (by rw [hml]; rfl) (argsL := [(.ref a1), (.int (8 : Int32)), (.int (8 : Int32))]) (rest := []) (lenOf pd_26 rfl) rfl (w0 rfl) (hb hby d38_78) (fun _ _ => ⟨rfl, e8, (by decide : 0 + 0 ≤ _), (by decide : 0 + 0 ≤ _)⟩)
  dsimp only [Pt.U, Pt.locs, Pt.cells, Pt.slots] at X9 l9 y9 z9 st9 hQ9
  subst l9 y9 z9
  obtain ⟨rfl, N9q, e9⟩ := hQ9
  have N9 := Fr.app N8 N9q
  obtain ⟨_, _, ⟨T10, L10, k10, n10⟩, -, X10, ⟨Lc10, hQ10, l10, y10, z10⟩, st10⟩ := Jvm.LawKit.callS X9 hx (y := m_38) hown (mvT hZ (tw hw 204 rfl)) (mvT hZ (tw hw 205 rfl)) (mvT hZ (tw hw 202 rfl)) (mvT hZ (tw hw 206 rfl)) (by decide) (backOf (W := 0) (rm39_o l Z a0 hw [] a1 (9 : Int32) (8 : Int32) h0 n0 O0 (by decide)) hZ (tw hw 206 rfl) (tw hw 202 rfl) (by decide) (by decide)) (g := (mkF m 88 #[Rf a1, It (8 : Int32)] [(.int (8 : Int32)), (.int (9 : Int32)), (.ref a1)])) rfl (by rw [hml]; rfl) (argsL := [(.ref a1), (.int (9 : Int32)), (.int (8 : Int32))]) (rest := []) (lenOf pd_26 rfl) rfl (w0 rfl) (hb hby d38_88) (fun _ _ => ⟨rfl, e9, (by decide : 0 + 0 ≤ _), (by decide : 0 + 0 ≤ _)⟩)
  dsimp only [Pt.U, Pt.locs, Pt.cells, Pt.slots] at X10 l10 y10 z10 st10 hQ10
  subst l10 y10 z10
  obtain ⟨rfl, N10q, e10⟩ := hQ10
  have N10 := Fr.app N9 N10q
  obtain ⟨_, _, ⟨T11, L11, k11, n11⟩, -, X11, ⟨Lc11, hQ11, l11, y11, z11⟩, st11⟩ := Jvm.LawKit.callS X10 hx (y := m_38) hown (mvT hZ (tw hw 204 rfl)) (mvT hZ (tw hw 205 rfl)) (mvT hZ (tw hw 202 rfl)) (mvT hZ (tw hw 206 rfl)) (by decide) (backOf (W := 0) (rm39_o l Z a0 hw [] a1 (10 : Int32) (8 : Int32) h0 n0 O0 (by decide)) hZ (tw hw 206 rfl) (tw hw 202 rfl) (by decide) (by decide)) (g := (mkF m 98 #[Rf a1, It (8 : Int32)] [(.int (8 : Int32)), (.int (10 : Int32)), (.ref a1)])) rfl (by rw [hml]; rfl) (argsL := [(.ref a1), (.int (10 : Int32)), (.int (8 : Int32))]) (rest := []) (lenOf pd_26 rfl) rfl (w0 rfl) (hb hby d38_98) (fun _ _ => ⟨rfl, e10, (by decide : 0 + 0 ≤ _), (by decide : 0 + 0 ≤ _)⟩)
  dsimp only [Pt.U, Pt.locs, Pt.cells, Pt.slots] at X11 l11 y11 z11 st11 hQ11
  subst l11 y11 z11
  obtain ⟨rfl, N11q, e11⟩ := hQ11
  have N11 := Fr.app N10 N11q
  obtain ⟨_, _, ⟨T12, L12, k12, n12⟩, -, X12, ⟨Lc12, hQ12, l12, y12, z12⟩, st12⟩ := Jvm.LawKit.callS X11 hx (y := m_38) hown (mvT hZ (tw hw 204 rfl)) (mvT hZ (tw hw 205 rfl)) (mvT hZ (tw hw 202 rfl)) (mvT hZ (tw hw 206 rfl)) (by decide) (backOf (W := 0) (rm39_o l Z a0 hw [] a1 (11 : Int32) (8 : Int32) h0 n0 O0 (by decide)) hZ (tw hw 206 rfl) (tw hw 202 rfl) (by decide) (by decide)) (g := (mkF m 108 #[Rf a1, It (8 : Int32)] [(.int (8 : Int32)), (.int (11 : Int32)), (.ref a1)])) rfl (by rw [hml]; rfl) (argsL := [(.ref a1), (.int (11 : Int32)), (.int (8 : Int32))]) (rest := []) (lenOf pd_26 rfl) rfl (w0 rfl) (hb hby d38_108) (fun _ _ => ⟨rfl, e11, (by decide : 0 + 0 ≤ _), (by decide : 0 + 0 ≤ _)⟩)
  dsimp only [Pt.U, Pt.locs, Pt.cells, Pt.slots] at X12 l12 y12 z12 st12 hQ12
  subst l12 y12 z12
  obtain ⟨rfl, N12q, e12⟩ := hQ12
  have N12 := Fr.app N11 N12q
  have sg13 : SG p.tables e below (T12.setTop (mkF m 119 #[Rf a1, It (8 : Int32)] [(.int (1 : Int32))])) (s₁.setTop (mkF m 0 #[Rf a1, It (8 : Int32)] [])) := by
    intro target kt
    show Steps _ _ _ (s₁.setTop (mkF m 0 #[Rf a1, It (8 : Int32)] [])) _
    refine XS.aloadN X0.here hx rfl (hb hby d38_0) rfl rfl ?_
    refine XS.iconst X0.here hx rfl (hb hby d38_1) ?_
    refine XS.iloadN X0.here hx rfl (hb hby d38_2) rfl ?_
    refine st1 _ ?_
    refine XS.ifNo X1.here hx rfl (hb hby d38_6) rfl ((if0 _ _).trans (feq (by decide : ¬ ((1 : Int32) = (0 : Int32)))).1) ?_
    refine XS.aloadN X1.here hx rfl (hb hby d38_9) rfl rfl ?_
    refine XS.iconst X1.here hx rfl (hb hby d38_10) ?_
    refine XS.iloadN X1.here hx rfl (hb hby d38_11) rfl ?_
    refine st2 _ ?_
    refine XS.ifNo X2.here hx rfl (hb hby d38_15) rfl ((if0 _ _).trans (feq (by decide : ¬ ((1 : Int32) = (0 : Int32)))).1) ?_
    refine XS.aloadN X2.here hx rfl (hb hby d38_18) rfl rfl ?_
    refine XS.iconst X2.here hx rfl (hb hby d38_19) ?_
    refine XS.iloadN X2.here hx rfl (hb hby d38_20) rfl ?_
    refine st3 _ ?_
    refine XS.ifNo X3.here hx rfl (hb hby d38_24) rfl ((if0 _ _).trans (feq (by decide : ¬ ((1 : Int32) = (0 : Int32)))).1) ?_
    refine XS.aloadN X3.here hx rfl (hb hby d38_27) rfl rfl ?_
    refine XS.iconst X3.here hx rfl (hb hby d38_28) ?_
    refine XS.iloadN X3.here hx rfl (hb hby d38_29) rfl ?_
    refine st4 _ ?_
    refine XS.ifNo X4.here hx rfl (hb hby d38_33) rfl ((if0 _ _).trans (feq (by decide : ¬ ((1 : Int32) = (0 : Int32)))).1) ?_
    refine XS.aloadN X4.here hx rfl (hb hby d38_36) rfl rfl ?_
    refine XS.iconst X4.here hx rfl (hb hby d38_37) ?_
    refine XS.iloadN X4.here hx rfl (hb hby d38_38) rfl ?_
    refine st5 _ ?_
    refine XS.ifNo X5.here hx rfl (hb hby d38_42) rfl ((if0 _ _).trans (feq (by decide : ¬ ((1 : Int32) = (0 : Int32)))).1) ?_
    refine XS.aloadN X5.here hx rfl (hb hby d38_45) rfl rfl ?_
    refine XS.iconst X5.here hx rfl (hb hby d38_46) ?_
    refine XS.iloadN X5.here hx rfl (hb hby d38_47) rfl ?_
    refine st6 _ ?_
    refine XS.ifNo X6.here hx rfl (hb hby d38_51) rfl ((if0 _ _).trans (feq (by decide : ¬ ((1 : Int32) = (0 : Int32)))).1) ?_
    show Steps _ _ _ (T6.setTop (mkF m 54 #[Rf a1, It (8 : Int32)] [])) _
    refine XS.aloadN X6.here hx rfl (hb hby d38_54) rfl rfl ?_
    refine XS.bipush X6.here hx rfl (hb hby d38_55) ?_
    refine XS.iloadN X6.here hx rfl (hb hby d38_57) rfl ?_
    refine st7 _ ?_
    refine XS.ifNo X7.here hx rfl (hb hby d38_61) rfl ((if0 _ _).trans (feq (by decide : ¬ ((1 : Int32) = (0 : Int32)))).1) ?_
    refine XS.aloadN X7.here hx rfl (hb hby d38_64) rfl rfl ?_
    refine XS.bipush X7.here hx rfl (hb hby d38_65) ?_
    refine XS.iloadN X7.here hx rfl (hb hby d38_67) rfl ?_
    refine st8 _ ?_
    refine XS.ifNo X8.here hx rfl (hb hby d38_71) rfl ((if0 _ _).trans (feq (by decide : ¬ ((1 : Int32) = (0 : Int32)))).1) ?_
    refine XS.aloadN X8.here hx rfl (hb hby d38_74) rfl rfl ?_
    refine XS.bipush X8.here hx rfl (hb hby d38_75) ?_
    refine XS.iloadN X8.here hx rfl (hb hby d38_77) rfl ?_
    refine st9 _ ?_
    refine XS.ifNo X9.here hx rfl (hb hby d38_81) rfl ((if0 _ _).trans (feq (by decide : ¬ ((1 : Int32) = (0 : Int32)))).1) ?_
    refine XS.aloadN X9.here hx rfl (hb hby d38_84) rfl rfl ?_
    refine XS.bipush X9.here hx rfl (hb hby d38_85) ?_
    refine XS.iloadN X9.here hx rfl (hb hby d38_87) rfl ?_
    refine st10 _ ?_
    refine XS.ifNo X10.here hx rfl (hb hby d38_91) rfl ((if0 _ _).trans (feq (by decide : ¬ ((1 : Int32) = (0 : Int32)))).1) ?_
    refine XS.aloadN X10.here hx rfl (hb hby d38_94) rfl rfl ?_
    refine XS.bipush X10.here hx rfl (hb hby d38_95) ?_
    refine XS.iloadN X10.here hx rfl (hb hby d38_97) rfl ?_
    refine st11 _ ?_
    refine XS.ifNo X11.here hx rfl (hb hby d38_101) rfl ((if0 _ _).trans (feq (by decide : ¬ ((1 : Int32) = (0 : Int32)))).1) ?_
    refine XS.aloadN X11.here hx rfl (hb hby d38_104) rfl rfl ?_
    refine XS.bipush X11.here hx rfl (hb hby d38_105) ?_
    refine XS.iloadN X11.here hx rfl (hb hby d38_107) rfl ?_
    refine st12 _ ?_
    refine XS.ifNo X12.here hx rfl (hb hby d38_111) rfl ((if0 _ _).trans (feq (by decide : ¬ ((1 : Int32) = (0 : Int32)))).1) ?_
    show Steps _ _ _ (T12.setTop (mkF m 114 #[Rf a1, It (8 : Int32)] [])) _
    refine XS.iconst X12.here hx rfl (hb hby d38_114) ?_
    refine XS.goto X12.here hx rfl (pc0 := 115) (pc' := 119) rfl (hb hby d38_115) (by decide) (by decide) ?_
    exact kt
  obtain ⟨fs, hr, hrun, hended, hW, hsame⟩ := X12.leave (v := some (.int (1 : Int32))) (fun h => by rw [Bd.returns] at h; cases h)
  refine ⟨_, _, pre0 _ (sg13 _ (?_)), hrun, hended, _, _, rfl, ?_, ⟨_, rfl⟩, hW, hsame.mono (by decide) (by decide)⟩
  · show Steps _ _ _ (T12.setTop (mkF m 119 #[Rf a1, It (8 : Int32)] [(.int (1 : Int32))])) _
    exact retN X12 hx (t := .boolean) Bd.returns (by simp) (hb hby d38_119) hr
  · show Q38_2 Z a1 tv zm zn us vFM zC kt h0 n0 _ T12.heap _
    rw [e12]
    exact ⟨rfl, N12, rfl⟩
def Q38_3 (Z : State) (a1 : Addr) (tv : Addr) (zm : Int32) (zn : Nat) (us : List Value) (vFM : Value) (zC : Int32) (kt : ClassId) (h0 : Heap) (n0 : Nat) (v : Option Value) (h : Heap) (L : List Loc) : Prop := v = some (.int (1 : Int32)) ∧ Fr n0 L ∧ h = h0
theorem rm38_3 (l : Launch) (Z : State) (a0 : Array Value) (hw : ∀ d ∈ tables_1, d.before a0 Z = true) (ws : List Jvm.Cond) (a1 : Addr) (tv : Addr) (zm : Int32) (zn : Nat) (us : List Value) (vFM : Value) (zC : Int32) (kt : ClassId) (h0 : Heap) (n0 : Nat) (O0 : Old Z n0 h0) (hCS : ¬ zC = 0) (hFM : vFM.isRef = true) (h_z : Sm zm zn) (h_lt : 12 ≤ zn) (g0 : us.getD 0 (.int (0 : Int32)) = .int (32 : Int32)) (g1 : us.getD 1 (.int (0 : Int32)) = .int (32 : Int32)) (g2 : us.getD 2 (.int (0 : Int32)) = .int (32 : Int32)) (g3 : us.getD 3 (.int (0 : Int32)) = .int (32 : Int32)) (g4 : us.getD 4 (.int (0 : Int32)) = .int (32 : Int32)) (g5 : us.getD 5 (.int (0 : Int32)) = .int (32 : Int32)) (g6 : us.getD 6 (.int (0 : Int32)) = .int (32 : Int32)) (g7 : us.getD 7 (.int (0 : Int32)) = .int (32 : Int32)) (g8 : us.getD 8 (.int (0 : Int32)) = .int (32 : Int32)) (g9 : us.getD 9 (.int (0 : Int32)) = .int (32 : Int32)) (g10 : us.getD 10 (.int (0 : Int32)) = .int (32 : Int32)) (g11 : us.getD 11 (.int (0 : Int32)) = .int (32 : Int32)) (sC : TS_0 Z zC) (sF : TS_3 Z vFM) (E_a1 : Exa Z h0 a1 "java/lang/String") (F_coder_a1 : Fld Z h0 a1 "java/lang/String" "coder" "B" (.int (0 : Int32))) (F_value_a1 : Fld Z h0 a1 "java/lang/String" "value" "[B" (.ref tv)) (A_tv : Arv Z h0 tv kt .byte zm us (.int (0 : Int32))) :
    MetFree l m_39 (head1 (Jvm.Cond.code m_39 method_3_code 2 (some .boolean) :: ws) (rk 5 0 0 67)) (fun a U => a = #[(.ref a1), (.int (12 : Int32))] ∧ Z.Warmed39 U.vm ∧ U.heap = h0) (fun _ _ _ _ _ => True) (fun _ U o U' => ∃ v L, o = .returned v ∧ Q38_3 Z a1 tv zm zn us vFM zC kt h0 n0 v U'.heap L ∧ FrameEnd U o U' L (rk 5 0 0 67).cells (rk 5 0 0 67).slots) := by
  refine MetFree.of_bodySF (plainFor_of_name pn_7) hisR ?_
  intro p e s m args below meth c s₁ Bd hml0 hP hK
  obtain ⟨rfl, hZ, hh⟩ := hP
  have hx := Bd.exec
  have hby := Bd.bytes
  have hml : c.maxLocals = 2 := hml0
  have hown : s.vm.findClass "com/example/tetrad/tetrad/generate/SourceTextDedentPinLaw" = some m.cls := findClass_of_methodNamed Bd.named
  have X0 : Stand p l e (rk 5 0 0 67) s m #[(.ref a1), (.int (12 : Int32))] below meth c s₁ [] 0 0 := Stand.of_body Bd
  have e0 : s₁.heap = h0 := by rw [← hh, Bd.state]; rfl
  have N0 := Fr.nil n0
  have pre0 := own_pre (tb := p.tables) (e := e) (bl := below) (s := s₁) (ef_4 m a1 (12 : Int32))
  obtain ⟨_, _, ⟨T1, L1, k1, n1⟩, -, X1, ⟨Lc1, hQ1, l1, y1, z1⟩, st1⟩ := Jvm.LawKit.callS X0 hx (y := m_38) hown (mvT hZ (tw hw 204 rfl)) (mvT hZ (tw hw 205 rfl)) (mvT hZ (tw hw 202 rfl)) (mvT hZ (tw hw 206 rfl)) (by decide) (backOf (W := 0) (rm39_i l Z a0 hw [] a1 (0 : Int32) (12 : Int32) tv zm zn 0 us vFM zC kt h0 n0 O0 (by decide) hCS hFM (Sm.lit (x := (0 : Int32)) (n := 0) (by decide)) h_z (Nat.lt_of_lt_of_le (by decide) h_lt) g0 sC sF E_a1 F_coder_a1 F_value_a1 A_tv) hZ (tw hw 206 rfl) (tw hw 202 rfl) (by decide) (by decide)) (g := (mkF m 3 #[Rf a1, It (12 : Int32)] [(.int (12 : Int32)), (.int (0 : Int32)), (.ref a1)])) rfl (by rw [hml]; rfl) (argsL := [(.ref a1), (.int (0 : Int32)), (.int (12 : Int32))]) (rest := []) (lenOf pd_26 rfl) rfl (w0 rfl) (hb hby d38_3) (fun _ _ => ⟨rfl, e0, (by decide : 0 + 0 ≤ _), (by decide : 0 + 0 ≤ _)⟩)
  dsimp only [Pt.U, Pt.locs, Pt.cells, Pt.slots] at X1 l1 y1 z1 st1 hQ1
  subst l1 y1 z1
  obtain ⟨rfl, N1q, e1⟩ := hQ1
  have N1 := Fr.app N0 N1q
  obtain ⟨_, _, ⟨T2, L2, k2, n2⟩, -, X2, ⟨Lc2, hQ2, l2, y2, z2⟩, st2⟩ := Jvm.LawKit.callS X1 hx (y := m_38) hown (mvT hZ (tw hw 204 rfl)) (mvT hZ (tw hw 205 rfl)) (mvT hZ (tw hw 202 rfl)) (mvT hZ (tw hw 206 rfl)) (by decide) (backOf (W := 0) (rm39_i l Z a0 hw [] a1 (1 : Int32) (12 : Int32) tv zm zn 1 us vFM zC kt h0 n0 O0 (by decide) hCS hFM (Sm.lit (x := (1 : Int32)) (n := 1) (by decide)) h_z (Nat.lt_of_lt_of_le (by decide) h_lt) g1 sC sF E_a1 F_coder_a1 F_value_a1 A_tv) hZ (tw hw 206 rfl) (tw hw 202 rfl) (by decide) (by decide)) (g := (mkF m 12 #[Rf a1, It (12 : Int32)] [(.int (12 : Int32)), (.int (1 : Int32)), (.ref a1)])) rfl (by rw [hml]; rfl) (argsL := [(.ref a1), (.int (1 : Int32)), (.int (12 : Int32))]) (rest := []) (lenOf pd_26 rfl) rfl (w0 rfl) (hb hby d38_12) (fun _ _ => ⟨rfl, e1, (by decide : 0 + 0 ≤ _), (by decide : 0 + 0 ≤ _)⟩)
  dsimp only [Pt.U, Pt.locs, Pt.cells, Pt.slots] at X2 l2 y2 z2 st2 hQ2
  subst l2 y2 z2
  obtain ⟨rfl, N2q, e2⟩ := hQ2
  have N2 := Fr.app N1 N2q
  obtain ⟨_, _, ⟨T3, L3, k3, n3⟩, -, X3, ⟨Lc3, hQ3, l3, y3, z3⟩, st3⟩ := Jvm.LawKit.callS X2 hx (y := m_38) hown (mvT hZ (tw hw 204 rfl)) (mvT hZ (tw hw 205 rfl)) (mvT hZ (tw hw 202 rfl)) (mvT hZ (tw hw 206 rfl)) (by decide) (backOf (W := 0) (rm39_i l Z a0 hw [] a1 (2 : Int32) (12 : Int32) tv zm zn 2 us vFM zC kt h0 n0 O0 (by decide) hCS hFM (Sm.lit (x := (2 : Int32)) (n := 2) (by decide)) h_z (Nat.lt_of_lt_of_le (by decide) h_lt) g2 sC sF E_a1 F_coder_a1 F_value_a1 A_tv) hZ (tw hw 206 rfl) (tw hw 202 rfl) (by decide) (by decide)) (g := (mkF m 21 #[Rf a1, It (12 : Int32)] [(.int (12 : Int32)), (.int (2 : Int32)), (.ref a1)])) rfl (by rw [hml]; rfl) (argsL := [(.ref a1), (.int (2 : Int32)), (.int (12 : Int32))]) (rest := []) (lenOf pd_26 rfl) rfl (w0 rfl) (hb hby d38_21) (fun _ _ => ⟨rfl, e2, (by decide : 0 + 0 ≤ _), (by decide : 0 + 0 ≤ _)⟩)
  dsimp only [Pt.U, Pt.locs, Pt.cells, Pt.slots] at X3 l3 y3 z3 st3 hQ3
  subst l3 y3 z3
  obtain ⟨rfl, N3q, e3⟩ := hQ3
  have N3 := Fr.app N2 N3q
  obtain ⟨_, _, ⟨T4, L4, k4, n4⟩, -, X4, ⟨Lc4, hQ4, l4, y4, z4⟩, st4⟩ := Jvm.LawKit.callS X3 hx (y := m_38) hown (mvT hZ (tw hw 204 rfl)) (mvT hZ (tw hw 205 rfl)) (mvT hZ (tw hw 202 rfl)) (mvT hZ (tw hw 206 rfl)) (by decide) (backOf (W := 0) (rm39_i l Z a0 hw [] a1 (3 : Int32) (12 : Int32) tv zm zn 3 us vFM zC kt h0 n0 O0 (by decide) hCS hFM (Sm.lit (x := (3 : Int32)) (n := 3) (by decide)) h_z (Nat.lt_of_lt_of_le (by decide) h_lt) g3 sC sF E_a1 F_coder_a1 F_value_a1 A_tv) hZ (tw hw 206 rfl) (tw hw 202 rfl) (by decide) (by decide)) (g := (mkF m 30 #[Rf a1, It (12 : Int32)] [(.int (12 : Int32)), (.int (3 : Int32)), (.ref a1)])) rfl (by rw [hml]; rfl) (argsL := [(.ref a1), (.int (3 : Int32)), (.int (12 : Int32))]) (rest := []) (lenOf pd_26 rfl) rfl (w0 rfl) (hb hby d38_30) (fun _ _ => ⟨rfl, e3, (by decide : 0 + 0 ≤ _), (by decide : 0 + 0 ≤ _)⟩)
  dsimp only [Pt.U, Pt.locs, Pt.cells, Pt.slots] at X4 l4 y4 z4 st4 hQ4
  subst l4 y4 z4
  obtain ⟨rfl, N4q, e4⟩ := hQ4
  have N4 := Fr.app N3 N4q
  obtain ⟨_, _, ⟨T5, L5, k5, n5⟩, -, X5, ⟨Lc5, hQ5, l5, y5, z5⟩, st5⟩ := Jvm.LawKit.callS X4 hx (y := m_38) hown (mvT hZ (tw hw 204 rfl)) (mvT hZ (tw hw 205 rfl)) (mvT hZ (tw hw 202 rfl)) (mvT hZ (tw hw 206 rfl)) (by decide) (backOf (W := 0) (rm39_i l Z a0 hw [] a1 (4 : Int32) (12 : Int32) tv zm zn 4 us vFM zC kt h0 n0 O0 (by decide) hCS hFM (Sm.lit (x := (4 : Int32)) (n := 4) (by decide)) h_z (Nat.lt_of_lt_of_le (by decide) h_lt) g4 sC sF E_a1 F_coder_a1 F_value_a1 A_tv) hZ (tw hw 206 rfl) (tw hw 202 rfl) (by decide) (by decide)) (g := (mkF m 39 #[Rf a1, It (12 : Int32)] [(.int (12 : Int32)), (.int (4 : Int32)), (.ref a1)])) rfl (by rw [hml]; rfl) (argsL := [(.ref a1), (.int (4 : Int32)), (.int (12 : Int32))]) (rest := []) (lenOf pd_26 rfl) rfl (w0 rfl) (hb hby d38_39) (fun _ _ => ⟨rfl, e4, (by decide : 0 + 0 ≤ _), (by decide : 0 + 0 ≤ _)⟩)
  dsimp only [Pt.U, Pt.locs, Pt.cells, Pt.slots] at X5 l5 y5 z5 st5 hQ5
  subst l5 y5 z5
  obtain ⟨rfl, N5q, e5⟩ := hQ5
  have N5 := Fr.app N4 N5q
  obtain ⟨_, _, ⟨T6, L6, k6, n6⟩, -, X6, ⟨Lc6, hQ6, l6, y6, z6⟩, st6⟩ := Jvm.LawKit.callS X5 hx (y := m_38) hown (mvT hZ (tw hw 204 rfl)) (mvT hZ (tw hw 205 rfl)) (mvT hZ (tw hw 202 rfl)) (mvT hZ (tw hw 206 rfl)) (by decide) (backOf (W := 0) (rm39_i l Z a0 hw [] a1 (5 : Int32) (12 : Int32) tv zm zn 5 us vFM zC kt h0 n0 O0 (by decide) hCS hFM (Sm.lit (x := (5 : Int32)) (n := 5) (by decide)) h_z (Nat.lt_of_lt_of_le (by decide) h_lt) g5 sC sF E_a1 F_coder_a1 F_value_a1 A_tv) hZ (tw hw 206 rfl) (tw hw 202 rfl) (by decide) (by decide)) (g := (mkF m 48 #[Rf a1, It (12 : Int32)] [(.int (12 : Int32)), (.int (5 : Int32)), (.ref a1)])) rfl (by rw [hml]; rfl) (argsL := [(.ref a1), (.int (5 : Int32)), (.int (12 : Int32))]) (rest := []) (lenOf pd_26 rfl) rfl (w0 rfl) (hb hby d38_48) (fun _ _ => ⟨rfl, e5, (by decide : 0 + 0 ≤ _), (by decide : 0 + 0 ≤ _)⟩)
  dsimp only [Pt.U, Pt.locs, Pt.cells, Pt.slots] at X6 l6 y6 z6 st6 hQ6
  subst l6 y6 z6
  obtain ⟨rfl, N6q, e6⟩ := hQ6
  have N6 := Fr.app N5 N6q
  obtain ⟨_, _, ⟨T7, L7, k7, n7⟩, -, X7, ⟨Lc7, hQ7, l7, y7, z7⟩, st7⟩ := Jvm.LawKit.callS X6 hx (y := m_38) hown (mvT hZ (tw hw 204 rfl)) (mvT hZ (tw hw 205 rfl)) (mvT hZ (tw hw 202 rfl)) (mvT hZ (tw hw 206 rfl)) (by decide) (backOf (W := 0) (rm39_i l Z a0 hw [] a1 (6 : Int32) (12 : Int32) tv zm zn 6 us vFM zC kt h0 n0 O0 (by decide) hCS hFM (Sm.lit (x := (6 : Int32)) (n := 6) (by decide)) h_z (Nat.lt_of_lt_of_le (by decide) h_lt) g6 sC sF E_a1 F_coder_a1 F_value_a1 A_tv) hZ (tw hw 206 rfl) (tw hw 202 rfl) (by decide) (by decide)) (g := (mkF m 58 #[Rf a1, It (12 : Int32)] [(.int (12 : Int32)), (.int (6 : Int32)), (.ref a1)])) rfl (by rw [hml]; rfl) (argsL := [(.ref a1), (.int (6 : Int32)), (.int (12 : Int32))]) (rest := []) (lenOf pd_26 rfl) rfl (w0 rfl) (hb hby d38_58) (fun _ _ => ⟨rfl, e6, (by decide : 0 + 0 ≤ _), (by decide : 0 + 0 ≤ _)⟩)
  dsimp only [Pt.U, Pt.locs, Pt.cells, Pt.slots] at X7 l7 y7 z7 st7 hQ7
  subst l7 y7 z7
  obtain ⟨rfl, N7q, e7⟩ := hQ7
  have N7 := Fr.app N6 N7q
  obtain ⟨_, _, ⟨T8, L8, k8, n8⟩, -, X8, ⟨Lc8, hQ8, l8, y8, z8⟩, st8⟩ := Jvm.LawKit.callS X7 hx (y := m_38) hown (mvT hZ (tw hw 204 rfl)) (mvT hZ (tw hw 205 rfl)) (mvT hZ (tw hw 202 rfl)) (mvT hZ (tw hw 206 rfl)) (by decide) (backOf (W := 0) (rm39_i l Z a0 hw [] a1 (7 : Int32) (12 : Int32) tv zm zn 7 us vFM zC kt h0 n0 O0 (by decide) hCS hFM (Sm.lit (x := (7 : Int32)) (n := 7) (by decide)) h_z (Nat.lt_of_lt_of_le (by decide) h_lt) g7 sC sF E_a1 F_coder_a1 F_value_a1 A_tv) hZ (tw hw 206 rfl) (tw hw 202 rfl) (by decide) (by decide)) (g := (mkF m 68 #[Rf a1, It (12 : Int32)] [(.int (12 : Int32)), (.int (7 : Int32)), (.ref a1)])) rfl (by rw [hml]; rfl) (argsL := [(.ref a1), (.int (7 : Int32)), (.int (12 : Int32))]) (rest := []) (lenOf pd_26 rfl) rfl (w0 rfl) (hb hby d38_68) (fun _ _ => ⟨rfl, e7, (by decide : 0 + 0 ≤ _), (by decide : 0 + 0 ≤ _)⟩)
  dsimp only [Pt.U, Pt.locs, Pt.cells, Pt.slots] at X8 l8 y8 z8 st8 hQ8
  subst l8 y8 z8
  obtain ⟨rfl, N8q, e8⟩ := hQ8
  have N8 := Fr.app N7 N8q
  obtain ⟨_, _, ⟨T9, L9, k9, n9⟩, -, X9, ⟨Lc9, hQ9, l9, y9, z9⟩, st9⟩ := Jvm.LawKit.callS X8 hx (y := m_38) hown (mvT hZ (tw hw 204 rfl)) (mvT hZ (tw hw 205 rfl)) (mvT hZ (tw hw 202 rfl)) (mvT hZ (tw hw 206 rfl)) (by decide) (backOf (W := 0) (rm39_i l Z a0 hw [] a1 (8 : Int32) (12 : Int32) tv zm zn 8 us vFM zC kt h0 n0 O0 (by decide) hCS hFM (Sm.lit (x := (8 : Int32)) (n := 8) (by decide)) h_z (Nat.lt_of_lt_of_le (by decide) h_lt) g8 sC sF E_a1 F_coder_a1 F_value_a1 A_tv) hZ (tw hw 206 rfl) (tw hw 202 rfl) (by decide) (by decide)) (g := (mkF m 78 #[Rf a1, It (12 : Int32)] [(.int (12 : Int32)), (.int (8 : Int32)), (.ref a1)])) rfl (by rw [hml]; rfl) (argsL := [(.ref a1), (.int (8 : Int32)), (.int (12 : Int32))]) (rest := []) (lenOf pd_26 rfl) rfl (w0 rfl) (hb hby d38_78) (fun _ _ => ⟨rfl, e8, (by decide : 0 + 0 ≤ _), (by decide : 0 + 0 ≤ _)⟩)
  dsimp only [Pt.U, Pt.locs, Pt.cells, Pt.slots] at X9 l9 y9 z9 st9 hQ9
  subst l9 y9 z9
  obtain ⟨rfl, N9q, e9⟩ := hQ9
  have N9 := Fr.app N8 N9q
  obtain ⟨_, _, ⟨T10, L10, k10, n10⟩, -, X10, ⟨Lc10, hQ10, l10, y10, z10⟩, st10⟩ := Jvm.LawKit.callS X9 hx (y := m_38) hown (mvT hZ (tw hw 204 rfl)) (mvT hZ (tw hw 205 rfl)) (mvT hZ (tw hw 202 rfl)) (mvT hZ (tw hw 206 rfl)) (by decide) (backOf (W := 0) (rm39_i l Z a0 hw [] a1 (9 : Int32) (12 : Int32) tv zm zn 9 us vFM zC kt h0 n0 O0 (by decide) hCS hFM (Sm.lit (x := (9 : Int32)) (n := 9) (by decide)) h_z (Nat.lt_of_lt_of_le (by decide) h_lt) g9 sC sF E_a1 F_coder_a1 F_value_a1 A_tv) hZ (tw hw 206 rfl) (tw hw 202 rfl) (by decide) (by decide)) (g := (mkF m 88 #[Rf a1, It (12 : Int32)] [(.int (12 : Int32)), (.int (9 : Int32)), (.ref a1)])) rfl (by rw [hml]; rfl) (argsL := [(.ref a1), (.int (9 : Int32)), (.int (12 : Int32))]) (rest := []) (lenOf pd_26 rfl) rfl (w0 rfl) (hb hby d38_88) (fun _ _ => ⟨rfl, e9, (by decide : 0 + 0 ≤ _), (by decide : 0 + 0 ≤ _)⟩)
  dsimp only [Pt.U, Pt.locs, Pt.cells, Pt.slots] at X10 l10 y10 z10 st10 hQ10
  subst l10 y10 z10
  obtain ⟨rfl, N10q, e10⟩ := hQ10
  have N10 := Fr.app N9 N10q
  obtain ⟨_, _, ⟨T11, L11, k11, n11⟩, -, X11, ⟨Lc11, hQ11, l11, y11, z11⟩, st11⟩ := Jvm.LawKit.callS X10 hx (y := m_38) hown (mvT hZ (tw hw 204 rfl)) (mvT hZ (tw hw 205 rfl)) (mvT hZ (tw hw 202 rfl)) (mvT hZ (tw hw 206 rfl)) (by decide) (backOf (W := 0) (rm39_i l Z a0 hw [] a1 (10 : Int32) (12 : Int32) tv zm zn 10 us vFM zC kt h0 n0 O0 (by decide) hCS hFM (Sm.lit (x := (10 : Int32)) (n := 10) (by decide)) h_z (Nat.lt_of_lt_of_le (by decide) h_lt) g10 sC sF E_a1 F_coder_a1 F_value_a1 A_tv) hZ (tw hw 206 rfl) (tw hw 202 rfl) (by decide) (by decide)) (g := (mkF m 98 #[Rf a1, It (12 : Int32)] [(.int (12 : Int32)), (.int (10 : Int32)), (.ref a1)])) rfl (by rw [hml]; rfl) (argsL := [(.ref a1), (.int (10 : Int32)), (.int (12 : Int32))]) (rest := []) (lenOf pd_26 rfl) rfl (w0 rfl) (hb hby d38_98) (fun _ _ => ⟨rfl, e10, (by decide : 0 + 0 ≤ _), (by decide : 0 + 0 ≤ _)⟩)
  dsimp only [Pt.U, Pt.locs, Pt.cells, Pt.slots] at X11 l11 y11 z11 st11 hQ11
  subst l11 y11 z11
  obtain ⟨rfl, N11q, e11⟩ := hQ11
  have N11 := Fr.app N10 N11q
  obtain ⟨_, _, ⟨T12, L12, k12, n12⟩, -, X12, ⟨Lc12, hQ12, l12, y12, z12⟩, st12⟩ := Jvm.LawKit.callS X11 hx (y := m_38) hown (mvT hZ (tw hw 204 rfl)) (mvT hZ (tw hw 205 rfl)) (mvT hZ (tw hw 202 rfl)) (mvT hZ (tw hw 206 rfl)) (by decide) (backOf (W := 0) (rm39_i l Z a0 hw [] a1 (11 : Int32) (12 : Int32) tv zm zn 11 us vFM zC kt h0 n0 O0 (by decide) hCS hFM (Sm.lit (x := (11 : Int32)) (n := 11) (by decide)) h_z (Nat.lt_of_lt_of_le (by decide) h_lt) g11 sC sF E_a1 F_coder_a1 F_value_a1 A_tv) hZ (tw hw 206 rfl) (tw hw 202 rfl) (by decide) (by decide)) (g := (mkF m 108 #[Rf a1, It (12 : Int32)] [(.int (12 : Int32)), (.int (11 : Int32)), (.ref a1)])) rfl (by rw [hml]; rfl) (argsL := [(.ref a1), (.int (11 : Int32)), (.int (12 : Int32))]) (rest := []) (lenOf pd_26 rfl) rfl (w0 rfl) (hb hby d38_108) (fun _ _ => ⟨rfl, e11, (by decide : 0 + 0 ≤ _), (by decide : 0 + 0 ≤ _)⟩)
  dsimp only [Pt.U, Pt.locs, Pt.cells, Pt.slots] at X12 l12 y12 z12 st12 hQ12
  subst l12 y12 z12
  obtain ⟨rfl, N12q, e12⟩ := hQ12
  have N12 := Fr.app N11 N12q
  have sg13 : SG p.tables e below (T12.setTop (mkF m 119 #[Rf a1, It (12 : Int32)] [(.int (1 : Int32))])) (s₁.setTop (mkF m 0 #[Rf a1, It (12 : Int32)] [])) := by
    intro target kt
    show Steps _ _ _ (s₁.setTop (mkF m 0 #[Rf a1, It (12 : Int32)] [])) _
    refine XS.aloadN X0.here hx rfl (hb hby d38_0) rfl rfl ?_
    refine XS.iconst X0.here hx rfl (hb hby d38_1) ?_
    refine XS.iloadN X0.here hx rfl (hb hby d38_2) rfl ?_
    refine st1 _ ?_
    refine XS.ifNo X1.here hx rfl (hb hby d38_6) rfl ((if0 _ _).trans (feq (by decide : ¬ ((1 : Int32) = (0 : Int32)))).1) ?_
    refine XS.aloadN X1.here hx rfl (hb hby d38_9) rfl rfl ?_
    refine XS.iconst X1.here hx rfl (hb hby d38_10) ?_
    refine XS.iloadN X1.here hx rfl (hb hby d38_11) rfl ?_
    refine st2 _ ?_
    refine XS.ifNo X2.here hx rfl (hb hby d38_15) rfl ((if0 _ _).trans (feq (by decide : ¬ ((1 : Int32) = (0 : Int32)))).1) ?_
    refine XS.aloadN X2.here hx rfl (hb hby d38_18) rfl rfl ?_
    refine XS.iconst X2.here hx rfl (hb hby d38_19) ?_
    refine XS.iloadN X2.here hx rfl (hb hby d38_20) rfl ?_
    refine st3 _ ?_
    refine XS.ifNo X3.here hx rfl (hb hby d38_24) rfl ((if0 _ _).trans (feq (by decide : ¬ ((1 : Int32) = (0 : Int32)))).1) ?_
    refine XS.aloadN X3.here hx rfl (hb hby d38_27) rfl rfl ?_
    refine XS.iconst X3.here hx rfl (hb hby d38_28) ?_
    refine XS.iloadN X3.here hx rfl (hb hby d38_29) rfl ?_
    refine st4 _ ?_
    refine XS.ifNo X4.here hx rfl (hb hby d38_33) rfl ((if0 _ _).trans (feq (by decide : ¬ ((1 : Int32) = (0 : Int32)))).1) ?_
    refine XS.aloadN X4.here hx rfl (hb hby d38_36) rfl rfl ?_
    refine XS.iconst X4.here hx rfl (hb hby d38_37) ?_
    refine XS.iloadN X4.here hx rfl (hb hby d38_38) rfl ?_
    refine st5 _ ?_
    refine XS.ifNo X5.here hx rfl (hb hby d38_42) rfl ((if0 _ _).trans (feq (by decide : ¬ ((1 : Int32) = (0 : Int32)))).1) ?_
    refine XS.aloadN X5.here hx rfl (hb hby d38_45) rfl rfl ?_
    refine XS.iconst X5.here hx rfl (hb hby d38_46) ?_
    refine XS.iloadN X5.here hx rfl (hb hby d38_47) rfl ?_
    refine st6 _ ?_
    refine XS.ifNo X6.here hx rfl (hb hby d38_51) rfl ((if0 _ _).trans (feq (by decide : ¬ ((1 : Int32) = (0 : Int32)))).1) ?_
    show Steps _ _ _ (T6.setTop (mkF m 54 #[Rf a1, It (12 : Int32)] [])) _
    refine XS.aloadN X6.here hx rfl (hb hby d38_54) rfl rfl ?_
    refine XS.bipush X6.here hx rfl (hb hby d38_55) ?_
    refine XS.iloadN X6.here hx rfl (hb hby d38_57) rfl ?_
    refine st7 _ ?_
    refine XS.ifNo X7.here hx rfl (hb hby d38_61) rfl ((if0 _ _).trans (feq (by decide : ¬ ((1 : Int32) = (0 : Int32)))).1) ?_
    refine XS.aloadN X7.here hx rfl (hb hby d38_64) rfl rfl ?_
    refine XS.bipush X7.here hx rfl (hb hby d38_65) ?_
    refine XS.iloadN X7.here hx rfl (hb hby d38_67) rfl ?_
    refine st8 _ ?_
    refine XS.ifNo X8.here hx rfl (hb hby d38_71) rfl ((if0 _ _).trans (feq (by decide : ¬ ((1 : Int32) = (0 : Int32)))).1) ?_
    refine XS.aloadN X8.here hx rfl (hb hby d38_74) rfl rfl ?_
    refine XS.bipush X8.here hx rfl (hb hby d38_75) ?_
    refine XS.iloadN X8.here hx rfl (hb hby d38_77) rfl ?_
    refine st9 _ ?_
    refine XS.ifNo X9.here hx rfl (hb hby d38_81) rfl ((if0 _ _).trans (feq (by decide : ¬ ((1 : Int32) = (0 : Int32)))).1) ?_
    refine XS.aloadN X9.here hx rfl (hb hby d38_84) rfl rfl ?_
    refine XS.bipush X9.here hx rfl (hb hby d38_85) ?_
    refine XS.iloadN X9.here hx rfl (hb hby d38_87) rfl ?_
    refine st10 _ ?_
    refine XS.ifNo X10.here hx rfl (hb hby d38_91) rfl ((if0 _ _).trans (feq (by decide : ¬ ((1 : Int32) = (0 : Int32)))).1) ?_
    refine XS.aloadN X10.here hx rfl (hb hby d38_94) rfl rfl ?_
    refine XS.bipush X10.here hx rfl (hb hby d38_95) ?_
    refine XS.iloadN X10.here hx rfl (hb hby d38_97) rfl ?_
    refine st11 _ ?_
    refine XS.ifNo X11.here hx rfl (hb hby d38_101) rfl ((if0 _ _).trans (feq (by decide : ¬ ((1 : Int32) = (0 : Int32)))).1) ?_
    refine XS.aloadN X11.here hx rfl (hb hby d38_104) rfl rfl ?_
    refine XS.bipush X11.here hx rfl (hb hby d38_105) ?_
    refine XS.iloadN X11.here hx rfl (hb hby d38_107) rfl ?_
    refine st12 _ ?_
    refine XS.ifNo X12.here hx rfl (hb hby d38_111) rfl ((if0 _ _).trans (feq (by decide : ¬ ((1 : Int32) = (0 : Int32)))).1) ?_
    show Steps _ _ _ (T12.setTop (mkF m 114 #[Rf a1, It (12 : Int32)] [])) _
    refine XS.iconst X12.here hx rfl (hb hby d38_114) ?_
    refine XS.goto X12.here hx rfl (pc0 := 115) (pc' := 119) rfl (hb hby d38_115) (by decide) (by decide) ?_
    exact kt
  obtain ⟨fs, hr, hrun, hended, hW, hsame⟩ := X12.leave (v := some (.int (1 : Int32))) (fun h => by rw [Bd.returns] at h; cases h)
  refine ⟨_, _, pre0 _ (sg13 _ (?_)), hrun, hended, _, _, rfl, ?_, ⟨_, rfl⟩, hW, hsame.mono (by decide) (by decide)⟩
  · show Steps _ _ _ (T12.setTop (mkF m 119 #[Rf a1, It (12 : Int32)] [(.int (1 : Int32))])) _
    exact retN X12 hx (t := .boolean) Bd.returns (by simp) (hb hby d38_119) hr
  · show Q38_3 Z a1 tv zm zn us vFM zC kt h0 n0 _ T12.heap _
    rw [e12]
    exact ⟨rfl, N12, rfl⟩
def Q0 (Z : State) (p1 : Int32) (p2 : Int32) (p3 : Int32) (vFM : Value) (zC : Int32) (h0 : Heap) (n0 : Nat) (v : Option Value) (h : Heap) (L : List Loc) : Prop := v = some (.int (1 : Int32)) ∧ Fr n0 L ∧ Keep h0 h [] ∧ Old Z n0 h
theorem ef_0 (m : MethodId) (x0 : Int32) (x1 : Int32) (x2 : Int32) : entryFrame m #[(.int x0), (.int x1), (.int x2)] maxLocals = mkF m 0 #[.val (.int x0), .val (.int x1), .val (.int x2), .unset, .unset, .unset, .unset, .unset, .unset, .unset, .unset, .unset] [] := by first | (simp [entryFrame, mkF, argsToLocals, Value.category, maxLocals]; done) | rfl
theorem rm0 (l : Launch) (Z : State) (a0 : Array Value) (hw : ∀ d ∈ tables_1, d.before a0 Z = true) (ws : List Jvm.Cond) (p1 : Int32) (p2 : Int32) (p3 : Int32) (vFM : Value) (zC : Int32) (h0 : Heap) (n0 : Nat) (O0 : Old Z n0 h0) (hCS : ¬ zC = 0) (hFM : vFM.isRef = true) (sC : TS_0 Z zC) (sF : TS_3 Z vFM) :
    MetFree l x (head1 (Jvm.Cond.code x code maxLocals ret :: ws) room_1) (fun a U => a = #[(.int p1), (.int p2), (.int p3)] ∧ Z.Warmed39 U.vm ∧ U.heap = h0 ∧ CHv Z own_EL U.vm h0) (fun _ _ _ _ _ => True) (fun _ U o U' => ∃ v L, o = .returned v ∧ Q0 Z p1 p2 p3 vFM zC h0 n0 v U'.heap L ∧ CHr Z own_EL U.vm U.heap U'.vm U'.heap ∧ ReturnedEndW U o U' L room_1.cells room_1.slots) := by
  refine MetFree.of_bodySF (plainFor_of_name pn_7) hisR ?_
  intro p e s m args below meth c s₁ Bd hml0 hP hK
  obtain ⟨rfl, hZ, hh, hCH⟩ := hP
  have hx := Bd.exec
  have hby := Bd.bytes
  have hml : c.maxLocals = 12 := hml0
  have hown : s.vm.findClass "com/example/tetrad/tetrad/generate/SourceTextDedentPinLaw" = some m.cls := findClass_of_methodNamed Bd.named
  have X0 : Stand p l e room_1 (s.setVm s.vm) m #[(.int p1), (.int p2), (.int p3)] below meth c s₁ [] 0 0 := Stand.of_body Bd
  have e0 : s₁.heap = h0 := by rw [← hh, Bd.state]; rfl
  have N0 := Fr.nil n0
  have pre0 := own_pre (tb := p.tables) (e := e) (bl := below) (s := s₁) (ef_0 m p1 p2 p3)
  have Y0 : s.Since s.vm h0.size := (State.WarmedH.refl s).since h0.size
  have Yk0 : h0.size ≤ h0.size := Nat.le_refl _
  have CR0 : CHr Z own_EL s.vm h0 s.vm h0 := CHr.refl hCH
  have hEL := own_EW hw
  have hSA := own_SA hw
  have K0 := Keep.refl h0 []
  obtain ⟨u1, hu1⟩ : ∃ z, z = (p1 &&& (3 : Int32)) := ⟨_, rfl⟩
  have sg2 : SG p.tables e below (s₁.setTop (mkF m 3 #[It p1, It p2, It p3, .unset, .unset, .unset, .unset, .unset, .unset, .unset, .unset, .unset] [(.int u1)])) (s₁.setTop (mkF m 0 #[It p1, It p2, It p3, .unset, .unset, .unset, .unset, .unset, .unset, .unset, .unset, .unset] [])) := by
    intro target kt
    subst hu1
    show Steps _ _ _ (s₁.setTop (mkF m 0 #[It p1, It p2, It p3, .unset, .unset, .unset, .unset, .unset, .unset, .unset, .unset, .unset] [])) _
    refine XS.iloadN X0.here hx rfl (hb hby at_0) rfl ?_
    refine XS.iconst X0.here hx rfl (hb hby at_1) ?_
    refine XS.iand X0.here hx rfl (hb hby at_2) rfl ?_
    exact kt
  obtain ⟨u3, hu3⟩ : ∃ z, z = ((1 : Int32) + (((p1.toUInt32 >>> ((2 : Int32) &&& 31).toUInt32).toInt32) &&& (1 : Int32))) := ⟨_, rfl⟩
  have sg4 : SG p.tables e below (s₁.setTop (mkF m 11 #[It p1, It p2, It p3, It u1, .unset, .unset, .unset, .unset, .unset, .unset, .unset, .unset] [(.int u3)])) (s₁.setTop (mkF m 3 #[It p1, It p2, It p3, .unset, .unset, .unset, .unset, .unset, .unset, .unset, .unset, .unset] [(.int u1)])) := by
    intro target kt
    subst hu3
    show Steps _ _ _ (s₁.setTop (mkF m 3 #[It p1, It p2, It p3, .unset, .unset, .unset, .unset, .unset, .unset, .unset, .unset, .unset] [(.int u1)])) _
    refine XS.istoreN X0.here hx rfl (hb hby at_3) rfl (l' := #[It p1, It p2, It p3, It u1, .unset, .unset, .unset, .unset, .unset, .unset, .unset, .unset]) rfl ?_
    refine XS.iconst X0.here hx rfl (hb hby at_4) ?_
    refine XS.iloadN X0.here hx rfl (hb hby at_5) rfl ?_
    refine XS.iconst X0.here hx rfl (hb hby at_6) ?_
    refine XS.iushr X0.here hx rfl (hb hby at_7) rfl ?_
    refine XS.iconst X0.here hx rfl (hb hby at_8) ?_
    refine XS.iand X0.here hx rfl (hb hby at_9) rfl ?_
    refine XS.iadd X0.here hx rfl (hb hby at_10) rfl ?_
    exact kt
  obtain ⟨u5, hu5⟩ : ∃ z, z = (u1 + u3) := ⟨_, rfl⟩
  have sg6 : SG p.tables e below (s₁.setTop (mkF m 17 #[It p1, It p2, It p3, It u1, It u3, .unset, .unset, .unset, .unset, .unset, .unset, .unset] [(.int u5)])) (s₁.setTop (mkF m 11 #[It p1, It p2, It p3, It u1, .unset, .unset, .unset, .unset, .unset, .unset, .unset, .unset] [(.int u3)])) := by
    intro target kt
    subst hu5
    show Steps _ _ _ (s₁.setTop (mkF m 11 #[It p1, It p2, It p3, It u1, .unset, .unset, .unset, .unset, .unset, .unset, .unset, .unset] [(.int u3)])) _
    refine XS.istore X0.here hx rfl (hb hby at_11) rfl (l' := #[It p1, It p2, It p3, It u1, It u3, .unset, .unset, .unset, .unset, .unset, .unset, .unset]) rfl ?_
    refine XS.iloadN X0.here hx rfl (hb hby at_13) rfl ?_
    refine XS.iload X0.here hx rfl (hb hby at_14) rfl ?_
    refine XS.iadd X0.here hx rfl (hb hby at_16) rfl ?_
    exact kt
  obtain ⟨u7, hu7⟩ : ∃ z, z = ((p2 &&& (255 : Int32)).toUInt32.toUInt16.toUInt32.toInt32) := ⟨_, rfl⟩
  have sg8 : SG p.tables e below (s₁.setTop (mkF m 25 #[It p1, It p2, It p3, It u1, It u3, It u5, .unset, .unset, .unset, .unset, .unset, .unset] [(.int u7)])) (s₁.setTop (mkF m 17 #[It p1, It p2, It p3, It u1, It u3, .unset, .unset, .unset, .unset, .unset, .unset, .unset] [(.int u5)])) := by
    intro target kt
    subst hu7
    show Steps _ _ _ (s₁.setTop (mkF m 17 #[It p1, It p2, It p3, It u1, It u3, .unset, .unset, .unset, .unset, .unset, .unset, .unset] [(.int u5)])) _
    refine XS.istore X0.here hx rfl (hb hby at_17) rfl (l' := #[It p1, It p2, It p3, It u1, It u3, It u5, .unset, .unset, .unset, .unset, .unset, .unset]) rfl ?_
    refine XS.iloadN X0.here hx rfl (hb hby at_19) rfl ?_
    refine XS.sipush X0.here hx rfl (hb hby at_20) ?_
    refine XS.iand X0.here hx rfl (hb hby at_23) rfl ?_
    refine XS.i2c X0.here hx rfl (hb hby at_24) rfl ?_
    exact kt
  have rg_u7 := own_chr hu7
  obtain ⟨u9, hu9⟩ : ∃ z, z = ((p3 &&& (255 : Int32)).toUInt32.toUInt16.toUInt32.toInt32) := ⟨_, rfl⟩
  have sg10 : SG p.tables e below (s₁.setTop (mkF m 33 #[It p1, It p2, It p3, It u1, It u3, It u5, It u7, .unset, .unset, .unset, .unset, .unset] [(.int u9)])) (s₁.setTop (mkF m 25 #[It p1, It p2, It p3, It u1, It u3, It u5, .unset, .unset, .unset, .unset, .unset, .unset] [(.int u7)])) := by
    intro target kt
    subst hu9
    show Steps _ _ _ (s₁.setTop (mkF m 25 #[It p1, It p2, It p3, It u1, It u3, It u5, .unset, .unset, .unset, .unset, .unset, .unset] [(.int u7)])) _
    refine XS.istore X0.here hx rfl (hb hby at_25) rfl (l' := #[It p1, It p2, It p3, It u1, It u3, It u5, It u7, .unset, .unset, .unset, .unset, .unset]) rfl ?_
    refine XS.iloadN X0.here hx rfl (hb hby at_27) rfl ?_
    refine XS.sipush X0.here hx rfl (hb hby at_28) ?_
    refine XS.iand X0.here hx rfl (hb hby at_31) rfl ?_
    refine XS.i2c X0.here hx rfl (hb hby at_32) rfl ?_
    exact kt
  have rg_u9 := own_chr hu9
  obtain ⟨T11, h11, X11, e11, E11, A11, D11, -, st11⟩ := newO X0 hx hZ hown (tw hw 0 rfl) (tw hw 1 rfl) (tw hw 2 rfl) e0 (g := (mkF m 35 #[It p1, It p2, It p3, It u1, It u3, It u5, It u7, It u9, .unset, .unset, .unset, .unset] [])) rfl (hb hby at_35) (by decide) (by decide)
  obtain ⟨b11, g11⟩ : ∃ z, z = h0.size := ⟨_, rfl⟩
  rw [← g11] at A11 D11 st11
  have ge_b11 : n0 ≤ b11 := Nat.le_trans (own_osz O0) (Nat.le_of_eq g11.symm)
  have sz_b11 : h0.size ≤ b11 := Nat.le_trans K0.1 (Nat.le_of_eq g11.symm)
  have O12 := O0.ext E11
  have K11 := K0.ext E11
  have CR13 := CR0.trans (CHr.ext E11 CR0.1)
  have F_text_b11 : Fld Z h11 b11 "com/example/tetrad/tetrad/generate/SourceText" "text" "Ljava/lang/StringBuilder;" .null := D11 (Or.inr (tw hw 30 rfl)) (ty := (.object "java/lang/StringBuilder")) (by decide)
  have F_depth_b11 : Fld Z h11 b11 "com/example/tetrad/tetrad/generate/SourceText" "depth" "I" (.int (0 : Int32)) := D11 (Or.inl (tw hw 37 rfl)) (ty := .int) (by decide)
  obtain ⟨_, _, ⟨T14, L14, k14, n14⟩, -, X14, ⟨Lc14, hQ14, l14, y14, z14⟩, st14⟩ := X11.specialBack hx (y := m_11) rfl hown (mvT hZ (tw hw 3 rfl)) (mvT hZ (tw hw 4 rfl)) (mvT hZ (tw hw 5 rfl)) (by decide) (backOf (W := 1) (rm1 l Z a0 hw [] b11 zC h11 n0 O12 sC A11 F_text_b11 F_depth_b11 ge_b11 hCS) hZ (tw hw 5 rfl) (tw hw 2 rfl) (by decide) (by decide)) (g := (mkF m 39 #[It p1, It p2, It p3, It u1, It u3, It u5, It u7, It u9, .unset, .unset, .unset, .unset] [(.ref b11), (.ref b11)])) rfl (by rw [hml]; rfl) (Steps.refl _) (a := b11) (argsL := []) (rest := [(.ref b11)]) (lenOf pd_3 rfl) rfl (w0 rfl) (hb hby at_39) (fun _ _ => ⟨rfl, e11, (by decide : 1 + 2 ≤ _), (by decide : 2 + 20 ≤ _)⟩)
  dsimp only [Pt.U, Pt.locs, Pt.cells, Pt.slots] at X14 l14 y14 z14 st14 hQ14
  subst l14 y14 z14
  obtain ⟨sb_14, ro_14, ko_14, rfl, N14q, K14q, O14, f14_0, f14_1, f14_2, f14_3, f14_4, f14_5, f14_6, f14_7, f14_8, f14_9, f14_10⟩ := hQ14
  have N14 := Fr.app N0 N14q
  have CR15 := CR13.trans (CHr.keep K14q (allS (Safe.exa hZ.alike A11 (by decide) (by decide)) all0) CR13.1)
  have K14 := K11.trans K14q (allS (Or.inr sz_b11) all0)
  have sg16 : SG p.tables e below (T14.setTop (mkF m 44 #[It p1, It p2, It p3, It u1, It u3, It u5, It u7, It u9, Rf b11, .unset, .unset, .unset] [])) (s₁.setTop (mkF m 33 #[It p1, It p2, It p3, It u1, It u3, It u5, It u7, .unset, .unset, .unset, .unset, .unset] [(.int u9)])) := by
    intro target kt
    show Steps _ _ _ (s₁.setTop (mkF m 33 #[It p1, It p2, It p3, It u1, It u3, It u5, It u7, .unset, .unset, .unset, .unset, .unset] [(.int u9)])) _
    refine XS.istore X0.here hx rfl (hb hby at_33) rfl (l' := #[It p1, It p2, It p3, It u1, It u3, It u5, It u7, It u9, .unset, .unset, .unset, .unset]) rfl ?_
    refine st11 _ ?_
    refine XS.dup X11.here hx rfl (hb hby at_38) rfl rfl ?_
    refine st14.trans ?_
    refine XS.astore X14.here hx rfl (hb hby at_42) rfl rfl (l' := #[It p1, It p2, It p3, It u1, It u3, It u5, It u7, It u9, Rf b11, .unset, .unset, .unset]) rfl ?_
    exact kt
  obtain ⟨T23, L23, h23, vm23, kk23, dv23, X23, e23, N23, O23, K23, KK23, Y23, Yk23, hZ23, hown23, CR_23, CQ23, FD23, FT23, ed23, sg23⟩ : ∃ (T' : State) (L' : List Loc) (h' : Heap) (vm' : Vm) (k' : Nat) (dv23 : Int32), Stand p l e room_1 (s.setVm vm') m #[(.int p1), (.int p2), (.int p3)] below meth c T' L' 3 22 ∧ T'.heap = h' ∧ Fr n0 L' ∧ Old Z n0 h' ∧ Keep T14.heap h' [b11] ∧ Keep h0 h' [] ∧ s.Since vm' k' ∧ k' ≤ h'.size ∧ Z.Warmed39 (s.setVm vm').vm ∧ (s.setVm vm').vm.findClass "com/example/tetrad/tetrad/generate/SourceTextDedentPinLaw" = some m.cls ∧ CHr Z own_EL s.vm h0 vm' h' ∧ CHr Z own_EL s.vm T14.heap vm' h' ∧ Fld Z h' b11 "com/example/tetrad/tetrad/generate/SourceText" "depth" "I" (.int dv23) ∧ Fld Z h' b11 "com/example/tetrad/tetrad/generate/SourceText" "text" "Ljava/lang/StringBuilder;" (.ref sb_14) ∧ dv23 = (if u5 < (1 : Int32) then (0 : Int32) else ((0 : Int32) + (1 : Int32))) ∧ ∀ target, Steps p.tables e below (T'.setTop (mkF m 56 #[It p1, It p2, It p3, It u1, It u3, It u5, It u7, It u9, Rf b11, .unset, .unset, .unset] [])) target → Steps p.tables e below (T14.setTop (mkF m 44 #[It p1, It p2, It p3, It u1, It u3, It u5, It u7, It u9, Rf b11, .unset, .unset, .unset] [])) target := by
    have sg17 : SG p.tables e below (T14.setTop (mkF m 47 #[It p1, It p2, It p3, It u1, It u3, It u5, It u7, It u9, Rf b11, .unset, .unset, .unset] [(.int (1 : Int32)), (.int u5)])) (T14.setTop (mkF m 44 #[It p1, It p2, It p3, It u1, It u3, It u5, It u7, It u9, Rf b11, .unset, .unset, .unset] [])) := by
      intro target kt
      show Steps _ _ _ (T14.setTop (mkF m 44 #[It p1, It p2, It p3, It u1, It u3, It u5, It u7, It u9, Rf b11, .unset, .unset, .unset] [])) _
      refine XS.iload X14.here hx rfl (hb hby at_44) rfl ?_
      refine XS.iconst X14.here hx rfl (hb hby at_46) ?_
      exact kt
    by_cases hc18 : u5 < (1 : Int32)
    · have sg19 : SG p.tables e below (T14.setTop (mkF m 56 #[It p1, It p2, It p3, It u1, It u3, It u5, It u7, It u9, Rf b11, .unset, .unset, .unset] [])) (T14.setTop (mkF m 47 #[It p1, It p2, It p3, It u1, It u3, It u5, It u7, It u9, Rf b11, .unset, .unset, .unset] [(.int (1 : Int32)), (.int u5)])) := by
        intro target kt
        show Steps _ _ _ (T14.setTop (mkF m 47 #[It p1, It p2, It p3, It u1, It u3, It u5, It u7, It u9, Rf b11, .unset, .unset, .unset] [(.int (1 : Int32)), (.int u5)])) _
        refine XS.icmpYes X14.here hx rfl (pc0 := 47) (pc' := 56) rfl (hb hby at_47) rfl (tlt hc18).1 (by decide) (by decide) ?_
        exact kt
      exact ⟨T14, _, T14.heap, s.vm, _, (0 : Int32), X14.mono (by decide) (by decide), rfl, N14, O14, (Keep.refl T14.heap [b11]), K14, Y0, (Nat.le_trans (Nat.le_trans Yk0 E11.1) K14q.1), hZ, hown, CR15, (CHr.refl CR15.1), f14_1, f14_0, (if_pos hc18).symm, fun target kt => sg17 _ (sg19 _ (kt))⟩
    · obtain ⟨cq20, kq20, q20a, q20b, q20c⟩ := isOf hZ rfl (A11.keep K14q)
      obtain ⟨_, _, ⟨T20, L20, k20, n20⟩, -, X20, ⟨Lc20, hQ20, l20, y20, z20⟩, st20⟩ := X14.virtualBack hx (y := m_12) (z := m_12) hown (mvT hZ (tw hw 31 rfl)) (mvT hZ (tw hw 32 rfl)) (notFace_of_selects (args := #[]) (mvT hZ (tw hw 34 rfl))) (mvT hZ (tw hw 34 rfl)) (mvT hZ (tw hw 33 rfl)) (by decide) (backOf (W := 0) (rm5 l Z a0 hw [] b11 (0 : Int32) sb_14 T14.heap n0 O14 (A11.keep K14q) f14_1 f14_0 ge_b11) hZ (tw hw 35 rfl) (tw hw 2 rfl) (by decide) (by decide)) q20a q20c (g := (mkF m 52 #[It p1, It p2, It p3, It u1, It u3, It u5, It u7, It u9, Rf b11, .unset, .unset, .unset] [(.ref b11)])) rfl (by rw [hml]; rfl) (Steps.refl _) (argsL := []) (rest := []) (lenOf pd_27 rfl) rfl (w0 rfl) (hb hby at_52) (fun _ _ => ⟨rfl, rfl, (by decide : 3 + 0 ≤ _), (by decide : 22 + 0 ≤ _)⟩)
      dsimp only [Pt.U, Pt.locs, Pt.cells, Pt.slots] at X20 l20 y20 z20 st20 hQ20
      subst l20 y20 z20
      obtain ⟨rfl, N20q, K20q, O20, f20_0, f20_1⟩ := hQ20
      have N20 := Fr.app N14 N20q
      have CR21 := CR15.trans (CHr.keep K20q (allS (Safe.exa hZ.alike (A11.keep K14q) (by decide) (by decide)) all0) CR15.1)
      have K20 := K14.trans K20q (allS (Or.inr sz_b11) all0)
      have sg22 : SG p.tables e below (T20.setTop (mkF m 56 #[It p1, It p2, It p3, It u1, It u3, It u5, It u7, It u9, Rf b11, .unset, .unset, .unset] [])) (T14.setTop (mkF m 47 #[It p1, It p2, It p3, It u1, It u3, It u5, It u7, It u9, Rf b11, .unset, .unset, .unset] [(.int (1 : Int32)), (.int u5)])) := by
        intro target kt
        show Steps _ _ _ (T14.setTop (mkF m 47 #[It p1, It p2, It p3, It u1, It u3, It u5, It u7, It u9, Rf b11, .unset, .unset, .unset] [(.int (1 : Int32)), (.int u5)])) _
        refine XS.icmpNo X14.here hx rfl (hb hby at_47) rfl (flt hc18).1 ?_
        refine XS.aload X14.here hx rfl (hb hby at_50) rfl rfl ?_
        refine st20.trans ?_
        refine XS.pop X20.here hx rfl (hb hby at_55) rfl rfl ?_
        exact kt
      exact ⟨T20, _, T20.heap, s.vm, _, ((0 : Int32) + (1 : Int32)), X20.mono (by decide) (by decide), rfl, N20, O20, ((Keep.refl T14.heap [b11]).trans K20q (allS (Or.inl (List.mem_of_getElem? (i := 0) rfl)) all0)), K20, Y0, (Nat.le_trans (Nat.le_trans (Nat.le_trans Yk0 E11.1) K14q.1) K20q.1), hZ, hown, CR21, ((CHr.refl CR15.1).trans (CHr.keep K20q (allS (Safe.exa hZ.alike (A11.keep K14q) (by decide) (by decide)) all0) CR15.1)), f20_0, f20_1, (if_neg hc18).symm, fun target kt => sg17 _ (sg22 _ (kt))⟩
  have Rn24 := (CQ23.safe f14_6.lt (Safe.keep K14q (allS (Safe.exa hZ.alike A11 (by decide) (by decide)) all0) CR13.1 (Safe.new f14_10)))
  have Rn25 := (CQ23.safe f14_2.lt (Safe.keep K14q (allS (Safe.exa hZ.alike A11 (by decide) (by decide)) all0) CR13.1 (Safe.new f14_8)))
  have Rn26 := (f14_6.keep K23 (ninS (Ne.symm (Nat.ne_of_lt (Nat.lt_of_lt_of_le A11.lt f14_10))) nin0))
  have Rn27 := (f14_2.keep K23)
  have Rn28 := (f14_4.keep K23 (ninS (Ne.symm (Nat.ne_of_lt (Nat.lt_of_lt_of_le A11.lt f14_8))) nin0))
  have Rn29 := (f14_5.keep K23 (ninS (Ne.symm (Nat.ne_of_lt (Nat.lt_of_lt_of_le A11.lt f14_8))) nin0))
  have Rn30 := (f14_3.keep K23 (ninS (Ne.symm (Nat.ne_of_lt (Nat.lt_of_lt_of_le A11.lt f14_8))) nin0))
  obtain ⟨T37, L37, h37, vm37, kk37, dv37, X37, e37, N37, O37, K37, KK37, Y37, Yk37, hZ37, hown37, CR_37, CQ37, FD37, FT37, ed37, sg37⟩ : ∃ (T' : State) (L' : List Loc) (h' : Heap) (vm' : Vm) (k' : Nat) (dv37 : Int32), Stand p l e room_1 (s.setVm vm') m #[(.int p1), (.int p2), (.int p3)] below meth c T' L' 3 22 ∧ T'.heap = h' ∧ Fr n0 L' ∧ Old Z n0 h' ∧ Keep h23 h' [b11] ∧ Keep h0 h' [] ∧ s.Since vm' k' ∧ k' ≤ h'.size ∧ Z.Warmed39 (s.setVm vm').vm ∧ (s.setVm vm').vm.findClass "com/example/tetrad/tetrad/generate/SourceTextDedentPinLaw" = some m.cls ∧ CHr Z own_EL s.vm h0 vm' h' ∧ CHr Z own_EL vm23 h23 vm' h' ∧ Fld Z h' b11 "com/example/tetrad/tetrad/generate/SourceText" "depth" "I" (.int dv37) ∧ Fld Z h' b11 "com/example/tetrad/tetrad/generate/SourceText" "text" "Ljava/lang/StringBuilder;" (.ref sb_14) ∧ dv37 = (if u5 < (2 : Int32) then dv23 else (dv23 + (1 : Int32))) ∧ ∀ target, Steps p.tables e below (T'.setTop (mkF m 68 #[It p1, It p2, It p3, It u1, It u3, It u5, It u7, It u9, Rf b11, .unset, .unset, .unset] [])) target → Steps p.tables e below (T23.setTop (mkF m 56 #[It p1, It p2, It p3, It u1, It u3, It u5, It u7, It u9, Rf b11, .unset, .unset, .unset] [])) target := by
    have sg31 : SG p.tables e below (T23.setTop (mkF m 59 #[It p1, It p2, It p3, It u1, It u3, It u5, It u7, It u9, Rf b11, .unset, .unset, .unset] [(.int (2 : Int32)), (.int u5)])) (T23.setTop (mkF m 56 #[It p1, It p2, It p3, It u1, It u3, It u5, It u7, It u9, Rf b11, .unset, .unset, .unset] [])) := by
      intro target kt
      show Steps _ _ _ (T23.setTop (mkF m 56 #[It p1, It p2, It p3, It u1, It u3, It u5, It u7, It u9, Rf b11, .unset, .unset, .unset] [])) _
      refine XS.iload X23.here hx rfl (hb hby at_56) rfl ?_
      refine XS.iconst X23.here hx rfl (hb hby at_58) ?_
      exact kt
    by_cases hc32 : u5 < (2 : Int32)
    · have sg33 : SG p.tables e below (T23.setTop (mkF m 68 #[It p1, It p2, It p3, It u1, It u3, It u5, It u7, It u9, Rf b11, .unset, .unset, .unset] [])) (T23.setTop (mkF m 59 #[It p1, It p2, It p3, It u1, It u3, It u5, It u7, It u9, Rf b11, .unset, .unset, .unset] [(.int (2 : Int32)), (.int u5)])) := by
        intro target kt
        show Steps _ _ _ (T23.setTop (mkF m 59 #[It p1, It p2, It p3, It u1, It u3, It u5, It u7, It u9, Rf b11, .unset, .unset, .unset] [(.int (2 : Int32)), (.int u5)])) _
        refine XS.icmpYes X23.here hx rfl (pc0 := 59) (pc' := 68) rfl (hb hby at_59) rfl (tlt hc32).1 (by decide) (by decide) ?_
        exact kt
      exact ⟨T23, _, h23, vm23, _, dv23, X23.mono (by decide) (by decide), e23, N23, O23, (Keep.refl h23 [b11]), KK23, Y23, Yk23, hZ23, hown23, CR_23, (CHr.refl CR_23.1), FD23, FT23, (if_pos hc32).symm, fun target kt => sg31 _ (sg33 _ (kt))⟩
    · obtain ⟨cq34, kq34, q34a, q34b, q34c⟩ := isOf hZ23 e23 ((A11.keep K14q).keep K23)
      obtain ⟨_, _, ⟨T34, L34, k34, n34⟩, -, X34, ⟨Lc34, hQ34, l34, y34, z34⟩, st34⟩ := X23.virtualBack hx (y := m_12) (z := m_12) hown23 (mvT hZ23 (tw hw 31 rfl)) (mvT hZ23 (tw hw 32 rfl)) (notFace_of_selects (args := #[]) (mvT hZ23 (tw hw 34 rfl))) (mvT hZ23 (tw hw 34 rfl)) (mvT hZ23 (tw hw 33 rfl)) (by decide) (backOf (W := 0) (rm5 l Z a0 hw [] b11 dv23 sb_14 h23 n0 O23 ((A11.keep K14q).keep K23) FD23 FT23 ge_b11) hZ23 (tw hw 35 rfl) (tw hw 2 rfl) (by decide) (by decide)) q34a q34c (g := (mkF m 64 #[It p1, It p2, It p3, It u1, It u3, It u5, It u7, It u9, Rf b11, .unset, .unset, .unset] [(.ref b11)])) rfl (by rw [hml]; rfl) (Steps.refl _) (argsL := []) (rest := []) (lenOf pd_27 rfl) rfl (w0 rfl) (hb hby at_64) (fun _ _ => ⟨rfl, e23, (by decide : 3 + 0 ≤ _), (by decide : 22 + 0 ≤ _)⟩)
      dsimp only [Pt.U, Pt.locs, Pt.cells, Pt.slots] at X34 l34 y34 z34 st34 hQ34
      subst l34 y34 z34
      obtain ⟨rfl, N34q, K34q, O34, f34_0, f34_1⟩ := hQ34
      have N34 := Fr.app N23 N34q
      have CR35 := CR_23.trans (CHr.keep K34q (allS (Safe.exa hZ23.alike ((A11.keep K14q).keep K23) (by decide) (by decide)) all0) CR_23.1)
      have K34 := KK23.trans K34q (allS (Or.inr sz_b11) all0)
      have sg36 : SG p.tables e below (T34.setTop (mkF m 68 #[It p1, It p2, It p3, It u1, It u3, It u5, It u7, It u9, Rf b11, .unset, .unset, .unset] [])) (T23.setTop (mkF m 59 #[It p1, It p2, It p3, It u1, It u3, It u5, It u7, It u9, Rf b11, .unset, .unset, .unset] [(.int (2 : Int32)), (.int u5)])) := by
        intro target kt
        show Steps _ _ _ (T23.setTop (mkF m 59 #[It p1, It p2, It p3, It u1, It u3, It u5, It u7, It u9, Rf b11, .unset, .unset, .unset] [(.int (2 : Int32)), (.int u5)])) _
        refine XS.icmpNo X23.here hx rfl (hb hby at_59) rfl (flt hc32).1 ?_
        refine XS.aload X23.here hx rfl (hb hby at_62) rfl rfl ?_
        refine st34.trans ?_
        refine XS.pop X34.here hx rfl (hb hby at_67) rfl rfl ?_
        exact kt
      exact ⟨T34, _, T34.heap, vm23, _, (dv23 + (1 : Int32)), X34.mono (by decide) (by decide), rfl, N34, O34, ((Keep.refl h23 [b11]).trans K34q (allS (Or.inl (List.mem_of_getElem? (i := 0) rfl)) all0)), K34, Y23, (Nat.le_trans Yk23 K34q.1), hZ23, hown23, CR35, ((CHr.refl CR_23.1).trans (CHr.keep K34q (allS (Safe.exa hZ23.alike ((A11.keep K14q).keep K23) (by decide) (by decide)) all0) CR_23.1)), f34_0, f34_1, (if_neg hc32).symm, fun target kt => sg31 _ (sg36 _ (kt))⟩
  have Rn38 := (CQ37.safe Rn26.lt Rn24)
  have Rn39 := (CQ37.safe Rn27.lt Rn25)
  have Rn40 := (Rn26.keep K37 (ninS (Ne.symm (Nat.ne_of_lt (Nat.lt_of_lt_of_le A11.lt f14_10))) nin0))
  have Rn41 := (Rn27.keep K37)
  have Rn42 := (Rn28.keep K37 (ninS (Ne.symm (Nat.ne_of_lt (Nat.lt_of_lt_of_le A11.lt f14_8))) nin0))
  have Rn43 := (Rn29.keep K37 (ninS (Ne.symm (Nat.ne_of_lt (Nat.lt_of_lt_of_le A11.lt f14_8))) nin0))
  have Rn44 := (Rn30.keep K37 (ninS (Ne.symm (Nat.ne_of_lt (Nat.lt_of_lt_of_le A11.lt f14_8))) nin0))
  obtain ⟨T51, L51, h51, vm51, kk51, dv51, X51, e51, N51, O51, K51, KK51, Y51, Yk51, hZ51, hown51, CR_51, CQ51, FD51, FT51, ed51, sg51⟩ : ∃ (T' : State) (L' : List Loc) (h' : Heap) (vm' : Vm) (k' : Nat) (dv51 : Int32), Stand p l e room_1 (s.setVm vm') m #[(.int p1), (.int p2), (.int p3)] below meth c T' L' 3 22 ∧ T'.heap = h' ∧ Fr n0 L' ∧ Old Z n0 h' ∧ Keep h37 h' [b11] ∧ Keep h0 h' [] ∧ s.Since vm' k' ∧ k' ≤ h'.size ∧ Z.Warmed39 (s.setVm vm').vm ∧ (s.setVm vm').vm.findClass "com/example/tetrad/tetrad/generate/SourceTextDedentPinLaw" = some m.cls ∧ CHr Z own_EL s.vm h0 vm' h' ∧ CHr Z own_EL vm37 h37 vm' h' ∧ Fld Z h' b11 "com/example/tetrad/tetrad/generate/SourceText" "depth" "I" (.int dv51) ∧ Fld Z h' b11 "com/example/tetrad/tetrad/generate/SourceText" "text" "Ljava/lang/StringBuilder;" (.ref sb_14) ∧ dv51 = (if u5 < (3 : Int32) then dv37 else (dv37 + (1 : Int32))) ∧ ∀ target, Steps p.tables e below (T'.setTop (mkF m 80 #[It p1, It p2, It p3, It u1, It u3, It u5, It u7, It u9, Rf b11, .unset, .unset, .unset] [])) target → Steps p.tables e below (T37.setTop (mkF m 68 #[It p1, It p2, It p3, It u1, It u3, It u5, It u7, It u9, Rf b11, .unset, .unset, .unset] [])) target := by
    have sg45 : SG p.tables e below (T37.setTop (mkF m 71 #[It p1, It p2, It p3, It u1, It u3, It u5, It u7, It u9, Rf b11, .unset, .unset, .unset] [(.int (3 : Int32)), (.int u5)])) (T37.setTop (mkF m 68 #[It p1, It p2, It p3, It u1, It u3, It u5, It u7, It u9, Rf b11, .unset, .unset, .unset] [])) := by
      intro target kt
      show Steps _ _ _ (T37.setTop (mkF m 68 #[It p1, It p2, It p3, It u1, It u3, It u5, It u7, It u9, Rf b11, .unset, .unset, .unset] [])) _
      refine XS.iload X37.here hx rfl (hb hby at_68) rfl ?_
      refine XS.iconst X37.here hx rfl (hb hby at_70) ?_
      exact kt
    by_cases hc46 : u5 < (3 : Int32)
    · have sg47 : SG p.tables e below (T37.setTop (mkF m 80 #[It p1, It p2, It p3, It u1, It u3, It u5, It u7, It u9, Rf b11, .unset, .unset, .unset] [])) (T37.setTop (mkF m 71 #[It p1, It p2, It p3, It u1, It u3, It u5, It u7, It u9, Rf b11, .unset, .unset, .unset] [(.int (3 : Int32)), (.int u5)])) := by
        intro target kt
        show Steps _ _ _ (T37.setTop (mkF m 71 #[It p1, It p2, It p3, It u1, It u3, It u5, It u7, It u9, Rf b11, .unset, .unset, .unset] [(.int (3 : Int32)), (.int u5)])) _
        refine XS.icmpYes X37.here hx rfl (pc0 := 71) (pc' := 80) rfl (hb hby at_71) rfl (tlt hc46).1 (by decide) (by decide) ?_
        exact kt
      exact ⟨T37, _, h37, vm37, _, dv37, X37.mono (by decide) (by decide), e37, N37, O37, (Keep.refl h37 [b11]), KK37, Y37, Yk37, hZ37, hown37, CR_37, (CHr.refl CR_37.1), FD37, FT37, (if_pos hc46).symm, fun target kt => sg45 _ (sg47 _ (kt))⟩
    · obtain ⟨cq48, kq48, q48a, q48b, q48c⟩ := isOf hZ37 e37 (((A11.keep K14q).keep K23).keep K37)
      obtain ⟨_, _, ⟨T48, L48, k48, n48⟩, -, X48, ⟨Lc48, hQ48, l48, y48, z48⟩, st48⟩ := X37.virtualBack hx (y := m_12) (z := m_12) hown37 (mvT hZ37 (tw hw 31 rfl)) (mvT hZ37 (tw hw 32 rfl)) (notFace_of_selects (args := #[]) (mvT hZ37 (tw hw 34 rfl))) (mvT hZ37 (tw hw 34 rfl)) (mvT hZ37 (tw hw 33 rfl)) (by decide) (backOf (W := 0) (rm5 l Z a0 hw [] b11 dv37 sb_14 h37 n0 O37 (((A11.keep K14q).keep K23).keep K37) FD37 FT37 ge_b11) hZ37 (tw hw 35 rfl) (tw hw 2 rfl) (by decide) (by decide)) q48a q48c (g := (mkF m 76 #[It p1, It p2, It p3, It u1, It u3, It u5, It u7, It u9, Rf b11, .unset, .unset, .unset] [(.ref b11)])) rfl (by rw [hml]; rfl) (Steps.refl _) (argsL := []) (rest := []) (lenOf pd_27 rfl) rfl (w0 rfl) (hb hby at_76) (fun _ _ => ⟨rfl, e37, (by decide : 3 + 0 ≤ _), (by decide : 22 + 0 ≤ _)⟩)
      dsimp only [Pt.U, Pt.locs, Pt.cells, Pt.slots] at X48 l48 y48 z48 st48 hQ48
      subst l48 y48 z48
      obtain ⟨rfl, N48q, K48q, O48, f48_0, f48_1⟩ := hQ48
      have N48 := Fr.app N37 N48q
      have CR49 := CR_37.trans (CHr.keep K48q (allS (Safe.exa hZ37.alike (((A11.keep K14q).keep K23).keep K37) (by decide) (by decide)) all0) CR_37.1)
      have K48 := KK37.trans K48q (allS (Or.inr sz_b11) all0)
      have sg50 : SG p.tables e below (T48.setTop (mkF m 80 #[It p1, It p2, It p3, It u1, It u3, It u5, It u7, It u9, Rf b11, .unset, .unset, .unset] [])) (T37.setTop (mkF m 71 #[It p1, It p2, It p3, It u1, It u3, It u5, It u7, It u9, Rf b11, .unset, .unset, .unset] [(.int (3 : Int32)), (.int u5)])) := by
        intro target kt
        show Steps _ _ _ (T37.setTop (mkF m 71 #[It p1, It p2, It p3, It u1, It u3, It u5, It u7, It u9, Rf b11, .unset, .unset, .unset] [(.int (3 : Int32)), (.int u5)])) _
        refine XS.icmpNo X37.here hx rfl (hb hby at_71) rfl (flt hc46).1 ?_
        refine XS.aload X37.here hx rfl (hb hby at_74) rfl rfl ?_
        refine st48.trans ?_
        refine XS.pop X48.here hx rfl (hb hby at_79) rfl rfl ?_
        exact kt
      exact ⟨T48, _, T48.heap, vm37, _, (dv37 + (1 : Int32)), X48.mono (by decide) (by decide), rfl, N48, O48, ((Keep.refl h37 [b11]).trans K48q (allS (Or.inl (List.mem_of_getElem? (i := 0) rfl)) all0)), K48, Y37, (Nat.le_trans Yk37 K48q.1), hZ37, hown37, CR49, ((CHr.refl CR_37.1).trans (CHr.keep K48q (allS (Safe.exa hZ37.alike (((A11.keep K14q).keep K23).keep K37) (by decide) (by decide)) all0) CR_37.1)), f48_0, f48_1, (if_neg hc46).symm, fun target kt => sg45 _ (sg50 _ (kt))⟩
  have Rn52 := (CQ51.safe Rn40.lt Rn38)
  have Rn53 := (CQ51.safe Rn41.lt Rn39)
  have Rn54 := (Rn40.keep K51 (ninS (Ne.symm (Nat.ne_of_lt (Nat.lt_of_lt_of_le A11.lt f14_10))) nin0))
  have Rn55 := (Rn41.keep K51)
  have Rn56 := (Rn42.keep K51 (ninS (Ne.symm (Nat.ne_of_lt (Nat.lt_of_lt_of_le A11.lt f14_8))) nin0))
  have Rn57 := (Rn43.keep K51 (ninS (Ne.symm (Nat.ne_of_lt (Nat.lt_of_lt_of_le A11.lt f14_8))) nin0))
  have Rn58 := (Rn44.keep K51 (ninS (Ne.symm (Nat.ne_of_lt (Nat.lt_of_lt_of_le A11.lt f14_8))) nin0))
  obtain ⟨T65, L65, h65, vm65, kk65, dv65, X65, e65, N65, O65, K65, KK65, Y65, Yk65, hZ65, hown65, CR_65, CQ65, FD65, FT65, ed65, sg65⟩ : ∃ (T' : State) (L' : List Loc) (h' : Heap) (vm' : Vm) (k' : Nat) (dv65 : Int32), Stand p l e room_1 (s.setVm vm') m #[(.int p1), (.int p2), (.int p3)] below meth c T' L' 3 22 ∧ T'.heap = h' ∧ Fr n0 L' ∧ Old Z n0 h' ∧ Keep h51 h' [b11] ∧ Keep h0 h' [] ∧ s.Since vm' k' ∧ k' ≤ h'.size ∧ Z.Warmed39 (s.setVm vm').vm ∧ (s.setVm vm').vm.findClass "com/example/tetrad/tetrad/generate/SourceTextDedentPinLaw" = some m.cls ∧ CHr Z own_EL s.vm h0 vm' h' ∧ CHr Z own_EL vm51 h51 vm' h' ∧ Fld Z h' b11 "com/example/tetrad/tetrad/generate/SourceText" "depth" "I" (.int dv65) ∧ Fld Z h' b11 "com/example/tetrad/tetrad/generate/SourceText" "text" "Ljava/lang/StringBuilder;" (.ref sb_14) ∧ dv65 = (if u5 < (4 : Int32) then dv51 else (dv51 + (1 : Int32))) ∧ ∀ target, Steps p.tables e below (T'.setTop (mkF m 92 #[It p1, It p2, It p3, It u1, It u3, It u5, It u7, It u9, Rf b11, .unset, .unset, .unset] [])) target → Steps p.tables e below (T51.setTop (mkF m 80 #[It p1, It p2, It p3, It u1, It u3, It u5, It u7, It u9, Rf b11, .unset, .unset, .unset] [])) target := by
    have sg59 : SG p.tables e below (T51.setTop (mkF m 83 #[It p1, It p2, It p3, It u1, It u3, It u5, It u7, It u9, Rf b11, .unset, .unset, .unset] [(.int (4 : Int32)), (.int u5)])) (T51.setTop (mkF m 80 #[It p1, It p2, It p3, It u1, It u3, It u5, It u7, It u9, Rf b11, .unset, .unset, .unset] [])) := by
      intro target kt
      show Steps _ _ _ (T51.setTop (mkF m 80 #[It p1, It p2, It p3, It u1, It u3, It u5, It u7, It u9, Rf b11, .unset, .unset, .unset] [])) _
      refine XS.iload X51.here hx rfl (hb hby at_80) rfl ?_
      refine XS.iconst X51.here hx rfl (hb hby at_82) ?_
      exact kt
    by_cases hc60 : u5 < (4 : Int32)
    · have sg61 : SG p.tables e below (T51.setTop (mkF m 92 #[It p1, It p2, It p3, It u1, It u3, It u5, It u7, It u9, Rf b11, .unset, .unset, .unset] [])) (T51.setTop (mkF m 83 #[It p1, It p2, It p3, It u1, It u3, It u5, It u7, It u9, Rf b11, .unset, .unset, .unset] [(.int (4 : Int32)), (.int u5)])) := by
        intro target kt
        show Steps _ _ _ (T51.setTop (mkF m 83 #[It p1, It p2, It p3, It u1, It u3, It u5, It u7, It u9, Rf b11, .unset, .unset, .unset] [(.int (4 : Int32)), (.int u5)])) _
        refine XS.icmpYes X51.here hx rfl (pc0 := 83) (pc' := 92) rfl (hb hby at_83) rfl (tlt hc60).1 (by decide) (by decide) ?_
        exact kt
      exact ⟨T51, _, h51, vm51, _, dv51, X51.mono (by decide) (by decide), e51, N51, O51, (Keep.refl h51 [b11]), KK51, Y51, Yk51, hZ51, hown51, CR_51, (CHr.refl CR_51.1), FD51, FT51, (if_pos hc60).symm, fun target kt => sg59 _ (sg61 _ (kt))⟩
    · obtain ⟨cq62, kq62, q62a, q62b, q62c⟩ := isOf hZ51 e51 ((((A11.keep K14q).keep K23).keep K37).keep K51)
      obtain ⟨_, _, ⟨T62, L62, k62, n62⟩, -, X62, ⟨Lc62, hQ62, l62, y62, z62⟩, st62⟩ := X51.virtualBack hx (y := m_12) (z := m_12) hown51 (mvT hZ51 (tw hw 31 rfl)) (mvT hZ51 (tw hw 32 rfl)) (notFace_of_selects (args := #[]) (mvT hZ51 (tw hw 34 rfl))) (mvT hZ51 (tw hw 34 rfl)) (mvT hZ51 (tw hw 33 rfl)) (by decide) (backOf (W := 0) (rm5 l Z a0 hw [] b11 dv51 sb_14 h51 n0 O51 ((((A11.keep K14q).keep K23).keep K37).keep K51) FD51 FT51 ge_b11) hZ51 (tw hw 35 rfl) (tw hw 2 rfl) (by decide) (by decide)) q62a q62c (g := (mkF m 88 #[It p1, It p2, It p3, It u1, It u3, It u5, It u7, It u9, Rf b11, .unset, .unset, .unset] [(.ref b11)])) rfl (by rw [hml]; rfl) (Steps.refl _) (argsL := []) (rest := []) (lenOf pd_27 rfl) rfl (w0 rfl) (hb hby at_88) (fun _ _ => ⟨rfl, e51, (by decide : 3 + 0 ≤ _), (by decide : 22 + 0 ≤ _)⟩)
      dsimp only [Pt.U, Pt.locs, Pt.cells, Pt.slots] at X62 l62 y62 z62 st62 hQ62
      subst l62 y62 z62
      obtain ⟨rfl, N62q, K62q, O62, f62_0, f62_1⟩ := hQ62
      have N62 := Fr.app N51 N62q
      have CR63 := CR_51.trans (CHr.keep K62q (allS (Safe.exa hZ51.alike ((((A11.keep K14q).keep K23).keep K37).keep K51) (by decide) (by decide)) all0) CR_51.1)
      have K62 := KK51.trans K62q (allS (Or.inr sz_b11) all0)
      have sg64 : SG p.tables e below (T62.setTop (mkF m 92 #[It p1, It p2, It p3, It u1, It u3, It u5, It u7, It u9, Rf b11, .unset, .unset, .unset] [])) (T51.setTop (mkF m 83 #[It p1, It p2, It p3, It u1, It u3, It u5, It u7, It u9, Rf b11, .unset, .unset, .unset] [(.int (4 : Int32)), (.int u5)])) := by
        intro target kt
        show Steps _ _ _ (T51.setTop (mkF m 83 #[It p1, It p2, It p3, It u1, It u3, It u5, It u7, It u9, Rf b11, .unset, .unset, .unset] [(.int (4 : Int32)), (.int u5)])) _
        refine XS.icmpNo X51.here hx rfl (hb hby at_83) rfl (flt hc60).1 ?_
        refine XS.aload X51.here hx rfl (hb hby at_86) rfl rfl ?_
        refine st62.trans ?_
        refine XS.pop X62.here hx rfl (hb hby at_91) rfl rfl ?_
        exact kt
      exact ⟨T62, _, T62.heap, vm51, _, (dv51 + (1 : Int32)), X62.mono (by decide) (by decide), rfl, N62, O62, ((Keep.refl h51 [b11]).trans K62q (allS (Or.inl (List.mem_of_getElem? (i := 0) rfl)) all0)), K62, Y51, (Nat.le_trans Yk51 K62q.1), hZ51, hown51, CR63, ((CHr.refl CR_51.1).trans (CHr.keep K62q (allS (Safe.exa hZ51.alike ((((A11.keep K14q).keep K23).keep K37).keep K51) (by decide) (by decide)) all0) CR_51.1)), f62_0, f62_1, (if_neg hc60).symm, fun target kt => sg59 _ (sg64 _ (kt))⟩
  have Rn66 := (CQ65.safe Rn54.lt Rn52)
  have Rn67 := (CQ65.safe Rn55.lt Rn53)
  have Rn68 := (Rn54.keep K65 (ninS (Ne.symm (Nat.ne_of_lt (Nat.lt_of_lt_of_le A11.lt f14_10))) nin0))
  have Rn69 := (Rn55.keep K65)
  have Rn70 := (Rn56.keep K65 (ninS (Ne.symm (Nat.ne_of_lt (Nat.lt_of_lt_of_le A11.lt f14_8))) nin0))
  have Rn71 := (Rn57.keep K65 (ninS (Ne.symm (Nat.ne_of_lt (Nat.lt_of_lt_of_le A11.lt f14_8))) nin0))
  have Rn72 := (Rn58.keep K65 (ninS (Ne.symm (Nat.ne_of_lt (Nat.lt_of_lt_of_le A11.lt f14_8))) nin0))
  obtain ⟨T79, L79, h79, vm79, kk79, dv79, X79, e79, N79, O79, K79, KK79, Y79, Yk79, hZ79, hown79, CR_79, CQ79, FD79, FT79, ed79, sg79⟩ : ∃ (T' : State) (L' : List Loc) (h' : Heap) (vm' : Vm) (k' : Nat) (dv79 : Int32), Stand p l e room_1 (s.setVm vm') m #[(.int p1), (.int p2), (.int p3)] below meth c T' L' 3 22 ∧ T'.heap = h' ∧ Fr n0 L' ∧ Old Z n0 h' ∧ Keep h65 h' [b11] ∧ Keep h0 h' [] ∧ s.Since vm' k' ∧ k' ≤ h'.size ∧ Z.Warmed39 (s.setVm vm').vm ∧ (s.setVm vm').vm.findClass "com/example/tetrad/tetrad/generate/SourceTextDedentPinLaw" = some m.cls ∧ CHr Z own_EL s.vm h0 vm' h' ∧ CHr Z own_EL vm65 h65 vm' h' ∧ Fld Z h' b11 "com/example/tetrad/tetrad/generate/SourceText" "depth" "I" (.int dv79) ∧ Fld Z h' b11 "com/example/tetrad/tetrad/generate/SourceText" "text" "Ljava/lang/StringBuilder;" (.ref sb_14) ∧ dv79 = (if u5 < (5 : Int32) then dv65 else (dv65 + (1 : Int32))) ∧ ∀ target, Steps p.tables e below (T'.setTop (mkF m 104 #[It p1, It p2, It p3, It u1, It u3, It u5, It u7, It u9, Rf b11, .unset, .unset, .unset] [])) target → Steps p.tables e below (T65.setTop (mkF m 92 #[It p1, It p2, It p3, It u1, It u3, It u5, It u7, It u9, Rf b11, .unset, .unset, .unset] [])) target := by
    have sg73 : SG p.tables e below (T65.setTop (mkF m 95 #[It p1, It p2, It p3, It u1, It u3, It u5, It u7, It u9, Rf b11, .unset, .unset, .unset] [(.int (5 : Int32)), (.int u5)])) (T65.setTop (mkF m 92 #[It p1, It p2, It p3, It u1, It u3, It u5, It u7, It u9, Rf b11, .unset, .unset, .unset] [])) := by
      intro target kt
      show Steps _ _ _ (T65.setTop (mkF m 92 #[It p1, It p2, It p3, It u1, It u3, It u5, It u7, It u9, Rf b11, .unset, .unset, .unset] [])) _
      refine XS.iload X65.here hx rfl (hb hby at_92) rfl ?_
      refine XS.iconst X65.here hx rfl (hb hby at_94) ?_
      exact kt
    by_cases hc74 : u5 < (5 : Int32)
    · have sg75 : SG p.tables e below (T65.setTop (mkF m 104 #[It p1, It p2, It p3, It u1, It u3, It u5, It u7, It u9, Rf b11, .unset, .unset, .unset] [])) (T65.setTop (mkF m 95 #[It p1, It p2, It p3, It u1, It u3, It u5, It u7, It u9, Rf b11, .unset, .unset, .unset] [(.int (5 : Int32)), (.int u5)])) := by
        intro target kt
        show Steps _ _ _ (T65.setTop (mkF m 95 #[It p1, It p2, It p3, It u1, It u3, It u5, It u7, It u9, Rf b11, .unset, .unset, .unset] [(.int (5 : Int32)), (.int u5)])) _
        refine XS.icmpYes X65.here hx rfl (pc0 := 95) (pc' := 104) rfl (hb hby at_95) rfl (tlt hc74).1 (by decide) (by decide) ?_
        exact kt
      exact ⟨T65, _, h65, vm65, _, dv65, X65.mono (by decide) (by decide), e65, N65, O65, (Keep.refl h65 [b11]), KK65, Y65, Yk65, hZ65, hown65, CR_65, (CHr.refl CR_65.1), FD65, FT65, (if_pos hc74).symm, fun target kt => sg73 _ (sg75 _ (kt))⟩
    · obtain ⟨cq76, kq76, q76a, q76b, q76c⟩ := isOf hZ65 e65 (((((A11.keep K14q).keep K23).keep K37).keep K51).keep K65)
      obtain ⟨_, _, ⟨T76, L76, k76, n76⟩, -, X76, ⟨Lc76, hQ76, l76, y76, z76⟩, st76⟩ := X65.virtualBack hx (y := m_12) (z := m_12) hown65 (mvT hZ65 (tw hw 31 rfl)) (mvT hZ65 (tw hw 32 rfl)) (notFace_of_selects (args := #[]) (mvT hZ65 (tw hw 34 rfl))) (mvT hZ65 (tw hw 34 rfl)) (mvT hZ65 (tw hw 33 rfl)) (by decide) (backOf (W := 0) (rm5 l Z a0 hw [] b11 dv65 sb_14 h65 n0 O65 (((((A11.keep K14q).keep K23).keep K37).keep K51).keep K65) FD65 FT65 ge_b11) hZ65 (tw hw 35 rfl) (tw hw 2 rfl) (by decide) (by decide)) q76a q76c (g := (mkF m 100 #[It p1, It p2, It p3, It u1, It u3, It u5, It u7, It u9, Rf b11, .unset, .unset, .unset] [(.ref b11)])) rfl (by rw [hml]; rfl) (Steps.refl _) (argsL := []) (rest := []) (lenOf pd_27 rfl) rfl (w0 rfl) (hb hby at_100) (fun _ _ => ⟨rfl, e65, (by decide : 3 + 0 ≤ _), (by decide : 22 + 0 ≤ _)⟩)
      dsimp only [Pt.U, Pt.locs, Pt.cells, Pt.slots] at X76 l76 y76 z76 st76 hQ76
      subst l76 y76 z76
      obtain ⟨rfl, N76q, K76q, O76, f76_0, f76_1⟩ := hQ76
      have N76 := Fr.app N65 N76q
      have CR77 := CR_65.trans (CHr.keep K76q (allS (Safe.exa hZ65.alike (((((A11.keep K14q).keep K23).keep K37).keep K51).keep K65) (by decide) (by decide)) all0) CR_65.1)
      have K76 := KK65.trans K76q (allS (Or.inr sz_b11) all0)
      have sg78 : SG p.tables e below (T76.setTop (mkF m 104 #[It p1, It p2, It p3, It u1, It u3, It u5, It u7, It u9, Rf b11, .unset, .unset, .unset] [])) (T65.setTop (mkF m 95 #[It p1, It p2, It p3, It u1, It u3, It u5, It u7, It u9, Rf b11, .unset, .unset, .unset] [(.int (5 : Int32)), (.int u5)])) := by
        intro target kt
        show Steps _ _ _ (T65.setTop (mkF m 95 #[It p1, It p2, It p3, It u1, It u3, It u5, It u7, It u9, Rf b11, .unset, .unset, .unset] [(.int (5 : Int32)), (.int u5)])) _
        refine XS.icmpNo X65.here hx rfl (hb hby at_95) rfl (flt hc74).1 ?_
        refine XS.aload X65.here hx rfl (hb hby at_98) rfl rfl ?_
        refine st76.trans ?_
        refine XS.pop X76.here hx rfl (hb hby at_103) rfl rfl ?_
        exact kt
      exact ⟨T76, _, T76.heap, vm65, _, (dv65 + (1 : Int32)), X76.mono (by decide) (by decide), rfl, N76, O76, ((Keep.refl h65 [b11]).trans K76q (allS (Or.inl (List.mem_of_getElem? (i := 0) rfl)) all0)), K76, Y65, (Nat.le_trans Yk65 K76q.1), hZ65, hown65, CR77, ((CHr.refl CR_65.1).trans (CHr.keep K76q (allS (Safe.exa hZ65.alike (((((A11.keep K14q).keep K23).keep K37).keep K51).keep K65) (by decide) (by decide)) all0) CR_65.1)), f76_0, f76_1, (if_neg hc74).symm, fun target kt => sg73 _ (sg78 _ (kt))⟩
  have Rn80 := (CQ79.safe Rn68.lt Rn66)
  have Rn81 := (CQ79.safe Rn69.lt Rn67)
  have Rn82 := (Rn68.keep K79 (ninS (Ne.symm (Nat.ne_of_lt (Nat.lt_of_lt_of_le A11.lt f14_10))) nin0))
  have Rn83 := (Rn69.keep K79)
  have Rn84 := (Rn70.keep K79 (ninS (Ne.symm (Nat.ne_of_lt (Nat.lt_of_lt_of_le A11.lt f14_8))) nin0))
  have Rn85 := (Rn71.keep K79 (ninS (Ne.symm (Nat.ne_of_lt (Nat.lt_of_lt_of_le A11.lt f14_8))) nin0))
  have Rn86 := (Rn72.keep K79 (ninS (Ne.symm (Nat.ne_of_lt (Nat.lt_of_lt_of_le A11.lt f14_8))) nin0))
  obtain ⟨cq87, kq87, q87a, q87b, q87c⟩ := isOf hZ79 e79 ((((((A11.keep K14q).keep K23).keep K37).keep K51).keep K65).keep K79)
  obtain ⟨_, _, ⟨T87, L87, k87, n87⟩, -, X87, ⟨Lc87, hQ87, l87, y87, z87⟩, st87⟩ := X79.virtualBack hx (y := m_13) (z := m_13) hown79 (mvT hZ79 (tw hw 38 rfl)) (mvT hZ79 (tw hw 39 rfl)) (notFace_of_selects (args := #[]) (mvT hZ79 (tw hw 41 rfl))) (mvT hZ79 (tw hw 41 rfl)) (mvT hZ79 (tw hw 40 rfl)) (by decide) (backOf (W := 0) (rm6 l Z a0 hw [] b11 dv79 sb_14 h79 n0 O79 ((((((A11.keep K14q).keep K23).keep K37).keep K51).keep K65).keep K79) FD79 FT79 ge_b11) hZ79 (tw hw 42 rfl) (tw hw 2 rfl) (by decide) (by decide)) q87a q87c (g := (mkF m 106 #[It p1, It p2, It p3, It u1, It u3, It u5, It u7, It u9, Rf b11, .unset, .unset, .unset] [(.ref b11)])) rfl (by rw [hml]; rfl) (Steps.refl _) (argsL := []) (rest := []) (lenOf pd_27 rfl) rfl (w0 rfl) (hb hby at_106) (fun _ _ => ⟨rfl, e79, (by decide : 3 + 0 ≤ _), (by decide : 22 + 0 ≤ _)⟩)
  dsimp only [Pt.U, Pt.locs, Pt.cells, Pt.slots] at X87 l87 y87 z87 st87 hQ87
  subst l87 y87 z87
  obtain ⟨rfl, N87q, K87q, O87, f87_0, f87_1⟩ := hQ87
  have N87 := Fr.app N79 N87q
  have CR88 := CR_79.trans (CHr.keep K87q (allS (Safe.exa hZ79.alike ((((((A11.keep K14q).keep K23).keep K37).keep K51).keep K65).keep K79) (by decide) (by decide)) all0) CR_79.1)
  have K87 := KK79.trans K87q (allS (Or.inr sz_b11) all0)
  have sg89 : SG p.tables e below (T87.setTop (mkF m 121 #[It p1, It p2, It p3, It u1, It u3, It u5, It u7, It u9, Rf b11, It (1 : Int32), .unset, .unset] [])) (T79.setTop (mkF m 104 #[It p1, It p2, It p3, It u1, It u3, It u5, It u7, It u9, Rf b11, .unset, .unset, .unset] [])) := by
    intro target kt
    show Steps _ _ _ (T79.setTop (mkF m 104 #[It p1, It p2, It p3, It u1, It u3, It u5, It u7, It u9, Rf b11, .unset, .unset, .unset] [])) _
    refine XS.aload X79.here hx rfl (hb hby at_104) rfl rfl ?_
    refine st87.trans ?_
    refine XS.aload X87.here hx rfl (hb hby at_109) rfl rfl ?_
    refine Jvm.RoadKit.acmp (g := (mkF m 111 #[It p1, It p2, It p3, It u1, It u3, It u5, It u7, It u9, Rf b11, .unset, .unset, .unset] [(.ref b11), (.ref b11)])) X87 hx rfl rfl rfl (pc0 := 111) (pc' := 114) (same := true) rfl (hb hby at_111) rfl (decide_eq_true rfl) (by decide) (by decide) ?_
    refine XS.iconst X87.here hx rfl (hb hby at_114) ?_
    refine XS.goto X87.here hx rfl (pc0 := 115) (pc' := 119) rfl (hb hby at_115) (by decide) (by decide) ?_
    refine XS.istore X87.here hx rfl (hb hby at_119) rfl (l' := #[It p1, It p2, It p3, It u1, It u3, It u5, It u7, It u9, Rf b11, It (1 : Int32), .unset, .unset]) rfl ?_
    exact kt
  obtain ⟨T96, L96, h96, vm96, kk96, dv96, X96, e96, N96, O96, K96, KK96, Y96, Yk96, hZ96, hown96, CR_96, CQ96, FD96, FT96, ed96, sg96⟩ : ∃ (T' : State) (L' : List Loc) (h' : Heap) (vm' : Vm) (k' : Nat) (dv96 : Int32), Stand p l e room_1 (s.setVm vm') m #[(.int p1), (.int p2), (.int p3)] below meth c T' L' 3 22 ∧ T'.heap = h' ∧ Fr n0 L' ∧ Old Z n0 h' ∧ Keep T87.heap h' [b11] ∧ Keep h0 h' [] ∧ s.Since vm' k' ∧ k' ≤ h'.size ∧ Z.Warmed39 (s.setVm vm').vm ∧ (s.setVm vm').vm.findClass "com/example/tetrad/tetrad/generate/SourceTextDedentPinLaw" = some m.cls ∧ CHr Z own_EL s.vm h0 vm' h' ∧ CHr Z own_EL vm79 T87.heap vm' h' ∧ Fld Z h' b11 "com/example/tetrad/tetrad/generate/SourceText" "depth" "I" (.int dv96) ∧ Fld Z h' b11 "com/example/tetrad/tetrad/generate/SourceText" "text" "Ljava/lang/StringBuilder;" (.ref sb_14) ∧ dv96 = (if u3 = (2 : Int32) then ((dv79 - (1 : Int32)) - (1 : Int32)) else (dv79 - (1 : Int32))) ∧ ∀ target, Steps p.tables e below (T'.setTop (mkF m 149 #[It p1, It p2, It p3, It u1, It u3, It u5, It u7, It u9, Rf b11, It (1 : Int32), .unset, .unset] [])) target → Steps p.tables e below (T87.setTop (mkF m 121 #[It p1, It p2, It p3, It u1, It u3, It u5, It u7, It u9, Rf b11, It (1 : Int32), .unset, .unset] [])) target := by
    have sg90 : SG p.tables e below (T87.setTop (mkF m 124 #[It p1, It p2, It p3, It u1, It u3, It u5, It u7, It u9, Rf b11, It (1 : Int32), .unset, .unset] [(.int (2 : Int32)), (.int u3)])) (T87.setTop (mkF m 121 #[It p1, It p2, It p3, It u1, It u3, It u5, It u7, It u9, Rf b11, It (1 : Int32), .unset, .unset] [])) := by
      intro target kt
      show Steps _ _ _ (T87.setTop (mkF m 121 #[It p1, It p2, It p3, It u1, It u3, It u5, It u7, It u9, Rf b11, It (1 : Int32), .unset, .unset] [])) _
      refine XS.iload X87.here hx rfl (hb hby at_121) rfl ?_
      refine XS.iconst X87.here hx rfl (hb hby at_123) ?_
      exact kt
    by_cases hc91 : u3 = (2 : Int32)
    · obtain ⟨cq92, kq92, q92a, q92b, q92c⟩ := isOf hZ79 rfl (((((((A11.keep K14q).keep K23).keep K37).keep K51).keep K65).keep K79).keep K87q)
      obtain ⟨_, _, ⟨T92, L92, k92, n92⟩, -, X92, ⟨Lc92, hQ92, l92, y92, z92⟩, st92⟩ := X87.virtualBack hx (y := m_13) (z := m_13) hown79 (mvT hZ79 (tw hw 38 rfl)) (mvT hZ79 (tw hw 39 rfl)) (notFace_of_selects (args := #[]) (mvT hZ79 (tw hw 41 rfl))) (mvT hZ79 (tw hw 41 rfl)) (mvT hZ79 (tw hw 40 rfl)) (by decide) (backOf (W := 0) (rm6 l Z a0 hw [] b11 (dv79 - (1 : Int32)) sb_14 T87.heap n0 O87 (((((((A11.keep K14q).keep K23).keep K37).keep K51).keep K65).keep K79).keep K87q) f87_0 f87_1 ge_b11) hZ79 (tw hw 42 rfl) (tw hw 2 rfl) (by decide) (by decide)) q92a q92c (g := (mkF m 134 #[It p1, It p2, It p3, It u1, It u3, It u5, It u7, It u9, Rf b11, It (1 : Int32), .unset, .unset] [(.ref b11)])) rfl (by rw [hml]; rfl) (Steps.refl _) (argsL := []) (rest := []) (lenOf pd_27 rfl) rfl (w0 rfl) (hb hby at_134) (fun _ _ => ⟨rfl, rfl, (by decide : 3 + 0 ≤ _), (by decide : 22 + 0 ≤ _)⟩)
      dsimp only [Pt.U, Pt.locs, Pt.cells, Pt.slots] at X92 l92 y92 z92 st92 hQ92
      subst l92 y92 z92
      obtain ⟨rfl, N92q, K92q, O92, f92_0, f92_1⟩ := hQ92
      have N92 := Fr.app N87 N92q
      have CR93 := CR88.trans (CHr.keep K92q (allS (Safe.exa hZ79.alike (((((((A11.keep K14q).keep K23).keep K37).keep K51).keep K65).keep K79).keep K87q) (by decide) (by decide)) all0) CR88.1)
      have K92 := K87.trans K92q (allS (Or.inr sz_b11) all0)
      have sg94 : SG p.tables e below (T92.setTop (mkF m 149 #[It p1, It p2, It p3, It u1, It u3, It u5, It u7, It u9, Rf b11, It (1 : Int32), .unset, .unset] [])) (T87.setTop (mkF m 124 #[It p1, It p2, It p3, It u1, It u3, It u5, It u7, It u9, Rf b11, It (1 : Int32), .unset, .unset] [(.int (2 : Int32)), (.int u3)])) := by
        intro target kt
        show Steps _ _ _ (T87.setTop (mkF m 124 #[It p1, It p2, It p3, It u1, It u3, It u5, It u7, It u9, Rf b11, It (1 : Int32), .unset, .unset] [(.int (2 : Int32)), (.int u3)])) _
        refine XS.icmpNo X87.here hx rfl (hb hby at_124) rfl (teq hc91).2 ?_
        refine XS.iload X87.here hx rfl (hb hby at_127) rfl ?_
        refine XS.ifNo X87.here hx rfl (hb hby at_129) rfl ((if0 _ _).trans (feq (by decide : ¬ ((1 : Int32) = (0 : Int32)))).1) ?_
        refine XS.aload X87.here hx rfl (hb hby at_132) rfl rfl ?_
        refine st92.trans ?_
        refine XS.aload X92.here hx rfl (hb hby at_137) rfl rfl ?_
        refine Jvm.RoadKit.acmp (g := (mkF m 139 #[It p1, It p2, It p3, It u1, It u3, It u5, It u7, It u9, Rf b11, It (1 : Int32), .unset, .unset] [(.ref b11), (.ref b11)])) X92 hx rfl rfl rfl (pc0 := 139) (pc' := 142) (same := true) rfl (hb hby at_139) rfl (decide_eq_true rfl) (by decide) (by decide) ?_
        refine XS.iconst X92.here hx rfl (hb hby at_142) ?_
        refine XS.goto X92.here hx rfl (pc0 := 143) (pc' := 147) rfl (hb hby at_143) (by decide) (by decide) ?_
        refine XS.istore X92.here hx rfl (hb hby at_147) rfl (l' := #[It p1, It p2, It p3, It u1, It u3, It u5, It u7, It u9, Rf b11, It (1 : Int32), .unset, .unset]) rfl ?_
        exact kt
      exact ⟨T92, _, T92.heap, vm79, _, ((dv79 - (1 : Int32)) - (1 : Int32)), X92.mono (by decide) (by decide), rfl, N92, O92, ((Keep.refl T87.heap [b11]).trans K92q (allS (Or.inl (List.mem_of_getElem? (i := 0) rfl)) all0)), K92, Y79, (Nat.le_trans (Nat.le_trans Yk79 K87q.1) K92q.1), hZ79, hown79, CR93, ((CHr.refl CR88.1).trans (CHr.keep K92q (allS (Safe.exa hZ79.alike (((((((A11.keep K14q).keep K23).keep K37).keep K51).keep K65).keep K79).keep K87q) (by decide) (by decide)) all0) CR88.1)), f92_0, f92_1, (if_pos hc91).symm, fun target kt => sg90 _ (sg94 _ (kt))⟩
    · have sg95 : SG p.tables e below (T87.setTop (mkF m 149 #[It p1, It p2, It p3, It u1, It u3, It u5, It u7, It u9, Rf b11, It (1 : Int32), .unset, .unset] [])) (T87.setTop (mkF m 124 #[It p1, It p2, It p3, It u1, It u3, It u5, It u7, It u9, Rf b11, It (1 : Int32), .unset, .unset] [(.int (2 : Int32)), (.int u3)])) := by
        intro target kt
        show Steps _ _ _ (T87.setTop (mkF m 124 #[It p1, It p2, It p3, It u1, It u3, It u5, It u7, It u9, Rf b11, It (1 : Int32), .unset, .unset] [(.int (2 : Int32)), (.int u3)])) _
        refine XS.icmpYes X87.here hx rfl (pc0 := 124) (pc' := 149) rfl (hb hby at_124) rfl (feq hc91).2 (by decide) (by decide) ?_
        exact kt
      exact ⟨T87, _, T87.heap, vm79, _, (dv79 - (1 : Int32)), X87.mono (by decide) (by decide), rfl, N87, O87, (Keep.refl T87.heap [b11]), K87, Y79, (Nat.le_trans Yk79 K87q.1), hZ79, hown79, CR88, (CHr.refl CR88.1), f87_0, f87_1, (if_neg hc91).symm, fun target kt => sg90 _ (sg95 _ (kt))⟩
  have Rn97 := (CQ96.safe (Rn82.keep K87q (ninS (Ne.symm (Nat.ne_of_lt (Nat.lt_of_lt_of_le A11.lt f14_10))) nin0)).lt (Safe.keep K87q (allS (Safe.exa hZ79.alike ((((((A11.keep K14q).keep K23).keep K37).keep K51).keep K65).keep K79) (by decide) (by decide)) all0) CR_79.1 Rn80))
  have Rn98 := (CQ96.safe (Rn83.keep K87q).lt (Safe.keep K87q (allS (Safe.exa hZ79.alike ((((((A11.keep K14q).keep K23).keep K37).keep K51).keep K65).keep K79) (by decide) (by decide)) all0) CR_79.1 Rn81))
  have Rn99 := ((Rn82.keep K87q (ninS (Ne.symm (Nat.ne_of_lt (Nat.lt_of_lt_of_le A11.lt f14_10))) nin0)).keep K96 (ninS (Ne.symm (Nat.ne_of_lt (Nat.lt_of_lt_of_le A11.lt f14_10))) nin0))
  have Rn100 := ((Rn83.keep K87q).keep K96)
  have Rn101 := ((Rn84.keep K87q (ninS (Ne.symm (Nat.ne_of_lt (Nat.lt_of_lt_of_le A11.lt f14_8))) nin0)).keep K96 (ninS (Ne.symm (Nat.ne_of_lt (Nat.lt_of_lt_of_le A11.lt f14_8))) nin0))
  have Rn102 := ((Rn85.keep K87q (ninS (Ne.symm (Nat.ne_of_lt (Nat.lt_of_lt_of_le A11.lt f14_8))) nin0)).keep K96 (ninS (Ne.symm (Nat.ne_of_lt (Nat.lt_of_lt_of_le A11.lt f14_8))) nin0))
  have Rn103 := ((Rn86.keep K87q (ninS (Ne.symm (Nat.ne_of_lt (Nat.lt_of_lt_of_le A11.lt f14_8))) nin0)).keep K96 (ninS (Ne.symm (Nat.ne_of_lt (Nat.lt_of_lt_of_le A11.lt f14_8))) nin0))
  have hdep : dv96 = u1 := own_dep hu1 hu3 hu5 ed23 ed37 ed51 ed65 ed79 ed96
  have FDz := own_fi hdep FD96
  obtain ⟨T104, h104, X104, e104, E104, A104, D104, -, st104⟩ := newO X96 hx hZ96 hown96 (tw hw 43 rfl) (tw hw 44 rfl) (tw hw 23 rfl) e96 (g := (mkF m 151 #[It p1, It p2, It p3, It u1, It u3, It u5, It u7, It u9, Rf b11, It (1 : Int32), .unset, .unset] [(.ref b11)])) rfl (hb hby at_151) (by decide) (by decide)
  obtain ⟨b104, g104⟩ : ∃ z, z = h96.size := ⟨_, rfl⟩
  rw [← g104] at A104 D104 st104
  have ge_b104 : n0 ≤ b104 := Nat.le_trans (own_osz O96) (Nat.le_of_eq g104.symm)
  have sz_b104 : h0.size ≤ b104 := Nat.le_trans KK96.1 (Nat.le_of_eq g104.symm)
  have O105 := O96.ext E104
  have K104 := KK96.ext E104
  have CR106 := CR_96.trans (CHr.ext E104 CR_96.1)
  have F_coder_b104 : Fld Z h104 b104 "java/lang/String" "coder" "B" (.int (0 : Int32)) := D104 (Or.inr (tw hw 66 rfl)) (ty := .byte) (by decide)
  have F_value_b104 : Fld Z h104 b104 "java/lang/String" "value" "[B" .null := D104 (Or.inr (tw hw 68 rfl)) (ty := (.array .byte)) (by decide)
  obtain ⟨T107, h107, k107, X107, e107, E107, A107, st107⟩ := newP X104 hx hZ96 (tw hw 45 rfl) e104 (g := (mkF m 156 #[It p1, It p2, It p3, It u1, It u3, It u5, It u7, It u9, Rf b11, It (1 : Int32), .unset, .unset] [(.int (2 : Int32)), (.ref b104), (.ref b104), (.ref b11)])) rfl (hb hby at_156) rfl (by decide) (cap := 2) (by decide) (by decide) (by decide) (by decide)
  obtain ⟨b107, g107⟩ : ∃ z, z = h104.size := ⟨_, rfl⟩
  rw [← g107] at A107 st107
  have ge_b107 : n0 ≤ b107 := Nat.le_trans (own_osz O105) (Nat.le_of_eq g107.symm)
  have sz_b107 : h0.size ≤ b107 := Nat.le_trans K104.1 (Nat.le_of_eq g107.symm)
  have O108 := O105.ext E107
  have K107 := K104.ext E107
  have CR109 := CR106.trans (CHr.ext E107 CR106.1)
  have V_b107 : Arv Z h107 b107 k107 .char (2 : Int32) [(.int (0 : Int32)), (.int (0 : Int32))] (.int (0 : Int32)) := (Arv.new A107 (by decide)).pad (pad_rep [] (.int (0 : Int32)) 2)
  obtain ⟨cl110, Ar110, q110, Sz110, Nn110, Hh110, Gg110⟩ := id V_b107
  have hin110 : ¬ ((0 : Int32) < 0 ∨ cl110.slots.size ≤ ((0 : Int32)).toNatClampNeg) := inb_of Sz110 ⟨by decide, by decide⟩
  obtain ⟨T111, h111, X111, e111, W111, st111⟩ := stC X107 hx hZ96 e107 Ar110 (j := (0 : Int32)) hin110 (g := (mkF m 162 #[It p1, It p2, It p3, It u1, It u3, It u5, It u7, It u9, Rf b11, It (1 : Int32), .unset, .unset] [(.int u7), (.int (0 : Int32)), (.ref b107), (.ref b107), (.ref b104), (.ref b104), (.ref b11)])) rfl rfl (hb hby at_162)
  have V111 : Arv Z h111 b107 k107 .char (2 : Int32) [(.int (nar .char u7)), (.int (0 : Int32))] (.int (0 : Int32)) := Arv.set Ar110 q110 Sz110 Nn110 Hh110 Gg110 (fits_nar_char _) W111 0 rfl (Nat.le_of_ble_eq_true rfl)
  have N111 := Fr.snoc X111 N96 ge_b107
  have O112 := O108.wr W111 ge_b107
  have K111 := K107.wr W111 (Or.inr sz_b107)
  have CR113 := CR109.trans (CHr.wr W111 (own_safearr hZ96.alike V_b107 (by decide)) CR109.1)
  obtain ⟨cl114, Ar114, q114, Sz114, Nn114, Hh114, Gg114⟩ := id V111
  have hin114 : ¬ ((1 : Int32) < 0 ∨ cl114.slots.size ≤ ((1 : Int32)).toNatClampNeg) := inb_of Sz114 ⟨by decide, by decide⟩
  obtain ⟨T115, h115, X115, e115, W115, st115⟩ := stC X111 hx hZ96 e111 Ar114 (j := (1 : Int32)) hin114 (g := (mkF m 167 #[It p1, It p2, It p3, It u1, It u3, It u5, It u7, It u9, Rf b11, It (1 : Int32), .unset, .unset] [(.int u9), (.int (1 : Int32)), (.ref b107), (.ref b107), (.ref b104), (.ref b104), (.ref b11)])) rfl rfl (hb hby at_167)
  have V115 : Arv Z h115 b107 k107 .char (2 : Int32) [(.int (nar .char u7)), (.int (nar .char u9))] (.int (0 : Int32)) := Arv.set Ar114 q114 Sz114 Nn114 Hh114 Gg114 (fits_nar_char _) W115 1 rfl (Nat.le_of_ble_eq_true rfl)
  have N115 := Fr.snoc X115 N111 ge_b107
  have O116 := O112.wr W115 ge_b107
  have K115 := K111.wr W115 (Or.inr sz_b107)
  have CR117 := CR113.trans (CHr.wr W115 (own_safearr hZ96.alike V111 (by decide)) CR113.1)
  have lat118 : Lat ([(nar .char u7), (nar .char u9)] : List Int32) := own_lat2 rg_u7 rg_u9
  obtain ⟨vv118, _, ⟨T118, L118, k118, n118⟩, -, X118, ⟨Lc118, hQ118, l118, y118, z118⟩, st118⟩ := X115.specialBack hx (y := m_40) rfl hown96 (mvT hZ96 (tw hw 46 rfl)) (mvT hZ96 (tw hw 47 rfl)) (mvT hZ96 (tw hw 48 rfl)) (by decide) (StrChars.Road.backV (W := 2) hZ96 (own_wn hw) (kI := 4) (tw hw 44 rfl) (cs := ([(nar .char u7), (nar .char u9)] : List Int32)) (bs := (([(nar .char u7), (nar .char u9)] : List Int32)).map StrChars.lo8) (n := 2) ge_b104 (own_osz O116) (((A104.ext E107).wr W111).wr W115) (((F_value_b104.ext E107).other W111 (Or.inl (Nat.ne_of_lt (Nat.lt_of_lt_of_le A104.lt (Nat.le_of_eq g107.symm))))).other W115 (Or.inl (Nat.ne_of_lt (Nat.lt_of_lt_of_le A104.lt (Nat.le_of_eq g107.symm))))) (((F_coder_b104.ext E107).other W111 (Or.inl (Nat.ne_of_lt (Nat.lt_of_lt_of_le A104.lt (Nat.le_of_eq g107.symm))))).other W115 (Or.inl (Nat.ne_of_lt (Nat.lt_of_lt_of_le A104.lt (Nat.le_of_eq g107.symm))))) V115 (sC.ext O116.2) hCS rfl rfl (by decide) (by decide) lat118.1 rfl (by decide) (by decide)) (g := (mkF m 168 #[It p1, It p2, It p3, It u1, It u3, It u5, It u7, It u9, Rf b11, It (1 : Int32), .unset, .unset] [(.ref b107), (.ref b104), (.ref b104), (.ref b11)])) rfl (by rw [hml]; rfl) (Steps.refl _) (a := b104) (argsL := [(.ref b107)]) (rest := [(.ref b104), (.ref b11)]) (lenOf pd_28 rfl) rfl (w0 rfl) (hb hby at_168) (fun _ _ => ⟨rfl, e115, (by decide : 5 + 1 ≤ _), (by decide : 28 + 2 ≤ _)⟩)
  dsimp only [Pt.U, Pt.locs, Pt.cells, Pt.slots] at X118 l118 y118 z118 st118 hQ118
  subst l118 y118 z118
  obtain ⟨rfl, N118q, K118q, A118, Fc118, t118, kb118, gt118, bt118, nt118, Fv118, Va118⟩ := hQ118
  have N118 := Fr.app N115 N118q
  have V118 : Arv Z T118.heap t118 kb118 .byte (Int32.ofNat (([(nar .char u7), (nar .char u9)] : List Int32)).length) (strV ([(nar .char u7), (nar .char u9)] : List Int32)) (.int 0) := Va118
  have sz_t118 : h0.size ≤ t118 := Nat.le_trans K115.1 bt118
  have CR119 := CR117.trans (CHr.keep K118q (allS (Safe.wr W115 (own_safearr hZ96.alike V111 (by decide)) CR113.1 (Safe.wr W111 (own_safearr hZ96.alike V_b107 (by decide)) CR109.1 (Safe.ext E107 CR106.1 (Safe.ext E104 CR_96.1 (Safe.new (Nat.le_of_eq g104.symm)))))) all0) CR117.1)
  have Sf118_b104 := (Safe.keep K118q (allS (Safe.wr W115 (own_safearr hZ96.alike V111 (by decide)) CR113.1 (Safe.wr W111 (own_safearr hZ96.alike V_b107 (by decide)) CR109.1 (Safe.ext E107 CR106.1 (Safe.ext E104 CR_96.1 (Safe.new (Nat.le_of_eq g104.symm)))))) all0) CR117.1 (Safe.wr W115 (own_safearr hZ96.alike V111 (by decide)) CR113.1 (Safe.wr W111 (own_safearr hZ96.alike V_b107 (by decide)) CR109.1 (Safe.ext E107 CR106.1 (Safe.ext E104 CR_96.1 (Safe.new (Nat.le_of_eq g104.symm)))))))
  have O118 := O116.keep K118q (allS ge_b104 all0)
  have K118 := K115.trans K118q (allS (Or.inr sz_b104) all0)
  have sg120 : SG p.tables e below (T118.setTop (mkF m 171 #[It p1, It p2, It p3, It u1, It u3, It u5, It u7, It u9, Rf b11, It (1 : Int32), .unset, .unset] [(.ref b104), (.ref b11)])) (T96.setTop (mkF m 149 #[It p1, It p2, It p3, It u1, It u3, It u5, It u7, It u9, Rf b11, It (1 : Int32), .unset, .unset] [])) := by
    intro target kt
    show Steps _ _ _ (T96.setTop (mkF m 149 #[It p1, It p2, It p3, It u1, It u3, It u5, It u7, It u9, Rf b11, It (1 : Int32), .unset, .unset] [])) _
    refine XS.aload X96.here hx rfl (hb hby at_149) rfl rfl ?_
    refine st104 _ ?_
    refine XS.dup X104.here hx rfl (hb hby at_154) rfl rfl ?_
    refine XS.iconst X104.here hx rfl (hb hby at_155) ?_
    refine st107 _ ?_
    refine XS.dup X107.here hx rfl (hb hby at_158) rfl rfl ?_
    refine XS.iconst X107.here hx rfl (hb hby at_159) ?_
    refine XS.iload X107.here hx rfl (hb hby at_160) rfl ?_
    refine st111 _ ?_
    refine XS.dup X111.here hx rfl (hb hby at_163) rfl rfl ?_
    refine XS.iconst X111.here hx rfl (hb hby at_164) ?_
    refine XS.iload X111.here hx rfl (hb hby at_165) rfl ?_
    refine st115 _ ?_
    refine st118.trans ?_
    exact kt
  by_cases hc121 : u1 = (0 : Int32)
  · subst hc121
    have VL122 : Arv Z T118.heap t118 kb118 .byte (2 : Int32) [.int (StrChars.lo8 (nar .char u7)), .int (StrChars.lo8 (nar .char u9))] (.int (0 : Int32)) := V118
    obtain ⟨cq123, kq123, q123a, q123b, q123c⟩ := isOf hZ96 rfl (((((((((((((A11.keep K14q).keep K23).keep K37).keep K51).keep K65).keep K79).keep K87q).keep K96).ext E104).ext E107).wr W111).wr W115).keep K118q)
    obtain ⟨_, _, ⟨T123, L123, k123, n123⟩, -, X123, Y123, G123, ⟨Lc123, hQ123, l123, y123, z123, C123⟩, st123⟩ := X118.virtualBackS hx (y := m_33) (z := m_33) hown96 (mvT hZ96 (tw hw 69 rfl)) (mvT hZ96 (tw hw 70 rfl)) (notFace_of_selects (args := #[]) (mvT hZ96 (tw hw 72 rfl))) (mvT hZ96 (tw hw 72 rfl)) (mvT hZ96 (tw hw 71 rfl)) (by decide) (own_backSH (W := 0) (rm12_02 l Z a0 hw [] b11 b104 sb_14 ro_14 t118 ([.int (StrChars.lo8 (nar .char u7)), .int (StrChars.lo8 (nar .char u9))]) zC ko_14 kb118 T118.heap n0 O118 sC (((((((((((((A11.keep K14q).keep K23).keep K37).keep K51).keep K65).keep K79).keep K87q).keep K96).ext E104).ext E107).wr W111).wr W115).keep K118q) (((((FT96.ext E104).ext E107).other W111 (Or.inl (Nat.ne_of_lt (Nat.lt_of_lt_of_le (((((((((A11.keep K14q).keep K23).keep K37).keep K51).keep K65).keep K79).keep K87q).keep K96).ext E104).lt (Nat.le_of_eq g107.symm))))).other W115 (Or.inl (Nat.ne_of_lt (Nat.lt_of_lt_of_le (((((((((A11.keep K14q).keep K23).keep K37).keep K51).keep K65).keep K79).keep K87q).keep K96).ext E104).lt (Nat.le_of_eq g107.symm))))).keep K118q (ninS (Nat.ne_of_lt (Nat.lt_of_lt_of_le ((((((((A11.keep K14q).keep K23).keep K37).keep K51).keep K65).keep K79).keep K87q).keep K96).lt (Nat.le_of_eq g104.symm))) nin0)) (((((FDz.ext E104).ext E107).other W111 (Or.inl (Nat.ne_of_lt (Nat.lt_of_lt_of_le (((((((((A11.keep K14q).keep K23).keep K37).keep K51).keep K65).keep K79).keep K87q).keep K96).ext E104).lt (Nat.le_of_eq g107.symm))))).other W115 (Or.inl (Nat.ne_of_lt (Nat.lt_of_lt_of_le (((((((((A11.keep K14q).keep K23).keep K37).keep K51).keep K65).keep K79).keep K87q).keep K96).ext E104).lt (Nat.le_of_eq g107.symm))))).keep K118q (ninS (Nat.ne_of_lt (Nat.lt_of_lt_of_le ((((((((A11.keep K14q).keep K23).keep K37).keep K51).keep K65).keep K79).keep K87q).keep K96).lt (Nat.le_of_eq g104.symm))) nin0)) (((((Rn100.ext E104).ext E107).wr W111).wr W115).keep K118q) (((((Rn103.ext E104).ext E107).other W111 (Or.inl (Nat.ne_of_lt (Nat.lt_of_lt_of_le (Rn100.ext E104).lt (Nat.le_of_eq g107.symm))))).other W115 (Or.inl (Nat.ne_of_lt (Nat.lt_of_lt_of_le (Rn100.ext E104).lt (Nat.le_of_eq g107.symm))))).keep K118q (ninS (Nat.ne_of_lt (Nat.lt_of_lt_of_le Rn100.lt (Nat.le_of_eq g104.symm))) nin0)) (((((Rn101.ext E104).ext E107).other W111 (Or.inl (Nat.ne_of_lt (Nat.lt_of_lt_of_le (Rn100.ext E104).lt (Nat.le_of_eq g107.symm))))).other W115 (Or.inl (Nat.ne_of_lt (Nat.lt_of_lt_of_le (Rn100.ext E104).lt (Nat.le_of_eq g107.symm))))).keep K118q (ninS (Nat.ne_of_lt (Nat.lt_of_lt_of_le Rn100.lt (Nat.le_of_eq g104.symm))) nin0)) (((((Rn102.ext E104).ext E107).other W111 (Or.inl (Nat.ne_of_lt (Nat.lt_of_lt_of_le (Rn100.ext E104).lt (Nat.le_of_eq g107.symm))))).other W115 (Or.inl (Nat.ne_of_lt (Nat.lt_of_lt_of_le (Rn100.ext E104).lt (Nat.le_of_eq g107.symm))))).keep K118q (ninS (Nat.ne_of_lt (Nat.lt_of_lt_of_le Rn100.lt (Nat.le_of_eq g104.symm))) nin0)) (((((Rn99.ext E104).ext E107).other W111 (Nat.ne_of_lt (Nat.lt_of_lt_of_le (Rn99.ext E104).lt (Nat.le_of_eq g107.symm)))).other W115 (Nat.ne_of_lt (Nat.lt_of_lt_of_le (Rn99.ext E104).lt (Nat.le_of_eq g107.symm)))).keep K118q (ninS (Nat.ne_of_lt (Nat.lt_of_lt_of_le Rn99.lt (Nat.le_of_eq g104.symm))) nin0)) A118 Fc118 Fv118 VL122 f14_7 f14_9 (Ne.symm (Nat.ne_of_lt (Nat.lt_of_lt_of_le ((((Rn99.ext E104).ext E107).other W111 (Nat.ne_of_lt (Nat.lt_of_lt_of_le (Rn99.ext E104).lt (Nat.le_of_eq g107.symm)))).other W115 (Nat.ne_of_lt (Nat.lt_of_lt_of_le (Rn99.ext E104).lt (Nat.le_of_eq g107.symm)))).lt bt118))) hCS) hZ96 (tw hw 73 rfl) (tw hw 2 rfl) (by decide) (by decide) hEL CR119.1 (((((Rn99.ext E104).ext E107).other W111 (Nat.ne_of_lt (Nat.lt_of_lt_of_le (Rn99.ext E104).lt (Nat.le_of_eq g107.symm)))).other W115 (Nat.ne_of_lt (Nat.lt_of_lt_of_le (Rn99.ext E104).lt (Nat.le_of_eq g107.symm)))).keep K118q (ninS (Nat.ne_of_lt (Nat.lt_of_lt_of_le Rn99.lt (Nat.le_of_eq g104.symm))) nin0)).lt (Safe.keep K118q (allS (Safe.wr W115 (own_safearr hZ96.alike V111 (by decide)) CR113.1 (Safe.wr W111 (own_safearr hZ96.alike V_b107 (by decide)) CR109.1 (Safe.ext E107 CR106.1 (Safe.ext E104 CR_96.1 (Safe.new (Nat.le_of_eq g104.symm)))))) all0) CR117.1 (Safe.wr W115 (own_safearr hZ96.alike V111 (by decide)) CR113.1 (Safe.wr W111 (own_safearr hZ96.alike V_b107 (by decide)) CR109.1 (Safe.ext E107 CR106.1 (Safe.ext E104 CR_96.1 Rn97)))))) q123a q123c (g := (mkF m 171 #[It p1, It p2, It p3, It (0 : Int32), It u3, It u5, It u7, It u9, Rf b11, It (1 : Int32), .unset, .unset] [(.ref b104), (.ref b11)])) rfl (by rw [hml]; rfl) (Steps.refl _) (argsL := [(.ref b104)]) (rest := []) (lenOf pd_29 rfl) rfl (w0 rfl) (hb hby at_171) (fun _ _ => ⟨rfl, rfl, (by decide : 6 + 4 ≤ _), (by decide : 30 + 24 ≤ _)⟩)
    dsimp only [Pt.U, Pt.locs, Pt.cells, Pt.slots] at X123 l123 y123 z123 st123 hQ123 Y123 G123 C123
    subst l123 y123 z123
    obtain ⟨rfl, N123q, K123q, O123, f123_0, f123_1, f123_2, f123_3⟩ := hQ123
    have N123 := Fr.app N118 N123q
    obtain ⟨X123, Y123, hZ123, hown123⟩ := rebS Y96 (Nat.le_trans (Nat.le_trans (Nat.le_trans (Nat.le_trans (Nat.le_trans Yk96 E104.1) E107.1) (Keep.of_wr W111).1) (Keep.of_wr W115).1) K118q.1) X123 Y123 G123 hZ96 hown96
    have CR124 := CR119.trans (C123)
    have Sf123_sb_14 := (C123.safe (((((Rn100.ext E104).ext E107).wr W111).wr W115).keep K118q).lt (Safe.keep K118q (allS (Safe.wr W115 (own_safearr hZ96.alike V111 (by decide)) CR113.1 (Safe.wr W111 (own_safearr hZ96.alike V_b107 (by decide)) CR109.1 (Safe.ext E107 CR106.1 (Safe.ext E104 CR_96.1 (Safe.new (Nat.le_of_eq g104.symm)))))) all0) CR117.1 (Safe.wr W115 (own_safearr hZ96.alike V111 (by decide)) CR113.1 (Safe.wr W111 (own_safearr hZ96.alike V_b107 (by decide)) CR109.1 (Safe.ext E107 CR106.1 (Safe.ext E104 CR_96.1 Rn98))))))
    have Sf123_ro_14 := (C123.safe (((((Rn99.ext E104).ext E107).other W111 (Nat.ne_of_lt (Nat.lt_of_lt_of_le (Rn99.ext E104).lt (Nat.le_of_eq g107.symm)))).other W115 (Nat.ne_of_lt (Nat.lt_of_lt_of_le (Rn99.ext E104).lt (Nat.le_of_eq g107.symm)))).keep K118q (ninS (Nat.ne_of_lt (Nat.lt_of_lt_of_le Rn99.lt (Nat.le_of_eq g104.symm))) nin0)).lt (Safe.keep K118q (allS (Safe.wr W115 (own_safearr hZ96.alike V111 (by decide)) CR113.1 (Safe.wr W111 (own_safearr hZ96.alike V_b107 (by decide)) CR109.1 (Safe.ext E107 CR106.1 (Safe.ext E104 CR_96.1 (Safe.new (Nat.le_of_eq g104.symm)))))) all0) CR117.1 (Safe.wr W115 (own_safearr hZ96.alike V111 (by decide)) CR113.1 (Safe.wr W111 (own_safearr hZ96.alike V_b107 (by decide)) CR109.1 (Safe.ext E107 CR106.1 (Safe.ext E104 CR_96.1 Rn97))))))
    have K123 := K118.trans K123q (allS (Or.inr (Nat.le_trans K11.1 f14_8)) (allS (Or.inr (Nat.le_trans K11.1 f14_10)) all0))
    obtain ⟨cq125, kq125, q125a, q125b, q125c⟩ := isOf hZ123 rfl ((((((((((((((A11.keep K14q).keep K23).keep K37).keep K51).keep K65).keep K79).keep K87q).keep K96).ext E104).ext E107).wr W111).wr W115).keep K118q).keep K123q)
    obtain ⟨_, _, ⟨T125, L125, k125, n125⟩, -, X125, ⟨Lc125, hQ125, l125, y125, z125⟩, st125⟩ := X123.virtualBack hx (y := m_29) (z := m_29) hown123 (mvT hZ123 (tw hw 153 rfl)) (mvT hZ123 (tw hw 154 rfl)) (notFace_of_selects (args := #[]) (mvT hZ123 (tw hw 156 rfl))) (mvT hZ123 (tw hw 156 rfl)) (mvT hZ123 (tw hw 155 rfl)) (by decide) (backOf (W := 0) (rm27 l Z a0 hw [] b11 ro_14 (3 : Int32) 3 ((cpy (cpy z16 0 ([] : List Value) 0 0) 0 [.int (StrChars.lo8 (nar .char u7)), .int (StrChars.lo8 (nar .char u9))] 0 2).set 2 (.int ((10 : Int32).toInt8.toInt32.toInt8.toInt32))) sb_14 zC ko_14 T123.heap n0 O123 hCS sC ((((((FT96.ext E104).ext E107).other W111 (Or.inl (Nat.ne_of_lt (Nat.lt_of_lt_of_le (((((((((A11.keep K14q).keep K23).keep K37).keep K51).keep K65).keep K79).keep K87q).keep K96).ext E104).lt (Nat.le_of_eq g107.symm))))).other W115 (Or.inl (Nat.ne_of_lt (Nat.lt_of_lt_of_le (((((((((A11.keep K14q).keep K23).keep K37).keep K51).keep K65).keep K79).keep K87q).keep K96).ext E104).lt (Nat.le_of_eq g107.symm))))).keep K118q (ninS (Nat.ne_of_lt (Nat.lt_of_lt_of_le ((((((((A11.keep K14q).keep K23).keep K37).keep K51).keep K65).keep K79).keep K87q).keep K96).lt (Nat.le_of_eq g104.symm))) nin0)).keep K123q (ninS (Nat.ne_of_lt (Nat.lt_of_lt_of_le A11.lt f14_8)) (ninS (Nat.ne_of_lt (Nat.lt_of_lt_of_le A11.lt f14_10)) nin0))) ((((((Rn100.ext E104).ext E107).wr W111).wr W115).keep K118q).keep K123q) f123_0 f123_1 f123_2 f123_3 (Sm.lit (x := (3 : Int32)) (n := 3) (by decide)) (by decide)) hZ123 (tw hw 157 rfl) (tw hw 2 rfl) (by decide) (by decide)) q125a q125c (g := (mkF m 177 #[It p1, It p2, It p3, It (0 : Int32), It u3, It u5, It u7, It u9, Rf b11, It (1 : Int32), .unset, .unset] [(.ref b11)])) rfl (by rw [hml]; rfl) (Steps.refl _) (argsL := []) (rest := []) (lenOf pd_17 rfl) rfl (w0 rfl) (hb hby at_177) (fun _ _ => ⟨rfl, rfl, (by decide : 10 + 2 ≤ _), (by decide : 54 + 20 ≤ _)⟩)
    dsimp only [Pt.U, Pt.locs, Pt.cells, Pt.slots] at X125 l125 y125 z125 st125 hQ125
    subst l125 y125 z125
    obtain ⟨rs_125, ro_125, ko_125, rfl, N125q, K125q, O125, f125_0, f125_1, f125_2, f125_3, f125_4, f125_5, f125_6, f125_7⟩ := hQ125
    have N125 := Fr.app N123 N125q
    have CR126 := CR124.trans (CHr.keep K125q all0 CR124.1)
    have K125 := K123.trans K125q all0
    have VO125 : Arv Z T125.heap ro_125 ko_125 .byte (3 : Int32) [.int (StrChars.lo8 (nar .char u7)), .int (StrChars.lo8 (nar .char u9)), .int (10 : Int32), .int (0 : Int32), .int (0 : Int32), .int (0 : Int32), .int (0 : Int32), .int (0 : Int32), .int (0 : Int32), .int (0 : Int32), .int (0 : Int32), .int (0 : Int32), .int (0 : Int32), .int (0 : Int32), .int (0 : Int32), .int (0 : Int32)] (.int (0 : Int32)) := f125_5
    obtain ⟨u127, hu127⟩ : ∃ z, z = ((4 : Int32) * (0 : Int32)) := ⟨_, rfl⟩
    have sg128 : SG p.tables e below (T125.setTop (mkF m 185 #[It p1, It p2, It p3, It (0 : Int32), It u3, It u5, It u7, It u9, Rf b11, It (1 : Int32), Rf rs_125, .unset] [(.int u127)])) (T118.setTop (mkF m 171 #[It p1, It p2, It p3, It (0 : Int32), It u3, It u5, It u7, It u9, Rf b11, It (1 : Int32), .unset, .unset] [(.ref b104), (.ref b11)])) := by
      intro target kt
      subst hu127
      show Steps _ _ _ (T118.setTop (mkF m 171 #[It p1, It p2, It p3, It (0 : Int32), It u3, It u5, It u7, It u9, Rf b11, It (1 : Int32), .unset, .unset] [(.ref b104), (.ref b11)])) _
      refine st123.trans ?_
      refine XS.pop X123.here hx rfl (hb hby at_174) rfl rfl ?_
      refine XS.aload X123.here hx rfl (hb hby at_175) rfl rfl ?_
      refine st125.trans ?_
      refine XS.astore X125.here hx rfl (hb hby at_180) rfl rfl (l' := #[It p1, It p2, It p3, It (0 : Int32), It u3, It u5, It u7, It u9, Rf b11, It (1 : Int32), Rf rs_125, .unset]) rfl ?_
      refine XS.iconst X125.here hx rfl (hb hby at_182) ?_
      refine XS.iloadN X125.here hx rfl (hb hby at_183) rfl ?_
      refine XS.imul X125.here hx rfl (hb hby at_184) rfl ?_
      exact kt
    have hk_u127 : u127 = (0 : Int32) := by rw [hu127]; decide
    subst hk_u127
    obtain ⟨cq129, kq129, q129a, q129b, q129c⟩ := isOf hZ123 rfl f125_0
    obtain ⟨_, _, ⟨T129, L129, k129, n129⟩, -, X129, ⟨Lc129, hQ129, l129, y129, z129⟩, st129⟩ := X125.virtualBack hx (y := m_2) (z := m_2) hown123 (mvT hZ123 (tw hw 199 rfl)) (mvT hZ123 (tw hw 99 rfl)) (notFace_of_selects (args := #[]) (mvT hZ123 (tw hw 101 rfl))) (mvT hZ123 (tw hw 101 rfl)) (mvT hZ123 (tw hw 100 rfl)) (by decide) (backOf (W := 0) (rm17 l Z a0 hw [] rs_125 ro_125 (3 : Int32) ([.int (StrChars.lo8 (nar .char u7)), .int (StrChars.lo8 (nar .char u9)), .int (10 : Int32), .int (0 : Int32), .int (0 : Int32), .int (0 : Int32), .int (0 : Int32), .int (0 : Int32), .int (0 : Int32), .int (0 : Int32), .int (0 : Int32), .int (0 : Int32), .int (0 : Int32), .int (0 : Int32), .int (0 : Int32), .int (0 : Int32)]) zC ko_125 T125.heap n0 O125 hCS sC f125_0 f125_3 f125_4 VO125) hZ123 (tw hw 102 rfl) (tw hw 23 rfl) (by decide) (by decide)) q129a q129c (g := (mkF m 189 #[It p1, It p2, It p3, It (0 : Int32), It u3, It u5, It u7, It u9, Rf b11, It (1 : Int32), Rf rs_125, It (0 : Int32)] [(.ref rs_125)])) rfl (by rw [hml]; rfl) (Steps.refl _) (argsL := []) (rest := []) (lenOf pd_1 rfl) rfl (w0 rfl) (hb hby at_189) (fun _ _ => ⟨rfl, rfl, (by decide : 12 + 0 ≤ _), (by decide : 74 + 0 ≤ _)⟩)
    dsimp only [Pt.U, Pt.locs, Pt.cells, Pt.slots] at X129 l129 y129 z129 st129 hQ129
    subst l129 y129 z129
    obtain ⟨rfl, N129q, e129⟩ := hQ129
    have N129 := Fr.app N125 N129q
    obtain ⟨_, _, ⟨T130, L130, k130, n130⟩, -, X130, ⟨Lc130, hQ130, l130, y130, z130⟩, st130⟩ := Jvm.LawKit.callS X129 hx (y := m_39) hown123 (mvT hZ123 (tw hw 200 rfl)) (mvT hZ123 (tw hw 201 rfl)) (mvT hZ123 (tw hw 202 rfl)) (mvT hZ123 (tw hw 203 rfl)) (by decide) (backOf (W := 0) (rm38_0 l Z a0 hw [] rs_125 ro_125 (3 : Int32) 3 ([.int (StrChars.lo8 (nar .char u7)), .int (StrChars.lo8 (nar .char u9)), .int (10 : Int32), .int (0 : Int32), .int (0 : Int32), .int (0 : Int32), .int (0 : Int32), .int (0 : Int32), .int (0 : Int32), .int (0 : Int32), .int (0 : Int32), .int (0 : Int32), .int (0 : Int32), .int (0 : Int32), .int (0 : Int32), .int (0 : Int32)]) vFM zC ko_125 T125.heap n0 O125 hCS hFM (Sm.lit (x := (3 : Int32)) (n := 3) (by decide)) (by decide) sC sF f125_0 f125_3 f125_4 VO125) hZ123 (tw hw 203 rfl) (tw hw 202 rfl) (by decide) (by decide)) (g := (mkF m 210 #[It p1, It p2, It p3, It (0 : Int32), It u3, It u5, It u7, It u9, Rf b11, It (1 : Int32), Rf rs_125, It (0 : Int32)] [(.int (0 : Int32)), (.ref rs_125)])) rfl (by rw [hml]; rfl) (argsL := [(.ref rs_125), (.int (0 : Int32))]) (rest := []) (lenOf pd_30 rfl) rfl (w0 rfl) (hb hby at_210) (fun _ _ => ⟨rfl, e129, (by decide : 12 + 0 ≤ _), (by decide : 74 + 0 ≤ _)⟩)
    dsimp only [Pt.U, Pt.locs, Pt.cells, Pt.slots] at X130 l130 y130 z130 st130 hQ130
    subst l130 y130 z130
    obtain ⟨rfl, N130q, e130⟩ := hQ130
    have N130 := Fr.app N129 N130q
    obtain ⟨cq131, kq131, q131a, q131b, q131c⟩ := isOf hZ123 e130 f125_0
    obtain ⟨_, _, ⟨T131, L131, k131, n131⟩, -, X131, ⟨Lc131, hQ131, l131, y131, z131⟩, st131⟩ := X130.virtualBack hx (y := m_37) (z := m_37) hown123 (mvT hZ123 (tw hw 207 rfl)) (mvT hZ123 (tw hw 208 rfl)) (notFace_of_selects (args := #[]) (mvT hZ123 (tw hw 210 rfl))) (mvT hZ123 (tw hw 210 rfl)) (mvT hZ123 (tw hw 209 rfl)) (by decide) (backOf (W := 0) (rm40 l Z a0 hw [] rs_125 (0 : Int32) ro_125 (3 : Int32) 3 0 (StrChars.lo8 (nar .char u7)) u7 ([.int (StrChars.lo8 (nar .char u7)), .int (StrChars.lo8 (nar .char u9)), .int (10 : Int32), .int (0 : Int32), .int (0 : Int32), .int (0 : Int32), .int (0 : Int32), .int (0 : Int32), .int (0 : Int32), .int (0 : Int32), .int (0 : Int32), .int (0 : Int32), .int (0 : Int32), .int (0 : Int32), .int (0 : Int32), .int (0 : Int32)]) vFM zC ko_125 T125.heap n0 O125 hCS hFM (Sm.lit (x := (0 : Int32)) (n := 0) (by decide)) (Sm.lit (x := (3 : Int32)) (n := 3) (by decide)) (by decide) rfl (own_chb rg_u7) (own_narC rg_u7) sC sF f125_0 f125_3 f125_4 VO125) hZ123 (tw hw 211 rfl) (tw hw 23 rfl) (by decide) (by decide)) q131a q131c (g := (mkF m 220 #[It p1, It p2, It p3, It (0 : Int32), It u3, It u5, It u7, It u9, Rf b11, It (1 : Int32), Rf rs_125, It (0 : Int32)] [(.int (0 : Int32)), (.ref rs_125)])) rfl (by rw [hml]; rfl) (Steps.refl _) (argsL := [(.int (0 : Int32))]) (rest := []) (lenOf pd_25 rfl) rfl (w0 rfl) (hb hby at_220) (fun _ _ => ⟨rfl, e130, (by decide : 12 + 0 ≤ _), (by decide : 74 + 0 ≤ _)⟩)
    dsimp only [Pt.U, Pt.locs, Pt.cells, Pt.slots] at X131 l131 y131 z131 st131 hQ131
    subst l131 y131 z131
    obtain ⟨rfl, N131q, e131⟩ := hQ131
    have N131 := Fr.app N130 N131q
    obtain ⟨cq132, kq132, q132a, q132b, q132c⟩ := isOf hZ123 e131 f125_0
    obtain ⟨_, _, ⟨T132, L132, k132, n132⟩, -, X132, ⟨Lc132, hQ132, l132, y132, z132⟩, st132⟩ := X131.virtualBack hx (y := m_37) (z := m_37) hown123 (mvT hZ123 (tw hw 207 rfl)) (mvT hZ123 (tw hw 208 rfl)) (notFace_of_selects (args := #[]) (mvT hZ123 (tw hw 210 rfl))) (mvT hZ123 (tw hw 210 rfl)) (mvT hZ123 (tw hw 209 rfl)) (by decide) (backOf (W := 0) (rm40 l Z a0 hw [] rs_125 ((0 : Int32) + (1 : Int32)) ro_125 (3 : Int32) 3 1 (StrChars.lo8 (nar .char u9)) u9 ([.int (StrChars.lo8 (nar .char u7)), .int (StrChars.lo8 (nar .char u9)), .int (10 : Int32), .int (0 : Int32), .int (0 : Int32), .int (0 : Int32), .int (0 : Int32), .int (0 : Int32), .int (0 : Int32), .int (0 : Int32), .int (0 : Int32), .int (0 : Int32), .int (0 : Int32), .int (0 : Int32), .int (0 : Int32), .int (0 : Int32)]) vFM zC ko_125 T125.heap n0 O125 hCS hFM (Sm.lit (x := ((0 : Int32) + (1 : Int32))) (n := 1) (by decide)) (Sm.lit (x := (3 : Int32)) (n := 3) (by decide)) (by decide) rfl (own_chb rg_u9) (own_narC rg_u9) sC sF f125_0 f125_3 f125_4 VO125) hZ123 (tw hw 211 rfl) (tw hw 23 rfl) (by decide) (by decide)) q132a q132c (g := (mkF m 234 #[It p1, It p2, It p3, It (0 : Int32), It u3, It u5, It u7, It u9, Rf b11, It (1 : Int32), Rf rs_125, It (0 : Int32)] [(.int ((0 : Int32) + (1 : Int32))), (.ref rs_125)])) rfl (by rw [hml]; rfl) (Steps.refl _) (argsL := [(.int ((0 : Int32) + (1 : Int32)))]) (rest := []) (lenOf pd_25 rfl) rfl (w0 rfl) (hb hby at_234) (fun _ _ => ⟨rfl, e131, (by decide : 12 + 0 ≤ _), (by decide : 74 + 0 ≤ _)⟩)
    dsimp only [Pt.U, Pt.locs, Pt.cells, Pt.slots] at X132 l132 y132 z132 st132 hQ132
    subst l132 y132 z132
    obtain ⟨rfl, N132q, e132⟩ := hQ132
    have N132 := Fr.app N131 N132q
    obtain ⟨cq133, kq133, q133a, q133b, q133c⟩ := isOf hZ123 e132 f125_0
    obtain ⟨_, _, ⟨T133, L133, k133, n133⟩, -, X133, ⟨Lc133, hQ133, l133, y133, z133⟩, st133⟩ := X132.virtualBack hx (y := m_37) (z := m_37) hown123 (mvT hZ123 (tw hw 207 rfl)) (mvT hZ123 (tw hw 208 rfl)) (notFace_of_selects (args := #[]) (mvT hZ123 (tw hw 210 rfl))) (mvT hZ123 (tw hw 210 rfl)) (mvT hZ123 (tw hw 209 rfl)) (by decide) (backOf (W := 0) (rm40 l Z a0 hw [] rs_125 ((0 : Int32) + (2 : Int32)) ro_125 (3 : Int32) 3 2 (10 : Int32) (10 : Int32) ([.int (StrChars.lo8 (nar .char u7)), .int (StrChars.lo8 (nar .char u9)), .int (10 : Int32), .int (0 : Int32), .int (0 : Int32), .int (0 : Int32), .int (0 : Int32), .int (0 : Int32), .int (0 : Int32), .int (0 : Int32), .int (0 : Int32), .int (0 : Int32), .int (0 : Int32), .int (0 : Int32), .int (0 : Int32), .int (0 : Int32)]) vFM zC ko_125 T125.heap n0 O125 hCS hFM (Sm.lit (x := ((0 : Int32) + (2 : Int32))) (n := 2) (by decide)) (Sm.lit (x := (3 : Int32)) (n := 3) (by decide)) (by decide) rfl (by decide) (by decide) sC sF f125_0 f125_3 f125_4 VO125) hZ123 (tw hw 211 rfl) (tw hw 23 rfl) (by decide) (by decide)) q133a q133c (g := (mkF m 248 #[It p1, It p2, It p3, It (0 : Int32), It u3, It u5, It u7, It u9, Rf b11, It (1 : Int32), Rf rs_125, It (0 : Int32)] [(.int ((0 : Int32) + (2 : Int32))), (.ref rs_125)])) rfl (by rw [hml]; rfl) (Steps.refl _) (argsL := [(.int ((0 : Int32) + (2 : Int32)))]) (rest := []) (lenOf pd_25 rfl) rfl (w0 rfl) (hb hby at_248) (fun _ _ => ⟨rfl, e132, (by decide : 12 + 0 ≤ _), (by decide : 74 + 0 ≤ _)⟩)
    dsimp only [Pt.U, Pt.locs, Pt.cells, Pt.slots] at X133 l133 y133 z133 st133 hQ133
    subst l133 y133 z133
    obtain ⟨rfl, N133q, e133⟩ := hQ133
    have N133 := Fr.app N132 N133q
    have sg134 : SG p.tables e below (T133.setTop (mkF m 261 #[It p1, It p2, It p3, It (0 : Int32), It u3, It u5, It u7, It u9, Rf b11, It (1 : Int32), Rf rs_125, It (0 : Int32)] [(.int (1 : Int32))])) (T125.setTop (mkF m 185 #[It p1, It p2, It p3, It (0 : Int32), It u3, It u5, It u7, It u9, Rf b11, It (1 : Int32), Rf rs_125, .unset] [(.int (0 : Int32))])) := by
      intro target kt
      show Steps _ _ _ (T125.setTop (mkF m 185 #[It p1, It p2, It p3, It (0 : Int32), It u3, It u5, It u7, It u9, Rf b11, It (1 : Int32), Rf rs_125, .unset] [(.int (0 : Int32))])) _
      refine XS.istore X125.here hx rfl (hb hby at_185) rfl (l' := #[It p1, It p2, It p3, It (0 : Int32), It u3, It u5, It u7, It u9, Rf b11, It (1 : Int32), Rf rs_125, It (0 : Int32)]) rfl ?_
      refine XS.aload X125.here hx rfl (hb hby at_187) rfl rfl ?_
      refine st129.trans ?_
      refine XS.iload X129.here hx rfl (hb hby at_192) rfl ?_
      refine XS.iconst X129.here hx rfl (hb hby at_194) ?_
      refine XS.iadd X129.here hx rfl (hb hby at_195) rfl ?_
      refine XS.icmpYes X129.here hx rfl (pc0 := 196) (pc' := 201) rfl (hb hby at_196) rfl (teq (by decide : (3 : Int32) = ((0 : Int32) + (3 : Int32)))).1 (by decide) (by decide) ?_
      refine XS.iload X129.here hx rfl (hb hby at_201) rfl ?_
      refine XS.ifNo X129.here hx rfl (hb hby at_203) rfl ((if0 _ _).trans (feq (by decide : ¬ ((1 : Int32) = (0 : Int32)))).1) ?_
      refine XS.aload X129.here hx rfl (hb hby at_206) rfl rfl ?_
      refine XS.iload X129.here hx rfl (hb hby at_208) rfl ?_
      refine st130 _ ?_
      refine XS.ifNo X130.here hx rfl (hb hby at_213) rfl ((if0 _ _).trans (feq (by decide : ¬ ((1 : Int32) = (0 : Int32)))).1) ?_
      refine XS.aload X130.here hx rfl (hb hby at_216) rfl rfl ?_
      refine XS.iload X130.here hx rfl (hb hby at_218) rfl ?_
      refine st131.trans ?_
      refine XS.iload X131.here hx rfl (hb hby at_223) rfl ?_
      refine XS.icmpNo X131.here hx rfl (hb hby at_225) rfl (teq rfl).2 ?_
      refine XS.aload X131.here hx rfl (hb hby at_228) rfl rfl ?_
      refine XS.iload X131.here hx rfl (hb hby at_230) rfl ?_
      refine XS.iconst X131.here hx rfl (hb hby at_232) ?_
      refine XS.iadd X131.here hx rfl (hb hby at_233) rfl ?_
      refine st132.trans ?_
      refine XS.iload X132.here hx rfl (hb hby at_237) rfl ?_
      refine XS.icmpNo X132.here hx rfl (hb hby at_239) rfl (teq rfl).2 ?_
      refine XS.aload X132.here hx rfl (hb hby at_242) rfl rfl ?_
      refine XS.iload X132.here hx rfl (hb hby at_244) rfl ?_
      refine XS.iconst X132.here hx rfl (hb hby at_246) ?_
      refine XS.iadd X132.here hx rfl (hb hby at_247) rfl ?_
      refine st133.trans ?_
      show Steps _ _ _ (T133.setTop (mkF m 251 #[It p1, It p2, It p3, It (0 : Int32), It u3, It u5, It u7, It u9, Rf b11, It (1 : Int32), Rf rs_125, It (0 : Int32)] [(.int (10 : Int32))])) _
      refine XS.bipush X133.here hx rfl (hb hby at_251) ?_
      refine XS.icmpNo X133.here hx rfl (hb hby at_253) rfl (teq (by decide : (10 : Int32) = (10 : Int32))).2 ?_
      refine XS.iconst X133.here hx rfl (hb hby at_256) ?_
      refine XS.goto X133.here hx rfl (pc0 := 257) (pc' := 261) rfl (hb hby at_257) (by decide) (by decide) ?_
      exact kt
    obtain ⟨fs, hr, hrun, hended, hRW⟩ := X133.leaveW Y123 (show _ ≤ T133.heap.size by rw [e133]; exact (Nat.le_trans (Nat.le_refl _) K125q.1)) (v := some (.int (1 : Int32))) (fun h => by rw [Bd.returns] at h; cases h)
    refine ⟨_, _, pre0 _ (sg2 _ (sg4 _ (sg6 _ (sg8 _ (sg10 _ (sg16 _ (sg23 _ (sg37 _ (sg51 _ (sg65 _ (sg79 _ (sg89 _ (sg96 _ (sg120 _ (sg128 _ (sg134 _ (?_))))))))))))))))), hrun, hended, _, _, rfl, ?_, (by rw [hh]; show CHr Z own_EL s.vm h0 T133.vm T133.heap; rw [e133]; exact CR126.trans (CHv.at X133 hZ123 hEL CR126.1)), hRW.1, hRW.2.1, hRW.2.2.1, hRW.2.2.2.mono (by decide) (by decide)⟩
    · show Steps _ _ _ (T133.setTop (mkF m 261 #[It p1, It p2, It p3, It (0 : Int32), It u3, It u5, It u7, It u9, Rf b11, It (1 : Int32), Rf rs_125, It (0 : Int32)] [(.int (1 : Int32))])) _
      exact retN X133 hx (t := .boolean) Bd.returns (by simp) (hb hby at_261) hr
    · show Q0 Z p1 p2 p3 vFM zC h0 n0 _ T133.heap _
      rw [e133]
      exact ⟨rfl, N133, K125, O125⟩
  · by_cases hc135 : u1 = (1 : Int32)
    · subst hc135
      have VL136 : Arv Z T118.heap t118 kb118 .byte (2 : Int32) [.int (StrChars.lo8 (nar .char u7)), .int (StrChars.lo8 (nar .char u9))] (.int (0 : Int32)) := V118
      obtain ⟨cq137, kq137, q137a, q137b, q137c⟩ := isOf hZ96 rfl (((((((((((((A11.keep K14q).keep K23).keep K37).keep K51).keep K65).keep K79).keep K87q).keep K96).ext E104).ext E107).wr W111).wr W115).keep K118q)
      obtain ⟨_, _, ⟨T137, L137, k137, n137⟩, -, X137, Y137, G137, ⟨Lc137, hQ137, l137, y137, z137, C137⟩, st137⟩ := X118.virtualBackS hx (y := m_33) (z := m_33) hown96 (mvT hZ96 (tw hw 69 rfl)) (mvT hZ96 (tw hw 70 rfl)) (notFace_of_selects (args := #[]) (mvT hZ96 (tw hw 72 rfl))) (mvT hZ96 (tw hw 72 rfl)) (mvT hZ96 (tw hw 71 rfl)) (by decide) (own_backSH (W := 0) (rm12_12 l Z a0 hw [] b11 b104 sb_14 ro_14 t118 ([.int (StrChars.lo8 (nar .char u7)), .int (StrChars.lo8 (nar .char u9))]) zC ko_14 kb118 T118.heap n0 O118 sC (((((((((((((A11.keep K14q).keep K23).keep K37).keep K51).keep K65).keep K79).keep K87q).keep K96).ext E104).ext E107).wr W111).wr W115).keep K118q) (((((FT96.ext E104).ext E107).other W111 (Or.inl (Nat.ne_of_lt (Nat.lt_of_lt_of_le (((((((((A11.keep K14q).keep K23).keep K37).keep K51).keep K65).keep K79).keep K87q).keep K96).ext E104).lt (Nat.le_of_eq g107.symm))))).other W115 (Or.inl (Nat.ne_of_lt (Nat.lt_of_lt_of_le (((((((((A11.keep K14q).keep K23).keep K37).keep K51).keep K65).keep K79).keep K87q).keep K96).ext E104).lt (Nat.le_of_eq g107.symm))))).keep K118q (ninS (Nat.ne_of_lt (Nat.lt_of_lt_of_le ((((((((A11.keep K14q).keep K23).keep K37).keep K51).keep K65).keep K79).keep K87q).keep K96).lt (Nat.le_of_eq g104.symm))) nin0)) (((((FDz.ext E104).ext E107).other W111 (Or.inl (Nat.ne_of_lt (Nat.lt_of_lt_of_le (((((((((A11.keep K14q).keep K23).keep K37).keep K51).keep K65).keep K79).keep K87q).keep K96).ext E104).lt (Nat.le_of_eq g107.symm))))).other W115 (Or.inl (Nat.ne_of_lt (Nat.lt_of_lt_of_le (((((((((A11.keep K14q).keep K23).keep K37).keep K51).keep K65).keep K79).keep K87q).keep K96).ext E104).lt (Nat.le_of_eq g107.symm))))).keep K118q (ninS (Nat.ne_of_lt (Nat.lt_of_lt_of_le ((((((((A11.keep K14q).keep K23).keep K37).keep K51).keep K65).keep K79).keep K87q).keep K96).lt (Nat.le_of_eq g104.symm))) nin0)) (((((Rn100.ext E104).ext E107).wr W111).wr W115).keep K118q) (((((Rn103.ext E104).ext E107).other W111 (Or.inl (Nat.ne_of_lt (Nat.lt_of_lt_of_le (Rn100.ext E104).lt (Nat.le_of_eq g107.symm))))).other W115 (Or.inl (Nat.ne_of_lt (Nat.lt_of_lt_of_le (Rn100.ext E104).lt (Nat.le_of_eq g107.symm))))).keep K118q (ninS (Nat.ne_of_lt (Nat.lt_of_lt_of_le Rn100.lt (Nat.le_of_eq g104.symm))) nin0)) (((((Rn101.ext E104).ext E107).other W111 (Or.inl (Nat.ne_of_lt (Nat.lt_of_lt_of_le (Rn100.ext E104).lt (Nat.le_of_eq g107.symm))))).other W115 (Or.inl (Nat.ne_of_lt (Nat.lt_of_lt_of_le (Rn100.ext E104).lt (Nat.le_of_eq g107.symm))))).keep K118q (ninS (Nat.ne_of_lt (Nat.lt_of_lt_of_le Rn100.lt (Nat.le_of_eq g104.symm))) nin0)) (((((Rn102.ext E104).ext E107).other W111 (Or.inl (Nat.ne_of_lt (Nat.lt_of_lt_of_le (Rn100.ext E104).lt (Nat.le_of_eq g107.symm))))).other W115 (Or.inl (Nat.ne_of_lt (Nat.lt_of_lt_of_le (Rn100.ext E104).lt (Nat.le_of_eq g107.symm))))).keep K118q (ninS (Nat.ne_of_lt (Nat.lt_of_lt_of_le Rn100.lt (Nat.le_of_eq g104.symm))) nin0)) (((((Rn99.ext E104).ext E107).other W111 (Nat.ne_of_lt (Nat.lt_of_lt_of_le (Rn99.ext E104).lt (Nat.le_of_eq g107.symm)))).other W115 (Nat.ne_of_lt (Nat.lt_of_lt_of_le (Rn99.ext E104).lt (Nat.le_of_eq g107.symm)))).keep K118q (ninS (Nat.ne_of_lt (Nat.lt_of_lt_of_le Rn99.lt (Nat.le_of_eq g104.symm))) nin0)) A118 Fc118 Fv118 VL136 f14_7 f14_9 (Ne.symm (Nat.ne_of_lt (Nat.lt_of_lt_of_le ((((Rn99.ext E104).ext E107).other W111 (Nat.ne_of_lt (Nat.lt_of_lt_of_le (Rn99.ext E104).lt (Nat.le_of_eq g107.symm)))).other W115 (Nat.ne_of_lt (Nat.lt_of_lt_of_le (Rn99.ext E104).lt (Nat.le_of_eq g107.symm)))).lt bt118))) hCS) hZ96 (tw hw 73 rfl) (tw hw 2 rfl) (by decide) (by decide) hEL CR119.1 (((((Rn99.ext E104).ext E107).other W111 (Nat.ne_of_lt (Nat.lt_of_lt_of_le (Rn99.ext E104).lt (Nat.le_of_eq g107.symm)))).other W115 (Nat.ne_of_lt (Nat.lt_of_lt_of_le (Rn99.ext E104).lt (Nat.le_of_eq g107.symm)))).keep K118q (ninS (Nat.ne_of_lt (Nat.lt_of_lt_of_le Rn99.lt (Nat.le_of_eq g104.symm))) nin0)).lt (Safe.keep K118q (allS (Safe.wr W115 (own_safearr hZ96.alike V111 (by decide)) CR113.1 (Safe.wr W111 (own_safearr hZ96.alike V_b107 (by decide)) CR109.1 (Safe.ext E107 CR106.1 (Safe.ext E104 CR_96.1 (Safe.new (Nat.le_of_eq g104.symm)))))) all0) CR117.1 (Safe.wr W115 (own_safearr hZ96.alike V111 (by decide)) CR113.1 (Safe.wr W111 (own_safearr hZ96.alike V_b107 (by decide)) CR109.1 (Safe.ext E107 CR106.1 (Safe.ext E104 CR_96.1 Rn97)))))) q137a q137c (g := (mkF m 171 #[It p1, It p2, It p3, It (1 : Int32), It u3, It u5, It u7, It u9, Rf b11, It (1 : Int32), .unset, .unset] [(.ref b104), (.ref b11)])) rfl (by rw [hml]; rfl) (Steps.refl _) (argsL := [(.ref b104)]) (rest := []) (lenOf pd_29 rfl) rfl (w0 rfl) (hb hby at_171) (fun _ _ => ⟨rfl, rfl, (by decide : 6 + 2 ≤ _), (by decide : 30 + 20 ≤ _)⟩)
      dsimp only [Pt.U, Pt.locs, Pt.cells, Pt.slots] at X137 l137 y137 z137 st137 hQ137 Y137 G137 C137
      subst l137 y137 z137
      obtain ⟨rfl, N137q, K137q, O137, f137_0, f137_1, f137_2, f137_3⟩ := hQ137
      have N137 := Fr.app N118 N137q
      obtain ⟨X137, Y137, hZ137, hown137⟩ := rebS Y96 (Nat.le_trans (Nat.le_trans (Nat.le_trans (Nat.le_trans (Nat.le_trans Yk96 E104.1) E107.1) (Keep.of_wr W111).1) (Keep.of_wr W115).1) K118q.1) X137 Y137 G137 hZ96 hown96
      have CR138 := CR119.trans (C137)
      have Sf137_sb_14 := (C137.safe (((((Rn100.ext E104).ext E107).wr W111).wr W115).keep K118q).lt (Safe.keep K118q (allS (Safe.wr W115 (own_safearr hZ96.alike V111 (by decide)) CR113.1 (Safe.wr W111 (own_safearr hZ96.alike V_b107 (by decide)) CR109.1 (Safe.ext E107 CR106.1 (Safe.ext E104 CR_96.1 (Safe.new (Nat.le_of_eq g104.symm)))))) all0) CR117.1 (Safe.wr W115 (own_safearr hZ96.alike V111 (by decide)) CR113.1 (Safe.wr W111 (own_safearr hZ96.alike V_b107 (by decide)) CR109.1 (Safe.ext E107 CR106.1 (Safe.ext E104 CR_96.1 Rn98))))))
      have Sf137_ro_14 := (C137.safe (((((Rn99.ext E104).ext E107).other W111 (Nat.ne_of_lt (Nat.lt_of_lt_of_le (Rn99.ext E104).lt (Nat.le_of_eq g107.symm)))).other W115 (Nat.ne_of_lt (Nat.lt_of_lt_of_le (Rn99.ext E104).lt (Nat.le_of_eq g107.symm)))).keep K118q (ninS (Nat.ne_of_lt (Nat.lt_of_lt_of_le Rn99.lt (Nat.le_of_eq g104.symm))) nin0)).lt (Safe.keep K118q (allS (Safe.wr W115 (own_safearr hZ96.alike V111 (by decide)) CR113.1 (Safe.wr W111 (own_safearr hZ96.alike V_b107 (by decide)) CR109.1 (Safe.ext E107 CR106.1 (Safe.ext E104 CR_96.1 (Safe.new (Nat.le_of_eq g104.symm)))))) all0) CR117.1 (Safe.wr W115 (own_safearr hZ96.alike V111 (by decide)) CR113.1 (Safe.wr W111 (own_safearr hZ96.alike V_b107 (by decide)) CR109.1 (Safe.ext E107 CR106.1 (Safe.ext E104 CR_96.1 Rn97))))))
      have K137 := K118.trans K137q (allS (Or.inr (Nat.le_trans K11.1 f14_8)) (allS (Or.inr (Nat.le_trans K11.1 f14_10)) all0))
      obtain ⟨cq139, kq139, q139a, q139b, q139c⟩ := isOf hZ137 rfl ((((((((((((((A11.keep K14q).keep K23).keep K37).keep K51).keep K65).keep K79).keep K87q).keep K96).ext E104).ext E107).wr W111).wr W115).keep K118q).keep K137q)
      obtain ⟨_, _, ⟨T139, L139, k139, n139⟩, -, X139, ⟨Lc139, hQ139, l139, y139, z139⟩, st139⟩ := X137.virtualBack hx (y := m_29) (z := m_29) hown137 (mvT hZ137 (tw hw 153 rfl)) (mvT hZ137 (tw hw 154 rfl)) (notFace_of_selects (args := #[]) (mvT hZ137 (tw hw 156 rfl))) (mvT hZ137 (tw hw 156 rfl)) (mvT hZ137 (tw hw 155 rfl)) (by decide) (backOf (W := 0) (rm27 l Z a0 hw [] b11 ro_14 (7 : Int32) 7 ((cpy (cpy z16 0 s4 0 4) 4 [.int (StrChars.lo8 (nar .char u7)), .int (StrChars.lo8 (nar .char u9))] 0 2).set 6 (.int ((10 : Int32).toInt8.toInt32.toInt8.toInt32))) sb_14 zC ko_14 T137.heap n0 O137 hCS sC ((((((FT96.ext E104).ext E107).other W111 (Or.inl (Nat.ne_of_lt (Nat.lt_of_lt_of_le (((((((((A11.keep K14q).keep K23).keep K37).keep K51).keep K65).keep K79).keep K87q).keep K96).ext E104).lt (Nat.le_of_eq g107.symm))))).other W115 (Or.inl (Nat.ne_of_lt (Nat.lt_of_lt_of_le (((((((((A11.keep K14q).keep K23).keep K37).keep K51).keep K65).keep K79).keep K87q).keep K96).ext E104).lt (Nat.le_of_eq g107.symm))))).keep K118q (ninS (Nat.ne_of_lt (Nat.lt_of_lt_of_le ((((((((A11.keep K14q).keep K23).keep K37).keep K51).keep K65).keep K79).keep K87q).keep K96).lt (Nat.le_of_eq g104.symm))) nin0)).keep K137q (ninS (Nat.ne_of_lt (Nat.lt_of_lt_of_le A11.lt f14_8)) (ninS (Nat.ne_of_lt (Nat.lt_of_lt_of_le A11.lt f14_10)) nin0))) ((((((Rn100.ext E104).ext E107).wr W111).wr W115).keep K118q).keep K137q) f137_0 f137_1 f137_2 f137_3 (Sm.lit (x := (7 : Int32)) (n := 7) (by decide)) (by decide)) hZ137 (tw hw 157 rfl) (tw hw 2 rfl) (by decide) (by decide)) q139a q139c (g := (mkF m 177 #[It p1, It p2, It p3, It (1 : Int32), It u3, It u5, It u7, It u9, Rf b11, It (1 : Int32), .unset, .unset] [(.ref b11)])) rfl (by rw [hml]; rfl) (Steps.refl _) (argsL := []) (rest := []) (lenOf pd_17 rfl) rfl (w0 rfl) (hb hby at_177) (fun _ _ => ⟨rfl, rfl, (by decide : 8 + 2 ≤ _), (by decide : 50 + 20 ≤ _)⟩)
      dsimp only [Pt.U, Pt.locs, Pt.cells, Pt.slots] at X139 l139 y139 z139 st139 hQ139
      subst l139 y139 z139
      obtain ⟨rs_139, ro_139, ko_139, rfl, N139q, K139q, O139, f139_0, f139_1, f139_2, f139_3, f139_4, f139_5, f139_6, f139_7⟩ := hQ139
      have N139 := Fr.app N137 N139q
      have CR140 := CR138.trans (CHr.keep K139q all0 CR138.1)
      have K139 := K137.trans K139q all0
      have VO139 : Arv Z T139.heap ro_139 ko_139 .byte (7 : Int32) [.int (32 : Int32), .int (32 : Int32), .int (32 : Int32), .int (32 : Int32), .int (StrChars.lo8 (nar .char u7)), .int (StrChars.lo8 (nar .char u9)), .int (10 : Int32), .int (0 : Int32), .int (0 : Int32), .int (0 : Int32), .int (0 : Int32), .int (0 : Int32), .int (0 : Int32), .int (0 : Int32), .int (0 : Int32), .int (0 : Int32)] (.int (0 : Int32)) := f139_5
      obtain ⟨u141, hu141⟩ : ∃ z, z = ((4 : Int32) * (1 : Int32)) := ⟨_, rfl⟩
      have sg142 : SG p.tables e below (T139.setTop (mkF m 185 #[It p1, It p2, It p3, It (1 : Int32), It u3, It u5, It u7, It u9, Rf b11, It (1 : Int32), Rf rs_139, .unset] [(.int u141)])) (T118.setTop (mkF m 171 #[It p1, It p2, It p3, It (1 : Int32), It u3, It u5, It u7, It u9, Rf b11, It (1 : Int32), .unset, .unset] [(.ref b104), (.ref b11)])) := by
        intro target kt
        subst hu141
        show Steps _ _ _ (T118.setTop (mkF m 171 #[It p1, It p2, It p3, It (1 : Int32), It u3, It u5, It u7, It u9, Rf b11, It (1 : Int32), .unset, .unset] [(.ref b104), (.ref b11)])) _
        refine st137.trans ?_
        refine XS.pop X137.here hx rfl (hb hby at_174) rfl rfl ?_
        refine XS.aload X137.here hx rfl (hb hby at_175) rfl rfl ?_
        refine st139.trans ?_
        refine XS.astore X139.here hx rfl (hb hby at_180) rfl rfl (l' := #[It p1, It p2, It p3, It (1 : Int32), It u3, It u5, It u7, It u9, Rf b11, It (1 : Int32), Rf rs_139, .unset]) rfl ?_
        refine XS.iconst X139.here hx rfl (hb hby at_182) ?_
        refine XS.iloadN X139.here hx rfl (hb hby at_183) rfl ?_
        refine XS.imul X139.here hx rfl (hb hby at_184) rfl ?_
        exact kt
      have hk_u141 : u141 = (4 : Int32) := by rw [hu141]; decide
      subst hk_u141
      obtain ⟨cq143, kq143, q143a, q143b, q143c⟩ := isOf hZ137 rfl f139_0
      obtain ⟨_, _, ⟨T143, L143, k143, n143⟩, -, X143, ⟨Lc143, hQ143, l143, y143, z143⟩, st143⟩ := X139.virtualBack hx (y := m_2) (z := m_2) hown137 (mvT hZ137 (tw hw 199 rfl)) (mvT hZ137 (tw hw 99 rfl)) (notFace_of_selects (args := #[]) (mvT hZ137 (tw hw 101 rfl))) (mvT hZ137 (tw hw 101 rfl)) (mvT hZ137 (tw hw 100 rfl)) (by decide) (backOf (W := 0) (rm17 l Z a0 hw [] rs_139 ro_139 (7 : Int32) ([.int (32 : Int32), .int (32 : Int32), .int (32 : Int32), .int (32 : Int32), .int (StrChars.lo8 (nar .char u7)), .int (StrChars.lo8 (nar .char u9)), .int (10 : Int32), .int (0 : Int32), .int (0 : Int32), .int (0 : Int32), .int (0 : Int32), .int (0 : Int32), .int (0 : Int32), .int (0 : Int32), .int (0 : Int32), .int (0 : Int32)]) zC ko_139 T139.heap n0 O139 hCS sC f139_0 f139_3 f139_4 VO139) hZ137 (tw hw 102 rfl) (tw hw 23 rfl) (by decide) (by decide)) q143a q143c (g := (mkF m 189 #[It p1, It p2, It p3, It (1 : Int32), It u3, It u5, It u7, It u9, Rf b11, It (1 : Int32), Rf rs_139, It (4 : Int32)] [(.ref rs_139)])) rfl (by rw [hml]; rfl) (Steps.refl _) (argsL := []) (rest := []) (lenOf pd_1 rfl) rfl (w0 rfl) (hb hby at_189) (fun _ _ => ⟨rfl, rfl, (by decide : 10 + 0 ≤ _), (by decide : 70 + 0 ≤ _)⟩)
      dsimp only [Pt.U, Pt.locs, Pt.cells, Pt.slots] at X143 l143 y143 z143 st143 hQ143
      subst l143 y143 z143
      obtain ⟨rfl, N143q, e143⟩ := hQ143
      have N143 := Fr.app N139 N143q
      obtain ⟨_, _, ⟨T144, L144, k144, n144⟩, -, X144, ⟨Lc144, hQ144, l144, y144, z144⟩, st144⟩ := Jvm.LawKit.callS X143 hx (y := m_39) hown137 (mvT hZ137 (tw hw 200 rfl)) (mvT hZ137 (tw hw 201 rfl)) (mvT hZ137 (tw hw 202 rfl)) (mvT hZ137 (tw hw 203 rfl)) (by decide) (backOf (W := 0) (rm38_1 l Z a0 hw [] rs_139 ro_139 (7 : Int32) 7 ([.int (32 : Int32), .int (32 : Int32), .int (32 : Int32), .int (32 : Int32), .int (StrChars.lo8 (nar .char u7)), .int (StrChars.lo8 (nar .char u9)), .int (10 : Int32), .int (0 : Int32), .int (0 : Int32), .int (0 : Int32), .int (0 : Int32), .int (0 : Int32), .int (0 : Int32), .int (0 : Int32), .int (0 : Int32), .int (0 : Int32)]) vFM zC ko_139 T139.heap n0 O139 hCS hFM (Sm.lit (x := (7 : Int32)) (n := 7) (by decide)) (by decide) rfl rfl rfl rfl sC sF f139_0 f139_3 f139_4 VO139) hZ137 (tw hw 203 rfl) (tw hw 202 rfl) (by decide) (by decide)) (g := (mkF m 210 #[It p1, It p2, It p3, It (1 : Int32), It u3, It u5, It u7, It u9, Rf b11, It (1 : Int32), Rf rs_139, It (4 : Int32)] [(.int (4 : Int32)), (.ref rs_139)])) rfl (by rw [hml]; rfl) (argsL := [(.ref rs_139), (.int (4 : Int32))]) (rest := []) (lenOf pd_30 rfl) rfl (w0 rfl) (hb hby at_210) (fun _ _ => ⟨rfl, e143, (by decide : 10 + 0 ≤ _), (by decide : 70 + 0 ≤ _)⟩)
      dsimp only [Pt.U, Pt.locs, Pt.cells, Pt.slots] at X144 l144 y144 z144 st144 hQ144
      subst l144 y144 z144
      obtain ⟨rfl, N144q, e144⟩ := hQ144
      have N144 := Fr.app N143 N144q
      obtain ⟨cq145, kq145, q145a, q145b, q145c⟩ := isOf hZ137 e144 f139_0
      obtain ⟨_, _, ⟨T145, L145, k145, n145⟩, -, X145, ⟨Lc145, hQ145, l145, y145, z145⟩, st145⟩ := X144.virtualBack hx (y := m_37) (z := m_37) hown137 (mvT hZ137 (tw hw 207 rfl)) (mvT hZ137 (tw hw 208 rfl)) (notFace_of_selects (args := #[]) (mvT hZ137 (tw hw 210 rfl))) (mvT hZ137 (tw hw 210 rfl)) (mvT hZ137 (tw hw 209 rfl)) (by decide) (backOf (W := 0) (rm40 l Z a0 hw [] rs_139 (4 : Int32) ro_139 (7 : Int32) 7 4 (StrChars.lo8 (nar .char u7)) u7 ([.int (32 : Int32), .int (32 : Int32), .int (32 : Int32), .int (32 : Int32), .int (StrChars.lo8 (nar .char u7)), .int (StrChars.lo8 (nar .char u9)), .int (10 : Int32), .int (0 : Int32), .int (0 : Int32), .int (0 : Int32), .int (0 : Int32), .int (0 : Int32), .int (0 : Int32), .int (0 : Int32), .int (0 : Int32), .int (0 : Int32)]) vFM zC ko_139 T139.heap n0 O139 hCS hFM (Sm.lit (x := (4 : Int32)) (n := 4) (by decide)) (Sm.lit (x := (7 : Int32)) (n := 7) (by decide)) (by decide) rfl (own_chb rg_u7) (own_narC rg_u7) sC sF f139_0 f139_3 f139_4 VO139) hZ137 (tw hw 211 rfl) (tw hw 23 rfl) (by decide) (by decide)) q145a q145c (g := (mkF m 220 #[It p1, It p2, It p3, It (1 : Int32), It u3, It u5, It u7, It u9, Rf b11, It (1 : Int32), Rf rs_139, It (4 : Int32)] [(.int (4 : Int32)), (.ref rs_139)])) rfl (by rw [hml]; rfl) (Steps.refl _) (argsL := [(.int (4 : Int32))]) (rest := []) (lenOf pd_25 rfl) rfl (w0 rfl) (hb hby at_220) (fun _ _ => ⟨rfl, e144, (by decide : 10 + 0 ≤ _), (by decide : 70 + 0 ≤ _)⟩)
      dsimp only [Pt.U, Pt.locs, Pt.cells, Pt.slots] at X145 l145 y145 z145 st145 hQ145
      subst l145 y145 z145
      obtain ⟨rfl, N145q, e145⟩ := hQ145
      have N145 := Fr.app N144 N145q
      obtain ⟨cq146, kq146, q146a, q146b, q146c⟩ := isOf hZ137 e145 f139_0
      obtain ⟨_, _, ⟨T146, L146, k146, n146⟩, -, X146, ⟨Lc146, hQ146, l146, y146, z146⟩, st146⟩ := X145.virtualBack hx (y := m_37) (z := m_37) hown137 (mvT hZ137 (tw hw 207 rfl)) (mvT hZ137 (tw hw 208 rfl)) (notFace_of_selects (args := #[]) (mvT hZ137 (tw hw 210 rfl))) (mvT hZ137 (tw hw 210 rfl)) (mvT hZ137 (tw hw 209 rfl)) (by decide) (backOf (W := 0) (rm40 l Z a0 hw [] rs_139 ((4 : Int32) + (1 : Int32)) ro_139 (7 : Int32) 7 5 (StrChars.lo8 (nar .char u9)) u9 ([.int (32 : Int32), .int (32 : Int32), .int (32 : Int32), .int (32 : Int32), .int (StrChars.lo8 (nar .char u7)), .int (StrChars.lo8 (nar .char u9)), .int (10 : Int32), .int (0 : Int32), .int (0 : Int32), .int (0 : Int32), .int (0 : Int32), .int (0 : Int32), .int (0 : Int32), .int (0 : Int32), .int (0 : Int32), .int (0 : Int32)]) vFM zC ko_139 T139.heap n0 O139 hCS hFM (Sm.lit (x := ((4 : Int32) + (1 : Int32))) (n := 5) (by decide)) (Sm.lit (x := (7 : Int32)) (n := 7) (by decide)) (by decide) rfl (own_chb rg_u9) (own_narC rg_u9) sC sF f139_0 f139_3 f139_4 VO139) hZ137 (tw hw 211 rfl) (tw hw 23 rfl) (by decide) (by decide)) q146a q146c (g := (mkF m 234 #[It p1, It p2, It p3, It (1 : Int32), It u3, It u5, It u7, It u9, Rf b11, It (1 : Int32), Rf rs_139, It (4 : Int32)] [(.int ((4 : Int32) + (1 : Int32))), (.ref rs_139)])) rfl (by rw [hml]; rfl) (Steps.refl _) (argsL := [(.int ((4 : Int32) + (1 : Int32)))]) (rest := []) (lenOf pd_25 rfl) rfl (w0 rfl) (hb hby at_234) (fun _ _ => ⟨rfl, e145, (by decide : 10 + 0 ≤ _), (by decide : 70 + 0 ≤ _)⟩)
      dsimp only [Pt.U, Pt.locs, Pt.cells, Pt.slots] at X146 l146 y146 z146 st146 hQ146
      subst l146 y146 z146
      obtain ⟨rfl, N146q, e146⟩ := hQ146
      have N146 := Fr.app N145 N146q
      obtain ⟨cq147, kq147, q147a, q147b, q147c⟩ := isOf hZ137 e146 f139_0
      obtain ⟨_, _, ⟨T147, L147, k147, n147⟩, -, X147, ⟨Lc147, hQ147, l147, y147, z147⟩, st147⟩ := X146.virtualBack hx (y := m_37) (z := m_37) hown137 (mvT hZ137 (tw hw 207 rfl)) (mvT hZ137 (tw hw 208 rfl)) (notFace_of_selects (args := #[]) (mvT hZ137 (tw hw 210 rfl))) (mvT hZ137 (tw hw 210 rfl)) (mvT hZ137 (tw hw 209 rfl)) (by decide) (backOf (W := 0) (rm40 l Z a0 hw [] rs_139 ((4 : Int32) + (2 : Int32)) ro_139 (7 : Int32) 7 6 (10 : Int32) (10 : Int32) ([.int (32 : Int32), .int (32 : Int32), .int (32 : Int32), .int (32 : Int32), .int (StrChars.lo8 (nar .char u7)), .int (StrChars.lo8 (nar .char u9)), .int (10 : Int32), .int (0 : Int32), .int (0 : Int32), .int (0 : Int32), .int (0 : Int32), .int (0 : Int32), .int (0 : Int32), .int (0 : Int32), .int (0 : Int32), .int (0 : Int32)]) vFM zC ko_139 T139.heap n0 O139 hCS hFM (Sm.lit (x := ((4 : Int32) + (2 : Int32))) (n := 6) (by decide)) (Sm.lit (x := (7 : Int32)) (n := 7) (by decide)) (by decide) rfl (by decide) (by decide) sC sF f139_0 f139_3 f139_4 VO139) hZ137 (tw hw 211 rfl) (tw hw 23 rfl) (by decide) (by decide)) q147a q147c (g := (mkF m 248 #[It p1, It p2, It p3, It (1 : Int32), It u3, It u5, It u7, It u9, Rf b11, It (1 : Int32), Rf rs_139, It (4 : Int32)] [(.int ((4 : Int32) + (2 : Int32))), (.ref rs_139)])) rfl (by rw [hml]; rfl) (Steps.refl _) (argsL := [(.int ((4 : Int32) + (2 : Int32)))]) (rest := []) (lenOf pd_25 rfl) rfl (w0 rfl) (hb hby at_248) (fun _ _ => ⟨rfl, e146, (by decide : 10 + 0 ≤ _), (by decide : 70 + 0 ≤ _)⟩)
      dsimp only [Pt.U, Pt.locs, Pt.cells, Pt.slots] at X147 l147 y147 z147 st147 hQ147
      subst l147 y147 z147
      obtain ⟨rfl, N147q, e147⟩ := hQ147
      have N147 := Fr.app N146 N147q
      have sg148 : SG p.tables e below (T147.setTop (mkF m 261 #[It p1, It p2, It p3, It (1 : Int32), It u3, It u5, It u7, It u9, Rf b11, It (1 : Int32), Rf rs_139, It (4 : Int32)] [(.int (1 : Int32))])) (T139.setTop (mkF m 185 #[It p1, It p2, It p3, It (1 : Int32), It u3, It u5, It u7, It u9, Rf b11, It (1 : Int32), Rf rs_139, .unset] [(.int (4 : Int32))])) := by
        intro target kt
        show Steps _ _ _ (T139.setTop (mkF m 185 #[It p1, It p2, It p3, It (1 : Int32), It u3, It u5, It u7, It u9, Rf b11, It (1 : Int32), Rf rs_139, .unset] [(.int (4 : Int32))])) _
        refine XS.istore X139.here hx rfl (hb hby at_185) rfl (l' := #[It p1, It p2, It p3, It (1 : Int32), It u3, It u5, It u7, It u9, Rf b11, It (1 : Int32), Rf rs_139, It (4 : Int32)]) rfl ?_
        refine XS.aload X139.here hx rfl (hb hby at_187) rfl rfl ?_
        refine st143.trans ?_
        refine XS.iload X143.here hx rfl (hb hby at_192) rfl ?_
        refine XS.iconst X143.here hx rfl (hb hby at_194) ?_
        refine XS.iadd X143.here hx rfl (hb hby at_195) rfl ?_
        refine XS.icmpYes X143.here hx rfl (pc0 := 196) (pc' := 201) rfl (hb hby at_196) rfl (teq (by decide : (7 : Int32) = ((4 : Int32) + (3 : Int32)))).1 (by decide) (by decide) ?_
        refine XS.iload X143.here hx rfl (hb hby at_201) rfl ?_
        refine XS.ifNo X143.here hx rfl (hb hby at_203) rfl ((if0 _ _).trans (feq (by decide : ¬ ((1 : Int32) = (0 : Int32)))).1) ?_
        refine XS.aload X143.here hx rfl (hb hby at_206) rfl rfl ?_
        refine XS.iload X143.here hx rfl (hb hby at_208) rfl ?_
        refine st144 _ ?_
        refine XS.ifNo X144.here hx rfl (hb hby at_213) rfl ((if0 _ _).trans (feq (by decide : ¬ ((1 : Int32) = (0 : Int32)))).1) ?_
        refine XS.aload X144.here hx rfl (hb hby at_216) rfl rfl ?_
        refine XS.iload X144.here hx rfl (hb hby at_218) rfl ?_
        refine st145.trans ?_
        refine XS.iload X145.here hx rfl (hb hby at_223) rfl ?_
        refine XS.icmpNo X145.here hx rfl (hb hby at_225) rfl (teq rfl).2 ?_
        refine XS.aload X145.here hx rfl (hb hby at_228) rfl rfl ?_
        refine XS.iload X145.here hx rfl (hb hby at_230) rfl ?_
        refine XS.iconst X145.here hx rfl (hb hby at_232) ?_
        refine XS.iadd X145.here hx rfl (hb hby at_233) rfl ?_
        refine st146.trans ?_
        refine XS.iload X146.here hx rfl (hb hby at_237) rfl ?_
        refine XS.icmpNo X146.here hx rfl (hb hby at_239) rfl (teq rfl).2 ?_
        refine XS.aload X146.here hx rfl (hb hby at_242) rfl rfl ?_
        refine XS.iload X146.here hx rfl (hb hby at_244) rfl ?_
        refine XS.iconst X146.here hx rfl (hb hby at_246) ?_
        refine XS.iadd X146.here hx rfl (hb hby at_247) rfl ?_
        refine st147.trans ?_
        show Steps _ _ _ (T147.setTop (mkF m 251 #[It p1, It p2, It p3, It (1 : Int32), It u3, It u5, It u7, It u9, Rf b11, It (1 : Int32), Rf rs_139, It (4 : Int32)] [(.int (10 : Int32))])) _
        refine XS.bipush X147.here hx rfl (hb hby at_251) ?_
        refine XS.icmpNo X147.here hx rfl (hb hby at_253) rfl (teq (by decide : (10 : Int32) = (10 : Int32))).2 ?_
        refine XS.iconst X147.here hx rfl (hb hby at_256) ?_
        refine XS.goto X147.here hx rfl (pc0 := 257) (pc' := 261) rfl (hb hby at_257) (by decide) (by decide) ?_
        exact kt
      obtain ⟨fs, hr, hrun, hended, hRW⟩ := X147.leaveW Y137 (show _ ≤ T147.heap.size by rw [e147]; exact (Nat.le_trans (Nat.le_refl _) K139q.1)) (v := some (.int (1 : Int32))) (fun h => by rw [Bd.returns] at h; cases h)
      refine ⟨_, _, pre0 _ (sg2 _ (sg4 _ (sg6 _ (sg8 _ (sg10 _ (sg16 _ (sg23 _ (sg37 _ (sg51 _ (sg65 _ (sg79 _ (sg89 _ (sg96 _ (sg120 _ (sg142 _ (sg148 _ (?_))))))))))))))))), hrun, hended, _, _, rfl, ?_, (by rw [hh]; show CHr Z own_EL s.vm h0 T147.vm T147.heap; rw [e147]; exact CR140.trans (CHv.at X147 hZ137 hEL CR140.1)), hRW.1, hRW.2.1, hRW.2.2.1, hRW.2.2.2.mono (by decide) (by decide)⟩
      · show Steps _ _ _ (T147.setTop (mkF m 261 #[It p1, It p2, It p3, It (1 : Int32), It u3, It u5, It u7, It u9, Rf b11, It (1 : Int32), Rf rs_139, It (4 : Int32)] [(.int (1 : Int32))])) _
        exact retN X147 hx (t := .boolean) Bd.returns (by simp) (hb hby at_261) hr
      · show Q0 Z p1 p2 p3 vFM zC h0 n0 _ T147.heap _
        rw [e147]
        exact ⟨rfl, N147, K139, O139⟩
    · by_cases hc149 : u1 = (2 : Int32)
      · subst hc149
        have VL150 : Arv Z T118.heap t118 kb118 .byte (2 : Int32) [.int (StrChars.lo8 (nar .char u7)), .int (StrChars.lo8 (nar .char u9))] (.int (0 : Int32)) := V118
        obtain ⟨cq151, kq151, q151a, q151b, q151c⟩ := isOf hZ96 rfl (((((((((((((A11.keep K14q).keep K23).keep K37).keep K51).keep K65).keep K79).keep K87q).keep K96).ext E104).ext E107).wr W111).wr W115).keep K118q)
        obtain ⟨_, _, ⟨T151, L151, k151, n151⟩, -, X151, Y151, G151, ⟨Lc151, hQ151, l151, y151, z151, C151⟩, st151⟩ := X118.virtualBackS hx (y := m_33) (z := m_33) hown96 (mvT hZ96 (tw hw 69 rfl)) (mvT hZ96 (tw hw 70 rfl)) (notFace_of_selects (args := #[]) (mvT hZ96 (tw hw 72 rfl))) (mvT hZ96 (tw hw 72 rfl)) (mvT hZ96 (tw hw 71 rfl)) (by decide) (own_backSH (W := 0) (rm12_22 l Z a0 hw [] b11 b104 sb_14 ro_14 t118 ([.int (StrChars.lo8 (nar .char u7)), .int (StrChars.lo8 (nar .char u9))]) zC ko_14 kb118 T118.heap n0 O118 sC (((((((((((((A11.keep K14q).keep K23).keep K37).keep K51).keep K65).keep K79).keep K87q).keep K96).ext E104).ext E107).wr W111).wr W115).keep K118q) (((((FT96.ext E104).ext E107).other W111 (Or.inl (Nat.ne_of_lt (Nat.lt_of_lt_of_le (((((((((A11.keep K14q).keep K23).keep K37).keep K51).keep K65).keep K79).keep K87q).keep K96).ext E104).lt (Nat.le_of_eq g107.symm))))).other W115 (Or.inl (Nat.ne_of_lt (Nat.lt_of_lt_of_le (((((((((A11.keep K14q).keep K23).keep K37).keep K51).keep K65).keep K79).keep K87q).keep K96).ext E104).lt (Nat.le_of_eq g107.symm))))).keep K118q (ninS (Nat.ne_of_lt (Nat.lt_of_lt_of_le ((((((((A11.keep K14q).keep K23).keep K37).keep K51).keep K65).keep K79).keep K87q).keep K96).lt (Nat.le_of_eq g104.symm))) nin0)) (((((FDz.ext E104).ext E107).other W111 (Or.inl (Nat.ne_of_lt (Nat.lt_of_lt_of_le (((((((((A11.keep K14q).keep K23).keep K37).keep K51).keep K65).keep K79).keep K87q).keep K96).ext E104).lt (Nat.le_of_eq g107.symm))))).other W115 (Or.inl (Nat.ne_of_lt (Nat.lt_of_lt_of_le (((((((((A11.keep K14q).keep K23).keep K37).keep K51).keep K65).keep K79).keep K87q).keep K96).ext E104).lt (Nat.le_of_eq g107.symm))))).keep K118q (ninS (Nat.ne_of_lt (Nat.lt_of_lt_of_le ((((((((A11.keep K14q).keep K23).keep K37).keep K51).keep K65).keep K79).keep K87q).keep K96).lt (Nat.le_of_eq g104.symm))) nin0)) (((((Rn100.ext E104).ext E107).wr W111).wr W115).keep K118q) (((((Rn103.ext E104).ext E107).other W111 (Or.inl (Nat.ne_of_lt (Nat.lt_of_lt_of_le (Rn100.ext E104).lt (Nat.le_of_eq g107.symm))))).other W115 (Or.inl (Nat.ne_of_lt (Nat.lt_of_lt_of_le (Rn100.ext E104).lt (Nat.le_of_eq g107.symm))))).keep K118q (ninS (Nat.ne_of_lt (Nat.lt_of_lt_of_le Rn100.lt (Nat.le_of_eq g104.symm))) nin0)) (((((Rn101.ext E104).ext E107).other W111 (Or.inl (Nat.ne_of_lt (Nat.lt_of_lt_of_le (Rn100.ext E104).lt (Nat.le_of_eq g107.symm))))).other W115 (Or.inl (Nat.ne_of_lt (Nat.lt_of_lt_of_le (Rn100.ext E104).lt (Nat.le_of_eq g107.symm))))).keep K118q (ninS (Nat.ne_of_lt (Nat.lt_of_lt_of_le Rn100.lt (Nat.le_of_eq g104.symm))) nin0)) (((((Rn102.ext E104).ext E107).other W111 (Or.inl (Nat.ne_of_lt (Nat.lt_of_lt_of_le (Rn100.ext E104).lt (Nat.le_of_eq g107.symm))))).other W115 (Or.inl (Nat.ne_of_lt (Nat.lt_of_lt_of_le (Rn100.ext E104).lt (Nat.le_of_eq g107.symm))))).keep K118q (ninS (Nat.ne_of_lt (Nat.lt_of_lt_of_le Rn100.lt (Nat.le_of_eq g104.symm))) nin0)) (((((Rn99.ext E104).ext E107).other W111 (Nat.ne_of_lt (Nat.lt_of_lt_of_le (Rn99.ext E104).lt (Nat.le_of_eq g107.symm)))).other W115 (Nat.ne_of_lt (Nat.lt_of_lt_of_le (Rn99.ext E104).lt (Nat.le_of_eq g107.symm)))).keep K118q (ninS (Nat.ne_of_lt (Nat.lt_of_lt_of_le Rn99.lt (Nat.le_of_eq g104.symm))) nin0)) A118 Fc118 Fv118 VL150 f14_7 f14_9 (Ne.symm (Nat.ne_of_lt (Nat.lt_of_lt_of_le ((((Rn99.ext E104).ext E107).other W111 (Nat.ne_of_lt (Nat.lt_of_lt_of_le (Rn99.ext E104).lt (Nat.le_of_eq g107.symm)))).other W115 (Nat.ne_of_lt (Nat.lt_of_lt_of_le (Rn99.ext E104).lt (Nat.le_of_eq g107.symm)))).lt bt118))) hCS) hZ96 (tw hw 73 rfl) (tw hw 2 rfl) (by decide) (by decide) hEL CR119.1 (((((Rn99.ext E104).ext E107).other W111 (Nat.ne_of_lt (Nat.lt_of_lt_of_le (Rn99.ext E104).lt (Nat.le_of_eq g107.symm)))).other W115 (Nat.ne_of_lt (Nat.lt_of_lt_of_le (Rn99.ext E104).lt (Nat.le_of_eq g107.symm)))).keep K118q (ninS (Nat.ne_of_lt (Nat.lt_of_lt_of_le Rn99.lt (Nat.le_of_eq g104.symm))) nin0)).lt (Safe.keep K118q (allS (Safe.wr W115 (own_safearr hZ96.alike V111 (by decide)) CR113.1 (Safe.wr W111 (own_safearr hZ96.alike V_b107 (by decide)) CR109.1 (Safe.ext E107 CR106.1 (Safe.ext E104 CR_96.1 (Safe.new (Nat.le_of_eq g104.symm)))))) all0) CR117.1 (Safe.wr W115 (own_safearr hZ96.alike V111 (by decide)) CR113.1 (Safe.wr W111 (own_safearr hZ96.alike V_b107 (by decide)) CR109.1 (Safe.ext E107 CR106.1 (Safe.ext E104 CR_96.1 Rn97)))))) q151a q151c (g := (mkF m 171 #[It p1, It p2, It p3, It (2 : Int32), It u3, It u5, It u7, It u9, Rf b11, It (1 : Int32), .unset, .unset] [(.ref b104), (.ref b11)])) rfl (by rw [hml]; rfl) (Steps.refl _) (argsL := [(.ref b104)]) (rest := []) (lenOf pd_29 rfl) rfl (w0 rfl) (hb hby at_171) (fun _ _ => ⟨rfl, rfl, (by decide : 6 + 4 ≤ _), (by decide : 30 + 32 ≤ _)⟩)
        dsimp only [Pt.U, Pt.locs, Pt.cells, Pt.slots] at X151 l151 y151 z151 st151 hQ151 Y151 G151 C151
        subst l151 y151 z151
        obtain ⟨rfl, N151q, K151q, O151, f151_0, f151_1, f151_2, f151_3⟩ := hQ151
        have N151 := Fr.app N118 N151q
        obtain ⟨X151, Y151, hZ151, hown151⟩ := rebS Y96 (Nat.le_trans (Nat.le_trans (Nat.le_trans (Nat.le_trans (Nat.le_trans Yk96 E104.1) E107.1) (Keep.of_wr W111).1) (Keep.of_wr W115).1) K118q.1) X151 Y151 G151 hZ96 hown96
        have CR152 := CR119.trans (C151)
        have Sf151_sb_14 := (C151.safe (((((Rn100.ext E104).ext E107).wr W111).wr W115).keep K118q).lt (Safe.keep K118q (allS (Safe.wr W115 (own_safearr hZ96.alike V111 (by decide)) CR113.1 (Safe.wr W111 (own_safearr hZ96.alike V_b107 (by decide)) CR109.1 (Safe.ext E107 CR106.1 (Safe.ext E104 CR_96.1 (Safe.new (Nat.le_of_eq g104.symm)))))) all0) CR117.1 (Safe.wr W115 (own_safearr hZ96.alike V111 (by decide)) CR113.1 (Safe.wr W111 (own_safearr hZ96.alike V_b107 (by decide)) CR109.1 (Safe.ext E107 CR106.1 (Safe.ext E104 CR_96.1 Rn98))))))
        have Sf151_ro_14 := (C151.safe (((((Rn99.ext E104).ext E107).other W111 (Nat.ne_of_lt (Nat.lt_of_lt_of_le (Rn99.ext E104).lt (Nat.le_of_eq g107.symm)))).other W115 (Nat.ne_of_lt (Nat.lt_of_lt_of_le (Rn99.ext E104).lt (Nat.le_of_eq g107.symm)))).keep K118q (ninS (Nat.ne_of_lt (Nat.lt_of_lt_of_le Rn99.lt (Nat.le_of_eq g104.symm))) nin0)).lt (Safe.keep K118q (allS (Safe.wr W115 (own_safearr hZ96.alike V111 (by decide)) CR113.1 (Safe.wr W111 (own_safearr hZ96.alike V_b107 (by decide)) CR109.1 (Safe.ext E107 CR106.1 (Safe.ext E104 CR_96.1 (Safe.new (Nat.le_of_eq g104.symm)))))) all0) CR117.1 (Safe.wr W115 (own_safearr hZ96.alike V111 (by decide)) CR113.1 (Safe.wr W111 (own_safearr hZ96.alike V_b107 (by decide)) CR109.1 (Safe.ext E107 CR106.1 (Safe.ext E104 CR_96.1 Rn97))))))
        have K151 := K118.trans K151q (allS (Or.inr (Nat.le_trans K11.1 f14_8)) (allS (Or.inr (Nat.le_trans K11.1 f14_10)) all0))
        obtain ⟨cq153, kq153, q153a, q153b, q153c⟩ := isOf hZ151 rfl ((((((((((((((A11.keep K14q).keep K23).keep K37).keep K51).keep K65).keep K79).keep K87q).keep K96).ext E104).ext E107).wr W111).wr W115).keep K118q).keep K151q)
        obtain ⟨_, _, ⟨T153, L153, k153, n153⟩, -, X153, ⟨Lc153, hQ153, l153, y153, z153⟩, st153⟩ := X151.virtualBack hx (y := m_29) (z := m_29) hown151 (mvT hZ151 (tw hw 153 rfl)) (mvT hZ151 (tw hw 154 rfl)) (notFace_of_selects (args := #[]) (mvT hZ151 (tw hw 156 rfl))) (mvT hZ151 (tw hw 156 rfl)) (mvT hZ151 (tw hw 155 rfl)) (by decide) (backOf (W := 0) (rm27 l Z a0 hw [] b11 ro_14 (11 : Int32) 11 ((cpy (cpy z16 0 (cpy (cpy z16 0 s4 0 4) 4 (cpy z16 0 s4 0 4) 0 4) 0 8) 8 [.int (StrChars.lo8 (nar .char u7)), .int (StrChars.lo8 (nar .char u9))] 0 2).set 10 (.int ((10 : Int32).toInt8.toInt32.toInt8.toInt32))) sb_14 zC ko_14 T151.heap n0 O151 hCS sC ((((((FT96.ext E104).ext E107).other W111 (Or.inl (Nat.ne_of_lt (Nat.lt_of_lt_of_le (((((((((A11.keep K14q).keep K23).keep K37).keep K51).keep K65).keep K79).keep K87q).keep K96).ext E104).lt (Nat.le_of_eq g107.symm))))).other W115 (Or.inl (Nat.ne_of_lt (Nat.lt_of_lt_of_le (((((((((A11.keep K14q).keep K23).keep K37).keep K51).keep K65).keep K79).keep K87q).keep K96).ext E104).lt (Nat.le_of_eq g107.symm))))).keep K118q (ninS (Nat.ne_of_lt (Nat.lt_of_lt_of_le ((((((((A11.keep K14q).keep K23).keep K37).keep K51).keep K65).keep K79).keep K87q).keep K96).lt (Nat.le_of_eq g104.symm))) nin0)).keep K151q (ninS (Nat.ne_of_lt (Nat.lt_of_lt_of_le A11.lt f14_8)) (ninS (Nat.ne_of_lt (Nat.lt_of_lt_of_le A11.lt f14_10)) nin0))) ((((((Rn100.ext E104).ext E107).wr W111).wr W115).keep K118q).keep K151q) f151_0 f151_1 f151_2 f151_3 (Sm.lit (x := (11 : Int32)) (n := 11) (by decide)) (by decide)) hZ151 (tw hw 157 rfl) (tw hw 2 rfl) (by decide) (by decide)) q153a q153c (g := (mkF m 177 #[It p1, It p2, It p3, It (2 : Int32), It u3, It u5, It u7, It u9, Rf b11, It (1 : Int32), .unset, .unset] [(.ref b11)])) rfl (by rw [hml]; rfl) (Steps.refl _) (argsL := []) (rest := []) (lenOf pd_17 rfl) rfl (w0 rfl) (hb hby at_177) (fun _ _ => ⟨rfl, rfl, (by decide : 10 + 2 ≤ _), (by decide : 62 + 20 ≤ _)⟩)
        dsimp only [Pt.U, Pt.locs, Pt.cells, Pt.slots] at X153 l153 y153 z153 st153 hQ153
        subst l153 y153 z153
        obtain ⟨rs_153, ro_153, ko_153, rfl, N153q, K153q, O153, f153_0, f153_1, f153_2, f153_3, f153_4, f153_5, f153_6, f153_7⟩ := hQ153
        have N153 := Fr.app N151 N153q
        have CR154 := CR152.trans (CHr.keep K153q all0 CR152.1)
        have K153 := K151.trans K153q all0
        have VO153 : Arv Z T153.heap ro_153 ko_153 .byte (11 : Int32) [.int (32 : Int32), .int (32 : Int32), .int (32 : Int32), .int (32 : Int32), .int (32 : Int32), .int (32 : Int32), .int (32 : Int32), .int (32 : Int32), .int (StrChars.lo8 (nar .char u7)), .int (StrChars.lo8 (nar .char u9)), .int (10 : Int32), .int (0 : Int32), .int (0 : Int32), .int (0 : Int32), .int (0 : Int32), .int (0 : Int32)] (.int (0 : Int32)) := f153_5
        obtain ⟨u155, hu155⟩ : ∃ z, z = ((4 : Int32) * (2 : Int32)) := ⟨_, rfl⟩
        have sg156 : SG p.tables e below (T153.setTop (mkF m 185 #[It p1, It p2, It p3, It (2 : Int32), It u3, It u5, It u7, It u9, Rf b11, It (1 : Int32), Rf rs_153, .unset] [(.int u155)])) (T118.setTop (mkF m 171 #[It p1, It p2, It p3, It (2 : Int32), It u3, It u5, It u7, It u9, Rf b11, It (1 : Int32), .unset, .unset] [(.ref b104), (.ref b11)])) := by
          intro target kt
          subst hu155
          show Steps _ _ _ (T118.setTop (mkF m 171 #[It p1, It p2, It p3, It (2 : Int32), It u3, It u5, It u7, It u9, Rf b11, It (1 : Int32), .unset, .unset] [(.ref b104), (.ref b11)])) _
          refine st151.trans ?_
          refine XS.pop X151.here hx rfl (hb hby at_174) rfl rfl ?_
          refine XS.aload X151.here hx rfl (hb hby at_175) rfl rfl ?_
          refine st153.trans ?_
          refine XS.astore X153.here hx rfl (hb hby at_180) rfl rfl (l' := #[It p1, It p2, It p3, It (2 : Int32), It u3, It u5, It u7, It u9, Rf b11, It (1 : Int32), Rf rs_153, .unset]) rfl ?_
          refine XS.iconst X153.here hx rfl (hb hby at_182) ?_
          refine XS.iloadN X153.here hx rfl (hb hby at_183) rfl ?_
          refine XS.imul X153.here hx rfl (hb hby at_184) rfl ?_
          exact kt
        have hk_u155 : u155 = (8 : Int32) := by rw [hu155]; decide
        subst hk_u155
        obtain ⟨cq157, kq157, q157a, q157b, q157c⟩ := isOf hZ151 rfl f153_0
        obtain ⟨_, _, ⟨T157, L157, k157, n157⟩, -, X157, ⟨Lc157, hQ157, l157, y157, z157⟩, st157⟩ := X153.virtualBack hx (y := m_2) (z := m_2) hown151 (mvT hZ151 (tw hw 199 rfl)) (mvT hZ151 (tw hw 99 rfl)) (notFace_of_selects (args := #[]) (mvT hZ151 (tw hw 101 rfl))) (mvT hZ151 (tw hw 101 rfl)) (mvT hZ151 (tw hw 100 rfl)) (by decide) (backOf (W := 0) (rm17 l Z a0 hw [] rs_153 ro_153 (11 : Int32) ([.int (32 : Int32), .int (32 : Int32), .int (32 : Int32), .int (32 : Int32), .int (32 : Int32), .int (32 : Int32), .int (32 : Int32), .int (32 : Int32), .int (StrChars.lo8 (nar .char u7)), .int (StrChars.lo8 (nar .char u9)), .int (10 : Int32), .int (0 : Int32), .int (0 : Int32), .int (0 : Int32), .int (0 : Int32), .int (0 : Int32)]) zC ko_153 T153.heap n0 O153 hCS sC f153_0 f153_3 f153_4 VO153) hZ151 (tw hw 102 rfl) (tw hw 23 rfl) (by decide) (by decide)) q157a q157c (g := (mkF m 189 #[It p1, It p2, It p3, It (2 : Int32), It u3, It u5, It u7, It u9, Rf b11, It (1 : Int32), Rf rs_153, It (8 : Int32)] [(.ref rs_153)])) rfl (by rw [hml]; rfl) (Steps.refl _) (argsL := []) (rest := []) (lenOf pd_1 rfl) rfl (w0 rfl) (hb hby at_189) (fun _ _ => ⟨rfl, rfl, (by decide : 12 + 0 ≤ _), (by decide : 82 + 0 ≤ _)⟩)
        dsimp only [Pt.U, Pt.locs, Pt.cells, Pt.slots] at X157 l157 y157 z157 st157 hQ157
        subst l157 y157 z157
        obtain ⟨rfl, N157q, e157⟩ := hQ157
        have N157 := Fr.app N153 N157q
        obtain ⟨_, _, ⟨T158, L158, k158, n158⟩, -, X158, ⟨Lc158, hQ158, l158, y158, z158⟩, st158⟩ := Jvm.LawKit.callS X157 hx (y := m_39) hown151 (mvT hZ151 (tw hw 200 rfl)) (mvT hZ151 (tw hw 201 rfl)) (mvT hZ151 (tw hw 202 rfl)) (mvT hZ151 (tw hw 203 rfl)) (by decide) (backOf (W := 0) (rm38_2 l Z a0 hw [] rs_153 ro_153 (11 : Int32) 11 ([.int (32 : Int32), .int (32 : Int32), .int (32 : Int32), .int (32 : Int32), .int (32 : Int32), .int (32 : Int32), .int (32 : Int32), .int (32 : Int32), .int (StrChars.lo8 (nar .char u7)), .int (StrChars.lo8 (nar .char u9)), .int (10 : Int32), .int (0 : Int32), .int (0 : Int32), .int (0 : Int32), .int (0 : Int32), .int (0 : Int32)]) vFM zC ko_153 T153.heap n0 O153 hCS hFM (Sm.lit (x := (11 : Int32)) (n := 11) (by decide)) (by decide) rfl rfl rfl rfl rfl rfl rfl rfl sC sF f153_0 f153_3 f153_4 VO153) hZ151 (tw hw 203 rfl) (tw hw 202 rfl) (by decide) (by decide)) (g := (mkF m 210 #[It p1, It p2, It p3, It (2 : Int32), It u3, It u5, It u7, It u9, Rf b11, It (1 : Int32), Rf rs_153, It (8 : Int32)] [(.int (8 : Int32)), (.ref rs_153)])) rfl (by rw [hml]; rfl) (argsL := [(.ref rs_153), (.int (8 : Int32))]) (rest := []) (lenOf pd_30 rfl) rfl (w0 rfl) (hb hby at_210) (fun _ _ => ⟨rfl, e157, (by decide : 12 + 0 ≤ _), (by decide : 82 + 0 ≤ _)⟩)
        dsimp only [Pt.U, Pt.locs, Pt.cells, Pt.slots] at X158 l158 y158 z158 st158 hQ158
        subst l158 y158 z158
        obtain ⟨rfl, N158q, e158⟩ := hQ158
        have N158 := Fr.app N157 N158q
        obtain ⟨cq159, kq159, q159a, q159b, q159c⟩ := isOf hZ151 e158 f153_0
        obtain ⟨_, _, ⟨T159, L159, k159, n159⟩, -, X159, ⟨Lc159, hQ159, l159, y159, z159⟩, st159⟩ := X158.virtualBack hx (y := m_37) (z := m_37) hown151 (mvT hZ151 (tw hw 207 rfl)) (mvT hZ151 (tw hw 208 rfl)) (notFace_of_selects (args := #[]) (mvT hZ151 (tw hw 210 rfl))) (mvT hZ151 (tw hw 210 rfl)) (mvT hZ151 (tw hw 209 rfl)) (by decide) (backOf (W := 0) (rm40 l Z a0 hw [] rs_153 (8 : Int32) ro_153 (11 : Int32) 11 8 (StrChars.lo8 (nar .char u7)) u7 ([.int (32 : Int32), .int (32 : Int32), .int (32 : Int32), .int (32 : Int32), .int (32 : Int32), .int (32 : Int32), .int (32 : Int32), .int (32 : Int32), .int (StrChars.lo8 (nar .char u7)), .int (StrChars.lo8 (nar .char u9)), .int (10 : Int32), .int (0 : Int32), .int (0 : Int32), .int (0 : Int32), .int (0 : Int32), .int (0 : Int32)]) vFM zC ko_153 T153.heap n0 O153 hCS hFM (Sm.lit (x := (8 : Int32)) (n := 8) (by decide)) (Sm.lit (x := (11 : Int32)) (n := 11) (by decide)) (by decide) rfl (own_chb rg_u7) (own_narC rg_u7) sC sF f153_0 f153_3 f153_4 VO153) hZ151 (tw hw 211 rfl) (tw hw 23 rfl) (by decide) (by decide)) q159a q159c (g := (mkF m 220 #[It p1, It p2, It p3, It (2 : Int32), It u3, It u5, It u7, It u9, Rf b11, It (1 : Int32), Rf rs_153, It (8 : Int32)] [(.int (8 : Int32)), (.ref rs_153)])) rfl (by rw [hml]; rfl) (Steps.refl _) (argsL := [(.int (8 : Int32))]) (rest := []) (lenOf pd_25 rfl) rfl (w0 rfl) (hb hby at_220) (fun _ _ => ⟨rfl, e158, (by decide : 12 + 0 ≤ _), (by decide : 82 + 0 ≤ _)⟩)
        dsimp only [Pt.U, Pt.locs, Pt.cells, Pt.slots] at X159 l159 y159 z159 st159 hQ159
        subst l159 y159 z159
        obtain ⟨rfl, N159q, e159⟩ := hQ159
        have N159 := Fr.app N158 N159q
        obtain ⟨cq160, kq160, q160a, q160b, q160c⟩ := isOf hZ151 e159 f153_0
        obtain ⟨_, _, ⟨T160, L160, k160, n160⟩, -, X160, ⟨Lc160, hQ160, l160, y160, z160⟩, st160⟩ := X159.virtualBack hx (y := m_37) (z := m_37) hown151 (mvT hZ151 (tw hw 207 rfl)) (mvT hZ151 (tw hw 208 rfl)) (notFace_of_selects (args := #[]) (mvT hZ151 (tw hw 210 rfl))) (mvT hZ151 (tw hw 210 rfl)) (mvT hZ151 (tw hw 209 rfl)) (by decide) (backOf (W := 0) (rm40 l Z a0 hw [] rs_153 ((8 : Int32) + (1 : Int32)) ro_153 (11 : Int32) 11 9 (StrChars.lo8 (nar .char u9)) u9 ([.int (32 : Int32), .int (32 : Int32), .int (32 : Int32), .int (32 : Int32), .int (32 : Int32), .int (32 : Int32), .int (32 : Int32), .int (32 : Int32), .int (StrChars.lo8 (nar .char u7)), .int (StrChars.lo8 (nar .char u9)), .int (10 : Int32), .int (0 : Int32), .int (0 : Int32), .int (0 : Int32), .int (0 : Int32), .int (0 : Int32)]) vFM zC ko_153 T153.heap n0 O153 hCS hFM (Sm.lit (x := ((8 : Int32) + (1 : Int32))) (n := 9) (by decide)) (Sm.lit (x := (11 : Int32)) (n := 11) (by decide)) (by decide) rfl (own_chb rg_u9) (own_narC rg_u9) sC sF f153_0 f153_3 f153_4 VO153) hZ151 (tw hw 211 rfl) (tw hw 23 rfl) (by decide) (by decide)) q160a q160c (g := (mkF m 234 #[It p1, It p2, It p3, It (2 : Int32), It u3, It u5, It u7, It u9, Rf b11, It (1 : Int32), Rf rs_153, It (8 : Int32)] [(.int ((8 : Int32) + (1 : Int32))), (.ref rs_153)])) rfl (by rw [hml]; rfl) (Steps.refl _) (argsL := [(.int ((8 : Int32) + (1 : Int32)))]) (rest := []) (lenOf pd_25 rfl) rfl (w0 rfl) (hb hby at_234) (fun _ _ => ⟨rfl, e159, (by decide : 12 + 0 ≤ _), (by decide : 82 + 0 ≤ _)⟩)
        dsimp only [Pt.U, Pt.locs, Pt.cells, Pt.slots] at X160 l160 y160 z160 st160 hQ160
        subst l160 y160 z160
        obtain ⟨rfl, N160q, e160⟩ := hQ160
        have N160 := Fr.app N159 N160q
        obtain ⟨cq161, kq161, q161a, q161b, q161c⟩ := isOf hZ151 e160 f153_0
        obtain ⟨_, _, ⟨T161, L161, k161, n161⟩, -, X161, ⟨Lc161, hQ161, l161, y161, z161⟩, st161⟩ := X160.virtualBack hx (y := m_37) (z := m_37) hown151 (mvT hZ151 (tw hw 207 rfl)) (mvT hZ151 (tw hw 208 rfl)) (notFace_of_selects (args := #[]) (mvT hZ151 (tw hw 210 rfl))) (mvT hZ151 (tw hw 210 rfl)) (mvT hZ151 (tw hw 209 rfl)) (by decide) (backOf (W := 0) (rm40 l Z a0 hw [] rs_153 ((8 : Int32) + (2 : Int32)) ro_153 (11 : Int32) 11 10 (10 : Int32) (10 : Int32) ([.int (32 : Int32), .int (32 : Int32), .int (32 : Int32), .int (32 : Int32), .int (32 : Int32), .int (32 : Int32), .int (32 : Int32), .int (32 : Int32), .int (StrChars.lo8 (nar .char u7)), .int (StrChars.lo8 (nar .char u9)), .int (10 : Int32), .int (0 : Int32), .int (0 : Int32), .int (0 : Int32), .int (0 : Int32), .int (0 : Int32)]) vFM zC ko_153 T153.heap n0 O153 hCS hFM (Sm.lit (x := ((8 : Int32) + (2 : Int32))) (n := 10) (by decide)) (Sm.lit (x := (11 : Int32)) (n := 11) (by decide)) (by decide) rfl (by decide) (by decide) sC sF f153_0 f153_3 f153_4 VO153) hZ151 (tw hw 211 rfl) (tw hw 23 rfl) (by decide) (by decide)) q161a q161c (g := (mkF m 248 #[It p1, It p2, It p3, It (2 : Int32), It u3, It u5, It u7, It u9, Rf b11, It (1 : Int32), Rf rs_153, It (8 : Int32)] [(.int ((8 : Int32) + (2 : Int32))), (.ref rs_153)])) rfl (by rw [hml]; rfl) (Steps.refl _) (argsL := [(.int ((8 : Int32) + (2 : Int32)))]) (rest := []) (lenOf pd_25 rfl) rfl (w0 rfl) (hb hby at_248) (fun _ _ => ⟨rfl, e160, (by decide : 12 + 0 ≤ _), (by decide : 82 + 0 ≤ _)⟩)
        dsimp only [Pt.U, Pt.locs, Pt.cells, Pt.slots] at X161 l161 y161 z161 st161 hQ161
        subst l161 y161 z161
        obtain ⟨rfl, N161q, e161⟩ := hQ161
        have N161 := Fr.app N160 N161q
        have sg162 : SG p.tables e below (T161.setTop (mkF m 261 #[It p1, It p2, It p3, It (2 : Int32), It u3, It u5, It u7, It u9, Rf b11, It (1 : Int32), Rf rs_153, It (8 : Int32)] [(.int (1 : Int32))])) (T153.setTop (mkF m 185 #[It p1, It p2, It p3, It (2 : Int32), It u3, It u5, It u7, It u9, Rf b11, It (1 : Int32), Rf rs_153, .unset] [(.int (8 : Int32))])) := by
          intro target kt
          show Steps _ _ _ (T153.setTop (mkF m 185 #[It p1, It p2, It p3, It (2 : Int32), It u3, It u5, It u7, It u9, Rf b11, It (1 : Int32), Rf rs_153, .unset] [(.int (8 : Int32))])) _
          refine XS.istore X153.here hx rfl (hb hby at_185) rfl (l' := #[It p1, It p2, It p3, It (2 : Int32), It u3, It u5, It u7, It u9, Rf b11, It (1 : Int32), Rf rs_153, It (8 : Int32)]) rfl ?_
          refine XS.aload X153.here hx rfl (hb hby at_187) rfl rfl ?_
          refine st157.trans ?_
          refine XS.iload X157.here hx rfl (hb hby at_192) rfl ?_
          refine XS.iconst X157.here hx rfl (hb hby at_194) ?_
          refine XS.iadd X157.here hx rfl (hb hby at_195) rfl ?_
          refine XS.icmpYes X157.here hx rfl (pc0 := 196) (pc' := 201) rfl (hb hby at_196) rfl (teq (by decide : (11 : Int32) = ((8 : Int32) + (3 : Int32)))).1 (by decide) (by decide) ?_
          refine XS.iload X157.here hx rfl (hb hby at_201) rfl ?_
          refine XS.ifNo X157.here hx rfl (hb hby at_203) rfl ((if0 _ _).trans (feq (by decide : ¬ ((1 : Int32) = (0 : Int32)))).1) ?_
          refine XS.aload X157.here hx rfl (hb hby at_206) rfl rfl ?_
          refine XS.iload X157.here hx rfl (hb hby at_208) rfl ?_
          refine st158 _ ?_
          refine XS.ifNo X158.here hx rfl (hb hby at_213) rfl ((if0 _ _).trans (feq (by decide : ¬ ((1 : Int32) = (0 : Int32)))).1) ?_
          refine XS.aload X158.here hx rfl (hb hby at_216) rfl rfl ?_
          refine XS.iload X158.here hx rfl (hb hby at_218) rfl ?_
          refine st159.trans ?_
          refine XS.iload X159.here hx rfl (hb hby at_223) rfl ?_
          refine XS.icmpNo X159.here hx rfl (hb hby at_225) rfl (teq rfl).2 ?_
          refine XS.aload X159.here hx rfl (hb hby at_228) rfl rfl ?_
          refine XS.iload X159.here hx rfl (hb hby at_230) rfl ?_
          refine XS.iconst X159.here hx rfl (hb hby at_232) ?_
          refine XS.iadd X159.here hx rfl (hb hby at_233) rfl ?_
          refine st160.trans ?_
          refine XS.iload X160.here hx rfl (hb hby at_237) rfl ?_
          refine XS.icmpNo X160.here hx rfl (hb hby at_239) rfl (teq rfl).2 ?_
          refine XS.aload X160.here hx rfl (hb hby at_242) rfl rfl ?_
          refine XS.iload X160.here hx rfl (hb hby at_244) rfl ?_
          refine XS.iconst X160.here hx rfl (hb hby at_246) ?_
          refine XS.iadd X160.here hx rfl (hb hby at_247) rfl ?_
          refine st161.trans ?_
          show Steps _ _ _ (T161.setTop (mkF m 251 #[It p1, It p2, It p3, It (2 : Int32), It u3, It u5, It u7, It u9, Rf b11, It (1 : Int32), Rf rs_153, It (8 : Int32)] [(.int (10 : Int32))])) _
          refine XS.bipush X161.here hx rfl (hb hby at_251) ?_
          refine XS.icmpNo X161.here hx rfl (hb hby at_253) rfl (teq (by decide : (10 : Int32) = (10 : Int32))).2 ?_
          refine XS.iconst X161.here hx rfl (hb hby at_256) ?_
          refine XS.goto X161.here hx rfl (pc0 := 257) (pc' := 261) rfl (hb hby at_257) (by decide) (by decide) ?_
          exact kt
        obtain ⟨fs, hr, hrun, hended, hRW⟩ := X161.leaveW Y151 (show _ ≤ T161.heap.size by rw [e161]; exact (Nat.le_trans (Nat.le_refl _) K153q.1)) (v := some (.int (1 : Int32))) (fun h => by rw [Bd.returns] at h; cases h)
        refine ⟨_, _, pre0 _ (sg2 _ (sg4 _ (sg6 _ (sg8 _ (sg10 _ (sg16 _ (sg23 _ (sg37 _ (sg51 _ (sg65 _ (sg79 _ (sg89 _ (sg96 _ (sg120 _ (sg156 _ (sg162 _ (?_))))))))))))))))), hrun, hended, _, _, rfl, ?_, (by rw [hh]; show CHr Z own_EL s.vm h0 T161.vm T161.heap; rw [e161]; exact CR154.trans (CHv.at X161 hZ151 hEL CR154.1)), hRW.1, hRW.2.1, hRW.2.2.1, hRW.2.2.2.mono (by decide) (by decide)⟩
        · show Steps _ _ _ (T161.setTop (mkF m 261 #[It p1, It p2, It p3, It (2 : Int32), It u3, It u5, It u7, It u9, Rf b11, It (1 : Int32), Rf rs_153, It (8 : Int32)] [(.int (1 : Int32))])) _
          exact retN X161 hx (t := .boolean) Bd.returns (by simp) (hb hby at_261) hr
        · show Q0 Z p1 p2 p3 vFM zC h0 n0 _ T161.heap _
          rw [e161]
          exact ⟨rfl, N161, K153, O153⟩
      · have hn3 : u1 = (3 : Int32) := own_and3 hu1 hc121 hc135 hc149
        subst hn3
        have VL163 : Arv Z T118.heap t118 kb118 .byte (2 : Int32) [.int (StrChars.lo8 (nar .char u7)), .int (StrChars.lo8 (nar .char u9))] (.int (0 : Int32)) := V118
        obtain ⟨cq164, kq164, q164a, q164b, q164c⟩ := isOf hZ96 rfl (((((((((((((A11.keep K14q).keep K23).keep K37).keep K51).keep K65).keep K79).keep K87q).keep K96).ext E104).ext E107).wr W111).wr W115).keep K118q)
        obtain ⟨_, _, ⟨T164, L164, k164, n164⟩, -, X164, Y164, G164, ⟨Lc164, hQ164, l164, y164, z164, C164⟩, st164⟩ := X118.virtualBackS hx (y := m_33) (z := m_33) hown96 (mvT hZ96 (tw hw 69 rfl)) (mvT hZ96 (tw hw 70 rfl)) (notFace_of_selects (args := #[]) (mvT hZ96 (tw hw 72 rfl))) (mvT hZ96 (tw hw 72 rfl)) (mvT hZ96 (tw hw 71 rfl)) (by decide) (own_backSH (W := 0) (rm12_32 l Z a0 hw [] b11 b104 sb_14 ro_14 t118 ([.int (StrChars.lo8 (nar .char u7)), .int (StrChars.lo8 (nar .char u9))]) zC ko_14 kb118 T118.heap n0 O118 sC (((((((((((((A11.keep K14q).keep K23).keep K37).keep K51).keep K65).keep K79).keep K87q).keep K96).ext E104).ext E107).wr W111).wr W115).keep K118q) (((((FT96.ext E104).ext E107).other W111 (Or.inl (Nat.ne_of_lt (Nat.lt_of_lt_of_le (((((((((A11.keep K14q).keep K23).keep K37).keep K51).keep K65).keep K79).keep K87q).keep K96).ext E104).lt (Nat.le_of_eq g107.symm))))).other W115 (Or.inl (Nat.ne_of_lt (Nat.lt_of_lt_of_le (((((((((A11.keep K14q).keep K23).keep K37).keep K51).keep K65).keep K79).keep K87q).keep K96).ext E104).lt (Nat.le_of_eq g107.symm))))).keep K118q (ninS (Nat.ne_of_lt (Nat.lt_of_lt_of_le ((((((((A11.keep K14q).keep K23).keep K37).keep K51).keep K65).keep K79).keep K87q).keep K96).lt (Nat.le_of_eq g104.symm))) nin0)) (((((FDz.ext E104).ext E107).other W111 (Or.inl (Nat.ne_of_lt (Nat.lt_of_lt_of_le (((((((((A11.keep K14q).keep K23).keep K37).keep K51).keep K65).keep K79).keep K87q).keep K96).ext E104).lt (Nat.le_of_eq g107.symm))))).other W115 (Or.inl (Nat.ne_of_lt (Nat.lt_of_lt_of_le (((((((((A11.keep K14q).keep K23).keep K37).keep K51).keep K65).keep K79).keep K87q).keep K96).ext E104).lt (Nat.le_of_eq g107.symm))))).keep K118q (ninS (Nat.ne_of_lt (Nat.lt_of_lt_of_le ((((((((A11.keep K14q).keep K23).keep K37).keep K51).keep K65).keep K79).keep K87q).keep K96).lt (Nat.le_of_eq g104.symm))) nin0)) (((((Rn100.ext E104).ext E107).wr W111).wr W115).keep K118q) (((((Rn103.ext E104).ext E107).other W111 (Or.inl (Nat.ne_of_lt (Nat.lt_of_lt_of_le (Rn100.ext E104).lt (Nat.le_of_eq g107.symm))))).other W115 (Or.inl (Nat.ne_of_lt (Nat.lt_of_lt_of_le (Rn100.ext E104).lt (Nat.le_of_eq g107.symm))))).keep K118q (ninS (Nat.ne_of_lt (Nat.lt_of_lt_of_le Rn100.lt (Nat.le_of_eq g104.symm))) nin0)) (((((Rn101.ext E104).ext E107).other W111 (Or.inl (Nat.ne_of_lt (Nat.lt_of_lt_of_le (Rn100.ext E104).lt (Nat.le_of_eq g107.symm))))).other W115 (Or.inl (Nat.ne_of_lt (Nat.lt_of_lt_of_le (Rn100.ext E104).lt (Nat.le_of_eq g107.symm))))).keep K118q (ninS (Nat.ne_of_lt (Nat.lt_of_lt_of_le Rn100.lt (Nat.le_of_eq g104.symm))) nin0)) (((((Rn102.ext E104).ext E107).other W111 (Or.inl (Nat.ne_of_lt (Nat.lt_of_lt_of_le (Rn100.ext E104).lt (Nat.le_of_eq g107.symm))))).other W115 (Or.inl (Nat.ne_of_lt (Nat.lt_of_lt_of_le (Rn100.ext E104).lt (Nat.le_of_eq g107.symm))))).keep K118q (ninS (Nat.ne_of_lt (Nat.lt_of_lt_of_le Rn100.lt (Nat.le_of_eq g104.symm))) nin0)) (((((Rn99.ext E104).ext E107).other W111 (Nat.ne_of_lt (Nat.lt_of_lt_of_le (Rn99.ext E104).lt (Nat.le_of_eq g107.symm)))).other W115 (Nat.ne_of_lt (Nat.lt_of_lt_of_le (Rn99.ext E104).lt (Nat.le_of_eq g107.symm)))).keep K118q (ninS (Nat.ne_of_lt (Nat.lt_of_lt_of_le Rn99.lt (Nat.le_of_eq g104.symm))) nin0)) A118 Fc118 Fv118 VL163 f14_7 f14_9 (Ne.symm (Nat.ne_of_lt (Nat.lt_of_lt_of_le ((((Rn99.ext E104).ext E107).other W111 (Nat.ne_of_lt (Nat.lt_of_lt_of_le (Rn99.ext E104).lt (Nat.le_of_eq g107.symm)))).other W115 (Nat.ne_of_lt (Nat.lt_of_lt_of_le (Rn99.ext E104).lt (Nat.le_of_eq g107.symm)))).lt bt118))) hCS) hZ96 (tw hw 73 rfl) (tw hw 2 rfl) (by decide) (by decide) hEL CR119.1 (((((Rn99.ext E104).ext E107).other W111 (Nat.ne_of_lt (Nat.lt_of_lt_of_le (Rn99.ext E104).lt (Nat.le_of_eq g107.symm)))).other W115 (Nat.ne_of_lt (Nat.lt_of_lt_of_le (Rn99.ext E104).lt (Nat.le_of_eq g107.symm)))).keep K118q (ninS (Nat.ne_of_lt (Nat.lt_of_lt_of_le Rn99.lt (Nat.le_of_eq g104.symm))) nin0)).lt (Safe.keep K118q (allS (Safe.wr W115 (own_safearr hZ96.alike V111 (by decide)) CR113.1 (Safe.wr W111 (own_safearr hZ96.alike V_b107 (by decide)) CR109.1 (Safe.ext E107 CR106.1 (Safe.ext E104 CR_96.1 (Safe.new (Nat.le_of_eq g104.symm)))))) all0) CR117.1 (Safe.wr W115 (own_safearr hZ96.alike V111 (by decide)) CR113.1 (Safe.wr W111 (own_safearr hZ96.alike V_b107 (by decide)) CR109.1 (Safe.ext E107 CR106.1 (Safe.ext E104 CR_96.1 Rn97)))))) q164a q164c (g := (mkF m 171 #[It p1, It p2, It p3, It (3 : Int32), It u3, It u5, It u7, It u9, Rf b11, It (1 : Int32), .unset, .unset] [(.ref b104), (.ref b11)])) rfl (by rw [hml]; rfl) (Steps.refl _) (argsL := [(.ref b104)]) (rest := []) (lenOf pd_29 rfl) rfl (w0 rfl) (hb hby at_171) (fun _ _ => ⟨rfl, rfl, (by decide : 6 + 4 ≤ _), (by decide : 30 + 36 ≤ _)⟩)
        dsimp only [Pt.U, Pt.locs, Pt.cells, Pt.slots] at X164 l164 y164 z164 st164 hQ164 Y164 G164 C164
        subst l164 y164 z164
        obtain ⟨rfl, N164q, K164q, O164, f164_0, f164_1, f164_2, f164_3⟩ := hQ164
        have N164 := Fr.app N118 N164q
        obtain ⟨X164, Y164, hZ164, hown164⟩ := rebS Y96 (Nat.le_trans (Nat.le_trans (Nat.le_trans (Nat.le_trans (Nat.le_trans Yk96 E104.1) E107.1) (Keep.of_wr W111).1) (Keep.of_wr W115).1) K118q.1) X164 Y164 G164 hZ96 hown96
        have CR165 := CR119.trans (C164)
        have Sf164_sb_14 := (C164.safe (((((Rn100.ext E104).ext E107).wr W111).wr W115).keep K118q).lt (Safe.keep K118q (allS (Safe.wr W115 (own_safearr hZ96.alike V111 (by decide)) CR113.1 (Safe.wr W111 (own_safearr hZ96.alike V_b107 (by decide)) CR109.1 (Safe.ext E107 CR106.1 (Safe.ext E104 CR_96.1 (Safe.new (Nat.le_of_eq g104.symm)))))) all0) CR117.1 (Safe.wr W115 (own_safearr hZ96.alike V111 (by decide)) CR113.1 (Safe.wr W111 (own_safearr hZ96.alike V_b107 (by decide)) CR109.1 (Safe.ext E107 CR106.1 (Safe.ext E104 CR_96.1 Rn98))))))
        have Sf164_ro_14 := (C164.safe (((((Rn99.ext E104).ext E107).other W111 (Nat.ne_of_lt (Nat.lt_of_lt_of_le (Rn99.ext E104).lt (Nat.le_of_eq g107.symm)))).other W115 (Nat.ne_of_lt (Nat.lt_of_lt_of_le (Rn99.ext E104).lt (Nat.le_of_eq g107.symm)))).keep K118q (ninS (Nat.ne_of_lt (Nat.lt_of_lt_of_le Rn99.lt (Nat.le_of_eq g104.symm))) nin0)).lt (Safe.keep K118q (allS (Safe.wr W115 (own_safearr hZ96.alike V111 (by decide)) CR113.1 (Safe.wr W111 (own_safearr hZ96.alike V_b107 (by decide)) CR109.1 (Safe.ext E107 CR106.1 (Safe.ext E104 CR_96.1 (Safe.new (Nat.le_of_eq g104.symm)))))) all0) CR117.1 (Safe.wr W115 (own_safearr hZ96.alike V111 (by decide)) CR113.1 (Safe.wr W111 (own_safearr hZ96.alike V_b107 (by decide)) CR109.1 (Safe.ext E107 CR106.1 (Safe.ext E104 CR_96.1 Rn97))))))
        have K164 := K118.trans K164q (allS (Or.inr (Nat.le_trans K11.1 f14_8)) (allS (Or.inr (Nat.le_trans K11.1 f14_10)) all0))
        obtain ⟨cq166, kq166, q166a, q166b, q166c⟩ := isOf hZ164 rfl ((((((((((((((A11.keep K14q).keep K23).keep K37).keep K51).keep K65).keep K79).keep K87q).keep K96).ext E104).ext E107).wr W111).wr W115).keep K118q).keep K164q)
        obtain ⟨_, _, ⟨T166, L166, k166, n166⟩, -, X166, ⟨Lc166, hQ166, l166, y166, z166⟩, st166⟩ := X164.virtualBack hx (y := m_29) (z := m_29) hown164 (mvT hZ164 (tw hw 153 rfl)) (mvT hZ164 (tw hw 154 rfl)) (notFace_of_selects (args := #[]) (mvT hZ164 (tw hw 156 rfl))) (mvT hZ164 (tw hw 156 rfl)) (mvT hZ164 (tw hw 155 rfl)) (by decide) (backOf (W := 0) (rm27 l Z a0 hw [] b11 ro_14 (15 : Int32) 15 ((cpy (cpy z16 0 (cpy (cpy (cpy z16 0 s4 0 4) 4 (cpy z16 0 s4 0 4) 0 4) 8 (cpy (cpy z16 0 s4 0 4) 4 (cpy z16 0 s4 0 4) 0 4) 0 4) 0 12) 12 [.int (StrChars.lo8 (nar .char u7)), .int (StrChars.lo8 (nar .char u9))] 0 2).set 14 (.int ((10 : Int32).toInt8.toInt32.toInt8.toInt32))) sb_14 zC ko_14 T164.heap n0 O164 hCS sC ((((((FT96.ext E104).ext E107).other W111 (Or.inl (Nat.ne_of_lt (Nat.lt_of_lt_of_le (((((((((A11.keep K14q).keep K23).keep K37).keep K51).keep K65).keep K79).keep K87q).keep K96).ext E104).lt (Nat.le_of_eq g107.symm))))).other W115 (Or.inl (Nat.ne_of_lt (Nat.lt_of_lt_of_le (((((((((A11.keep K14q).keep K23).keep K37).keep K51).keep K65).keep K79).keep K87q).keep K96).ext E104).lt (Nat.le_of_eq g107.symm))))).keep K118q (ninS (Nat.ne_of_lt (Nat.lt_of_lt_of_le ((((((((A11.keep K14q).keep K23).keep K37).keep K51).keep K65).keep K79).keep K87q).keep K96).lt (Nat.le_of_eq g104.symm))) nin0)).keep K164q (ninS (Nat.ne_of_lt (Nat.lt_of_lt_of_le A11.lt f14_8)) (ninS (Nat.ne_of_lt (Nat.lt_of_lt_of_le A11.lt f14_10)) nin0))) ((((((Rn100.ext E104).ext E107).wr W111).wr W115).keep K118q).keep K164q) f164_0 f164_1 f164_2 f164_3 (Sm.lit (x := (15 : Int32)) (n := 15) (by decide)) (by decide)) hZ164 (tw hw 157 rfl) (tw hw 2 rfl) (by decide) (by decide)) q166a q166c (g := (mkF m 177 #[It p1, It p2, It p3, It (3 : Int32), It u3, It u5, It u7, It u9, Rf b11, It (1 : Int32), .unset, .unset] [(.ref b11)])) rfl (by rw [hml]; rfl) (Steps.refl _) (argsL := []) (rest := []) (lenOf pd_17 rfl) rfl (w0 rfl) (hb hby at_177) (fun _ _ => ⟨rfl, rfl, (by decide : 10 + 2 ≤ _), (by decide : 66 + 20 ≤ _)⟩)
        dsimp only [Pt.U, Pt.locs, Pt.cells, Pt.slots] at X166 l166 y166 z166 st166 hQ166
        subst l166 y166 z166
        obtain ⟨rs_166, ro_166, ko_166, rfl, N166q, K166q, O166, f166_0, f166_1, f166_2, f166_3, f166_4, f166_5, f166_6, f166_7⟩ := hQ166
        have N166 := Fr.app N164 N166q
        have CR167 := CR165.trans (CHr.keep K166q all0 CR165.1)
        have K166 := K164.trans K166q all0
        have VO166 : Arv Z T166.heap ro_166 ko_166 .byte (15 : Int32) [.int (32 : Int32), .int (32 : Int32), .int (32 : Int32), .int (32 : Int32), .int (32 : Int32), .int (32 : Int32), .int (32 : Int32), .int (32 : Int32), .int (32 : Int32), .int (32 : Int32), .int (32 : Int32), .int (32 : Int32), .int (StrChars.lo8 (nar .char u7)), .int (StrChars.lo8 (nar .char u9)), .int (10 : Int32), .int (0 : Int32)] (.int (0 : Int32)) := f166_5
        obtain ⟨u168, hu168⟩ : ∃ z, z = ((4 : Int32) * (3 : Int32)) := ⟨_, rfl⟩
        have sg169 : SG p.tables e below (T166.setTop (mkF m 185 #[It p1, It p2, It p3, It (3 : Int32), It u3, It u5, It u7, It u9, Rf b11, It (1 : Int32), Rf rs_166, .unset] [(.int u168)])) (T118.setTop (mkF m 171 #[It p1, It p2, It p3, It (3 : Int32), It u3, It u5, It u7, It u9, Rf b11, It (1 : Int32), .unset, .unset] [(.ref b104), (.ref b11)])) := by
          intro target kt
          subst hu168
          show Steps _ _ _ (T118.setTop (mkF m 171 #[It p1, It p2, It p3, It (3 : Int32), It u3, It u5, It u7, It u9, Rf b11, It (1 : Int32), .unset, .unset] [(.ref b104), (.ref b11)])) _
          refine st164.trans ?_
          refine XS.pop X164.here hx rfl (hb hby at_174) rfl rfl ?_
          refine XS.aload X164.here hx rfl (hb hby at_175) rfl rfl ?_
          refine st166.trans ?_
          refine XS.astore X166.here hx rfl (hb hby at_180) rfl rfl (l' := #[It p1, It p2, It p3, It (3 : Int32), It u3, It u5, It u7, It u9, Rf b11, It (1 : Int32), Rf rs_166, .unset]) rfl ?_
          refine XS.iconst X166.here hx rfl (hb hby at_182) ?_
          refine XS.iloadN X166.here hx rfl (hb hby at_183) rfl ?_
          refine XS.imul X166.here hx rfl (hb hby at_184) rfl ?_
          exact kt
        have hk_u168 : u168 = (12 : Int32) := by rw [hu168]; decide
        subst hk_u168
        obtain ⟨cq170, kq170, q170a, q170b, q170c⟩ := isOf hZ164 rfl f166_0
        obtain ⟨_, _, ⟨T170, L170, k170, n170⟩, -, X170, ⟨Lc170, hQ170, l170, y170, z170⟩, st170⟩ := X166.virtualBack hx (y := m_2) (z := m_2) hown164 (mvT hZ164 (tw hw 199 rfl)) (mvT hZ164 (tw hw 99 rfl)) (notFace_of_selects (args := #[]) (mvT hZ164 (tw hw 101 rfl))) (mvT hZ164 (tw hw 101 rfl)) (mvT hZ164 (tw hw 100 rfl)) (by decide) (backOf (W := 0) (rm17 l Z a0 hw [] rs_166 ro_166 (15 : Int32) ([.int (32 : Int32), .int (32 : Int32), .int (32 : Int32), .int (32 : Int32), .int (32 : Int32), .int (32 : Int32), .int (32 : Int32), .int (32 : Int32), .int (32 : Int32), .int (32 : Int32), .int (32 : Int32), .int (32 : Int32), .int (StrChars.lo8 (nar .char u7)), .int (StrChars.lo8 (nar .char u9)), .int (10 : Int32), .int (0 : Int32)]) zC ko_166 T166.heap n0 O166 hCS sC f166_0 f166_3 f166_4 VO166) hZ164 (tw hw 102 rfl) (tw hw 23 rfl) (by decide) (by decide)) q170a q170c (g := (mkF m 189 #[It p1, It p2, It p3, It (3 : Int32), It u3, It u5, It u7, It u9, Rf b11, It (1 : Int32), Rf rs_166, It (12 : Int32)] [(.ref rs_166)])) rfl (by rw [hml]; rfl) (Steps.refl _) (argsL := []) (rest := []) (lenOf pd_1 rfl) rfl (w0 rfl) (hb hby at_189) (fun _ _ => ⟨rfl, rfl, (by decide : 12 + 0 ≤ _), (by decide : 86 + 0 ≤ _)⟩)
        dsimp only [Pt.U, Pt.locs, Pt.cells, Pt.slots] at X170 l170 y170 z170 st170 hQ170
        subst l170 y170 z170
        obtain ⟨rfl, N170q, e170⟩ := hQ170
        have N170 := Fr.app N166 N170q
        obtain ⟨_, _, ⟨T171, L171, k171, n171⟩, -, X171, ⟨Lc171, hQ171, l171, y171, z171⟩, st171⟩ := Jvm.LawKit.callS X170 hx (y := m_39) hown164 (mvT hZ164 (tw hw 200 rfl)) (mvT hZ164 (tw hw 201 rfl)) (mvT hZ164 (tw hw 202 rfl)) (mvT hZ164 (tw hw 203 rfl)) (by decide) (backOf (W := 0) (rm38_3 l Z a0 hw [] rs_166 ro_166 (15 : Int32) 15 ([.int (32 : Int32), .int (32 : Int32), .int (32 : Int32), .int (32 : Int32), .int (32 : Int32), .int (32 : Int32), .int (32 : Int32), .int (32 : Int32), .int (32 : Int32), .int (32 : Int32), .int (32 : Int32), .int (32 : Int32), .int (StrChars.lo8 (nar .char u7)), .int (StrChars.lo8 (nar .char u9)), .int (10 : Int32), .int (0 : Int32)]) vFM zC ko_166 T166.heap n0 O166 hCS hFM (Sm.lit (x := (15 : Int32)) (n := 15) (by decide)) (by decide) rfl rfl rfl rfl rfl rfl rfl rfl rfl rfl rfl rfl sC sF f166_0 f166_3 f166_4 VO166) hZ164 (tw hw 203 rfl) (tw hw 202 rfl) (by decide) (by decide)) (g := (mkF m 210 #[It p1, It p2, It p3, It (3 : Int32), It u3, It u5, It u7, It u9, Rf b11, It (1 : Int32), Rf rs_166, It (12 : Int32)] [(.int (12 : Int32)), (.ref rs_166)])) rfl (by rw [hml]; rfl) (argsL := [(.ref rs_166), (.int (12 : Int32))]) (rest := []) (lenOf pd_30 rfl) rfl (w0 rfl) (hb hby at_210) (fun _ _ => ⟨rfl, e170, (by decide : 12 + 0 ≤ _), (by decide : 86 + 0 ≤ _)⟩)
        dsimp only [Pt.U, Pt.locs, Pt.cells, Pt.slots] at X171 l171 y171 z171 st171 hQ171
        subst l171 y171 z171
        obtain ⟨rfl, N171q, e171⟩ := hQ171
        have N171 := Fr.app N170 N171q
        obtain ⟨cq172, kq172, q172a, q172b, q172c⟩ := isOf hZ164 e171 f166_0
        obtain ⟨_, _, ⟨T172, L172, k172, n172⟩, -, X172, ⟨Lc172, hQ172, l172, y172, z172⟩, st172⟩ := X171.virtualBack hx (y := m_37) (z := m_37) hown164 (mvT hZ164 (tw hw 207 rfl)) (mvT hZ164 (tw hw 208 rfl)) (notFace_of_selects (args := #[]) (mvT hZ164 (tw hw 210 rfl))) (mvT hZ164 (tw hw 210 rfl)) (mvT hZ164 (tw hw 209 rfl)) (by decide) (backOf (W := 0) (rm40 l Z a0 hw [] rs_166 (12 : Int32) ro_166 (15 : Int32) 15 12 (StrChars.lo8 (nar .char u7)) u7 ([.int (32 : Int32), .int (32 : Int32), .int (32 : Int32), .int (32 : Int32), .int (32 : Int32), .int (32 : Int32), .int (32 : Int32), .int (32 : Int32), .int (32 : Int32), .int (32 : Int32), .int (32 : Int32), .int (32 : Int32), .int (StrChars.lo8 (nar .char u7)), .int (StrChars.lo8 (nar .char u9)), .int (10 : Int32), .int (0 : Int32)]) vFM zC ko_166 T166.heap n0 O166 hCS hFM (Sm.lit (x := (12 : Int32)) (n := 12) (by decide)) (Sm.lit (x := (15 : Int32)) (n := 15) (by decide)) (by decide) rfl (own_chb rg_u7) (own_narC rg_u7) sC sF f166_0 f166_3 f166_4 VO166) hZ164 (tw hw 211 rfl) (tw hw 23 rfl) (by decide) (by decide)) q172a q172c (g := (mkF m 220 #[It p1, It p2, It p3, It (3 : Int32), It u3, It u5, It u7, It u9, Rf b11, It (1 : Int32), Rf rs_166, It (12 : Int32)] [(.int (12 : Int32)), (.ref rs_166)])) rfl (by rw [hml]; rfl) (Steps.refl _) (argsL := [(.int (12 : Int32))]) (rest := []) (lenOf pd_25 rfl) rfl (w0 rfl) (hb hby at_220) (fun _ _ => ⟨rfl, e171, (by decide : 12 + 0 ≤ _), (by decide : 86 + 0 ≤ _)⟩)
        dsimp only [Pt.U, Pt.locs, Pt.cells, Pt.slots] at X172 l172 y172 z172 st172 hQ172
        subst l172 y172 z172
        obtain ⟨rfl, N172q, e172⟩ := hQ172
        have N172 := Fr.app N171 N172q
        obtain ⟨cq173, kq173, q173a, q173b, q173c⟩ := isOf hZ164 e172 f166_0
        obtain ⟨_, _, ⟨T173, L173, k173, n173⟩, -, X173, ⟨Lc173, hQ173, l173, y173, z173⟩, st173⟩ := X172.virtualBack hx (y := m_37) (z := m_37) hown164 (mvT hZ164 (tw hw 207 rfl)) (mvT hZ164 (tw hw 208 rfl)) (notFace_of_selects (args := #[]) (mvT hZ164 (tw hw 210 rfl))) (mvT hZ164 (tw hw 210 rfl)) (mvT hZ164 (tw hw 209 rfl)) (by decide) (backOf (W := 0) (rm40 l Z a0 hw [] rs_166 ((12 : Int32) + (1 : Int32)) ro_166 (15 : Int32) 15 13 (StrChars.lo8 (nar .char u9)) u9 ([.int (32 : Int32), .int (32 : Int32), .int (32 : Int32), .int (32 : Int32), .int (32 : Int32), .int (32 : Int32), .int (32 : Int32), .int (32 : Int32), .int (32 : Int32), .int (32 : Int32), .int (32 : Int32), .int (32 : Int32), .int (StrChars.lo8 (nar .char u7)), .int (StrChars.lo8 (nar .char u9)), .int (10 : Int32), .int (0 : Int32)]) vFM zC ko_166 T166.heap n0 O166 hCS hFM (Sm.lit (x := ((12 : Int32) + (1 : Int32))) (n := 13) (by decide)) (Sm.lit (x := (15 : Int32)) (n := 15) (by decide)) (by decide) rfl (own_chb rg_u9) (own_narC rg_u9) sC sF f166_0 f166_3 f166_4 VO166) hZ164 (tw hw 211 rfl) (tw hw 23 rfl) (by decide) (by decide)) q173a q173c (g := (mkF m 234 #[It p1, It p2, It p3, It (3 : Int32), It u3, It u5, It u7, It u9, Rf b11, It (1 : Int32), Rf rs_166, It (12 : Int32)] [(.int ((12 : Int32) + (1 : Int32))), (.ref rs_166)])) rfl (by rw [hml]; rfl) (Steps.refl _) (argsL := [(.int ((12 : Int32) + (1 : Int32)))]) (rest := []) (lenOf pd_25 rfl) rfl (w0 rfl) (hb hby at_234) (fun _ _ => ⟨rfl, e172, (by decide : 12 + 0 ≤ _), (by decide : 86 + 0 ≤ _)⟩)
        dsimp only [Pt.U, Pt.locs, Pt.cells, Pt.slots] at X173 l173 y173 z173 st173 hQ173
        subst l173 y173 z173
        obtain ⟨rfl, N173q, e173⟩ := hQ173
        have N173 := Fr.app N172 N173q
        obtain ⟨cq174, kq174, q174a, q174b, q174c⟩ := isOf hZ164 e173 f166_0
        obtain ⟨_, _, ⟨T174, L174, k174, n174⟩, -, X174, ⟨Lc174, hQ174, l174, y174, z174⟩, st174⟩ := X173.virtualBack hx (y := m_37) (z := m_37) hown164 (mvT hZ164 (tw hw 207 rfl)) (mvT hZ164 (tw hw 208 rfl)) (notFace_of_selects (args := #[]) (mvT hZ164 (tw hw 210 rfl))) (mvT hZ164 (tw hw 210 rfl)) (mvT hZ164 (tw hw 209 rfl)) (by decide) (backOf (W := 0) (rm40 l Z a0 hw [] rs_166 ((12 : Int32) + (2 : Int32)) ro_166 (15 : Int32) 15 14 (10 : Int32) (10 : Int32) ([.int (32 : Int32), .int (32 : Int32), .int (32 : Int32), .int (32 : Int32), .int (32 : Int32), .int (32 : Int32), .int (32 : Int32), .int (32 : Int32), .int (32 : Int32), .int (32 : Int32), .int (32 : Int32), .int (32 : Int32), .int (StrChars.lo8 (nar .char u7)), .int (StrChars.lo8 (nar .char u9)), .int (10 : Int32), .int (0 : Int32)]) vFM zC ko_166 T166.heap n0 O166 hCS hFM (Sm.lit (x := ((12 : Int32) + (2 : Int32))) (n := 14) (by decide)) (Sm.lit (x := (15 : Int32)) (n := 15) (by decide)) (by decide) rfl (by decide) (by decide) sC sF f166_0 f166_3 f166_4 VO166) hZ164 (tw hw 211 rfl) (tw hw 23 rfl) (by decide) (by decide)) q174a q174c (g := (mkF m 248 #[It p1, It p2, It p3, It (3 : Int32), It u3, It u5, It u7, It u9, Rf b11, It (1 : Int32), Rf rs_166, It (12 : Int32)] [(.int ((12 : Int32) + (2 : Int32))), (.ref rs_166)])) rfl (by rw [hml]; rfl) (Steps.refl _) (argsL := [(.int ((12 : Int32) + (2 : Int32)))]) (rest := []) (lenOf pd_25 rfl) rfl (w0 rfl) (hb hby at_248) (fun _ _ => ⟨rfl, e173, (by decide : 12 + 0 ≤ _), (by decide : 86 + 0 ≤ _)⟩)
        dsimp only [Pt.U, Pt.locs, Pt.cells, Pt.slots] at X174 l174 y174 z174 st174 hQ174
        subst l174 y174 z174
        obtain ⟨rfl, N174q, e174⟩ := hQ174
        have N174 := Fr.app N173 N174q
        have sg175 : SG p.tables e below (T174.setTop (mkF m 261 #[It p1, It p2, It p3, It (3 : Int32), It u3, It u5, It u7, It u9, Rf b11, It (1 : Int32), Rf rs_166, It (12 : Int32)] [(.int (1 : Int32))])) (T166.setTop (mkF m 185 #[It p1, It p2, It p3, It (3 : Int32), It u3, It u5, It u7, It u9, Rf b11, It (1 : Int32), Rf rs_166, .unset] [(.int (12 : Int32))])) := by
          intro target kt
          show Steps _ _ _ (T166.setTop (mkF m 185 #[It p1, It p2, It p3, It (3 : Int32), It u3, It u5, It u7, It u9, Rf b11, It (1 : Int32), Rf rs_166, .unset] [(.int (12 : Int32))])) _
          refine XS.istore X166.here hx rfl (hb hby at_185) rfl (l' := #[It p1, It p2, It p3, It (3 : Int32), It u3, It u5, It u7, It u9, Rf b11, It (1 : Int32), Rf rs_166, It (12 : Int32)]) rfl ?_
          refine XS.aload X166.here hx rfl (hb hby at_187) rfl rfl ?_
          refine st170.trans ?_
          refine XS.iload X170.here hx rfl (hb hby at_192) rfl ?_
          refine XS.iconst X170.here hx rfl (hb hby at_194) ?_
          refine XS.iadd X170.here hx rfl (hb hby at_195) rfl ?_
          refine XS.icmpYes X170.here hx rfl (pc0 := 196) (pc' := 201) rfl (hb hby at_196) rfl (teq (by decide : (15 : Int32) = ((12 : Int32) + (3 : Int32)))).1 (by decide) (by decide) ?_
          refine XS.iload X170.here hx rfl (hb hby at_201) rfl ?_
          refine XS.ifNo X170.here hx rfl (hb hby at_203) rfl ((if0 _ _).trans (feq (by decide : ¬ ((1 : Int32) = (0 : Int32)))).1) ?_
          refine XS.aload X170.here hx rfl (hb hby at_206) rfl rfl ?_
          refine XS.iload X170.here hx rfl (hb hby at_208) rfl ?_
          refine st171 _ ?_
          refine XS.ifNo X171.here hx rfl (hb hby at_213) rfl ((if0 _ _).trans (feq (by decide : ¬ ((1 : Int32) = (0 : Int32)))).1) ?_
          refine XS.aload X171.here hx rfl (hb hby at_216) rfl rfl ?_
          refine XS.iload X171.here hx rfl (hb hby at_218) rfl ?_
          refine st172.trans ?_
          refine XS.iload X172.here hx rfl (hb hby at_223) rfl ?_
          refine XS.icmpNo X172.here hx rfl (hb hby at_225) rfl (teq rfl).2 ?_
          refine XS.aload X172.here hx rfl (hb hby at_228) rfl rfl ?_
          refine XS.iload X172.here hx rfl (hb hby at_230) rfl ?_
          refine XS.iconst X172.here hx rfl (hb hby at_232) ?_
          refine XS.iadd X172.here hx rfl (hb hby at_233) rfl ?_
          refine st173.trans ?_
          refine XS.iload X173.here hx rfl (hb hby at_237) rfl ?_
          refine XS.icmpNo X173.here hx rfl (hb hby at_239) rfl (teq rfl).2 ?_
          refine XS.aload X173.here hx rfl (hb hby at_242) rfl rfl ?_
          refine XS.iload X173.here hx rfl (hb hby at_244) rfl ?_
          refine XS.iconst X173.here hx rfl (hb hby at_246) ?_
          refine XS.iadd X173.here hx rfl (hb hby at_247) rfl ?_
          refine st174.trans ?_
          show Steps _ _ _ (T174.setTop (mkF m 251 #[It p1, It p2, It p3, It (3 : Int32), It u3, It u5, It u7, It u9, Rf b11, It (1 : Int32), Rf rs_166, It (12 : Int32)] [(.int (10 : Int32))])) _
          refine XS.bipush X174.here hx rfl (hb hby at_251) ?_
          refine XS.icmpNo X174.here hx rfl (hb hby at_253) rfl (teq (by decide : (10 : Int32) = (10 : Int32))).2 ?_
          refine XS.iconst X174.here hx rfl (hb hby at_256) ?_
          refine XS.goto X174.here hx rfl (pc0 := 257) (pc' := 261) rfl (hb hby at_257) (by decide) (by decide) ?_
          exact kt
        obtain ⟨fs, hr, hrun, hended, hRW⟩ := X174.leaveW Y164 (show _ ≤ T174.heap.size by rw [e174]; exact (Nat.le_trans (Nat.le_refl _) K166q.1)) (v := some (.int (1 : Int32))) (fun h => by rw [Bd.returns] at h; cases h)
        refine ⟨_, _, pre0 _ (sg2 _ (sg4 _ (sg6 _ (sg8 _ (sg10 _ (sg16 _ (sg23 _ (sg37 _ (sg51 _ (sg65 _ (sg79 _ (sg89 _ (sg96 _ (sg120 _ (sg169 _ (sg175 _ (?_))))))))))))))))), hrun, hended, _, _, rfl, ?_, (by rw [hh]; show CHr Z own_EL s.vm h0 T174.vm T174.heap; rw [e174]; exact CR167.trans (CHv.at X174 hZ164 hEL CR167.1)), hRW.1, hRW.2.1, hRW.2.2.1, hRW.2.2.2.mono (by decide) (by decide)⟩
        · show Steps _ _ _ (T174.setTop (mkF m 261 #[It p1, It p2, It p3, It (3 : Int32), It u3, It u5, It u7, It u9, Rf b11, It (1 : Int32), Rf rs_166, It (12 : Int32)] [(.int (1 : Int32))])) _
          exact retN X174 hx (t := .boolean) Bd.returns (by simp) (hb hby at_261) hr
        · show Q0 Z p1 p2 p3 vFM zC h0 n0 _ T174.heap _
          rw [e174]
          exact ⟨rfl, N174, K166, O166⟩
set_option maxRecDepth 65536 in
set_option maxHeartbeats 40000000 in
theorem comes_1 {Post : Tables → Env → Array Value → State → Outcome → State → Prop} (hpost : ∀ tb e args s v u, (limb_1_1.after args s (.returned v) u = true ∧ limb_1_2.after args s (.returned v) u = true ∧ True) → FramedW s (.returned v) u (Jvm.fieldLocs frame_1_writes args s ++ Jvm.arrayLocs frame_1_arrays args s ++ Jvm.staticLocs frame_1_statics s) 32 2304 → Post tb e args s (.returned v) u) :
    ArmFor flags0 classFile x code maxLocals ret World_1 tables_1 room_1 Calls_1 rest_1 Pre_1 Post := by
  intro l hfl _ _ p e ha hc hk s m args below hf hA hF happ hP
  obtain ⟨hcalls, hrest, hpre⟩ := hP
  obtain ⟨-, -, -, hnamed, -, -, -, hat⟩ := (Spec.applies_iff hf).mp happ
  obtain ⟨hg, hn⟩ := and_e (Cond.before_iff.mp (show (Jvm.Cond.and given_1 narrow_1).before args s = true from hpre))
  obtain ⟨g1, g2⟩ := and_e hg
  obtain ⟨g3, g4⟩ := and_e g2
  obtain ⟨g5, g6⟩ := and_e g4
  obtain ⟨w0, w1, w2, rfl⟩ : ∃ w0 w1 w2 : Value, args = #[w0, w1, w2] := by
    have hs : args.size = 3 := by simpa [Cond.value, given_1] using g1
    obtain ⟨L⟩ := args
    match L, hs with
    | [w0, w1, w2], _ => exact ⟨w0, w1, w2, rfl⟩
  have hw := fun d (hd : d ∈ tables_1) => atoms_spec (ws := Jvm.Cond.code x code maxLocals ret :: tables_1) hat d (List.mem_cons_of_mem _ hd)
  have hfit : Fit s := fun {y c} hc i hi => by
    obtain ⟨ha, rfl⟩ := Array.getElem?_eq_some_iff.mp hc
    have q := List.all_eq_true.mp ((Array.all_eq_true_iff_forall_mem.mp hF) _ (Array.getElem_mem ha)) i (List.mem_range.mpr hi)
    simpa [Array.getElem?_eq_getElem hi] using q
  obtain ⟨hsets, hown0⟩ := atoms_of _ (rest_1_c_eq ▸ (show rest_1_c.before _ s = true from hrest))
  have hr0 := Cond.before_iff.mp hown0
  obtain ⟨i0, ei0⟩ := is_v g3
  obtain rfl : w0 = (.int i0) := Option.some.inj ei0
  obtain ⟨i1, ei1⟩ := is_v g5
  obtain rfl : w1 = (.int i1) := Option.some.inj ei1
  obtain ⟨i2, ei2⟩ := is_v g6
  obtain rfl : w2 = (.int i2) := Option.some.inj ei2
  obtain ⟨zC, evC⟩ := is_v (Cond.before_iff.mp (hsets _ (List.mem_of_getElem? (i := 1) rfl)))
  have SS_COMPACT_STRINGS := Sta.start evC (Or.inl (hsets _ (List.mem_of_getElem? (i := 0) rfl)))
  have hCW := (hsets _ (List.mem_of_getElem? (i := 2) rfl))
  have hCS : ¬ zC = 0 := gotF (P := zC = 0) (by simp [Cond.value, evC, Term.int_eval]) (not_v (Cond.before_iff.mp hCW))
  obtain ⟨vFM, evF, hFM⟩ := isR_v (Cond.before_iff.mp (hsets _ (List.mem_of_getElem? (i := 8) rfl)))
  have SS_SIOOBE_FORMATTER := Sta.start evF (Or.inl (hsets _ (List.mem_of_getElem? (i := 7) rfl)))
  have hCH : CHv s own_EL s.vm s.heap := CHv.start (own_EW hw) (fun p hp => hcalls.1 p ((by decide +kernel : ∀ p ∈ own_EL, p ∈ consts_1) p hp)) hCW (hw _ (List.mem_of_getElem? (i := 24) rfl)) (hw _ (List.mem_of_getElem? (i := 44) rfl))
  obtain ⟨n, o, h1, h2, h3, _, L, rfl, ⟨rfl, N, -⟩, -, hq⟩ := rm0 l s _ hw tables_1 i0 i1 i2 vFM zC s.heap s.heap.size (Old.start s) hCS hFM SS_COMPACT_STRINGS SS_SIOOBE_FORMATTER p e ha hc hk s m _ below hf ((Spec.applies_iff_loose hf).mp happ).1 ⟨rfl, State.Warmed39.refl s, rfl, hCH⟩ trivial
  refine ⟨n, _, h1, h2, h3, hpost _ _ _ _ _ _ ⟨Cond.after_iff.mpr rfl, Cond.after_iff.mpr (eq_i res_at (Term.int_eval (1)) rfl), trivial⟩ ?_⟩
  exact ⟨hq.1, hq.2.1, hq.2.2.1, (hq.2.2.2.sift fun y hy => Or.inr (N y hy)).mono (by decide) (by decide)⟩
theorem main_1_1 : Claimed_1_1 := comes_1 fun _ _ _ _ _ _ h hF => ⟨h.1, hF⟩
theorem main_1_2 : Claimed_1_2 := comes_1 fun _ _ _ _ _ _ h hF => ⟨h.2.1, hF⟩
end Jvm.Pilot.@@N@@
namespace Jvm.Pilot.@@N@@
open Jvm Jvm.ClassFile Sem Op Lib Jvm.Free Jvm.Stand Jvm.Pilot.@@N@@.Jvm.D
/-! MADE BY PROGRAM (witnessworld.py) out of the Statement's table words and the real class files: 26 classes; the members and pool entries that the words name. The judged class is class 1, her method 1. -/
namespace start1
open Jvm.ClassFile
def u (s : String) : CpInfo := .utf8 (stringToUtf16 s)
/-- a pool by its gaps: so many unusable entries, then the entry; so many at the end -/
def gap : Nat → List CpInfo → List CpInfo
  | 0, r => r
  | n + 1, r => .unusable :: gap n r
def poolList (es : List (Nat × CpInfo)) (last : Nat) : List CpInfo := es.foldr (fun e r => gap e.1 (e.2 :: r)) (gap last [])
def pool (es : List (Nat × CpInfo)) (last : Nat) : Array CpInfo := ⟨poolList es last⟩
def fileOf (pool : Array CpInfo) (this : Nat) (attrs : Array Attribute := #[]) (ms : Array MethodInfo := #[]) (fl : Nat := 33) (sup : Nat := 0) (ifs : Array Nat := #[]) (fds : Array FieldInfo := #[]) : ClassFile where
  minorVersion := 0
  majorVersion := 65
  constantPool := pool
  accessFlags := fl
  thisClass := this
  superClass := sup
  interfaces := ifs
  fields := fds
  methods := ms
  attributes := attrs
def plain (name : String) (sup : Option ClassId) : Class where
  name := name
  kind := .ordinary
  loader := none
  accessFlags := 33
  super := sup
  interfaces := #[]
  cf := none
  fields := #[]
  methods := #[]
  instanceTypes := #[]
  staticTypes := #[]
  resolved := #[]
  callSites := []
  init := .initialized
  statics := none
  mirror := none

def pool0 : Array CpInfo := pool [(5, u "<init>"), (0, u "()V"), (1, .class_ 10), (1, u "java/lang/Object")] 113

def k0c0 : Code := { maxStack := 0, maxLocals := 1, code := object_method_1_code, exceptionTable := #[], attributes := #[] }
def k0m0 : Method := { name := "<init>", desc := "()V", sig := { parameters := [], returnType := none }, accessFlags := 1, code := some k0c0 }
/-- java/lang/Object -/
def k0 : Class := { plain "java/lang/Object" none with
  accessFlags := 33
  interfaces := #[]
  cf := some (fileOf pool0 8 #[] #[{ accessFlags := 1, nameIndex := 5, descriptorIndex := 6, attributes := #[] }] 33 0 #[] #[])
  fields := #[]
  methods := #[k0m0]
  instanceTypes := #[]
  staticTypes := #[]
  resolved := Array.replicate 124 none
  statics := none }

def pool1 : Array CpInfo := pool [(2, .class_ 4), (0, .nameAndType 5 6), (0, u "java/lang/Object"), (0, u "<init>"), (0, u "()V"), (0, .class_ 8), (0, u "com/example/tetrad/tetrad/generate/SourceText"), (0, .methodref 7 3), (0, .methodref 7 11), (0, .nameAndType 12 13), (0, u "indent"), (0, u "()Lcom/example/tetrad/tetrad/generate/SourceText;"), (0, .methodref 7 15), (0, .nameAndType 16 13), (0, u "dedent"), (0, .class_ 18), (0, u "java/lang/String"), (0, .methodref 17 20), (0, .nameAndType 5 21), (0, u "([C)V"), (0, .methodref 7 23), (0, .nameAndType 24 25), (0, u "line"), (0, u "(Ljava/lang/String;)Lcom/example/tetrad/tetrad/generate/SourceText;"), (0, .methodref 7 27), (0, .nameAndType 28 29), (0, u "toString"), (0, u "()Ljava/lang/String;"), (0, .methodref 17 31), (0, .nameAndType 32 33), (0, u "length"), (0, u "()I"), (0, .methodref 35 36), (0, .class_ 37), (0, .nameAndType 38 39), (0, u "com/example/tetrad/tetrad/generate/SourceTextDedentPinLaw"), (0, u "spaces"), (0, u "(Ljava/lang/String;I)Z"), (0, .methodref 17 41), (0, .nameAndType 42 43), (0, u "charAt"), (0, u "(I)C"), (0, .methodref 35 45), (0, .nameAndType 46 47), (0, u "sp"), (0, u "(Ljava/lang/String;II)Z"), (2, u "law"), (0, u "(III)Z")] 3

def k1m0 : Method := { name := "<init>", desc := "()V", sig := { parameters := [], returnType := none }, accessFlags := 1, code := none }
def k1c1 : Code := { maxStack := 7, maxLocals := 12, code := code, exceptionTable := #[], attributes := #[] }
def k1m1 : Method := { name := "law", desc := "(III)Z", sig := { parameters := [.int, .int, .int], returnType := some .boolean }, accessFlags := 9, code := some k1c1 }
def k1c2 : Code := { maxStack := 3, maxLocals := 2, code := method_3_code, exceptionTable := #[], attributes := #[] }
def k1m2 : Method := { name := "spaces", desc := "(Ljava/lang/String;I)Z", sig := { parameters := [(.object "java/lang/String"), .int], returnType := some .boolean }, accessFlags := 10, code := some k1c2 }
def k1c3 : Code := { maxStack := 2, maxLocals := 3, code := method_4_code, exceptionTable := #[], attributes := #[] }
def k1m3 : Method := { name := "sp", desc := "(Ljava/lang/String;II)Z", sig := { parameters := [(.object "java/lang/String"), .int, .int], returnType := some .boolean }, accessFlags := 10, code := some k1c3 }
/-- com/example/tetrad/tetrad/generate/SourceTextDedentPinLaw -/
def k1 : Class := { plain "com/example/tetrad/tetrad/generate/SourceTextDedentPinLaw" (some 0) with
  accessFlags := 49
  interfaces := #[]
  cf := some (fileOf pool1 35 #[] #[{ accessFlags := 1, nameIndex := 5, descriptorIndex := 6, attributes := #[] }, { accessFlags := 9, nameIndex := 50, descriptorIndex := 51, attributes := #[] }, { accessFlags := 10, nameIndex := 38, descriptorIndex := 39, attributes := #[] }, { accessFlags := 10, nameIndex := 46, descriptorIndex := 47, attributes := #[] }] 49 2 #[] #[])
  fields := #[]
  methods := #[k1m0, k1m1, k1m2, k1m3]
  instanceTypes := #[]
  staticTypes := #[]
  resolved := Array.replicate 55 none
  statics := none }

def pool2 : Array CpInfo := pool [(1, .methodref 2 3), (0, .class_ 4), (0, .nameAndType 5 6), (0, u "java/lang/Object"), (0, u "<init>"), (0, u "()V"), (0, .class_ 8), (0, u "java/lang/StringBuilder"), (0, .methodref 7 3), (0, .fieldref 11 12), (0, .class_ 13), (0, .nameAndType 14 15), (0, u "com/example/tetrad/tetrad/generate/SourceText"), (0, u "text"), (0, u "Ljava/lang/StringBuilder;"), (0, .methodref 17 18), (0, .class_ 19), (0, .nameAndType 20 21), (0, u "java/lang/String"), (0, u "isEmpty"), (0, u "()Z"), (0, .string 23), (0, u "    "), (0, .fieldref 11 25), (0, .nameAndType 26 27), (0, u "depth"), (0, u "I"), (0, .methodref 17 29), (0, .nameAndType 30 31), (0, u "repeat"), (0, u "(I)Ljava/lang/String;"), (0, .methodref 7 33), (0, .nameAndType 34 35), (0, u "append"), (0, u "(Ljava/lang/String;)Ljava/lang/StringBuilder;"), (0, .methodref 7 37), (0, .nameAndType 34 38), (0, u "(C)Ljava/lang/StringBuilder;"), (6, u "line"), (0, u "(Ljava/lang/String;)Lcom/example/tetrad/tetrad/generate/SourceText;"), (9, .methodref 7 57), (0, .nameAndType 58 59), (0, u "toString"), (0, u "()Ljava/lang/String;"), (0, u "INDENT"), (0, u "Ljava/lang/String;"), (6, u "indent"), (0, u "()Lcom/example/tetrad/tetrad/generate/SourceText;"), (0, u "dedent")] 21

def k2c0 : Code := { maxStack := 3, maxLocals := 1, code := prog_51_method_1_code, exceptionTable := #[], attributes := #[] }
def k2m0 : Method := { name := "<init>", desc := "()V", sig := { parameters := [], returnType := none }, accessFlags := 0, code := some k2c0 }
def k2c1 : Code := { maxStack := 3, maxLocals := 2, code := prog_51_method_2_code, exceptionTable := #[], attributes := #[] }
def k2m1 : Method := { name := "line", desc := "(Ljava/lang/String;)Lcom/example/tetrad/tetrad/generate/SourceText;", sig := { parameters := [(.object "java/lang/String")], returnType := some (.object "com/example/tetrad/tetrad/generate/SourceText") }, accessFlags := 0, code := some k2c1 }
def k2c2 : Code := { maxStack := 3, maxLocals := 1, code := prog_51_method_5_code, exceptionTable := #[], attributes := #[] }
def k2m2 : Method := { name := "indent", desc := "()Lcom/example/tetrad/tetrad/generate/SourceText;", sig := { parameters := [], returnType := some (.object "com/example/tetrad/tetrad/generate/SourceText") }, accessFlags := 0, code := some k2c2 }
def k2c3 : Code := { maxStack := 3, maxLocals := 1, code := prog_51_method_6_code, exceptionTable := #[], attributes := #[] }
def k2m3 : Method := { name := "dedent", desc := "()Lcom/example/tetrad/tetrad/generate/SourceText;", sig := { parameters := [], returnType := some (.object "com/example/tetrad/tetrad/generate/SourceText") }, accessFlags := 0, code := some k2c3 }
def k2c4 : Code := { maxStack := 1, maxLocals := 1, code := prog_51_method_9_code, exceptionTable := #[], attributes := #[] }
def k2m4 : Method := { name := "toString", desc := "()Ljava/lang/String;", sig := { parameters := [], returnType := some (.object "java/lang/String") }, accessFlags := 1, code := some k2c4 }
/-- com/example/tetrad/tetrad/generate/SourceText -/
def k2 : Class := { plain "com/example/tetrad/tetrad/generate/SourceText" (some 0) with
  accessFlags := 48
  interfaces := #[]
  cf := some (fileOf pool2 11 #[] #[{ accessFlags := 0, nameIndex := 5, descriptorIndex := 6, attributes := #[] }, { accessFlags := 0, nameIndex := 45, descriptorIndex := 46, attributes := #[] }, { accessFlags := 0, nameIndex := 68, descriptorIndex := 69, attributes := #[] }, { accessFlags := 0, nameIndex := 70, descriptorIndex := 69, attributes := #[] }, { accessFlags := 1, nameIndex := 58, descriptorIndex := 59, attributes := #[] }] 48 2 #[] #[{ accessFlags := 26, nameIndex := 60, descriptorIndex := 61, attributes := #[] }, { accessFlags := 18, nameIndex := 14, descriptorIndex := 15, attributes := #[] }, { accessFlags := 2, nameIndex := 26, descriptorIndex := 27, attributes := #[] }])
  fields := #[{ name := "INDENT", type := (.object "java/lang/String"), accessFlags := 26, slot := 0, constantValue := 0 }, { name := "text", type := (.object "java/lang/StringBuilder"), accessFlags := 18, slot := 0, constantValue := 0 }, { name := "depth", type := .int, accessFlags := 2, slot := 1, constantValue := 0 }]
  methods := #[k2m0, k2m1, k2m2, k2m3, k2m4]
  instanceTypes := #[(.object "java/lang/StringBuilder"), .int]
  staticTypes := #[(.object "java/lang/String")]
  resolved := Array.replicate 92 none
  statics := none }

def pool3 : Array CpInfo := pool [(1, .class_ 2), (0, u "java/lang/Appendable"), (0, .class_ 4), (0, u "java/lang/Object")] 9

/-- java/lang/Appendable -/
def k3 : Class := { plain "java/lang/Appendable" (some 0) with
  accessFlags := 1537
  interfaces := #[]
  cf := some (fileOf pool3 1 #[] #[] 1537 3 #[] #[])
  fields := #[]
  methods := #[]
  instanceTypes := #[]
  staticTypes := #[]
  resolved := Array.replicate 14 none
  statics := none }

def pool4 : Array CpInfo := pool [(2, .class_ 4), (1, u "java/lang/CharSequence"), (42, .class_ 48), (0, u "java/lang/CharSequence$1CodePointIterator"), (10, .class_ 60), (0, u "java/lang/CharSequence$1CharIterator"), (5, .class_ 67), (0, u "java/lang/Object")] 63

/-- java/lang/CharSequence -/
def k4 : Class := { plain "java/lang/CharSequence" (some 0) with
  accessFlags := 1537
  interfaces := #[]
  cf := some (fileOf pool4 2 #[.nestMembers #[47, 59]] #[] 1537 66 #[] #[])
  fields := #[]
  methods := #[]
  instanceTypes := #[]
  staticTypes := #[]
  resolved := Array.replicate 131 none
  statics := none }

def pool5 : Array CpInfo := pool [(1, .class_ 2), (0, u "java/lang/String"), (0, .methodref 4 5), (0, .class_ 6), (0, .nameAndType 7 8), (0, u "java/lang/Object"), (0, u "<init>"), (0, u "()V"), (1, .class_ 12), (1, u "java/lang/AbstractStringBuilder"), (0, u "EMPTYVALUE"), (0, u "[B"), (0, .fieldref 10 16), (0, .nameAndType 17 14), (0, u "value"), (0, .fieldref 1 19), (0, .nameAndType 20 21), (0, u "COMPACT_STRINGS"), (0, u "Z"), (0, .fieldref 10 23), (0, .nameAndType 24 25), (0, u "coder"), (0, u "B"), (6, .methodref 1 33), (0, .nameAndType 34 35), (0, u "length"), (0, u "()I"), (4, .methodref 1 41), (0, .nameAndType 24 42), (0, u "()B"), (2, u "append"), (0, u "(Ljava/lang/String;)Ljava/lang/AbstractStringBuilder;"), (1, .class_ 49), (0, u "java/lang/CharSequence"), (19, u "(Ljava/lang/String;)V"), (5, u "maybeLatin1"), (3, .fieldref 10 80), (0, .nameAndType 81 82), (0, u "count"), (0, u "I"), (0, .methodref 10 84), (0, .nameAndType 85 86), (0, u "isLatin1"), (0, u "()Z"), (1, .class_ 90), (1, u "java/lang/StringLatin1"), (9, .methodref 10 101), (0, .nameAndType 102 103), (0, u "ensureCapacityInternal"), (0, u "(I)V"), (87, .methodref 88 192), (0, .nameAndType 193 194), (0, u "canEncode"), (0, u "(C)Z"), (13, .methodref 10 209), (0, .nameAndType 210 211), (0, u "putStringAt"), (0, u "(ILjava/lang/String;)V"), (5, u "inflateIfNeededFor"), (2, .nameAndType 221 222), (0, u "getBytes"), (0, u "([BIB)V"), (69, u "(C)Ljava/lang/AbstractStringBuilder;"), (104, .methodref 10 398), (0, .nameAndType 217 69), (0, .methodref 1 220), (3, u "()[B"), (40, .class_ 445), (0, u "java/lang/Appendable"), (106, u "getValue")] 56

def k5m0 : Method := { name := "<init>", desc := "()V", sig := { parameters := [], returnType := none }, accessFlags := 0, code := none }
def k5c1 : Code := { maxStack := 2, maxLocals := 2, code := jdk_68_method_2_code, exceptionTable := #[], attributes := #[] }
def k5m1 : Method := { name := "<init>", desc := "(I)V", sig := { parameters := [.int], returnType := none }, accessFlags := 0, code := some k5c1 }
def k5c2 : Code := { maxStack := 1, maxLocals := 1, code := jdk_68_method_6_code, exceptionTable := #[], attributes := #[] }
def k5m2 : Method := { name := "length", desc := "()I", sig := { parameters := [], returnType := some .int }, accessFlags := 1, code := some k5c2 }
def k5c3 : Code := { maxStack := 4, maxLocals := 3, code := jdk_68_method_9_code, exceptionTable := #[], attributes := #[] }
def k5m3 : Method := { name := "ensureCapacityInternal", desc := "(I)V", sig := { parameters := [.int], returnType := none }, accessFlags := 2, code := some k5c3 }
def k5c4 : Code := { maxStack := 3, maxLocals := 3, code := jdk_68_method_22_code, exceptionTable := #[], attributes := #[] }
def k5m4 : Method := { name := "append", desc := "(Ljava/lang/String;)Ljava/lang/AbstractStringBuilder;", sig := { parameters := [(.object "java/lang/String")], returnType := some (.object "java/lang/AbstractStringBuilder") }, accessFlags := 1, code := some k5c4 }
def k5c5 : Code := { maxStack := 5, maxLocals := 2, code := jdk_68_method_31_code, exceptionTable := #[], attributes := #[] }
def k5m5 : Method := { name := "append", desc := "(C)Ljava/lang/AbstractStringBuilder;", sig := { parameters := [.char], returnType := some (.object "java/lang/AbstractStringBuilder") }, accessFlags := 1, code := some k5c5 }
def k5c6 : Code := { maxStack := 1, maxLocals := 1, code := jdk_68_method_64_code, exceptionTable := #[], attributes := #[] }
def k5m6 : Method := { name := "getValue", desc := "()[B", sig := { parameters := [], returnType := some (.array .byte) }, accessFlags := 16, code := some k5c6 }
def k5c7 : Code := { maxStack := 1, maxLocals := 1, code := jdk_68_method_68_code, exceptionTable := #[], attributes := #[] }
def k5m7 : Method := { name := "isLatin1", desc := "()Z", sig := { parameters := [], returnType := some .boolean }, accessFlags := 16, code := some k5c7 }
def k5c8 : Code := { maxStack := 2, maxLocals := 2, code := jdk_68_method_71_code, exceptionTable := #[], attributes := #[] }
def k5m8 : Method := { name := "inflateIfNeededFor", desc := "(Ljava/lang/String;)V", sig := { parameters := [(.object "java/lang/String")], returnType := none }, accessFlags := 2, code := some k5c8 }
def k5c9 : Code := { maxStack := 4, maxLocals := 3, code := jdk_68_method_73_code, exceptionTable := #[], attributes := #[] }
def k5m9 : Method := { name := "putStringAt", desc := "(ILjava/lang/String;)V", sig := { parameters := [.int, (.object "java/lang/String")], returnType := none }, accessFlags := 2, code := some k5c9 }
/-- java/lang/AbstractStringBuilder -/
def k5 : Class := { plain "java/lang/AbstractStringBuilder" (some 0) with
  accessFlags := 1056
  interfaces := #[3, 4]
  cf := some (fileOf pool5 10 #[] #[{ accessFlags := 0, nameIndex := 7, descriptorIndex := 8, attributes := #[] }, { accessFlags := 0, nameIndex := 7, descriptorIndex := 103, attributes := #[] }, { accessFlags := 1, nameIndex := 34, descriptorIndex := 35, attributes := #[] }, { accessFlags := 2, nameIndex := 102, descriptorIndex := 103, attributes := #[] }, { accessFlags := 1, nameIndex := 45, descriptorIndex := 46, attributes := #[] }, { accessFlags := 1, nameIndex := 45, descriptorIndex := 292, attributes := #[] }, { accessFlags := 16, nameIndex := 552, descriptorIndex := 403, attributes := #[] }, { accessFlags := 16, nameIndex := 85, descriptorIndex := 86, attributes := #[] }, { accessFlags := 2, nameIndex := 217, descriptorIndex := 69, attributes := #[] }, { accessFlags := 2, nameIndex := 210, descriptorIndex := 211, attributes := #[] }] 1056 4 #[444, 48] #[{ accessFlags := 0, nameIndex := 17, descriptorIndex := 14, attributes := #[] }, { accessFlags := 0, nameIndex := 24, descriptorIndex := 25, attributes := #[] }, { accessFlags := 0, nameIndex := 75, descriptorIndex := 21, attributes := #[] }, { accessFlags := 0, nameIndex := 81, descriptorIndex := 82, attributes := #[] }, { accessFlags := 26, nameIndex := 13, descriptorIndex := 14, attributes := #[] }])
  fields := #[{ name := "value", type := (.array .byte), accessFlags := 0, slot := 0, constantValue := 0 }, { name := "coder", type := .byte, accessFlags := 0, slot := 1, constantValue := 0 }, { name := "maybeLatin1", type := .boolean, accessFlags := 0, slot := 2, constantValue := 0 }, { name := "count", type := .int, accessFlags := 0, slot := 3, constantValue := 0 }, { name := "EMPTYVALUE", type := (.array .byte), accessFlags := 26, slot := 0, constantValue := 0 }]
  methods := #[k5m0, k5m1, k5m2, k5m3, k5m4, k5m5, k5m6, k5m7, k5m8, k5m9]
  instanceTypes := #[(.array .byte), .byte, .boolean, .int]
  staticTypes := #[(.array .byte)]
  resolved := Array.replicate 609 none
  statics := none }

def pool6 : Array CpInfo := pool [(1, .class_ 2), (0, u "java/io/Serializable"), (0, .class_ 4), (0, u "java/lang/Object")] 2

/-- java/io/Serializable -/
def k6 : Class := { plain "java/io/Serializable" (some 0) with
  accessFlags := 1537
  interfaces := #[]
  cf := some (fileOf pool6 1 #[] #[] 1537 3 #[] #[])
  fields := #[]
  methods := #[]
  instanceTypes := #[]
  staticTypes := #[]
  resolved := Array.replicate 7 none
  statics := none }

def pool7 : Array CpInfo := pool [(1, .class_ 2), (0, u "java/lang/Comparable"), (0, .class_ 4), (0, u "java/lang/Object")] 7

/-- java/lang/Comparable -/
def k7 : Class := { plain "java/lang/Comparable" (some 0) with
  accessFlags := 1537
  interfaces := #[]
  cf := some (fileOf pool7 1 #[] #[] 1537 3 #[] #[])
  fields := #[]
  methods := #[]
  instanceTypes := #[]
  staticTypes := #[]
  resolved := Array.replicate 12 none
  statics := none }

def pool8 : Array CpInfo := pool [(1, .methodref 2 3), (0, .class_ 4), (0, .nameAndType 5 6), (0, u "java/lang/AbstractStringBuilder"), (0, u "<init>"), (0, u "(I)V"), (11, .class_ 20), (1, u "java/lang/String"), (3, .class_ 26), (1, u "java/lang/StringBuilder"), (0, u "append"), (0, u "(Ljava/lang/String;)Ljava/lang/StringBuilder;"), (0, .methodref 2 30), (0, .nameAndType 27 31), (0, u "(Ljava/lang/String;)Ljava/lang/AbstractStringBuilder;"), (18, .methodref 2 51), (0, .nameAndType 27 52), (0, u "(C)Ljava/lang/AbstractStringBuilder;"), (84, .methodref 18 138), (0, .nameAndType 5 139), (0, u "(Ljava/lang/StringBuilder;)V"), (5, u "()V"), (10, u "()I"), (129, u "(C)Ljava/lang/StringBuilder;"), (56, .methodref 2 344), (0, .nameAndType 345 156), (0, u "length"), (3, .class_ 350), (0, u "java/lang/Appendable"), (0, .class_ 352), (0, u "java/io/Serializable"), (0, .class_ 354), (0, u "java/lang/Comparable"), (0, .class_ 356), (0, u "java/lang/CharSequence"), (0, u "serialVersionUID"), (0, u "J"), (40, u "toString"), (0, u "()Ljava/lang/String;")] 21

def k8c0 : Code := { maxStack := 2, maxLocals := 1, code := jdk_67_method_1_code, exceptionTable := #[], attributes := #[] }
def k8m0 : Method := { name := "<init>", desc := "()V", sig := { parameters := [], returnType := none }, accessFlags := 1, code := some k8c0 }
def k8c1 : Code := { maxStack := 2, maxLocals := 2, code := jdk_67_method_7_code, exceptionTable := #[], attributes := #[] }
def k8m1 : Method := { name := "append", desc := "(Ljava/lang/String;)Ljava/lang/StringBuilder;", sig := { parameters := [(.object "java/lang/String")], returnType := some (.object "java/lang/StringBuilder") }, accessFlags := 1, code := some k8c1 }
def k8c2 : Code := { maxStack := 2, maxLocals := 2, code := jdk_67_method_14_code, exceptionTable := #[], attributes := #[] }
def k8m2 : Method := { name := "append", desc := "(C)Ljava/lang/StringBuilder;", sig := { parameters := [.char], returnType := some (.object "java/lang/StringBuilder") }, accessFlags := 1, code := some k8c2 }
def k8c3 : Code := { maxStack := 3, maxLocals := 1, code := jdk_67_method_42_code, exceptionTable := #[], attributes := #[] }
def k8m3 : Method := { name := "toString", desc := "()Ljava/lang/String;", sig := { parameters := [], returnType := some (.object "java/lang/String") }, accessFlags := 1, code := some k8c3 }
def k8c4 : Code := { maxStack := 1, maxLocals := 1, code := jdk_67_method_93_code, exceptionTable := #[], attributes := #[] }
def k8m4 : Method := { name := "length", desc := "()I", sig := { parameters := [], returnType := some .int }, accessFlags := 4161, code := some k8c4 }
/-- java/lang/StringBuilder -/
def k8 : Class := { plain "java/lang/StringBuilder" (some 5) with
  accessFlags := 49
  interfaces := #[3, 6, 7, 4]
  cf := some (fileOf pool8 24 #[] #[{ accessFlags := 1, nameIndex := 5, descriptorIndex := 145, attributes := #[] }, { accessFlags := 1, nameIndex := 27, descriptorIndex := 28, attributes := #[] }, { accessFlags := 1, nameIndex := 27, descriptorIndex := 286, attributes := #[] }, { accessFlags := 1, nameIndex := 399, descriptorIndex := 400, attributes := #[] }, { accessFlags := 4161, nameIndex := 345, descriptorIndex := 156, attributes := #[] }] 49 2 #[349, 351, 353, 355] #[{ accessFlags := 24, nameIndex := 357, descriptorIndex := 358, attributes := #[] }])
  fields := #[{ name := "serialVersionUID", type := .long, accessFlags := 24, slot := 0, constantValue := 0 }]
  methods := #[k8m0, k8m1, k8m2, k8m3, k8m4]
  instanceTypes := #[(.array .byte), .byte, .boolean, .int]
  staticTypes := #[.long]
  resolved := Array.replicate 422 none
  statics := none }

def pool9 : Array CpInfo := pool [(1, .class_ 2), (0, u "java/lang/constant/Constable"), (0, .class_ 4), (0, u "java/lang/Object")] 6

/-- java/lang/constant/Constable -/
def k9 : Class := { plain "java/lang/constant/Constable" (some 0) with
  accessFlags := 1537
  interfaces := #[]
  cf := some (fileOf pool9 1 #[] #[] 1537 3 #[] #[])
  fields := #[]
  methods := #[]
  instanceTypes := #[]
  staticTypes := #[]
  resolved := Array.replicate 11 none
  statics := none }

def pool10 : Array CpInfo := pool [(1, .class_ 2), (0, u "java/lang/constant/ConstantDesc"), (0, .class_ 4), (0, u "java/lang/Object")] 32

/-- java/lang/constant/ConstantDesc -/
def k10 : Class := { plain "java/lang/constant/ConstantDesc" (some 0) with
  accessFlags := 1537
  interfaces := #[]
  cf := some (fileOf pool10 1 #[] #[] 1537 3 #[] #[])
  fields := #[]
  methods := #[]
  instanceTypes := #[]
  staticTypes := #[]
  resolved := Array.replicate 37 none
  statics := none }

def pool11 : Array CpInfo := pool [(1, .methodref 2 3), (0, .class_ 4), (0, .nameAndType 5 6), (0, u "java/lang/Object"), (0, u "<init>"), (0, u "()V"), (0, .string 8), (0, u ""), (0, .fieldref 10 11), (0, .class_ 12), (0, .nameAndType 13 14), (0, u "java/lang/String"), (0, u "value"), (0, u "[B"), (0, .fieldref 10 16), (0, .nameAndType 17 18), (0, u "coder"), (0, u "B"), (2, u "hash"), (0, u "I"), (2, u "hashIsZero"), (0, u "Z"), (0, .methodref 10 28), (0, .nameAndType 5 29), (0, u "([CIILjava/lang/Void;)V"), (8, .fieldref 10 39), (0, .nameAndType 40 26), (0, u "COMPACT_STRINGS"), (1, .class_ 44), (1, u "java/lang/StringUTF16"), (0, u "compress"), (1, .methodref 42 48), (0, .nameAndType 49 50), (0, u "coderFromArrayLen"), (0, u "([BI)B"), (3, .methodref 55 56), (0, .class_ 57), (0, .nameAndType 58 59), (0, u "java/util/Arrays"), (0, u "copyOfRange"), (0, u "([BII)[B"), (10, u "([BIII)V"), (36, .class_ 109), (1, u "java/lang/StringLatin1"), (32, u "()Z"), (34, .methodref 42 178), (0, .nameAndType 45 179), (0, u "([CII)[B"), (13, .class_ 195), (1, u "java/lang/System"), (13, .methodref 10 210), (0, .nameAndType 5 211), (0, u "([BB)V"), (0, .methodref 193 213), (0, .nameAndType 214 215), (0, u "arraycopy"), (0, u "(Ljava/lang/Object;ILjava/lang/Object;II)V"), (118, u "()I"), (0, .methodref 10 336), (0, .nameAndType 17 337), (0, u "()B"), (2, u "()[B"), (22, u "([BI)C"), (27, u "(II)V"), (35, u "(I)C"), (61, .methodref 10 490), (0, .nameAndType 5 491), (0, u "(Ljava/lang/AbstractStringBuilder;Ljava/lang/Void;)V"), (0, .methodref 10 493), (0, .nameAndType 494 142), (0, u "isLatin1"), (0, .methodref 107 496), (0, .nameAndType 497 363), (0, u "charAt"), (3, u "checkIndex"), (4, .nameAndType 507 334), (0, u "length"), (24, u "getBytes"), (16, .methodref 550 506), (0, .class_ 551), (0, u "java/lang/AbstractStringBuilder"), (0, .methodref 550 553), (0, .nameAndType 554 340), (0, u "getValue"), (20, .class_ 576), (0, u "java/lang/CharSequence"), (22, u "CASE_INSENSITIVE_ORDER"), (0, u "Ljava/util/Comparator;"), (91, u "isEmpty"), (128, u "([BIB)V"), (69, u "repeat"), (0, u "(I)Ljava/lang/String;"), (50, .integer 2147483647), (66, u "([C)V"), (33, .methodref 10 1045), (0, .nameAndType 1046 70), (0, u "repeatCopyRest"), (0, .methodref 550 493), (5, .fieldref 1054 1055), (0, .class_ 1056), (0, .nameAndType 1057 1058), (0, u "jdk/internal/util/Preconditions"), (0, u "SIOOBE_FORMATTER"), (0, u "Ljava/util/function/BiFunction;"), (0, .methodref 1054 1060), (0, .nameAndType 501 1061), (0, u "(IILjava/util/function/BiFunction;)I"), (39, u "serialPersistentFields"), (0, u "[Ljava/io/ObjectStreamField;"), (0, .class_ 1104), (0, u "java/lang/String$CaseInsensitiveComparator"), (1, .class_ 1107), (0, u "java/io/Serializable"), (0, .class_ 1109), (0, u "java/lang/Comparable"), (0, .class_ 1111), (0, u "java/lang/constant/Constable"), (0, .class_ 1113), (0, u "java/lang/constant/ConstantDesc"), (2, u "serialVersionUID"), (0, u "J"), (3, u "REPL"), (0, u "C"), (2, u "LATIN1"), (1, u "UTF16"), (105, u "(Ljava/lang/StringBuilder;)V")] 217

def k11m0 : Method := { name := "<init>", desc := "()V", sig := { parameters := [], returnType := none }, accessFlags := 1, code := none }
def k11c1 : Code := { maxStack := 5, maxLocals := 2, code := jdk_42_method_3_code, exceptionTable := #[], attributes := #[] }
def k11m1 : Method := { name := "<init>", desc := "([C)V", sig := { parameters := [(.array .char)], returnType := none }, accessFlags := 1, code := some k11c1 }
def k11c2 : Code := { maxStack := 3, maxLocals := 2, code := jdk_42_method_53_code, exceptionTable := #[], attributes := #[] }
def k11m2 : Method := { name := "<init>", desc := "(Ljava/lang/StringBuilder;)V", sig := { parameters := [(.object "java/lang/StringBuilder")], returnType := none }, accessFlags := 1, code := some k11c2 }
def k11c3 : Code := { maxStack := 2, maxLocals := 1, code := jdk_42_method_54_code, exceptionTable := #[], attributes := #[] }
def k11m3 : Method := { name := "length", desc := "()I", sig := { parameters := [], returnType := some .int }, accessFlags := 1, code := some k11c3 }
def k11c4 : Code := { maxStack := 1, maxLocals := 1, code := jdk_42_method_55_code, exceptionTable := #[], attributes := #[] }
def k11m4 : Method := { name := "isEmpty", desc := "()Z", sig := { parameters := [], returnType := some .boolean }, accessFlags := 1, code := some k11c4 }
def k11c5 : Code := { maxStack := 2, maxLocals := 2, code := jdk_42_method_56_code, exceptionTable := #[], attributes := #[] }
def k11m5 : Method := { name := "charAt", desc := "(I)C", sig := { parameters := [.int], returnType := some .char }, accessFlags := 1, code := some k11c5 }
def k11c6 : Code := { maxStack := 5, maxLocals := 5, code := jdk_42_method_145_code, exceptionTable := #[], attributes := #[] }
def k11m6 : Method := { name := "repeat", desc := "(I)Ljava/lang/String;", sig := { parameters := [.int], returnType := some (.object "java/lang/String") }, accessFlags := 1, code := some k11c6 }
def k11c7 : Code := { maxStack := 6, maxLocals := 4, code := jdk_42_method_146_code, exceptionTable := #[], attributes := #[] }
def k11m7 : Method := { name := "repeatCopyRest", desc := "([BIII)V", sig := { parameters := [(.array .byte), .int, .int, .int], returnType := none }, accessFlags := 8, code := some k11c7 }
def k11c8 : Code := { maxStack := 5, maxLocals := 4, code := jdk_42_method_147_code, exceptionTable := #[], attributes := #[] }
def k11m8 : Method := { name := "getBytes", desc := "([BIB)V", sig := { parameters := [(.array .byte), .int, .byte], returnType := none }, accessFlags := 0, code := some k11c8 }
def k11c9 : Code := { maxStack := 4, maxLocals := 6, code := jdk_42_method_149_code, exceptionTable := #[], attributes := #[] }
def k11m9 : Method := { name := "<init>", desc := "([CIILjava/lang/Void;)V", sig := { parameters := [(.array .char), .int, .int, (.object "java/lang/Void")], returnType := none }, accessFlags := 2, code := some k11c9 }
def k11c10 : Code := { maxStack := 5, maxLocals := 5, code := jdk_42_method_150_code, exceptionTable := #[], attributes := #[] }
def k11m10 : Method := { name := "<init>", desc := "(Ljava/lang/AbstractStringBuilder;Ljava/lang/Void;)V", sig := { parameters := [(.object "java/lang/AbstractStringBuilder"), (.object "java/lang/Void")], returnType := none }, accessFlags := 0, code := some k11c10 }
def k11c11 : Code := { maxStack := 2, maxLocals := 3, code := jdk_42_method_151_code, exceptionTable := #[], attributes := #[] }
def k11m11 : Method := { name := "<init>", desc := "([BB)V", sig := { parameters := [(.array .byte), .byte], returnType := none }, accessFlags := 0, code := some k11c11 }
def k11c12 : Code := { maxStack := 1, maxLocals := 1, code := jdk_42_method_152_code, exceptionTable := #[], attributes := #[] }
def k11m12 : Method := { name := "coder", desc := "()B", sig := { parameters := [], returnType := some .byte }, accessFlags := 0, code := some k11c12 }
def k11c13 : Code := { maxStack := 1, maxLocals := 1, code := jdk_42_method_154_code, exceptionTable := #[], attributes := #[] }
def k11m13 : Method := { name := "isLatin1", desc := "()Z", sig := { parameters := [], returnType := some .boolean }, accessFlags := 0, code := some k11c13 }
def k11c14 : Code := { maxStack := 3, maxLocals := 2, code := jdk_42_method_155_code, exceptionTable := #[], attributes := #[] }
def k11m14 : Method := { name := "checkIndex", desc := "(II)V", sig := { parameters := [.int, .int], returnType := none }, accessFlags := 8, code := some k11c14 }
/-- java/lang/String -/
def k11 : Class := { plain "java/lang/String" (some 0) with
  accessFlags := 49
  interfaces := #[6, 7, 4, 9, 10]
  cf := some (fileOf pool11 10 #[.nestMembers #[1103]] #[{ accessFlags := 1, nameIndex := 5, descriptorIndex := 6, attributes := #[] }, { accessFlags := 1, nameIndex := 5, descriptorIndex := 1010, attributes := #[] }, { accessFlags := 1, nameIndex := 5, descriptorIndex := 1233, attributes := #[] }, { accessFlags := 1, nameIndex := 507, descriptorIndex := 334, attributes := #[] }, { accessFlags := 1, nameIndex := 692, descriptorIndex := 142, attributes := #[] }, { accessFlags := 1, nameIndex := 497, descriptorIndex := 427, attributes := #[] }, { accessFlags := 1, nameIndex := 891, descriptorIndex := 892, attributes := #[] }, { accessFlags := 8, nameIndex := 1046, descriptorIndex := 70, attributes := #[] }, { accessFlags := 0, nameIndex := 532, descriptorIndex := 821, attributes := #[] }, { accessFlags := 2, nameIndex := 5, descriptorIndex := 29, attributes := #[] }, { accessFlags := 0, nameIndex := 5, descriptorIndex := 491, attributes := #[] }, { accessFlags := 0, nameIndex := 5, descriptorIndex := 211, attributes := #[] }, { accessFlags := 0, nameIndex := 17, descriptorIndex := 337, attributes := #[] }, { accessFlags := 0, nameIndex := 494, descriptorIndex := 142, attributes := #[] }, { accessFlags := 8, nameIndex := 501, descriptorIndex := 391, attributes := #[] }] 49 2 #[1106, 1108, 575, 1110, 1112] #[{ accessFlags := 18, nameIndex := 13, descriptorIndex := 14, attributes := #[] }, { accessFlags := 18, nameIndex := 17, descriptorIndex := 18, attributes := #[] }, { accessFlags := 2, nameIndex := 21, descriptorIndex := 22, attributes := #[] }, { accessFlags := 2, nameIndex := 25, descriptorIndex := 26, attributes := #[] }, { accessFlags := 26, nameIndex := 1116, descriptorIndex := 1117, attributes := #[] }, { accessFlags := 24, nameIndex := 40, descriptorIndex := 26, attributes := #[] }, { accessFlags := 26, nameIndex := 1101, descriptorIndex := 1102, attributes := #[] }, { accessFlags := 26, nameIndex := 1121, descriptorIndex := 1122, attributes := #[] }, { accessFlags := 25, nameIndex := 599, descriptorIndex := 600, attributes := #[] }, { accessFlags := 24, nameIndex := 1125, descriptorIndex := 18, attributes := #[] }, { accessFlags := 24, nameIndex := 1127, descriptorIndex := 18, attributes := #[] }])
  fields := #[{ name := "value", type := (.array .byte), accessFlags := 18, slot := 0, constantValue := 0 }, { name := "coder", type := .byte, accessFlags := 18, slot := 1, constantValue := 0 }, { name := "hash", type := .int, accessFlags := 2, slot := 2, constantValue := 0 }, { name := "hashIsZero", type := .boolean, accessFlags := 2, slot := 3, constantValue := 0 }, { name := "serialVersionUID", type := .long, accessFlags := 26, slot := 0, constantValue := 0 }, { name := "COMPACT_STRINGS", type := .boolean, accessFlags := 24, slot := 1, constantValue := 0 }, { name := "serialPersistentFields", type := (.array (.object "java/io/ObjectStreamField")), accessFlags := 26, slot := 2, constantValue := 0 }, { name := "REPL", type := .char, accessFlags := 26, slot := 3, constantValue := 0 }, { name := "CASE_INSENSITIVE_ORDER", type := (.object "java/util/Comparator"), accessFlags := 25, slot := 4, constantValue := 0 }, { name := "LATIN1", type := .byte, accessFlags := 24, slot := 5, constantValue := 0 }, { name := "UTF16", type := .byte, accessFlags := 24, slot := 6, constantValue := 0 }]
  methods := #[k11m0, k11m1, k11m2, k11m3, k11m4, k11m5, k11m6, k11m7, k11m8, k11m9, k11m10, k11m11, k11m12, k11m13, k11m14]
  instanceTypes := #[(.array .byte), .byte, .int, .boolean]
  staticTypes := #[.long, .boolean, (.array (.object "java/io/ObjectStreamField")), .char, (.object "java/util/Comparator"), .byte, .byte]
  resolved := Array.replicate 1451 none
  statics := some 0 }

def pool12 : Array CpInfo := pool [(6, .class_ 8), (1, u "java/lang/Object"), (0, u "<init>"), (0, u "()V"), (1, .class_ 14), (1, u "java/lang/StringUTF16"), (31, u "$assertionsDisabled"), (0, u "Z"), (13, u "HI_BYTE_SHIFT"), (0, u "I"), (2, u "LO_BYTE_SHIFT"), (49, .methodref 12 116), (0, .nameAndType 117 118), (0, u "compress"), (0, u "([CI[BII)I"), (3, u "([CII)[B"), (138, u "coderFromArrayLen"), (0, u "([BI)B"), (106, .class_ 371), (1, u "java/lang/StringUTF16$LinesSpliterator"), (58, u "MAX_LENGTH"), (196, .class_ 628), (0, u "java/lang/StringUTF16$CodePointsSpliterator"), (0, .class_ 630), (0, u "java/lang/StringUTF16$CharsSpliterator")] 4

def k12m0 : Method := { name := "<init>", desc := "()V", sig := { parameters := [], returnType := none }, accessFlags := 0, code := none }
def k12c1 : Code := { maxStack := 2, maxLocals := 2, code := jdk_52_method_15_code, exceptionTable := #[], attributes := #[] }
def k12m1 : Method := { name := "coderFromArrayLen", desc := "([BI)B", sig := { parameters := [(.array .byte), .int], returnType := some .byte }, accessFlags := 8, code := some k12c1 }
def k12c2 : Code := { maxStack := 5, maxLocals := 6, code := jdk_52_method_16_code, exceptionTable := #[], attributes := #[] }
def k12m2 : Method := { name := "compress", desc := "([CII)[B", sig := { parameters := [(.array .char), .int, .int], returnType := some (.array .byte) }, accessFlags := 9, code := some k12c2 }
def k12c3 : Code := { maxStack := 3, maxLocals := 7, code := jdk_52_method_21_code, exceptionTable := #[], attributes := #[] }
def k12m3 : Method := { name := "compress", desc := "([CI[BII)I", sig := { parameters := [(.array .char), .int, (.array .byte), .int, .int], returnType := some .int }, accessFlags := 9, code := some k12c3 }
/-- java/lang/StringUTF16 -/
def k12 : Class := { plain "java/lang/StringUTF16" (some 0) with
  accessFlags := 48
  interfaces := #[]
  cf := some (fileOf pool12 12 #[.nestMembers #[627, 629, 369]] #[{ accessFlags := 0, nameIndex := 9, descriptorIndex := 10, attributes := #[] }, { accessFlags := 8, nameIndex := 261, descriptorIndex := 262, attributes := #[] }, { accessFlags := 9, nameIndex := 117, descriptorIndex := 122, attributes := #[] }, { accessFlags := 9, nameIndex := 117, descriptorIndex := 118, attributes := #[] }] 48 6 #[] #[{ accessFlags := 26, nameIndex := 61, descriptorIndex := 62, attributes := #[] }, { accessFlags := 26, nameIndex := 65, descriptorIndex := 62, attributes := #[] }, { accessFlags := 24, nameIndex := 430, descriptorIndex := 62, attributes := #[] }, { accessFlags := 4120, nameIndex := 46, descriptorIndex := 47, attributes := #[] }])
  fields := #[{ name := "HI_BYTE_SHIFT", type := .int, accessFlags := 26, slot := 0, constantValue := 0 }, { name := "LO_BYTE_SHIFT", type := .int, accessFlags := 26, slot := 1, constantValue := 0 }, { name := "MAX_LENGTH", type := .int, accessFlags := 24, slot := 2, constantValue := 0 }, { name := "$assertionsDisabled", type := .boolean, accessFlags := 4120, slot := 3, constantValue := 0 }]
  methods := #[k12m0, k12m1, k12m2, k12m3]
  instanceTypes := #[]
  staticTypes := #[.int, .int, .int, .boolean]
  resolved := Array.replicate 635 none
  statics := none }

def pool13 : Array CpInfo := pool [(2, .class_ 4), (1, u "java/lang/Object"), (0, u "<init>"), (0, u "()V"), (1, .class_ 10), (1, u "java/lang/System"), (0, u "allowSecurityManager"), (0, u "I"), (16, u "cons"), (0, u "Ljava/io/Console;"), (77, .class_ 110), (1, u "java/lang/System$CallersHolder"), (43, u "initialErrStream"), (0, u "Ljava/io/PrintStream;"), (19, u "security"), (0, u "Ljava/lang/SecurityManager;"), (31, .class_ 209), (0, u "java/lang/System$1"), (7, u "props"), (0, u "Ljava/util/Properties;"), (2, u "lineSeparator"), (0, u "Ljava/lang/String;"), (96, .class_ 321), (1, u "java/lang/System$LoggerFinder"), (5, .class_ 328), (0, u "java/lang/System$Logger"), (67, u "err"), (2, u "out"), (91, u "notSupportedJnuEncoding"), (15, u "in"), (17, u "initialIn"), (0, u "Ljava/io/InputStream;"), (35, u "bootLayer"), (0, u "Ljava/lang/ModuleLayer;"), (99, .class_ 664), (0, u "java/lang/System$2"), (9, u "NEVER"), (2, u "MAYBE"), (49, u "arraycopy"), (0, u "(Ljava/lang/Object;ILjava/lang/Object;II)V"), (72, .class_ 802), (0, u "java/lang/System$Logger$Level")] 31

def k13m0 : Method := { name := "<init>", desc := "()V", sig := { parameters := [], returnType := none }, accessFlags := 2, code := none }
def k13m1 : Method := { name := "arraycopy", desc := "(Ljava/lang/Object;ILjava/lang/Object;II)V", sig := { parameters := [(.object "java/lang/Object"), .int, (.object "java/lang/Object"), .int, .int], returnType := none }, accessFlags := 265, code := none }
/-- java/lang/System -/
def k13 : Class := { plain "java/lang/System" (some 0) with
  accessFlags := 49
  interfaces := #[]
  cf := some (fileOf pool13 8 #[.nestMembers #[319, 327, 801, 108, 663, 208]] #[{ accessFlags := 2, nameIndex := 5, descriptorIndex := 6, attributes := #[] }, { accessFlags := 265, nameIndex := 727, descriptorIndex := 728, attributes := #[] }] 49 2 #[] #[{ accessFlags := 25, nameIndex := 507, descriptorIndex := 526, attributes := #[] }, { accessFlags := 25, nameIndex := 399, descriptorIndex := 155, attributes := #[] }, { accessFlags := 25, nameIndex := 396, descriptorIndex := 155, attributes := #[] }, { accessFlags := 10, nameIndex := 525, descriptorIndex := 526, attributes := #[] }, { accessFlags := 26, nameIndex := 674, descriptorIndex := 12, attributes := #[] }, { accessFlags := 26, nameIndex := 677, descriptorIndex := 12, attributes := #[] }, { accessFlags := 10, nameIndex := 11, descriptorIndex := 12, attributes := #[] }, { accessFlags := 74, nameIndex := 175, descriptorIndex := 176, attributes := #[] }, { accessFlags := 10, nameIndex := 491, descriptorIndex := 222, attributes := #[] }, { accessFlags := 74, nameIndex := 29, descriptorIndex := 30, attributes := #[] }, { accessFlags := 74, nameIndex := 154, descriptorIndex := 155, attributes := #[] }, { accessFlags := 10, nameIndex := 217, descriptorIndex := 218, attributes := #[] }, { accessFlags := 10, nameIndex := 221, descriptorIndex := 222, attributes := #[] }, { accessFlags := 8, nameIndex := 562, descriptorIndex := 563, attributes := #[] }])
  fields := #[{ name := "in", type := (.object "java/io/InputStream"), accessFlags := 25, slot := 0, constantValue := 0 }, { name := "out", type := (.object "java/io/PrintStream"), accessFlags := 25, slot := 1, constantValue := 0 }, { name := "err", type := (.object "java/io/PrintStream"), accessFlags := 25, slot := 2, constantValue := 0 }, { name := "initialIn", type := (.object "java/io/InputStream"), accessFlags := 10, slot := 3, constantValue := 0 }, { name := "NEVER", type := .int, accessFlags := 26, slot := 4, constantValue := 0 }, { name := "MAYBE", type := .int, accessFlags := 26, slot := 5, constantValue := 0 }, { name := "allowSecurityManager", type := .int, accessFlags := 10, slot := 6, constantValue := 0 }, { name := "security", type := (.object "java/lang/SecurityManager"), accessFlags := 74, slot := 7, constantValue := 0 }, { name := "notSupportedJnuEncoding", type := (.object "java/lang/String"), accessFlags := 10, slot := 8, constantValue := 0 }, { name := "cons", type := (.object "java/io/Console"), accessFlags := 74, slot := 9, constantValue := 0 }, { name := "initialErrStream", type := (.object "java/io/PrintStream"), accessFlags := 74, slot := 10, constantValue := 0 }, { name := "props", type := (.object "java/util/Properties"), accessFlags := 10, slot := 11, constantValue := 0 }, { name := "lineSeparator", type := (.object "java/lang/String"), accessFlags := 10, slot := 12, constantValue := 0 }, { name := "bootLayer", type := (.object "java/lang/ModuleLayer"), accessFlags := 8, slot := 13, constantValue := 0 }]
  methods := #[k13m0, k13m1]
  instanceTypes := #[]
  staticTypes := #[(.object "java/io/InputStream"), (.object "java/io/PrintStream"), (.object "java/io/PrintStream"), (.object "java/io/InputStream"), .int, .int, .int, (.object "java/lang/SecurityManager"), (.object "java/lang/String"), (.object "java/io/Console"), (.object "java/io/PrintStream"), (.object "java/util/Properties"), (.object "java/lang/String"), (.object "java/lang/ModuleLayer")]
  resolved := Array.replicate 834 none
  statics := none }

def pool14 : Array CpInfo := pool [(1, .class_ 2), (0, u "java/lang/String"), (1, .class_ 6), (1, u "java/lang/Object"), (0, u "<init>"), (0, u "()V"), (0, .methodref 1 10), (0, .nameAndType 11 12), (0, u "checkIndex"), (0, u "(II)V"), (1, .class_ 16), (1, u "java/lang/StringLatin1"), (36, u "([BI)C"), (36, u "canEncode"), (14, u "(C)Z"), (15, u "$assertionsDisabled"), (0, u "Z"), (98, .class_ 223), (1, u "java/lang/StringLatin1$LinesSpliterator"), (28, u "charAt"), (137, .class_ 391), (0, u "java/lang/StringLatin1$CharsSpliterator")] 3

def k14m0 : Method := { name := "<init>", desc := "()V", sig := { parameters := [], returnType := none }, accessFlags := 0, code := none }
def k14c1 : Code := { maxStack := 2, maxLocals := 2, code := jdk_43_method_2_code, exceptionTable := #[], attributes := #[] }
def k14m1 : Method := { name := "charAt", desc := "([BI)C", sig := { parameters := [(.array .byte), .int], returnType := some .char }, accessFlags := 9, code := some k14c1 }
def k14c2 : Code := { maxStack := 2, maxLocals := 1, code := jdk_43_method_3_code, exceptionTable := #[], attributes := #[] }
def k14m2 : Method := { name := "canEncode", desc := "(C)Z", sig := { parameters := [.char], returnType := some .boolean }, accessFlags := 9, code := some k14c2 }
/-- java/lang/StringLatin1 -/
def k14 : Class := { plain "java/lang/StringLatin1" (some 0) with
  accessFlags := 48
  interfaces := #[]
  cf := some (fileOf pool14 14 #[.nestMembers #[390, 221]] #[{ accessFlags := 0, nameIndex := 7, descriptorIndex := 8, attributes := #[] }, { accessFlags := 9, nameIndex := 252, descriptorIndex := 53, attributes := #[] }, { accessFlags := 9, nameIndex := 90, descriptorIndex := 105, attributes := #[] }] 48 4 #[] #[{ accessFlags := 4120, nameIndex := 121, descriptorIndex := 122, attributes := #[] }])
  fields := #[{ name := "$assertionsDisabled", type := .boolean, accessFlags := 4120, slot := 0, constantValue := 0 }]
  methods := #[k14m0, k14m1, k14m2]
  instanceTypes := #[]
  staticTypes := #[.boolean]
  resolved := Array.replicate 395 none
  statics := none }

def pool15 : Array CpInfo := pool [(2, .class_ 4), (1, u "java/lang/Object"), (0, u "<init>"), (0, u "()V"), (7, .class_ 16), (1, u "java/util/Arrays"), (57, .class_ 76), (1, u "java/util/Arrays$NaturalOrder"), (36, .class_ 115), (1, u "java/util/Arrays$LegacyMergeSort"), (1, u "Z"), (21, u "copyOfRange"), (10, .methodref 151 152), (0, .class_ 153), (0, .nameAndType 154 155), (0, u "java/lang/System"), (0, u "arraycopy"), (0, u "(Ljava/lang/Object;ILjava/lang/Object;II)V"), (148, .methodref 305 306), (0, .class_ 307), (0, .nameAndType 308 309), (0, u "java/lang/Math"), (0, u "min"), (0, u "(II)I"), (29, .methodref 14 340), (0, .nameAndType 341 342), (0, u "copyOfRangeByte"), (0, u "([BII)[B"), (0, .methodref 14 344), (0, .nameAndType 345 346), (0, u "checkLength"), (0, u "(II)V"), (28, .class_ 376), (0, u "java/util/Arrays$ArrayList"), (68, u "$assertionsDisabled"), (269, u "MIN_ARRAY_SORT_GRAN"), (0, u "I"), (2, u "INSERTIONSORT_THRESHOLD"), (255, .class_ 976), (0, u "java/util/Arrays$ArrayItr")] 52

def k15m0 : Method := { name := "<init>", desc := "()V", sig := { parameters := [], returnType := none }, accessFlags := 2, code := none }
def k15c1 : Code := { maxStack := 4, maxLocals := 2, code := jdk_65_method_131_code, exceptionTable := #[], attributes := #[] }
def k15m1 : Method := { name := "checkLength", desc := "(II)V", sig := { parameters := [.int, .int], returnType := none }, accessFlags := 10, code := some k15c1 }
def k15c2 : Code := { maxStack := 3, maxLocals := 3, code := jdk_65_method_132_code, exceptionTable := #[], attributes := #[] }
def k15m2 : Method := { name := "copyOfRange", desc := "([BII)[B", sig := { parameters := [(.array .byte), .int, .int], returnType := some (.array .byte) }, accessFlags := 9, code := some k15c2 }
def k15c3 : Code := { maxStack := 6, maxLocals := 5, code := jdk_65_method_133_code, exceptionTable := #[], attributes := #[] }
def k15m3 : Method := { name := "copyOfRangeByte", desc := "([BII)[B", sig := { parameters := [(.array .byte), .int, .int], returnType := some (.array .byte) }, accessFlags := 10, code := some k15c3 }
/-- java/util/Arrays -/
def k15 : Class := { plain "java/util/Arrays" (some 0) with
  accessFlags := 49
  interfaces := #[]
  cf := some (fileOf pool15 14 #[.nestMembers #[975, 375, 113, 74]] #[{ accessFlags := 2, nameIndex := 5, descriptorIndex := 6, attributes := #[] }, { accessFlags := 10, nameIndex := 345, descriptorIndex := 346, attributes := #[] }, { accessFlags := 9, nameIndex := 139, descriptorIndex := 342, attributes := #[] }, { accessFlags := 10, nameIndex := 341, descriptorIndex := 342, attributes := #[] }] 49 2 #[] #[{ accessFlags := 26, nameIndex := 715, descriptorIndex := 716, attributes := #[] }, { accessFlags := 26, nameIndex := 719, descriptorIndex := 716, attributes := #[] }, { accessFlags := 4120, nameIndex := 445, descriptorIndex := 117, attributes := #[] }])
  fields := #[{ name := "MIN_ARRAY_SORT_GRAN", type := .int, accessFlags := 26, slot := 0, constantValue := 0 }, { name := "INSERTIONSORT_THRESHOLD", type := .int, accessFlags := 26, slot := 1, constantValue := 0 }, { name := "$assertionsDisabled", type := .boolean, accessFlags := 4120, slot := 2, constantValue := 0 }]
  methods := #[k15m0, k15m1, k15m2, k15m3]
  instanceTypes := #[]
  staticTypes := #[.int, .int, .boolean]
  resolved := Array.replicate 1029 none
  statics := none }

def pool16 : Array CpInfo := pool [(1, .class_ 2), (0, u "java/lang/Math"), (1, .class_ 6), (1, u "java/lang/Object"), (0, u "<init>"), (0, u "()V"), (89, .class_ 100), (1, u "java/lang/Math$RandomNumberGeneratorHolder"), (71, u "negativeZeroFloatBits"), (0, u "J"), (2, u "negativeZeroDoubleBits"), (24, u "min"), (43, u "$assertionsDisabled"), (0, u "Z"), (88, u "(II)I"), (2, u "twoToTheDoubleScaleDown"), (0, u "D"), (4, u "twoToTheDoubleScaleUp"), (9, u "E"), (3, u "PI"), (2, u "TAU"), (2, u "DEGREES_TO_RADIANS"), (0, u "RADIANS_TO_DEGREES")] 94

def k16m0 : Method := { name := "<init>", desc := "()V", sig := { parameters := [], returnType := none }, accessFlags := 2, code := none }
def k16c1 : Code := { maxStack := 2, maxLocals := 2, code := jdk_29_method_69_code, exceptionTable := #[], attributes := #[] }
def k16m1 : Method := { name := "min", desc := "(II)I", sig := { parameters := [.int, .int], returnType := some .int }, accessFlags := 9, code := some k16c1 }
/-- java/lang/Math -/
def k16 : Class := { plain "java/lang/Math" (some 0) with
  accessFlags := 49
  interfaces := #[]
  cf := some (fileOf pool16 1 #[.nestMembers #[98]] #[{ accessFlags := 2, nameIndex := 7, descriptorIndex := 8, attributes := #[] }, { accessFlags := 9, nameIndex := 201, descriptorIndex := 335, attributes := #[] }] 49 4 #[] #[{ accessFlags := 25, nameIndex := 354, descriptorIndex := 339, attributes := #[] }, { accessFlags := 25, nameIndex := 358, descriptorIndex := 339, attributes := #[] }, { accessFlags := 25, nameIndex := 361, descriptorIndex := 339, attributes := #[] }, { accessFlags := 26, nameIndex := 364, descriptorIndex := 339, attributes := #[] }, { accessFlags := 26, nameIndex := 365, descriptorIndex := 339, attributes := #[] }, { accessFlags := 26, nameIndex := 172, descriptorIndex := 173, attributes := #[] }, { accessFlags := 26, nameIndex := 176, descriptorIndex := 173, attributes := #[] }, { accessFlags := 8, nameIndex := 344, descriptorIndex := 339, attributes := #[] }, { accessFlags := 8, nameIndex := 338, descriptorIndex := 339, attributes := #[] }, { accessFlags := 4120, nameIndex := 245, descriptorIndex := 246, attributes := #[] }])
  fields := #[{ name := "E", type := .double, accessFlags := 25, slot := 0, constantValue := 0 }, { name := "PI", type := .double, accessFlags := 25, slot := 1, constantValue := 0 }, { name := "TAU", type := .double, accessFlags := 25, slot := 2, constantValue := 0 }, { name := "DEGREES_TO_RADIANS", type := .double, accessFlags := 26, slot := 3, constantValue := 0 }, { name := "RADIANS_TO_DEGREES", type := .double, accessFlags := 26, slot := 4, constantValue := 0 }, { name := "negativeZeroFloatBits", type := .long, accessFlags := 26, slot := 5, constantValue := 0 }, { name := "negativeZeroDoubleBits", type := .long, accessFlags := 26, slot := 6, constantValue := 0 }, { name := "twoToTheDoubleScaleUp", type := .double, accessFlags := 8, slot := 7, constantValue := 0 }, { name := "twoToTheDoubleScaleDown", type := .double, accessFlags := 8, slot := 8, constantValue := 0 }, { name := "$assertionsDisabled", type := .boolean, accessFlags := 4120, slot := 9, constantValue := 0 }]
  methods := #[k16m0, k16m1]
  instanceTypes := #[]
  staticTypes := #[.double, .double, .double, .double, .double, .long, .long, .double, .double, .boolean]
  resolved := Array.replicate 460 none
  statics := none }

def pool17 : Array CpInfo := pool [(2, .class_ 4), (1, u "java/lang/Object"), (0, u "<init>"), (0, u "()V"), (17, .class_ 26), (1, u "jdk/internal/util/Preconditions"), (6, u "checkIndex"), (21, .class_ 56), (0, u "jdk/internal/util/Preconditions$4"), (57, .class_ 115), (0, u "jdk/internal/util/Preconditions$1"), (7, u "SIOOBE_FORMATTER"), (0, u "Ljava/util/function/BiFunction;"), (0, .class_ 126), (0, u "jdk/internal/util/Preconditions$2"), (3, u "AIOOBE_FORMATTER"), (0, .class_ 132), (0, u "jdk/internal/util/Preconditions$3"), (3, u "IOOBE_FORMATTER"), (41, u "(IILjava/util/function/BiFunction;)I")] 15

def k17m0 : Method := { name := "<init>", desc := "()V", sig := { parameters := [], returnType := none }, accessFlags := 1, code := none }
def k17c1 : Code := { maxStack := 3, maxLocals := 3, code := jdk_41_method_11_code, exceptionTable := #[], attributes := #[] }
def k17m1 : Method := { name := "checkIndex", desc := "(IILjava/util/function/BiFunction;)I", sig := { parameters := [.int, .int, (.object "java/util/function/BiFunction")], returnType := some .int }, accessFlags := 9, code := some k17c1 }
/-- jdk/internal/util/Preconditions -/
def k17 : Class := { plain "jdk/internal/util/Preconditions" (some 0) with
  accessFlags := 33
  interfaces := #[]
  cf := some (fileOf pool17 24 #[.nestMembers #[55, 131, 125, 114]] #[{ accessFlags := 1, nameIndex := 5, descriptorIndex := 6, attributes := #[] }, { accessFlags := 9, nameIndex := 33, descriptorIndex := 178, attributes := #[] }] 33 2 #[] #[{ accessFlags := 25, nameIndex := 123, descriptorIndex := 124, attributes := #[] }, { accessFlags := 25, nameIndex := 130, descriptorIndex := 124, attributes := #[] }, { accessFlags := 25, nameIndex := 136, descriptorIndex := 124, attributes := #[] }])
  fields := #[{ name := "SIOOBE_FORMATTER", type := (.object "java/util/function/BiFunction"), accessFlags := 25, slot := 0, constantValue := 0 }, { name := "AIOOBE_FORMATTER", type := (.object "java/util/function/BiFunction"), accessFlags := 25, slot := 1, constantValue := 0 }, { name := "IOOBE_FORMATTER", type := (.object "java/util/function/BiFunction"), accessFlags := 25, slot := 2, constantValue := 0 }]
  methods := #[k17m0, k17m1]
  instanceTypes := #[]
  staticTypes := #[(.object "java/util/function/BiFunction"), (.object "java/util/function/BiFunction"), (.object "java/util/function/BiFunction")]
  resolved := Array.replicate 194 none
  statics := some 1 }

def pool18 : Array CpInfo := pool [(9, u "<init>"), (6, .class_ 18), (1, u "java/lang/Object"), (0, u "()V"), (1, .class_ 23), (1, u "jdk/internal/util/ArraysSupport"), (0, u "LOG2_ARRAY_LONG_INDEX_SCALE"), (0, u "I"), (2, u "U"), (0, u "Ljdk/internal/misc/Unsafe;"), (8, u "BIG_ENDIAN"), (0, u "Z"), (8, u "LOG2_BYTE_BIT_SIZE"), (4, u "LOG2_ARRAY_INT_INDEX_SCALE"), (54, u "JLA"), (0, u "Ljdk/internal/access/JavaLangAccess;"), (11, u "LOG2_ARRAY_BOOLEAN_INDEX_SCALE"), (9, u "LOG2_ARRAY_BYTE_INDEX_SCALE"), (5, u "LOG2_ARRAY_CHAR_INDEX_SCALE"), (5, u "LOG2_ARRAY_SHORT_INDEX_SCALE"), (18, u "LOG2_ARRAY_FLOAT_INDEX_SCALE"), (24, u "LOG2_ARRAY_DOUBLE_INDEX_SCALE"), (89, u "T_BOOLEAN"), (2, u "T_CHAR"), (1, u "T_FLOAT"), (1, u "T_DOUBLE"), (1, u "T_BYTE"), (1, u "T_SHORT"), (1, u "T_INT"), (1, u "T_LONG"), (1, u "SOFT_MAX_ARRAY_LENGTH")] 83

def k18m0 : Method := { name := "<init>", desc := "()V", sig := { parameters := [], returnType := none }, accessFlags := 2, code := none }
/-- jdk/internal/util/ArraysSupport -/
def k18 : Class := { plain "jdk/internal/util/ArraysSupport" (some 0) with
  accessFlags := 33
  interfaces := #[]
  cf := some (fileOf pool18 21 #[] #[{ accessFlags := 2, nameIndex := 9, descriptorIndex := 19, attributes := #[] }] 33 16 #[] #[{ accessFlags := 24, nameIndex := 28, descriptorIndex := 29, attributes := #[] }, { accessFlags := 26, nameIndex := 38, descriptorIndex := 39, attributes := #[] }, { accessFlags := 25, nameIndex := 121, descriptorIndex := 25, attributes := #[] }, { accessFlags := 25, nameIndex := 131, descriptorIndex := 25, attributes := #[] }, { accessFlags := 25, nameIndex := 137, descriptorIndex := 25, attributes := #[] }, { accessFlags := 25, nameIndex := 143, descriptorIndex := 25, attributes := #[] }, { accessFlags := 25, nameIndex := 53, descriptorIndex := 25, attributes := #[] }, { accessFlags := 25, nameIndex := 24, descriptorIndex := 25, attributes := #[] }, { accessFlags := 25, nameIndex := 162, descriptorIndex := 25, attributes := #[] }, { accessFlags := 25, nameIndex := 187, descriptorIndex := 25, attributes := #[] }, { accessFlags := 26, nameIndex := 48, descriptorIndex := 25, attributes := #[] }, { accessFlags := 25, nameIndex := 277, descriptorIndex := 25, attributes := #[] }, { accessFlags := 25, nameIndex := 280, descriptorIndex := 25, attributes := #[] }, { accessFlags := 25, nameIndex := 282, descriptorIndex := 25, attributes := #[] }, { accessFlags := 25, nameIndex := 284, descriptorIndex := 25, attributes := #[] }, { accessFlags := 25, nameIndex := 286, descriptorIndex := 25, attributes := #[] }, { accessFlags := 25, nameIndex := 288, descriptorIndex := 25, attributes := #[] }, { accessFlags := 25, nameIndex := 290, descriptorIndex := 25, attributes := #[] }, { accessFlags := 25, nameIndex := 292, descriptorIndex := 25, attributes := #[] }, { accessFlags := 26, nameIndex := 108, descriptorIndex := 109, attributes := #[] }, { accessFlags := 25, nameIndex := 294, descriptorIndex := 25, attributes := #[] }])
  fields := #[{ name := "U", type := (.object "jdk/internal/misc/Unsafe"), accessFlags := 24, slot := 0, constantValue := 0 }, { name := "BIG_ENDIAN", type := .boolean, accessFlags := 26, slot := 1, constantValue := 0 }, { name := "LOG2_ARRAY_BOOLEAN_INDEX_SCALE", type := .int, accessFlags := 25, slot := 2, constantValue := 0 }, { name := "LOG2_ARRAY_BYTE_INDEX_SCALE", type := .int, accessFlags := 25, slot := 3, constantValue := 0 }, { name := "LOG2_ARRAY_CHAR_INDEX_SCALE", type := .int, accessFlags := 25, slot := 4, constantValue := 0 }, { name := "LOG2_ARRAY_SHORT_INDEX_SCALE", type := .int, accessFlags := 25, slot := 5, constantValue := 0 }, { name := "LOG2_ARRAY_INT_INDEX_SCALE", type := .int, accessFlags := 25, slot := 6, constantValue := 0 }, { name := "LOG2_ARRAY_LONG_INDEX_SCALE", type := .int, accessFlags := 25, slot := 7, constantValue := 0 }, { name := "LOG2_ARRAY_FLOAT_INDEX_SCALE", type := .int, accessFlags := 25, slot := 8, constantValue := 0 }, { name := "LOG2_ARRAY_DOUBLE_INDEX_SCALE", type := .int, accessFlags := 25, slot := 9, constantValue := 0 }, { name := "LOG2_BYTE_BIT_SIZE", type := .int, accessFlags := 26, slot := 10, constantValue := 0 }, { name := "T_BOOLEAN", type := .int, accessFlags := 25, slot := 11, constantValue := 0 }, { name := "T_CHAR", type := .int, accessFlags := 25, slot := 12, constantValue := 0 }, { name := "T_FLOAT", type := .int, accessFlags := 25, slot := 13, constantValue := 0 }, { name := "T_DOUBLE", type := .int, accessFlags := 25, slot := 14, constantValue := 0 }, { name := "T_BYTE", type := .int, accessFlags := 25, slot := 15, constantValue := 0 }, { name := "T_SHORT", type := .int, accessFlags := 25, slot := 16, constantValue := 0 }, { name := "T_INT", type := .int, accessFlags := 25, slot := 17, constantValue := 0 }, { name := "T_LONG", type := .int, accessFlags := 25, slot := 18, constantValue := 0 }, { name := "JLA", type := (.object "jdk/internal/access/JavaLangAccess"), accessFlags := 26, slot := 19, constantValue := 0 }, { name := "SOFT_MAX_ARRAY_LENGTH", type := .int, accessFlags := 25, slot := 20, constantValue := 0 }]
  methods := #[k18m0]
  instanceTypes := #[]
  staticTypes := #[(.object "jdk/internal/misc/Unsafe"), .boolean, .int, .int, .int, .int, .int, .int, .int, .int, .int, .int, .int, .int, .int, .int, .int, .int, .int, (.object "jdk/internal/access/JavaLangAccess"), .int]
  resolved := Array.replicate 378 none
  statics := none }

def pool19 : Array CpInfo := pool [(1, u "java/lang/Cloneable"), (0, .class_ 1), (0, u "java/lang/Object"), (0, .class_ 3)] 3

/-- java/lang/Cloneable -/
def k19 : Class := { plain "java/lang/Cloneable" (some 0) with
  accessFlags := 1537
  interfaces := #[]
  cf := some (fileOf pool19 2 #[] #[] 1537 4 #[] #[])
  fields := #[]
  methods := #[]
  instanceTypes := #[]
  staticTypes := #[]
  resolved := Array.replicate 8 none
  statics := none }

/-- the primitive byte -/
def k20 : Class := { plain "byte" none with kind := .primitive 'B', accessFlags := 0x411 }
/-- [B -/
def k21 : Class := { plain "[B" (some 0) with kind := .array 20 .byte, interfaces := #[19, 6], accessFlags := 1041 }

/-- the primitive char -/
def k22 : Class := { plain "char" none with kind := .primitive 'C', accessFlags := 0x411 }
/-- [C -/
def k23 : Class := { plain "[C" (some 0) with kind := .array 22 .char, interfaces := #[19, 6], accessFlags := 1041 }

/-- the primitive int -/
def k24 : Class := { plain "int" none with kind := .primitive 'I', accessFlags := 0x411 }
/-- [I -/
def k25 : Class := { plain "[I" (some 0) with kind := .array 24 .int, interfaces := #[19, 6], accessFlags := 1041 }

def heap : Heap := #[{ cls := 11, slots := #[.long 0, .int 1, .null, .int 0, .null, .int 0, .int 0], vm := .statics 11 },
  { cls := 17, slots := #[.null, .null, .null], vm := .statics 17 }]
def classes : Array Class := #[k0, k1, k2, k3, k4, k5, k6, k7, k8, k9, k10, k11, k12, k13, k14, k15, k16, k17, k18, k19, k20, k21, k22, k23, k24, k25]
def interned : List (Array UInt16 × Addr) := []
def slotsUsed : Nat := 10
def theMethod : MethodId := ⟨1, 1⟩
def args0 : Array Value := #[.int 5, .int 7, .int 3]
def aboutOver (below : List Frame) : State where
  vm := { classes := classes, interned := interned.toArray }
  heap := heap
  slotsUsed := slotsUsed
  threads := #[{ frames := .invoking theMethod args0 :: below }]
def below0 : List Frame := [.native { method := ⟨0, 0⟩, args := #[] }]
def about1 : State := aboutOver below0
def p0 : Program := .bare "" "" ""
def e0 : Env := launch0.env 0 0 0
theorem w_frames : about1.frames = Frame.invoking theMethod args0 :: below0 := rfl
set_option maxRecDepth 65536 in
theorem w_args : argsFit about1.vm theMethod args0 = true := by decide +kernel
set_option maxRecDepth 65536 in
theorem w_heap : heapFits about1 = true := by decide +kernel
set_option maxRecDepth 65536 in
theorem w_runnable : about1.curStatus? = some .runnable := by decide +kernel
set_option maxRecDepth 65536 in
theorem w_alone : about1.alone = true := by decide +kernel
set_option maxRecDepth 65536 in
theorem w_named : about1.methodNamed? x = some theMethod := by decide +kernel
set_option maxRecDepth 65536 in
theorem w_hears : about1.hears theMethod below0 = true := by decide +kernel
set_option maxRecDepth 65536 in
theorem w_ripe : about1.ripe theMethod args0 below0 = true := by decide +kernel
theorem w_running : about1.status = .running := rfl
set_option maxRecDepth 65536 in
theorem w_room : about1.hasRoom e0.platform room_1 = true :=
  launch0.hasRoom_least _ room_1 (by decide +kernel) (by decide +kernel) (by decide +kernel) (by decide +kernel) (by decide +kernel) (by decide +kernel)
theorem allAtoms_all (ts : List Jvm.Cond) (a : Array Jvm.Value) (st : Jvm.State) : (allAtoms ts).before a st = ts.all (fun c => c.before a st) := by
  induction ts with
  | nil => rfl
  | cons c t ih =>
    show (Jvm.Cond.and c (allAtoms t)).before a st = _
    rw [Jvm.Cond.before_and, ih, List.all_cons]
def words1 : List Jvm.Cond := Jvm.Cond.code x code maxLocals ret :: tables_1
/-- a 'code' word, met by the world's own term for the bytes: nothing is compared byte by byte -/
theorem code_word {y : MethodName} {bytes : ByteArray} {mx : Nat} {rt : Option FieldType} {a : Array Value} {s : State} {m : MethodId} {meth : Method} {c : Code} (h1 : s.methodNamed? y = some m) (h2 : s.vm.method? m = some meth) (h3 : meth.code = some c) (h4 : c.code = bytes)
    (h5 : (c.maxLocals == mx && c.exceptionTable.isEmpty && decide (c.maxStack ≤ mostOperands) && decide (meth.sig.returnType = rt) && !meth.locks && decide (parseMethodDescriptor y.desc = some meth.sig)) = true) : (Jvm.Cond.code y bytes mx rt).before a s = true := by
  simp only [Bool.and_eq_true, beq_iff_eq, Bool.not_eq_true', decide_eq_true_eq] at h5
  obtain ⟨⟨⟨⟨⟨g1, g2⟩, g3⟩, g4⟩, g5⟩, g6⟩ := h5
  simp [Cond.before, Cond.holds, Cond.value, h1, h2, h3, h4, g1, g2, g3, g4, g5, g6]
def isCode : Jvm.Cond → Bool
  | .code _ _ _ _ => true
  | _ => false
theorem all_split {L : List Jvm.Cond} {P : Jvm.Cond → Bool} (h1 : L.all (fun c => isCode c || P c) = true) (h2 : ∀ c ∈ L.filter isCode, P c = true) : L.all P = true := by
  refine List.all_eq_true.mpr fun c hc => ?_
  have h := List.all_eq_true.mp h1 c hc
  rcases Bool.eq_false_or_eq_true (isCode c) with hi | hi
  · exact h2 c (List.mem_filter.mpr ⟨hc, hi⟩)
  · simpa [hi] using h
set_option maxRecDepth 65536 in
theorem w_c0 : (Jvm.Cond.code x code maxLocals ret).before args0 about1 = true := code_word (m := ⟨1, 1⟩) (meth := k1m1) (c := k1c1) (by decide +kernel) rfl rfl rfl (by decide +kernel)
set_option maxRecDepth 65536 in
theorem w_c1 : (Jvm.Cond.code ({ cls := "com/example/tetrad/tetrad/generate/SourceText", name := "<init>", desc := "()V" } : Jvm.MethodName) prog_51_method_1_code (1 : Nat) (Option.none : Option Jvm.ClassFile.FieldType)).before args0 about1 = true := code_word (m := ⟨2, 0⟩) (meth := k2m0) (c := k2c0) (by decide +kernel) rfl rfl rfl (by decide +kernel)
set_option maxRecDepth 65536 in
theorem w_c2 : (Jvm.Cond.code ({ cls := "java/lang/Object", name := "<init>", desc := "()V" } : Jvm.MethodName) object_method_1_code (1 : Nat) (Option.none : Option Jvm.ClassFile.FieldType)).before args0 about1 = true := code_word (m := ⟨0, 0⟩) (meth := k0m0) (c := k0c0) (by decide +kernel) rfl rfl rfl (by decide +kernel)
set_option maxRecDepth 65536 in
theorem w_c3 : (Jvm.Cond.code ({ cls := "java/lang/StringBuilder", name := "<init>", desc := "()V" } : Jvm.MethodName) jdk_67_method_1_code (1 : Nat) (Option.none : Option Jvm.ClassFile.FieldType)).before args0 about1 = true := code_word (m := ⟨8, 0⟩) (meth := k8m0) (c := k8c0) (by decide +kernel) rfl rfl rfl (by decide +kernel)
set_option maxRecDepth 65536 in
theorem w_c4 : (Jvm.Cond.code ({ cls := "java/lang/AbstractStringBuilder", name := "<init>", desc := "(I)V" } : Jvm.MethodName) jdk_68_method_2_code (2 : Nat) (Option.none : Option Jvm.ClassFile.FieldType)).before args0 about1 = true := code_word (m := ⟨5, 1⟩) (meth := k5m1) (c := k5c1) (by decide +kernel) rfl rfl rfl (by decide +kernel)
set_option maxRecDepth 65536 in
theorem w_c5 : (Jvm.Cond.code ({ cls := "com/example/tetrad/tetrad/generate/SourceText", name := "indent", desc := "()Lcom/example/tetrad/tetrad/generate/SourceText;" } : Jvm.MethodName) prog_51_method_5_code (1 : Nat) (Option.some (Jvm.ClassFile.FieldType.object "com/example/tetrad/tetrad/generate/SourceText"))).before args0 about1 = true := code_word (m := ⟨2, 2⟩) (meth := k2m2) (c := k2c2) (by decide +kernel) rfl rfl rfl (by decide +kernel)
set_option maxRecDepth 65536 in
theorem w_c6 : (Jvm.Cond.code ({ cls := "com/example/tetrad/tetrad/generate/SourceText", name := "dedent", desc := "()Lcom/example/tetrad/tetrad/generate/SourceText;" } : Jvm.MethodName) prog_51_method_6_code (1 : Nat) (Option.some (Jvm.ClassFile.FieldType.object "com/example/tetrad/tetrad/generate/SourceText"))).before args0 about1 = true := code_word (m := ⟨2, 3⟩) (meth := k2m3) (c := k2c3) (by decide +kernel) rfl rfl rfl (by decide +kernel)
set_option maxRecDepth 65536 in
theorem w_c7 : (Jvm.Cond.code ({ cls := "java/lang/String", name := "<init>", desc := "([C)V" } : Jvm.MethodName) jdk_42_method_3_code (2 : Nat) (Option.none : Option Jvm.ClassFile.FieldType)).before args0 about1 = true := code_word (m := ⟨11, 1⟩) (meth := k11m1) (c := k11c1) (by decide +kernel) rfl rfl rfl (by decide +kernel)
set_option maxRecDepth 65536 in
theorem w_c8 : (Jvm.Cond.code ({ cls := "java/lang/String", name := "<init>", desc := "([CIILjava/lang/Void;)V" } : Jvm.MethodName) jdk_42_method_149_code (6 : Nat) (Option.none : Option Jvm.ClassFile.FieldType)).before args0 about1 = true := code_word (m := ⟨11, 9⟩) (meth := k11m9) (c := k11c9) (by decide +kernel) rfl rfl rfl (by decide +kernel)
set_option maxRecDepth 65536 in
theorem w_c9 : (Jvm.Cond.code ({ cls := "java/lang/StringUTF16", name := "compress", desc := "([CII)[B" } : Jvm.MethodName) jdk_52_method_16_code (6 : Nat) (Option.some (Jvm.ClassFile.FieldType.array Jvm.ClassFile.FieldType.byte))).before args0 about1 = true := code_word (m := ⟨12, 2⟩) (meth := k12m2) (c := k12c2) (by decide +kernel) rfl rfl rfl (by decide +kernel)
set_option maxRecDepth 65536 in
theorem w_c10 : (Jvm.Cond.code ({ cls := "java/lang/StringUTF16", name := "compress", desc := "([CI[BII)I" } : Jvm.MethodName) jdk_52_method_21_code (7 : Nat) (Option.some Jvm.ClassFile.FieldType.int)).before args0 about1 = true := code_word (m := ⟨12, 3⟩) (meth := k12m3) (c := k12c3) (by decide +kernel) rfl rfl rfl (by decide +kernel)
set_option maxRecDepth 65536 in
theorem w_c11 : (Jvm.Cond.code ({ cls := "java/lang/StringUTF16", name := "coderFromArrayLen", desc := "([BI)B" } : Jvm.MethodName) jdk_52_method_15_code (2 : Nat) (Option.some Jvm.ClassFile.FieldType.byte)).before args0 about1 = true := code_word (m := ⟨12, 1⟩) (meth := k12m1) (c := k12c1) (by decide +kernel) rfl rfl rfl (by decide +kernel)
set_option maxRecDepth 65536 in
theorem w_c12 : (Jvm.Cond.code ({ cls := "com/example/tetrad/tetrad/generate/SourceText", name := "line", desc := "(Ljava/lang/String;)Lcom/example/tetrad/tetrad/generate/SourceText;" } : Jvm.MethodName) prog_51_method_2_code (2 : Nat) (Option.some (Jvm.ClassFile.FieldType.object "com/example/tetrad/tetrad/generate/SourceText"))).before args0 about1 = true := code_word (m := ⟨2, 1⟩) (meth := k2m1) (c := k2c1) (by decide +kernel) rfl rfl rfl (by decide +kernel)
set_option maxRecDepth 65536 in
theorem w_c13 : (Jvm.Cond.code ({ cls := "java/lang/String", name := "isEmpty", desc := "()Z" } : Jvm.MethodName) jdk_42_method_55_code (1 : Nat) (Option.some Jvm.ClassFile.FieldType.boolean)).before args0 about1 = true := code_word (m := ⟨11, 4⟩) (meth := k11m4) (c := k11c4) (by decide +kernel) rfl rfl rfl (by decide +kernel)
set_option maxRecDepth 65536 in
theorem w_c14 : (Jvm.Cond.code ({ cls := "java/lang/String", name := "repeat", desc := "(I)Ljava/lang/String;" } : Jvm.MethodName) jdk_42_method_145_code (5 : Nat) (Option.some (Jvm.ClassFile.FieldType.object "java/lang/String"))).before args0 about1 = true := code_word (m := ⟨11, 6⟩) (meth := k11m6) (c := k11c6) (by decide +kernel) rfl rfl rfl (by decide +kernel)
set_option maxRecDepth 65536 in
theorem w_c15 : (Jvm.Cond.code ({ cls := "java/lang/StringBuilder", name := "append", desc := "(Ljava/lang/String;)Ljava/lang/StringBuilder;" } : Jvm.MethodName) jdk_67_method_7_code (2 : Nat) (Option.some (Jvm.ClassFile.FieldType.object "java/lang/StringBuilder"))).before args0 about1 = true := code_word (m := ⟨8, 1⟩) (meth := k8m1) (c := k8c1) (by decide +kernel) rfl rfl rfl (by decide +kernel)
set_option maxRecDepth 65536 in
theorem w_c16 : (Jvm.Cond.code ({ cls := "java/lang/AbstractStringBuilder", name := "append", desc := "(Ljava/lang/String;)Ljava/lang/AbstractStringBuilder;" } : Jvm.MethodName) jdk_68_method_22_code (3 : Nat) (Option.some (Jvm.ClassFile.FieldType.object "java/lang/AbstractStringBuilder"))).before args0 about1 = true := code_word (m := ⟨5, 4⟩) (meth := k5m4) (c := k5c4) (by decide +kernel) rfl rfl rfl (by decide +kernel)
set_option maxRecDepth 65536 in
theorem w_c17 : (Jvm.Cond.code ({ cls := "java/lang/String", name := "length", desc := "()I" } : Jvm.MethodName) jdk_42_method_54_code (1 : Nat) (Option.some Jvm.ClassFile.FieldType.int)).before args0 about1 = true := code_word (m := ⟨11, 3⟩) (meth := k11m3) (c := k11c3) (by decide +kernel) rfl rfl rfl (by decide +kernel)
set_option maxRecDepth 65536 in
theorem w_c18 : (Jvm.Cond.code ({ cls := "java/lang/String", name := "coder", desc := "()B" } : Jvm.MethodName) jdk_42_method_152_code (1 : Nat) (Option.some Jvm.ClassFile.FieldType.byte)).before args0 about1 = true := code_word (m := ⟨11, 12⟩) (meth := k11m12) (c := k11c12) (by decide +kernel) rfl rfl rfl (by decide +kernel)
set_option maxRecDepth 65536 in
theorem w_c19 : (Jvm.Cond.code ({ cls := "java/lang/AbstractStringBuilder", name := "ensureCapacityInternal", desc := "(I)V" } : Jvm.MethodName) jdk_68_method_9_code (3 : Nat) (Option.none : Option Jvm.ClassFile.FieldType)).before args0 about1 = true := code_word (m := ⟨5, 3⟩) (meth := k5m3) (c := k5c3) (by decide +kernel) rfl rfl rfl (by decide +kernel)
set_option maxRecDepth 65536 in
theorem w_c20 : (Jvm.Cond.code ({ cls := "java/lang/AbstractStringBuilder", name := "putStringAt", desc := "(ILjava/lang/String;)V" } : Jvm.MethodName) jdk_68_method_73_code (3 : Nat) (Option.none : Option Jvm.ClassFile.FieldType)).before args0 about1 = true := code_word (m := ⟨5, 9⟩) (meth := k5m9) (c := k5c9) (by decide +kernel) rfl rfl rfl (by decide +kernel)
set_option maxRecDepth 65536 in
theorem w_c21 : (Jvm.Cond.code ({ cls := "java/lang/AbstractStringBuilder", name := "inflateIfNeededFor", desc := "(Ljava/lang/String;)V" } : Jvm.MethodName) jdk_68_method_71_code (2 : Nat) (Option.none : Option Jvm.ClassFile.FieldType)).before args0 about1 = true := code_word (m := ⟨5, 8⟩) (meth := k5m8) (c := k5c8) (by decide +kernel) rfl rfl rfl (by decide +kernel)
set_option maxRecDepth 65536 in
theorem w_c22 : (Jvm.Cond.code ({ cls := "java/lang/String", name := "getBytes", desc := "([BIB)V" } : Jvm.MethodName) jdk_42_method_147_code (4 : Nat) (Option.none : Option Jvm.ClassFile.FieldType)).before args0 about1 = true := code_word (m := ⟨11, 8⟩) (meth := k11m8) (c := k11c8) (by decide +kernel) rfl rfl rfl (by decide +kernel)
set_option maxRecDepth 65536 in
theorem w_c23 : (Jvm.Cond.code ({ cls := "java/lang/StringBuilder", name := "append", desc := "(C)Ljava/lang/StringBuilder;" } : Jvm.MethodName) jdk_67_method_14_code (2 : Nat) (Option.some (Jvm.ClassFile.FieldType.object "java/lang/StringBuilder"))).before args0 about1 = true := code_word (m := ⟨8, 2⟩) (meth := k8m2) (c := k8c2) (by decide +kernel) rfl rfl rfl (by decide +kernel)
set_option maxRecDepth 65536 in
theorem w_c24 : (Jvm.Cond.code ({ cls := "java/lang/AbstractStringBuilder", name := "append", desc := "(C)Ljava/lang/AbstractStringBuilder;" } : Jvm.MethodName) jdk_68_method_31_code (2 : Nat) (Option.some (Jvm.ClassFile.FieldType.object "java/lang/AbstractStringBuilder"))).before args0 about1 = true := code_word (m := ⟨5, 5⟩) (meth := k5m5) (c := k5c5) (by decide +kernel) rfl rfl rfl (by decide +kernel)
set_option maxRecDepth 65536 in
theorem w_c25 : (Jvm.Cond.code ({ cls := "java/lang/AbstractStringBuilder", name := "isLatin1", desc := "()Z" } : Jvm.MethodName) jdk_68_method_68_code (1 : Nat) (Option.some Jvm.ClassFile.FieldType.boolean)).before args0 about1 = true := code_word (m := ⟨5, 7⟩) (meth := k5m7) (c := k5c7) (by decide +kernel) rfl rfl rfl (by decide +kernel)
set_option maxRecDepth 65536 in
theorem w_c26 : (Jvm.Cond.code ({ cls := "java/lang/StringLatin1", name := "canEncode", desc := "(C)Z" } : Jvm.MethodName) jdk_43_method_3_code (1 : Nat) (Option.some Jvm.ClassFile.FieldType.boolean)).before args0 about1 = true := code_word (m := ⟨14, 2⟩) (meth := k14m2) (c := k14c2) (by decide +kernel) rfl rfl rfl (by decide +kernel)
set_option maxRecDepth 65536 in
theorem w_c27 : (Jvm.Cond.code ({ cls := "com/example/tetrad/tetrad/generate/SourceText", name := "toString", desc := "()Ljava/lang/String;" } : Jvm.MethodName) prog_51_method_9_code (1 : Nat) (Option.some (Jvm.ClassFile.FieldType.object "java/lang/String"))).before args0 about1 = true := code_word (m := ⟨2, 4⟩) (meth := k2m4) (c := k2c4) (by decide +kernel) rfl rfl rfl (by decide +kernel)
set_option maxRecDepth 65536 in
theorem w_c28 : (Jvm.Cond.code ({ cls := "java/lang/StringBuilder", name := "toString", desc := "()Ljava/lang/String;" } : Jvm.MethodName) jdk_67_method_42_code (1 : Nat) (Option.some (Jvm.ClassFile.FieldType.object "java/lang/String"))).before args0 about1 = true := code_word (m := ⟨8, 3⟩) (meth := k8m3) (c := k8c3) (by decide +kernel) rfl rfl rfl (by decide +kernel)
set_option maxRecDepth 65536 in
theorem w_c29 : (Jvm.Cond.code ({ cls := "java/lang/String", name := "<init>", desc := "(Ljava/lang/StringBuilder;)V" } : Jvm.MethodName) jdk_42_method_53_code (2 : Nat) (Option.none : Option Jvm.ClassFile.FieldType)).before args0 about1 = true := code_word (m := ⟨11, 2⟩) (meth := k11m2) (c := k11c2) (by decide +kernel) rfl rfl rfl (by decide +kernel)
set_option maxRecDepth 65536 in
theorem w_c30 : (Jvm.Cond.code ({ cls := "java/lang/String", name := "<init>", desc := "(Ljava/lang/AbstractStringBuilder;Ljava/lang/Void;)V" } : Jvm.MethodName) jdk_42_method_150_code (5 : Nat) (Option.none : Option Jvm.ClassFile.FieldType)).before args0 about1 = true := code_word (m := ⟨11, 10⟩) (meth := k11m10) (c := k11c10) (by decide +kernel) rfl rfl rfl (by decide +kernel)
set_option maxRecDepth 65536 in
theorem w_c31 : (Jvm.Cond.code ({ cls := "java/lang/AbstractStringBuilder", name := "getValue", desc := "()[B" } : Jvm.MethodName) jdk_68_method_64_code (1 : Nat) (Option.some (Jvm.ClassFile.FieldType.array Jvm.ClassFile.FieldType.byte))).before args0 about1 = true := code_word (m := ⟨5, 6⟩) (meth := k5m6) (c := k5c6) (by decide +kernel) rfl rfl rfl (by decide +kernel)
set_option maxRecDepth 65536 in
theorem w_c32 : (Jvm.Cond.code ({ cls := "java/lang/StringBuilder", name := "length", desc := "()I" } : Jvm.MethodName) jdk_67_method_93_code (1 : Nat) (Option.some Jvm.ClassFile.FieldType.int)).before args0 about1 = true := code_word (m := ⟨8, 4⟩) (meth := k8m4) (c := k8c4) (by decide +kernel) rfl rfl rfl (by decide +kernel)
set_option maxRecDepth 65536 in
theorem w_c33 : (Jvm.Cond.code ({ cls := "java/lang/AbstractStringBuilder", name := "length", desc := "()I" } : Jvm.MethodName) jdk_68_method_6_code (1 : Nat) (Option.some Jvm.ClassFile.FieldType.int)).before args0 about1 = true := code_word (m := ⟨5, 2⟩) (meth := k5m2) (c := k5c2) (by decide +kernel) rfl rfl rfl (by decide +kernel)
set_option maxRecDepth 65536 in
theorem w_c34 : (Jvm.Cond.code ({ cls := "java/util/Arrays", name := "copyOfRange", desc := "([BII)[B" } : Jvm.MethodName) jdk_65_method_132_code (3 : Nat) (Option.some (Jvm.ClassFile.FieldType.array Jvm.ClassFile.FieldType.byte))).before args0 about1 = true := code_word (m := ⟨15, 2⟩) (meth := k15m2) (c := k15c2) (by decide +kernel) rfl rfl rfl (by decide +kernel)
set_option maxRecDepth 65536 in
theorem w_c35 : (Jvm.Cond.code ({ cls := "java/util/Arrays", name := "copyOfRangeByte", desc := "([BII)[B" } : Jvm.MethodName) jdk_65_method_133_code (5 : Nat) (Option.some (Jvm.ClassFile.FieldType.array Jvm.ClassFile.FieldType.byte))).before args0 about1 = true := code_word (m := ⟨15, 3⟩) (meth := k15m3) (c := k15c3) (by decide +kernel) rfl rfl rfl (by decide +kernel)
set_option maxRecDepth 65536 in
theorem w_c36 : (Jvm.Cond.code ({ cls := "java/util/Arrays", name := "checkLength", desc := "(II)V" } : Jvm.MethodName) jdk_65_method_131_code (2 : Nat) (Option.none : Option Jvm.ClassFile.FieldType)).before args0 about1 = true := code_word (m := ⟨15, 1⟩) (meth := k15m1) (c := k15c1) (by decide +kernel) rfl rfl rfl (by decide +kernel)
set_option maxRecDepth 65536 in
theorem w_c37 : (Jvm.Cond.code ({ cls := "java/lang/Math", name := "min", desc := "(II)I" } : Jvm.MethodName) jdk_29_method_69_code (2 : Nat) (Option.some Jvm.ClassFile.FieldType.int)).before args0 about1 = true := code_word (m := ⟨16, 1⟩) (meth := k16m1) (c := k16c1) (by decide +kernel) rfl rfl rfl (by decide +kernel)
set_option maxRecDepth 65536 in
theorem w_c38 : (Jvm.Cond.code ({ cls := "com/example/tetrad/tetrad/generate/SourceTextDedentPinLaw", name := "spaces", desc := "(Ljava/lang/String;I)Z" } : Jvm.MethodName) method_3_code (2 : Nat) (Option.some Jvm.ClassFile.FieldType.boolean)).before args0 about1 = true := code_word (m := ⟨1, 2⟩) (meth := k1m2) (c := k1c2) (by decide +kernel) rfl rfl rfl (by decide +kernel)
set_option maxRecDepth 65536 in
theorem w_c39 : (Jvm.Cond.code ({ cls := "com/example/tetrad/tetrad/generate/SourceTextDedentPinLaw", name := "sp", desc := "(Ljava/lang/String;II)Z" } : Jvm.MethodName) method_4_code (3 : Nat) (Option.some Jvm.ClassFile.FieldType.boolean)).before args0 about1 = true := code_word (m := ⟨1, 3⟩) (meth := k1m3) (c := k1c3) (by decide +kernel) rfl rfl rfl (by decide +kernel)
set_option maxRecDepth 65536 in
theorem w_c40 : (Jvm.Cond.code ({ cls := "java/lang/String", name := "charAt", desc := "(I)C" } : Jvm.MethodName) jdk_42_method_56_code (2 : Nat) (Option.some Jvm.ClassFile.FieldType.char)).before args0 about1 = true := code_word (m := ⟨11, 5⟩) (meth := k11m5) (c := k11c5) (by decide +kernel) rfl rfl rfl (by decide +kernel)
set_option maxRecDepth 65536 in
theorem w_c41 : (Jvm.Cond.code ({ cls := "java/lang/String", name := "isLatin1", desc := "()Z" } : Jvm.MethodName) jdk_42_method_154_code (1 : Nat) (Option.some Jvm.ClassFile.FieldType.boolean)).before args0 about1 = true := code_word (m := ⟨11, 13⟩) (meth := k11m13) (c := k11c13) (by decide +kernel) rfl rfl rfl (by decide +kernel)
set_option maxRecDepth 65536 in
theorem w_c42 : (Jvm.Cond.code ({ cls := "java/lang/StringLatin1", name := "charAt", desc := "([BI)C" } : Jvm.MethodName) jdk_43_method_2_code (2 : Nat) (Option.some Jvm.ClassFile.FieldType.char)).before args0 about1 = true := code_word (m := ⟨14, 1⟩) (meth := k14m1) (c := k14c1) (by decide +kernel) rfl rfl rfl (by decide +kernel)
set_option maxRecDepth 65536 in
theorem w_c43 : (Jvm.Cond.code ({ cls := "java/lang/String", name := "checkIndex", desc := "(II)V" } : Jvm.MethodName) jdk_42_method_155_code (2 : Nat) (Option.none : Option Jvm.ClassFile.FieldType)).before args0 about1 = true := code_word (m := ⟨11, 14⟩) (meth := k11m14) (c := k11c14) (by decide +kernel) rfl rfl rfl (by decide +kernel)
set_option maxRecDepth 65536 in
theorem w_c44 : (Jvm.Cond.code ({ cls := "jdk/internal/util/Preconditions", name := "checkIndex", desc := "(IILjava/util/function/BiFunction;)I" } : Jvm.MethodName) jdk_41_method_11_code (3 : Nat) (Option.some Jvm.ClassFile.FieldType.int)).before args0 about1 = true := code_word (m := ⟨17, 1⟩) (meth := k17m1) (c := k17c1) (by decide +kernel) rfl rfl rfl (by decide +kernel)
set_option maxRecDepth 65536 in
theorem w_c45 : (Jvm.Cond.code ({ cls := "java/lang/String", name := "repeatCopyRest", desc := "([BIII)V" } : Jvm.MethodName) jdk_42_method_146_code (4 : Nat) (Option.none : Option Jvm.ClassFile.FieldType)).before args0 about1 = true := code_word (m := ⟨11, 7⟩) (meth := k11m7) (c := k11c7) (by decide +kernel) rfl rfl rfl (by decide +kernel)
set_option maxRecDepth 65536 in
theorem w_c46 : (Jvm.Cond.code ({ cls := "java/lang/String", name := "<init>", desc := "([BB)V" } : Jvm.MethodName) jdk_42_method_151_code (3 : Nat) (Option.none : Option Jvm.ClassFile.FieldType)).before args0 about1 = true := code_word (m := ⟨11, 11⟩) (meth := k11m11) (c := k11c11) (by decide +kernel) rfl rfl rfl (by decide +kernel)
def codes1 : List Jvm.Cond := [Jvm.Cond.code x code maxLocals ret, Jvm.Cond.code ({ cls := "com/example/tetrad/tetrad/generate/SourceText", name := "<init>", desc := "()V" } : Jvm.MethodName) prog_51_method_1_code (1 : Nat) (Option.none : Option Jvm.ClassFile.FieldType), Jvm.Cond.code ({ cls := "java/lang/Object", name := "<init>", desc := "()V" } : Jvm.MethodName) object_method_1_code (1 : Nat) (Option.none : Option Jvm.ClassFile.FieldType), Jvm.Cond.code ({ cls := "java/lang/StringBuilder", name := "<init>", desc := "()V" } : Jvm.MethodName) jdk_67_method_1_code (1 : Nat) (Option.none : Option Jvm.ClassFile.FieldType), Jvm.Cond.code ({ cls := "java/lang/AbstractStringBuilder", name := "<init>", desc := "(I)V" } : Jvm.MethodName) jdk_68_method_2_code (2 : Nat) (Option.none : Option Jvm.ClassFile.FieldType), Jvm.Cond.code ({ cls := "com/example/tetrad/tetrad/generate/SourceText", name := "indent", desc := "()Lcom/example/tetrad/tetrad/generate/SourceText;" } : Jvm.MethodName) prog_51_method_5_code (1 : Nat) (Option.some (Jvm.ClassFile.FieldType.object "com/example/tetrad/tetrad/generate/SourceText")), Jvm.Cond.code ({ cls := "com/example/tetrad/tetrad/generate/SourceText", name := "dedent", desc := "()Lcom/example/tetrad/tetrad/generate/SourceText;" } : Jvm.MethodName) prog_51_method_6_code (1 : Nat) (Option.some (Jvm.ClassFile.FieldType.object "com/example/tetrad/tetrad/generate/SourceText")), Jvm.Cond.code ({ cls := "java/lang/String", name := "<init>", desc := "([C)V" } : Jvm.MethodName) jdk_42_method_3_code (2 : Nat) (Option.none : Option Jvm.ClassFile.FieldType), Jvm.Cond.code ({ cls := "java/lang/String", name := "<init>", desc := "([CIILjava/lang/Void;)V" } : Jvm.MethodName) jdk_42_method_149_code (6 : Nat) (Option.none : Option Jvm.ClassFile.FieldType), Jvm.Cond.code ({ cls := "java/lang/StringUTF16", name := "compress", desc := "([CII)[B" } : Jvm.MethodName) jdk_52_method_16_code (6 : Nat) (Option.some (Jvm.ClassFile.FieldType.array Jvm.ClassFile.FieldType.byte)), Jvm.Cond.code ({ cls := "java/lang/StringUTF16", name := "compress", desc := "([CI[BII)I" } : Jvm.MethodName) jdk_52_method_21_code (7 : Nat) (Option.some Jvm.ClassFile.FieldType.int), Jvm.Cond.code ({ cls := "java/lang/StringUTF16", name := "coderFromArrayLen", desc := "([BI)B" } : Jvm.MethodName) jdk_52_method_15_code (2 : Nat) (Option.some Jvm.ClassFile.FieldType.byte), Jvm.Cond.code ({ cls := "com/example/tetrad/tetrad/generate/SourceText", name := "line", desc := "(Ljava/lang/String;)Lcom/example/tetrad/tetrad/generate/SourceText;" } : Jvm.MethodName) prog_51_method_2_code (2 : Nat) (Option.some (Jvm.ClassFile.FieldType.object "com/example/tetrad/tetrad/generate/SourceText")), Jvm.Cond.code ({ cls := "java/lang/String", name := "isEmpty", desc := "()Z" } : Jvm.MethodName) jdk_42_method_55_code (1 : Nat) (Option.some Jvm.ClassFile.FieldType.boolean), Jvm.Cond.code ({ cls := "java/lang/String", name := "repeat", desc := "(I)Ljava/lang/String;" } : Jvm.MethodName) jdk_42_method_145_code (5 : Nat) (Option.some (Jvm.ClassFile.FieldType.object "java/lang/String")), Jvm.Cond.code ({ cls := "java/lang/StringBuilder", name := "append", desc := "(Ljava/lang/String;)Ljava/lang/StringBuilder;" } : Jvm.MethodName) jdk_67_method_7_code (2 : Nat) (Option.some (Jvm.ClassFile.FieldType.object "java/lang/StringBuilder")), Jvm.Cond.code ({ cls := "java/lang/AbstractStringBuilder", name := "append", desc := "(Ljava/lang/String;)Ljava/lang/AbstractStringBuilder;" } : Jvm.MethodName) jdk_68_method_22_code (3 : Nat) (Option.some (Jvm.ClassFile.FieldType.object "java/lang/AbstractStringBuilder")), Jvm.Cond.code ({ cls := "java/lang/String", name := "length", desc := "()I" } : Jvm.MethodName) jdk_42_method_54_code (1 : Nat) (Option.some Jvm.ClassFile.FieldType.int), Jvm.Cond.code ({ cls := "java/lang/String", name := "coder", desc := "()B" } : Jvm.MethodName) jdk_42_method_152_code (1 : Nat) (Option.some Jvm.ClassFile.FieldType.byte), Jvm.Cond.code ({ cls := "java/lang/AbstractStringBuilder", name := "ensureCapacityInternal", desc := "(I)V" } : Jvm.MethodName) jdk_68_method_9_code (3 : Nat) (Option.none : Option Jvm.ClassFile.FieldType), Jvm.Cond.code ({ cls := "java/lang/AbstractStringBuilder", name := "putStringAt", desc := "(ILjava/lang/String;)V" } : Jvm.MethodName) jdk_68_method_73_code (3 : Nat) (Option.none : Option Jvm.ClassFile.FieldType), Jvm.Cond.code ({ cls := "java/lang/AbstractStringBuilder", name := "inflateIfNeededFor", desc := "(Ljava/lang/String;)V" } : Jvm.MethodName) jdk_68_method_71_code (2 : Nat) (Option.none : Option Jvm.ClassFile.FieldType), Jvm.Cond.code ({ cls := "java/lang/String", name := "getBytes", desc := "([BIB)V" } : Jvm.MethodName) jdk_42_method_147_code (4 : Nat) (Option.none : Option Jvm.ClassFile.FieldType), Jvm.Cond.code ({ cls := "java/lang/StringBuilder", name := "append", desc := "(C)Ljava/lang/StringBuilder;" } : Jvm.MethodName) jdk_67_method_14_code (2 : Nat) (Option.some (Jvm.ClassFile.FieldType.object "java/lang/StringBuilder")), Jvm.Cond.code ({ cls := "java/lang/AbstractStringBuilder", name := "append", desc := "(C)Ljava/lang/AbstractStringBuilder;" } : Jvm.MethodName) jdk_68_method_31_code (2 : Nat) (Option.some (Jvm.ClassFile.FieldType.object "java/lang/AbstractStringBuilder")), Jvm.Cond.code ({ cls := "java/lang/AbstractStringBuilder", name := "isLatin1", desc := "()Z" } : Jvm.MethodName) jdk_68_method_68_code (1 : Nat) (Option.some Jvm.ClassFile.FieldType.boolean), Jvm.Cond.code ({ cls := "java/lang/StringLatin1", name := "canEncode", desc := "(C)Z" } : Jvm.MethodName) jdk_43_method_3_code (1 : Nat) (Option.some Jvm.ClassFile.FieldType.boolean), Jvm.Cond.code ({ cls := "com/example/tetrad/tetrad/generate/SourceText", name := "toString", desc := "()Ljava/lang/String;" } : Jvm.MethodName) prog_51_method_9_code (1 : Nat) (Option.some (Jvm.ClassFile.FieldType.object "java/lang/String")), Jvm.Cond.code ({ cls := "java/lang/StringBuilder", name := "toString", desc := "()Ljava/lang/String;" } : Jvm.MethodName) jdk_67_method_42_code (1 : Nat) (Option.some (Jvm.ClassFile.FieldType.object "java/lang/String")), Jvm.Cond.code ({ cls := "java/lang/String", name := "<init>", desc := "(Ljava/lang/StringBuilder;)V" } : Jvm.MethodName) jdk_42_method_53_code (2 : Nat) (Option.none : Option Jvm.ClassFile.FieldType), Jvm.Cond.code ({ cls := "java/lang/String", name := "<init>", desc := "(Ljava/lang/AbstractStringBuilder;Ljava/lang/Void;)V" } : Jvm.MethodName) jdk_42_method_150_code (5 : Nat) (Option.none : Option Jvm.ClassFile.FieldType), Jvm.Cond.code ({ cls := "java/lang/AbstractStringBuilder", name := "getValue", desc := "()[B" } : Jvm.MethodName) jdk_68_method_64_code (1 : Nat) (Option.some (Jvm.ClassFile.FieldType.array Jvm.ClassFile.FieldType.byte)), Jvm.Cond.code ({ cls := "java/lang/StringBuilder", name := "length", desc := "()I" } : Jvm.MethodName) jdk_67_method_93_code (1 : Nat) (Option.some Jvm.ClassFile.FieldType.int), Jvm.Cond.code ({ cls := "java/lang/AbstractStringBuilder", name := "length", desc := "()I" } : Jvm.MethodName) jdk_68_method_6_code (1 : Nat) (Option.some Jvm.ClassFile.FieldType.int), Jvm.Cond.code ({ cls := "java/util/Arrays", name := "copyOfRange", desc := "([BII)[B" } : Jvm.MethodName) jdk_65_method_132_code (3 : Nat) (Option.some (Jvm.ClassFile.FieldType.array Jvm.ClassFile.FieldType.byte)), Jvm.Cond.code ({ cls := "java/util/Arrays", name := "copyOfRangeByte", desc := "([BII)[B" } : Jvm.MethodName) jdk_65_method_133_code (5 : Nat) (Option.some (Jvm.ClassFile.FieldType.array Jvm.ClassFile.FieldType.byte)), Jvm.Cond.code ({ cls := "java/util/Arrays", name := "checkLength", desc := "(II)V" } : Jvm.MethodName) jdk_65_method_131_code (2 : Nat) (Option.none : Option Jvm.ClassFile.FieldType), Jvm.Cond.code ({ cls := "java/lang/Math", name := "min", desc := "(II)I" } : Jvm.MethodName) jdk_29_method_69_code (2 : Nat) (Option.some Jvm.ClassFile.FieldType.int), Jvm.Cond.code ({ cls := "com/example/tetrad/tetrad/generate/SourceTextDedentPinLaw", name := "spaces", desc := "(Ljava/lang/String;I)Z" } : Jvm.MethodName) method_3_code (2 : Nat) (Option.some Jvm.ClassFile.FieldType.boolean), Jvm.Cond.code ({ cls := "com/example/tetrad/tetrad/generate/SourceTextDedentPinLaw", name := "sp", desc := "(Ljava/lang/String;II)Z" } : Jvm.MethodName) method_4_code (3 : Nat) (Option.some Jvm.ClassFile.FieldType.boolean), Jvm.Cond.code ({ cls := "java/lang/String", name := "charAt", desc := "(I)C" } : Jvm.MethodName) jdk_42_method_56_code (2 : Nat) (Option.some Jvm.ClassFile.FieldType.char), Jvm.Cond.code ({ cls := "java/lang/String", name := "isLatin1", desc := "()Z" } : Jvm.MethodName) jdk_42_method_154_code (1 : Nat) (Option.some Jvm.ClassFile.FieldType.boolean), Jvm.Cond.code ({ cls := "java/lang/StringLatin1", name := "charAt", desc := "([BI)C" } : Jvm.MethodName) jdk_43_method_2_code (2 : Nat) (Option.some Jvm.ClassFile.FieldType.char), Jvm.Cond.code ({ cls := "java/lang/String", name := "checkIndex", desc := "(II)V" } : Jvm.MethodName) jdk_42_method_155_code (2 : Nat) (Option.none : Option Jvm.ClassFile.FieldType), Jvm.Cond.code ({ cls := "jdk/internal/util/Preconditions", name := "checkIndex", desc := "(IILjava/util/function/BiFunction;)I" } : Jvm.MethodName) jdk_41_method_11_code (3 : Nat) (Option.some Jvm.ClassFile.FieldType.int), Jvm.Cond.code ({ cls := "java/lang/String", name := "repeatCopyRest", desc := "([BIII)V" } : Jvm.MethodName) jdk_42_method_146_code (4 : Nat) (Option.none : Option Jvm.ClassFile.FieldType), Jvm.Cond.code ({ cls := "java/lang/String", name := "<init>", desc := "([BB)V" } : Jvm.MethodName) jdk_42_method_151_code (3 : Nat) (Option.none : Option Jvm.ClassFile.FieldType)]
set_option maxRecDepth 65536 in
theorem codes_eq : words1.filter isCode = codes1 := rfl
theorem w_codes : ∀ c ∈ words1.filter isCode, c.before args0 about1 = true := by
  rw [codes_eq]
  intro c hc
  simp only [codes1, List.mem_cons, List.not_mem_nil, or_false] at hc
  rcases hc with rfl | rfl | rfl | rfl | rfl | rfl | rfl | rfl | rfl | rfl | rfl | rfl | rfl | rfl | rfl | rfl | rfl | rfl | rfl | rfl | rfl | rfl | rfl | rfl | rfl | rfl | rfl | rfl | rfl | rfl | rfl | rfl | rfl | rfl | rfl | rfl | rfl | rfl | rfl | rfl | rfl | rfl | rfl | rfl | rfl | rfl | rfl
  · exact w_c0
  · exact w_c1
  · exact w_c2
  · exact w_c3
  · exact w_c4
  · exact w_c5
  · exact w_c6
  · exact w_c7
  · exact w_c8
  · exact w_c9
  · exact w_c10
  · exact w_c11
  · exact w_c12
  · exact w_c13
  · exact w_c14
  · exact w_c15
  · exact w_c16
  · exact w_c17
  · exact w_c18
  · exact w_c19
  · exact w_c20
  · exact w_c21
  · exact w_c22
  · exact w_c23
  · exact w_c24
  · exact w_c25
  · exact w_c26
  · exact w_c27
  · exact w_c28
  · exact w_c29
  · exact w_c30
  · exact w_c31
  · exact w_c32
  · exact w_c33
  · exact w_c34
  · exact w_c35
  · exact w_c36
  · exact w_c37
  · exact w_c38
  · exact w_c39
  · exact w_c40
  · exact w_c41
  · exact w_c42
  · exact w_c43
  · exact w_c44
  · exact w_c45
  · exact w_c46
set_option maxRecDepth 65536 in
theorem w_t1 : (words1.take 24).all (fun c => isCode c || c.before args0 about1) = true := by decide +kernel
set_option maxRecDepth 65536 in
theorem w_t2 : ((words1.drop 24).take 24).all (fun c => isCode c || c.before args0 about1) = true := by decide +kernel
set_option maxRecDepth 65536 in
theorem w_t3 : (((words1.drop 24).drop 24).take 24).all (fun c => isCode c || c.before args0 about1) = true := by decide +kernel
set_option maxRecDepth 65536 in
theorem w_t4 : ((((words1.drop 24).drop 24).drop 24).take 24).all (fun c => isCode c || c.before args0 about1) = true := by decide +kernel
set_option maxRecDepth 65536 in
theorem w_t5 : (((((words1.drop 24).drop 24).drop 24).drop 24).take 24).all (fun c => isCode c || c.before args0 about1) = true := by decide +kernel
set_option maxRecDepth 65536 in
theorem w_t6 : ((((((words1.drop 24).drop 24).drop 24).drop 24).drop 24).take 24).all (fun c => isCode c || c.before args0 about1) = true := by decide +kernel
set_option maxRecDepth 65536 in
theorem w_t7 : (((((((words1.drop 24).drop 24).drop 24).drop 24).drop 24).drop 24).take 24).all (fun c => isCode c || c.before args0 about1) = true := by decide +kernel
set_option maxRecDepth 65536 in
theorem w_t8 : ((((((((words1.drop 24).drop 24).drop 24).drop 24).drop 24).drop 24).drop 24).take 24).all (fun c => isCode c || c.before args0 about1) = true := by decide +kernel
set_option maxRecDepth 65536 in
theorem w_t9 : (((((((((words1.drop 24).drop 24).drop 24).drop 24).drop 24).drop 24).drop 24).drop 24).take 24).all (fun c => isCode c || c.before args0 about1) = true := by decide +kernel
set_option maxRecDepth 65536 in
theorem w_t10 : (((((((((words1.drop 24).drop 24).drop 24).drop 24).drop 24).drop 24).drop 24).drop 24).drop 24).all (fun c => isCode c || c.before args0 about1) = true := by decide +kernel
theorem w_tables : (allAtoms (Jvm.Cond.code x code maxLocals ret :: tables_1)).before args0 about1 = true := by
  rw [allAtoms_all]
  show words1.all (fun c => c.before args0 about1) = true
  refine all_split ?_ w_codes
  rw [← List.take_append_drop 24 words1, List.all_append, w_t1, ← List.take_append_drop 24 (words1.drop 24), List.all_append, w_t2, ← List.take_append_drop 24 ((words1.drop 24).drop 24), List.all_append, w_t3, ← List.take_append_drop 24 (((words1.drop 24).drop 24).drop 24), List.all_append, w_t4, ← List.take_append_drop 24 ((((words1.drop 24).drop 24).drop 24).drop 24), List.all_append, w_t5, ← List.take_append_drop 24 (((((words1.drop 24).drop 24).drop 24).drop 24).drop 24), List.all_append, w_t6, ← List.take_append_drop 24 ((((((words1.drop 24).drop 24).drop 24).drop 24).drop 24).drop 24), List.all_append, w_t7, ← List.take_append_drop 24 (((((((words1.drop 24).drop 24).drop 24).drop 24).drop 24).drop 24).drop 24), List.all_append, w_t8, ← List.take_append_drop 24 ((((((((words1.drop 24).drop 24).drop 24).drop 24).drop 24).drop 24).drop 24).drop 24), List.all_append, w_t9, w_t10]
  rfl
set_option maxRecDepth 65536 in
theorem w_rest : rest_1_c.before args0 about1 = true := by decide +kernel
set_option maxRecDepth 65536 in
theorem w_case : (Jvm.Cond.and given_1 narrow_1).before args0 about1 = true := by decide +kernel
set_option maxRecDepth 65536 in
theorem w_consts : constsHeld consts_1 about1 := Jvm.Lit.constsHeldB_iff.mp (by decide +kernel)
theorem w_applies : (headSpec (Jvm.Cond.code x code maxLocals ret :: tables_1) room_1).applies x e0.platform about1 = true :=
  (Spec.applies_iff w_frames).mpr ⟨w_running, w_runnable, w_alone, w_named, w_hears, w_ripe, w_room, w_tables⟩
theorem atStart : AtStart classFile x code maxLocals ret World_1 tables_1 room_1 Calls_1 rest_1 Pre_1 launch0 p0 e0 about1 theMethod args0 below0 :=
  ⟨lists_1, trivial, launch0.admits_env _ _ _, launch0.least_env, fairChoices_fair.cas, fairChoices_fair.clock, w_frames, w_args, w_heap, w_applies, ⟨w_consts, trivial⟩, w_rest, w_case⟩
end start1
theorem witness_1 : WitnessClaimed_1 := ⟨start1.p0, start1.e0, start1.about1, start1.theMethod, start1.args0, start1.below0, start1.atStart⟩
end Jvm.Pilot.@@N@@
