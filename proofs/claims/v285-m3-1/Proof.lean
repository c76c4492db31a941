import JvmDerived
import JvmDerived.Pilot.@@N@@Statement
import JvmDerived.Pilot.@@N@@Code
set_option linter.unusedVariables false
set_option linter.unusedSimpArgs false
@@BLOCK:NumsL.lean.txt@@
namespace Jvm.RoadKit
open Sem ClassFile Op Lib Jvm.Stand Jvm.Free Jvm.LawKit
theorem retI {p : Program} {l : Launch} {e : Env} {R : Room} {s : State} {m : MethodId} {args : Array Value} {below : List Frame} {meth : Method} {c : Code} {T : State} {locs : List Loc} {cells slots : Nat} (X : Stand p l e R s m args below meth c T locs cells slots) (hx : p.tables.exec = Jvm.exec) {pc : Nat} {Ls : Array Slot} {z : Int32} {rest : List Value} (hret : meth.sig.returnType = some .int) (hd : decode c.code pc = .ok (.ireturn, 1)) {fs : List Frame}
    (hl : ∀ (f : JFrame) (acts : List Action), f.method = m → f.locked = none → f.entered = [] → (doReturn e (T.setTop f) acts (some (.int z))).1 = T.setFrames fs) : Steps p.tables e below (T.setTop (mkF m pc Ls (.int z :: rest))) (T.setFrames fs) :=
  retOut X hx hret rfl (Or.inl ⟨rfl, Or.inl rfl, z, rfl⟩) hd hl
end Jvm.RoadKit
/- laws to paste: Road.backV, Road.codOf (cut by pick.py; bodies as the Statement names them) -/
namespace Jvm.Pilot.@@N@@
namespace StrChars
open Jvm Sem ClassFile Op Lib Jvm.Stand Jvm.Free.XT Jvm.Free.ALB Jvm.Free.JM Jvm.Free
open Jvm.Lib.Cold (StaticIs)
/-- a char array whose places are chars -/
def Ch (a : Addr) (A : Cell) (U : State) : Prop := Arr .char a A U ∧ Typed .char A
theorem Ch.mv {a : Addr} {A : Cell} {U U' : State} (h : Ch a A U) (hal : U.vm.Alike U'.vm) (hh : U'.heap = U.heap) : Ch a A U' := ⟨h.1.mv hal hh, h.2⟩
theorem Ch.keep {a : Addr} {A : Cell} {U U' : State} (h : Ch a A U) (hal : U.vm.Alike U'.vm) (hk : U'.heap[a]? = some A) : Ch a A U' := ⟨h.1.keep hal hk, h.2⟩
/-- what place i of a char[]'s cell holds -/
def cv (A : Cell) (i : Nat) : Int32 := match A.slots[i]? with | some (.int x) => x | _ => 0
theorem Ch.get {a : Addr} {A : Cell} {U : State} (h : Ch a A U) {i : Nat} (hi : i < A.slots.size) : A.slots[i]? = some (.int (cv A i)) := by
  have e := Array.getElem?_eq_getElem hi
  have f := h.2 i _ e
  unfold cv; rw [e]
  generalize A.slots[i] = v at f
  cases v <;> simp [fits] at f ⊢
/-- the byte that i2b leaves of a char -/
def lo8 (x : Int32) : Int32 := x.toInt8.toInt32
theorem fits_lo8 (y : Int32) : fits .byte (.int (lo8 y)) = true := by
  have h1 := y.toInt8.le_toInt
  have h2 := y.toInt8.toInt_lt
  simp only [lo8, fits, Bool.and_eq_true, decide_eq_true_eq, Int32.le_iff_toInt_le, Int8.toInt_toInt32, show (-128 : Int32).toInt = -128 from by decide, show (127 : Int32).toInt = 127 from by decide]
  omega
/-- A' is A but that each place j of lo .. hi - 1 holds f j -/
def Laid (A A' : Cell) (lo hi : Nat) (f : Nat → Value) : Prop := A'.cls = A.cls ∧ A'.vm = A.vm ∧ A'.slots.size = A.slots.size ∧ ∀ i, A'.slots[i]? = if lo ≤ i ∧ i < hi then some (f i) else A.slots[i]?
theorem Laid.zero (A : Cell) (lo : Nat) (f : Nat → Value) : Laid A A lo (lo + 0) f := ⟨rfl, rfl, rfl, fun i => by rw [if_neg (by omega)]⟩
theorem Laid.step {A Ak : Cell} {lo k : Nat} {f : Nat → Value} {v : Value} (h : Laid A Ak lo k f) (hlo : lo ≤ k) (hk : k < Ak.slots.size) (hv : v = f k) : Laid A (Ak.setSlot k v) lo (k + 1) f := by
  refine ⟨h.1, h.2.1, by simpa [Cell.setSlot] using h.2.2.1, fun i => ?_⟩
  by_cases e : k = i
  · subst e; rw [Cell.slots_setSlot_self v hk, if_pos (by omega), hv]
  · rw [Cell.slots_setSlot_ne v e, h.2.2.2 i]
    by_cases q : lo ≤ i ∧ i < k
    · rw [if_pos q, if_pos (by omega)]
    · rw [if_neg q, if_neg (by omega)]
def U16 : String := "java/lang/StringUTF16"
namespace Cmp5
def yN : MethodName := ⟨"java/lang/StringUTF16", "compress", "([CI[BII)I"⟩
abbrev yB : ByteArray := jdk_52_method_21_code
theorem d0 : decode yB 0 = .ok (.iconst 0, 1) := by decide +kernel
theorem d1 : decode yB 1 = .ok (.istore 5, 2) := by decide +kernel
theorem d3 : decode yB 3 = .ok (.iload 5, 2) := by decide +kernel
theorem d5 : decode yB 5 = .ok (.iload 4, 2) := by decide +kernel
theorem d7 : decode yB 7 = .ok (.if_icmp (.ge) 37, 3) := by decide +kernel
theorem d10 : decode yB 10 = .ok (.aload_n 0, 1) := by decide +kernel
theorem d11 : decode yB 11 = .ok (.iload_n 1, 1) := by decide +kernel
theorem d12 : decode yB 12 = .ok (.caload, 1) := by decide +kernel
theorem d13 : decode yB 13 = .ok (.istore 6, 2) := by decide +kernel
theorem d15 : decode yB 15 = .ok (.iload 6, 2) := by decide +kernel
theorem d17 : decode yB 17 = .ok (.sipush 255, 3) := by decide +kernel
theorem d20 : decode yB 20 = .ok (.if_icmp (.le) 6, 3) := by decide +kernel
theorem d26 : decode yB 26 = .ok (.aload_n 2, 1) := by decide +kernel
theorem d27 : decode yB 27 = .ok (.iload_n 3, 1) := by decide +kernel
theorem d28 : decode yB 28 = .ok (.iload 6, 2) := by decide +kernel
theorem d30 : decode yB 30 = .ok (.i2b, 1) := by decide +kernel
theorem d31 : decode yB 31 = .ok (.bastore, 1) := by decide +kernel
theorem d32 : decode yB 32 = .ok (.iinc 1 1, 3) := by decide +kernel
theorem d35 : decode yB 35 = .ok (.iinc 3 1, 3) := by decide +kernel
theorem d38 : decode yB 38 = .ok (.iinc 5 1, 3) := by decide +kernel
theorem d41 : decode yB 41 = .ok (.goto (-38), 3) := by decide +kernel
theorem d44 : decode yB 44 = .ok (.iload 4, 2) := by decide +kernel
theorem d46 : decode yB 46 = .ok (.ireturn, 1) := by decide +kernel
def site : List Cond := []
def tab : Cond := tabOf yN yB 7 (some .int) site
def P (b : Addr) (A : Cell) (d : Addr) (B : Cell) (o q len : Nat) (args : Array Value) (s : State) : Prop := args = #[.ref b, .int (Int32.ofNat o), .ref d, .int (Int32.ofNat q), .int (Int32.ofNat len)] ∧ Ch b A s ∧ Arr .byte d B s ∧ b ≠ d ∧ o + len ≤ A.slots.size ∧ q + len ≤ B.slots.size ∧ ∀ i, i < len → ¬ 255 < cv A (o + i)
def E (b : Addr) (A : Cell) (d : Addr) (B : Cell) (o q len : Nat) (r : Option Value) (s u : State) : Prop := r = some (.int (Int32.ofNat len)) ∧ ∃ B', Put d B' s u ∧ Laid B B' q (q + len) (fun j => Value.int (lo8 (cv A (o + (j - q)))))
/-- no char of the range above 255: len; the places written hold each char's low byte -/
theorem law (l : Launch) (b : Addr) (A : Cell) (d : Addr) (B : Cell) (o q len : Nat) : Law l yN 5 5 0 0 yB 7 (some .int) site (P b A d B o q len) (E b A d B o q len) (copyLocs d q len) 0 0 := by
  refine Law.of_walk (plainFor_of_name (by decide +kernel)) (by decide +kernel) (by decide +kernel) (by decide) (fun _ _ h => by rw [h.1]; rfl) (fun _ U U' hal hh h => ⟨h.1, h.2.1.mv hal hh, h.2.2.1.mv hal hh, h.2.2.2⟩) (fun r U U' V V' h1 hal h2 h => ⟨h.1, h.2.elim fun B' q => ⟨B', q.1.mv h1 h2, q.2⟩⟩) ?_
  intro p e s m args below meth c s₁ X0 hexec hbytes hml hret hlk hnm hown hh0 W hP
  obtain ⟨rfl, hA, hB, hne, l1, l2, hp⟩ := hP
  have c1 : Steps p.tables e below (s₁.setTop (entryFrame m #[.ref b, .int (Int32.ofNat o), .ref d, .int (Int32.ofNat q), .int (Int32.ofNat len)] 7)) (s₁.setTop (mkF m 0 #[.val (.ref b), .val (.int (Int32.ofNat o)), .val (.ref d), .val (.int (Int32.ofNat q)), .val (.int (Int32.ofNat len)), .unset, .unset] [])) := entry rfl
  have hA0 := hA.1.mv X0.warmed.alike hh0
  have hB0 := hB.mv X0.warmed.alike hh0
  have a31 := hA.1.2.2.2
  have c2 : Steps p.tables e below (s₁.setTop (entryFrame m #[.ref b, .int (Int32.ofNat o), .ref d, .int (Int32.ofNat q), .int (Int32.ofNat len)] 7)) (s₁.setTop (mkF m 3 #[.val (.ref b), .val (.int (Int32.ofNat o)), .val (.ref d), .val (.int (Int32.ofNat q)), .val (.int (Int32.ofNat len)), .val (.int 0), .unset] [])) := c1.trans (by
    refine iconstV X0.here hexec rfl 0 (hb hbytes d0) (by decide) ?_
    refine XS.istore X0.here hexec rfl (hb hbytes d1) rfl rfl ?_
    exact Steps.refl _)
  have loop : ∀ (r i : Nat), i + r = len → ∀ (z : Slot), (z = .unset ∨ ∃ w, z = .val w ∧ w.category = 1) → ∀ (Tl : State) (Bk : Cell), Stand p l e { frames := 0, locals := 0, cells := 0, slots := 0 } s m #[.ref b, .int (Int32.ofNat o), .ref d, .int (Int32.ofNat q), .int (Int32.ofNat len)] below meth c Tl ([] ++ copyLocs d q i) 0 0 → Put d Bk s₁ Tl → Laid B Bk q (q + i) (fun j => Value.int (lo8 (cv A (o + (j - q))))) →
      Steps p.tables e below (s₁.setTop (entryFrame m #[.ref b, .int (Int32.ofNat o), .ref d, .int (Int32.ofNat q), .int (Int32.ofNat len)] 7)) (Tl.setTop (mkF m 3 #[.val (.ref b), .val (.int (Int32.ofNat (o + i))), .val (.ref d), .val (.int (Int32.ofNat (q + i))), .val (.int (Int32.ofNat len)), .val (.int (Int32.ofNat i)), z] [])) → ∃ (T' : State) (B' : Cell) (z' : Slot), Stand p l e { frames := 0, locals := 0, cells := 0, slots := 0 } s m #[.ref b, .int (Int32.ofNat o), .ref d, .int (Int32.ofNat q), .int (Int32.ofNat len)] below meth c T' ([] ++ copyLocs d q len) 0 0 ∧ Put d B' s₁ T' ∧ Laid B B' q (q + len) (fun j => Value.int (lo8 (cv A (o + (j - q))))) ∧
      Steps p.tables e below (s₁.setTop (entryFrame m #[.ref b, .int (Int32.ofNat o), .ref d, .int (Int32.ofNat q), .int (Int32.ofNat len)] 7)) (T'.setTop (mkF m 3 #[.val (.ref b), .val (.int (Int32.ofNat (o + len))), .val (.ref d), .val (.int (Int32.ofNat (q + len))), .val (.int (Int32.ofNat len)), .val (.int (Int32.ofNat len)), z'] [])) := by
    intro r
    induction r with
    | zero =>
      intro i hi z hz Tl Bk Xl pl fl cl
      have hil : i = len := by omega
      rw [hil] at Xl fl cl
      exact ⟨Tl, Bk, z, Xl, pl, fl, cl⟩
    | succ r ih =>
      intro i hi z hz Tl Bk Xl pl fl cl
      have all := X0.warmed.alike.symm.trans Xl.warmed.alike
      have hAl := hA0.keep all (pl.other hne hA0.1)
      have hBk := hB0.like all pl.1 fl.1 fl.2.1 fl.2.2.1
      have hlt : q + i < Bk.slots.size := by rw [fl.2.2.1]; omega
      have c3 : Steps p.tables e below (s₁.setTop (entryFrame m #[.ref b, .int (Int32.ofNat o), .ref d, .int (Int32.ofNat q), .int (Int32.ofNat len)] 7)) (Tl.setTop (mkF m 12 #[.val (.ref b), .val (.int (Int32.ofNat (o + i))), .val (.ref d), .val (.int (Int32.ofNat (q + i))), .val (.int (Int32.ofNat len)), .val (.int (Int32.ofNat i)), z] [.int (Int32.ofNat (o + i)), .ref b])) := cl.trans (by
        refine XS.iload Xl.here hexec rfl (hb hbytes d3) rfl ?_
        refine XS.iload Xl.here hexec rfl (hb hbytes d5) rfl ?_
        refine XS.icmpNo Xl.here hexec rfl (hb hbytes d7) rfl (ii_ge_f (lt32 (by omega) (by omega))) ?_
        refine XS.aloadN Xl.here hexec rfl (hb hbytes d10) rfl rfl ?_
        refine XS.iloadN Xl.here hexec rfl (hb hbytes d11) rfl ?_
        exact Steps.refl _)
      have c4 : Steps p.tables e below (s₁.setTop (entryFrame m #[.ref b, .int (Int32.ofNat o), .ref d, .int (Int32.ofNat q), .int (Int32.ofNat len)] 7)) (Tl.setTop (mkF m 13 #[.val (.ref b), .val (.int (Int32.ofNat (o + i))), .val (.ref d), .val (.int (Int32.ofNat (q + i))), .val (.int (Int32.ofNat len)), .val (.int (Int32.ofNat i)), z] [.int (cv A (o + i))])) := c3.trans (by
        refine Xl.aget hexec hAl rfl (hA.get (i := o + i) (by omega)) rfl rfl (hb hbytes d12) ?_
        exact Steps.refl _)
      have c5 : Steps p.tables e below (s₁.setTop (entryFrame m #[.ref b, .int (Int32.ofNat o), .ref d, .int (Int32.ofNat q), .int (Int32.ofNat len)] 7)) (Tl.setTop (mkF m 15 #[.val (.ref b), .val (.int (Int32.ofNat (o + i))), .val (.ref d), .val (.int (Int32.ofNat (q + i))), .val (.int (Int32.ofNat len)), .val (.int (Int32.ofNat i)), .val (.int (cv A (o + i)))] [])) := c4.trans (by
        refine XS.istoreS Xl.here hexec rfl (hb hbytes d13) rfl rfl hz ?_
        exact Steps.refl _)
      have c6 : Steps p.tables e below (s₁.setTop (entryFrame m #[.ref b, .int (Int32.ofNat o), .ref d, .int (Int32.ofNat q), .int (Int32.ofNat len)] 7)) (Tl.setTop (mkF m 31 #[.val (.ref b), .val (.int (Int32.ofNat (o + i))), .val (.ref d), .val (.int (Int32.ofNat (q + i))), .val (.int (Int32.ofNat len)), .val (.int (Int32.ofNat i)), .val (.int (cv A (o + i)))] [.int (lo8 (cv A (o + i))), .int (Int32.ofNat (q + i)), .ref d])) := c5.trans (by
        refine XS.iload Xl.here hexec rfl (hb hbytes d15) rfl ?_
        refine sipushV Xl.here hexec rfl 255 (hb hbytes d17) (by decide) ?_
        refine XS.icmpYes Xl.here hexec rfl (pc0 := 20) rfl (hb hbytes d20) rfl (ii_le_t (hp i (by omega))) (by decide) rfl ?_
        refine XS.aloadN Xl.here hexec rfl (hb hbytes d26) rfl rfl ?_
        refine XS.iloadN Xl.here hexec rfl (hb hbytes d27) rfl ?_
        refine XS.iload Xl.here hexec rfl (hb hbytes d28) rfl ?_
        refine i2b Xl.here hexec rfl (hb hbytes d30) rfl ?_
        exact Steps.refl _)
      obtain ⟨T7, X7, p7, st7⟩ := Xl.aput hexec hBk rfl hlt rfl (fits_lo8 (cv A (o + i))) (g := (mkF m 31 #[.val (.ref b), .val (.int (Int32.ofNat (o + i))), .val (.ref d), .val (.int (Int32.ofNat (q + i))), .val (.int (Int32.ofNat len)), .val (.int (Int32.ofNat i)), .val (.int (cv A (o + i)))] [.int (lo8 (cv A (o + i))), .int (Int32.ofNat (q + i)), .ref d])) rfl (rest := []) rfl (hb hbytes d31)
      have c8 : Steps p.tables e below (s₁.setTop (entryFrame m #[.ref b, .int (Int32.ofNat o), .ref d, .int (Int32.ofNat q), .int (Int32.ofNat len)] 7)) (T7.setTop (mkF m 32 #[.val (.ref b), .val (.int (Int32.ofNat (o + i))), .val (.ref d), .val (.int (Int32.ofNat (q + i))), .val (.int (Int32.ofNat len)), .val (.int (Int32.ofNat i)), .val (.int (cv A (o + i)))] [])) := c6.trans (st7 _ (Steps.refl _))
      have c9 : Steps p.tables e below (s₁.setTop (entryFrame m #[.ref b, .int (Int32.ofNat o), .ref d, .int (Int32.ofNat q), .int (Int32.ofNat len)] 7)) (T7.setTop (mkF m 3 #[.val (.ref b), .val (.int (Int32.ofNat (o + i) + 1)), .val (.ref d), .val (.int (Int32.ofNat (q + i) + 1)), .val (.int (Int32.ofNat len)), .val (.int (Int32.ofNat i + 1)), .val (.int (cv A (o + i)))] [])) := c8.trans (by
        refine iincV X7.here hexec rfl 1 (hb hbytes d32) (by decide) rfl rfl ?_
        refine iincV X7.here hexec rfl 1 (hb hbytes d35) (by decide) rfl rfl ?_
        refine iincV X7.here hexec rfl 1 (hb hbytes d38) (by decide) rfl rfl ?_
        refine XS.goto X7.here hexec rfl (pc0 := 41) rfl (hb hbytes d41) (by decide) rfl ?_
        exact Steps.refl _)
      have c10 : Steps p.tables e below (s₁.setTop (entryFrame m #[.ref b, .int (Int32.ofNat o), .ref d, .int (Int32.ofNat q), .int (Int32.ofNat len)] 7)) (T7.setTop (mkF m 3 #[.val (.ref b), .val (.int (Int32.ofNat (o + (i + 1)))), .val (.ref d), .val (.int (Int32.ofNat (q + (i + 1)))), .val (.int (Int32.ofNat len)), .val (.int (Int32.ofNat (i + 1))), .val (.int (cv A (o + i)))] [])) := by
        have := c9
        rw [succ32, succ32, succ32] at this
        exact this
      exact ih (i + 1) (by omega) _ (Or.inr ⟨_, rfl, rfl⟩) T7 _ (by rw [copyLocs_step, ← List.append_assoc]; exact X7) (pl.trans p7) (fl.step (by omega) hlt (by simp)) c10
  obtain ⟨T9, B9, z9, X9, p9, f9, g9⟩ := loop len 0 (by omega) .unset (Or.inl rfl) s₁ B (by simpa [copyLocs] using X0) ⟨hB0.1, fun _ _ => rfl, rfl⟩ (Laid.zero _ _ _) c2
  have c11 : Steps p.tables e below (s₁.setTop (entryFrame m #[.ref b, .int (Int32.ofNat o), .ref d, .int (Int32.ofNat q), .int (Int32.ofNat len)] 7)) (T9.setTop (mkF m 46 #[.val (.ref b), .val (.int (Int32.ofNat (o + len))), .val (.ref d), .val (.int (Int32.ofNat (q + len))), .val (.int (Int32.ofNat len)), .val (.int (Int32.ofNat len)), z9] [.int (Int32.ofNat len)])) := g9.trans (by
    refine XS.iload X9.here hexec rfl (hb hbytes d3) rfl ?_
    refine XS.iload X9.here hexec rfl (hb hbytes d5) rfl ?_
    refine XS.icmpYes X9.here hexec rfl (pc0 := 7) rfl (hb hbytes d7) rfl (ii_ge_t (nlt32 (by omega) (Nat.le_refl _))) (by decide) rfl ?_
    refine XS.iload X9.here hexec rfl (hb hbytes d44) rfl ?_
    exact Steps.refl _)
  exact ⟨T9, some (.int (Int32.ofNat len)), _, _, _, X9, by simp, rfl, rfl, (fun h => by cases h), ⟨rfl, B9, p9.from hh0, f9⟩, fun fs hl => c11.trans (X9.ireturnOut hexec hret rfl (Or.inl rfl) (hb hbytes d46) hl)⟩
end Cmp5
namespace Cmp3
def yN : MethodName := ⟨"java/lang/StringUTF16", "compress", "([CII)[B"⟩
abbrev yB : ByteArray := jdk_52_method_16_code
theorem d0 : decode yB 0 = .ok (.iload_n 2, 1) := by decide +kernel
theorem d1 : decode yB 1 = .ok (.newarray .byte, 2) := by decide +kernel
theorem d3 : decode yB 3 = .ok (.astore_n 3, 1) := by decide +kernel
theorem d4 : decode yB 4 = .ok (.aload_n 0, 1) := by decide +kernel
theorem d5 : decode yB 5 = .ok (.iload_n 1, 1) := by decide +kernel
theorem d6 : decode yB 6 = .ok (.aload_n 3, 1) := by decide +kernel
theorem d7 : decode yB 7 = .ok (.iconst 0, 1) := by decide +kernel
theorem d8 : decode yB 8 = .ok (.iload_n 2, 1) := by decide +kernel
theorem d9 : decode yB 9 = .ok (.invokestatic 115, 3) := by decide +kernel
theorem d12 : decode yB 12 = .ok (.istore 4, 2) := by decide +kernel
theorem d14 : decode yB 14 = .ok (.iload 4, 2) := by decide +kernel
theorem d16 : decode yB 16 = .ok (.iload_n 2, 1) := by decide +kernel
theorem d17 : decode yB 17 = .ok (.if_icmp (.eq) 40, 3) := by decide +kernel
theorem d57 : decode yB 57 = .ok (.aload_n 3, 1) := by decide +kernel
theorem d58 : decode yB 58 = .ok (.areturn, 1) := by decide +kernel
def site : List Cond := [.arrayClass .byte, Cmp5.tab] ++ staticW U16 115 Cmp5.yN
def tab : Cond := tabOf yN yB 6 (some (.array .byte)) site
def P (b : Addr) (A : Cell) (o len : Nat) (args : Array Value) (s : State) : Prop := args = #[.ref b, .int (Int32.ofNat o), .int (Int32.ofNat len)] ∧ Ch b A s ∧ o + len ≤ A.slots.size ∧ len ≤ 536870912 ∧ ∀ i, i < len → ¬ 255 < cv A (o + i)
def E (b : Addr) (A : Cell) (o len : Nat) (r : Option Value) (s u : State) : Prop := NewArr .byte "[B" len (fun j => .int (lo8 (cv A (o + j)))) r s u ∧ u.heap.size = s.heap.size + 1
/-- no char of the range above 255: a new byte[] of their low bytes -/
theorem law (l : Launch) (b : Addr) (A : Cell) (o len : Nat) : Law l yN 3 3 1 18 yB 6 (some (.array .byte)) site (P b A o len) (E b A o len) [] 1 len := by
  refine Law.of_walk (plainFor_of_name (by decide +kernel)) (by decide +kernel) (by decide +kernel) (by decide) (fun _ _ h => by rw [h.1]; rfl) (fun _ U U' hal hh h => ⟨h.1, h.2.1.mv hal hh, h.2.2⟩) (fun r U U' V V' h1 hal h2 h => ⟨NewArr.mv r U U' V V' h1 hal h2 h.1, by rw [h1, h2]; exact h.2⟩) ?_
  intro p e s m args below meth c s₁ X0 hexec hbytes hml hret hlk hnm hown hh0 W hP
  obtain ⟨rfl, hA, l1, l2, hp⟩ := hP
  have a31 := hA.1.2.2.2
  have c1 : Steps p.tables e below (s₁.setTop (entryFrame m #[.ref b, .int (Int32.ofNat o), .int (Int32.ofNat len)] 6)) (s₁.setTop (mkF m 0 #[.val (.ref b), .val (.int (Int32.ofNat o)), .val (.int (Int32.ofNat len)), .unset, .unset, .unset] [])) := entry rfl
  have c2 : Steps p.tables e below (s₁.setTop (entryFrame m #[.ref b, .int (Int32.ofNat o), .int (Int32.ofNat len)] 6)) (s₁.setTop (mkF m 1 #[.val (.ref b), .val (.int (Int32.ofNat o)), .val (.int (Int32.ofNat len)), .unset, .unset, .unset] [.int (Int32.ofNat len)])) := c1.trans (by
    refine XS.iloadN X0.here hexec rfl (hb hbytes d0) rfl ?_
    exact Steps.refl _)
  obtain ⟨T3, B3, X3, ba3, bs3, bv3, bh3, bf3, st3⟩ := X0.anew hexec (atype := .byte) (wk W (.arrayClass .byte)) rfl (by show len * 1 ≤ _; omega) (by omega) (g := (mkF m 1 #[.val (.ref b), .val (.int (Int32.ofNat o)), .val (.int (Int32.ofNat len)), .unset, .unset, .unset] [.int (Int32.ofNat len)])) rfl (hb hbytes d1) (rest := []) rfl (Nat.le_refl _) (by show 0 + len ≤ len; omega)
  rw [hh0] at ba3 st3
  have kp3 : XT.Kept s T3 := (XT.Kept.of_eq hh0).push bh3
  have hA3 := hA.keep X3.warmed.alike (kp3 _ _ hA.1.1)
  have hne : b ≠ s.heap.size := hA.1.ne
  have c4 : Steps p.tables e below (s₁.setTop (entryFrame m #[.ref b, .int (Int32.ofNat o), .int (Int32.ofNat len)] 6)) (T3.setTop (mkF m 3 #[.val (.ref b), .val (.int (Int32.ofNat o)), .val (.int (Int32.ofNat len)), .unset, .unset, .unset] [.ref s.heap.size])) := c2.trans (st3 _ (Steps.refl _))
  have c5 : Steps p.tables e below (s₁.setTop (entryFrame m #[.ref b, .int (Int32.ofNat o), .int (Int32.ofNat len)] 6)) (T3.setTop (mkF m 9 #[.val (.ref b), .val (.int (Int32.ofNat o)), .val (.int (Int32.ofNat len)), .val (.ref s.heap.size), .unset, .unset] [.int (Int32.ofNat len), .int 0, .ref s.heap.size, .int (Int32.ofNat o), .ref b])) := c4.trans (by
    refine XS.astoreN X3.here hexec rfl (hb hbytes d3) rfl rfl rfl ?_
    refine XS.aloadN X3.here hexec rfl (hb hbytes d4) rfl rfl ?_
    refine XS.iloadN X3.here hexec rfl (hb hbytes d5) rfl ?_
    refine XS.aloadN X3.here hexec rfl (hb hbytes d6) rfl rfl ?_
    refine iconstV X3.here hexec rfl 0 (hb hbytes d7) (by decide) ?_
    refine XS.iloadN X3.here hexec rfl (hb hbytes d8) rfl ?_
    exact Steps.refl _)
  obtain ⟨v6, T6, X6, E6, g6⟩ := X3.callS hexec (Cmp5.law l b A s.heap.size B3 o 0 len) hown (wks W (staticW U16 115 Cmp5.yN)) (wk W Cmp5.tab) (W := 0) (Nat.le_of_ble_eq_true rfl) (Nat.le_of_ble_eq_true rfl) (Nat.le_refl _) (by show 0 + len + 0 ≤ len; omega) (g := (mkF m 9 #[.val (.ref b), .val (.int (Int32.ofNat o)), .val (.int (Int32.ofNat len)), .val (.ref s.heap.size), .unset, .unset] [.int (Int32.ofNat len), .int (Int32.ofNat 0), .ref s.heap.size, .int (Int32.ofNat o), .ref b])) rfl (by rw [hml]; rfl) c5 (argsL := [.ref b, .int (Int32.ofNat o), .ref s.heap.size, .int (Int32.ofNat 0), .int (Int32.ofNat len)]) (rest := []) rfl rfl (by show 2 * 0 + 0 ≤ _; decide) (hb hbytes d9) (⟨rfl, hA3, ba3, hne, l1, by rw [bs3]; simp, hp⟩)
  obtain ⟨rfl, B6, p6, f6⟩ := E6
  have c7 : Steps p.tables e below (s₁.setTop (entryFrame m #[.ref b, .int (Int32.ofNat o), .int (Int32.ofNat len)] 6)) (T6.setTop (mkF m 12 #[.val (.ref b), .val (.int (Int32.ofNat o)), .val (.int (Int32.ofNat len)), .val (.ref s.heap.size), .unset, .unset] [.int (Int32.ofNat len)])) := g6
  have c8 : Steps p.tables e below (s₁.setTop (entryFrame m #[.ref b, .int (Int32.ofNat o), .int (Int32.ofNat len)] 6)) (T6.setTop (mkF m 58 #[.val (.ref b), .val (.int (Int32.ofNat o)), .val (.int (Int32.ofNat len)), .val (.ref s.heap.size), .val (.int (Int32.ofNat len)), .unset] [.ref s.heap.size])) := c7.trans (by
    refine XS.istore X6.here hexec rfl (hb hbytes d12) rfl rfl ?_
    refine XS.iload X6.here hexec rfl (hb hbytes d14) rfl ?_
    refine XS.iloadN X6.here hexec rfl (hb hbytes d16) rfl ?_
    refine XS.icmpYes X6.here hexec rfl (pc0 := 17) rfl (hb hbytes d17) rfl (ii_eq_t rfl) (by decide) rfl ?_
    refine XS.aloadN X6.here hexec rfl (hb hbytes d57) rfl rfl ?_
    exact Steps.refl _)
  have X8 := X6.wide (L' := []) (cells' := 1) (slots' := len) (fun x hx hlt => by
    simp only [List.nil_append, copyLocs, List.mem_map, List.mem_range] at hx
    obtain ⟨i, -, rfl⟩ := hx
    exact absurd hlt (Nat.lt_irrefl _)) (Nat.le_refl _) (by omega)
  exact ⟨T6, some (.ref s.heap.size), _, _, _, X8, rfl, rfl, rfl, (fun h => by cases h), ⟨⟨rfl, B6, ba3.like (X3.warmed.alike.symm.trans X6.warmed.alike) p6.1 f6.1 f6.2.1 f6.2.2.1, f6.2.1.trans bv3, by rw [X6.warmed.alike.findClass, f6.1]; exact bf3, by rw [f6.2.2.1, bs3]; simp, fun j hj => by rw [f6.2.2.2 j, if_pos (by omega)]; rfl, kp3.put p6 (Nat.le_refl _)⟩, by rw [p6.2.2, bh3, hh0]; simp⟩, fun fs hl => c8.trans (X8.areturnOut hexec rfl hret rfl (hb hbytes d58) hl)⟩
end Cmp3
namespace CodL
def yN : MethodName := ⟨"java/lang/StringUTF16", "coderFromArrayLen", "([BI)B"⟩
abbrev yB : ByteArray := jdk_52_method_15_code
theorem d0 : decode yB 0 = .ok (.iload_n 1, 1) := by decide +kernel
theorem d1 : decode yB 1 = .ok (.aload_n 0, 1) := by decide +kernel
theorem d2 : decode yB 2 = .ok (.arraylength, 1) := by decide +kernel
theorem d3 : decode yB 3 = .ok (.isub, 1) := by decide +kernel
theorem d4 : decode yB 4 = .ok (.bipush 31, 2) := by decide +kernel
theorem d6 : decode yB 6 = .ok (.iushr, 1) := by decide +kernel
theorem d7 : decode yB 7 = .ok (.i2b, 1) := by decide +kernel
theorem d8 : decode yB 8 = .ok (.ireturn, 1) := by decide +kernel
def site : List Cond := []
def tab : Cond := tabOf yN yB 2 (some .byte) site
def P (d : Addr) (B : Cell) (args : Array Value) (s : State) : Prop := args = #[.ref d, .int (Int32.ofNat B.slots.size)] ∧ Arr .byte d B s
def E (r : Option Value) (s u : State) : Prop := XT.PureE (some (.int 0)) r s u
/-- an array as long as the number of chars: LATIN1 -/
theorem law (l : Launch) (d : Addr) (B : Cell) : Law l yN 2 2 0 0 yB 2 (some .byte) site (P d B) E [] 0 0 := by
  refine Law.of_walk (plainFor_of_name (by decide +kernel)) (by decide +kernel) (by decide +kernel) (by decide) (fun _ _ h => by rw [h.1]; rfl) (fun _ U U' hal hh h => ⟨h.1, h.2.mv hal hh⟩) (fun r U U' V V' h1 hal h2 h => XT.PureE.mv r U U' V V' h1 hal h2 h) ?_
  intro p e s m args below meth c s₁ X0 hexec hbytes hml hret hlk hnm hown hh0 W hP
  obtain ⟨rfl, hB⟩ := hP
  have hB0 := hB.mv X0.warmed.alike hh0
  have c1 : Steps p.tables e below (s₁.setTop (entryFrame m #[.ref d, .int (Int32.ofNat B.slots.size)] 2)) (s₁.setTop (mkF m 0 #[.val (.ref d), .val (.int (Int32.ofNat B.slots.size))] [])) := entry rfl
  have c2 : Steps p.tables e below (s₁.setTop (entryFrame m #[.ref d, .int (Int32.ofNat B.slots.size)] 2)) (s₁.setTop (mkF m 2 #[.val (.ref d), .val (.int (Int32.ofNat B.slots.size))] [.ref d, .int (Int32.ofNat B.slots.size)])) := c1.trans (by
    refine XS.iloadN X0.here hexec rfl (hb hbytes d0) rfl ?_
    refine XS.aloadN X0.here hexec rfl (hb hbytes d1) rfl rfl ?_
    exact Steps.refl _)
  have c3 : Steps p.tables e below (s₁.setTop (entryFrame m #[.ref d, .int (Int32.ofNat B.slots.size)] 2)) (s₁.setTop (mkF m 8 #[.val (.ref d), .val (.int (Int32.ofNat B.slots.size))] [.int (lo8 (ushr (Int32.ofNat B.slots.size - Int32.ofNat B.slots.size) 31))])) := c2.trans (by
    refine X0.alen hexec hB0 rfl rfl (hb hbytes d2) ?_
    refine XS.isub X0.here hexec rfl (hb hbytes d3) rfl ?_
    refine bipushV X0.here hexec rfl 31 (hb hbytes d4) (by decide) ?_
    refine iushr X0.here hexec rfl (hb hbytes d6) rfl ?_
    refine i2b X0.here hexec rfl (hb hbytes d7) rfl ?_
    exact Steps.refl _)
  have e0 : lo8 (ushr (Int32.ofNat B.slots.size - Int32.ofNat B.slots.size) 31) = 0 := by rw [Int32.sub_self]; decide
  rw [e0] at c3
  exact ⟨s₁, some (.int 0), _, _, _, X0, rfl, rfl, rfl, (fun h => by cases h), ⟨rfl, hh0⟩, fun fs hl => c3.trans (X0.ireturnOut hexec hret rfl (Or.inr (Or.inr (Or.inl rfl))) (hb hbytes d8) hl)⟩
end CodL
/-- the String at a is Latin-1 over a new byte[] (the heap's one new cell): the low bytes of the len chars of A from o on; every cell but a is kept -/
def Got (a : Addr) (D : Cell) (fV fC : Field) (A : Cell) (o len : Nat) (r : Option Value) (s u : State) : Prop := r = none ∧ ∃ D' V : Cell, Blank "java/lang/String" a D' u ∧ Same D D' [fV.slot, fC.slot] ∧ D'.slots[fV.slot]? = some (.ref s.heap.size) ∧ D'.slots[fC.slot]? = some (.int 0) ∧ Arr .byte s.heap.size V u ∧ V.vm = .none ∧ u.vm.findClass "[B" = some V.cls ∧ V.slots.size = len ∧ (∀ j, j < len → V.slots[j]? = some (.int (lo8 (cv A (o + j))))) ∧ (∀ (y : Addr) (c : Cell), y ≠ a → s.heap[y]? = some c → u.heap[y]? = some c) ∧ u.heap.size = s.heap.size + 1
theorem Got.mv {a : Addr} {D A : Cell} {fV fC : Field} {o len : Nat} : ∀ r (U U' V V' : State), U'.heap = U.heap → V.vm.Alike V'.vm → V'.heap = V.heap → Got a D fV fC A o len r U V → Got a D fV fC A o len r U' V' :=
  fun r U U' V V' h1 hal h2 ⟨e0, D', X, a1, a2, a3, a4, a5, a6, a7, a8, a9, a10, a11⟩ => ⟨e0, D', X, a1.mv hal h2, a2, by rw [h1]; exact a3, a4, by rw [h1]; exact a5.mv hal h2, a6, by rw [hal.findClass]; exact a7, a8, a9, by rw [h1, h2]; exact a10, by rw [h1, h2]; exact a11⟩
namespace New4
def yN : MethodName := ⟨"java/lang/String", "<init>", "([CIILjava/lang/Void;)V"⟩
abbrev yB : ByteArray := jdk_42_method_149_code
theorem d0 : decode yB 0 = .ok (.aload_n 0, 1) := by decide +kernel
theorem d1 : decode yB 1 = .ok (.invokespecial 1, 3) := by decide +kernel
theorem d4 : decode yB 4 = .ok (.iload_n 3, 1) := by decide +kernel
theorem d5 : decode yB 5 = .ok (.ifCond (.ne) 22, 3) := by decide +kernel
theorem d27 : decode yB 27 = .ok (.getstatic 38, 3) := by decide +kernel
theorem d30 : decode yB 30 = .ok (.ifCond (.eq) 28, 3) := by decide +kernel
theorem d33 : decode yB 33 = .ok (.aload_n 1, 1) := by decide +kernel
theorem d34 : decode yB 34 = .ok (.iload_n 2, 1) := by decide +kernel
theorem d35 : decode yB 35 = .ok (.iload_n 3, 1) := by decide +kernel
theorem d36 : decode yB 36 = .ok (.invokestatic 177, 3) := by decide +kernel
theorem d39 : decode yB 39 = .ok (.astore 5, 2) := by decide +kernel
theorem d41 : decode yB 41 = .ok (.aload_n 0, 1) := by decide +kernel
theorem d42 : decode yB 42 = .ok (.aload 5, 2) := by decide +kernel
theorem d44 : decode yB 44 = .ok (.iload_n 3, 1) := by decide +kernel
theorem d45 : decode yB 45 = .ok (.invokestatic 47, 3) := by decide +kernel
theorem d48 : decode yB 48 = .ok (.putfield 15, 3) := by decide +kernel
theorem d51 : decode yB 51 = .ok (.aload_n 0, 1) := by decide +kernel
theorem d52 : decode yB 52 = .ok (.aload 5, 2) := by decide +kernel
theorem d54 : decode yB 54 = .ok (.putfield 9, 3) := by decide +kernel
theorem d57 : decode yB 57 = .ok (.return_, 1) := by decide +kernel
def site : List Cond := [.fieldLink "java/lang/String" 38 "java/lang/String" "COMPACT_STRINGS" "Z", Cmp3.tab, CodL.tab, .laysFinal "java/lang/String" "java/lang/String" "value" "[B", .fieldLink "java/lang/String" 9 "java/lang/String" "value" "[B", .laysFinal "java/lang/String" "java/lang/String" "coder" "B", .fieldLink "java/lang/String" 15 "java/lang/String" "coder" "B"] ++ objW "java/lang/String" 1 ++ staticW "java/lang/String" 177 Cmp3.yN ++ staticW "java/lang/String" 47 CodL.yN
def tab : Cond := tabOf yN yB 6 none site
def P (a : Addr) (D : Cell) (fV fC : Field) (b : Addr) (A : Cell) (z : Int32) (o len : Nat) (args : Array Value) (s : State) : Prop := args = #[.ref a, .ref b, .int (Int32.ofNat o), .int (Int32.ofNat len), .null] ∧ Blank "java/lang/String" a D s ∧ Found "java/lang/String" "value" "[B" fV s ∧ Found "java/lang/String" "coder" "B" fC s ∧ Ch b A s ∧ StaticIs s "java/lang/String" "COMPACT_STRINGS" "Z" (.int z) ∧ ¬ z = 0 ∧ 0 < len ∧ o + len ≤ A.slots.size ∧ len ≤ 536870912 ∧ ∀ i, i < len → ¬ 255 < cv A (o + i)
def E (a : Addr) (D : Cell) (fV fC : Field) (A : Cell) (o len : Nat) (r : Option Value) (s u : State) : Prop := Got a D fV fC A o len r s u
/-- len > 0, no char of the range above 255: a Latin-1 String of their low bytes -/
theorem law (l : Launch) (a : Addr) (D : Cell) (fV fC : Field) (b : Addr) (A : Cell) (z : Int32) (o len : Nat) : Law l yN 5 4 2 35 yB 6 none site (P a D fV fC b A z o len) (E a D fV fC A o len) [⟨a, fC.slot⟩, ⟨a, fV.slot⟩] 1 len := by
  refine Law.of_walk (plainFor_of_name (by decide +kernel)) (by decide +kernel) (by decide +kernel) (by decide) (fun _ _ h => by rw [h.1]; rfl) (fun _ U U' hal hh h => ⟨h.1, h.2.1.mv hal hh, h.2.2.1.al hal, h.2.2.2.1.al hal, h.2.2.2.2.1.mv hal hh, h.2.2.2.2.2.1.there hal hh, h.2.2.2.2.2.2⟩) (fun r U U' V V' h1 hal h2 h => Got.mv r U U' V V' h1 hal h2 h) ?_
  intro p e s m args below meth c s₁ X0 hexec hbytes hml hret hlk hnm hown hh0 W hP
  obtain ⟨rfl, hB, f1, f2, hA, s1, hz, l0, l1, l2, hp⟩ := hP
  have a31 := hA.1.2.2.2
  have c1 : Steps p.tables e below (s₁.setTop (entryFrame m #[.ref a, .ref b, .int (Int32.ofNat o), .int (Int32.ofNat len), .null] 6)) (s₁.setTop (mkF m 0 #[.val (.ref a), .val (.ref b), .val (.int (Int32.ofNat o)), .val (.int (Int32.ofNat len)), .val .null, .unset] [])) := entry rfl
  have c2 : Steps p.tables e below (s₁.setTop (entryFrame m #[.ref a, .ref b, .int (Int32.ofNat o), .int (Int32.ofNat len), .null] 6)) (s₁.setTop (mkF m 1 #[.val (.ref a), .val (.ref b), .val (.int (Int32.ofNat o)), .val (.int (Int32.ofNat len)), .val .null, .unset] [.ref a])) := c1.trans (by
    refine XS.aloadN X0.here hexec rfl (hb hbytes d0) rfl rfl ?_
    exact Steps.refl _)
  obtain ⟨T3, X3, q3, st3⟩ := X0.oinit hexec hown (wks W (objW "java/lang/String" 1)) (g := (mkF m 1 #[.val (.ref a), .val (.ref b), .val (.int (Int32.ofNat o)), .val (.int (Int32.ofNat len)), .val .null, .unset] [.ref a])) rfl (by rw [hml]; rfl) (rest := []) rfl (hb hbytes d1) (W := 0) (by show 2 * 0 + 0 ≤ _; decide) (Nat.le_of_ble_eq_true rfl) (Nat.le_of_ble_eq_true rfl)
  have hh3 := q3.trans hh0
  have c4 : Steps p.tables e below (s₁.setTop (entryFrame m #[.ref a, .ref b, .int (Int32.ofNat o), .int (Int32.ofNat len), .null] 6)) (T3.setTop (mkF m 27 #[.val (.ref a), .val (.ref b), .val (.int (Int32.ofNat o)), .val (.int (Int32.ofNat len)), .val .null, .unset] [])) := (c2.trans (st3 _ (Steps.refl _))).trans (by
    refine XS.iloadN X3.here hexec rfl (hb hbytes d4) rfl ?_
    refine XS.ifYes X3.here hexec rfl (pc0 := 5) rfl (hb hbytes d5) rfl (i0_ne_t (nz32 (by omega) l0)) (by decide) rfl ?_
    exact Steps.refl _)
  obtain ⟨T5, X5, q5, st5⟩ := X3.sget hexec hown (wk W (.fieldLink "java/lang/String" 38 "java/lang/String" "COMPACT_STRINGS" "Z")) s1 (fun _ _ h => by rw [hh3]; exact h) (g := (mkF m 27 #[.val (.ref a), .val (.ref b), .val (.int (Int32.ofNat o)), .val (.int (Int32.ofNat len)), .val .null, .unset] [])) rfl (hb hbytes d27)
  have hh5 := q5.trans hh3
  have c6 : Steps p.tables e below (s₁.setTop (entryFrame m #[.ref a, .ref b, .int (Int32.ofNat o), .int (Int32.ofNat len), .null] 6)) (T5.setTop (mkF m 30 #[.val (.ref a), .val (.ref b), .val (.int (Int32.ofNat o)), .val (.int (Int32.ofNat len)), .val .null, .unset] [.int z])) := c4.trans (st5 _ (Steps.refl _))
  have c7 : Steps p.tables e below (s₁.setTop (entryFrame m #[.ref a, .ref b, .int (Int32.ofNat o), .int (Int32.ofNat len), .null] 6)) (T5.setTop (mkF m 36 #[.val (.ref a), .val (.ref b), .val (.int (Int32.ofNat o)), .val (.int (Int32.ofNat len)), .val .null, .unset] [.int (Int32.ofNat len), .int (Int32.ofNat o), .ref b])) := c6.trans (by
    refine XS.ifNo X5.here hexec rfl (hb hbytes d30) rfl (i0_eq_f hz) ?_
    refine XS.aloadN X5.here hexec rfl (hb hbytes d33) rfl rfl ?_
    refine XS.iloadN X5.here hexec rfl (hb hbytes d34) rfl ?_
    refine XS.iloadN X5.here hexec rfl (hb hbytes d35) rfl ?_
    exact Steps.refl _)
  obtain ⟨v8, T8, X8, E8, g8⟩ := X5.callS hexec (Cmp3.law l b A o len) hown (wks W (staticW "java/lang/String" 177 Cmp3.yN)) (wk W Cmp3.tab) (W := 0) (Nat.le_of_ble_eq_true rfl) (Nat.le_of_ble_eq_true rfl) (Nat.le_refl _) (by show 0 + len ≤ len; omega) (g := (mkF m 36 #[.val (.ref a), .val (.ref b), .val (.int (Int32.ofNat o)), .val (.int (Int32.ofNat len)), .val .null, .unset] [.int (Int32.ofNat len), .int (Int32.ofNat o), .ref b])) rfl (by rw [hml]; rfl) c7 (argsL := [.ref b, .int (Int32.ofNat o), .int (Int32.ofNat len)]) (rest := []) rfl rfl (by show 2 * 0 + 0 ≤ _; decide) (hb hbytes d36) (⟨rfl, hA.mv X5.warmed.alike hh5, l1, l2, hp⟩)
  obtain ⟨e8, z8⟩ := E8
  obtain ⟨rfl, N, n1, n2, n3, n4, n5, n6⟩ := NewArr.mv _ T5 s _ _ hh5.symm (Vm.Alike.refl _) rfl e8
  rw [hh5] at z8
  have hB1 := hB.keep X8.warmed.alike (n6 _ _ hB.1)
  have hne : s.heap.size ≠ a := (Nat.ne_of_lt (Array.getElem?_eq_some_iff.mp hB.1).1).symm
  have c9 : Steps p.tables e below (s₁.setTop (entryFrame m #[.ref a, .ref b, .int (Int32.ofNat o), .int (Int32.ofNat len), .null] 6)) (T8.setTop (mkF m 39 #[.val (.ref a), .val (.ref b), .val (.int (Int32.ofNat o)), .val (.int (Int32.ofNat len)), .val .null, .unset] [.ref s.heap.size])) := g8
  have c10 : Steps p.tables e below (s₁.setTop (entryFrame m #[.ref a, .ref b, .int (Int32.ofNat o), .int (Int32.ofNat len), .null] 6)) (T8.setTop (mkF m 45 #[.val (.ref a), .val (.ref b), .val (.int (Int32.ofNat o)), .val (.int (Int32.ofNat len)), .val .null, .val (.ref s.heap.size)] [.int (Int32.ofNat N.slots.size), .ref s.heap.size, .ref a])) := by
    have hc : Steps p.tables e below (s₁.setTop (entryFrame m #[.ref a, .ref b, .int (Int32.ofNat o), .int (Int32.ofNat len), .null] 6)) (T8.setTop (mkF m 45 #[.val (.ref a), .val (.ref b), .val (.int (Int32.ofNat o)), .val (.int (Int32.ofNat len)), .val .null, .val (.ref s.heap.size)] [.int (Int32.ofNat len), .ref s.heap.size, .ref a])) := c9.trans (by
      refine XS.astore X8.here hexec rfl (hb hbytes d39) rfl rfl rfl ?_
      refine XS.aloadN X8.here hexec rfl (hb hbytes d41) rfl rfl ?_
      refine XS.aload X8.here hexec rfl (hb hbytes d42) rfl rfl ?_
      refine XS.iloadN X8.here hexec rfl (hb hbytes d44) rfl ?_
      exact Steps.refl _)
    rw [n4]; exact hc
  obtain ⟨v11, T11, X11, E11, g11⟩ := X8.callS hexec (CodL.law l s.heap.size N) hown (wks W (staticW "java/lang/String" 47 CodL.yN)) (wk W CodL.tab) (W := 1) (Nat.le_of_ble_eq_true rfl) (Nat.le_of_ble_eq_true rfl) (Nat.le_refl _) (by show 0 + len + 0 ≤ len; omega) (g := (mkF m 45 #[.val (.ref a), .val (.ref b), .val (.int (Int32.ofNat o)), .val (.int (Int32.ofNat len)), .val .null, .val (.ref s.heap.size)] [.int (Int32.ofNat N.slots.size), .ref s.heap.size, .ref a])) rfl (by rw [hml]; rfl) c10 (argsL := [.ref s.heap.size, .int (Int32.ofNat N.slots.size)]) (rest := [.ref a]) rfl rfl (by show 2 * 0 + (1 + 0) ≤ _; decide) (hb hbytes d45) (⟨rfl, n1⟩)
  obtain ⟨rfl, q11⟩ := E11
  have hB11 := hB1.mv (X8.warmed.alike.symm.trans X11.warmed.alike) q11
  have c12 : Steps p.tables e below (s₁.setTop (entryFrame m #[.ref a, .ref b, .int (Int32.ofNat o), .int (Int32.ofNat len), .null] 6)) (T11.setTop (mkF m 48 #[.val (.ref a), .val (.ref b), .val (.int (Int32.ofNat o)), .val (.int (Int32.ofNat len)), .val .null, .val (.ref s.heap.size)] [.int 0, .ref a])) := g11
  obtain ⟨T13, X13, p13, bl13, sl13, st13⟩ := X11.finit hexec hown (wk W (.fieldLink "java/lang/String" 15 "java/lang/String" "coder" "B")) (Or.inr ⟨_, (wk W (.laysFinal "java/lang/String" "java/lang/String" "coder" "B"))⟩) (Or.inl ⟨rfl, hnm⟩) f2 (Or.inl rfl) hB11 (t := .byte) (by decide +kernel) rfl (g := (mkF m 48 #[.val (.ref a), .val (.ref b), .val (.int (Int32.ofNat o)), .val (.int (Int32.ofNat len)), .val .null, .val (.ref s.heap.size)] [.int 0, .ref a])) rfl (rest := []) rfl (hb hbytes d48)
  have c14 : Steps p.tables e below (s₁.setTop (entryFrame m #[.ref a, .ref b, .int (Int32.ofNat o), .int (Int32.ofNat len), .null] 6)) (T13.setTop (mkF m 54 #[.val (.ref a), .val (.ref b), .val (.int (Int32.ofNat o)), .val (.int (Int32.ofNat len)), .val .null, .val (.ref s.heap.size)] [.ref s.heap.size, .ref a])) := (c12.trans (st13 _ (Steps.refl _))).trans (by
    refine XS.aloadN X13.here hexec rfl (hb hbytes d51) rfl rfl ?_
    refine XS.aload X13.here hexec rfl (hb hbytes d52) rfl rfl ?_
    exact Steps.refl _)
  obtain ⟨T15, X15, p15, bl15, sl15, st15⟩ := X13.finit hexec hown (wk W (.fieldLink "java/lang/String" 9 "java/lang/String" "value" "[B")) (Or.inr ⟨_, (wk W (.laysFinal "java/lang/String" "java/lang/String" "value" "[B"))⟩) (Or.inl ⟨rfl, hnm⟩) f1 (Or.inl rfl) bl13 (t := (.array .byte)) (by decide +kernel) rfl (g := (mkF m 54 #[.val (.ref a), .val (.ref b), .val (.int (Int32.ofNat o)), .val (.int (Int32.ofNat len)), .val .null, .val (.ref s.heap.size)] [.ref s.heap.size, .ref a])) rfl (rest := []) rfl (hb hbytes d54)
  have c16 : Steps p.tables e below (s₁.setTop (entryFrame m #[.ref a, .ref b, .int (Int32.ofNat o), .int (Int32.ofNat len), .null] 6)) (T15.setTop (mkF m 57 #[.val (.ref a), .val (.ref b), .val (.int (Int32.ofNat o)), .val (.int (Int32.ofNat len)), .val .null, .val (.ref s.heap.size)] [])) := c14.trans (st15 _ (Steps.refl _))
  have ap := apart (Or.inr ⟨_, (wk W (.laysFinal "java/lang/String" "java/lang/String" "value" "[B"))⟩) (Or.inr ⟨_, (wk W (.laysFinal "java/lang/String" "java/lang/String" "coder" "B"))⟩) f1 f2 (t₁ := .array .byte) (t₂ := .byte) (by decide +kernel) (by decide +kernel) (by decide)
  have al := X8.warmed.alike.symm.trans X15.warmed.alike
  have n7 : T11.heap[s.heap.size]? = some N := by rw [q11]; exact n1.1
  exact ⟨T15, none, _, _, _, X15, by simp, rfl, by omega, (fun _ => rfl), ⟨rfl, _, N, bl15, ((Same.refl D _).set _ (by simp)).set _ (by simp), sl15, (Cell.slots_setSlot_ne _ ap).trans sl13, n1.keep al (p15.other hne (p13.other hne n7)), n2, by rw [al.findClass]; exact n3, n4, n5, fun y c h1 h2 => p15.other h1 (p13.other h1 (by rw [q11]; exact n6 y c h2)), by rw [p15.2.2, p13.2.2, q11]; exact z8⟩, fun fs hl => c16.trans (X15.returnOut hexec hret (hb hbytes d57) hl)⟩
end New4
namespace New1
def yN : MethodName := ⟨"java/lang/String", "<init>", "([C)V"⟩
abbrev yB : ByteArray := jdk_42_method_3_code
theorem d0 : decode yB 0 = .ok (.aload_n 0, 1) := by decide +kernel
theorem d1 : decode yB 1 = .ok (.aload_n 1, 1) := by decide +kernel
theorem d2 : decode yB 2 = .ok (.iconst 0, 1) := by decide +kernel
theorem d3 : decode yB 3 = .ok (.aload_n 1, 1) := by decide +kernel
theorem d4 : decode yB 4 = .ok (.arraylength, 1) := by decide +kernel
theorem d5 : decode yB 5 = .ok (.aconst_null, 1) := by decide +kernel
theorem d6 : decode yB 6 = .ok (.invokespecial 27, 3) := by decide +kernel
theorem d9 : decode yB 9 = .ok (.return_, 1) := by decide +kernel
def site : List Cond := [New4.tab] ++ initW "java/lang/String" 27 New4.yN
def tab : Cond := tabOf yN yB 2 none site
def P (a : Addr) (D : Cell) (fV fC : Field) (b : Addr) (A : Cell) (z : Int32) (args : Array Value) (s : State) : Prop := args = #[.ref a, .ref b] ∧ Blank "java/lang/String" a D s ∧ Found "java/lang/String" "value" "[B" fV s ∧ Found "java/lang/String" "coder" "B" fC s ∧ Ch b A s ∧ StaticIs s "java/lang/String" "COMPACT_STRINGS" "Z" (.int z) ∧ ¬ z = 0 ∧ 0 < A.slots.size ∧ A.slots.size ≤ 536870912 ∧ ∀ i, i < A.slots.size → ¬ 255 < cv A i
def E (a : Addr) (D : Cell) (fV fC : Field) (A : Cell) (r : Option Value) (s u : State) : Prop := Got a D fV fC A 0 A.slots.size r s u
/-- new String(chars), not empty, no char above 255: a Latin-1 String of their low bytes -/
theorem law (l : Launch) (a : Addr) (D : Cell) (fV fC : Field) (b : Addr) (A : Cell) (z : Int32) : Law l yN 2 1 3 52 yB 2 none site (P a D fV fC b A z) (E a D fV fC A) [⟨a, fC.slot⟩, ⟨a, fV.slot⟩] 1 A.slots.size := by
  refine Law.of_walk (plainFor_of_name (by decide +kernel)) (by decide +kernel) (by decide +kernel) (by decide) (fun _ _ h => by rw [h.1]; rfl) (fun _ U U' hal hh h => ⟨h.1, h.2.1.mv hal hh, h.2.2.1.al hal, h.2.2.2.1.al hal, h.2.2.2.2.1.mv hal hh, h.2.2.2.2.2.1.there hal hh, h.2.2.2.2.2.2⟩) (fun r U U' V V' h1 hal h2 h => Got.mv r U U' V V' h1 hal h2 h) ?_
  intro p e s m args below meth c s₁ X0 hexec hbytes hml hret hlk hnm hown hh0 W hP
  obtain ⟨rfl, hB, f1, f2, hA, s1, hz, l0, l2, hp⟩ := hP
  have c1 : Steps p.tables e below (s₁.setTop (entryFrame m #[.ref a, .ref b] 2)) (s₁.setTop (mkF m 0 #[.val (.ref a), .val (.ref b)] [])) := entry rfl
  have c2 : Steps p.tables e below (s₁.setTop (entryFrame m #[.ref a, .ref b] 2)) (s₁.setTop (mkF m 6 #[.val (.ref a), .val (.ref b)] [.null, .int (Int32.ofNat A.slots.size), .int 0, .ref b, .ref a])) := c1.trans (by
    refine XS.aloadN X0.here hexec rfl (hb hbytes d0) rfl rfl ?_
    refine XS.aloadN X0.here hexec rfl (hb hbytes d1) rfl rfl ?_
    refine iconstV X0.here hexec rfl 0 (hb hbytes d2) (by decide) ?_
    refine XS.aloadN X0.here hexec rfl (hb hbytes d3) rfl rfl ?_
    refine X0.alen hexec (hA.1.mv X0.warmed.alike hh0) rfl rfl (hb hbytes d4) ?_
    refine XS.aconstNull X0.here hexec rfl (hb hbytes d5) ?_
    exact Steps.refl _)
  obtain ⟨v3, T3, X3, E3, g3⟩ := X0.callN hexec (New4.law l a D fV fC b A z 0 A.slots.size) rfl hown (wks W (initW "java/lang/String" 27 New4.yN)) (W New4.tab (by simp only [site, List.mem_cons, List.mem_append, true_or, or_true])) (W := 0) (Nat.le_of_ble_eq_true rfl) (Nat.le_of_ble_eq_true rfl) (Nat.le_refl _) (by show 0 + A.slots.size ≤ A.slots.size; omega) (g := (mkF m 6 #[.val (.ref a), .val (.ref b)] [.null, .int (Int32.ofNat A.slots.size), .int (Int32.ofNat 0), .ref b, .ref a])) rfl (by rw [hml]; rfl) c2 (argsL := [.ref b, .int (Int32.ofNat 0), .int (Int32.ofNat A.slots.size), .null]) (rest := []) rfl rfl (by show 2 * 0 + 0 ≤ _; decide) (hb hbytes d6) (⟨rfl, hB.mv X0.warmed.alike hh0, f1.al X0.warmed.alike, f2.al X0.warmed.alike, hA.mv X0.warmed.alike hh0, s1.there X0.warmed.alike hh0, hz, l0, by omega, l2, fun i hi => by rw [Nat.zero_add]; exact hp i hi⟩)
  have e0 := Got.mv _ s₁ s _ _ hh0.symm (Vm.Alike.refl _) rfl E3
  obtain rfl := e0.1
  have c4 : Steps p.tables e below (s₁.setTop (entryFrame m #[.ref a, .ref b] 2)) (T3.setTop (mkF m 9 #[.val (.ref a), .val (.ref b)] [])) := g3
  exact ⟨T3, none, _, _, _, X3, by simp, rfl, by omega, (fun _ => rfl), e0, fun fs hl => c4.trans (X3.returnOut hexec hret (hb hbytes d9) hl)⟩
theorem pays {l : Launch} {R : Room} {p : Program} {e : Env} {below : List Frame} {s : State} {sargs : Array Value} {len W : Nat} (a : Addr) (D : Cell) (fV fC : Field) (b : Addr) (A : Cell) (z : Int32) (htab : tab.before sargs s = true) (hfr : 4 ≤ R.frames) (hlo : W + 65 ≤ R.locals) :
    Back l R p e below s sargs yN len W (fun A₁ a₁ => A₁.cells + 1 ≤ R.cells ∧ A₁.slots + A.slots.size ≤ R.slots ∧ P a D fV fC b A z a₁ A₁.U) (fun A₁ _ v₁ B₁ => E a D fV fC A v₁ A₁.U B₁.U ∧ B₁.locs = A₁.locs ++ [⟨a, fC.slot⟩, ⟨a, fV.slot⟩] ∧ B₁.cells = A₁.cells + 1 ∧ B₁.slots = A₁.slots + A.slots.size) :=
  (law l a D fV fC b A z).pays htab hfr (by omega)
end New1
end StrChars
namespace StrChars.Road
open Jvm Sem ClassFile Op Lib Jvm.Stand Jvm.Free Jvm.Free.XT
open Jvm.Lib.Cold (StaticIs)
abbrev ST : String := "java/lang/String"
/-- every table word that New1's law asks, flat -/
abbrev words : List Jvm.Cond := [.code New1.yN New1.yB 2 none, .initialized ST, .methodLink ST 27 New4.yN, .instanceMethod New4.yN,
  .code New4.yN New4.yB 6 none, .fieldLink ST 38 ST "COMPACT_STRINGS" "Z", .laysFinal ST ST "value" "[B", .fieldLink ST 9 ST "value" "[B", .laysFinal ST ST "coder" "B", .fieldLink ST 15 ST "coder" "B",
  .methodLink ST 1 Lib.objectInit, .instanceMethod Lib.objectInit, .code Lib.objectInit ⟨#[0xb1]⟩ 1 none, .methodLink ST 177 Cmp3.yN, .static Cmp3.yN, .methodLink ST 47 CodL.yN, .static CodL.yN,
  .code Cmp3.yN Cmp3.yB 6 (some (.array .byte)), .initialized U16, .arrayClass .byte, .methodLink U16 115 Cmp5.yN, .static Cmp5.yN, .code Cmp5.yN Cmp5.yB 7 (some .int), .code CodL.yN CodL.yB 2 (some .byte)]
theorem tab_of {a : Array Value} {s : State} (h : ∀ w ∈ words, w.before a s = true) : New1.tab.before a s = true := by
  have h5 : Cmp5.tab.before a s = true := unparts (wk h (.code Cmp5.yN Cmp5.yB 7 (some .int))) (wks h (.initialized Cmp5.yN.cls :: Cmp5.site))
  have hc : CodL.tab.before a s = true := unparts (wk h (.code CodL.yN CodL.yB 2 (some .byte))) (wks h (.initialized CodL.yN.cls :: CodL.site))
  have q5 : ∀ w ∈ Cmp5.tab :: words, w.before a s = true := fun w hw => (List.mem_cons.mp hw).elim (fun e => e ▸ h5) (h w)
  have h3 : Cmp3.tab.before a s = true := unparts (wk q5 (.code Cmp3.yN Cmp3.yB 6 (some (.array .byte)))) (wks q5 (.initialized Cmp3.yN.cls :: Cmp3.site))
  have q3 : ∀ w ∈ Cmp3.tab :: CodL.tab :: words, w.before a s = true := fun w hw => (List.mem_cons.mp hw).elim (fun e => e ▸ h3) fun hw => (List.mem_cons.mp hw).elim (fun e => e ▸ hc) (h w)
  have h4 : New4.tab.before a s = true := unparts (wk q3 (.code New4.yN New4.yB 6 none)) (wks q3 (.initialized New4.yN.cls :: New4.site))
  have q4 : ∀ w ∈ New4.tab :: words, w.before a s = true := fun w hw => (List.mem_cons.mp hw).elim (fun e => e ▸ h4) (h w)
  exact unparts (wk q4 (.code New1.yN New1.yB 2 none)) (wks q4 (.initialized New1.yN.cls :: New1.site))
/-- the words ride from the start Z to the walk's own state -/
theorem moved {Z s : State} {a0 args : Array Value} (hZ : Z.Warmed39 s.vm) (hw : ∀ d ∈ words, d.before a0 Z = true) : ∀ d ∈ words, d.before args s = true := fun d hd => by
  have q := hw d hd
  have t : ∀ d ∈ words, d = .arrayClass .byte ∨ (d.onTables && d.keepsFace) = true := by decide +kernel
  rcases t d hd with rfl | t
  · exact RoadKit.mvA hZ q
  · exact RoadKit.mv hZ q t
/-- WHAT COMES BACK, over the tables of the start Z: h the heap at the call, h' behind it -/
def Q (Z : State) (x : Addr) (A : Cell) (h : Heap) (v : Option Value) (h' : Heap) (L : List Loc) : Prop := v = none ∧ (∀ y ∈ L, y.base = x) ∧ RoadKit.Keep h h' [x] ∧ h'.size = h.size + 1 ∧ RoadKit.Exa Z h' x ST ∧ RoadKit.Fld Z h' x ST "value" "[B" (.ref h.size) ∧ RoadKit.Fld Z h' x ST "coder" "B" (.int 0) ∧
  (∃ V : Cell, RoadKit.Arr Z h' h.size V .byte ∧ V.vm = .none ∧ Z.vm.findClass "[B" = some V.cls ∧ V.slots.size = A.slots.size ∧ ∀ j, j < A.slots.size → V.slots[j]? = some (.int (lo8 (cv A j)))) ∧
  ∀ (O n d : String) (w : Value), RoadKit.Fld Z h x O n d w → RoadKit.slotOf Z O n d ≠ RoadKit.slotOf Z ST "value" "[B" → RoadKit.slotOf Z O n d ≠ RoadKit.slotOf Z ST "coder" "B" → RoadKit.Fld Z h' x O n d w
/-- **new String(chars) AT A CALL, IN THE ROAD'S FORM**: for specialBack behind newO: x the fresh String, b the char[] with the cell A -/
theorem back {p : Program} {l : Launch} {e : Env} {R : Room} {s : State} {args : Array Value} {below : List Frame} {len W : Nat} {Z : State} {a0 : Array Value} {h : Heap} (hZ : Z.Warmed39 s.vm) (hw : ∀ d ∈ words, d.before a0 Z = true) {kI : Nat} (wi : (Jvm.Cond.instantiable ST kI).before a0 Z = true)
    {x b : Addr} {A : Cell} {z : Int32} {v0 c0 : Value} (E : RoadKit.Exa Z h x ST) (V : RoadKit.Fld Z h x ST "value" "[B" v0) (C : RoadKit.Fld Z h x ST "coder" "B" c0) (K : RoadKit.Arr Z h b A .char) (hty : Typed .char A) (S : RoadKit.Sta Z h ST "COMPACT_STRINGS" "Z" (.int z)) (hz : ¬ z = 0)
    (l0 : 0 < A.slots.size) (l2 : A.slots.size ≤ 536870912) (hp : ∀ i, i < A.slots.size → ¬ 255 < cv A i) (hfr : 4 ≤ R.frames) (hlo : W + 65 ≤ R.locals) :
    Back l R p e below s args New1.yN len W (fun P a => a = #[.ref x, .ref b] ∧ P.U.heap = h ∧ P.cells + 1 ≤ R.cells ∧ P.slots + A.slots.size ≤ R.slots)
      (fun P _ v B => ∃ L, Q Z x A h v B.U.heap L ∧ B.locs = P.locs ++ L ∧ B.cells = P.cells + 1 ∧ B.slots = P.slots + A.slots.size) := by
  intro m meth c P g ig mk a X hg hsize hdg hW hn hp'
  obtain ⟨rfl, rfl, r1, r2⟩ := hp'
  have al : Z.vm.Alike P.U.vm := hZ.alike.trans X.warmed.alike
  obtain ⟨D, cfV, kV, iV, fV, hD, gV, stV, knV, obV, asV, slV⟩ := id V
  obtain ⟨D', cfC, kC, iC, fC, hD', gC, stC, -, -, asC, slC⟩ := id C
  cases hD.symm.trans hD'
  obtain ⟨D2, kD, e1, e2, e3, e4, e5⟩ := id E
  cases hD.symm.trans e1
  obtain ⟨c2, k2, i1, i2, i3, -⟩ := Cond.instantiable_spec wi
  cases e2.symm.trans i1
  cases e3.symm.trans i2
  obtain ⟨kU, u1, u2⟩ := al.2.2 _ _ e3
  have hB : Blank ST x D P.U := ⟨hD, ⟨knV, fun q hq => by rw [hq] at obV; cases obV⟩, by rw [al.findClass]; exact e2, kU, u1, by rw [u2]; exact i3, by rw [u2]; exact e5 i3⟩
  have F1 : Found ST "value" "[B" fV P.U := ⟨SBG.found_only al ⟨cfV, kV, iV, gV⟩, stV⟩
  have F2 : Found ST "coder" "B" fC P.U := ⟨SBG.found_only al ⟨cfC, kC, iC, gC⟩, stC⟩
  have hA : Ch b A P.U := ⟨⟨K.1, State.isArrayOf_alike al K.2.1, K.2.2, by omega⟩, hty⟩
  have hS : StaticIs P.U ST "COMPACT_STRINGS" "Z" (.int z) := by
    obtain ⟨cfS, iS, kS, fS, st, cS, t1, t2, t3, t4, t5, t6, t7⟩ := S
    exact StaticIs.there (s := { Z with heap := P.U.heap }) ⟨cfS, iS, kS, fS, st, cS, t1, t2, t3, t4, t5, (fun q => by rw [q] at t6; cases t6), t7⟩ al rfl
  obtain ⟨v, B, X', ⟨⟨hv, E', V', q1, q2, q3, q4, q5, q6, q7, q8, q9, q10, q11⟩, hl, hc, hs⟩, st⟩ := New1.pays x D fV fC b A z (tab_of (moved hZ hw)) hfr hlo m meth c P g ig mk _ X hg hsize hdg hW hn ⟨r1, r2, rfl, hB, F1, F2, hA, hS, hz, l0, l2, hp⟩
  have al' : Z.vm.Alike B.U.vm := hZ.alike.trans X'.warmed.alike
  have hsz : E'.slots.size = D.slots.size := by
    obtain ⟨-, -, -, kB, w1, w2, w3⟩ := q1
    obtain ⟨kB', y1, y2⟩ := al'.2.2 _ _ e3
    rw [q2.2.1] at w1
    cases w1.symm.trans y1
    rw [w3, e5 i3, y2]
  refine ⟨v, B, X', ⟨_, ⟨hv, ?_, ⟨by omega, fun y cy hy hn' => q10 y cy (by simpa using hn') hy, fun y cy hy => ?_⟩, q11, ⟨E', _, q1.1, by rw [q2.2.1]; exact e2, by rw [q2.2.1]; exact e3, by rw [q2.1]; exact obV, fun _ => by rw [hsz]; exact e5 i3⟩,
    ⟨E', cfV, kV, iV, fV, q1.1, gV, stV, by rw [q2.1]; exact knV, by rw [q2.1]; exact obV, by rw [q2.2.1]; exact asV, q3⟩, ⟨E', cfC, kC, iC, fC, q1.1, gC, stC, by rw [q2.1]; exact knV, by rw [q2.1]; exact obV, by rw [q2.2.1]; exact asC, q4⟩,
    ⟨V', ⟨q5.1, State.isArrayOf_alike al'.symm q5.2.1, q5.2.2.1⟩, q6, by rw [← al'.findClass]; exact q7, q8, fun j hj => by have := q9 j hj; rwa [Nat.zero_add] at this⟩, fun O n d w F n1 n2 => ?_⟩, hl, hc, hs⟩, st⟩
  · intro y hy
    simp only [List.mem_cons, List.not_mem_nil, or_false] at hy
    rcases hy with rfl | rfl <;> rfl
  · by_cases q : y = x
    · subst q
      cases hD.symm.trans hy
      exact ⟨E', q1.1, q2.2.1, q2.1, hsz⟩
    · exact ⟨cy, q10 y cy q hy, rfl, rfl, rfl⟩
  · obtain ⟨D3, cf, k, i, f, g1, g2, g3, g4, g5, g6, g7⟩ := F
    cases hD.symm.trans g1
    simp only [RoadKit.slotOf, g2, gV, gC, Option.map_some, Option.getD_some] at n1 n2
    exact ⟨E', cf, k, i, f, q1.1, g2, g3, by rw [q2.1]; exact g4, by rw [q2.1]; exact g5, by rw [q2.2.1]; exact g6, by rw [q2.2.2 f.slot (by simp [n1, n2])]; exact g7⟩
end StrChars.Road
namespace StrChars.Road
open Jvm Sem ClassFile Op Lib Jvm.Stand Jvm.Free Jvm.Free.XT
/-- WHAT COMES BACK, the byte[] as a list of values -/
def QA (Z : State) (x : Addr) (zn : Int32) (cs : List Int32) (h : Heap) (v : Option Value) (h' : Heap) (L : List Loc) : Prop := v = none ∧ (∀ y ∈ L, y.base = x) ∧ RoadKit.Keep h h' [x] ∧ h'.size = h.size + 1 ∧ RoadKit.Exa Z h' x ST ∧ RoadKit.Fld Z h' x ST "value" "[B" (.ref h.size) ∧ RoadKit.Fld Z h' x ST "coder" "B" (.int 0) ∧
  (∃ kb, Z.vm.findClass "[B" = some kb ∧ RoadKit.Arv Z h' h.size kb .byte zn (cs.map fun c => .int (lo8 c)) (.int 0)) ∧
  ∀ (O n d : String) (w : Value), RoadKit.Fld Z h x O n d w → RoadKit.slotOf Z O n d ≠ RoadKit.slotOf Z ST "value" "[B" → RoadKit.slotOf Z O n d ≠ RoadKit.slotOf Z ST "coder" "B" → RoadKit.Fld Z h' x O n d w
/-- **new String(chars) AT A CALL, THE ARRAYS AS LISTS**: the char[] at b holds cs, not empty, no char above 255 -/
theorem backArv {p : Program} {l : Launch} {e : Env} {R : Room} {s : State} {args : Array Value} {below : List Frame} {len W : Nat} {Z : State} {a0 : Array Value} {h : Heap} (hZ : Z.Warmed39 s.vm) (hw : ∀ d ∈ words, d.before a0 Z = true) {kI : Nat} (wi : (Jvm.Cond.instantiable ST kI).before a0 Z = true)
    {x b : Addr} {k : ClassId} {zn z : Int32} {cs : List Int32} {dv v0 c0 : Value} (E : RoadKit.Exa Z h x ST) (V : RoadKit.Fld Z h x ST "value" "[B" v0) (C : RoadKit.Fld Z h x ST "coder" "B" c0) (K : RoadKit.Arv Z h b k .char zn (cs.map Value.int) dv) (S : RoadKit.Sta Z h ST "COMPACT_STRINGS" "Z" (.int z)) (hz : ¬ z = 0)
    (hlen : zn.toNatClampNeg = cs.length) (h0 : 0 < cs.length) (hbig : cs.length ≤ 536870912) (hall : ∀ c ∈ cs, ¬ 255 < c) (hfr : 4 ≤ R.frames) (hlo : W + 65 ≤ R.locals) :
    Back l R p e below s args New1.yN len W (fun P a => a = #[.ref x, .ref b] ∧ P.U.heap = h ∧ P.cells + 1 ≤ R.cells ∧ P.slots + cs.length ≤ R.slots)
      (fun P _ v B => ∃ L, QA Z x zn cs h v B.U.heap L ∧ B.locs = P.locs ++ L ∧ B.cells = P.cells + 1 ∧ B.slots = P.slots + cs.length) := by
  obtain ⟨A, K1, K2, K3, K4, K5, K6⟩ := K
  have e : A.slots.size = cs.length := K3.trans hlen
  have hat : ∀ (i : Nat) (hi : i < cs.length), A.slots[i]? = some (.int cs[i]) := fun i hi => by rw [K5 i (by omega)]; simp [List.getD_eq_getElem?_getD, hi]
  have hcv : ∀ (i : Nat) (hi : i < cs.length), cv A i = cs[i] := fun i hi => by unfold cv; rw [hat i hi]
  have hty : Typed .char A := fun i v hv => by
    have hi : i < A.slots.size := (Array.getElem?_eq_some_iff.mp hv).1
    have q := K5 i hi
    rw [hv] at q
    rw [Option.some.inj q]
    exact K6 i hi
  refine Back.mono (back hZ hw wi E V C K1 hty S hz (by omega) (by omega) (fun i hi => by rw [hcv i (by omega)]; exact hall _ (List.getElem_mem _)) hfr hlo) (fun P a hp => ⟨hp.1, hp.2.1, hp.2.2.1, by rw [e]; exact hp.2.2.2⟩) (fun P a v B hp hq => ?_)
  obtain ⟨L, ⟨q1, q2, q3, q4, q5, q6, q7, ⟨V', v1, v2, v3, v4, v5⟩, q9⟩, hl, hc, hs⟩ := hq
  refine ⟨L, ⟨q1, q2, q3, q4, q5, q6, q7, ⟨V'.cls, v3, V', v1, rfl, by rw [v4, e, hlen], K4, fun i hi => ?_, fun i hi => ?_⟩, q9⟩, hl, hc, by rw [hs, e]⟩
  · have hi' : i < cs.length := by omega
    rw [v5 i (by omega), hcv i hi']; simp [List.getD_eq_getElem?_getD, hi']
  · have hi' : i < cs.length := by omega
    simp only [List.getD_eq_getElem?_getD, List.getElem?_map, List.getElem?_eq_getElem hi', Option.map_some, Option.getD_some]
    exact fits_lo8 _
end StrChars.Road
namespace StrChars.Road
open Jvm Sem ClassFile Op Lib Jvm.Stand Jvm.Free Jvm.Free.XT
/-- WHAT COMES BACK, in the writer's own shape -/
def QV (Z : State) (x : Addr) (N : Int32) (bs : List Int32) (h : Heap) (n0 : Nat) (v : Option Value) (h' : Heap) (L : List Loc) : Prop := v = none ∧ RoadKit.Fr n0 L ∧ RoadKit.Keep h h' [x] ∧ RoadKit.Exa Z h' x ST ∧ RoadKit.Fld Z h' x ST "coder" "B" (.int 0) ∧
  ∃ (t : Addr) (kb : ClassId), n0 ≤ t ∧ h.size ≤ t ∧ ¬ t = x ∧ RoadKit.Fld Z h' x ST "value" "[B" (.ref t) ∧ RoadKit.Arv Z h' t kb .byte N (bs.map Value.int) (.int 0)
/-- **new String(chars) AT A CALL, FOR THE WRITER**: a char[] of n known ints, each 0 to 255 -/
theorem backV {p : Program} {l : Launch} {e : Env} {R : Room} {s : State} {args : Array Value} {below : List Frame} {len W : Nat} {Z : State} {a0 : Array Value} {h : Heap} (hZ : Z.Warmed39 s.vm) (hw : ∀ d ∈ words, d.before a0 Z = true) {kI : Nat} (wi : (Jvm.Cond.instantiable ST kI).before a0 Z = true)
    {x b : Addr} {kC : ClassId} {cs bs : List Int32} {d v0 c0 : Value} {z N : Int32} {n n0 : Nat} (hx0 : n0 ≤ x) (hh0 : n0 ≤ h.size) (E : RoadKit.Exa Z h x ST) (V : RoadKit.Fld Z h x ST "value" "[B" v0) (C : RoadKit.Fld Z h x ST "coder" "B" c0) (K : RoadKit.Arv Z h b kC .char N (cs.map Value.int) d) (S : RoadKit.Sta Z h ST "COMPACT_STRINGS" "Z" (.int z)) (hz : ¬ z = 0)
    (hn : cs.length = n) (hN : N = Int32.ofNat n) (l0 : 0 < n) (l2 : n ≤ 4000) (hp : ∀ c ∈ cs, ¬ c < 0 ∧ ¬ (255 : Int32) < c) (hb : bs = cs.map (fun c => c.toInt8.toInt32)) (hfr : 4 ≤ R.frames) (hlo : W + 65 ≤ R.locals) :
    Back l R p e below s args (⟨"java/lang/String", "<init>", "([C)V"⟩ : MethodName) len W (fun P a => a = #[.ref x, .ref b] ∧ P.U.heap = h ∧ P.cells + 1 ≤ R.cells ∧ P.slots + n ≤ R.slots)
      (fun P _ v B => ∃ L, QV Z x N bs h n0 v B.U.heap L ∧ B.locs = P.locs ++ L ∧ B.cells = P.cells + 1 ∧ B.slots = P.slots + n) := by
  subst hn hN hb
  refine Back.mono (backArv hZ hw wi E V C K S hz (n32 (by omega)) l0 (by omega) (fun c hc => (hp c hc).2) hfr hlo) (fun P a hp => hp) (fun P a v B hp hq => ?_)
  obtain ⟨L, ⟨q1, q2, q3, q4, q5, q6, q7, ⟨kb, v1, v2⟩, q9⟩, hl, hc, hs⟩ := hq
  exact ⟨L, ⟨q1, fun y hy => by rw [q2 y hy]; exact hx0, q3, q5, q7, h.size, kb, hh0, Nat.le_refl _, Nat.ne_of_gt E.lt, q6, by rw [List.map_map]; exact v2⟩, hl, hc, hs⟩
end StrChars.Road
namespace StrChars
open Jvm Sem ClassFile Op Lib Jvm.Stand Jvm.Free.XT Jvm.Free.ALB Jvm.Free.JM Jvm.Free
open Jvm.Lib.Cold (StaticIs)
def hi8 (x : Int32) : Int32 := lo8 (x >>> ((8 : Int32) &&& 31))
end StrChars
namespace StrChars.Road
open Jvm Sem ClassFile Op Lib Jvm.Stand Jvm.Free Jvm.Free.XT
open Jvm.Lib.Cold (StaticIs)
/-- the bytes of the chars cs, low before high -/
def wideBytes : List Int32 → List Value
  | [] => []
  | c :: cs => .int (lo8 c) :: .int (hi8 c) :: wideBytes cs
/-- an array of N2 bytes vs codes the chars cs by the coder cd -/
def CodA (cs : List Int32) (cd N2 : Int32) (vs : List Value) : Prop := (cd = 0 ∧ N2 = Int32.ofNat cs.length ∧ vs = (cs.map fun c => Value.int (lo8 c)) ∧ ∀ c ∈ cs, ¬ 255 < c) ∨ (cd = 1 ∧ N2 = Int32.ofNat (2 * cs.length) ∧ vs = wideBytes cs ∧ ∃ c ∈ cs, 255 < c)
end StrChars.Road
namespace StrChars.Road
open Jvm Sem ClassFile Op Lib Jvm.Stand Jvm.Free Jvm.Free.XT
open Jvm.Lib.Cold (StaticIs)
/-- what backV says of its String, as the contracts of this text ask it: cs's low bytes, coder 0 -/
theorem codOf {cs : List Int32} {n : Nat} (hn : cs.length = n) (hb : ∀ c ∈ cs, ¬ 255 < c) : CodA cs 0 (Int32.ofNat n) ((cs.map lo8).map Value.int) := Or.inl ⟨rfl, by rw [hn], by simp [List.map_map, Function.comp_def], hb⟩
end StrChars.Road
end Jvm.Pilot.@@N@@

namespace Jvm.Pilot.@@N@@
open Jvm Jvm.ClassFile Sem Op Lib Jvm.Free Jvm.Stand Jvm.LawKit Jvm.RoadKit Bundle Jvm.Pilot.@@N@@.Jvm.D
theorem d7_0 : decode prog_51_method_1_code 0 = .ok (.aload_n 0, 1) := by decide +kernel
theorem d7_1 : decode prog_51_method_1_code 1 = .ok (.invokespecial 1, 3) := by decide +kernel
theorem d7_4 : decode prog_51_method_1_code 4 = .ok (.aload_n 0, 1) := by decide +kernel
theorem d7_5 : decode prog_51_method_1_code 5 = .ok (.new 7, 3) := by decide +kernel
theorem d7_8 : decode prog_51_method_1_code 8 = .ok (.dup, 1) := by decide +kernel
theorem d7_9 : decode prog_51_method_1_code 9 = .ok (.invokespecial 9, 3) := by decide +kernel
theorem d7_12 : decode prog_51_method_1_code 12 = .ok (.putfield 10, 3) := by decide +kernel
theorem d7_15 : decode prog_51_method_1_code 15 = .ok (.return_, 1) := by decide +kernel
theorem d8_0 : decode jdk_67_method_1_code 0 = .ok (.aload_n 0, 1) := by decide +kernel
theorem d8_1 : decode jdk_67_method_1_code 1 = .ok (.bipush 16, 2) := by decide +kernel
theorem d8_3 : decode jdk_67_method_1_code 3 = .ok (.invokespecial 1, 3) := by decide +kernel
theorem d8_6 : decode jdk_67_method_1_code 6 = .ok (.return_, 1) := by decide +kernel
theorem d9_0 : decode jdk_68_method_2_code 0 = .ok (.aload_n 0, 1) := by decide +kernel
theorem d9_1 : decode jdk_68_method_2_code 1 = .ok (.invokespecial 3, 3) := by decide +kernel
theorem d9_4 : decode jdk_68_method_2_code 4 = .ok (.getstatic 18, 3) := by decide +kernel
theorem d9_7 : decode jdk_68_method_2_code 7 = .ok (.ifCond .eq 18, 3) := by decide +kernel
theorem d9_10 : decode jdk_68_method_2_code 10 = .ok (.aload_n 0, 1) := by decide +kernel
theorem d9_11 : decode jdk_68_method_2_code 11 = .ok (.iload_n 1, 1) := by decide +kernel
theorem d9_12 : decode jdk_68_method_2_code 12 = .ok (.newarray .byte, 2) := by decide +kernel
theorem d9_14 : decode jdk_68_method_2_code 14 = .ok (.putfield 15, 3) := by decide +kernel
theorem d9_17 : decode jdk_68_method_2_code 17 = .ok (.aload_n 0, 1) := by decide +kernel
theorem d9_18 : decode jdk_68_method_2_code 18 = .ok (.iconst 0, 1) := by decide +kernel
theorem d9_19 : decode jdk_68_method_2_code 19 = .ok (.putfield 22, 3) := by decide +kernel
theorem d9_22 : decode jdk_68_method_2_code 22 = .ok (.goto 16, 3) := by decide +kernel
theorem d9_38 : decode jdk_68_method_2_code 38 = .ok (.return_, 1) := by decide +kernel
theorem d10_0 : decode prog_51_method_2_code 0 = .ok (.aload_n 1, 1) := by decide +kernel
theorem d10_1 : decode prog_51_method_2_code 1 = .ok (.invokevirtual 16, 3) := by decide +kernel
theorem d10_4 : decode prog_51_method_2_code 4 = .ok (.ifCond .ne 24, 3) := by decide +kernel
theorem d10_7 : decode prog_51_method_2_code 7 = .ok (.aload_n 0, 1) := by decide +kernel
theorem d10_8 : decode prog_51_method_2_code 8 = .ok (.getfield 10, 3) := by decide +kernel
theorem d10_11 : decode prog_51_method_2_code 11 = .ok (.ldc 22, 2) := by decide +kernel
theorem d10_13 : decode prog_51_method_2_code 13 = .ok (.aload_n 0, 1) := by decide +kernel
theorem d10_14 : decode prog_51_method_2_code 14 = .ok (.getfield 24, 3) := by decide +kernel
theorem d10_17 : decode prog_51_method_2_code 17 = .ok (.invokevirtual 28, 3) := by decide +kernel
theorem d10_20 : decode prog_51_method_2_code 20 = .ok (.invokevirtual 32, 3) := by decide +kernel
theorem d10_23 : decode prog_51_method_2_code 23 = .ok (.aload_n 1, 1) := by decide +kernel
theorem d10_24 : decode prog_51_method_2_code 24 = .ok (.invokevirtual 32, 3) := by decide +kernel
theorem d10_27 : decode prog_51_method_2_code 27 = .ok (.pop, 1) := by decide +kernel
theorem d10_28 : decode prog_51_method_2_code 28 = .ok (.aload_n 0, 1) := by decide +kernel
theorem d10_29 : decode prog_51_method_2_code 29 = .ok (.getfield 10, 3) := by decide +kernel
theorem d10_32 : decode prog_51_method_2_code 32 = .ok (.bipush 10, 2) := by decide +kernel
theorem d10_34 : decode prog_51_method_2_code 34 = .ok (.invokevirtual 36, 3) := by decide +kernel
theorem d10_37 : decode prog_51_method_2_code 37 = .ok (.pop, 1) := by decide +kernel
theorem d10_38 : decode prog_51_method_2_code 38 = .ok (.aload_n 0, 1) := by decide +kernel
theorem d10_39 : decode prog_51_method_2_code 39 = .ok (.areturn, 1) := by decide +kernel
theorem d11_0 : decode jdk_42_method_55_code 0 = .ok (.aload_n 0, 1) := by decide +kernel
theorem d11_1 : decode jdk_42_method_55_code 1 = .ok (.getfield 9, 3) := by decide +kernel
theorem d11_4 : decode jdk_42_method_55_code 4 = .ok (.arraylength, 1) := by decide +kernel
theorem d11_5 : decode jdk_42_method_55_code 5 = .ok (.ifCond .ne 7, 3) := by decide +kernel
theorem d11_8 : decode jdk_42_method_55_code 8 = .ok (.iconst 1, 1) := by decide +kernel
theorem d11_9 : decode jdk_42_method_55_code 9 = .ok (.goto 4, 3) := by decide +kernel
theorem d11_12 : decode jdk_42_method_55_code 12 = .ok (.iconst 0, 1) := by decide +kernel
theorem d11_13 : decode jdk_42_method_55_code 13 = .ok (.ireturn, 1) := by decide +kernel
theorem d12_0 : decode jdk_42_method_145_code 0 = .ok (.iload_n 1, 1) := by decide +kernel
theorem d12_1 : decode jdk_42_method_145_code 1 = .ok (.ifCond .ge 31, 3) := by decide +kernel
theorem d12_32 : decode jdk_42_method_145_code 32 = .ok (.iload_n 1, 1) := by decide +kernel
theorem d12_33 : decode jdk_42_method_145_code 33 = .ok (.iconst 1, 1) := by decide +kernel
theorem d12_34 : decode jdk_42_method_145_code 34 = .ok (.if_icmp .ne 5, 3) := by decide +kernel
theorem d12_37 : decode jdk_42_method_145_code 37 = .ok (.aload_n 0, 1) := by decide +kernel
theorem d12_38 : decode jdk_42_method_145_code 38 = .ok (.areturn, 1) := by decide +kernel
theorem d12_39 : decode jdk_42_method_145_code 39 = .ok (.aload_n 0, 1) := by decide +kernel
theorem d12_40 : decode jdk_42_method_145_code 40 = .ok (.getfield 9, 3) := by decide +kernel
theorem d12_43 : decode jdk_42_method_145_code 43 = .ok (.arraylength, 1) := by decide +kernel
theorem d12_44 : decode jdk_42_method_145_code 44 = .ok (.istore_n 2, 1) := by decide +kernel
theorem d12_45 : decode jdk_42_method_145_code 45 = .ok (.iload_n 2, 1) := by decide +kernel
theorem d12_46 : decode jdk_42_method_145_code 46 = .ok (.ifCond .eq 7, 3) := by decide +kernel
theorem d12_49 : decode jdk_42_method_145_code 49 = .ok (.iload_n 1, 1) := by decide +kernel
theorem d12_50 : decode jdk_42_method_145_code 50 = .ok (.ifCond .ne 6, 3) := by decide +kernel
theorem d12_53 : decode jdk_42_method_145_code 53 = .ok (.ldc 7, 2) := by decide +kernel
theorem d12_55 : decode jdk_42_method_145_code 55 = .ok (.areturn, 1) := by decide +kernel
theorem d12_56 : decode jdk_42_method_145_code 56 = .ok (.ldc_w 943, 3) := by decide +kernel
theorem d12_59 : decode jdk_42_method_145_code 59 = .ok (.iload_n 1, 1) := by decide +kernel
theorem d12_60 : decode jdk_42_method_145_code 60 = .ok (.idiv, 1) := by decide +kernel
theorem d12_61 : decode jdk_42_method_145_code 61 = .ok (.iload_n 2, 1) := by decide +kernel
theorem d12_62 : decode jdk_42_method_145_code 62 = .ok (.if_icmp .ge 14, 3) := by decide +kernel
theorem d12_76 : decode jdk_42_method_145_code 76 = .ok (.iload_n 2, 1) := by decide +kernel
theorem d12_77 : decode jdk_42_method_145_code 77 = .ok (.iconst 1, 1) := by decide +kernel
theorem d12_78 : decode jdk_42_method_145_code 78 = .ok (.if_icmp .ne 30, 3) := by decide +kernel
theorem d12_108 : decode jdk_42_method_145_code 108 = .ok (.iload_n 2, 1) := by decide +kernel
theorem d12_109 : decode jdk_42_method_145_code 109 = .ok (.iload_n 1, 1) := by decide +kernel
theorem d12_110 : decode jdk_42_method_145_code 110 = .ok (.imul, 1) := by decide +kernel
theorem d12_111 : decode jdk_42_method_145_code 111 = .ok (.istore_n 3, 1) := by decide +kernel
theorem d12_112 : decode jdk_42_method_145_code 112 = .ok (.iload_n 3, 1) := by decide +kernel
theorem d12_113 : decode jdk_42_method_145_code 113 = .ok (.newarray .byte, 2) := by decide +kernel
theorem d12_115 : decode jdk_42_method_145_code 115 = .ok (.astore 4, 2) := by decide +kernel
theorem d12_117 : decode jdk_42_method_145_code 117 = .ok (.aload_n 0, 1) := by decide +kernel
theorem d12_118 : decode jdk_42_method_145_code 118 = .ok (.getfield 9, 3) := by decide +kernel
theorem d12_121 : decode jdk_42_method_145_code 121 = .ok (.iconst 0, 1) := by decide +kernel
theorem d12_122 : decode jdk_42_method_145_code 122 = .ok (.aload 4, 2) := by decide +kernel
theorem d12_124 : decode jdk_42_method_145_code 124 = .ok (.iconst 0, 1) := by decide +kernel
theorem d12_125 : decode jdk_42_method_145_code 125 = .ok (.iload_n 2, 1) := by decide +kernel
theorem d12_126 : decode jdk_42_method_145_code 126 = .ok (.invokestatic 212, 3) := by decide +kernel
theorem d12_129 : decode jdk_42_method_145_code 129 = .ok (.aload 4, 2) := by decide +kernel
theorem d12_131 : decode jdk_42_method_145_code 131 = .ok (.iconst 0, 1) := by decide +kernel
theorem d12_132 : decode jdk_42_method_145_code 132 = .ok (.iload_n 3, 1) := by decide +kernel
theorem d12_133 : decode jdk_42_method_145_code 133 = .ok (.iload_n 2, 1) := by decide +kernel
theorem d12_134 : decode jdk_42_method_145_code 134 = .ok (.invokestatic 1044, 3) := by decide +kernel
theorem d12_137 : decode jdk_42_method_145_code 137 = .ok (.new 10, 3) := by decide +kernel
theorem d12_140 : decode jdk_42_method_145_code 140 = .ok (.dup, 1) := by decide +kernel
theorem d12_141 : decode jdk_42_method_145_code 141 = .ok (.aload 4, 2) := by decide +kernel
theorem d12_143 : decode jdk_42_method_145_code 143 = .ok (.aload_n 0, 1) := by decide +kernel
theorem d12_144 : decode jdk_42_method_145_code 144 = .ok (.getfield 15, 3) := by decide +kernel
theorem d12_147 : decode jdk_42_method_145_code 147 = .ok (.invokespecial 209, 3) := by decide +kernel
theorem d12_150 : decode jdk_42_method_145_code 150 = .ok (.areturn, 1) := by decide +kernel
theorem d13_0 : decode jdk_67_method_7_code 0 = .ok (.aload_n 0, 1) := by decide +kernel
theorem d13_1 : decode jdk_67_method_7_code 1 = .ok (.aload_n 1, 1) := by decide +kernel
theorem d13_2 : decode jdk_67_method_7_code 2 = .ok (.invokespecial 29, 3) := by decide +kernel
theorem d13_5 : decode jdk_67_method_7_code 5 = .ok (.pop, 1) := by decide +kernel
theorem d13_6 : decode jdk_67_method_7_code 6 = .ok (.aload_n 0, 1) := by decide +kernel
theorem d13_7 : decode jdk_67_method_7_code 7 = .ok (.areturn, 1) := by decide +kernel
theorem d14_0 : decode jdk_68_method_22_code 0 = .ok (.aload_n 1, 1) := by decide +kernel
theorem d14_1 : decode jdk_68_method_22_code 1 = .ok (.ifnonnull 8, 3) := by decide +kernel
theorem d14_9 : decode jdk_68_method_22_code 9 = .ok (.aload_n 1, 1) := by decide +kernel
theorem d14_10 : decode jdk_68_method_22_code 10 = .ok (.invokevirtual 32, 3) := by decide +kernel
theorem d14_13 : decode jdk_68_method_22_code 13 = .ok (.istore_n 2, 1) := by decide +kernel
theorem d14_14 : decode jdk_68_method_22_code 14 = .ok (.aload_n 0, 1) := by decide +kernel
theorem d14_15 : decode jdk_68_method_22_code 15 = .ok (.aload_n 0, 1) := by decide +kernel
theorem d14_16 : decode jdk_68_method_22_code 16 = .ok (.getfield 79, 3) := by decide +kernel
theorem d14_19 : decode jdk_68_method_22_code 19 = .ok (.iload_n 2, 1) := by decide +kernel
theorem d14_20 : decode jdk_68_method_22_code 20 = .ok (.iadd, 1) := by decide +kernel
theorem d14_21 : decode jdk_68_method_22_code 21 = .ok (.invokevirtual 100, 3) := by decide +kernel
theorem d14_24 : decode jdk_68_method_22_code 24 = .ok (.aload_n 0, 1) := by decide +kernel
theorem d14_25 : decode jdk_68_method_22_code 25 = .ok (.aload_n 0, 1) := by decide +kernel
theorem d14_26 : decode jdk_68_method_22_code 26 = .ok (.getfield 79, 3) := by decide +kernel
theorem d14_29 : decode jdk_68_method_22_code 29 = .ok (.aload_n 1, 1) := by decide +kernel
theorem d14_30 : decode jdk_68_method_22_code 30 = .ok (.invokevirtual 208, 3) := by decide +kernel
theorem d14_33 : decode jdk_68_method_22_code 33 = .ok (.aload_n 0, 1) := by decide +kernel
theorem d14_34 : decode jdk_68_method_22_code 34 = .ok (.dup, 1) := by decide +kernel
theorem d14_35 : decode jdk_68_method_22_code 35 = .ok (.getfield 79, 3) := by decide +kernel
theorem d14_38 : decode jdk_68_method_22_code 38 = .ok (.iload_n 2, 1) := by decide +kernel
theorem d14_39 : decode jdk_68_method_22_code 39 = .ok (.iadd, 1) := by decide +kernel
theorem d14_40 : decode jdk_68_method_22_code 40 = .ok (.putfield 79, 3) := by decide +kernel
theorem d14_43 : decode jdk_68_method_22_code 43 = .ok (.aload_n 0, 1) := by decide +kernel
theorem d14_44 : decode jdk_68_method_22_code 44 = .ok (.areturn, 1) := by decide +kernel
theorem d15_0 : decode jdk_42_method_54_code 0 = .ok (.aload_n 0, 1) := by decide +kernel
theorem d15_1 : decode jdk_42_method_54_code 1 = .ok (.getfield 9, 3) := by decide +kernel
theorem d15_4 : decode jdk_42_method_54_code 4 = .ok (.arraylength, 1) := by decide +kernel
theorem d15_5 : decode jdk_42_method_54_code 5 = .ok (.aload_n 0, 1) := by decide +kernel
theorem d15_6 : decode jdk_42_method_54_code 6 = .ok (.invokevirtual 335, 3) := by decide +kernel
theorem d15_9 : decode jdk_42_method_54_code 9 = .ok (.ishr, 1) := by decide +kernel
theorem d15_10 : decode jdk_42_method_54_code 10 = .ok (.ireturn, 1) := by decide +kernel
theorem d16_0 : decode jdk_42_method_152_code 0 = .ok (.getstatic 38, 3) := by decide +kernel
theorem d16_3 : decode jdk_42_method_152_code 3 = .ok (.ifCond .eq 10, 3) := by decide +kernel
theorem d16_6 : decode jdk_42_method_152_code 6 = .ok (.aload_n 0, 1) := by decide +kernel
theorem d16_7 : decode jdk_42_method_152_code 7 = .ok (.getfield 15, 3) := by decide +kernel
theorem d16_10 : decode jdk_42_method_152_code 10 = .ok (.goto 4, 3) := by decide +kernel
theorem d16_14 : decode jdk_42_method_152_code 14 = .ok (.ireturn, 1) := by decide +kernel
theorem d17_0 : decode jdk_68_method_9_code 0 = .ok (.aload_n 0, 1) := by decide +kernel
theorem d17_1 : decode jdk_68_method_9_code 1 = .ok (.getfield 15, 3) := by decide +kernel
theorem d17_4 : decode jdk_68_method_9_code 4 = .ok (.arraylength, 1) := by decide +kernel
theorem d17_5 : decode jdk_68_method_9_code 5 = .ok (.aload_n 0, 1) := by decide +kernel
theorem d17_6 : decode jdk_68_method_9_code 6 = .ok (.getfield 22, 3) := by decide +kernel
theorem d17_9 : decode jdk_68_method_9_code 9 = .ok (.ishr, 1) := by decide +kernel
theorem d17_10 : decode jdk_68_method_9_code 10 = .ok (.istore_n 2, 1) := by decide +kernel
theorem d17_11 : decode jdk_68_method_9_code 11 = .ok (.iload_n 1, 1) := by decide +kernel
theorem d17_12 : decode jdk_68_method_9_code 12 = .ok (.iload_n 2, 1) := by decide +kernel
theorem d17_13 : decode jdk_68_method_9_code 13 = .ok (.isub, 1) := by decide +kernel
theorem d17_14 : decode jdk_68_method_9_code 14 = .ok (.ifCond .le 24, 3) := by decide +kernel
theorem d17_38 : decode jdk_68_method_9_code 38 = .ok (.return_, 1) := by decide +kernel
theorem d18_0 : decode jdk_68_method_73_code 0 = .ok (.aload_n 0, 1) := by decide +kernel
theorem d18_1 : decode jdk_68_method_73_code 1 = .ok (.aload_n 2, 1) := by decide +kernel
theorem d18_2 : decode jdk_68_method_73_code 2 = .ok (.invokevirtual 397, 3) := by decide +kernel
theorem d18_5 : decode jdk_68_method_73_code 5 = .ok (.aload_n 2, 1) := by decide +kernel
theorem d18_6 : decode jdk_68_method_73_code 6 = .ok (.aload_n 0, 1) := by decide +kernel
theorem d18_7 : decode jdk_68_method_73_code 7 = .ok (.getfield 15, 3) := by decide +kernel
theorem d18_10 : decode jdk_68_method_73_code 10 = .ok (.iload_n 1, 1) := by decide +kernel
theorem d18_11 : decode jdk_68_method_73_code 11 = .ok (.aload_n 0, 1) := by decide +kernel
theorem d18_12 : decode jdk_68_method_73_code 12 = .ok (.getfield 22, 3) := by decide +kernel
theorem d18_15 : decode jdk_68_method_73_code 15 = .ok (.invokevirtual 399, 3) := by decide +kernel
theorem d18_18 : decode jdk_68_method_73_code 18 = .ok (.return_, 1) := by decide +kernel
theorem d19_0 : decode jdk_68_method_71_code 0 = .ok (.getstatic 18, 3) := by decide +kernel
theorem d19_3 : decode jdk_68_method_71_code 3 = .ok (.ifCond .eq 18, 3) := by decide +kernel
theorem d19_6 : decode jdk_68_method_71_code 6 = .ok (.aload_n 0, 1) := by decide +kernel
theorem d19_7 : decode jdk_68_method_71_code 7 = .ok (.getfield 22, 3) := by decide +kernel
theorem d19_10 : decode jdk_68_method_71_code 10 = .ok (.aload_n 1, 1) := by decide +kernel
theorem d19_11 : decode jdk_68_method_71_code 11 = .ok (.invokevirtual 40, 3) := by decide +kernel
theorem d19_14 : decode jdk_68_method_71_code 14 = .ok (.if_icmp .eq 7, 3) := by decide +kernel
theorem d19_21 : decode jdk_68_method_71_code 21 = .ok (.return_, 1) := by decide +kernel
theorem d20_0 : decode jdk_42_method_147_code 0 = .ok (.aload_n 0, 1) := by decide +kernel
theorem d20_1 : decode jdk_42_method_147_code 1 = .ok (.invokevirtual 335, 3) := by decide +kernel
theorem d20_4 : decode jdk_42_method_147_code 4 = .ok (.iload_n 3, 1) := by decide +kernel
theorem d20_5 : decode jdk_42_method_147_code 5 = .ok (.if_icmp .ne 23, 3) := by decide +kernel
theorem d20_8 : decode jdk_42_method_147_code 8 = .ok (.aload_n 0, 1) := by decide +kernel
theorem d20_9 : decode jdk_42_method_147_code 9 = .ok (.getfield 9, 3) := by decide +kernel
theorem d20_12 : decode jdk_42_method_147_code 12 = .ok (.iconst 0, 1) := by decide +kernel
theorem d20_13 : decode jdk_42_method_147_code 13 = .ok (.aload_n 1, 1) := by decide +kernel
theorem d20_14 : decode jdk_42_method_147_code 14 = .ok (.iload_n 2, 1) := by decide +kernel
theorem d20_15 : decode jdk_42_method_147_code 15 = .ok (.iload_n 3, 1) := by decide +kernel
theorem d20_16 : decode jdk_42_method_147_code 16 = .ok (.ishl, 1) := by decide +kernel
theorem d20_17 : decode jdk_42_method_147_code 17 = .ok (.aload_n 0, 1) := by decide +kernel
theorem d20_18 : decode jdk_42_method_147_code 18 = .ok (.getfield 9, 3) := by decide +kernel
theorem d20_21 : decode jdk_42_method_147_code 21 = .ok (.arraylength, 1) := by decide +kernel
theorem d20_22 : decode jdk_42_method_147_code 22 = .ok (.invokestatic 212, 3) := by decide +kernel
theorem d20_25 : decode jdk_42_method_147_code 25 = .ok (.goto 18, 3) := by decide +kernel
theorem d20_43 : decode jdk_42_method_147_code 43 = .ok (.return_, 1) := by decide +kernel
theorem d21_0 : decode jdk_67_method_14_code 0 = .ok (.aload_n 0, 1) := by decide +kernel
theorem d21_1 : decode jdk_67_method_14_code 1 = .ok (.iload_n 1, 1) := by decide +kernel
theorem d21_2 : decode jdk_67_method_14_code 2 = .ok (.invokespecial 50, 3) := by decide +kernel
theorem d21_5 : decode jdk_67_method_14_code 5 = .ok (.pop, 1) := by decide +kernel
theorem d21_6 : decode jdk_67_method_14_code 6 = .ok (.aload_n 0, 1) := by decide +kernel
theorem d21_7 : decode jdk_67_method_14_code 7 = .ok (.areturn, 1) := by decide +kernel
theorem d22_0 : decode jdk_68_method_31_code 0 = .ok (.aload_n 0, 1) := by decide +kernel
theorem d22_1 : decode jdk_68_method_31_code 1 = .ok (.aload_n 0, 1) := by decide +kernel
theorem d22_2 : decode jdk_68_method_31_code 2 = .ok (.getfield 79, 3) := by decide +kernel
theorem d22_5 : decode jdk_68_method_31_code 5 = .ok (.iconst 1, 1) := by decide +kernel
theorem d22_6 : decode jdk_68_method_31_code 6 = .ok (.iadd, 1) := by decide +kernel
theorem d22_7 : decode jdk_68_method_31_code 7 = .ok (.invokevirtual 100, 3) := by decide +kernel
theorem d22_10 : decode jdk_68_method_31_code 10 = .ok (.aload_n 0, 1) := by decide +kernel
theorem d22_11 : decode jdk_68_method_31_code 11 = .ok (.invokevirtual 83, 3) := by decide +kernel
theorem d22_14 : decode jdk_68_method_31_code 14 = .ok (.ifCond .eq 31, 3) := by decide +kernel
theorem d22_17 : decode jdk_68_method_31_code 17 = .ok (.iload_n 1, 1) := by decide +kernel
theorem d22_18 : decode jdk_68_method_31_code 18 = .ok (.invokestatic 191, 3) := by decide +kernel
theorem d22_21 : decode jdk_68_method_31_code 21 = .ok (.ifCond .eq 24, 3) := by decide +kernel
theorem d22_24 : decode jdk_68_method_31_code 24 = .ok (.aload_n 0, 1) := by decide +kernel
theorem d22_25 : decode jdk_68_method_31_code 25 = .ok (.getfield 15, 3) := by decide +kernel
theorem d22_28 : decode jdk_68_method_31_code 28 = .ok (.aload_n 0, 1) := by decide +kernel
theorem d22_29 : decode jdk_68_method_31_code 29 = .ok (.dup, 1) := by decide +kernel
theorem d22_30 : decode jdk_68_method_31_code 30 = .ok (.getfield 79, 3) := by decide +kernel
theorem d22_33 : decode jdk_68_method_31_code 33 = .ok (.dup_x1, 1) := by decide +kernel
theorem d22_34 : decode jdk_68_method_31_code 34 = .ok (.iconst 1, 1) := by decide +kernel
theorem d22_35 : decode jdk_68_method_31_code 35 = .ok (.iadd, 1) := by decide +kernel
theorem d22_36 : decode jdk_68_method_31_code 36 = .ok (.putfield 79, 3) := by decide +kernel
theorem d22_39 : decode jdk_68_method_31_code 39 = .ok (.iload_n 1, 1) := by decide +kernel
theorem d22_40 : decode jdk_68_method_31_code 40 = .ok (.i2b, 1) := by decide +kernel
theorem d22_41 : decode jdk_68_method_31_code 41 = .ok (.bastore, 1) := by decide +kernel
theorem d22_42 : decode jdk_68_method_31_code 42 = .ok (.goto 33, 3) := by decide +kernel
theorem d22_75 : decode jdk_68_method_31_code 75 = .ok (.aload_n 0, 1) := by decide +kernel
theorem d22_76 : decode jdk_68_method_31_code 76 = .ok (.areturn, 1) := by decide +kernel
theorem d23_0 : decode jdk_68_method_68_code 0 = .ok (.getstatic 18, 3) := by decide +kernel
theorem d23_3 : decode jdk_68_method_68_code 3 = .ok (.ifCond .eq 14, 3) := by decide +kernel
theorem d23_6 : decode jdk_68_method_68_code 6 = .ok (.aload_n 0, 1) := by decide +kernel
theorem d23_7 : decode jdk_68_method_68_code 7 = .ok (.getfield 22, 3) := by decide +kernel
theorem d23_10 : decode jdk_68_method_68_code 10 = .ok (.ifCond .ne 7, 3) := by decide +kernel
theorem d23_13 : decode jdk_68_method_68_code 13 = .ok (.iconst 1, 1) := by decide +kernel
theorem d23_14 : decode jdk_68_method_68_code 14 = .ok (.goto 4, 3) := by decide +kernel
theorem d23_18 : decode jdk_68_method_68_code 18 = .ok (.ireturn, 1) := by decide +kernel
theorem d24_0 : decode jdk_43_method_3_code 0 = .ok (.iload_n 0, 1) := by decide +kernel
theorem d24_1 : decode jdk_43_method_3_code 1 = .ok (.sipush 255, 3) := by decide +kernel
theorem d24_4 : decode jdk_43_method_3_code 4 = .ok (.if_icmp .gt 7, 3) := by decide +kernel
theorem d24_7 : decode jdk_43_method_3_code 7 = .ok (.iconst 1, 1) := by decide +kernel
theorem d24_8 : decode jdk_43_method_3_code 8 = .ok (.goto 4, 3) := by decide +kernel
theorem d24_12 : decode jdk_43_method_3_code 12 = .ok (.ireturn, 1) := by decide +kernel
theorem d25_0 : decode prog_51_method_9_code 0 = .ok (.aload_n 0, 1) := by decide +kernel
theorem d25_1 : decode prog_51_method_9_code 1 = .ok (.getfield 10, 3) := by decide +kernel
theorem d25_4 : decode prog_51_method_9_code 4 = .ok (.invokevirtual 56, 3) := by decide +kernel
theorem d25_7 : decode prog_51_method_9_code 7 = .ok (.areturn, 1) := by decide +kernel
theorem d26_0 : decode jdk_67_method_42_code 0 = .ok (.new 18, 3) := by decide +kernel
theorem d26_3 : decode jdk_67_method_42_code 3 = .ok (.dup, 1) := by decide +kernel
theorem d26_4 : decode jdk_67_method_42_code 4 = .ok (.aload_n 0, 1) := by decide +kernel
theorem d26_5 : decode jdk_67_method_42_code 5 = .ok (.invokespecial 137, 3) := by decide +kernel
theorem d26_8 : decode jdk_67_method_42_code 8 = .ok (.areturn, 1) := by decide +kernel
theorem d27_0 : decode jdk_42_method_53_code 0 = .ok (.aload_n 0, 1) := by decide +kernel
theorem d27_1 : decode jdk_42_method_53_code 1 = .ok (.aload_n 1, 1) := by decide +kernel
theorem d27_2 : decode jdk_42_method_53_code 2 = .ok (.aconst_null, 1) := by decide +kernel
theorem d27_3 : decode jdk_42_method_53_code 3 = .ok (.invokespecial 489, 3) := by decide +kernel
theorem d27_6 : decode jdk_42_method_53_code 6 = .ok (.return_, 1) := by decide +kernel
theorem d28_0 : decode jdk_42_method_150_code 0 = .ok (.aload_n 0, 1) := by decide +kernel
theorem d28_1 : decode jdk_42_method_150_code 1 = .ok (.invokespecial 1, 3) := by decide +kernel
theorem d28_4 : decode jdk_42_method_150_code 4 = .ok (.aload_n 1, 1) := by decide +kernel
theorem d28_5 : decode jdk_42_method_150_code 5 = .ok (.invokevirtual 552, 3) := by decide +kernel
theorem d28_8 : decode jdk_42_method_150_code 8 = .ok (.astore_n 3, 1) := by decide +kernel
theorem d28_9 : decode jdk_42_method_150_code 9 = .ok (.aload_n 1, 1) := by decide +kernel
theorem d28_10 : decode jdk_42_method_150_code 10 = .ok (.invokevirtual 549, 3) := by decide +kernel
theorem d28_13 : decode jdk_42_method_150_code 13 = .ok (.istore 4, 2) := by decide +kernel
theorem d28_15 : decode jdk_42_method_150_code 15 = .ok (.aload_n 1, 1) := by decide +kernel
theorem d28_16 : decode jdk_42_method_150_code 16 = .ok (.invokevirtual 1047, 3) := by decide +kernel
theorem d28_19 : decode jdk_42_method_150_code 19 = .ok (.ifCond .eq 22, 3) := by decide +kernel
theorem d28_22 : decode jdk_42_method_150_code 22 = .ok (.aload_n 0, 1) := by decide +kernel
theorem d28_23 : decode jdk_42_method_150_code 23 = .ok (.iconst 0, 1) := by decide +kernel
theorem d28_24 : decode jdk_42_method_150_code 24 = .ok (.putfield 15, 3) := by decide +kernel
theorem d28_27 : decode jdk_42_method_150_code 27 = .ok (.aload_n 0, 1) := by decide +kernel
theorem d28_28 : decode jdk_42_method_150_code 28 = .ok (.aload_n 3, 1) := by decide +kernel
theorem d28_29 : decode jdk_42_method_150_code 29 = .ok (.iconst 0, 1) := by decide +kernel
theorem d28_30 : decode jdk_42_method_150_code 30 = .ok (.iload 4, 2) := by decide +kernel
theorem d28_32 : decode jdk_42_method_150_code 32 = .ok (.invokestatic 54, 3) := by decide +kernel
theorem d28_35 : decode jdk_42_method_150_code 35 = .ok (.putfield 9, 3) := by decide +kernel
theorem d28_38 : decode jdk_42_method_150_code 38 = .ok (.goto 59, 3) := by decide +kernel
theorem d28_97 : decode jdk_42_method_150_code 97 = .ok (.return_, 1) := by decide +kernel
theorem d29_0 : decode jdk_68_method_64_code 0 = .ok (.aload_n 0, 1) := by decide +kernel
theorem d29_1 : decode jdk_68_method_64_code 1 = .ok (.getfield 15, 3) := by decide +kernel
theorem d29_4 : decode jdk_68_method_64_code 4 = .ok (.areturn, 1) := by decide +kernel
theorem d30_0 : decode jdk_67_method_93_code 0 = .ok (.aload_n 0, 1) := by decide +kernel
theorem d30_1 : decode jdk_67_method_93_code 1 = .ok (.invokespecial 343, 3) := by decide +kernel
theorem d30_4 : decode jdk_67_method_93_code 4 = .ok (.ireturn, 1) := by decide +kernel
theorem d31_0 : decode jdk_68_method_6_code 0 = .ok (.aload_n 0, 1) := by decide +kernel
theorem d31_1 : decode jdk_68_method_6_code 1 = .ok (.getfield 79, 3) := by decide +kernel
theorem d31_4 : decode jdk_68_method_6_code 4 = .ok (.ireturn, 1) := by decide +kernel
theorem d32_0 : decode jdk_65_method_132_code 0 = .ok (.iload_n 1, 1) := by decide +kernel
theorem d32_1 : decode jdk_65_method_132_code 1 = .ok (.ifCond .ne 9, 3) := by decide +kernel
theorem d32_4 : decode jdk_65_method_132_code 4 = .ok (.iload_n 2, 1) := by decide +kernel
theorem d32_5 : decode jdk_65_method_132_code 5 = .ok (.aload_n 0, 1) := by decide +kernel
theorem d32_6 : decode jdk_65_method_132_code 6 = .ok (.arraylength, 1) := by decide +kernel
theorem d32_7 : decode jdk_65_method_132_code 7 = .ok (.if_icmp .eq 10, 3) := by decide +kernel
theorem d32_10 : decode jdk_65_method_132_code 10 = .ok (.aload_n 0, 1) := by decide +kernel
theorem d32_11 : decode jdk_65_method_132_code 11 = .ok (.iload_n 1, 1) := by decide +kernel
theorem d32_12 : decode jdk_65_method_132_code 12 = .ok (.iload_n 2, 1) := by decide +kernel
theorem d32_13 : decode jdk_65_method_132_code 13 = .ok (.invokestatic 339, 3) := by decide +kernel
theorem d32_16 : decode jdk_65_method_132_code 16 = .ok (.areturn, 1) := by decide +kernel
theorem d33_0 : decode jdk_65_method_133_code 0 = .ok (.iload_n 1, 1) := by decide +kernel
theorem d33_1 : decode jdk_65_method_133_code 1 = .ok (.iload_n 2, 1) := by decide +kernel
theorem d33_2 : decode jdk_65_method_133_code 2 = .ok (.invokestatic 343, 3) := by decide +kernel
theorem d33_5 : decode jdk_65_method_133_code 5 = .ok (.iload_n 2, 1) := by decide +kernel
theorem d33_6 : decode jdk_65_method_133_code 6 = .ok (.iload_n 1, 1) := by decide +kernel
theorem d33_7 : decode jdk_65_method_133_code 7 = .ok (.isub, 1) := by decide +kernel
theorem d33_8 : decode jdk_65_method_133_code 8 = .ok (.istore_n 3, 1) := by decide +kernel
theorem d33_9 : decode jdk_65_method_133_code 9 = .ok (.iload_n 3, 1) := by decide +kernel
theorem d33_10 : decode jdk_65_method_133_code 10 = .ok (.newarray .byte, 2) := by decide +kernel
theorem d33_12 : decode jdk_65_method_133_code 12 = .ok (.astore 4, 2) := by decide +kernel
theorem d33_14 : decode jdk_65_method_133_code 14 = .ok (.aload_n 0, 1) := by decide +kernel
theorem d33_15 : decode jdk_65_method_133_code 15 = .ok (.iload_n 1, 1) := by decide +kernel
theorem d33_16 : decode jdk_65_method_133_code 16 = .ok (.aload 4, 2) := by decide +kernel
theorem d33_18 : decode jdk_65_method_133_code 18 = .ok (.iconst 0, 1) := by decide +kernel
theorem d33_19 : decode jdk_65_method_133_code 19 = .ok (.aload_n 0, 1) := by decide +kernel
theorem d33_20 : decode jdk_65_method_133_code 20 = .ok (.arraylength, 1) := by decide +kernel
theorem d33_21 : decode jdk_65_method_133_code 21 = .ok (.iload_n 1, 1) := by decide +kernel
theorem d33_22 : decode jdk_65_method_133_code 22 = .ok (.isub, 1) := by decide +kernel
theorem d33_23 : decode jdk_65_method_133_code 23 = .ok (.iload_n 3, 1) := by decide +kernel
theorem d33_24 : decode jdk_65_method_133_code 24 = .ok (.invokestatic 304, 3) := by decide +kernel
theorem d33_27 : decode jdk_65_method_133_code 27 = .ok (.invokestatic 150, 3) := by decide +kernel
theorem d33_30 : decode jdk_65_method_133_code 30 = .ok (.aload 4, 2) := by decide +kernel
theorem d33_32 : decode jdk_65_method_133_code 32 = .ok (.areturn, 1) := by decide +kernel
theorem d34_0 : decode jdk_65_method_131_code 0 = .ok (.iload_n 1, 1) := by decide +kernel
theorem d34_1 : decode jdk_65_method_131_code 1 = .ok (.iload_n 0, 1) := by decide +kernel
theorem d34_2 : decode jdk_65_method_131_code 2 = .ok (.if_icmp .ge 35, 3) := by decide +kernel
theorem d34_37 : decode jdk_65_method_131_code 37 = .ok (.return_, 1) := by decide +kernel
theorem d35_0 : decode jdk_29_method_69_code 0 = .ok (.iload_n 0, 1) := by decide +kernel
theorem d35_1 : decode jdk_29_method_69_code 1 = .ok (.iload_n 1, 1) := by decide +kernel
theorem d35_2 : decode jdk_29_method_69_code 2 = .ok (.if_icmp .gt 7, 3) := by decide +kernel
theorem d35_5 : decode jdk_29_method_69_code 5 = .ok (.iload_n 0, 1) := by decide +kernel
theorem d35_6 : decode jdk_29_method_69_code 6 = .ok (.goto 4, 3) := by decide +kernel
theorem d35_9 : decode jdk_29_method_69_code 9 = .ok (.iload_n 1, 1) := by decide +kernel
theorem d35_10 : decode jdk_29_method_69_code 10 = .ok (.ireturn, 1) := by decide +kernel
theorem d36_0 : decode method_2_code 0 = .ok (.iload_n 1, 1) := by decide +kernel
theorem d36_1 : decode method_2_code 1 = .ok (.aload_n 0, 1) := by decide +kernel
theorem d36_2 : decode method_2_code 2 = .ok (.invokevirtual 7, 3) := by decide +kernel
theorem d36_5 : decode method_2_code 5 = .ok (.if_icmp .lt 5, 3) := by decide +kernel
theorem d36_8 : decode method_2_code 8 = .ok (.iconst 1, 1) := by decide +kernel
theorem d36_9 : decode method_2_code 9 = .ok (.ireturn, 1) := by decide +kernel
theorem d36_10 : decode method_2_code 10 = .ok (.iload_n 1, 1) := by decide +kernel
theorem d36_11 : decode method_2_code 11 = .ok (.iload_n 2, 1) := by decide +kernel
theorem d36_12 : decode method_2_code 12 = .ok (.isub, 1) := by decide +kernel
theorem d36_13 : decode method_2_code 13 = .ok (.istore 7, 2) := by decide +kernel
theorem d36_15 : decode method_2_code 15 = .ok (.iload_n 1, 1) := by decide +kernel
theorem d36_16 : decode method_2_code 16 = .ok (.iload_n 2, 1) := by decide +kernel
theorem d36_17 : decode method_2_code 17 = .ok (.if_icmp .ge 10, 3) := by decide +kernel
theorem d36_20 : decode method_2_code 20 = .ok (.bipush 32, 2) := by decide +kernel
theorem d36_22 : decode method_2_code 22 = .ok (.istore 6, 2) := by decide +kernel
theorem d36_24 : decode method_2_code 24 = .ok (.goto 30, 3) := by decide +kernel
theorem d36_27 : decode method_2_code 27 = .ok (.iload 7, 2) := by decide +kernel
theorem d36_29 : decode method_2_code 29 = .ok (.iload_n 3, 1) := by decide +kernel
theorem d36_30 : decode method_2_code 30 = .ok (.if_icmp .ge 20, 3) := by decide +kernel
theorem d36_33 : decode method_2_code 33 = .ok (.iload 7, 2) := by decide +kernel
theorem d36_35 : decode method_2_code 35 = .ok (.ifCond .ne 8, 3) := by decide +kernel
theorem d36_38 : decode method_2_code 38 = .ok (.iload 4, 2) := by decide +kernel
theorem d36_40 : decode method_2_code 40 = .ok (.goto 5, 3) := by decide +kernel
theorem d36_43 : decode method_2_code 43 = .ok (.iload 5, 2) := by decide +kernel
theorem d36_45 : decode method_2_code 45 = .ok (.istore 6, 2) := by decide +kernel
theorem d36_47 : decode method_2_code 47 = .ok (.goto 7, 3) := by decide +kernel
theorem d36_50 : decode method_2_code 50 = .ok (.bipush 10, 2) := by decide +kernel
theorem d36_52 : decode method_2_code 52 = .ok (.istore 6, 2) := by decide +kernel
theorem d36_54 : decode method_2_code 54 = .ok (.aload_n 0, 1) := by decide +kernel
theorem d36_55 : decode method_2_code 55 = .ok (.iload_n 1, 1) := by decide +kernel
theorem d36_56 : decode method_2_code 56 = .ok (.invokevirtual 13, 3) := by decide +kernel
theorem d36_59 : decode method_2_code 59 = .ok (.iload 6, 2) := by decide +kernel
theorem d36_61 : decode method_2_code 61 = .ok (.if_icmp .ne 7, 3) := by decide +kernel
theorem d36_64 : decode method_2_code 64 = .ok (.iconst 1, 1) := by decide +kernel
theorem d36_65 : decode method_2_code 65 = .ok (.goto 4, 3) := by decide +kernel
theorem d36_69 : decode method_2_code 69 = .ok (.ireturn, 1) := by decide +kernel
theorem d37_0 : decode jdk_42_method_56_code 0 = .ok (.aload_n 0, 1) := by decide +kernel
theorem d37_1 : decode jdk_42_method_56_code 1 = .ok (.invokevirtual 492, 3) := by decide +kernel
theorem d37_4 : decode jdk_42_method_56_code 4 = .ok (.ifCond .eq 12, 3) := by decide +kernel
theorem d37_7 : decode jdk_42_method_56_code 7 = .ok (.aload_n 0, 1) := by decide +kernel
theorem d37_8 : decode jdk_42_method_56_code 8 = .ok (.getfield 9, 3) := by decide +kernel
theorem d37_11 : decode jdk_42_method_56_code 11 = .ok (.iload_n 1, 1) := by decide +kernel
theorem d37_12 : decode jdk_42_method_56_code 12 = .ok (.invokestatic 495, 3) := by decide +kernel
theorem d37_15 : decode jdk_42_method_56_code 15 = .ok (.ireturn, 1) := by decide +kernel
theorem d38_0 : decode jdk_42_method_154_code 0 = .ok (.getstatic 38, 3) := by decide +kernel
theorem d38_3 : decode jdk_42_method_154_code 3 = .ok (.ifCond .eq 14, 3) := by decide +kernel
theorem d38_6 : decode jdk_42_method_154_code 6 = .ok (.aload_n 0, 1) := by decide +kernel
theorem d38_7 : decode jdk_42_method_154_code 7 = .ok (.getfield 15, 3) := by decide +kernel
theorem d38_10 : decode jdk_42_method_154_code 10 = .ok (.ifCond .ne 7, 3) := by decide +kernel
theorem d38_13 : decode jdk_42_method_154_code 13 = .ok (.iconst 1, 1) := by decide +kernel
theorem d38_14 : decode jdk_42_method_154_code 14 = .ok (.goto 4, 3) := by decide +kernel
theorem d38_18 : decode jdk_42_method_154_code 18 = .ok (.ireturn, 1) := by decide +kernel
theorem d39_0 : decode jdk_43_method_2_code 0 = .ok (.iload_n 1, 1) := by decide +kernel
theorem d39_1 : decode jdk_43_method_2_code 1 = .ok (.aload_n 0, 1) := by decide +kernel
theorem d39_2 : decode jdk_43_method_2_code 2 = .ok (.arraylength, 1) := by decide +kernel
theorem d39_3 : decode jdk_43_method_2_code 3 = .ok (.invokestatic 9, 3) := by decide +kernel
theorem d39_6 : decode jdk_43_method_2_code 6 = .ok (.aload_n 0, 1) := by decide +kernel
theorem d39_7 : decode jdk_43_method_2_code 7 = .ok (.iload_n 1, 1) := by decide +kernel
theorem d39_8 : decode jdk_43_method_2_code 8 = .ok (.baload, 1) := by decide +kernel
theorem d39_9 : decode jdk_43_method_2_code 9 = .ok (.sipush 255, 3) := by decide +kernel
theorem d39_12 : decode jdk_43_method_2_code 12 = .ok (.iand, 1) := by decide +kernel
theorem d39_13 : decode jdk_43_method_2_code 13 = .ok (.i2c, 1) := by decide +kernel
theorem d39_14 : decode jdk_43_method_2_code 14 = .ok (.ireturn, 1) := by decide +kernel
theorem d40_0 : decode jdk_42_method_155_code 0 = .ok (.iload_n 0, 1) := by decide +kernel
theorem d40_1 : decode jdk_42_method_155_code 1 = .ok (.iload_n 1, 1) := by decide +kernel
theorem d40_2 : decode jdk_42_method_155_code 2 = .ok (.getstatic 1053, 3) := by decide +kernel
theorem d40_5 : decode jdk_42_method_155_code 5 = .ok (.invokestatic 1059, 3) := by decide +kernel
theorem d40_8 : decode jdk_42_method_155_code 8 = .ok (.pop, 1) := by decide +kernel
theorem d40_9 : decode jdk_42_method_155_code 9 = .ok (.return_, 1) := by decide +kernel
theorem d41_0 : decode jdk_41_method_11_code 0 = .ok (.iload_n 0, 1) := by decide +kernel
theorem d41_1 : decode jdk_41_method_11_code 1 = .ok (.ifCond .lt 8, 3) := by decide +kernel
theorem d41_4 : decode jdk_41_method_11_code 4 = .ok (.iload_n 0, 1) := by decide +kernel
theorem d41_5 : decode jdk_41_method_11_code 5 = .ok (.iload_n 1, 1) := by decide +kernel
theorem d41_6 : decode jdk_41_method_11_code 6 = .ok (.if_icmp .lt 10, 3) := by decide +kernel
theorem d41_16 : decode jdk_41_method_11_code 16 = .ok (.iload_n 0, 1) := by decide +kernel
theorem d41_17 : decode jdk_41_method_11_code 17 = .ok (.ireturn, 1) := by decide +kernel
theorem d42_0 : decode prog_51_method_5_code 0 = .ok (.aload_n 0, 1) := by decide +kernel
theorem d42_1 : decode prog_51_method_5_code 1 = .ok (.dup, 1) := by decide +kernel
theorem d42_2 : decode prog_51_method_5_code 2 = .ok (.getfield 24, 3) := by decide +kernel
theorem d42_5 : decode prog_51_method_5_code 5 = .ok (.iconst 1, 1) := by decide +kernel
theorem d42_6 : decode prog_51_method_5_code 6 = .ok (.iadd, 1) := by decide +kernel
theorem d42_7 : decode prog_51_method_5_code 7 = .ok (.putfield 24, 3) := by decide +kernel
theorem d42_10 : decode prog_51_method_5_code 10 = .ok (.aload_n 0, 1) := by decide +kernel
theorem d42_11 : decode prog_51_method_5_code 11 = .ok (.areturn, 1) := by decide +kernel
theorem d43_0 : decode prog_51_method_6_code 0 = .ok (.aload_n 0, 1) := by decide +kernel
theorem d43_1 : decode prog_51_method_6_code 1 = .ok (.dup, 1) := by decide +kernel
theorem d43_2 : decode prog_51_method_6_code 2 = .ok (.getfield 24, 3) := by decide +kernel
theorem d43_5 : decode prog_51_method_6_code 5 = .ok (.iconst 1, 1) := by decide +kernel
theorem d43_6 : decode prog_51_method_6_code 6 = .ok (.isub, 1) := by decide +kernel
theorem d43_7 : decode prog_51_method_6_code 7 = .ok (.putfield 24, 3) := by decide +kernel
theorem d43_10 : decode prog_51_method_6_code 10 = .ok (.aload_n 0, 1) := by decide +kernel
theorem d43_11 : decode prog_51_method_6_code 11 = .ok (.areturn, 1) := by decide +kernel
theorem d44_0 : decode jdk_42_method_146_code 0 = .ok (.iload_n 3, 1) := by decide +kernel
theorem d44_1 : decode jdk_42_method_146_code 1 = .ok (.iload_n 2, 1) := by decide +kernel
theorem d44_2 : decode jdk_42_method_146_code 2 = .ok (.iload_n 3, 1) := by decide +kernel
theorem d44_3 : decode jdk_42_method_146_code 3 = .ok (.isub, 1) := by decide +kernel
theorem d44_4 : decode jdk_42_method_146_code 4 = .ok (.if_icmp .ge 20, 3) := by decide +kernel
theorem d44_7 : decode jdk_42_method_146_code 7 = .ok (.aload_n 0, 1) := by decide +kernel
theorem d44_8 : decode jdk_42_method_146_code 8 = .ok (.iload_n 1, 1) := by decide +kernel
theorem d44_9 : decode jdk_42_method_146_code 9 = .ok (.aload_n 0, 1) := by decide +kernel
theorem d44_10 : decode jdk_42_method_146_code 10 = .ok (.iload_n 1, 1) := by decide +kernel
theorem d44_11 : decode jdk_42_method_146_code 11 = .ok (.iload_n 3, 1) := by decide +kernel
theorem d44_12 : decode jdk_42_method_146_code 12 = .ok (.iadd, 1) := by decide +kernel
theorem d44_13 : decode jdk_42_method_146_code 13 = .ok (.iload_n 3, 1) := by decide +kernel
theorem d44_14 : decode jdk_42_method_146_code 14 = .ok (.invokestatic 212, 3) := by decide +kernel
theorem d44_17 : decode jdk_42_method_146_code 17 = .ok (.iload_n 3, 1) := by decide +kernel
theorem d44_18 : decode jdk_42_method_146_code 18 = .ok (.iconst 1, 1) := by decide +kernel
theorem d44_19 : decode jdk_42_method_146_code 19 = .ok (.ishl, 1) := by decide +kernel
theorem d44_20 : decode jdk_42_method_146_code 20 = .ok (.istore_n 3, 1) := by decide +kernel
theorem d44_21 : decode jdk_42_method_146_code 21 = .ok (.goto (-21), 3) := by decide +kernel
theorem d44_24 : decode jdk_42_method_146_code 24 = .ok (.aload_n 0, 1) := by decide +kernel
theorem d44_25 : decode jdk_42_method_146_code 25 = .ok (.iload_n 1, 1) := by decide +kernel
theorem d44_26 : decode jdk_42_method_146_code 26 = .ok (.aload_n 0, 1) := by decide +kernel
theorem d44_27 : decode jdk_42_method_146_code 27 = .ok (.iload_n 1, 1) := by decide +kernel
theorem d44_28 : decode jdk_42_method_146_code 28 = .ok (.iload_n 3, 1) := by decide +kernel
theorem d44_29 : decode jdk_42_method_146_code 29 = .ok (.iadd, 1) := by decide +kernel
theorem d44_30 : decode jdk_42_method_146_code 30 = .ok (.iload_n 2, 1) := by decide +kernel
theorem d44_31 : decode jdk_42_method_146_code 31 = .ok (.iload_n 3, 1) := by decide +kernel
theorem d44_32 : decode jdk_42_method_146_code 32 = .ok (.isub, 1) := by decide +kernel
theorem d44_33 : decode jdk_42_method_146_code 33 = .ok (.invokestatic 212, 3) := by decide +kernel
theorem d44_36 : decode jdk_42_method_146_code 36 = .ok (.return_, 1) := by decide +kernel
theorem d45_0 : decode jdk_42_method_151_code 0 = .ok (.aload_n 0, 1) := by decide +kernel
theorem d45_1 : decode jdk_42_method_151_code 1 = .ok (.invokespecial 1, 3) := by decide +kernel
theorem d45_4 : decode jdk_42_method_151_code 4 = .ok (.aload_n 0, 1) := by decide +kernel
theorem d45_5 : decode jdk_42_method_151_code 5 = .ok (.aload_n 1, 1) := by decide +kernel
theorem d45_6 : decode jdk_42_method_151_code 6 = .ok (.putfield 9, 3) := by decide +kernel
theorem d45_9 : decode jdk_42_method_151_code 9 = .ok (.aload_n 0, 1) := by decide +kernel
theorem d45_10 : decode jdk_42_method_151_code 10 = .ok (.iload_n 2, 1) := by decide +kernel
theorem d45_11 : decode jdk_42_method_151_code 11 = .ok (.putfield 15, 3) := by decide +kernel
theorem d45_14 : decode jdk_42_method_151_code 14 = .ok (.return_, 1) := by decide +kernel
theorem pn_0 : plainName "java/lang/String" = true := by first | (simp [plainName, overriddenIn]; done) | decide +kernel
theorem pn_1 : plainName "java/lang/AbstractStringBuilder" = true := by first | (simp [plainName, overriddenIn]; done) | decide +kernel
theorem pn_2 : plainName "java/lang/StringBuilder" = true := by first | (simp [plainName, overriddenIn]; done) | decide +kernel
theorem pn_3 : plainName "com/example/tetrad/tetrad/generate/SourceText" = true := by first | (simp [plainName, overriddenIn]; done) | decide +kernel
theorem pn_4 : plainName "java/lang/StringLatin1" = true := by first | (simp [plainName, overriddenIn]; done) | decide +kernel
theorem pn_5 : plainName "java/util/Arrays" = true := by first | (simp [plainName, overriddenIn]; done) | decide +kernel
theorem pn_6 : plainName "jdk/internal/util/Preconditions" = true := by first | (simp [plainName, overriddenIn]; done) | decide +kernel
theorem pn_7 : plainName "com/example/tetrad/tetrad/generate/SourceTextIndentPinLaw" = true := by first | (simp [plainName, overriddenIn]; done) | decide +kernel
theorem pd_0 : parseMethodDescriptor "()B" = some ⟨[], some .byte⟩ := by decide +kernel
theorem pd_1 : parseMethodDescriptor "()I" = some ⟨[], some .int⟩ := by decide +kernel
theorem pd_2 : parseMethodDescriptor "(I)V" = some ⟨[.int], none⟩ := by decide +kernel
theorem pd_3 : parseMethodDescriptor "()V" = some ⟨[], none⟩ := by decide +kernel
theorem pd_4 : parseMethodDescriptor "(Ljava/lang/String;)V" = some ⟨[(.object "java/lang/String")], none⟩ := by decide +kernel
theorem pd_5 : parseMethodDescriptor "([BIB)V" = some ⟨[(.array .byte), .int, .byte], none⟩ := by decide +kernel
theorem pd_6 : parseMethodDescriptor "(ILjava/lang/String;)V" = some ⟨[.int, (.object "java/lang/String")], none⟩ := by decide +kernel
theorem pd_7 : parseMethodDescriptor "(Ljava/lang/String;)Ljava/lang/AbstractStringBuilder;" = some ⟨[(.object "java/lang/String")], some (.object "java/lang/AbstractStringBuilder")⟩ := by decide +kernel
theorem pd_8 : parseMethodDescriptor "()Z" = some ⟨[], some .boolean⟩ := by decide +kernel
theorem pd_9 : parseMethodDescriptor "(C)Z" = some ⟨[.char], some .boolean⟩ := by decide +kernel
theorem pd_10 : parseMethodDescriptor "(C)Ljava/lang/AbstractStringBuilder;" = some ⟨[.char], some (.object "java/lang/AbstractStringBuilder")⟩ := by decide +kernel
theorem pd_11 : parseMethodDescriptor "(II)V" = some ⟨[.int, .int], none⟩ := by decide +kernel
theorem pd_12 : parseMethodDescriptor "(II)I" = some ⟨[.int, .int], some .int⟩ := by decide +kernel
theorem pd_13 : parseMethodDescriptor "([BII)[B" = some ⟨[(.array .byte), .int, .int], some (.array .byte)⟩ := by decide +kernel
theorem pd_14 : parseMethodDescriptor "()[B" = some ⟨[], some (.array .byte)⟩ := by decide +kernel
theorem pd_15 : parseMethodDescriptor "(Ljava/lang/AbstractStringBuilder;Ljava/lang/Void;)V" = some ⟨[(.object "java/lang/AbstractStringBuilder"), (.object "java/lang/Void")], none⟩ := by decide +kernel
theorem pd_16 : parseMethodDescriptor "(Ljava/lang/StringBuilder;)V" = some ⟨[(.object "java/lang/StringBuilder")], none⟩ := by decide +kernel
theorem pd_17 : parseMethodDescriptor "()Ljava/lang/String;" = some ⟨[], some (.object "java/lang/String")⟩ := by decide +kernel
theorem pd_18 : parseMethodDescriptor "([BIII)V" = some ⟨[(.array .byte), .int, .int, .int], none⟩ := by decide +kernel
theorem pd_19 : parseMethodDescriptor "([BB)V" = some ⟨[(.array .byte), .byte], none⟩ := by decide +kernel
theorem pd_20 : parseMethodDescriptor "(I)Ljava/lang/String;" = some ⟨[.int], some (.object "java/lang/String")⟩ := by decide +kernel
theorem pd_21 : parseMethodDescriptor "(Ljava/lang/String;)Ljava/lang/StringBuilder;" = some ⟨[(.object "java/lang/String")], some (.object "java/lang/StringBuilder")⟩ := by decide +kernel
theorem pd_22 : parseMethodDescriptor "(C)Ljava/lang/StringBuilder;" = some ⟨[.char], some (.object "java/lang/StringBuilder")⟩ := by decide +kernel
theorem pd_23 : parseMethodDescriptor "(IILjava/util/function/BiFunction;)I" = some ⟨[.int, .int, (.object "java/util/function/BiFunction")], some .int⟩ := by decide +kernel
theorem pd_24 : parseMethodDescriptor "([BI)C" = some ⟨[(.array .byte), .int], some .char⟩ := by decide +kernel
theorem pd_25 : parseMethodDescriptor "(I)C" = some ⟨[.int], some .char⟩ := by decide +kernel
theorem pd_26 : parseMethodDescriptor "()Lcom/example/tetrad/tetrad/generate/SourceText;" = some ⟨[], some (.object "com/example/tetrad/tetrad/generate/SourceText")⟩ := by decide +kernel
theorem pd_27 : parseMethodDescriptor "(Ljava/lang/String;)Lcom/example/tetrad/tetrad/generate/SourceText;" = some ⟨[(.object "java/lang/String")], some (.object "com/example/tetrad/tetrad/generate/SourceText")⟩ := by decide +kernel
theorem pd_28 : parseMethodDescriptor "([C)V" = some ⟨[(.array .char)], none⟩ := by decide +kernel
theorem pd_29 : parseMethodDescriptor "(Ljava/lang/String;IIICC)Z" = some ⟨[(.object "java/lang/String"), .int, .int, .int, .char, .char], some .boolean⟩ := by decide +kernel
theorem own_rwh {T : State} {h : Heap} {a : Addr} {c : Cell} (e : T.heap = h) (q : h[a]? = some c) : T.heap[a]? = some c := e ▸ q
theorem own_osz {Z : State} {n0 : Nat} {h : Heap} (O : Old Z n0 h) : n0 ≤ h.size := O.1 ▸ O.2.1

def Lat (cs : List Int32) : Prop := (∀ c ∈ cs, ¬ c < 0 ∧ ¬ (255 : Int32) < c) ∧ cs.length ≤ 4000
theorem own_up {cs : List Int32} (h : Lat cs) : ∀ c ∈ cs, ¬ c < 0 ∧ ¬ (65535 : Int32) < c := fun c hc => ⟨(h.1 c hc).1, fun q => (h.1 c hc).2 (by rw [Int32.lt_iff_toInt_lt] at q ⊢; have e1 : (65535 : Int32).toInt = 65535 := rfl; have e2 : (255 : Int32).toInt = 255 := rfl; omega)⟩
theorem own_cod {cs : List Int32} (h : Lat cs) : StrChars.Road.CodA cs 0 (Int32.ofNat cs.length) ((cs.map StrChars.lo8).map Value.int) := StrChars.Road.codOf rfl (fun c hc => (h.1 c hc).2)
abbrev strV (cs : List Int32) : List Value := (cs.map StrChars.lo8).map Value.int
theorem own_lat0 : Lat [] := ⟨fun c hc => (nomatch hc), by decide⟩
theorem own_latC {c : Int32} {cs : List Int32} (h1 : ¬ c < 0 ∧ ¬ (255 : Int32) < c) (h : Lat cs) (hl : cs.length < 4000) : Lat (c :: cs) := ⟨fun d hd => by
  rcases List.mem_cons.mp hd with rfl | q
  · exact h1
  · exact h.1 d q, by simp only [List.length_cons]; omega⟩
theorem own_latD {cs : List Int32} (h1 : ∀ c ∈ cs, ¬ c < 0 ∧ ¬ (255 : Int32) < c) (h2 : cs.length ≤ 4000) : Lat cs := ⟨h1, h2⟩
theorem own_range {x : Int32} (h1 : 0 ≤ x.toInt) (h2 : x.toInt ≤ 255) : ¬ x < 0 ∧ ¬ (255 : Int32) < x := by
  have e0 : (0 : Int32).toInt = 0 := rfl
  have e2 : (255 : Int32).toInt = 255 := rfl
  constructor <;> rw [Int32.lt_iff_toInt_lt] <;> omega


theorem own_safe0 {Z : State} {vm : Vm} {h : Heap} {x : Addr} : Safe Z [] vm h x := fun B => by obtain ⟨p, hp, -⟩ := B; cases hp
theorem own_safearr {Z : State} {EL : List (String × Nat)} {vm : Vm} {h : Heap} {a : Addr} {k : ClassId} {ty : FieldType} {z : Int32} {vs : List Value} {d : Value} (hal : Z.vm.Alike vm) (V : Arv Z h a k ty z vs d) (ht : ty ≠ .byte) : Safe Z EL vm h a := by
  obtain ⟨c, A, -⟩ := V
  exact Safe.arr hal A ht

def own_EL : List (String × Nat) := [("com/example/tetrad/tetrad/generate/SourceText", 22), ("com/example/tetrad/tetrad/generate/SourceTextIndentPinLaw", 17), ("java/lang/String", 7)]
theorem own_EW {Z : State} {a0 : Array Value} (hw : ∀ d ∈ tables_1, d.before a0 Z = true) : EW Z a0 own_EL := (EW.cons (hw _ (List.mem_of_getElem? (i := 67) rfl)) (by decide) (EW.cons (hw _ (List.mem_of_getElem? (i := 215) rfl)) (by decide) (EW.cons (hw _ (List.mem_of_getElem? (i := 77) rfl)) (by decide) EW.nil)))
theorem own_SA {Z : State} {a0 : Array Value} (hw : ∀ d ∈ tables_1, d.before a0 Z = true) : ∀ a ∈ Bundle.stringAtoms, a.before a0 Z = true := fun d hd => hw d ((by decide +kernel : ∀ d ∈ Bundle.stringAtoms, d ∈ tables_1) d hd)
theorem own_mem {p : String × Nat} (h : p ∈ own_EL) : p ∈ own_EL := h
theorem own_wn {Z : State} {a0 : Array Value} (hw : ∀ d ∈ tables_1, d.before a0 Z = true) : ∀ d ∈ StrChars.Road.words, d.before a0 Z = true := fun d hd => hw d ((by decide +kernel : ∀ d ∈ StrChars.Road.words, d ∈ tables_1) d hd)
section
variable {p : Program} {l : Launch} {e : Env} {R : Room} {s : State} {m : MethodId} {args : Array Value} {below : List Frame} {Z : State} {a0 : Array Value} {EL : List (String × Nat)} {h : Heap} {vm0 : Vm} {b : Addr}
theorem own_backSH {y : MethodName} {bytes : ByteArray} {maxL : Nat} {ret : Option FieldType} {rm : Room} {len W : Nat} {as' : Array Value} {Q : Option Value → Heap → List Loc → Prop}
    (hM : MetFree l y (head1 [Cond.code y bytes maxL ret] rm) (fun a U => a = as' ∧ Z.Warmed39 U.vm ∧ U.heap = h ∧ CHv Z EL U.vm h ∧ Safe Z EL U.vm h b) (fun _ _ _ _ _ => True) (fun _ U o U' => ∃ v L, o = .returned v ∧ Q v U'.heap L ∧ CHr Z EL U.vm U.heap U'.vm U'.heap ∧ ReturnedEndW U o U' L rm.cells rm.slots))
    (hZ : Z.Warmed39 vm0) (wc : (Cond.code y bytes maxL ret).before a0 Z = true) (wz : (Cond.initialized y.cls).before a0 Z = true) (hf : rm.frames + 1 ≤ R.frames) (hl : W + (maxL + 11) + rm.locals ≤ R.locals) (hEL : EW Z a0 EL) (H : CHv Z EL vm0 h) (hb : b < h.size) (hS : Safe Z EL vm0 h b) :
    BackS l R p e below (s.setVm vm0) args y len W (fun A a => a = as' ∧ A.U.heap = h ∧ A.cells + rm.cells ≤ R.cells ∧ A.slots + rm.slots ≤ R.slots)
      (fun A _ v B => ∃ L, Q v B.U.heap L ∧ B.locs = A.locs ++ L ∧ B.cells = A.cells + rm.cells ∧ B.slots = A.slots + rm.slots ∧ CHr Z EL vm0 h B.U.vm B.U.heap) :=
  BackS.of_freeW (bytes := bytes) (maxL := maxL) (ret := ret) (E := fun _ first o t L k n => k = rm.cells ∧ n = rm.slots ∧ (∃ v, o = .returned v ∧ Q v t.heap L) ∧ CHr Z EL first.vm first.heap t.vm t.heap) hM hf hl
    (fun m meth c A a Y hp => have hU : Z.Warmed39 A.U.vm := wtrans (s := s.setVm vm0) hZ Y.warmed
      ⟨by show (Cond.and _ .tt).before a A.U = true; rw [Cond.before_and, mv hU wc]; rfl, mv hU wc, mv hU wz, hp.2.2.1, hp.2.2.2⟩)
    (fun m meth c A a g mk Y hp => ⟨hp.1, wtrans (s := s.setVm vm0) hZ Y.warmed, hp.2.1, (CHv.at Y hZ hEL H).1, (CHv.at Y hZ hEL H).safe hb hS⟩) (fun _ _ _ _ _ _ _ _ _ => trivial)
    (fun _ _ _ _ ⟨v, L, h1, h2, h3, h4⟩ => ⟨L, _, _, h4, rfl, rfl, ⟨v, h1, h2⟩, h3⟩)
    (fun m meth c A a g mk v t L k n Y hp _ _ ⟨e1, e2, ⟨v', e3, e4⟩, e5⟩ => by
      cases e3; subst e1 e2
      refine ⟨L, e4, rfl, rfl, rfl, (CHv.at Y hZ hEL H).trans ?_⟩
      rw [← hp.2.1]; exact e5)
end
theorem own_same {s : State} {args : Array Value} {K : String} {y y2 : MethodName} (h2 : (Cond.selects K y2 y2).before args s = true) (e : y2.cls = y.cls) (hinst : (Cond.instanceMethod y).before args s = true) (hy : y.cls ≠ "java/lang/invoke/MethodHandle" ∧ y.cls ≠ "java/lang/invoke/VarHandle") : (Cond.sameMethod y.cls y.cls y.name y.desc).before args s = true := by
  obtain ⟨c, r, m, -, -, h3, -, mk, h5, h6⟩ := Cond.selects_spec h2
  obtain ⟨mm, methM, hnamed, hmethM, -, -⟩ := Cond.instanceMethod_spec hinst
  have hfound : s.methodFound? y.cls y.name y.desc = some mm := State.methodFound?_of_named hnamed hy
  have hc := findClass_of_methodNamed hnamed
  have hc2 := findClass_of_methodNamed h3
  rw [e] at hc2
  have hcls : mm.cls = m.cls := Option.some.inj (hc.symm.trans hc2)
  have hn' : s.methodNamed? ⟨y.cls, y.name, y.desc⟩ = some mm := hnamed
  simp only [Cond.before, Cond.holds, Cond.value, hc, hfound, hn', hcls, h5]
  simp [h6]
theorem own_nface {args : Array Value} {s : State} {K : String} {y y2 : MethodName} (h : (Cond.selects K y2 y2).before args s = true) (e : y2.cls = y.cls) : NotFace s y := fun r0 h0 => by
  obtain ⟨c2, r2, m2, q1, q2, q3, q4, kP, hkP, hkPi⟩ := Cond.selects_spec h
  have h1 := findClass_of_methodNamed h0
  have h2 := findClass_of_methodNamed q3
  rw [e] at h2
  have : r0.cls = m2.cls := Option.some.inj (h1.symm.trans h2)
  exact ⟨kP, by rw [this]; exact hkP, hkPi⟩
theorem own_selp {s : State} {args : Array Value} {K : String} {y y2 : MethodName} (h2 : (Cond.selects K y2 y2).before args s = true) (e : y2.cls = y.cls) (hpriv : s.PrivateAt y) (hinst : (Cond.instanceMethod y).before args s = true) (hy : y.cls ≠ "java/lang/invoke/MethodHandle" ∧ y.cls ≠ "java/lang/invoke/VarHandle") : (Cond.selects y.cls y y).before args s = true := by
  obtain ⟨c, r, m, h1, -, h3, -, mk, h5, h6⟩ := Cond.selects_spec h2
  exact Jvm.Stand.selects_self_of_private (by rw [← e]; exact findClass_of_methodNamed h3) h5 h6 hpriv hinst hy

def Sm (x : Int32) (n : Nat) : Prop := x.toInt = (n : Int) ∧ n ≤ 1000
theorem Sm.lit {x : Int32} {n : Nat} (h : x.toInt = (n : Int) ∧ n ≤ 1000) : Sm x n := h
theorem Sm.nn {x : Int32} {n : Nat} (h : Sm x n) : ¬ x < (0 : Int32) := by
  have e0 : (0 : Int32).toInt = 0 := rfl
  rw [Int32.lt_iff_toInt_lt, h.1]; omega
theorem Sm.nat {x : Int32} {n : Nat} (h : Sm x n) : x.toNatClampNeg = n := by
  simp only [Int32.toNatClampNeg, h.1]; omega
theorem Sm.le48 {x : Int32} {n : Nat} (h : Sm x n) (q : n ≤ 48) : x.toNatClampNeg ≤ 48 := by rw [h.nat]; exact q
theorem Sm.add {x y : Int32} {n m : Nat} (a : Sm x n) (b : Sm y m) (h : n + m ≤ 1000) : Sm (x + y) (n + m) := by
  have a1 := a.1; have b1 := b.1
  refine ⟨?_, h⟩
  rw [Jvm.Kit.i32_add (by omega) (by omega), a1, b1]; omega
theorem Sm.mul {x y : Int32} {n m : Nat} (a : Sm x n) (b : Sm y m) (hn : n ≤ 4) (hm : m ≤ 4) : Sm (x * y) (n * m) := by
  have a1 := a.1; have b1 := b.1
  have k : n * m ≤ 4 * 4 := Nat.mul_le_mul hn hm
  have e : x.toInt * y.toInt = ((n * m : Nat) : Int) := by rw [a1, b1]; simp
  refine ⟨?_, by omega⟩
  rw [Jvm.Kit.i32_mul (by rw [e]; omega) (by rw [e]; omega), e]
theorem Sm.big {x : Int32} {n : Nat} (h : Sm x n) : ¬ (2147483639 : Int32) < x := by
  have e0 : (2147483639 : Int32).toInt = 2147483639 := rfl
  have := h.1; have := h.2
  rw [Int32.lt_iff_toInt_lt]; omega
theorem Sm.ne1 {x : Int32} {n : Nat} (h : Sm x n) : ¬ x = (-1 : Int32) := fun e => by
  have e0 : (-1 : Int32).toInt = -1 := rfl
  have := h.1; rw [e, e0] at this; omega
theorem Sm.inj {x y : Int32} {n m : Nat} (a : Sm x n) (b : Sm y m) : x = y ↔ n = m := by
  have a1 := a.1; have b1 := b.1
  rw [← Int32.toInt_inj]; omega
theorem own_smne {x y : Int32} {n m : Nat} (a : Sm x n) (b : Sm y m) (h : n ≠ m) : ¬ x = y := fun e => h ((a.inj b).mp e)
theorem own_inb {c : Cell} {z j : Int32} {zn jn : Nat} (S : c.slots.size = z.toNatClampNeg) (sj : Sm j jn) (sz : Sm z zn) (h : jn < zn) : ¬ (j < 0 ∨ c.slots.size ≤ j.toNatClampNeg) := by
  rw [S, sj.nat, sz.nat]; intro q
  rcases q with q | q
  · exact sj.nn q
  · omega


abbrev z16 : List Value := [] ++ List.replicate 16 (.int (0 : Int32))
def cpy (vs : List Value) (n : Nat) (us : List Value) (sp m : Nat) : List Value := vs.take n ++ (List.range m).map (fun i => us.getD (sp + i) (.int (0 : Int32))) ++ vs.drop (n + m)
theorem own_cpy {Z : State} {h : Heap} {b : Addr} {k : ClassId} {z sp dp m : Int32} {spn dpn mn : Nat} {vs us : List Value} (hs : Sm sp spn) (hd : Sm dp dpn) (hm : Sm m mn) (V : Arv Z h b k .byte z (vs.take dp.toNatClampNeg ++ (List.range m.toNatClampNeg).map (fun i => us.getD (sp.toNatClampNeg + i) (.int (0 : Int32))) ++ vs.drop (dp.toNatClampNeg + m.toNatClampNeg)) (.int (0 : Int32))) : Arv Z h b k .byte z (cpy vs dpn us spn mn) (.int (0 : Int32)) := by
  rw [hs.nat, hd.nat, hm.nat] at V; exact V
theorem own_capn {x : Int32} {n c : Nat} (h : Sm x n) (q : n ≤ c) : x.toNatClampNeg ≤ c := by rw [h.nat]; exact q
theorem own_le3 {a b c : Int32} {x y z : Nat} (ha : Sm a x) (hb : Sm b y) (hc : Sm c z) (h : x + y ≤ z) : a.toNatClampNeg + b.toNatClampNeg ≤ c.toNatClampNeg := by rw [ha.nat, hb.nat, hc.nat]; exact h
theorem own_le2 {a b : Int32} {x y n : Nat} (ha : Sm a x) (hb : Sm b y) (h : x + y ≤ n) : a.toNatClampNeg + b.toNatClampNeg ≤ n := by rw [ha.nat, hb.nat]; exact h
theorem own_cpyl {vs us : List Value} {n sp m : Nat} (h : vs.length = 16) (q : n + m ≤ 16) : (cpy vs n us sp m).length = 16 := by simp [cpy, h]; omega
theorem own_z0 (m : Nat) : 0 + m ≤ m := by omega
theorem own_sh0 (x : Int32) : x >>> ((0 : Int32) &&& 31) = x := by
  have : ((0 : Int32) &&& 31) = 0 := by decide
  rw [this]; simp
theorem own_sl0 (x : Int32) : x <<< ((0 : Int32) &&& 31) = x := by
  have : ((0 : Int32) &&& 31) = 0 := by decide
  rw [this]; simp
theorem own_smsl {x : Int32} {n : Nat} (h : Sm x n) : Sm (x <<< ((0 : Int32) &&& 31)) n := by rw [own_sl0]; exact h
theorem own_ens {p : Int32} {n : Nat} (h : Sm p n) (q : n ≤ 16) : ¬ (0 : Int32) < (p - ((16 : Int32) >>> ((0 : Int32) &&& 31))) := by
  have e : ((16 : Int32) >>> ((0 : Int32) &&& 31)) = 16 := by decide
  have e16 : (16 : Int32).toInt = 16 := rfl
  have e0 : (0 : Int32).toInt = 0 := rfl
  have h1 := h.1
  rw [e, Int32.lt_iff_toInt_lt, Jvm.Kit.i32_sub (by omega) (by omega)]; omega
theorem own_sub0 (x : Int32) : (x - (0 : Int32)) = x := by simp
theorem own_n16 {x : Int32} {n : Nat} (h : Sm x n) (q : n < 16) : ¬ x = (16 : Int32) := fun e => by
  have := h.1; have e16 : (16 : Int32).toInt = 16 := rfl
  rw [e, e16] at this; omega
theorem own_min16 {x r : Int32} {n : Nat} (hr : r = (if x < ((16 : Int32) - (0 : Int32)) then x else ((16 : Int32) - (0 : Int32)))) (h : Sm x n) (q : n < 16) : Sm r n := by
  have e : ((16 : Int32) - (0 : Int32)) = 16 := by decide
  have e16 : (16 : Int32).toInt = 16 := rfl
  have h1 := h.1
  rw [hr, e, if_pos (by rw [Int32.lt_iff_toInt_lt]; omega)]; exact h
abbrev s4 : List Value := [.int (32 : Int32), .int (32 : Int32), .int (32 : Int32), .int (32 : Int32)]
theorem own_fi {Z : State} {h : Heap} {a : Addr} {C f d : String} {x y : Int32} (e : x = y) (F : Fld Z h a C f d (.int x)) : Fld Z h a C f d (.int y) := e ▸ F
theorem own_smlt {a b : Int32} {x y : Nat} (ha : Sm a x) (hb : Sm b y) (h : x < y) : a < b := by
  have h1 := ha.1; have h2 := hb.1
  rw [Int32.lt_iff_toInt_lt]; omega

theorem own_un (z : Int32) : z.toInt = ((z.toUInt32.toNat : Nat) : Int).bmod (2 ^ 32) := BitVec.toInt_eq_toNat_bmod z.toBitVec
theorem own_ush {p k : Int32} {n : Nat} (hk : (k &&& 31).toUInt32.toNat % 32 = n) (hn : 1 ≤ n) : ((p.toUInt32 >>> (k &&& 31).toUInt32).toInt32).toInt = ((p.toUInt32.toNat / 2 ^ n : Nat) : Int) := by
  have h2 := own_un ((p.toUInt32 >>> (k &&& 31).toUInt32).toInt32)
  have e : ((p.toUInt32 >>> (k &&& 31).toUInt32).toInt32).toUInt32.toNat = p.toUInt32.toNat / 2 ^ n := by
    show (p.toUInt32 >>> (k &&& 31).toUInt32).toNat = _
    rw [UInt32.toNat_shiftRight, hk, Nat.shiftRight_eq_div_pow]
  have l := p.toUInt32.toNat_lt
  have d : p.toUInt32.toNat / 2 ^ n ≤ p.toUInt32.toNat / 2 := Nat.div_le_div_left (Nat.le_trans (by decide : 2 ≤ 2 ^ 1) (Nat.pow_le_pow_right (by decide) hn)) (by decide)
  rw [e] at h2
  rw [Int.bmod_def] at h2
  split at h2 <;> omega


theorem own_ch256 {x : Int32} (h : ¬ x < 0 ∧ ¬ (255 : Int32) < x) : ∃ k : Fin 256, x = Int32.ofNat k.val := by
  have e0 : (0 : Int32).toInt = 0 := rfl
  have e2 : (255 : Int32).toInt = 255 := rfl
  have h1 := h.1; have h2 := h.2
  rw [Int32.lt_iff_toInt_lt] at h1 h2
  refine ⟨⟨x.toInt.toNat, by omega⟩, ?_⟩
  apply Int32.toInt_inj.mp
  rw [Int32.toInt_ofNat_small (by show x.toInt.toNat < 2147483648; omega)]; show x.toInt = (x.toInt.toNat : Int); omega
theorem own_narC {x : Int32} (h : ¬ x < 0 ∧ ¬ (255 : Int32) < x) : nar .char x = x := by
  have t : ∀ k : Fin 256, nar .char (Int32.ofNat k.val) = Int32.ofNat k.val := by decide +kernel
  obtain ⟨k, rfl⟩ := own_ch256 h
  exact t k
theorem own_chb {x : Int32} (h : ¬ x < 0 ∧ ¬ (255 : Int32) < x) : ((StrChars.lo8 (nar .char x) &&& (255 : Int32)).toUInt32.toUInt16.toUInt32.toInt32) = x := by
  have t : ∀ k : Fin 256, ((StrChars.lo8 (nar .char (Int32.ofNat k.val)) &&& (255 : Int32)).toUInt32.toUInt16.toUInt32.toInt32) = Int32.ofNat k.val := by decide +kernel
  obtain ⟨k, rfl⟩ := own_ch256 h
  exact t k
theorem own_lat2 {x y : Int32} (h : ¬ x < 0 ∧ ¬ (255 : Int32) < x) (h' : ¬ y < 0 ∧ ¬ (255 : Int32) < y) : Lat [nar .char x, nar .char y] := own_latC (by rw [own_narC h]; exact h) (own_latC (by rw [own_narC h']; exact h') own_lat0 (by simp)) (by simp)
theorem own_and255 (x : Int32) : ¬ ((x &&& (255 : Int32)).toUInt32.toUInt16.toUInt32.toInt32) < 0 ∧ ¬ (255 : Int32) < ((x &&& (255 : Int32)).toUInt32.toUInt16.toUInt32.toInt32) := by
  have t : ∀ k : Fin 256, ¬ ((Int32.ofNat k.val).toUInt32.toUInt16.toUInt32.toInt32) < 0 ∧ ¬ (255 : Int32) < ((Int32.ofNat k.val).toUInt32.toUInt16.toUInt32.toInt32) := by decide +kernel
  have m : (x &&& (255 : Int32)).toInt = x.toInt % 2 ^ 8 := Jvm.Kit.i32_mask _ _ (by decide) (by decide)
  have e : (x &&& 255) = Int32.ofNat (x &&& 255).toInt.toNat := by
    apply Int32.toInt_inj.mp
    rw [Int32.toInt_ofNat_small (by omega)]; omega
  rw [e]
  exact t ⟨(x &&& 255).toInt.toNat, by omega⟩
theorem own_chr {x u : Int32} (h : u = ((x &&& (255 : Int32)).toUInt32.toUInt16.toUInt32.toInt32)) : ¬ u < 0 ∧ ¬ (255 : Int32) < u := by rw [h]; exact own_and255 x
theorem own_and3c (x : Int32) : (x &&& (3 : Int32)) = 0 ∨ (x &&& (3 : Int32)) = 1 ∨ (x &&& (3 : Int32)) = 2 ∨ (x &&& (3 : Int32)) = 3 := by
  have m : (x &&& (3 : Int32)).toInt = x.toInt % 2 ^ 2 := Jvm.Kit.i32_mask _ _ (by decide) (by decide)
  have e1 : (1 : Int32).toInt = 1 := rfl
  have e0 : (0 : Int32).toInt = 0 := rfl
  have e2 : (2 : Int32).toInt = 2 := rfl
  have e3 : (3 : Int32).toInt = 3 := rfl
  simp only [← Int32.toInt_inj]; omega
theorem own_and1c (x : Int32) : (x &&& (1 : Int32)) = 0 ∨ (x &&& (1 : Int32)) = 1 := by
  have m : (x &&& (1 : Int32)).toInt = x.toInt % 2 ^ 1 := Jvm.Kit.i32_mask _ _ (by decide) (by decide)
  have e1 : (1 : Int32).toInt = 1 := rfl
  have e0 : (0 : Int32).toInt = 0 := rfl
  simp only [← Int32.toInt_inj]; omega
theorem own_and3 {x u : Int32} (h : u = (x &&& (3 : Int32))) (h0 : ¬ u = (0 : Int32)) (h1 : ¬ u = (1 : Int32)) (h2 : ¬ u = (2 : Int32)) : u = (3 : Int32) := by
  rcases own_and3c x with q | q | q | q
  · exact absurd (h.trans q) h0
  · exact absurd (h.trans q) h1
  · exact absurd (h.trans q) h2
  · exact h.trans q


theorem own_lat1 {x : Int32} (h : ¬ x < 0 ∧ ¬ (255 : Int32) < x) : Lat [nar .char x] := own_latC (by rw [own_narC h]; exact h) own_lat0 (by simp)
theorem own_dep {p n c v d1 d2 d3 d4 : Int32} (hn : n = (p &&& (3 : Int32))) (hv : v = (if c = (0 : Int32) then n else (n - (1 : Int32))))
    (e1 : d1 = (if n < (1 : Int32) then (0 : Int32) else ((0 : Int32) + (1 : Int32)))) (e2 : d2 = (if n < (2 : Int32) then d1 else (d1 + (1 : Int32)))) (e3 : d3 = (if n < (3 : Int32) then d2 else (d2 + (1 : Int32)))) (e4 : d4 = (if c = (0 : Int32) then d3 else (d3 - (1 : Int32)))) : d4 = v := by
  have q1 := own_and3c p
  rw [← hn] at q1
  have e : d3 = n := by
    clear hn hv e4
    subst e3 e2 e1
    rcases q1 with rfl | rfl | rfl | rfl <;> decide
  rw [e4, hv, e]
theorem own_dr {p q n c v : Int32} (hn : n = (p &&& (3 : Int32))) (hc : c = (if q = (0 : Int32) then (0 : Int32) else (if (0 : Int32) < n then (1 : Int32) else (0 : Int32)))) (hv : v = (if c = (0 : Int32) then n else (n - (1 : Int32)))) : v = 0 ∨ v = 1 ∨ v = 2 ∨ v = 3 := by
  have q1 := own_and3c p
  rw [← hn] at q1
  clear hn
  by_cases hq : q = (0 : Int32)
  · rw [if_pos hq] at hc
    subst hc hv
    rcases q1 with rfl | rfl | rfl | rfl <;> decide
  · rw [if_neg hq] at hc
    subst hc hv
    rcases q1 with rfl | rfl | rfl | rfl <;> decide
theorem own_or3 {v : Int32} (h : v = 0 ∨ v = 1 ∨ v = 2 ∨ v = 3) (h0 : ¬ v = (0 : Int32)) (h1 : ¬ v = (1 : Int32)) (h2 : ¬ v = (2 : Int32)) : v = (3 : Int32) := ((h.resolve_left h0).resolve_left h1).resolve_left h2
theorem own_len2 {p u : Int32} (h : u = (((p.toUInt32 >>> ((1 : Int32) &&& 31).toUInt32).toInt32) % (3 : Int32))) (h0 : ¬ u = (0 : Int32)) (h1 : ¬ u = (1 : Int32)) : u = (2 : Int32) := by
  have s := own_ush (p := p) (k := (1 : Int32)) (n := 1) (by decide) (by decide)
  have q : u.toInt = ((p.toUInt32 >>> ((1 : Int32) &&& 31).toUInt32).toInt32).toInt % 3 := by rw [h, Jvm.Kit.i32_rem_nonneg (by rw [s]; omega)]; rfl
  have e1 : (1 : Int32).toInt = 1 := rfl
  have e0 : (0 : Int32).toInt = 0 := rfl
  have e2 : (2 : Int32).toInt = 2 := rfl
  rw [← Int32.toInt_inj] at h0 h1 ⊢
  omega

def ATi (us : List Value) (zm p2 p3 p4 p5 p6 : Int32) : Prop := (¬ p2 < zm) ∨ (p2 < zm ∧ ∃ (zn ni : Nat) (bb xx : Int32), Sm p2 ni ∧ Sm zm zn ∧ ni < zn ∧ us.getD ni (.int (0 : Int32)) = .int bb ∧ ((bb &&& (255 : Int32)).toUInt32.toUInt16.toUInt32.toInt32) = xx ∧ nar .char xx = xx ∧ xx = (if p2 < p3 then (32 : Int32) else (if (p2 - p3) < p4 then (if (p2 - p3) = (0 : Int32) then p5 else p6) else (10 : Int32))))
def AT (us : List Value) (zm p3 p4 p5 p6 : Int32) : Prop := ATi us zm (0 : Int32) p3 p4 p5 p6 ∧ ATi us zm (1 : Int32) p3 p4 p5 p6 ∧ ATi us zm (2 : Int32) p3 p4 p5 p6 ∧ ATi us zm (3 : Int32) p3 p4 p5 p6 ∧ ATi us zm (4 : Int32) p3 p4 p5 p6 ∧ ATi us zm (5 : Int32) p3 p4 p5 p6 ∧ ATi us zm (6 : Int32) p3 p4 p5 p6 ∧ ATi us zm (7 : Int32) p3 p4 p5 p6 ∧ ATi us zm (8 : Int32) p3 p4 p5 p6 ∧ ATi us zm (9 : Int32) p3 p4 p5 p6 ∧ ATi us zm (10 : Int32) p3 p4 p5 p6 ∧ ATi us zm (11 : Int32) p3 p4 p5 p6 ∧ ATi us zm (12 : Int32) p3 p4 p5 p6 ∧ ATi us zm (13 : Int32) p3 p4 p5 p6 ∧ ATi us zm (14 : Int32) p3 p4 p5 p6
theorem own_at00 {c0 c1 : Int32} (h0 : ¬ c0 < 0 ∧ ¬ (255 : Int32) < c0) (h1 : ¬ c1 < 0 ∧ ¬ (255 : Int32) < c1) : AT [.int (10 : Int32), .int (0 : Int32), .int (0 : Int32), .int (0 : Int32), .int (0 : Int32), .int (0 : Int32), .int (0 : Int32), .int (0 : Int32), .int (0 : Int32), .int (0 : Int32), .int (0 : Int32), .int (0 : Int32), .int (0 : Int32), .int (0 : Int32), .int (0 : Int32), .int (0 : Int32)] (1 : Int32) (0 : Int32) (0 : Int32) c0 c1 := ⟨Or.inr ⟨by decide, 1, 0, 10, 10, (Sm.lit (x := (0 : Int32)) (n := 0) (by decide)), (Sm.lit (x := (1 : Int32)) (n := 1) (by decide)), by decide, rfl, by decide, by decide, by rw [if_neg (by decide : ¬ (0 : Int32) < (0 : Int32)), if_neg (by decide : ¬ ((0 : Int32) - (0 : Int32)) < (0 : Int32))]⟩, Or.inl (by decide), Or.inl (by decide), Or.inl (by decide), Or.inl (by decide), Or.inl (by decide), Or.inl (by decide), Or.inl (by decide), Or.inl (by decide), Or.inl (by decide), Or.inl (by decide), Or.inl (by decide), Or.inl (by decide), Or.inl (by decide), Or.inl (by decide)⟩
theorem own_at01 {c0 c1 : Int32} (h0 : ¬ c0 < 0 ∧ ¬ (255 : Int32) < c0) (h1 : ¬ c1 < 0 ∧ ¬ (255 : Int32) < c1) : AT [.int (StrChars.lo8 (nar .char c0)), .int (10 : Int32), .int (0 : Int32), .int (0 : Int32), .int (0 : Int32), .int (0 : Int32), .int (0 : Int32), .int (0 : Int32), .int (0 : Int32), .int (0 : Int32), .int (0 : Int32), .int (0 : Int32), .int (0 : Int32), .int (0 : Int32), .int (0 : Int32), .int (0 : Int32)] (2 : Int32) (0 : Int32) (1 : Int32) c0 c1 := ⟨Or.inr ⟨by decide, 2, 0, (StrChars.lo8 (nar .char c0)), c0, (Sm.lit (x := (0 : Int32)) (n := 0) (by decide)), (Sm.lit (x := (2 : Int32)) (n := 2) (by decide)), by decide, rfl, own_chb h0, own_narC h0, by rw [if_neg (by decide : ¬ (0 : Int32) < (0 : Int32)), if_pos (by decide : ((0 : Int32) - (0 : Int32)) < (1 : Int32)), if_pos (by decide : ((0 : Int32) - (0 : Int32)) = (0 : Int32))]⟩, Or.inr ⟨by decide, 2, 1, 10, 10, (Sm.lit (x := (1 : Int32)) (n := 1) (by decide)), (Sm.lit (x := (2 : Int32)) (n := 2) (by decide)), by decide, rfl, by decide, by decide, by rw [if_neg (by decide : ¬ (1 : Int32) < (0 : Int32)), if_neg (by decide : ¬ ((1 : Int32) - (0 : Int32)) < (1 : Int32))]⟩, Or.inl (by decide), Or.inl (by decide), Or.inl (by decide), Or.inl (by decide), Or.inl (by decide), Or.inl (by decide), Or.inl (by decide), Or.inl (by decide), Or.inl (by decide), Or.inl (by decide), Or.inl (by decide), Or.inl (by decide), Or.inl (by decide)⟩
theorem own_at02 {c0 c1 : Int32} (h0 : ¬ c0 < 0 ∧ ¬ (255 : Int32) < c0) (h1 : ¬ c1 < 0 ∧ ¬ (255 : Int32) < c1) : AT [.int (StrChars.lo8 (nar .char c0)), .int (StrChars.lo8 (nar .char c1)), .int (10 : Int32), .int (0 : Int32), .int (0 : Int32), .int (0 : Int32), .int (0 : Int32), .int (0 : Int32), .int (0 : Int32), .int (0 : Int32), .int (0 : Int32), .int (0 : Int32), .int (0 : Int32), .int (0 : Int32), .int (0 : Int32), .int (0 : Int32)] (3 : Int32) (0 : Int32) (2 : Int32) c0 c1 := ⟨Or.inr ⟨by decide, 3, 0, (StrChars.lo8 (nar .char c0)), c0, (Sm.lit (x := (0 : Int32)) (n := 0) (by decide)), (Sm.lit (x := (3 : Int32)) (n := 3) (by decide)), by decide, rfl, own_chb h0, own_narC h0, by rw [if_neg (by decide : ¬ (0 : Int32) < (0 : Int32)), if_pos (by decide : ((0 : Int32) - (0 : Int32)) < (2 : Int32)), if_pos (by decide : ((0 : Int32) - (0 : Int32)) = (0 : Int32))]⟩, Or.inr ⟨by decide, 3, 1, (StrChars.lo8 (nar .char c1)), c1, (Sm.lit (x := (1 : Int32)) (n := 1) (by decide)), (Sm.lit (x := (3 : Int32)) (n := 3) (by decide)), by decide, rfl, own_chb h1, own_narC h1, by rw [if_neg (by decide : ¬ (1 : Int32) < (0 : Int32)), if_pos (by decide : ((1 : Int32) - (0 : Int32)) < (2 : Int32)), if_neg (by decide : ¬ ((1 : Int32) - (0 : Int32)) = (0 : Int32))]⟩, Or.inr ⟨by decide, 3, 2, 10, 10, (Sm.lit (x := (2 : Int32)) (n := 2) (by decide)), (Sm.lit (x := (3 : Int32)) (n := 3) (by decide)), by decide, rfl, by decide, by decide, by rw [if_neg (by decide : ¬ (2 : Int32) < (0 : Int32)), if_neg (by decide : ¬ ((2 : Int32) - (0 : Int32)) < (2 : Int32))]⟩, Or.inl (by decide), Or.inl (by decide), Or.inl (by decide), Or.inl (by decide), Or.inl (by decide), Or.inl (by decide), Or.inl (by decide), Or.inl (by decide), Or.inl (by decide), Or.inl (by decide), Or.inl (by decide), Or.inl (by decide)⟩
theorem own_at11 {c0 c1 : Int32} (h0 : ¬ c0 < 0 ∧ ¬ (255 : Int32) < c0) (h1 : ¬ c1 < 0 ∧ ¬ (255 : Int32) < c1) : AT [.int (32 : Int32), .int (32 : Int32), .int (32 : Int32), .int (32 : Int32), .int (StrChars.lo8 (nar .char c0)), .int (10 : Int32), .int (0 : Int32), .int (0 : Int32), .int (0 : Int32), .int (0 : Int32), .int (0 : Int32), .int (0 : Int32), .int (0 : Int32), .int (0 : Int32), .int (0 : Int32), .int (0 : Int32)] (6 : Int32) (4 : Int32) (1 : Int32) c0 c1 := ⟨Or.inr ⟨by decide, 6, 0, 32, 32, (Sm.lit (x := (0 : Int32)) (n := 0) (by decide)), (Sm.lit (x := (6 : Int32)) (n := 6) (by decide)), by decide, rfl, by decide, by decide, by rw [if_pos (by decide : (0 : Int32) < (4 : Int32))]⟩, Or.inr ⟨by decide, 6, 1, 32, 32, (Sm.lit (x := (1 : Int32)) (n := 1) (by decide)), (Sm.lit (x := (6 : Int32)) (n := 6) (by decide)), by decide, rfl, by decide, by decide, by rw [if_pos (by decide : (1 : Int32) < (4 : Int32))]⟩, Or.inr ⟨by decide, 6, 2, 32, 32, (Sm.lit (x := (2 : Int32)) (n := 2) (by decide)), (Sm.lit (x := (6 : Int32)) (n := 6) (by decide)), by decide, rfl, by decide, by decide, by rw [if_pos (by decide : (2 : Int32) < (4 : Int32))]⟩, Or.inr ⟨by decide, 6, 3, 32, 32, (Sm.lit (x := (3 : Int32)) (n := 3) (by decide)), (Sm.lit (x := (6 : Int32)) (n := 6) (by decide)), by decide, rfl, by decide, by decide, by rw [if_pos (by decide : (3 : Int32) < (4 : Int32))]⟩, Or.inr ⟨by decide, 6, 4, (StrChars.lo8 (nar .char c0)), c0, (Sm.lit (x := (4 : Int32)) (n := 4) (by decide)), (Sm.lit (x := (6 : Int32)) (n := 6) (by decide)), by decide, rfl, own_chb h0, own_narC h0, by rw [if_neg (by decide : ¬ (4 : Int32) < (4 : Int32)), if_pos (by decide : ((4 : Int32) - (4 : Int32)) < (1 : Int32)), if_pos (by decide : ((4 : Int32) - (4 : Int32)) = (0 : Int32))]⟩, Or.inr ⟨by decide, 6, 5, 10, 10, (Sm.lit (x := (5 : Int32)) (n := 5) (by decide)), (Sm.lit (x := (6 : Int32)) (n := 6) (by decide)), by decide, rfl, by decide, by decide, by rw [if_neg (by decide : ¬ (5 : Int32) < (4 : Int32)), if_neg (by decide : ¬ ((5 : Int32) - (4 : Int32)) < (1 : Int32))]⟩, Or.inl (by decide), Or.inl (by decide), Or.inl (by decide), Or.inl (by decide), Or.inl (by decide), Or.inl (by decide), Or.inl (by decide), Or.inl (by decide), Or.inl (by decide)⟩
theorem own_at12 {c0 c1 : Int32} (h0 : ¬ c0 < 0 ∧ ¬ (255 : Int32) < c0) (h1 : ¬ c1 < 0 ∧ ¬ (255 : Int32) < c1) : AT [.int (32 : Int32), .int (32 : Int32), .int (32 : Int32), .int (32 : Int32), .int (StrChars.lo8 (nar .char c0)), .int (StrChars.lo8 (nar .char c1)), .int (10 : Int32), .int (0 : Int32), .int (0 : Int32), .int (0 : Int32), .int (0 : Int32), .int (0 : Int32), .int (0 : Int32), .int (0 : Int32), .int (0 : Int32), .int (0 : Int32)] (7 : Int32) (4 : Int32) (2 : Int32) c0 c1 := ⟨Or.inr ⟨by decide, 7, 0, 32, 32, (Sm.lit (x := (0 : Int32)) (n := 0) (by decide)), (Sm.lit (x := (7 : Int32)) (n := 7) (by decide)), by decide, rfl, by decide, by decide, by rw [if_pos (by decide : (0 : Int32) < (4 : Int32))]⟩, Or.inr ⟨by decide, 7, 1, 32, 32, (Sm.lit (x := (1 : Int32)) (n := 1) (by decide)), (Sm.lit (x := (7 : Int32)) (n := 7) (by decide)), by decide, rfl, by decide, by decide, by rw [if_pos (by decide : (1 : Int32) < (4 : Int32))]⟩, Or.inr ⟨by decide, 7, 2, 32, 32, (Sm.lit (x := (2 : Int32)) (n := 2) (by decide)), (Sm.lit (x := (7 : Int32)) (n := 7) (by decide)), by decide, rfl, by decide, by decide, by rw [if_pos (by decide : (2 : Int32) < (4 : Int32))]⟩, Or.inr ⟨by decide, 7, 3, 32, 32, (Sm.lit (x := (3 : Int32)) (n := 3) (by decide)), (Sm.lit (x := (7 : Int32)) (n := 7) (by decide)), by decide, rfl, by decide, by decide, by rw [if_pos (by decide : (3 : Int32) < (4 : Int32))]⟩, Or.inr ⟨by decide, 7, 4, (StrChars.lo8 (nar .char c0)), c0, (Sm.lit (x := (4 : Int32)) (n := 4) (by decide)), (Sm.lit (x := (7 : Int32)) (n := 7) (by decide)), by decide, rfl, own_chb h0, own_narC h0, by rw [if_neg (by decide : ¬ (4 : Int32) < (4 : Int32)), if_pos (by decide : ((4 : Int32) - (4 : Int32)) < (2 : Int32)), if_pos (by decide : ((4 : Int32) - (4 : Int32)) = (0 : Int32))]⟩, Or.inr ⟨by decide, 7, 5, (StrChars.lo8 (nar .char c1)), c1, (Sm.lit (x := (5 : Int32)) (n := 5) (by decide)), (Sm.lit (x := (7 : Int32)) (n := 7) (by decide)), by decide, rfl, own_chb h1, own_narC h1, by rw [if_neg (by decide : ¬ (5 : Int32) < (4 : Int32)), if_pos (by decide : ((5 : Int32) - (4 : Int32)) < (2 : Int32)), if_neg (by decide : ¬ ((5 : Int32) - (4 : Int32)) = (0 : Int32))]⟩, Or.inr ⟨by decide, 7, 6, 10, 10, (Sm.lit (x := (6 : Int32)) (n := 6) (by decide)), (Sm.lit (x := (7 : Int32)) (n := 7) (by decide)), by decide, rfl, by decide, by decide, by rw [if_neg (by decide : ¬ (6 : Int32) < (4 : Int32)), if_neg (by decide : ¬ ((6 : Int32) - (4 : Int32)) < (2 : Int32))]⟩, Or.inl (by decide), Or.inl (by decide), Or.inl (by decide), Or.inl (by decide), Or.inl (by decide), Or.inl (by decide), Or.inl (by decide), Or.inl (by decide)⟩
theorem own_at21 {c0 c1 : Int32} (h0 : ¬ c0 < 0 ∧ ¬ (255 : Int32) < c0) (h1 : ¬ c1 < 0 ∧ ¬ (255 : Int32) < c1) : AT [.int (32 : Int32), .int (32 : Int32), .int (32 : Int32), .int (32 : Int32), .int (32 : Int32), .int (32 : Int32), .int (32 : Int32), .int (32 : Int32), .int (StrChars.lo8 (nar .char c0)), .int (10 : Int32), .int (0 : Int32), .int (0 : Int32), .int (0 : Int32), .int (0 : Int32), .int (0 : Int32), .int (0 : Int32)] (10 : Int32) (8 : Int32) (1 : Int32) c0 c1 := ⟨Or.inr ⟨by decide, 10, 0, 32, 32, (Sm.lit (x := (0 : Int32)) (n := 0) (by decide)), (Sm.lit (x := (10 : Int32)) (n := 10) (by decide)), by decide, rfl, by decide, by decide, by rw [if_pos (by decide : (0 : Int32) < (8 : Int32))]⟩, Or.inr ⟨by decide, 10, 1, 32, 32, (Sm.lit (x := (1 : Int32)) (n := 1) (by decide)), (Sm.lit (x := (10 : Int32)) (n := 10) (by decide)), by decide, rfl, by decide, by decide, by rw [if_pos (by decide : (1 : Int32) < (8 : Int32))]⟩, Or.inr ⟨by decide, 10, 2, 32, 32, (Sm.lit (x := (2 : Int32)) (n := 2) (by decide)), (Sm.lit (x := (10 : Int32)) (n := 10) (by decide)), by decide, rfl, by decide, by decide, by rw [if_pos (by decide : (2 : Int32) < (8 : Int32))]⟩, Or.inr ⟨by decide, 10, 3, 32, 32, (Sm.lit (x := (3 : Int32)) (n := 3) (by decide)), (Sm.lit (x := (10 : Int32)) (n := 10) (by decide)), by decide, rfl, by decide, by decide, by rw [if_pos (by decide : (3 : Int32) < (8 : Int32))]⟩, Or.inr ⟨by decide, 10, 4, 32, 32, (Sm.lit (x := (4 : Int32)) (n := 4) (by decide)), (Sm.lit (x := (10 : Int32)) (n := 10) (by decide)), by decide, rfl, by decide, by decide, by rw [if_pos (by decide : (4 : Int32) < (8 : Int32))]⟩, Or.inr ⟨by decide, 10, 5, 32, 32, (Sm.lit (x := (5 : Int32)) (n := 5) (by decide)), (Sm.lit (x := (10 : Int32)) (n := 10) (by decide)), by decide, rfl, by decide, by decide, by rw [if_pos (by decide : (5 : Int32) < (8 : Int32))]⟩, Or.inr ⟨by decide, 10, 6, 32, 32, (Sm.lit (x := (6 : Int32)) (n := 6) (by decide)), (Sm.lit (x := (10 : Int32)) (n := 10) (by decide)), by decide, rfl, by decide, by decide, by rw [if_pos (by decide : (6 : Int32) < (8 : Int32))]⟩, Or.inr ⟨by decide, 10, 7, 32, 32, (Sm.lit (x := (7 : Int32)) (n := 7) (by decide)), (Sm.lit (x := (10 : Int32)) (n := 10) (by decide)), by decide, rfl, by decide, by decide, by rw [if_pos (by decide : (7 : Int32) < (8 : Int32))]⟩, Or.inr ⟨by decide, 10, 8, (StrChars.lo8 (nar .char c0)), c0, (Sm.lit (x := (8 : Int32)) (n := 8) (by decide)), (Sm.lit (x := (10 : Int32)) (n := 10) (by decide)), by decide, rfl, own_chb h0, own_narC h0, by rw [if_neg (by decide : ¬ (8 : Int32) < (8 : Int32)), if_pos (by decide : ((8 : Int32) - (8 : Int32)) < (1 : Int32)), if_pos (by decide : ((8 : Int32) - (8 : Int32)) = (0 : Int32))]⟩, Or.inr ⟨by decide, 10, 9, 10, 10, (Sm.lit (x := (9 : Int32)) (n := 9) (by decide)), (Sm.lit (x := (10 : Int32)) (n := 10) (by decide)), by decide, rfl, by decide, by decide, by rw [if_neg (by decide : ¬ (9 : Int32) < (8 : Int32)), if_neg (by decide : ¬ ((9 : Int32) - (8 : Int32)) < (1 : Int32))]⟩, Or.inl (by decide), Or.inl (by decide), Or.inl (by decide), Or.inl (by decide), Or.inl (by decide)⟩
theorem own_at22 {c0 c1 : Int32} (h0 : ¬ c0 < 0 ∧ ¬ (255 : Int32) < c0) (h1 : ¬ c1 < 0 ∧ ¬ (255 : Int32) < c1) : AT [.int (32 : Int32), .int (32 : Int32), .int (32 : Int32), .int (32 : Int32), .int (32 : Int32), .int (32 : Int32), .int (32 : Int32), .int (32 : Int32), .int (StrChars.lo8 (nar .char c0)), .int (StrChars.lo8 (nar .char c1)), .int (10 : Int32), .int (0 : Int32), .int (0 : Int32), .int (0 : Int32), .int (0 : Int32), .int (0 : Int32)] (11 : Int32) (8 : Int32) (2 : Int32) c0 c1 := ⟨Or.inr ⟨by decide, 11, 0, 32, 32, (Sm.lit (x := (0 : Int32)) (n := 0) (by decide)), (Sm.lit (x := (11 : Int32)) (n := 11) (by decide)), by decide, rfl, by decide, by decide, by rw [if_pos (by decide : (0 : Int32) < (8 : Int32))]⟩, Or.inr ⟨by decide, 11, 1, 32, 32, (Sm.lit (x := (1 : Int32)) (n := 1) (by decide)), (Sm.lit (x := (11 : Int32)) (n := 11) (by decide)), by decide, rfl, by decide, by decide, by rw [if_pos (by decide : (1 : Int32) < (8 : Int32))]⟩, Or.inr ⟨by decide, 11, 2, 32, 32, (Sm.lit (x := (2 : Int32)) (n := 2) (by decide)), (Sm.lit (x := (11 : Int32)) (n := 11) (by decide)), by decide, rfl, by decide, by decide, by rw [if_pos (by decide : (2 : Int32) < (8 : Int32))]⟩, Or.inr ⟨by decide, 11, 3, 32, 32, (Sm.lit (x := (3 : Int32)) (n := 3) (by decide)), (Sm.lit (x := (11 : Int32)) (n := 11) (by decide)), by decide, rfl, by decide, by decide, by rw [if_pos (by decide : (3 : Int32) < (8 : Int32))]⟩, Or.inr ⟨by decide, 11, 4, 32, 32, (Sm.lit (x := (4 : Int32)) (n := 4) (by decide)), (Sm.lit (x := (11 : Int32)) (n := 11) (by decide)), by decide, rfl, by decide, by decide, by rw [if_pos (by decide : (4 : Int32) < (8 : Int32))]⟩, Or.inr ⟨by decide, 11, 5, 32, 32, (Sm.lit (x := (5 : Int32)) (n := 5) (by decide)), (Sm.lit (x := (11 : Int32)) (n := 11) (by decide)), by decide, rfl, by decide, by decide, by rw [if_pos (by decide : (5 : Int32) < (8 : Int32))]⟩, Or.inr ⟨by decide, 11, 6, 32, 32, (Sm.lit (x := (6 : Int32)) (n := 6) (by decide)), (Sm.lit (x := (11 : Int32)) (n := 11) (by decide)), by decide, rfl, by decide, by decide, by rw [if_pos (by decide : (6 : Int32) < (8 : Int32))]⟩, Or.inr ⟨by decide, 11, 7, 32, 32, (Sm.lit (x := (7 : Int32)) (n := 7) (by decide)), (Sm.lit (x := (11 : Int32)) (n := 11) (by decide)), by decide, rfl, by decide, by decide, by rw [if_pos (by decide : (7 : Int32) < (8 : Int32))]⟩, Or.inr ⟨by decide, 11, 8, (StrChars.lo8 (nar .char c0)), c0, (Sm.lit (x := (8 : Int32)) (n := 8) (by decide)), (Sm.lit (x := (11 : Int32)) (n := 11) (by decide)), by decide, rfl, own_chb h0, own_narC h0, by rw [if_neg (by decide : ¬ (8 : Int32) < (8 : Int32)), if_pos (by decide : ((8 : Int32) - (8 : Int32)) < (2 : Int32)), if_pos (by decide : ((8 : Int32) - (8 : Int32)) = (0 : Int32))]⟩, Or.inr ⟨by decide, 11, 9, (StrChars.lo8 (nar .char c1)), c1, (Sm.lit (x := (9 : Int32)) (n := 9) (by decide)), (Sm.lit (x := (11 : Int32)) (n := 11) (by decide)), by decide, rfl, own_chb h1, own_narC h1, by rw [if_neg (by decide : ¬ (9 : Int32) < (8 : Int32)), if_pos (by decide : ((9 : Int32) - (8 : Int32)) < (2 : Int32)), if_neg (by decide : ¬ ((9 : Int32) - (8 : Int32)) = (0 : Int32))]⟩, Or.inr ⟨by decide, 11, 10, 10, 10, (Sm.lit (x := (10 : Int32)) (n := 10) (by decide)), (Sm.lit (x := (11 : Int32)) (n := 11) (by decide)), by decide, rfl, by decide, by decide, by rw [if_neg (by decide : ¬ (10 : Int32) < (8 : Int32)), if_neg (by decide : ¬ ((10 : Int32) - (8 : Int32)) < (2 : Int32))]⟩, Or.inl (by decide), Or.inl (by decide), Or.inl (by decide), Or.inl (by decide)⟩
theorem own_at31 {c0 c1 : Int32} (h0 : ¬ c0 < 0 ∧ ¬ (255 : Int32) < c0) (h1 : ¬ c1 < 0 ∧ ¬ (255 : Int32) < c1) : AT [.int (32 : Int32), .int (32 : Int32), .int (32 : Int32), .int (32 : Int32), .int (32 : Int32), .int (32 : Int32), .int (32 : Int32), .int (32 : Int32), .int (32 : Int32), .int (32 : Int32), .int (32 : Int32), .int (32 : Int32), .int (StrChars.lo8 (nar .char c0)), .int (10 : Int32), .int (0 : Int32), .int (0 : Int32)] (14 : Int32) (12 : Int32) (1 : Int32) c0 c1 := ⟨Or.inr ⟨by decide, 14, 0, 32, 32, (Sm.lit (x := (0 : Int32)) (n := 0) (by decide)), (Sm.lit (x := (14 : Int32)) (n := 14) (by decide)), by decide, rfl, by decide, by decide, by rw [if_pos (by decide : (0 : Int32) < (12 : Int32))]⟩, Or.inr ⟨by decide, 14, 1, 32, 32, (Sm.lit (x := (1 : Int32)) (n := 1) (by decide)), (Sm.lit (x := (14 : Int32)) (n := 14) (by decide)), by decide, rfl, by decide, by decide, by rw [if_pos (by decide : (1 : Int32) < (12 : Int32))]⟩, Or.inr ⟨by decide, 14, 2, 32, 32, (Sm.lit (x := (2 : Int32)) (n := 2) (by decide)), (Sm.lit (x := (14 : Int32)) (n := 14) (by decide)), by decide, rfl, by decide, by decide, by rw [if_pos (by decide : (2 : Int32) < (12 : Int32))]⟩, Or.inr ⟨by decide, 14, 3, 32, 32, (Sm.lit (x := (3 : Int32)) (n := 3) (by decide)), (Sm.lit (x := (14 : Int32)) (n := 14) (by decide)), by decide, rfl, by decide, by decide, by rw [if_pos (by decide : (3 : Int32) < (12 : Int32))]⟩, Or.inr ⟨by decide, 14, 4, 32, 32, (Sm.lit (x := (4 : Int32)) (n := 4) (by decide)), (Sm.lit (x := (14 : Int32)) (n := 14) (by decide)), by decide, rfl, by decide, by decide, by rw [if_pos (by decide : (4 : Int32) < (12 : Int32))]⟩, Or.inr ⟨by decide, 14, 5, 32, 32, (Sm.lit (x := (5 : Int32)) (n := 5) (by decide)), (Sm.lit (x := (14 : Int32)) (n := 14) (by decide)), by decide, rfl, by decide, by decide, by rw [if_pos (by decide : (5 : Int32) < (12 : Int32))]⟩, Or.inr ⟨by decide, 14, 6, 32, 32, (Sm.lit (x := (6 : Int32)) (n := 6) (by decide)), (Sm.lit (x := (14 : Int32)) (n := 14) (by decide)), by decide, rfl, by decide, by decide, by rw [if_pos (by decide : (6 : Int32) < (12 : Int32))]⟩, Or.inr ⟨by decide, 14, 7, 32, 32, (Sm.lit (x := (7 : Int32)) (n := 7) (by decide)), (Sm.lit (x := (14 : Int32)) (n := 14) (by decide)), by decide, rfl, by decide, by decide, by rw [if_pos (by decide : (7 : Int32) < (12 : Int32))]⟩, Or.inr ⟨by decide, 14, 8, 32, 32, (Sm.lit (x := (8 : Int32)) (n := 8) (by decide)), (Sm.lit (x := (14 : Int32)) (n := 14) (by decide)), by decide, rfl, by decide, by decide, by rw [if_pos (by decide : (8 : Int32) < (12 : Int32))]⟩, Or.inr ⟨by decide, 14, 9, 32, 32, (Sm.lit (x := (9 : Int32)) (n := 9) (by decide)), (Sm.lit (x := (14 : Int32)) (n := 14) (by decide)), by decide, rfl, by decide, by decide, by rw [if_pos (by decide : (9 : Int32) < (12 : Int32))]⟩, Or.inr ⟨by decide, 14, 10, 32, 32, (Sm.lit (x := (10 : Int32)) (n := 10) (by decide)), (Sm.lit (x := (14 : Int32)) (n := 14) (by decide)), by decide, rfl, by decide, by decide, by rw [if_pos (by decide : (10 : Int32) < (12 : Int32))]⟩, Or.inr ⟨by decide, 14, 11, 32, 32, (Sm.lit (x := (11 : Int32)) (n := 11) (by decide)), (Sm.lit (x := (14 : Int32)) (n := 14) (by decide)), by decide, rfl, by decide, by decide, by rw [if_pos (by decide : (11 : Int32) < (12 : Int32))]⟩, Or.inr ⟨by decide, 14, 12, (StrChars.lo8 (nar .char c0)), c0, (Sm.lit (x := (12 : Int32)) (n := 12) (by decide)), (Sm.lit (x := (14 : Int32)) (n := 14) (by decide)), by decide, rfl, own_chb h0, own_narC h0, by rw [if_neg (by decide : ¬ (12 : Int32) < (12 : Int32)), if_pos (by decide : ((12 : Int32) - (12 : Int32)) < (1 : Int32)), if_pos (by decide : ((12 : Int32) - (12 : Int32)) = (0 : Int32))]⟩, Or.inr ⟨by decide, 14, 13, 10, 10, (Sm.lit (x := (13 : Int32)) (n := 13) (by decide)), (Sm.lit (x := (14 : Int32)) (n := 14) (by decide)), by decide, rfl, by decide, by decide, by rw [if_neg (by decide : ¬ (13 : Int32) < (12 : Int32)), if_neg (by decide : ¬ ((13 : Int32) - (12 : Int32)) < (1 : Int32))]⟩, Or.inl (by decide)⟩
theorem own_at32 {c0 c1 : Int32} (h0 : ¬ c0 < 0 ∧ ¬ (255 : Int32) < c0) (h1 : ¬ c1 < 0 ∧ ¬ (255 : Int32) < c1) : AT [.int (32 : Int32), .int (32 : Int32), .int (32 : Int32), .int (32 : Int32), .int (32 : Int32), .int (32 : Int32), .int (32 : Int32), .int (32 : Int32), .int (32 : Int32), .int (32 : Int32), .int (32 : Int32), .int (32 : Int32), .int (StrChars.lo8 (nar .char c0)), .int (StrChars.lo8 (nar .char c1)), .int (10 : Int32), .int (0 : Int32)] (15 : Int32) (12 : Int32) (2 : Int32) c0 c1 := ⟨Or.inr ⟨by decide, 15, 0, 32, 32, (Sm.lit (x := (0 : Int32)) (n := 0) (by decide)), (Sm.lit (x := (15 : Int32)) (n := 15) (by decide)), by decide, rfl, by decide, by decide, by rw [if_pos (by decide : (0 : Int32) < (12 : Int32))]⟩, Or.inr ⟨by decide, 15, 1, 32, 32, (Sm.lit (x := (1 : Int32)) (n := 1) (by decide)), (Sm.lit (x := (15 : Int32)) (n := 15) (by decide)), by decide, rfl, by decide, by decide, by rw [if_pos (by decide : (1 : Int32) < (12 : Int32))]⟩, Or.inr ⟨by decide, 15, 2, 32, 32, (Sm.lit (x := (2 : Int32)) (n := 2) (by decide)), (Sm.lit (x := (15 : Int32)) (n := 15) (by decide)), by decide, rfl, by decide, by decide, by rw [if_pos (by decide : (2 : Int32) < (12 : Int32))]⟩, Or.inr ⟨by decide, 15, 3, 32, 32, (Sm.lit (x := (3 : Int32)) (n := 3) (by decide)), (Sm.lit (x := (15 : Int32)) (n := 15) (by decide)), by decide, rfl, by decide, by decide, by rw [if_pos (by decide : (3 : Int32) < (12 : Int32))]⟩, Or.inr ⟨by decide, 15, 4, 32, 32, (Sm.lit (x := (4 : Int32)) (n := 4) (by decide)), (Sm.lit (x := (15 : Int32)) (n := 15) (by decide)), by decide, rfl, by decide, by decide, by rw [if_pos (by decide : (4 : Int32) < (12 : Int32))]⟩, Or.inr ⟨by decide, 15, 5, 32, 32, (Sm.lit (x := (5 : Int32)) (n := 5) (by decide)), (Sm.lit (x := (15 : Int32)) (n := 15) (by decide)), by decide, rfl, by decide, by decide, by rw [if_pos (by decide : (5 : Int32) < (12 : Int32))]⟩, Or.inr ⟨by decide, 15, 6, 32, 32, (Sm.lit (x := (6 : Int32)) (n := 6) (by decide)), (Sm.lit (x := (15 : Int32)) (n := 15) (by decide)), by decide, rfl, by decide, by decide, by rw [if_pos (by decide : (6 : Int32) < (12 : Int32))]⟩, Or.inr ⟨by decide, 15, 7, 32, 32, (Sm.lit (x := (7 : Int32)) (n := 7) (by decide)), (Sm.lit (x := (15 : Int32)) (n := 15) (by decide)), by decide, rfl, by decide, by decide, by rw [if_pos (by decide : (7 : Int32) < (12 : Int32))]⟩, Or.inr ⟨by decide, 15, 8, 32, 32, (Sm.lit (x := (8 : Int32)) (n := 8) (by decide)), (Sm.lit (x := (15 : Int32)) (n := 15) (by decide)), by decide, rfl, by decide, by decide, by rw [if_pos (by decide : (8 : Int32) < (12 : Int32))]⟩, Or.inr ⟨by decide, 15, 9, 32, 32, (Sm.lit (x := (9 : Int32)) (n := 9) (by decide)), (Sm.lit (x := (15 : Int32)) (n := 15) (by decide)), by decide, rfl, by decide, by decide, by rw [if_pos (by decide : (9 : Int32) < (12 : Int32))]⟩, Or.inr ⟨by decide, 15, 10, 32, 32, (Sm.lit (x := (10 : Int32)) (n := 10) (by decide)), (Sm.lit (x := (15 : Int32)) (n := 15) (by decide)), by decide, rfl, by decide, by decide, by rw [if_pos (by decide : (10 : Int32) < (12 : Int32))]⟩, Or.inr ⟨by decide, 15, 11, 32, 32, (Sm.lit (x := (11 : Int32)) (n := 11) (by decide)), (Sm.lit (x := (15 : Int32)) (n := 15) (by decide)), by decide, rfl, by decide, by decide, by rw [if_pos (by decide : (11 : Int32) < (12 : Int32))]⟩, Or.inr ⟨by decide, 15, 12, (StrChars.lo8 (nar .char c0)), c0, (Sm.lit (x := (12 : Int32)) (n := 12) (by decide)), (Sm.lit (x := (15 : Int32)) (n := 15) (by decide)), by decide, rfl, own_chb h0, own_narC h0, by rw [if_neg (by decide : ¬ (12 : Int32) < (12 : Int32)), if_pos (by decide : ((12 : Int32) - (12 : Int32)) < (2 : Int32)), if_pos (by decide : ((12 : Int32) - (12 : Int32)) = (0 : Int32))]⟩, Or.inr ⟨by decide, 15, 13, (StrChars.lo8 (nar .char c1)), c1, (Sm.lit (x := (13 : Int32)) (n := 13) (by decide)), (Sm.lit (x := (15 : Int32)) (n := 15) (by decide)), by decide, rfl, own_chb h1, own_narC h1, by rw [if_neg (by decide : ¬ (13 : Int32) < (12 : Int32)), if_pos (by decide : ((13 : Int32) - (12 : Int32)) < (2 : Int32)), if_neg (by decide : ¬ ((13 : Int32) - (12 : Int32)) = (0 : Int32))]⟩, Or.inr ⟨by decide, 15, 14, 10, 10, (Sm.lit (x := (14 : Int32)) (n := 14) (by decide)), (Sm.lit (x := (15 : Int32)) (n := 15) (by decide)), by decide, rfl, by decide, by decide, by rw [if_neg (by decide : ¬ (14 : Int32) < (12 : Int32)), if_neg (by decide : ¬ ((14 : Int32) - (12 : Int32)) < (2 : Int32))]⟩⟩
theorem tw {a0 : Array Value} {Z : State} (hw : ∀ d ∈ tables_1, d.before a0 Z = true) (i : Nat) {d : Jvm.Cond} (e : tables_1[i]? = some d) : d.before a0 Z = true := hw d (List.mem_of_getElem? e)
theorem sn {a0 : Array Value} {Z : State} {C O n d O' n' d' : String} {p : Prop} (t t' : FieldType) (L : Laid Z a0 C O n d) (L' : Laid Z a0 C O' n' d') (hn : n ≠ n' := by decide) (ht : parseFieldDescriptor d = some t := by decide) (ht' : parseFieldDescriptor d' = some t' := by decide) : p ∨ Jvm.RoadKit.slotOf Z O n d ≠ Jvm.RoadKit.slotOf Z O' n' d' := Or.inr (slot_ne L L' hn ht ht')
abbrev Rf (a : Addr) : Slot := .val (.ref a)
abbrev It (z : Int32) : Slot := .val (.int z)
abbrev rk (f c s l : Nat) : Room := { frames := f, cells := c, slots := s, locals := l }
abbrev SG (tb : Tables) (e : Env) (bl : List Frame) (A B : State) : Prop := ∀ target, Steps tb e bl A target → Steps tb e bl B target
theorem w0 {g : JFrame} {rest : List Value} {W : Nat} (h : 2 * g.monitorRoom + (rest.map fun v => v.category).sum = W) : 2 * g.monitorRoom + (rest.map fun v => v.category).sum ≤ W := Nat.le_of_eq h
theorem own_pre {tb : Tables} {e : Env} {bl : List Frame} {s : State} {F G : JFrame} (q : F = G) : ∀ t, Steps tb e bl (s.setTop G) t → Steps tb e bl (s.setTop F) t := fun t k => castTop q k
theorem tm {a0 a1 : Array Value} {Z s : State} (hZ : Z.Warmed39 s.vm) (hw : ∀ d ∈ tables_1, d.before a0 Z = true) (i : Nat) {d : Jvm.Cond} (e : tables_1[i]? = some d) (hd : d.before a0 Z = true → d.before a1 s = true) : d.before a1 s = true := hd (tw hw i e)
set_option maxRecDepth 65536
set_option maxHeartbeats 40000000
abbrev m_0 : MethodName := ⟨"java/lang/String", "coder", "()B"⟩
abbrev m_1 : MethodName := ⟨"java/lang/String", "isLatin1", "()Z"⟩
abbrev m_2 : MethodName := ⟨"java/lang/String", "length", "()I"⟩
abbrev m_3 : MethodName := ⟨"java/lang/String", "isEmpty", "()Z"⟩
abbrev m_4 : MethodName := ⟨"java/lang/AbstractStringBuilder", "isLatin1", "()Z"⟩
abbrev m_5 : MethodName := ⟨"java/lang/AbstractStringBuilder", "getValue", "()[B"⟩
abbrev m_6 : MethodName := ⟨"java/lang/AbstractStringBuilder", "length", "()I"⟩
abbrev m_7 : MethodName := ⟨"java/lang/StringBuilder", "length", "()I"⟩
abbrev m_8 : MethodName := ⟨"java/lang/AbstractStringBuilder", "ensureCapacityInternal", "(I)V"⟩
abbrev m_9 : MethodName := ⟨"java/lang/AbstractStringBuilder", "<init>", "(I)V"⟩
abbrev m_10 : MethodName := ⟨"java/lang/StringBuilder", "<init>", "()V"⟩
abbrev m_11 : MethodName := ⟨"com/example/tetrad/tetrad/generate/SourceText", "<init>", "()V"⟩
abbrev m_12 : MethodName := ⟨"com/example/tetrad/tetrad/generate/SourceText", "indent", "()Lcom/example/tetrad/tetrad/generate/SourceText;"⟩
abbrev m_13 : MethodName := ⟨"com/example/tetrad/tetrad/generate/SourceText", "dedent", "()Lcom/example/tetrad/tetrad/generate/SourceText;"⟩
abbrev m_14 : MethodName := ⟨"java/lang/AbstractStringBuilder", "inflateIfNeededFor", "(Ljava/lang/String;)V"⟩
abbrev m_15 : MethodName := ⟨"java/lang/String", "getBytes", "([BIB)V"⟩
abbrev m_16 : MethodName := ⟨"java/lang/AbstractStringBuilder", "putStringAt", "(ILjava/lang/String;)V"⟩
abbrev m_17 : MethodName := ⟨"java/lang/AbstractStringBuilder", "append", "(Ljava/lang/String;)Ljava/lang/AbstractStringBuilder;"⟩
abbrev m_18 : MethodName := ⟨"java/lang/StringBuilder", "append", "(Ljava/lang/String;)Ljava/lang/StringBuilder;"⟩
abbrev m_19 : MethodName := ⟨"java/lang/StringLatin1", "canEncode", "(C)Z"⟩
abbrev m_20 : MethodName := ⟨"java/lang/AbstractStringBuilder", "append", "(C)Ljava/lang/AbstractStringBuilder;"⟩
abbrev m_21 : MethodName := ⟨"java/lang/StringBuilder", "append", "(C)Ljava/lang/StringBuilder;"⟩
abbrev m_22 : MethodName := ⟨"java/lang/Math", "min", "(II)I"⟩
abbrev m_23 : MethodName := ⟨"java/util/Arrays", "checkLength", "(II)V"⟩
abbrev m_24 : MethodName := ⟨"java/util/Arrays", "copyOfRangeByte", "([BII)[B"⟩
abbrev m_25 : MethodName := ⟨"java/util/Arrays", "copyOfRange", "([BII)[B"⟩
abbrev m_26 : MethodName := ⟨"java/lang/String", "<init>", "(Ljava/lang/AbstractStringBuilder;Ljava/lang/Void;)V"⟩
abbrev m_27 : MethodName := ⟨"java/lang/String", "<init>", "(Ljava/lang/StringBuilder;)V"⟩
abbrev m_28 : MethodName := ⟨"java/lang/StringBuilder", "toString", "()Ljava/lang/String;"⟩
abbrev m_29 : MethodName := ⟨"com/example/tetrad/tetrad/generate/SourceText", "toString", "()Ljava/lang/String;"⟩
abbrev m_30 : MethodName := ⟨"java/lang/String", "<init>", "([BB)V"⟩
abbrev m_31 : MethodName := ⟨"java/lang/String", "repeatCopyRest", "([BIII)V"⟩
abbrev m_32 : MethodName := ⟨"java/lang/String", "repeat", "(I)Ljava/lang/String;"⟩
abbrev m_33 : MethodName := ⟨"com/example/tetrad/tetrad/generate/SourceText", "line", "(Ljava/lang/String;)Lcom/example/tetrad/tetrad/generate/SourceText;"⟩
abbrev m_34 : MethodName := ⟨"jdk/internal/util/Preconditions", "checkIndex", "(IILjava/util/function/BiFunction;)I"⟩
abbrev m_35 : MethodName := ⟨"java/lang/String", "checkIndex", "(II)V"⟩
abbrev m_36 : MethodName := ⟨"java/lang/StringLatin1", "charAt", "([BI)C"⟩
abbrev m_37 : MethodName := ⟨"java/lang/String", "charAt", "(I)C"⟩
abbrev m_38 : MethodName := ⟨"com/example/tetrad/tetrad/generate/SourceTextIndentPinLaw", "at", "(Ljava/lang/String;IIICC)Z"⟩
abbrev m_39 : MethodName := ⟨"java/lang/String", "<init>", "([C)V"⟩
abbrev TS_0 (Z : State) (zC : Int32) : Prop := Sta Z Z.heap "java/lang/String" "COMPACT_STRINGS" "Z" (.int zC)
abbrev TS_1 (Z : State) : Prop := Sta Z Z.heap "jdk/internal/util/Preconditions" "SIOOBE_FORMATTER" "Ljava/util/function/BiFunction;" .null
abbrev TS_2 (Z : State) (wF : Addr) : Prop := Sta Z Z.heap "jdk/internal/util/Preconditions" "SIOOBE_FORMATTER" "Ljava/util/function/BiFunction;" (.ref wF)
abbrev TS_3 (Z : State) (vFM : Value) : Prop := Sta Z Z.heap "jdk/internal/util/Preconditions" "SIOOBE_FORMATTER" "Ljava/util/function/BiFunction;" vFM
def Q16 (Z : State) (a1 : Addr) (zC : Int32) (h0 : Heap) (n0 : Nat) (v : Option Value) (h : Heap) (L : List Loc) : Prop := v = some (.int (0 : Int32)) ∧ Fr n0 L ∧ h = h0
theorem ef_16 (m : MethodId) (x0 : Addr) : entryFrame m #[(.ref x0)] 1 = mkF m 0 #[.val (.ref x0)] [] := by first | (simp [entryFrame, mkF, argsToLocals, Value.category]; done) | rfl
theorem rm16 (l : Launch) (Z : State) (a0 : Array Value) (hw : ∀ d ∈ tables_1, d.before a0 Z = true) (ws : List Jvm.Cond) (a1 : Addr) (zC : Int32) (h0 : Heap) (n0 : Nat) (O0 : Old Z n0 h0) (hCS : ¬ zC = 0) (sC : TS_0 Z zC) (F_coder_a1 : Fld Z h0 a1 "java/lang/String" "coder" "B" (.int (0 : Int32))) :
    MetFree l m_0 (head1 (Jvm.Cond.code m_0 jdk_42_method_152_code 1 (some .byte) :: ws) (rk 0 0 0 0)) (fun a U => a = #[(.ref a1)] ∧ Z.Warmed39 U.vm ∧ U.heap = h0) (fun _ _ _ _ _ => True) (fun _ U o U' => ∃ v L, o = .returned v ∧ Q16 Z a1 zC h0 n0 v U'.heap L ∧ FrameEnd U o U' L (rk 0 0 0 0).cells (rk 0 0 0 0).slots) := by
  refine MetFree.of_bodySF (plainFor_of_name pn_0) hisR ?_
  intro p e s m args below meth c s₁ Bd hml0 hP hK
  obtain ⟨rfl, hZ, hh⟩ := hP
  have hx := Bd.exec
  have hby := Bd.bytes
  have hml : c.maxLocals = 1 := hml0
  have hown : s.vm.findClass "java/lang/String" = some m.cls := findClass_of_methodNamed Bd.named
  have X0 : Stand p l e (rk 0 0 0 0) s m #[(.ref a1)] below meth c s₁ [] 0 0 := Stand.of_body Bd
  have e0 : s₁.heap = h0 := by rw [← hh, Bd.state]; rfl
  have N0 := Fr.nil n0
  have pre0 := own_pre (tb := p.tables) (e := e) (bl := below) (s := s₁) (ef_16 m a1)
  obtain ⟨T1, X1, e1, st1⟩ := getS2 X0 hx hZ hown (host := "") (Or.inl (tw hw 14 rfl)) Via.refl e0 (sC.ext O0.2) (g := (mkF m 0 #[Rf a1] [])) rfl (hb hby d16_0)
  obtain ⟨T2, X2, e2, st2⟩ := getF X1 hx hZ hown (host := "") (Or.inl (tw hw 26 rfl)) Via.refl e1 F_coder_a1 (g := (mkF m 7 #[Rf a1] [(.ref a1)])) rfl rfl (hb hby d16_7)
  have sg3 : SG p.tables e below (T2.setTop (mkF m 14 #[Rf a1] [(.int (0 : Int32))])) (s₁.setTop (mkF m 0 #[Rf a1] [])) := by
    intro target kt
    show Steps _ _ _ (s₁.setTop (mkF m 0 #[Rf a1] [])) _
    refine st1 _ ?_
    refine XS.ifNo X1.here hx rfl (hb hby d16_3) rfl ((if0 _ _).trans (feq hCS).1) ?_
    refine XS.aloadN X1.here hx rfl (hb hby d16_6) rfl rfl ?_
    refine st2 _ ?_
    refine XS.goto X2.here hx rfl (pc0 := 10) (pc' := 14) rfl (hb hby d16_10) (by decide) (by decide) ?_
    exact kt
  obtain ⟨fs, hr, hrun, hended, hW, hsame⟩ := X2.leave (v := some (.int (0 : Int32))) (fun h => by rw [Bd.returns] at h; cases h)
  refine ⟨_, _, pre0 _ (sg3 _ (?_)), hrun, hended, _, _, rfl, ?_, ⟨_, rfl⟩, hW, hsame.mono (by decide) (by decide)⟩
  · show Steps _ _ _ (T2.setTop (mkF m 14 #[Rf a1] [(.int (0 : Int32))])) _
    exact retN X2 hx (t := .byte) Bd.returns (by simp) (hb hby d16_14) hr
  · show Q16 Z a1 zC h0 n0 _ T2.heap _
    rw [e2]
    exact ⟨rfl, N0, rfl⟩
def Q38 (Z : State) (a1 : Addr) (zC : Int32) (h0 : Heap) (n0 : Nat) (v : Option Value) (h : Heap) (L : List Loc) : Prop := v = some (.int (1 : Int32)) ∧ Fr n0 L ∧ h = h0
theorem rm38 (l : Launch) (Z : State) (a0 : Array Value) (hw : ∀ d ∈ tables_1, d.before a0 Z = true) (ws : List Jvm.Cond) (a1 : Addr) (zC : Int32) (h0 : Heap) (n0 : Nat) (O0 : Old Z n0 h0) (hCS : ¬ zC = 0) (sC : TS_0 Z zC) (F_coder_a1 : Fld Z h0 a1 "java/lang/String" "coder" "B" (.int (0 : Int32))) :
    MetFree l m_1 (head1 (Jvm.Cond.code m_1 jdk_42_method_154_code 1 (some .boolean) :: ws) (rk 0 0 0 0)) (fun a U => a = #[(.ref a1)] ∧ Z.Warmed39 U.vm ∧ U.heap = h0) (fun _ _ _ _ _ => True) (fun _ U o U' => ∃ v L, o = .returned v ∧ Q38 Z a1 zC h0 n0 v U'.heap L ∧ FrameEnd U o U' L (rk 0 0 0 0).cells (rk 0 0 0 0).slots) := by
  refine MetFree.of_bodySF (plainFor_of_name pn_0) hisR ?_
  intro p e s m args below meth c s₁ Bd hml0 hP hK
  obtain ⟨rfl, hZ, hh⟩ := hP
  have hx := Bd.exec
  have hby := Bd.bytes
  have hml : c.maxLocals = 1 := hml0
  have hown : s.vm.findClass "java/lang/String" = some m.cls := findClass_of_methodNamed Bd.named
  have X0 : Stand p l e (rk 0 0 0 0) s m #[(.ref a1)] below meth c s₁ [] 0 0 := Stand.of_body Bd
  have e0 : s₁.heap = h0 := by rw [← hh, Bd.state]; rfl
  have N0 := Fr.nil n0
  have pre0 := own_pre (tb := p.tables) (e := e) (bl := below) (s := s₁) (ef_16 m a1)
  obtain ⟨T1, X1, e1, st1⟩ := getS2 X0 hx hZ hown (host := "") (Or.inl (tw hw 14 rfl)) Via.refl e0 (sC.ext O0.2) (g := (mkF m 0 #[Rf a1] [])) rfl (hb hby d38_0)
  obtain ⟨T2, X2, e2, st2⟩ := getF X1 hx hZ hown (host := "") (Or.inl (tw hw 26 rfl)) Via.refl e1 F_coder_a1 (g := (mkF m 7 #[Rf a1] [(.ref a1)])) rfl rfl (hb hby d38_7)
  have sg3 : SG p.tables e below (T2.setTop (mkF m 18 #[Rf a1] [(.int (1 : Int32))])) (s₁.setTop (mkF m 0 #[Rf a1] [])) := by
    intro target kt
    show Steps _ _ _ (s₁.setTop (mkF m 0 #[Rf a1] [])) _
    refine st1 _ ?_
    refine XS.ifNo X1.here hx rfl (hb hby d38_3) rfl ((if0 _ _).trans (feq hCS).1) ?_
    refine XS.aloadN X1.here hx rfl (hb hby d38_6) rfl rfl ?_
    refine st2 _ ?_
    refine XS.ifNo X2.here hx rfl (hb hby d38_10) rfl ((if0 _ _).trans (teq (by decide : (0 : Int32) = (0 : Int32))).2) ?_
    refine XS.iconst X2.here hx rfl (hb hby d38_13) ?_
    refine XS.goto X2.here hx rfl (pc0 := 14) (pc' := 18) rfl (hb hby d38_14) (by decide) (by decide) ?_
    exact kt
  obtain ⟨fs, hr, hrun, hended, hW, hsame⟩ := X2.leave (v := some (.int (1 : Int32))) (fun h => by rw [Bd.returns] at h; cases h)
  refine ⟨_, _, pre0 _ (sg3 _ (?_)), hrun, hended, _, _, rfl, ?_, ⟨_, rfl⟩, hW, hsame.mono (by decide) (by decide)⟩
  · show Steps _ _ _ (T2.setTop (mkF m 18 #[Rf a1] [(.int (1 : Int32))])) _
    exact retN X2 hx (t := .boolean) Bd.returns (by simp) (hb hby d38_18) hr
  · show Q38 Z a1 zC h0 n0 _ T2.heap _
    rw [e2]
    exact ⟨rfl, N0, rfl⟩
def Q15 (Z : State) (a1 : Addr) (tv : Addr) (zm : Int32) (us : List Value) (zC : Int32) (kt : ClassId) (h0 : Heap) (n0 : Nat) (v : Option Value) (h : Heap) (L : List Loc) : Prop := v = some (.int zm) ∧ Fr n0 L ∧ h = h0
theorem rm15 (l : Launch) (Z : State) (a0 : Array Value) (hw : ∀ d ∈ tables_1, d.before a0 Z = true) (ws : List Jvm.Cond) (a1 : Addr) (tv : Addr) (zm : Int32) (us : List Value) (zC : Int32) (kt : ClassId) (h0 : Heap) (n0 : Nat) (O0 : Old Z n0 h0) (hCS : ¬ zC = 0) (sC : TS_0 Z zC) (E_a1 : Exa Z h0 a1 "java/lang/String") (F_coder_a1 : Fld Z h0 a1 "java/lang/String" "coder" "B" (.int (0 : Int32))) (F_value_a1 : Fld Z h0 a1 "java/lang/String" "value" "[B" (.ref tv)) (A_tv : Arv Z h0 tv kt .byte zm us (.int (0 : Int32))) :
    MetFree l m_2 (head1 (Jvm.Cond.code m_2 jdk_42_method_54_code 1 (some .int) :: ws) (rk 1 0 0 13)) (fun a U => a = #[(.ref a1)] ∧ Z.Warmed39 U.vm ∧ U.heap = h0) (fun _ _ _ _ _ => True) (fun _ U o U' => ∃ v L, o = .returned v ∧ Q15 Z a1 tv zm us zC kt h0 n0 v U'.heap L ∧ FrameEnd U o U' L (rk 1 0 0 13).cells (rk 1 0 0 13).slots) := by
  refine MetFree.of_bodySF (plainFor_of_name pn_0) hisR ?_
  intro p e s m args below meth c s₁ Bd hml0 hP hK
  obtain ⟨rfl, hZ, hh⟩ := hP
  have hx := Bd.exec
  have hby := Bd.bytes
  have hml : c.maxLocals = 1 := hml0
  have hown : s.vm.findClass "java/lang/String" = some m.cls := findClass_of_methodNamed Bd.named
  have X0 : Stand p l e (rk 1 0 0 13) s m #[(.ref a1)] below meth c s₁ [] 0 0 := Stand.of_body Bd
  have e0 : s₁.heap = h0 := by rw [← hh, Bd.state]; rfl
  have N0 := Fr.nil n0
  have pre0 := own_pre (tb := p.tables) (e := e) (bl := below) (s := s₁) (ef_16 m a1)
  obtain ⟨T1, X1, e1, st1⟩ := getF X0 hx hZ hown (host := "") (Or.inl (tw hw 28 rfl)) Via.refl e0 F_value_a1 (g := (mkF m 1 #[Rf a1] [(.ref a1)])) rfl rfl (hb hby d15_1)
  obtain ⟨cl2, Ar2, -, Sz2, Nn2, -, -⟩ := id A_tv
  obtain ⟨cq3, kq3, q3a, q3b, q3c⟩ := isOf hZ e1 E_a1
  obtain ⟨_, _, ⟨T3, L3, k3, n3⟩, -, X3, ⟨Lc3, hQ3, l3, y3, z3⟩, st3⟩ := X1.virtualBack hx (y := m_0) (z := m_0) hown (mvT hZ (tw hw 93 rfl)) (mvT hZ (tw hw 94 rfl)) (notFace_of_selects (args := #[]) (mvT hZ (tw hw 96 rfl))) (mvT hZ (tw hw 96 rfl)) (mvT hZ (tw hw 95 rfl)) (by decide) (backOf (W := 1) (rm16 l Z a0 hw [] a1 zC h0 n0 O0 hCS sC F_coder_a1) hZ (tw hw 97 rfl) (tw hw 3 rfl) (by decide) (by decide)) q3a q3c (g := (mkF m 6 #[Rf a1] [(.ref a1), (.int zm)])) rfl (by rw [hml]; rfl) (Steps.refl _) (argsL := []) (rest := [(.int zm)]) (lenOf pd_0 rfl) rfl (w0 rfl) (hb hby d15_6) (fun _ _ => ⟨rfl, e1, (by decide : 0 + 0 ≤ _), (by decide : 0 + 0 ≤ _)⟩)
  dsimp only [Pt.U, Pt.locs, Pt.cells, Pt.slots] at X3 l3 y3 z3 st3 hQ3
  subst l3 y3 z3
  obtain ⟨rfl, N3q, e3⟩ := hQ3
  have N3 := Fr.app N0 N3q
  have sg4 : SG p.tables e below (T3.setTop (mkF m 10 #[Rf a1] [(.int (zm >>> ((0 : Int32) &&& 31)))])) (s₁.setTop (mkF m 0 #[Rf a1] [])) := by
    intro target kt
    show Steps _ _ _ (s₁.setTop (mkF m 0 #[Rf a1] [])) _
    refine XS.aloadN X0.here hx rfl (hb hby d15_0) rfl rfl ?_
    refine st1 _ ?_
    refine X1.arraylength hx (own_rwh e1 Ar2.1) (State.isArrayOf_alike hZ.alike Ar2.2.1) (g := (mkF m 4 #[Rf a1] [(.ref tv)])) rfl rfl (hb hby d15_4) _ ?_
    rw [len_of Sz2 Nn2]
    show Steps _ _ _ (T1.setTop (mkF m 5 #[Rf a1] [(.int zm)])) _
    refine XS.aloadN X1.here hx rfl (hb hby d15_5) rfl rfl ?_
    refine st3.trans ?_
    refine XS.ishr X3.here hx rfl (hb hby d15_9) rfl ?_
    exact kt
  obtain ⟨fs, hr, hrun, hended, hW, hsame⟩ := X3.leave (v := some (.int (zm >>> ((0 : Int32) &&& 31)))) (fun h => by rw [Bd.returns] at h; cases h)
  refine ⟨_, _, pre0 _ (sg4 _ (?_)), hrun, hended, _, _, rfl, ?_, ⟨_, rfl⟩, hW, hsame.mono (by decide) (by decide)⟩
  · show Steps _ _ _ (T3.setTop (mkF m 10 #[Rf a1] [(.int (zm >>> ((0 : Int32) &&& 31)))])) _
    exact retI X3 hx Bd.returns (hb hby d15_10) hr
  · show Q15 Z a1 tv zm us zC kt h0 n0 _ T3.heap _
    rw [e3]
    exact ⟨(by rw [own_sh0]), N3, rfl⟩
def Q11_n (Z : State) (a1 : Addr) (tv : Addr) (zm : Int32) (us : List Value) (kt : ClassId) (h0 : Heap) (n0 : Nat) (v : Option Value) (h : Heap) (L : List Loc) : Prop := v = some (.int (0 : Int32)) ∧ Fr n0 L ∧ h = h0
theorem rm11_n (l : Launch) (Z : State) (a0 : Array Value) (hw : ∀ d ∈ tables_1, d.before a0 Z = true) (ws : List Jvm.Cond) (a1 : Addr) (tv : Addr) (zm : Int32) (us : List Value) (kt : ClassId) (h0 : Heap) (n0 : Nat) (O0 : Old Z n0 h0) (h_ne : ¬ zm = (0 : Int32)) (E_a1 : Exa Z h0 a1 "java/lang/String") (F_coder_a1 : Fld Z h0 a1 "java/lang/String" "coder" "B" (.int (0 : Int32))) (F_value_a1 : Fld Z h0 a1 "java/lang/String" "value" "[B" (.ref tv)) (A_tv : Arv Z h0 tv kt .byte zm us (.int (0 : Int32))) :
    MetFree l m_3 (head1 (Jvm.Cond.code m_3 jdk_42_method_55_code 1 (some .boolean) :: ws) (rk 0 0 0 0)) (fun a U => a = #[(.ref a1)] ∧ Z.Warmed39 U.vm ∧ U.heap = h0) (fun _ _ _ _ _ => True) (fun _ U o U' => ∃ v L, o = .returned v ∧ Q11_n Z a1 tv zm us kt h0 n0 v U'.heap L ∧ FrameEnd U o U' L (rk 0 0 0 0).cells (rk 0 0 0 0).slots) := by
  refine MetFree.of_bodySF (plainFor_of_name pn_0) hisR ?_
  intro p e s m args below meth c s₁ Bd hml0 hP hK
  obtain ⟨rfl, hZ, hh⟩ := hP
  have hx := Bd.exec
  have hby := Bd.bytes
  have hml : c.maxLocals = 1 := hml0
  have hown : s.vm.findClass "java/lang/String" = some m.cls := findClass_of_methodNamed Bd.named
  have X0 : Stand p l e (rk 0 0 0 0) s m #[(.ref a1)] below meth c s₁ [] 0 0 := Stand.of_body Bd
  have e0 : s₁.heap = h0 := by rw [← hh, Bd.state]; rfl
  have N0 := Fr.nil n0
  have pre0 := own_pre (tb := p.tables) (e := e) (bl := below) (s := s₁) (ef_16 m a1)
  obtain ⟨T1, X1, e1, st1⟩ := getF X0 hx hZ hown (host := "") (Or.inl (tw hw 28 rfl)) Via.refl e0 F_value_a1 (g := (mkF m 1 #[Rf a1] [(.ref a1)])) rfl rfl (hb hby d11_1)
  obtain ⟨cl2, Ar2, -, Sz2, Nn2, -, -⟩ := id A_tv
  have sg3 : SG p.tables e below (T1.setTop (mkF m 13 #[Rf a1] [(.int (0 : Int32))])) (s₁.setTop (mkF m 0 #[Rf a1] [])) := by
    intro target kt
    show Steps _ _ _ (s₁.setTop (mkF m 0 #[Rf a1] [])) _
    refine XS.aloadN X0.here hx rfl (hb hby d11_0) rfl rfl ?_
    refine st1 _ ?_
    refine X1.arraylength hx (own_rwh e1 Ar2.1) (State.isArrayOf_alike hZ.alike Ar2.2.1) (g := (mkF m 4 #[Rf a1] [(.ref tv)])) rfl rfl (hb hby d11_4) _ ?_
    rw [len_of Sz2 Nn2]
    show Steps _ _ _ (T1.setTop (mkF m 5 #[Rf a1] [(.int zm)])) _
    refine XS.ifYes X1.here hx rfl (pc0 := 5) (pc' := 12) rfl (hb hby d11_5) rfl ((if0 _ _).trans (feq h_ne).2) (by decide) (by decide) ?_
    refine XS.iconst X1.here hx rfl (hb hby d11_12) ?_
    exact kt
  obtain ⟨fs, hr, hrun, hended, hW, hsame⟩ := X1.leave (v := some (.int (0 : Int32))) (fun h => by rw [Bd.returns] at h; cases h)
  refine ⟨_, _, pre0 _ (sg3 _ (?_)), hrun, hended, _, _, rfl, ?_, ⟨_, rfl⟩, hW, hsame.mono (by decide) (by decide)⟩
  · show Steps _ _ _ (T1.setTop (mkF m 13 #[Rf a1] [(.int (0 : Int32))])) _
    exact retN X1 hx (t := .boolean) Bd.returns (by simp) (hb hby d11_13) hr
  · show Q11_n Z a1 tv zm us kt h0 n0 _ T1.heap _
    rw [e1]
    exact ⟨rfl, N0, rfl⟩
def Q11_e (Z : State) (a1 : Addr) (tv : Addr) (us : List Value) (kt : ClassId) (h0 : Heap) (n0 : Nat) (v : Option Value) (h : Heap) (L : List Loc) : Prop := v = some (.int (1 : Int32)) ∧ Fr n0 L ∧ h = h0
theorem rm11_e (l : Launch) (Z : State) (a0 : Array Value) (hw : ∀ d ∈ tables_1, d.before a0 Z = true) (ws : List Jvm.Cond) (a1 : Addr) (tv : Addr) (us : List Value) (kt : ClassId) (h0 : Heap) (n0 : Nat) (O0 : Old Z n0 h0) (E_a1 : Exa Z h0 a1 "java/lang/String") (F_coder_a1 : Fld Z h0 a1 "java/lang/String" "coder" "B" (.int (0 : Int32))) (F_value_a1 : Fld Z h0 a1 "java/lang/String" "value" "[B" (.ref tv)) (A_tv : Arv Z h0 tv kt .byte (0 : Int32) us (.int (0 : Int32))) :
    MetFree l m_3 (head1 (Jvm.Cond.code m_3 jdk_42_method_55_code 1 (some .boolean) :: ws) (rk 0 0 0 0)) (fun a U => a = #[(.ref a1)] ∧ Z.Warmed39 U.vm ∧ U.heap = h0) (fun _ _ _ _ _ => True) (fun _ U o U' => ∃ v L, o = .returned v ∧ Q11_e Z a1 tv us kt h0 n0 v U'.heap L ∧ FrameEnd U o U' L (rk 0 0 0 0).cells (rk 0 0 0 0).slots) := by
  refine MetFree.of_bodySF (plainFor_of_name pn_0) hisR ?_
  intro p e s m args below meth c s₁ Bd hml0 hP hK
  obtain ⟨rfl, hZ, hh⟩ := hP
  have hx := Bd.exec
  have hby := Bd.bytes
  have hml : c.maxLocals = 1 := hml0
  have hown : s.vm.findClass "java/lang/String" = some m.cls := findClass_of_methodNamed Bd.named
  have X0 : Stand p l e (rk 0 0 0 0) s m #[(.ref a1)] below meth c s₁ [] 0 0 := Stand.of_body Bd
  have e0 : s₁.heap = h0 := by rw [← hh, Bd.state]; rfl
  have N0 := Fr.nil n0
  have pre0 := own_pre (tb := p.tables) (e := e) (bl := below) (s := s₁) (ef_16 m a1)
  obtain ⟨T1, X1, e1, st1⟩ := getF X0 hx hZ hown (host := "") (Or.inl (tw hw 28 rfl)) Via.refl e0 F_value_a1 (g := (mkF m 1 #[Rf a1] [(.ref a1)])) rfl rfl (hb hby d11_1)
  obtain ⟨cl2, Ar2, -, Sz2, Nn2, -, -⟩ := id A_tv
  have sg3 : SG p.tables e below (T1.setTop (mkF m 13 #[Rf a1] [(.int (1 : Int32))])) (s₁.setTop (mkF m 0 #[Rf a1] [])) := by
    intro target kt
    show Steps _ _ _ (s₁.setTop (mkF m 0 #[Rf a1] [])) _
    refine XS.aloadN X0.here hx rfl (hb hby d11_0) rfl rfl ?_
    refine st1 _ ?_
    refine X1.arraylength hx (own_rwh e1 Ar2.1) (State.isArrayOf_alike hZ.alike Ar2.2.1) (g := (mkF m 4 #[Rf a1] [(.ref tv)])) rfl rfl (hb hby d11_4) _ ?_
    rw [len_of Sz2 Nn2]
    show Steps _ _ _ (T1.setTop (mkF m 5 #[Rf a1] [(.int (0 : Int32))])) _
    refine XS.ifNo X1.here hx rfl (hb hby d11_5) rfl ((if0 _ _).trans (teq (by decide : (0 : Int32) = (0 : Int32))).2) ?_
    refine XS.iconst X1.here hx rfl (hb hby d11_8) ?_
    refine XS.goto X1.here hx rfl (pc0 := 9) (pc' := 13) rfl (hb hby d11_9) (by decide) (by decide) ?_
    exact kt
  obtain ⟨fs, hr, hrun, hended, hW, hsame⟩ := X1.leave (v := some (.int (1 : Int32))) (fun h => by rw [Bd.returns] at h; cases h)
  refine ⟨_, _, pre0 _ (sg3 _ (?_)), hrun, hended, _, _, rfl, ?_, ⟨_, rfl⟩, hW, hsame.mono (by decide) (by decide)⟩
  · show Steps _ _ _ (T1.setTop (mkF m 13 #[Rf a1] [(.int (1 : Int32))])) _
    exact retN X1 hx (t := .boolean) Bd.returns (by simp) (hb hby d11_13) hr
  · show Q11_e Z a1 tv us kt h0 n0 _ T1.heap _
    rw [e1]
    exact ⟨rfl, N0, rfl⟩
def Q23 (Z : State) (a1 : Addr) (zC : Int32) (h0 : Heap) (n0 : Nat) (v : Option Value) (h : Heap) (L : List Loc) : Prop := v = some (.int (1 : Int32)) ∧ Fr n0 L ∧ h = h0
theorem rm23 (l : Launch) (Z : State) (a0 : Array Value) (hw : ∀ d ∈ tables_1, d.before a0 Z = true) (ws : List Jvm.Cond) (a1 : Addr) (zC : Int32) (h0 : Heap) (n0 : Nat) (O0 : Old Z n0 h0) (hCS : ¬ zC = 0) (sC : TS_0 Z zC) (F_coder_a1 : Fld Z h0 a1 "java/lang/AbstractStringBuilder" "coder" "B" (.int (0 : Int32))) :
    MetFree l m_4 (head1 (Jvm.Cond.code m_4 jdk_68_method_68_code 1 (some .boolean) :: ws) (rk 0 0 0 0)) (fun a U => a = #[(.ref a1)] ∧ Z.Warmed39 U.vm ∧ U.heap = h0) (fun _ _ _ _ _ => True) (fun _ U o U' => ∃ v L, o = .returned v ∧ Q23 Z a1 zC h0 n0 v U'.heap L ∧ FrameEnd U o U' L (rk 0 0 0 0).cells (rk 0 0 0 0).slots) := by
  refine MetFree.of_bodySF (plainFor_of_name pn_1) hisR ?_
  intro p e s m args below meth c s₁ Bd hml0 hP hK
  obtain ⟨rfl, hZ, hh⟩ := hP
  have hx := Bd.exec
  have hby := Bd.bytes
  have hml : c.maxLocals = 1 := hml0
  have hown : s.vm.findClass "java/lang/AbstractStringBuilder" = some m.cls := findClass_of_methodNamed Bd.named
  have X0 : Stand p l e (rk 0 0 0 0) s m #[(.ref a1)] below meth c s₁ [] 0 0 := Stand.of_body Bd
  have e0 : s₁.heap = h0 := by rw [← hh, Bd.state]; rfl
  have N0 := Fr.nil n0
  have pre0 := own_pre (tb := p.tables) (e := e) (bl := below) (s := s₁) (ef_16 m a1)
  obtain ⟨T1, X1, e1, st1⟩ := getS2 X0 hx hZ hown (host := "") (Or.inl (tw hw 50 rfl)) Via.refl e0 (sC.ext O0.2) (g := (mkF m 0 #[Rf a1] [])) rfl (hb hby d23_0)
  obtain ⟨T2, X2, e2, st2⟩ := getF X1 hx hZ hown (host := "") (Or.inl (tw hw 53 rfl)) Via.refl e1 F_coder_a1 (g := (mkF m 7 #[Rf a1] [(.ref a1)])) rfl rfl (hb hby d23_7)
  have sg3 : SG p.tables e below (T2.setTop (mkF m 18 #[Rf a1] [(.int (1 : Int32))])) (s₁.setTop (mkF m 0 #[Rf a1] [])) := by
    intro target kt
    show Steps _ _ _ (s₁.setTop (mkF m 0 #[Rf a1] [])) _
    refine st1 _ ?_
    refine XS.ifNo X1.here hx rfl (hb hby d23_3) rfl ((if0 _ _).trans (feq hCS).1) ?_
    refine XS.aloadN X1.here hx rfl (hb hby d23_6) rfl rfl ?_
    refine st2 _ ?_
    refine XS.ifNo X2.here hx rfl (hb hby d23_10) rfl ((if0 _ _).trans (teq (by decide : (0 : Int32) = (0 : Int32))).2) ?_
    refine XS.iconst X2.here hx rfl (hb hby d23_13) ?_
    refine XS.goto X2.here hx rfl (pc0 := 14) (pc' := 18) rfl (hb hby d23_14) (by decide) (by decide) ?_
    exact kt
  obtain ⟨fs, hr, hrun, hended, hW, hsame⟩ := X2.leave (v := some (.int (1 : Int32))) (fun h => by rw [Bd.returns] at h; cases h)
  refine ⟨_, _, pre0 _ (sg3 _ (?_)), hrun, hended, _, _, rfl, ?_, ⟨_, rfl⟩, hW, hsame.mono (by decide) (by decide)⟩
  · show Steps _ _ _ (T2.setTop (mkF m 18 #[Rf a1] [(.int (1 : Int32))])) _
    exact retN X2 hx (t := .boolean) Bd.returns (by simp) (hb hby d23_18) hr
  · show Q23 Z a1 zC h0 n0 _ T2.heap _
    rw [e2]
    exact ⟨rfl, N0, rfl⟩
def Q29 (Z : State) (a1 : Addr) (arr : Addr) (h0 : Heap) (n0 : Nat) (v : Option Value) (h : Heap) (L : List Loc) : Prop := v = some (.ref arr) ∧ Fr n0 L ∧ h = h0
theorem rm29 (l : Launch) (Z : State) (a0 : Array Value) (hw : ∀ d ∈ tables_1, d.before a0 Z = true) (ws : List Jvm.Cond) (a1 : Addr) (arr : Addr) (h0 : Heap) (n0 : Nat) (O0 : Old Z n0 h0) (F_value_a1 : Fld Z h0 a1 "java/lang/AbstractStringBuilder" "value" "[B" (.ref arr)) :
    MetFree l m_5 (head1 (Jvm.Cond.code m_5 jdk_68_method_64_code 1 (some (.array .byte)) :: ws) (rk 0 0 0 0)) (fun a U => a = #[(.ref a1)] ∧ Z.Warmed39 U.vm ∧ U.heap = h0) (fun _ _ _ _ _ => True) (fun _ U o U' => ∃ v L, o = .returned v ∧ Q29 Z a1 arr h0 n0 v U'.heap L ∧ FrameEnd U o U' L (rk 0 0 0 0).cells (rk 0 0 0 0).slots) := by
  refine MetFree.of_bodySF (plainFor_of_name pn_1) hisR ?_
  intro p e s m args below meth c s₁ Bd hml0 hP hK
  obtain ⟨rfl, hZ, hh⟩ := hP
  have hx := Bd.exec
  have hby := Bd.bytes
  have hml : c.maxLocals = 1 := hml0
  have hown : s.vm.findClass "java/lang/AbstractStringBuilder" = some m.cls := findClass_of_methodNamed Bd.named
  have X0 : Stand p l e (rk 0 0 0 0) s m #[(.ref a1)] below meth c s₁ [] 0 0 := Stand.of_body Bd
  have e0 : s₁.heap = h0 := by rw [← hh, Bd.state]; rfl
  have N0 := Fr.nil n0
  have pre0 := own_pre (tb := p.tables) (e := e) (bl := below) (s := s₁) (ef_16 m a1)
  obtain ⟨T1, X1, e1, st1⟩ := getF X0 hx hZ hown (host := "") (Or.inl (tw hw 51 rfl)) Via.refl e0 F_value_a1 (g := (mkF m 1 #[Rf a1] [(.ref a1)])) rfl rfl (hb hby d29_1)
  have sg2 : SG p.tables e below (T1.setTop (mkF m 4 #[Rf a1] [(.ref arr)])) (s₁.setTop (mkF m 0 #[Rf a1] [])) := by
    intro target kt
    show Steps _ _ _ (s₁.setTop (mkF m 0 #[Rf a1] [])) _
    refine XS.aloadN X0.here hx rfl (hb hby d29_0) rfl rfl ?_
    refine st1 _ ?_
    exact kt
  obtain ⟨fs, hr, hrun, hended, hW, hsame⟩ := X1.leave (v := some (.ref arr)) (fun h => by rw [Bd.returns] at h; cases h)
  refine ⟨_, _, pre0 _ (sg2 _ (?_)), hrun, hended, _, _, rfl, ?_, ⟨_, rfl⟩, hW, hsame.mono (by decide) (by decide)⟩
  · show Steps _ _ _ (T1.setTop (mkF m 4 #[Rf a1] [(.ref arr)])) _
    jvm_step X1.here [X1.here.top, hx, (hb hby d29_4), X1.method', Bd.returns, Value.isRef, FieldType.isReference]
    first | (intro acts; rw [hr _ acts rfl rfl rfl]) | rw [hr _ _ rfl rfl rfl]
    exact Steps.refl _
  · show Q29 Z a1 arr h0 n0 _ T1.heap _
    rw [e1]
    exact ⟨rfl, N0, rfl⟩
def Q31 (Z : State) (a1 : Addr) (cn : Int32) (h0 : Heap) (n0 : Nat) (v : Option Value) (h : Heap) (L : List Loc) : Prop := v = some (.int cn) ∧ Fr n0 L ∧ h = h0
theorem rm31 (l : Launch) (Z : State) (a0 : Array Value) (hw : ∀ d ∈ tables_1, d.before a0 Z = true) (ws : List Jvm.Cond) (a1 : Addr) (cn : Int32) (h0 : Heap) (n0 : Nat) (O0 : Old Z n0 h0) (F_count_a1 : Fld Z h0 a1 "java/lang/AbstractStringBuilder" "count" "I" (.int cn)) :
    MetFree l m_6 (head1 (Jvm.Cond.code m_6 jdk_68_method_6_code 1 (some .int) :: ws) (rk 0 0 0 0)) (fun a U => a = #[(.ref a1)] ∧ Z.Warmed39 U.vm ∧ U.heap = h0) (fun _ _ _ _ _ => True) (fun _ U o U' => ∃ v L, o = .returned v ∧ Q31 Z a1 cn h0 n0 v U'.heap L ∧ FrameEnd U o U' L (rk 0 0 0 0).cells (rk 0 0 0 0).slots) := by
  refine MetFree.of_bodySF (plainFor_of_name pn_1) hisR ?_
  intro p e s m args below meth c s₁ Bd hml0 hP hK
  obtain ⟨rfl, hZ, hh⟩ := hP
  have hx := Bd.exec
  have hby := Bd.bytes
  have hml : c.maxLocals = 1 := hml0
  have hown : s.vm.findClass "java/lang/AbstractStringBuilder" = some m.cls := findClass_of_methodNamed Bd.named
  have X0 : Stand p l e (rk 0 0 0 0) s m #[(.ref a1)] below meth c s₁ [] 0 0 := Stand.of_body Bd
  have e0 : s₁.heap = h0 := by rw [← hh, Bd.state]; rfl
  have N0 := Fr.nil n0
  have pre0 := own_pre (tb := p.tables) (e := e) (bl := below) (s := s₁) (ef_16 m a1)
  obtain ⟨T1, X1, e1, st1⟩ := getF X0 hx hZ hown (host := "") (Or.inl (tw hw 98 rfl)) Via.refl e0 F_count_a1 (g := (mkF m 1 #[Rf a1] [(.ref a1)])) rfl rfl (hb hby d31_1)
  have sg2 : SG p.tables e below (T1.setTop (mkF m 4 #[Rf a1] [(.int cn)])) (s₁.setTop (mkF m 0 #[Rf a1] [])) := by
    intro target kt
    show Steps _ _ _ (s₁.setTop (mkF m 0 #[Rf a1] [])) _
    refine XS.aloadN X0.here hx rfl (hb hby d31_0) rfl rfl ?_
    refine st1 _ ?_
    exact kt
  obtain ⟨fs, hr, hrun, hended, hW, hsame⟩ := X1.leave (v := some (.int cn)) (fun h => by rw [Bd.returns] at h; cases h)
  refine ⟨_, _, pre0 _ (sg2 _ (?_)), hrun, hended, _, _, rfl, ?_, ⟨_, rfl⟩, hW, hsame.mono (by decide) (by decide)⟩
  · show Steps _ _ _ (T1.setTop (mkF m 4 #[Rf a1] [(.int cn)])) _
    exact retI X1 hx Bd.returns (hb hby d31_4) hr
  · show Q31 Z a1 cn h0 n0 _ T1.heap _
    rw [e1]
    exact ⟨rfl, N0, rfl⟩
def Q30 (Z : State) (a1 : Addr) (cn : Int32) (h0 : Heap) (n0 : Nat) (v : Option Value) (h : Heap) (L : List Loc) : Prop := v = some (.int cn) ∧ Fr n0 L ∧ h = h0
theorem rm30 (l : Launch) (Z : State) (a0 : Array Value) (hw : ∀ d ∈ tables_1, d.before a0 Z = true) (ws : List Jvm.Cond) (a1 : Addr) (cn : Int32) (h0 : Heap) (n0 : Nat) (O0 : Old Z n0 h0) (E_a1 : Exa Z h0 a1 "java/lang/StringBuilder") (F_count_a1 : Fld Z h0 a1 "java/lang/AbstractStringBuilder" "count" "I" (.int cn)) :
    MetFree l m_7 (head1 (Jvm.Cond.code m_7 jdk_67_method_93_code 1 (some .int) :: ws) (rk 1 0 0 12)) (fun a U => a = #[(.ref a1)] ∧ Z.Warmed39 U.vm ∧ U.heap = h0) (fun _ _ _ _ _ => True) (fun _ U o U' => ∃ v L, o = .returned v ∧ Q30 Z a1 cn h0 n0 v U'.heap L ∧ FrameEnd U o U' L (rk 1 0 0 12).cells (rk 1 0 0 12).slots) := by
  refine MetFree.of_bodySF (plainFor_of_name pn_2) hisR ?_
  intro p e s m args below meth c s₁ Bd hml0 hP hK
  obtain ⟨rfl, hZ, hh⟩ := hP
  have hx := Bd.exec
  have hby := Bd.bytes
  have hml : c.maxLocals = 1 := hml0
  have hown : s.vm.findClass "java/lang/StringBuilder" = some m.cls := findClass_of_methodNamed Bd.named
  have X0 : Stand p l e (rk 1 0 0 12) s m #[(.ref a1)] below meth c s₁ [] 0 0 := Stand.of_body Bd
  have e0 : s₁.heap = h0 := by rw [← hh, Bd.state]; rfl
  have N0 := Fr.nil n0
  have pre0 := own_pre (tb := p.tables) (e := e) (bl := below) (s := s₁) (ef_16 m a1)
  obtain ⟨_, _, ⟨T1, L1, k1, n1⟩, -, X1, ⟨Lc1, hQ1, l1, y1, z1⟩, st1⟩ := superBack X0 hx hZ (y := m_6) hown (tw hw 171 rfl) (own_same (y := m_6) (y2 := m_8) (tw hw 103 rfl) rfl (tw hw 167 rfl) (by decide)) (tw hw 167 rfl) (tw hw 85 rfl) (by decide) (backOf (W := 0) (rm31 l Z a0 hw [] a1 cn h0 n0 O0 F_count_a1) hZ (tw hw 172 rfl) (tw hw 47 rfl) (by decide) (by decide)) e0 (Ins.self E_a1) (g := (mkF m 1 #[Rf a1] [(.ref a1)])) rfl (by rw [hml]; rfl) (tw hw 172 rfl) (argsL := []) (rest := []) (lenOf pd_1 rfl) rfl (w0 rfl) (hb hby d30_1) (fun _ _ => ⟨rfl, e0, (by decide : 0 + 0 ≤ _), (by decide : 0 + 0 ≤ _)⟩)
  dsimp only [Pt.U, Pt.locs, Pt.cells, Pt.slots] at X1 l1 y1 z1 st1 hQ1
  subst l1 y1 z1
  obtain ⟨rfl, N1q, e1⟩ := hQ1
  have N1 := Fr.app N0 N1q
  have sg2 : SG p.tables e below (T1.setTop (mkF m 4 #[Rf a1] [(.int cn)])) (s₁.setTop (mkF m 0 #[Rf a1] [])) := by
    intro target kt
    show Steps _ _ _ (s₁.setTop (mkF m 0 #[Rf a1] [])) _
    refine XS.aloadN X0.here hx rfl (hb hby d30_0) rfl rfl ?_
    refine st1.trans ?_
    exact kt
  obtain ⟨fs, hr, hrun, hended, hW, hsame⟩ := X1.leave (v := some (.int cn)) (fun h => by rw [Bd.returns] at h; cases h)
  refine ⟨_, _, pre0 _ (sg2 _ (?_)), hrun, hended, _, _, rfl, ?_, ⟨_, rfl⟩, hW, hsame.mono (by decide) (by decide)⟩
  · show Steps _ _ _ (T1.setTop (mkF m 4 #[Rf a1] [(.int cn)])) _
    exact retI X1 hx Bd.returns (hb hby d30_4) hr
  · show Q30 Z a1 cn h0 n0 _ T1.heap _
    rw [e1]
    exact ⟨rfl, N1, rfl⟩
def Q9 (Z : State) (a1 : Addr) (zC : Int32) (h0 : Heap) (n0 : Nat) (v : Option Value) (h : Heap) (L : List Loc) : Prop := ∃ ro : Addr, ∃ ko : ClassId, v = none ∧ Fr n0 L ∧ Keep h0 h [a1] ∧ Old Z n0 h ∧ Fld Z h a1 "java/lang/AbstractStringBuilder" "value" "[B" (.ref ro) ∧ Fld Z h a1 "java/lang/AbstractStringBuilder" "coder" "B" (.int (0 : Int32)) ∧ Fld Z h a1 "java/lang/AbstractStringBuilder" "count" "I" (.int (0 : Int32)) ∧ Arv Z h ro ko .byte (16 : Int32) z16 (.int (0 : Int32)) ∧ n0 ≤ ro ∧ h0.size ≤ ro
theorem ef_9 (m : MethodId) (x0 : Addr) (x1 : Int32) : entryFrame m #[(.ref x0), (.int x1)] 2 = mkF m 0 #[.val (.ref x0), .val (.int x1)] [] := by first | (simp [entryFrame, mkF, argsToLocals, Value.category]; done) | rfl
theorem rm9 (l : Launch) (Z : State) (a0 : Array Value) (hw : ∀ d ∈ tables_1, d.before a0 Z = true) (ws : List Jvm.Cond) (a1 : Addr) (zC : Int32) (h0 : Heap) (n0 : Nat) (O0 : Old Z n0 h0) (sC : TS_0 Z zC) (E_a1 : Exa Z h0 a1 "java/lang/StringBuilder") (F_value_a1 : Fld Z h0 a1 "java/lang/AbstractStringBuilder" "value" "[B" .null) (F_coder_a1 : Fld Z h0 a1 "java/lang/AbstractStringBuilder" "coder" "B" (.int (0 : Int32))) (F_count_a1 : Fld Z h0 a1 "java/lang/AbstractStringBuilder" "count" "I" (.int (0 : Int32))) (ge_a1 : n0 ≤ a1) (hCS : ¬ zC = 0) :
    MetFree l m_9 (head1 (Jvm.Cond.code m_9 jdk_68_method_2_code 2 none :: ws) (rk 1 1 16 12)) (fun a U => a = #[(.ref a1), (.int (16 : Int32))] ∧ Z.Warmed39 U.vm ∧ U.heap = h0) (fun _ _ _ _ _ => True) (fun _ U o U' => ∃ v L, o = .returned v ∧ Q9 Z a1 zC h0 n0 v U'.heap L ∧ FrameEnd U o U' L (rk 1 1 16 12).cells (rk 1 1 16 12).slots) := by
  refine MetFree.of_bodySF (plainFor_of_name pn_1) hisR ?_
  intro p e s m args below meth c s₁ Bd hml0 hP hK
  obtain ⟨rfl, hZ, hh⟩ := hP
  have hx := Bd.exec
  have hby := Bd.bytes
  have hml : c.maxLocals = 2 := hml0
  have hown : s.vm.findClass "java/lang/AbstractStringBuilder" = some m.cls := findClass_of_methodNamed Bd.named
  have X0 : Stand p l e (rk 1 1 16 12) s m #[(.ref a1), (.int (16 : Int32))] below meth c s₁ [] 0 0 := Stand.of_body Bd
  have e0 : s₁.heap = h0 := by rw [← hh, Bd.state]; rfl
  have N0 := Fr.nil n0
  have pre0 := own_pre (tb := p.tables) (e := e) (bl := below) (s := s₁) (ef_9 m a1 (16 : Int32))
  have K0 := Keep.refl h0 [a1]
  obtain ⟨T1, X1, e1, st1⟩ := initO X0 hx hZ hown (tw hw 49 rfl) (tw hw 12 rfl) (tw hw 13 rfl) e0 (g := (mkF m 1 #[Rf a1, It (16 : Int32)] [(.ref a1)])) rfl (by rw [hml]; rfl) rfl (hb hby d9_1) (by decide) (W := 0) (w0 rfl) (by decide)
  obtain ⟨T2, X2, e2, st2⟩ := getS2 X1 hx hZ hown (host := "") (Or.inl (tw hw 50 rfl)) Via.refl e1 (sC.ext O0.2) (g := (mkF m 4 #[Rf a1, It (16 : Int32)] [])) rfl (hb hby d9_4)
  obtain ⟨T3, h3, k3, X3, e3, E3, A3, st3⟩ := newP X2 hx hZ (tw hw 19 rfl) e2 (g := (mkF m 12 #[Rf a1, It (16 : Int32)] [(.int (16 : Int32)), (.ref a1)])) rfl (hb hby d9_12) rfl (Sm.lit (x := (16 : Int32)) (n := 16) (by decide)).nn (cap := 16) (own_capn (Sm.lit (x := (16 : Int32)) (n := 16) (by decide)) (by decide)) (by decide) (by decide) (by decide)
  obtain ⟨b3, g3⟩ : ∃ z, z = h0.size := ⟨_, rfl⟩
  rw [← g3] at A3 st3
  have ge_b3 : n0 ≤ b3 := Nat.le_trans (own_osz O0) (Nat.le_of_eq g3.symm)
  have sz_b3 : h0.size ≤ b3 := Nat.le_trans K0.1 (Nat.le_of_eq g3.symm)
  have O4 := O0.ext E3
  have K3 := K0.ext E3
  have V_b3 : Arv Z h3 b3 k3 .byte (16 : Int32) z16 (.int (0 : Int32)) := (Arv.new A3 (Sm.lit (x := (16 : Int32)) (n := 16) (by decide)).nn).pad (pad_rep [] (.int (0 : Int32)) 16)
  obtain ⟨T5, h5, X5, e5, W5, st5⟩ := putF X3 hx hZ hown (host := "") (Or.inl (tw hw 51 rfl)) Via.refl e3 (F_value_a1.ext E3) (E_a1.ext E3) (Or.inl (tw hw 52 rfl)) (tw hw 38 rfl) (ty := (.array .byte)) (by decide) rfl rfl (g := (mkF m 14 #[Rf a1, It (16 : Int32)] [(.ref b3), (.ref a1)])) rfl rfl (hb hby d9_14)
  have Fw5 := (F_value_a1.ext E3).same W5
  have N5 := Fr.snoc X5 N0 ge_a1
  have O6 := O4.wr W5 ge_a1
  have K5 := K3.wr W5 (Or.inl (List.mem_of_getElem? (i := 0) rfl))
  obtain ⟨T7, h7, X7, e7, W7, st7⟩ := putFN X5 hx hZ hown (tw hw 53 rfl) Via.refl e5 ((F_coder_a1.ext E3).other W5 (sn .byte (.array .byte) (Or.inl (tw hw 54 rfl)) (Or.inl (tw hw 52 rfl)))) ((E_a1.ext E3).wr W5) (Or.inl (tw hw 54 rfl)) (tw hw 38 rfl) (ty := .byte) (v' := .int ((0 : Int32).toInt8.toInt32)) (by decide) rfl (fits_nar_byte _) (g := (mkF m 19 #[Rf a1, It (16 : Int32)] [(.int (0 : Int32)), (.ref a1)])) rfl rfl (hb hby d9_19)
  have Fw7 := ((F_coder_a1.ext E3).other W5 (sn .byte (.array .byte) (Or.inl (tw hw 54 rfl)) (Or.inl (tw hw 52 rfl)))).same W7
  have N7 := Fr.snoc X7 N5 ge_a1
  have O8 := O6.wr W7 ge_a1
  have K7 := K5.wr W7 (Or.inl (List.mem_of_getElem? (i := 0) rfl))
  have sg9 : SG p.tables e below (T7.setTop (mkF m 38 #[Rf a1, It (16 : Int32)] [])) (s₁.setTop (mkF m 0 #[Rf a1, It (16 : Int32)] [])) := by
    intro target kt
    show Steps _ _ _ (s₁.setTop (mkF m 0 #[Rf a1, It (16 : Int32)] [])) _
    refine XS.aloadN X0.here hx rfl (hb hby d9_0) rfl rfl ?_
    refine st1 _ ?_
    refine st2 _ ?_
    refine XS.ifNo X2.here hx rfl (hb hby d9_7) rfl ((if0 _ _).trans (feq hCS).1) ?_
    refine XS.aloadN X2.here hx rfl (hb hby d9_10) rfl rfl ?_
    refine XS.iloadN X2.here hx rfl (hb hby d9_11) rfl ?_
    refine st3 _ ?_
    refine st5 _ ?_
    refine XS.aloadN X5.here hx rfl (hb hby d9_17) rfl rfl ?_
    refine XS.iconst X5.here hx rfl (hb hby d9_18) ?_
    refine st7 _ ?_
    refine XS.goto X7.here hx rfl (pc0 := 22) (pc' := 38) rfl (hb hby d9_22) (by decide) (by decide) ?_
    exact kt
  obtain ⟨fs, hr, hrun, hended, hW, hsame⟩ := X7.leave (v := none) (fun _ => rfl)
  refine ⟨_, _, pre0 _ (sg9 _ (?_)), hrun, hended, _, _, rfl, ?_, ⟨_, rfl⟩, hW, hsame.mono (by decide) (by decide)⟩
  · show Steps _ _ _ (T7.setTop (mkF m 38 #[Rf a1, It (16 : Int32)] [])) _
    exact X7.returnOut hx Bd.returns (hb hby d9_38) hr
  · show Q9 Z a1 zC h0 n0 _ T7.heap _
    rw [e7]
    exact ⟨b3, k3, rfl, N7, K7, O8, (Fw5.other W7 (sn (.array .byte) .byte (Or.inl (tw hw 52 rfl)) (Or.inl (tw hw 54 rfl)))), Fw7, (((F_count_a1.ext E3).other W5 (sn .int (.array .byte) (Or.inl (tw hw 99 rfl)) (Or.inl (tw hw 52 rfl)))).other W7 (sn .int .byte (Or.inl (tw hw 99 rfl)) (Or.inl (tw hw 54 rfl)))), ((V_b3.other W5 (Ne.symm (Nat.ne_of_lt (Nat.lt_of_lt_of_le E_a1.lt (Nat.le_of_eq g3.symm))))).other W7 (Ne.symm (Nat.ne_of_lt (Nat.lt_of_lt_of_le E_a1.lt (Nat.le_of_eq g3.symm))))), ge_b3, sz_b3⟩
def Q8 (Z : State) (a1 : Addr) (zC : Int32) (h0 : Heap) (n0 : Nat) (v : Option Value) (h : Heap) (L : List Loc) : Prop := ∃ ro : Addr, ∃ ko : ClassId, v = none ∧ Fr n0 L ∧ Keep h0 h [a1] ∧ Old Z n0 h ∧ Fld Z h a1 "java/lang/AbstractStringBuilder" "value" "[B" (.ref ro) ∧ Fld Z h a1 "java/lang/AbstractStringBuilder" "coder" "B" (.int (0 : Int32)) ∧ Fld Z h a1 "java/lang/AbstractStringBuilder" "count" "I" (.int (0 : Int32)) ∧ Arv Z h ro ko .byte (16 : Int32) z16 (.int (0 : Int32)) ∧ n0 ≤ ro ∧ h0.size ≤ ro
theorem rm8 (l : Launch) (Z : State) (a0 : Array Value) (hw : ∀ d ∈ tables_1, d.before a0 Z = true) (ws : List Jvm.Cond) (a1 : Addr) (zC : Int32) (h0 : Heap) (n0 : Nat) (O0 : Old Z n0 h0) (sC : TS_0 Z zC) (E_a1 : Exa Z h0 a1 "java/lang/StringBuilder") (F_value_a1 : Fld Z h0 a1 "java/lang/AbstractStringBuilder" "value" "[B" .null) (F_coder_a1 : Fld Z h0 a1 "java/lang/AbstractStringBuilder" "coder" "B" (.int (0 : Int32))) (F_count_a1 : Fld Z h0 a1 "java/lang/AbstractStringBuilder" "count" "I" (.int (0 : Int32))) (ge_a1 : n0 ≤ a1) (hCS : ¬ zC = 0) :
    MetFree l m_10 (head1 (Jvm.Cond.code m_10 jdk_67_method_1_code 1 none :: ws) (rk 2 1 16 25)) (fun a U => a = #[(.ref a1)] ∧ Z.Warmed39 U.vm ∧ U.heap = h0) (fun _ _ _ _ _ => True) (fun _ U o U' => ∃ v L, o = .returned v ∧ Q8 Z a1 zC h0 n0 v U'.heap L ∧ FrameEnd U o U' L (rk 2 1 16 25).cells (rk 2 1 16 25).slots) := by
  refine MetFree.of_bodySF (plainFor_of_name pn_2) hisR ?_
  intro p e s m args below meth c s₁ Bd hml0 hP hK
  obtain ⟨rfl, hZ, hh⟩ := hP
  have hx := Bd.exec
  have hby := Bd.bytes
  have hml : c.maxLocals = 1 := hml0
  have hown : s.vm.findClass "java/lang/StringBuilder" = some m.cls := findClass_of_methodNamed Bd.named
  have X0 : Stand p l e (rk 2 1 16 25) s m #[(.ref a1)] below meth c s₁ [] 0 0 := Stand.of_body Bd
  have e0 : s₁.heap = h0 := by rw [← hh, Bd.state]; rfl
  have N0 := Fr.nil n0
  have pre0 := own_pre (tb := p.tables) (e := e) (bl := below) (s := s₁) (ef_16 m a1)
  have K0 := Keep.refl h0 [a1]
  obtain ⟨_, _, ⟨T1, L1, k1, n1⟩, -, X1, ⟨Lc1, hQ1, l1, y1, z1⟩, st1⟩ := X0.specialBack hx (y := m_9) rfl hown (mvT hZ (tw hw 43 rfl)) (mvT hZ (tw hw 44 rfl)) (mvT hZ (tw hw 48 rfl)) (by decide) (backOf (W := 0) (rm9 l Z a0 hw [] a1 zC h0 n0 O0 sC E_a1 F_value_a1 F_coder_a1 F_count_a1 ge_a1 hCS) hZ (tw hw 48 rfl) (tw hw 47 rfl) (by decide) (by decide)) (g := (mkF m 3 #[Rf a1] [(.int (16 : Int32)), (.ref a1)])) rfl (by rw [hml]; rfl) (Steps.refl _) (a := a1) (argsL := [(.int (16 : Int32))]) (rest := []) (lenOf pd_2 rfl) rfl (w0 rfl) (hb hby d8_3) (fun _ _ => ⟨rfl, e0, (by decide : 0 + 1 ≤ _), (by decide : 0 + 16 ≤ _)⟩)
  dsimp only [Pt.U, Pt.locs, Pt.cells, Pt.slots] at X1 l1 y1 z1 st1 hQ1
  subst l1 y1 z1
  obtain ⟨ro_1, ko_1, rfl, N1q, K1q, O1, f1_0, f1_1, f1_2, f1_3, f1_4, f1_5⟩ := hQ1
  have N1 := Fr.app N0 N1q
  have K1 := K0.trans K1q (allS (Or.inl (List.mem_of_getElem? (i := 0) rfl)) all0)
  have sg2 : SG p.tables e below (T1.setTop (mkF m 6 #[Rf a1] [])) (s₁.setTop (mkF m 0 #[Rf a1] [])) := by
    intro target kt
    show Steps _ _ _ (s₁.setTop (mkF m 0 #[Rf a1] [])) _
    refine XS.aloadN X0.here hx rfl (hb hby d8_0) rfl rfl ?_
    refine XS.bipush X0.here hx rfl (hb hby d8_1) ?_
    refine st1.trans ?_
    exact kt
  obtain ⟨fs, hr, hrun, hended, hW, hsame⟩ := X1.leave (v := none) (fun _ => rfl)
  refine ⟨_, _, pre0 _ (sg2 _ (?_)), hrun, hended, _, _, rfl, ?_, ⟨_, rfl⟩, hW, hsame.mono (by decide) (by decide)⟩
  · show Steps _ _ _ (T1.setTop (mkF m 6 #[Rf a1] [])) _
    exact X1.returnOut hx Bd.returns (hb hby d8_6) hr
  · show Q8 Z a1 zC h0 n0 _ T1.heap _
    exact ⟨ro_1, ko_1, rfl, N1, K1, O1, f1_0, f1_1, f1_2, f1_3, f1_4, (Nat.le_trans K0.1 f1_5)⟩
def Q7 (Z : State) (a1 : Addr) (zC : Int32) (h0 : Heap) (n0 : Nat) (v : Option Value) (h : Heap) (L : List Loc) : Prop := ∃ sb : Addr, ∃ ro : Addr, ∃ ko : ClassId, v = none ∧ Fr n0 L ∧ Keep h0 h [a1] ∧ Old Z n0 h ∧ Fld Z h a1 "com/example/tetrad/tetrad/generate/SourceText" "text" "Ljava/lang/StringBuilder;" (.ref sb) ∧ Fld Z h a1 "com/example/tetrad/tetrad/generate/SourceText" "depth" "I" (.int (0 : Int32)) ∧ Exa Z h sb "java/lang/StringBuilder" ∧ Fld Z h sb "java/lang/AbstractStringBuilder" "value" "[B" (.ref ro) ∧ Fld Z h sb "java/lang/AbstractStringBuilder" "coder" "B" (.int (0 : Int32)) ∧ Fld Z h sb "java/lang/AbstractStringBuilder" "count" "I" (.int (0 : Int32)) ∧ Arv Z h ro ko .byte (16 : Int32) z16 (.int (0 : Int32)) ∧ n0 ≤ sb ∧ h0.size ≤ sb ∧ n0 ≤ ro ∧ h0.size ≤ ro
theorem rm7 (l : Launch) (Z : State) (a0 : Array Value) (hw : ∀ d ∈ tables_1, d.before a0 Z = true) (ws : List Jvm.Cond) (a1 : Addr) (zC : Int32) (h0 : Heap) (n0 : Nat) (O0 : Old Z n0 h0) (sC : TS_0 Z zC) (E_a1 : Exa Z h0 a1 "com/example/tetrad/tetrad/generate/SourceText") (F_text_a1 : Fld Z h0 a1 "com/example/tetrad/tetrad/generate/SourceText" "text" "Ljava/lang/StringBuilder;" .null) (F_depth_a1 : Fld Z h0 a1 "com/example/tetrad/tetrad/generate/SourceText" "depth" "I" (.int (0 : Int32))) (ge_a1 : n0 ≤ a1) (hCS : ¬ zC = 0) :
    MetFree l m_11 (head1 (Jvm.Cond.code m_11 prog_51_method_1_code 1 none :: ws) (rk 3 2 20 39)) (fun a U => a = #[(.ref a1)] ∧ Z.Warmed39 U.vm ∧ U.heap = h0) (fun _ _ _ _ _ => True) (fun _ U o U' => ∃ v L, o = .returned v ∧ Q7 Z a1 zC h0 n0 v U'.heap L ∧ FrameEnd U o U' L (rk 3 2 20 39).cells (rk 3 2 20 39).slots) := by
  refine MetFree.of_bodySF (plainFor_of_name pn_3) hisR ?_
  intro p e s m args below meth c s₁ Bd hml0 hP hK
  obtain ⟨rfl, hZ, hh⟩ := hP
  have hx := Bd.exec
  have hby := Bd.bytes
  have hml : c.maxLocals = 1 := hml0
  have hown : s.vm.findClass "com/example/tetrad/tetrad/generate/SourceText" = some m.cls := findClass_of_methodNamed Bd.named
  have hnm := (name_of_methodNamed Bd.named Bd.method).1
  have X0 : Stand p l e (rk 3 2 20 39) s m #[(.ref a1)] below meth c s₁ [] 0 0 := Stand.of_body Bd
  have e0 : s₁.heap = h0 := by rw [← hh, Bd.state]; rfl
  have N0 := Fr.nil n0
  have pre0 := own_pre (tb := p.tables) (e := e) (bl := below) (s := s₁) (ef_16 m a1)
  have K0 := Keep.refl h0 [a1]
  obtain ⟨T1, X1, e1, st1⟩ := initO X0 hx hZ hown (tw hw 36 rfl) (tw hw 12 rfl) (tw hw 13 rfl) e0 (g := (mkF m 1 #[Rf a1] [(.ref a1)])) rfl (by rw [hml]; rfl) rfl (hb hby d7_1) (by decide) (W := 0) (w0 rfl) (by decide)
  obtain ⟨T2, h2, X2, e2, E2, A2, D2, -, st2⟩ := newO X1 hx hZ hown (tw hw 37 rfl) (tw hw 38 rfl) (tw hw 39 rfl) e1 (g := (mkF m 5 #[Rf a1] [(.ref a1)])) rfl (hb hby d7_5) (by decide) (by decide)
  obtain ⟨b2, g2⟩ : ∃ z, z = h0.size := ⟨_, rfl⟩
  rw [← g2] at A2 D2 st2
  have ge_b2 : n0 ≤ b2 := Nat.le_trans (own_osz O0) (Nat.le_of_eq g2.symm)
  have sz_b2 : h0.size ≤ b2 := Nat.le_trans K0.1 (Nat.le_of_eq g2.symm)
  have O3 := O0.ext E2
  have K2 := K0.ext E2
  have F_value_b2 : Fld Z h2 b2 "java/lang/AbstractStringBuilder" "value" "[B" .null := D2 (Or.inl (tw hw 52 rfl)) (ty := (.array .byte)) (by decide)
  have F_coder_b2 : Fld Z h2 b2 "java/lang/AbstractStringBuilder" "coder" "B" (.int (0 : Int32)) := D2 (Or.inl (tw hw 54 rfl)) (ty := .byte) (by decide)
  have F_count_b2 : Fld Z h2 b2 "java/lang/AbstractStringBuilder" "count" "I" (.int (0 : Int32)) := D2 (Or.inl (tw hw 99 rfl)) (ty := .int) (by decide)
  obtain ⟨_, _, ⟨T4, L4, k4, n4⟩, -, X4, ⟨Lc4, hQ4, l4, y4, z4⟩, st4⟩ := X2.specialBack hx (y := m_10) rfl hown (mvT hZ (tw hw 40 rfl)) (mvT hZ (tw hw 41 rfl)) (mvT hZ (tw hw 42 rfl)) (by decide) (backOf (W := 2) (rm8 l Z a0 hw [] b2 zC h2 n0 O3 sC A2 F_value_b2 F_coder_b2 F_count_b2 ge_b2 hCS) hZ (tw hw 42 rfl) (tw hw 39 rfl) (by decide) (by decide)) (g := (mkF m 9 #[Rf a1] [(.ref b2), (.ref b2), (.ref a1)])) rfl (by rw [hml]; rfl) (Steps.refl _) (a := b2) (argsL := []) (rest := [(.ref b2), (.ref a1)]) (lenOf pd_3 rfl) rfl (w0 rfl) (hb hby d7_9) (fun _ _ => ⟨rfl, e2, (by decide : 1 + 1 ≤ _), (by decide : 4 + 16 ≤ _)⟩)
  dsimp only [Pt.U, Pt.locs, Pt.cells, Pt.slots] at X4 l4 y4 z4 st4 hQ4
  subst l4 y4 z4
  obtain ⟨ro_4, ko_4, rfl, N4q, K4q, O4, f4_0, f4_1, f4_2, f4_3, f4_4, f4_5⟩ := hQ4
  have N4 := Fr.app N0 N4q
  have K4 := K2.trans K4q (allS (Or.inr sz_b2) all0)
  obtain ⟨T5, h5, X5, e5, W5, st5⟩ := putF X4 hx hZ hown (host := "") (Or.inl (tw hw 55 rfl)) Via.refl rfl ((F_text_a1.ext E2).keep K4q (ninS (Nat.ne_of_lt (Nat.lt_of_lt_of_le E_a1.lt (Nat.le_of_eq g2.symm))) nin0)) ((E_a1.ext E2).keep K4q) (Or.inr ⟨(tw hw 56 rfl), rfl, hnm⟩) (tw hw 31 rfl) (ty := (.object "java/lang/StringBuilder")) (by decide) rfl rfl (g := (mkF m 12 #[Rf a1] [(.ref b2), (.ref a1)])) rfl rfl (hb hby d7_12)
  have Fw5 := ((F_text_a1.ext E2).keep K4q (ninS (Nat.ne_of_lt (Nat.lt_of_lt_of_le E_a1.lt (Nat.le_of_eq g2.symm))) nin0)).same W5
  have N5 := Fr.snoc X5 N4 ge_a1
  have O6 := O4.wr W5 ge_a1
  have K5 := K4.wr W5 (Or.inl (List.mem_of_getElem? (i := 0) rfl))
  have sg7 : SG p.tables e below (T5.setTop (mkF m 15 #[Rf a1] [])) (s₁.setTop (mkF m 0 #[Rf a1] [])) := by
    intro target kt
    show Steps _ _ _ (s₁.setTop (mkF m 0 #[Rf a1] [])) _
    refine XS.aloadN X0.here hx rfl (hb hby d7_0) rfl rfl ?_
    refine st1 _ ?_
    refine XS.aloadN X1.here hx rfl (hb hby d7_4) rfl rfl ?_
    refine st2 _ ?_
    refine XS.dup X2.here hx rfl (hb hby d7_8) rfl rfl ?_
    refine st4.trans ?_
    refine st5 _ ?_
    exact kt
  obtain ⟨fs, hr, hrun, hended, hW, hsame⟩ := X5.leave (v := none) (fun _ => rfl)
  refine ⟨_, _, pre0 _ (sg7 _ (?_)), hrun, hended, _, _, rfl, ?_, ⟨_, rfl⟩, hW, hsame.mono (by decide) (by decide)⟩
  · show Steps _ _ _ (T5.setTop (mkF m 15 #[Rf a1] [])) _
    exact X5.returnOut hx Bd.returns (hb hby d7_15) hr
  · show Q7 Z a1 zC h0 n0 _ T5.heap _
    rw [e5]
    exact ⟨b2, ro_4, ko_4, rfl, N5, K5, O6, Fw5, (((F_depth_a1.ext E2).keep K4q (ninS (Nat.ne_of_lt (Nat.lt_of_lt_of_le E_a1.lt (Nat.le_of_eq g2.symm))) nin0)).other W5 (sn .int (.object "java/lang/StringBuilder") (Or.inl (tw hw 71 rfl)) (Or.inr (tw hw 56 rfl)))), ((A2.keep K4q).wr W5), (f4_0.other W5 (Or.inl (Ne.symm (Nat.ne_of_lt (Nat.lt_of_lt_of_le E_a1.lt (Nat.le_of_eq g2.symm)))))), (f4_1.other W5 (Or.inl (Ne.symm (Nat.ne_of_lt (Nat.lt_of_lt_of_le E_a1.lt (Nat.le_of_eq g2.symm)))))), (f4_2.other W5 (Or.inl (Ne.symm (Nat.ne_of_lt (Nat.lt_of_lt_of_le E_a1.lt (Nat.le_of_eq g2.symm)))))), (f4_3.other W5 (Ne.symm (Nat.ne_of_lt (Nat.lt_of_lt_of_le (E_a1.ext E2).lt f4_5)))), ge_b2, sz_b2, f4_4, (Nat.le_trans K2.1 f4_5)⟩
def Q42 (Z : State) (a1 : Addr) (dp : Int32) (sb : Addr) (h0 : Heap) (n0 : Nat) (v : Option Value) (h : Heap) (L : List Loc) : Prop := v = some (.ref a1) ∧ Fr n0 L ∧ Keep h0 h [a1] ∧ Old Z n0 h ∧ Fld Z h a1 "com/example/tetrad/tetrad/generate/SourceText" "depth" "I" (.int (dp + (1 : Int32))) ∧ Fld Z h a1 "com/example/tetrad/tetrad/generate/SourceText" "text" "Ljava/lang/StringBuilder;" (.ref sb)
theorem rm42 (l : Launch) (Z : State) (a0 : Array Value) (hw : ∀ d ∈ tables_1, d.before a0 Z = true) (ws : List Jvm.Cond) (a1 : Addr) (dp : Int32) (sb : Addr) (h0 : Heap) (n0 : Nat) (O0 : Old Z n0 h0) (E_a1 : Exa Z h0 a1 "com/example/tetrad/tetrad/generate/SourceText") (F_depth_a1 : Fld Z h0 a1 "com/example/tetrad/tetrad/generate/SourceText" "depth" "I" (.int dp)) (F_text_a1 : Fld Z h0 a1 "com/example/tetrad/tetrad/generate/SourceText" "text" "Ljava/lang/StringBuilder;" (.ref sb)) (ge_a1 : n0 ≤ a1) :
    MetFree l m_12 (head1 (Jvm.Cond.code m_12 prog_51_method_5_code 1 (some (.object "com/example/tetrad/tetrad/generate/SourceText")) :: ws) (rk 0 0 0 0)) (fun a U => a = #[(.ref a1)] ∧ Z.Warmed39 U.vm ∧ U.heap = h0) (fun _ _ _ _ _ => True) (fun _ U o U' => ∃ v L, o = .returned v ∧ Q42 Z a1 dp sb h0 n0 v U'.heap L ∧ FrameEnd U o U' L (rk 0 0 0 0).cells (rk 0 0 0 0).slots) := by
  refine MetFree.of_bodySF (plainFor_of_name pn_3) hisR ?_
  intro p e s m args below meth c s₁ Bd hml0 hP hK
  obtain ⟨rfl, hZ, hh⟩ := hP
  have hx := Bd.exec
  have hby := Bd.bytes
  have hml : c.maxLocals = 1 := hml0
  have hown : s.vm.findClass "com/example/tetrad/tetrad/generate/SourceText" = some m.cls := findClass_of_methodNamed Bd.named
  have X0 : Stand p l e (rk 0 0 0 0) s m #[(.ref a1)] below meth c s₁ [] 0 0 := Stand.of_body Bd
  have e0 : s₁.heap = h0 := by rw [← hh, Bd.state]; rfl
  have N0 := Fr.nil n0
  have pre0 := own_pre (tb := p.tables) (e := e) (bl := below) (s := s₁) (ef_16 m a1)
  have K0 := Keep.refl h0 [a1]
  obtain ⟨T1, X1, e1, st1⟩ := getF X0 hx hZ hown (host := "") (Or.inl (tw hw 70 rfl)) Via.refl e0 F_depth_a1 (g := (mkF m 2 #[Rf a1] [(.ref a1), (.ref a1)])) rfl rfl (hb hby d42_2)
  obtain ⟨T2, h2, X2, e2, W2, st2⟩ := putF X1 hx hZ hown (host := "") (Or.inl (tw hw 70 rfl)) Via.refl e1 F_depth_a1 E_a1 (Or.inl (tw hw 71 rfl)) (tw hw 31 rfl) (ty := .int) (by decide) rfl rfl (g := (mkF m 7 #[Rf a1] [(.int (dp + (1 : Int32))), (.ref a1)])) rfl rfl (hb hby d42_7)
  have Fw2 := F_depth_a1.same W2
  have N2 := Fr.snoc X2 N0 ge_a1
  have O3 := O0.wr W2 ge_a1
  have K2 := K0.wr W2 (Or.inl (List.mem_of_getElem? (i := 0) rfl))
  have sg4 : SG p.tables e below (T2.setTop (mkF m 11 #[Rf a1] [(.ref a1)])) (s₁.setTop (mkF m 0 #[Rf a1] [])) := by
    intro target kt
    show Steps _ _ _ (s₁.setTop (mkF m 0 #[Rf a1] [])) _
    refine XS.aloadN X0.here hx rfl (hb hby d42_0) rfl rfl ?_
    refine XS.dup X0.here hx rfl (hb hby d42_1) rfl rfl ?_
    refine st1 _ ?_
    refine XS.iconst X1.here hx rfl (hb hby d42_5) ?_
    refine XS.iadd X1.here hx rfl (hb hby d42_6) rfl ?_
    refine st2 _ ?_
    refine XS.aloadN X2.here hx rfl (hb hby d42_10) rfl rfl ?_
    exact kt
  obtain ⟨fs, hr, hrun, hended, hW, hsame⟩ := X2.leave (v := some (.ref a1)) (fun h => by rw [Bd.returns] at h; cases h)
  refine ⟨_, _, pre0 _ (sg4 _ (?_)), hrun, hended, _, _, rfl, ?_, ⟨_, rfl⟩, hW, hsame.mono (by decide) (by decide)⟩
  · show Steps _ _ _ (T2.setTop (mkF m 11 #[Rf a1] [(.ref a1)])) _
    jvm_step X2.here [X2.here.top, hx, (hb hby d42_11), X2.method', Bd.returns, Value.isRef, FieldType.isReference]
    first | (intro acts; rw [hr _ acts rfl rfl rfl]) | rw [hr _ _ rfl rfl rfl]
    exact Steps.refl _
  · show Q42 Z a1 dp sb h0 n0 _ T2.heap _
    rw [e2]
    exact ⟨rfl, N2, K2, O3, Fw2, (F_text_a1.other W2 (sn (.object "java/lang/StringBuilder") .int (Or.inr (tw hw 56 rfl)) (Or.inl (tw hw 71 rfl))))⟩
def Q43 (Z : State) (a1 : Addr) (dp : Int32) (sb : Addr) (h0 : Heap) (n0 : Nat) (v : Option Value) (h : Heap) (L : List Loc) : Prop := v = some (.ref a1) ∧ Fr n0 L ∧ Keep h0 h [a1] ∧ Old Z n0 h ∧ Fld Z h a1 "com/example/tetrad/tetrad/generate/SourceText" "depth" "I" (.int (dp - (1 : Int32))) ∧ Fld Z h a1 "com/example/tetrad/tetrad/generate/SourceText" "text" "Ljava/lang/StringBuilder;" (.ref sb)
theorem rm43 (l : Launch) (Z : State) (a0 : Array Value) (hw : ∀ d ∈ tables_1, d.before a0 Z = true) (ws : List Jvm.Cond) (a1 : Addr) (dp : Int32) (sb : Addr) (h0 : Heap) (n0 : Nat) (O0 : Old Z n0 h0) (E_a1 : Exa Z h0 a1 "com/example/tetrad/tetrad/generate/SourceText") (F_depth_a1 : Fld Z h0 a1 "com/example/tetrad/tetrad/generate/SourceText" "depth" "I" (.int dp)) (F_text_a1 : Fld Z h0 a1 "com/example/tetrad/tetrad/generate/SourceText" "text" "Ljava/lang/StringBuilder;" (.ref sb)) (ge_a1 : n0 ≤ a1) :
    MetFree l m_13 (head1 (Jvm.Cond.code m_13 prog_51_method_6_code 1 (some (.object "com/example/tetrad/tetrad/generate/SourceText")) :: ws) (rk 0 0 0 0)) (fun a U => a = #[(.ref a1)] ∧ Z.Warmed39 U.vm ∧ U.heap = h0) (fun _ _ _ _ _ => True) (fun _ U o U' => ∃ v L, o = .returned v ∧ Q43 Z a1 dp sb h0 n0 v U'.heap L ∧ FrameEnd U o U' L (rk 0 0 0 0).cells (rk 0 0 0 0).slots) := by
  refine MetFree.of_bodySF (plainFor_of_name pn_3) hisR ?_
  intro p e s m args below meth c s₁ Bd hml0 hP hK
  obtain ⟨rfl, hZ, hh⟩ := hP
  have hx := Bd.exec
  have hby := Bd.bytes
  have hml : c.maxLocals = 1 := hml0
  have hown : s.vm.findClass "com/example/tetrad/tetrad/generate/SourceText" = some m.cls := findClass_of_methodNamed Bd.named
  have X0 : Stand p l e (rk 0 0 0 0) s m #[(.ref a1)] below meth c s₁ [] 0 0 := Stand.of_body Bd
  have e0 : s₁.heap = h0 := by rw [← hh, Bd.state]; rfl
  have N0 := Fr.nil n0
  have pre0 := own_pre (tb := p.tables) (e := e) (bl := below) (s := s₁) (ef_16 m a1)
  have K0 := Keep.refl h0 [a1]
  obtain ⟨T1, X1, e1, st1⟩ := getF X0 hx hZ hown (host := "") (Or.inl (tw hw 70 rfl)) Via.refl e0 F_depth_a1 (g := (mkF m 2 #[Rf a1] [(.ref a1), (.ref a1)])) rfl rfl (hb hby d43_2)
  obtain ⟨T2, h2, X2, e2, W2, st2⟩ := putF X1 hx hZ hown (host := "") (Or.inl (tw hw 70 rfl)) Via.refl e1 F_depth_a1 E_a1 (Or.inl (tw hw 71 rfl)) (tw hw 31 rfl) (ty := .int) (by decide) rfl rfl (g := (mkF m 7 #[Rf a1] [(.int (dp - (1 : Int32))), (.ref a1)])) rfl rfl (hb hby d43_7)
  have Fw2 := F_depth_a1.same W2
  have N2 := Fr.snoc X2 N0 ge_a1
  have O3 := O0.wr W2 ge_a1
  have K2 := K0.wr W2 (Or.inl (List.mem_of_getElem? (i := 0) rfl))
  have sg4 : SG p.tables e below (T2.setTop (mkF m 11 #[Rf a1] [(.ref a1)])) (s₁.setTop (mkF m 0 #[Rf a1] [])) := by
    intro target kt
    show Steps _ _ _ (s₁.setTop (mkF m 0 #[Rf a1] [])) _
    refine XS.aloadN X0.here hx rfl (hb hby d43_0) rfl rfl ?_
    refine XS.dup X0.here hx rfl (hb hby d43_1) rfl rfl ?_
    refine st1 _ ?_
    refine XS.iconst X1.here hx rfl (hb hby d43_5) ?_
    refine XS.isub X1.here hx rfl (hb hby d43_6) rfl ?_
    refine st2 _ ?_
    refine XS.aloadN X2.here hx rfl (hb hby d43_10) rfl rfl ?_
    exact kt
  obtain ⟨fs, hr, hrun, hended, hW, hsame⟩ := X2.leave (v := some (.ref a1)) (fun h => by rw [Bd.returns] at h; cases h)
  refine ⟨_, _, pre0 _ (sg4 _ (?_)), hrun, hended, _, _, rfl, ?_, ⟨_, rfl⟩, hW, hsame.mono (by decide) (by decide)⟩
  · show Steps _ _ _ (T2.setTop (mkF m 11 #[Rf a1] [(.ref a1)])) _
    jvm_step X2.here [X2.here.top, hx, (hb hby d43_11), X2.method', Bd.returns, Value.isRef, FieldType.isReference]
    first | (intro acts; rw [hr _ acts rfl rfl rfl]) | rw [hr _ _ rfl rfl rfl]
    exact Steps.refl _
  · show Q43 Z a1 dp sb h0 n0 _ T2.heap _
    rw [e2]
    exact ⟨rfl, N2, K2, O3, Fw2, (F_text_a1.other W2 (sn (.object "java/lang/StringBuilder") .int (Or.inr (tw hw 56 rfl)) (Or.inl (tw hw 71 rfl))))⟩
def Q17 (Z : State) (a1 : Addr) (p2 : Int32) (arr : Addr) (vs : List Value) (pn : Nat) (ka : ClassId) (h0 : Heap) (n0 : Nat) (v : Option Value) (h : Heap) (L : List Loc) : Prop := v = none ∧ Fr n0 L ∧ h = h0
theorem ef_17 (m : MethodId) (x0 : Addr) (x1 : Int32) : entryFrame m #[(.ref x0), (.int x1)] 3 = mkF m 0 #[.val (.ref x0), .val (.int x1), .unset] [] := by first | (simp [entryFrame, mkF, argsToLocals, Value.category]; done) | rfl
theorem rm17 (l : Launch) (Z : State) (a0 : Array Value) (hw : ∀ d ∈ tables_1, d.before a0 Z = true) (ws : List Jvm.Cond) (a1 : Addr) (p2 : Int32) (arr : Addr) (vs : List Value) (pn : Nat) (ka : ClassId) (h0 : Heap) (n0 : Nat) (O0 : Old Z n0 h0) (F_value_a1 : Fld Z h0 a1 "java/lang/AbstractStringBuilder" "value" "[B" (.ref arr)) (F_coder_a1 : Fld Z h0 a1 "java/lang/AbstractStringBuilder" "coder" "B" (.int (0 : Int32))) (A_arr : Arv Z h0 arr ka .byte (16 : Int32) vs (.int (0 : Int32))) (h_p : Sm p2 pn) (h_16 : pn ≤ 16) :
    MetFree l m_8 (head1 (Jvm.Cond.code m_8 jdk_68_method_9_code 3 none :: ws) (rk 0 0 0 0)) (fun a U => a = #[(.ref a1), (.int p2)] ∧ Z.Warmed39 U.vm ∧ U.heap = h0) (fun _ _ _ _ _ => True) (fun _ U o U' => ∃ v L, o = .returned v ∧ Q17 Z a1 p2 arr vs pn ka h0 n0 v U'.heap L ∧ FrameEnd U o U' L (rk 0 0 0 0).cells (rk 0 0 0 0).slots) := by
  refine MetFree.of_bodySF (plainFor_of_name pn_1) hisR ?_
  intro p e s m args below meth c s₁ Bd hml0 hP hK
  obtain ⟨rfl, hZ, hh⟩ := hP
  have hx := Bd.exec
  have hby := Bd.bytes
  have hml : c.maxLocals = 3 := hml0
  have hown : s.vm.findClass "java/lang/AbstractStringBuilder" = some m.cls := findClass_of_methodNamed Bd.named
  have X0 : Stand p l e (rk 0 0 0 0) s m #[(.ref a1), (.int p2)] below meth c s₁ [] 0 0 := Stand.of_body Bd
  have e0 : s₁.heap = h0 := by rw [← hh, Bd.state]; rfl
  have N0 := Fr.nil n0
  have pre0 := own_pre (tb := p.tables) (e := e) (bl := below) (s := s₁) (ef_17 m a1 p2)
  obtain ⟨T1, X1, e1, st1⟩ := getF X0 hx hZ hown (host := "") (Or.inl (tw hw 51 rfl)) Via.refl e0 F_value_a1 (g := (mkF m 1 #[Rf a1, It p2, .unset] [(.ref a1)])) rfl rfl (hb hby d17_1)
  obtain ⟨cl2, Ar2, -, Sz2, Nn2, -, -⟩ := id A_arr
  obtain ⟨T3, X3, e3, st3⟩ := getF X1 hx hZ hown (host := "") (Or.inl (tw hw 53 rfl)) Via.refl e1 F_coder_a1 (g := (mkF m 6 #[Rf a1, It p2, .unset] [(.ref a1), (.int (16 : Int32))])) rfl rfl (hb hby d17_6)
  have sg4 : SG p.tables e below (T3.setTop (mkF m 38 #[Rf a1, It p2, .val (.int ((16 : Int32) >>> ((0 : Int32) &&& 31)))] [])) (s₁.setTop (mkF m 0 #[Rf a1, It p2, .unset] [])) := by
    intro target kt
    show Steps _ _ _ (s₁.setTop (mkF m 0 #[Rf a1, It p2, .unset] [])) _
    refine XS.aloadN X0.here hx rfl (hb hby d17_0) rfl rfl ?_
    refine st1 _ ?_
    refine X1.arraylength hx (own_rwh e1 Ar2.1) (State.isArrayOf_alike hZ.alike Ar2.2.1) (g := (mkF m 4 #[Rf a1, It p2, .unset] [(.ref arr)])) rfl rfl (hb hby d17_4) _ ?_
    rw [len_of Sz2 Nn2]
    show Steps _ _ _ (T1.setTop (mkF m 5 #[Rf a1, It p2, .unset] [(.int (16 : Int32))])) _
    refine XS.aloadN X1.here hx rfl (hb hby d17_5) rfl rfl ?_
    refine st3 _ ?_
    refine XS.ishr X3.here hx rfl (hb hby d17_9) rfl ?_
    refine XS.istoreN X3.here hx rfl (hb hby d17_10) rfl (l' := #[Rf a1, It p2, .val (.int ((16 : Int32) >>> ((0 : Int32) &&& 31)))]) rfl ?_
    refine XS.iloadN X3.here hx rfl (hb hby d17_11) rfl ?_
    refine XS.iloadN X3.here hx rfl (hb hby d17_12) rfl ?_
    refine XS.isub X3.here hx rfl (hb hby d17_13) rfl ?_
    refine XS.ifYes X3.here hx rfl (pc0 := 14) (pc' := 38) rfl (hb hby d17_14) rfl ((if0 _ _).trans (flt (own_ens h_p h_16)).2.2.2) (by decide) (by decide) ?_
    exact kt
  obtain ⟨fs, hr, hrun, hended, hW, hsame⟩ := X3.leave (v := none) (fun _ => rfl)
  refine ⟨_, _, pre0 _ (sg4 _ (?_)), hrun, hended, _, _, rfl, ?_, ⟨_, rfl⟩, hW, hsame.mono (by decide) (by decide)⟩
  · show Steps _ _ _ (T3.setTop (mkF m 38 #[Rf a1, It p2, .val (.int ((16 : Int32) >>> ((0 : Int32) &&& 31)))] [])) _
    exact X3.returnOut hx Bd.returns (hb hby d17_38) hr
  · show Q17 Z a1 p2 arr vs pn ka h0 n0 _ T3.heap _
    rw [e3]
    exact ⟨rfl, N0, rfl⟩
def Q19 (Z : State) (a1 : Addr) (a2 : Addr) (zC : Int32) (h0 : Heap) (n0 : Nat) (v : Option Value) (h : Heap) (L : List Loc) : Prop := v = none ∧ Fr n0 L ∧ h = h0
theorem ef_19 (m : MethodId) (x0 : Addr) (x1 : Addr) : entryFrame m #[(.ref x0), (.ref x1)] 2 = mkF m 0 #[.val (.ref x0), .val (.ref x1)] [] := by first | (simp [entryFrame, mkF, argsToLocals, Value.category]; done) | rfl
theorem rm19 (l : Launch) (Z : State) (a0 : Array Value) (hw : ∀ d ∈ tables_1, d.before a0 Z = true) (ws : List Jvm.Cond) (a1 : Addr) (a2 : Addr) (zC : Int32) (h0 : Heap) (n0 : Nat) (O0 : Old Z n0 h0) (hCS : ¬ zC = 0) (sC : TS_0 Z zC) (E_a2 : Exa Z h0 a2 "java/lang/String") (F_coder_a1 : Fld Z h0 a1 "java/lang/AbstractStringBuilder" "coder" "B" (.int (0 : Int32))) (F_coder_a2 : Fld Z h0 a2 "java/lang/String" "coder" "B" (.int (0 : Int32))) :
    MetFree l m_14 (head1 (Jvm.Cond.code m_14 jdk_68_method_71_code 2 none :: ws) (rk 1 0 0 13)) (fun a U => a = #[(.ref a1), (.ref a2)] ∧ Z.Warmed39 U.vm ∧ U.heap = h0) (fun _ _ _ _ _ => True) (fun _ U o U' => ∃ v L, o = .returned v ∧ Q19 Z a1 a2 zC h0 n0 v U'.heap L ∧ FrameEnd U o U' L (rk 1 0 0 13).cells (rk 1 0 0 13).slots) := by
  refine MetFree.of_bodySF (plainFor_of_name pn_1) hisR ?_
  intro p e s m args below meth c s₁ Bd hml0 hP hK
  obtain ⟨rfl, hZ, hh⟩ := hP
  have hx := Bd.exec
  have hby := Bd.bytes
  have hml : c.maxLocals = 2 := hml0
  have hown : s.vm.findClass "java/lang/AbstractStringBuilder" = some m.cls := findClass_of_methodNamed Bd.named
  have X0 : Stand p l e (rk 1 0 0 13) s m #[(.ref a1), (.ref a2)] below meth c s₁ [] 0 0 := Stand.of_body Bd
  have e0 : s₁.heap = h0 := by rw [← hh, Bd.state]; rfl
  have N0 := Fr.nil n0
  have pre0 := own_pre (tb := p.tables) (e := e) (bl := below) (s := s₁) (ef_19 m a1 a2)
  obtain ⟨T1, X1, e1, st1⟩ := getS2 X0 hx hZ hown (host := "") (Or.inl (tw hw 50 rfl)) Via.refl e0 (sC.ext O0.2) (g := (mkF m 0 #[Rf a1, Rf a2] [])) rfl (hb hby d19_0)
  obtain ⟨T2, X2, e2, st2⟩ := getF X1 hx hZ hown (host := "") (Or.inl (tw hw 53 rfl)) Via.refl e1 F_coder_a1 (g := (mkF m 7 #[Rf a1, Rf a2] [(.ref a1)])) rfl rfl (hb hby d19_7)
  obtain ⟨cq3, kq3, q3a, q3b, q3c⟩ := isOf hZ e2 E_a2
  obtain ⟨_, _, ⟨T3, L3, k3, n3⟩, -, X3, ⟨Lc3, hQ3, l3, y3, z3⟩, st3⟩ := X2.virtualBack hx (y := m_0) (z := m_0) hown (mvT hZ (tw hw 115 rfl)) (mvT hZ (tw hw 94 rfl)) (notFace_of_selects (args := #[]) (mvT hZ (tw hw 96 rfl))) (mvT hZ (tw hw 96 rfl)) (mvT hZ (tw hw 95 rfl)) (by decide) (backOf (W := 1) (rm16 l Z a0 hw [] a2 zC h0 n0 O0 hCS sC F_coder_a2) hZ (tw hw 97 rfl) (tw hw 3 rfl) (by decide) (by decide)) q3a q3c (g := (mkF m 11 #[Rf a1, Rf a2] [(.ref a2), (.int (0 : Int32))])) rfl (by rw [hml]; rfl) (Steps.refl _) (argsL := []) (rest := [(.int (0 : Int32))]) (lenOf pd_0 rfl) rfl (w0 rfl) (hb hby d19_11) (fun _ _ => ⟨rfl, e2, (by decide : 0 + 0 ≤ _), (by decide : 0 + 0 ≤ _)⟩)
  dsimp only [Pt.U, Pt.locs, Pt.cells, Pt.slots] at X3 l3 y3 z3 st3 hQ3
  subst l3 y3 z3
  obtain ⟨rfl, N3q, e3⟩ := hQ3
  have N3 := Fr.app N0 N3q
  have sg4 : SG p.tables e below (T3.setTop (mkF m 21 #[Rf a1, Rf a2] [])) (s₁.setTop (mkF m 0 #[Rf a1, Rf a2] [])) := by
    intro target kt
    show Steps _ _ _ (s₁.setTop (mkF m 0 #[Rf a1, Rf a2] [])) _
    refine st1 _ ?_
    refine XS.ifNo X1.here hx rfl (hb hby d19_3) rfl ((if0 _ _).trans (feq hCS).1) ?_
    refine XS.aloadN X1.here hx rfl (hb hby d19_6) rfl rfl ?_
    refine st2 _ ?_
    refine XS.aloadN X2.here hx rfl (hb hby d19_10) rfl rfl ?_
    refine st3.trans ?_
    refine XS.icmpYes X3.here hx rfl (pc0 := 14) (pc' := 21) rfl (hb hby d19_14) rfl (teq (by decide : (0 : Int32) = (0 : Int32))).1 (by decide) (by decide) ?_
    exact kt
  obtain ⟨fs, hr, hrun, hended, hW, hsame⟩ := X3.leave (v := none) (fun _ => rfl)
  refine ⟨_, _, pre0 _ (sg4 _ (?_)), hrun, hended, _, _, rfl, ?_, ⟨_, rfl⟩, hW, hsame.mono (by decide) (by decide)⟩
  · show Steps _ _ _ (T3.setTop (mkF m 21 #[Rf a1, Rf a2] [])) _
    exact X3.returnOut hx Bd.returns (hb hby d19_21) hr
  · show Q19 Z a1 a2 zC h0 n0 _ T3.heap _
    rw [e3]
    exact ⟨rfl, N3, rfl⟩
def Q20 (Z : State) (a1 : Addr) (a2 : Addr) (cn : Int32) (tv : Addr) (zm : Int32) (mm : Nat) (us : List Value) (nn : Nat) (vs : List Value) (zC : Int32) (kt : ClassId) (ka : ClassId) (h0 : Heap) (n0 : Nat) (v : Option Value) (h : Heap) (L : List Loc) : Prop := v = none ∧ Fr n0 L ∧ Keep h0 h [a2] ∧ Old Z n0 h ∧ Arv Z h a2 ka .byte (16 : Int32) (cpy vs nn us 0 mm) (.int (0 : Int32))
theorem ef_20 (m : MethodId) (x0 : Addr) (x1 : Addr) (x2 : Int32) (x3 : Int32) : entryFrame m #[(.ref x0), (.ref x1), (.int x2), (.int x3)] 4 = mkF m 0 #[.val (.ref x0), .val (.ref x1), .val (.int x2), .val (.int x3)] [] := by first | (simp [entryFrame, mkF, argsToLocals, Value.category]; done) | rfl
theorem rm20 (l : Launch) (Z : State) (a0 : Array Value) (hw : ∀ d ∈ tables_1, d.before a0 Z = true) (ws : List Jvm.Cond) (a1 : Addr) (a2 : Addr) (cn : Int32) (tv : Addr) (zm : Int32) (mm : Nat) (us : List Value) (nn : Nat) (vs : List Value) (zC : Int32) (kt : ClassId) (ka : ClassId) (h0 : Heap) (n0 : Nat) (O0 : Old Z n0 h0) (hCS : ¬ zC = 0) (sC : TS_0 Z zC) (E_a1 : Exa Z h0 a1 "java/lang/String") (F_coder_a1 : Fld Z h0 a1 "java/lang/String" "coder" "B" (.int (0 : Int32))) (F_value_a1 : Fld Z h0 a1 "java/lang/String" "value" "[B" (.ref tv)) (A_tv : Arv Z h0 tv kt .byte zm us (.int (0 : Int32))) (A_a2 : Arv Z h0 a2 ka .byte (16 : Int32) vs (.int (0 : Int32))) (ge_a2 : n0 ≤ a2) (h_n : Sm cn nn) (h_m : Sm zm mm) (h_r : nn + mm ≤ 16) (h_v : vs.length = 16) :
    MetFree l m_15 (head1 (Jvm.Cond.code m_15 jdk_42_method_147_code 4 none :: ws) (rk 1 0 0 40)) (fun a U => a = #[(.ref a1), (.ref a2), (.int cn), (.int (0 : Int32))] ∧ Z.Warmed39 U.vm ∧ U.heap = h0) (fun _ _ _ _ _ => True) (fun _ U o U' => ∃ v L, o = .returned v ∧ Q20 Z a1 a2 cn tv zm mm us nn vs zC kt ka h0 n0 v U'.heap L ∧ FrameEnd U o U' L (rk 1 0 0 40).cells (rk 1 0 0 40).slots) := by
  refine MetFree.of_bodySF (plainFor_of_name pn_0) hisR ?_
  intro p e s m args below meth c s₁ Bd hml0 hP hK
  obtain ⟨rfl, hZ, hh⟩ := hP
  have hx := Bd.exec
  have hby := Bd.bytes
  have hml : c.maxLocals = 4 := hml0
  have hown : s.vm.findClass "java/lang/String" = some m.cls := findClass_of_methodNamed Bd.named
  have X0 : Stand p l e (rk 1 0 0 40) s m #[(.ref a1), (.ref a2), (.int cn), (.int (0 : Int32))] below meth c s₁ [] 0 0 := Stand.of_body Bd
  have e0 : s₁.heap = h0 := by rw [← hh, Bd.state]; rfl
  have N0 := Fr.nil n0
  have pre0 := own_pre (tb := p.tables) (e := e) (bl := below) (s := s₁) (ef_20 m a1 a2 cn (0 : Int32))
  have K0 := Keep.refl h0 [a2]
  obtain ⟨cq1, kq1, q1a, q1b, q1c⟩ := isOf hZ e0 E_a1
  obtain ⟨_, _, ⟨T1, L1, k1, n1⟩, -, X1, ⟨Lc1, hQ1, l1, y1, z1⟩, st1⟩ := X0.virtualBack hx (y := m_0) (z := m_0) hown (mvT hZ (tw hw 93 rfl)) (mvT hZ (tw hw 94 rfl)) (notFace_of_selects (args := #[]) (mvT hZ (tw hw 96 rfl))) (mvT hZ (tw hw 96 rfl)) (mvT hZ (tw hw 95 rfl)) (by decide) (backOf (W := 0) (rm16 l Z a0 hw [] a1 zC h0 n0 O0 hCS sC F_coder_a1) hZ (tw hw 97 rfl) (tw hw 3 rfl) (by decide) (by decide)) q1a q1c (g := (mkF m 1 #[Rf a1, Rf a2, It cn, It (0 : Int32)] [(.ref a1)])) rfl (by rw [hml]; rfl) (Steps.refl _) (argsL := []) (rest := []) (lenOf pd_0 rfl) rfl (w0 rfl) (hb hby d20_1) (fun _ _ => ⟨rfl, e0, (by decide : 0 + 0 ≤ _), (by decide : 0 + 0 ≤ _)⟩)
  dsimp only [Pt.U, Pt.locs, Pt.cells, Pt.slots] at X1 l1 y1 z1 st1 hQ1
  subst l1 y1 z1
  obtain ⟨rfl, N1q, e1⟩ := hQ1
  have N1 := Fr.app N0 N1q
  obtain ⟨T2, X2, e2, st2⟩ := getF X1 hx hZ hown (host := "") (Or.inl (tw hw 28 rfl)) Via.refl e1 F_value_a1 (g := (mkF m 9 #[Rf a1, Rf a2, It cn, It (0 : Int32)] [(.ref a1)])) rfl rfl (hb hby d20_9)
  obtain ⟨T3, X3, e3, st3⟩ := getF X2 hx hZ hown (host := "") (Or.inl (tw hw 28 rfl)) Via.refl e2 F_value_a1 (g := (mkF m 18 #[Rf a1, Rf a2, It cn, It (0 : Int32)] [(.ref a1), (.int (cn <<< ((0 : Int32) &&& 31))), (.ref a2), (.int (0 : Int32)), (.ref tv)])) rfl rfl (hb hby d20_18)
  obtain ⟨cl4, Ar4, -, Sz4, Nn4, -, -⟩ := id A_tv
  obtain ⟨T5, h5, L5, X5, e5, N5, K5q, V5, st5⟩ := cpA X3 hx hZ hown (tw hw 121 rfl) (tw hw 124 rfl) (tw hw 122 rfl) (tw hw 123 rfl) e3 A_tv A_a2 (Or.inl ⟨rfl, rfl⟩) (Sm.lit (x := (0 : Int32)) (n := 0) (by decide)).nn (own_smsl h_n).nn h_m.nn (own_le3 (Sm.lit (x := (0 : Int32)) (n := 0) (by decide)) h_m h_m (own_z0 mm)) (own_le3 (own_smsl h_n) h_m (Sm.lit (x := (16 : Int32)) (n := 16) (by decide)) h_r) rfl (own_le2 (own_smsl h_n) h_m (h_v ▸ h_r)) N1 ge_a2 (g := (mkF m 22 #[Rf a1, Rf a2, It cn, It (0 : Int32)] [(.int zm), (.int (cn <<< ((0 : Int32) &&& 31))), (.ref a2), (.int (0 : Int32)), (.ref tv)])) rfl (by rw [hml]; rfl) rfl (hb hby d20_22) (by decide) (W := 0) (w0 rfl) (by decide)
  have VV5 : Arv Z h5 a2 ka .byte (16 : Int32) (cpy vs nn us 0 mm) (.int (0 : Int32)) := own_cpy (Sm.lit (x := (0 : Int32)) (n := 0) (by decide)) (own_smsl h_n) h_m V5
  have K5 := K0.trans K5q (allS (Or.inl (List.mem_of_getElem? (i := 0) rfl)) all0)
  have O5 := O0.keep K5q (allS ge_a2 all0)
  have sg6 : SG p.tables e below (T5.setTop (mkF m 43 #[Rf a1, Rf a2, It cn, It (0 : Int32)] [])) (s₁.setTop (mkF m 0 #[Rf a1, Rf a2, It cn, It (0 : Int32)] [])) := by
    intro target kt
    show Steps _ _ _ (s₁.setTop (mkF m 0 #[Rf a1, Rf a2, It cn, It (0 : Int32)] [])) _
    refine XS.aloadN X0.here hx rfl (hb hby d20_0) rfl rfl ?_
    refine st1.trans ?_
    refine XS.iloadN X1.here hx rfl (hb hby d20_4) rfl ?_
    refine XS.icmpNo X1.here hx rfl (hb hby d20_5) rfl (teq (by decide : (0 : Int32) = (0 : Int32))).2 ?_
    refine XS.aloadN X1.here hx rfl (hb hby d20_8) rfl rfl ?_
    refine st2 _ ?_
    refine XS.iconst X2.here hx rfl (hb hby d20_12) ?_
    refine XS.aloadN X2.here hx rfl (hb hby d20_13) rfl rfl ?_
    refine XS.iloadN X2.here hx rfl (hb hby d20_14) rfl ?_
    refine XS.iloadN X2.here hx rfl (hb hby d20_15) rfl ?_
    refine XS.ishl X2.here hx rfl (hb hby d20_16) rfl ?_
    refine XS.aloadN X2.here hx rfl (hb hby d20_17) rfl rfl ?_
    refine st3 _ ?_
    refine X3.arraylength hx (own_rwh e3 Ar4.1) (State.isArrayOf_alike hZ.alike Ar4.2.1) (g := (mkF m 21 #[Rf a1, Rf a2, It cn, It (0 : Int32)] [(.ref tv), (.int (cn <<< ((0 : Int32) &&& 31))), (.ref a2), (.int (0 : Int32)), (.ref tv)])) rfl rfl (hb hby d20_21) _ ?_
    rw [len_of Sz4 Nn4]
    show Steps _ _ _ (T3.setTop (mkF m 22 #[Rf a1, Rf a2, It cn, It (0 : Int32)] [(.int zm), (.int (cn <<< ((0 : Int32) &&& 31))), (.ref a2), (.int (0 : Int32)), (.ref tv)])) _
    refine st5 _ ?_
    refine XS.goto X5.here hx rfl (pc0 := 25) (pc' := 43) rfl (hb hby d20_25) (by decide) (by decide) ?_
    exact kt
  obtain ⟨fs, hr, hrun, hended, hW, hsame⟩ := X5.leave (v := none) (fun _ => rfl)
  refine ⟨_, _, pre0 _ (sg6 _ (?_)), hrun, hended, _, _, rfl, ?_, ⟨_, rfl⟩, hW, hsame.mono (by decide) (by decide)⟩
  · show Steps _ _ _ (T5.setTop (mkF m 43 #[Rf a1, Rf a2, It cn, It (0 : Int32)] [])) _
    exact X5.returnOut hx Bd.returns (hb hby d20_43) hr
  · show Q20 Z a1 a2 cn tv zm mm us nn vs zC kt ka h0 n0 _ T5.heap _
    rw [e5]
    exact ⟨rfl, N5, K5, O5, VV5⟩
def Q18 (Z : State) (a1 : Addr) (cn : Int32) (a3 : Addr) (tv : Addr) (zm : Int32) (mm : Nat) (us : List Value) (arr : Addr) (nn : Nat) (vs : List Value) (zC : Int32) (ka : ClassId) (kt : ClassId) (h0 : Heap) (n0 : Nat) (v : Option Value) (h : Heap) (L : List Loc) : Prop := v = none ∧ Fr n0 L ∧ Keep h0 h [arr] ∧ Old Z n0 h ∧ Arv Z h arr ka .byte (16 : Int32) (cpy vs nn us 0 mm) (.int (0 : Int32))
theorem ef_18 (m : MethodId) (x0 : Addr) (x1 : Int32) (x2 : Addr) : entryFrame m #[(.ref x0), (.int x1), (.ref x2)] 3 = mkF m 0 #[.val (.ref x0), .val (.int x1), .val (.ref x2)] [] := by first | (simp [entryFrame, mkF, argsToLocals, Value.category]; done) | rfl
theorem rm18 (l : Launch) (Z : State) (a0 : Array Value) (hw : ∀ d ∈ tables_1, d.before a0 Z = true) (ws : List Jvm.Cond) (a1 : Addr) (cn : Int32) (a3 : Addr) (tv : Addr) (zm : Int32) (mm : Nat) (us : List Value) (arr : Addr) (nn : Nat) (vs : List Value) (zC : Int32) (ka : ClassId) (kt : ClassId) (h0 : Heap) (n0 : Nat) (O0 : Old Z n0 h0) (hCS : ¬ zC = 0) (sC : TS_0 Z zC) (E_a1 : Exa Z h0 a1 "java/lang/StringBuilder") (F_value_a1 : Fld Z h0 a1 "java/lang/AbstractStringBuilder" "value" "[B" (.ref arr)) (F_coder_a1 : Fld Z h0 a1 "java/lang/AbstractStringBuilder" "coder" "B" (.int (0 : Int32))) (A_arr : Arv Z h0 arr ka .byte (16 : Int32) vs (.int (0 : Int32))) (E_a3 : Exa Z h0 a3 "java/lang/String") (F_coder_a3 : Fld Z h0 a3 "java/lang/String" "coder" "B" (.int (0 : Int32))) (F_value_a3 : Fld Z h0 a3 "java/lang/String" "value" "[B" (.ref tv)) (A_tv : Arv Z h0 tv kt .byte zm us (.int (0 : Int32))) (ge_arr : n0 ≤ arr) (h_n : Sm cn nn) (h_m : Sm zm mm) (h_r : nn + mm ≤ 16) (h_v : vs.length = 16) :
    MetFree l m_16 (head1 (Jvm.Cond.code m_16 jdk_68_method_73_code 3 none :: ws) (rk 2 0 0 55)) (fun a U => a = #[(.ref a1), (.int cn), (.ref a3)] ∧ Z.Warmed39 U.vm ∧ U.heap = h0) (fun _ _ _ _ _ => True) (fun _ U o U' => ∃ v L, o = .returned v ∧ Q18 Z a1 cn a3 tv zm mm us arr nn vs zC ka kt h0 n0 v U'.heap L ∧ FrameEnd U o U' L (rk 2 0 0 55).cells (rk 2 0 0 55).slots) := by
  refine MetFree.of_bodySF (plainFor_of_name pn_1) hisR ?_
  intro p e s m args below meth c s₁ Bd hml0 hP hK
  obtain ⟨rfl, hZ, hh⟩ := hP
  have hx := Bd.exec
  have hby := Bd.bytes
  have hml : c.maxLocals = 3 := hml0
  have hown : s.vm.findClass "java/lang/AbstractStringBuilder" = some m.cls := findClass_of_methodNamed Bd.named
  have X0 : Stand p l e (rk 2 0 0 55) s m #[(.ref a1), (.int cn), (.ref a3)] below meth c s₁ [] 0 0 := Stand.of_body Bd
  have e0 : s₁.heap = h0 := by rw [← hh, Bd.state]; rfl
  have N0 := Fr.nil n0
  have pre0 := own_pre (tb := p.tables) (e := e) (bl := below) (s := s₁) (ef_18 m a1 cn a3)
  have K0 := Keep.refl h0 [arr]
  obtain ⟨cq1, qq1, qr1⟩ := E_a1.cell
  obtain ⟨_, _, ⟨T1, L1, k1, n1⟩, -, X1, ⟨Lc1, hQ1, l1, y1, z1⟩, st1⟩ := X0.privateBack hx (y := m_14) hown (mvT hZ (tw hw 110 rfl)) (mvT hZ (tw hw 111 rfl)) (own_selp (y2 := m_8) (mvT hZ (tw hw 103 rfl)) rfl (Cond.privateMethod_at (mvP hZ (tw hw 112 rfl) (args := #[]))) (mvT hZ (tw hw 111 rfl)) (by decide)) (Cond.privateMethod_at (mvP hZ (tw hw 112 rfl) (args := #[]))) (mvT hZ (tw hw 114 rfl)) (by decide) (backOf (W := 0) (rm19 l Z a0 hw [] a1 a3 zC h0 n0 O0 hCS sC E_a3 F_coder_a1 F_coder_a3) hZ (tw hw 114 rfl) (tw hw 47 rfl) (by decide) (by decide)) (g := (mkF m 2 #[Rf a1, It cn, Rf a3] [(.ref a3), (.ref a1)])) rfl (by rw [hml]; rfl) (Steps.refl _) (a := a1) (by rw [e0]; exact qq1) qr1 (argsL := [(.ref a3)]) (rest := []) (lenOf pd_4 rfl) rfl (w0 rfl) (hb hby d18_2) (fun _ _ => ⟨rfl, e0, (by decide : 0 + 0 ≤ _), (by decide : 0 + 0 ≤ _)⟩)
  dsimp only [Pt.U, Pt.locs, Pt.cells, Pt.slots] at X1 l1 y1 z1 st1 hQ1
  subst l1 y1 z1
  obtain ⟨rfl, N1q, e1⟩ := hQ1
  have N1 := Fr.app N0 N1q
  obtain ⟨T2, X2, e2, st2⟩ := getF X1 hx hZ hown (host := "") (Or.inl (tw hw 51 rfl)) Via.refl e1 F_value_a1 (g := (mkF m 7 #[Rf a1, It cn, Rf a3] [(.ref a1), (.ref a3)])) rfl rfl (hb hby d18_7)
  obtain ⟨T3, X3, e3, st3⟩ := getF X2 hx hZ hown (host := "") (Or.inl (tw hw 53 rfl)) Via.refl e2 F_coder_a1 (g := (mkF m 12 #[Rf a1, It cn, Rf a3] [(.ref a1), (.int cn), (.ref arr), (.ref a3)])) rfl rfl (hb hby d18_12)
  obtain ⟨cq4, kq4, q4a, q4b, q4c⟩ := isOf hZ e3 E_a3
  obtain ⟨_, _, ⟨T4, L4, k4, n4⟩, -, X4, ⟨Lc4, hQ4, l4, y4, z4⟩, st4⟩ := X3.virtualBack hx (y := m_15) (z := m_15) hown (mvT hZ (tw hw 116 rfl)) (mvT hZ (tw hw 117 rfl)) (notFace_of_selects (args := #[]) (mvT hZ (tw hw 119 rfl))) (mvT hZ (tw hw 119 rfl)) (mvT hZ (tw hw 118 rfl)) (by decide) (backOf (W := 0) (rm20 l Z a0 hw [] a3 arr cn tv zm mm us nn vs zC kt ka h0 n0 O0 hCS sC E_a3 F_coder_a3 F_value_a3 A_tv A_arr ge_arr h_n h_m h_r h_v) hZ (tw hw 120 rfl) (tw hw 3 rfl) (by decide) (by decide)) q4a q4c (g := (mkF m 15 #[Rf a1, It cn, Rf a3] [(.int (0 : Int32)), (.int cn), (.ref arr), (.ref a3)])) rfl (by rw [hml]; rfl) (Steps.refl _) (argsL := [(.ref arr), (.int cn), (.int (0 : Int32))]) (rest := []) (lenOf pd_5 rfl) rfl (w0 rfl) (hb hby d18_15) (fun _ _ => ⟨rfl, e3, (by decide : 0 + 0 ≤ _), (by decide : 0 + 0 ≤ _)⟩)
  dsimp only [Pt.U, Pt.locs, Pt.cells, Pt.slots] at X4 l4 y4 z4 st4 hQ4
  subst l4 y4 z4
  obtain ⟨rfl, N4q, K4q, O4, f4_0⟩ := hQ4
  have N4 := Fr.app N1 N4q
  have K4 := K0.trans K4q (allS (Or.inl (List.mem_of_getElem? (i := 0) rfl)) all0)
  have sg5 : SG p.tables e below (T4.setTop (mkF m 18 #[Rf a1, It cn, Rf a3] [])) (s₁.setTop (mkF m 0 #[Rf a1, It cn, Rf a3] [])) := by
    intro target kt
    show Steps _ _ _ (s₁.setTop (mkF m 0 #[Rf a1, It cn, Rf a3] [])) _
    refine XS.aloadN X0.here hx rfl (hb hby d18_0) rfl rfl ?_
    refine XS.aloadN X0.here hx rfl (hb hby d18_1) rfl rfl ?_
    refine st1.trans ?_
    refine XS.aloadN X1.here hx rfl (hb hby d18_5) rfl rfl ?_
    refine XS.aloadN X1.here hx rfl (hb hby d18_6) rfl rfl ?_
    refine st2 _ ?_
    refine XS.iloadN X2.here hx rfl (hb hby d18_10) rfl ?_
    refine XS.aloadN X2.here hx rfl (hb hby d18_11) rfl rfl ?_
    refine st3 _ ?_
    refine st4.trans ?_
    exact kt
  obtain ⟨fs, hr, hrun, hended, hW, hsame⟩ := X4.leave (v := none) (fun _ => rfl)
  refine ⟨_, _, pre0 _ (sg5 _ (?_)), hrun, hended, _, _, rfl, ?_, ⟨_, rfl⟩, hW, hsame.mono (by decide) (by decide)⟩
  · show Steps _ _ _ (T4.setTop (mkF m 18 #[Rf a1, It cn, Rf a3] [])) _
    exact X4.returnOut hx Bd.returns (hb hby d18_18) hr
  · show Q18 Z a1 cn a3 tv zm mm us arr nn vs zC ka kt h0 n0 _ T4.heap _
    exact ⟨rfl, N4, K4, O4, f4_0⟩
def Q14 (Z : State) (a1 : Addr) (a2 : Addr) (arr : Addr) (cn : Int32) (nn : Nat) (vs : List Value) (tv : Addr) (zm : Int32) (mm : Nat) (us : List Value) (zC : Int32) (ka : ClassId) (kt : ClassId) (h0 : Heap) (n0 : Nat) (v : Option Value) (h : Heap) (L : List Loc) : Prop := v = some (.ref a1) ∧ Fr n0 L ∧ Keep h0 h [a1, arr] ∧ Old Z n0 h ∧ Fld Z h a1 "java/lang/AbstractStringBuilder" "value" "[B" (.ref arr) ∧ Fld Z h a1 "java/lang/AbstractStringBuilder" "coder" "B" (.int (0 : Int32)) ∧ Fld Z h a1 "java/lang/AbstractStringBuilder" "count" "I" (.int (cn + zm)) ∧ Arv Z h arr ka .byte (16 : Int32) (cpy vs nn us 0 mm) (.int (0 : Int32))
theorem ef_14 (m : MethodId) (x0 : Addr) (x1 : Addr) : entryFrame m #[(.ref x0), (.ref x1)] 3 = mkF m 0 #[.val (.ref x0), .val (.ref x1), .unset] [] := by first | (simp [entryFrame, mkF, argsToLocals, Value.category]; done) | rfl
theorem rm14 (l : Launch) (Z : State) (a0 : Array Value) (hw : ∀ d ∈ tables_1, d.before a0 Z = true) (ws : List Jvm.Cond) (a1 : Addr) (a2 : Addr) (arr : Addr) (cn : Int32) (nn : Nat) (vs : List Value) (tv : Addr) (zm : Int32) (mm : Nat) (us : List Value) (zC : Int32) (ka : ClassId) (kt : ClassId) (h0 : Heap) (n0 : Nat) (O0 : Old Z n0 h0) (hCS : ¬ zC = 0) (sC : TS_0 Z zC) (E_a1 : Exa Z h0 a1 "java/lang/StringBuilder") (F_value_a1 : Fld Z h0 a1 "java/lang/AbstractStringBuilder" "value" "[B" (.ref arr)) (F_coder_a1 : Fld Z h0 a1 "java/lang/AbstractStringBuilder" "coder" "B" (.int (0 : Int32))) (F_count_a1 : Fld Z h0 a1 "java/lang/AbstractStringBuilder" "count" "I" (.int cn)) (A_arr : Arv Z h0 arr ka .byte (16 : Int32) vs (.int (0 : Int32))) (E_a2 : Exa Z h0 a2 "java/lang/String") (F_coder_a2 : Fld Z h0 a2 "java/lang/String" "coder" "B" (.int (0 : Int32))) (F_value_a2 : Fld Z h0 a2 "java/lang/String" "value" "[B" (.ref tv)) (A_tv : Arv Z h0 tv kt .byte zm us (.int (0 : Int32))) (ge_a1 : n0 ≤ a1) (ge_arr : n0 ≤ arr) (h_n : Sm cn nn) (h_m : Sm zm mm) (h_r : nn + mm ≤ 16) (h_v : vs.length = 16) :
    MetFree l m_17 (head1 (Jvm.Cond.code m_17 jdk_68_method_22_code 3 (some (.object "java/lang/AbstractStringBuilder")) :: ws) (rk 3 0 0 69)) (fun a U => a = #[(.ref a1), (.ref a2)] ∧ Z.Warmed39 U.vm ∧ U.heap = h0) (fun _ _ _ _ _ => True) (fun _ U o U' => ∃ v L, o = .returned v ∧ Q14 Z a1 a2 arr cn nn vs tv zm mm us zC ka kt h0 n0 v U'.heap L ∧ FrameEnd U o U' L (rk 3 0 0 69).cells (rk 3 0 0 69).slots) := by
  refine MetFree.of_bodySF (plainFor_of_name pn_1) hisR ?_
  intro p e s m args below meth c s₁ Bd hml0 hP hK
  obtain ⟨rfl, hZ, hh⟩ := hP
  have hx := Bd.exec
  have hby := Bd.bytes
  have hml : c.maxLocals = 3 := hml0
  have hown : s.vm.findClass "java/lang/AbstractStringBuilder" = some m.cls := findClass_of_methodNamed Bd.named
  have X0 : Stand p l e (rk 3 0 0 69) s m #[(.ref a1), (.ref a2)] below meth c s₁ [] 0 0 := Stand.of_body Bd
  have e0 : s₁.heap = h0 := by rw [← hh, Bd.state]; rfl
  have N0 := Fr.nil n0
  have pre0 := own_pre (tb := p.tables) (e := e) (bl := below) (s := s₁) (ef_14 m a1 a2)
  have K0 := Keep.refl h0 [a1, arr]
  obtain ⟨cq1, kq1, q1a, q1b, q1c⟩ := isOf hZ e0 E_a2
  obtain ⟨_, _, ⟨T1, L1, k1, n1⟩, -, X1, ⟨Lc1, hQ1, l1, y1, z1⟩, st1⟩ := X0.virtualBack hx (y := m_2) (z := m_2) hown (mvT hZ (tw hw 88 rfl)) (mvT hZ (tw hw 89 rfl)) (notFace_of_selects (args := #[]) (mvT hZ (tw hw 91 rfl))) (mvT hZ (tw hw 91 rfl)) (mvT hZ (tw hw 90 rfl)) (by decide) (backOf (W := 0) (rm15 l Z a0 hw [] a2 tv zm us zC kt h0 n0 O0 hCS sC E_a2 F_coder_a2 F_value_a2 A_tv) hZ (tw hw 92 rfl) (tw hw 3 rfl) (by decide) (by decide)) q1a q1c (g := (mkF m 10 #[Rf a1, Rf a2, .unset] [(.ref a2)])) rfl (by rw [hml]; rfl) (Steps.refl _) (argsL := []) (rest := []) (lenOf pd_1 rfl) rfl (w0 rfl) (hb hby d14_10) (fun _ _ => ⟨rfl, e0, (by decide : 0 + 0 ≤ _), (by decide : 0 + 0 ≤ _)⟩)
  dsimp only [Pt.U, Pt.locs, Pt.cells, Pt.slots] at X1 l1 y1 z1 st1 hQ1
  subst l1 y1 z1
  obtain ⟨rfl, N1q, e1⟩ := hQ1
  have N1 := Fr.app N0 N1q
  obtain ⟨T2, X2, e2, st2⟩ := getF X1 hx hZ hown (host := "") (Or.inl (tw hw 98 rfl)) Via.refl e1 F_count_a1 (g := (mkF m 16 #[Rf a1, Rf a2, It zm] [(.ref a1), (.ref a1)])) rfl rfl (hb hby d14_16)
  obtain ⟨cq3, qq3, qr3⟩ := E_a1.cell
  obtain ⟨_, _, ⟨T3, L3, k3, n3⟩, -, X3, ⟨Lc3, hQ3, l3, y3, z3⟩, st3⟩ := X2.privateBack hx (y := m_8) hown (mvT hZ (tw hw 100 rfl)) (mvT hZ (tw hw 101 rfl)) (own_selp (y2 := m_8) (mvT hZ (tw hw 103 rfl)) rfl (Cond.privateMethod_at (mvP hZ (tw hw 102 rfl) (args := #[]))) (mvT hZ (tw hw 101 rfl)) (by decide)) (Cond.privateMethod_at (mvP hZ (tw hw 102 rfl) (args := #[]))) (mvT hZ (tw hw 104 rfl)) (by decide) (backOf (W := 0) (rm17 l Z a0 hw [] a1 (cn + zm) arr vs (nn + mm) ka h0 n0 O0 F_value_a1 F_coder_a1 A_arr (Sm.add h_n h_m (by omega)) h_r) hZ (tw hw 104 rfl) (tw hw 47 rfl) (by decide) (by decide)) (g := (mkF m 21 #[Rf a1, Rf a2, It zm] [(.int (cn + zm)), (.ref a1)])) rfl (by rw [hml]; rfl) (Steps.refl _) (a := a1) (by rw [e2]; exact qq3) qr3 (argsL := [(.int (cn + zm))]) (rest := []) (lenOf pd_2 rfl) rfl (w0 rfl) (hb hby d14_21) (fun _ _ => ⟨rfl, e2, (by decide : 0 + 0 ≤ _), (by decide : 0 + 0 ≤ _)⟩)
  dsimp only [Pt.U, Pt.locs, Pt.cells, Pt.slots] at X3 l3 y3 z3 st3 hQ3
  subst l3 y3 z3
  obtain ⟨rfl, N3q, e3⟩ := hQ3
  have N3 := Fr.app N1 N3q
  obtain ⟨T4, X4, e4, st4⟩ := getF X3 hx hZ hown (host := "") (Or.inl (tw hw 98 rfl)) Via.refl e3 F_count_a1 (g := (mkF m 26 #[Rf a1, Rf a2, It zm] [(.ref a1), (.ref a1)])) rfl rfl (hb hby d14_26)
  obtain ⟨cq5, qq5, qr5⟩ := E_a1.cell
  obtain ⟨_, _, ⟨T5, L5, k5, n5⟩, -, X5, ⟨Lc5, hQ5, l5, y5, z5⟩, st5⟩ := X4.privateBack hx (y := m_16) hown (mvT hZ (tw hw 105 rfl)) (mvT hZ (tw hw 106 rfl)) (own_selp (y2 := m_8) (mvT hZ (tw hw 103 rfl)) rfl (Cond.privateMethod_at (mvP hZ (tw hw 107 rfl) (args := #[]))) (mvT hZ (tw hw 106 rfl)) (by decide)) (Cond.privateMethod_at (mvP hZ (tw hw 107 rfl) (args := #[]))) (mvT hZ (tw hw 109 rfl)) (by decide) (backOf (W := 0) (rm18 l Z a0 hw [] a1 cn a2 tv zm mm us arr nn vs zC ka kt h0 n0 O0 hCS sC E_a1 F_value_a1 F_coder_a1 A_arr E_a2 F_coder_a2 F_value_a2 A_tv ge_arr h_n h_m h_r h_v) hZ (tw hw 109 rfl) (tw hw 47 rfl) (by decide) (by decide)) (g := (mkF m 30 #[Rf a1, Rf a2, It zm] [(.ref a2), (.int cn), (.ref a1)])) rfl (by rw [hml]; rfl) (Steps.refl _) (a := a1) (by rw [e4]; exact qq5) qr5 (argsL := [(.int cn), (.ref a2)]) (rest := []) (lenOf pd_6 rfl) rfl (w0 rfl) (hb hby d14_30) (fun _ _ => ⟨rfl, e4, (by decide : 0 + 0 ≤ _), (by decide : 0 + 0 ≤ _)⟩)
  dsimp only [Pt.U, Pt.locs, Pt.cells, Pt.slots] at X5 l5 y5 z5 st5 hQ5
  subst l5 y5 z5
  obtain ⟨rfl, N5q, K5q, O5, f5_0⟩ := hQ5
  have N5 := Fr.app N3 N5q
  have K5 := K0.trans K5q (allS (Or.inl (List.mem_of_getElem? (i := 1) rfl)) all0)
  obtain ⟨T6, X6, e6, st6⟩ := getF X5 hx hZ hown (host := "") (Or.inl (tw hw 98 rfl)) Via.refl rfl (F_count_a1.keep K5q (ninS (Exa.neArv (E_a1.keep K5q) f5_0 (tw hw 38 rfl)) nin0)) (g := (mkF m 35 #[Rf a1, Rf a2, It zm] [(.ref a1), (.ref a1)])) rfl rfl (hb hby d14_35)
  obtain ⟨T7, h7, X7, e7, W7, st7⟩ := putF X6 hx hZ hown (host := "") (Or.inl (tw hw 98 rfl)) Via.refl e6 (F_count_a1.keep K5q (ninS (Exa.neArv (E_a1.keep K5q) f5_0 (tw hw 38 rfl)) nin0)) (E_a1.keep K5q) (Or.inl (tw hw 99 rfl)) (tw hw 38 rfl) (ty := .int) (by decide) rfl rfl (g := (mkF m 40 #[Rf a1, Rf a2, It zm] [(.int (cn + zm)), (.ref a1)])) rfl rfl (hb hby d14_40)
  have Fw7 := (F_count_a1.keep K5q (ninS (Exa.neArv (E_a1.keep K5q) f5_0 (tw hw 38 rfl)) nin0)).same W7
  have N7 := Fr.snoc X7 N5 ge_a1
  have O8 := O5.wr W7 ge_a1
  have K7 := K5.wr W7 (Or.inl (List.mem_of_getElem? (i := 0) rfl))
  have sg9 : SG p.tables e below (T7.setTop (mkF m 44 #[Rf a1, Rf a2, It zm] [(.ref a1)])) (s₁.setTop (mkF m 0 #[Rf a1, Rf a2, .unset] [])) := by
    intro target kt
    show Steps _ _ _ (s₁.setTop (mkF m 0 #[Rf a1, Rf a2, .unset] [])) _
    refine XS.aloadN X0.here hx rfl (hb hby d14_0) rfl rfl ?_
    refine XS.ifnonnullYes X0.here hx rfl (pc0 := 1) (pc' := 9) rfl (hb hby d14_1) rfl (by decide) (by decide) ?_
    refine XS.aloadN X0.here hx rfl (hb hby d14_9) rfl rfl ?_
    refine st1.trans ?_
    refine XS.istoreN X1.here hx rfl (hb hby d14_13) rfl (l' := #[Rf a1, Rf a2, It zm]) rfl ?_
    refine XS.aloadN X1.here hx rfl (hb hby d14_14) rfl rfl ?_
    refine XS.aloadN X1.here hx rfl (hb hby d14_15) rfl rfl ?_
    refine st2 _ ?_
    refine XS.iloadN X2.here hx rfl (hb hby d14_19) rfl ?_
    refine XS.iadd X2.here hx rfl (hb hby d14_20) rfl ?_
    refine st3.trans ?_
    refine XS.aloadN X3.here hx rfl (hb hby d14_24) rfl rfl ?_
    refine XS.aloadN X3.here hx rfl (hb hby d14_25) rfl rfl ?_
    refine st4 _ ?_
    refine XS.aloadN X4.here hx rfl (hb hby d14_29) rfl rfl ?_
    refine st5.trans ?_
    refine XS.aloadN X5.here hx rfl (hb hby d14_33) rfl rfl ?_
    refine XS.dup X5.here hx rfl (hb hby d14_34) rfl rfl ?_
    refine st6 _ ?_
    refine XS.iloadN X6.here hx rfl (hb hby d14_38) rfl ?_
    refine XS.iadd X6.here hx rfl (hb hby d14_39) rfl ?_
    refine st7 _ ?_
    refine XS.aloadN X7.here hx rfl (hb hby d14_43) rfl rfl ?_
    exact kt
  obtain ⟨fs, hr, hrun, hended, hW, hsame⟩ := X7.leave (v := some (.ref a1)) (fun h => by rw [Bd.returns] at h; cases h)
  refine ⟨_, _, pre0 _ (sg9 _ (?_)), hrun, hended, _, _, rfl, ?_, ⟨_, rfl⟩, hW, hsame.mono (by decide) (by decide)⟩
  · show Steps _ _ _ (T7.setTop (mkF m 44 #[Rf a1, Rf a2, It zm] [(.ref a1)])) _
    jvm_step X7.here [X7.here.top, hx, (hb hby d14_44), X7.method', Bd.returns, Value.isRef, FieldType.isReference]
    first | (intro acts; rw [hr _ acts rfl rfl rfl]) | rw [hr _ _ rfl rfl rfl]
    exact Steps.refl _
  · show Q14 Z a1 a2 arr cn nn vs tv zm mm us zC ka kt h0 n0 _ T7.heap _
    rw [e7]
    exact ⟨rfl, N7, K7, O8, ((F_value_a1.keep K5q (ninS (Exa.neArv (E_a1.keep K5q) f5_0 (tw hw 38 rfl)) nin0)).other W7 (sn (.array .byte) .int (Or.inl (tw hw 52 rfl)) (Or.inl (tw hw 99 rfl)))), ((F_coder_a1.keep K5q (ninS (Exa.neArv (E_a1.keep K5q) f5_0 (tw hw 38 rfl)) nin0)).other W7 (sn .byte .int (Or.inl (tw hw 54 rfl)) (Or.inl (tw hw 99 rfl)))), Fw7, (f5_0.other W7 (Ne.symm (Exa.neArv (E_a1.keep K5q) f5_0 (tw hw 38 rfl))))⟩
def Q13 (Z : State) (a1 : Addr) (a2 : Addr) (arr : Addr) (cn : Int32) (nn : Nat) (vs : List Value) (tv : Addr) (zm : Int32) (mm : Nat) (us : List Value) (zC : Int32) (ka : ClassId) (kt : ClassId) (h0 : Heap) (n0 : Nat) (v : Option Value) (h : Heap) (L : List Loc) : Prop := v = some (.ref a1) ∧ Fr n0 L ∧ Keep h0 h [a1, arr] ∧ Old Z n0 h ∧ Fld Z h a1 "java/lang/AbstractStringBuilder" "value" "[B" (.ref arr) ∧ Fld Z h a1 "java/lang/AbstractStringBuilder" "coder" "B" (.int (0 : Int32)) ∧ Fld Z h a1 "java/lang/AbstractStringBuilder" "count" "I" (.int (cn + zm)) ∧ Arv Z h arr ka .byte (16 : Int32) (cpy vs nn us 0 mm) (.int (0 : Int32))
theorem rm13 (l : Launch) (Z : State) (a0 : Array Value) (hw : ∀ d ∈ tables_1, d.before a0 Z = true) (ws : List Jvm.Cond) (a1 : Addr) (a2 : Addr) (arr : Addr) (cn : Int32) (nn : Nat) (vs : List Value) (tv : Addr) (zm : Int32) (mm : Nat) (us : List Value) (zC : Int32) (ka : ClassId) (kt : ClassId) (h0 : Heap) (n0 : Nat) (O0 : Old Z n0 h0) (hCS : ¬ zC = 0) (sC : TS_0 Z zC) (E_a1 : Exa Z h0 a1 "java/lang/StringBuilder") (F_value_a1 : Fld Z h0 a1 "java/lang/AbstractStringBuilder" "value" "[B" (.ref arr)) (F_coder_a1 : Fld Z h0 a1 "java/lang/AbstractStringBuilder" "coder" "B" (.int (0 : Int32))) (F_count_a1 : Fld Z h0 a1 "java/lang/AbstractStringBuilder" "count" "I" (.int cn)) (A_arr : Arv Z h0 arr ka .byte (16 : Int32) vs (.int (0 : Int32))) (E_a2 : Exa Z h0 a2 "java/lang/String") (F_coder_a2 : Fld Z h0 a2 "java/lang/String" "coder" "B" (.int (0 : Int32))) (F_value_a2 : Fld Z h0 a2 "java/lang/String" "value" "[B" (.ref tv)) (A_tv : Arv Z h0 tv kt .byte zm us (.int (0 : Int32))) (ge_a1 : n0 ≤ a1) (ge_arr : n0 ≤ arr) (h_n : Sm cn nn) (h_m : Sm zm mm) (h_r : nn + mm ≤ 16) (h_v : vs.length = 16) :
    MetFree l m_18 (head1 (Jvm.Cond.code m_18 jdk_67_method_7_code 2 (some (.object "java/lang/StringBuilder")) :: ws) (rk 4 0 0 83)) (fun a U => a = #[(.ref a1), (.ref a2)] ∧ Z.Warmed39 U.vm ∧ U.heap = h0) (fun _ _ _ _ _ => True) (fun _ U o U' => ∃ v L, o = .returned v ∧ Q13 Z a1 a2 arr cn nn vs tv zm mm us zC ka kt h0 n0 v U'.heap L ∧ FrameEnd U o U' L (rk 4 0 0 83).cells (rk 4 0 0 83).slots) := by
  refine MetFree.of_bodySF (plainFor_of_name pn_2) hisR ?_
  intro p e s m args below meth c s₁ Bd hml0 hP hK
  obtain ⟨rfl, hZ, hh⟩ := hP
  have hx := Bd.exec
  have hby := Bd.bytes
  have hml : c.maxLocals = 2 := hml0
  have hown : s.vm.findClass "java/lang/StringBuilder" = some m.cls := findClass_of_methodNamed Bd.named
  have X0 : Stand p l e (rk 4 0 0 83) s m #[(.ref a1), (.ref a2)] below meth c s₁ [] 0 0 := Stand.of_body Bd
  have e0 : s₁.heap = h0 := by rw [← hh, Bd.state]; rfl
  have N0 := Fr.nil n0
  have pre0 := own_pre (tb := p.tables) (e := e) (bl := below) (s := s₁) (ef_19 m a1 a2)
  have K0 := Keep.refl h0 [a1, arr]
  obtain ⟨_, _, ⟨T1, L1, k1, n1⟩, -, X1, ⟨Lc1, hQ1, l1, y1, z1⟩, st1⟩ := superBack X0 hx hZ (y := m_17) hown (tw hw 83 rfl) (own_same (y := m_17) (y2 := m_8) (tw hw 103 rfl) rfl (tw hw 84 rfl) (by decide)) (tw hw 84 rfl) (tw hw 85 rfl) (by decide) (backOf (W := 0) (rm14 l Z a0 hw [] a1 a2 arr cn nn vs tv zm mm us zC ka kt h0 n0 O0 hCS sC E_a1 F_value_a1 F_coder_a1 F_count_a1 A_arr E_a2 F_coder_a2 F_value_a2 A_tv ge_a1 ge_arr h_n h_m h_r h_v) hZ (tw hw 87 rfl) (tw hw 47 rfl) (by decide) (by decide)) e0 (Ins.self E_a1) (g := (mkF m 2 #[Rf a1, Rf a2] [(.ref a2), (.ref a1)])) rfl (by rw [hml]; rfl) (tw hw 87 rfl) (argsL := [(.ref a2)]) (rest := []) (lenOf pd_7 rfl) rfl (w0 rfl) (hb hby d13_2) (fun _ _ => ⟨rfl, e0, (by decide : 0 + 0 ≤ _), (by decide : 0 + 0 ≤ _)⟩)
  dsimp only [Pt.U, Pt.locs, Pt.cells, Pt.slots] at X1 l1 y1 z1 st1 hQ1
  subst l1 y1 z1
  obtain ⟨rfl, N1q, K1q, O1, f1_0, f1_1, f1_2, f1_3⟩ := hQ1
  have N1 := Fr.app N0 N1q
  have K1 := K0.trans K1q (allS (Or.inl (List.mem_of_getElem? (i := 0) rfl)) (allS (Or.inl (List.mem_of_getElem? (i := 1) rfl)) all0))
  have sg2 : SG p.tables e below (T1.setTop (mkF m 7 #[Rf a1, Rf a2] [(.ref a1)])) (s₁.setTop (mkF m 0 #[Rf a1, Rf a2] [])) := by
    intro target kt
    show Steps _ _ _ (s₁.setTop (mkF m 0 #[Rf a1, Rf a2] [])) _
    refine XS.aloadN X0.here hx rfl (hb hby d13_0) rfl rfl ?_
    refine XS.aloadN X0.here hx rfl (hb hby d13_1) rfl rfl ?_
    refine st1.trans ?_
    refine XS.pop X1.here hx rfl (hb hby d13_5) rfl rfl ?_
    refine XS.aloadN X1.here hx rfl (hb hby d13_6) rfl rfl ?_
    exact kt
  obtain ⟨fs, hr, hrun, hended, hW, hsame⟩ := X1.leave (v := some (.ref a1)) (fun h => by rw [Bd.returns] at h; cases h)
  refine ⟨_, _, pre0 _ (sg2 _ (?_)), hrun, hended, _, _, rfl, ?_, ⟨_, rfl⟩, hW, hsame.mono (by decide) (by decide)⟩
  · show Steps _ _ _ (T1.setTop (mkF m 7 #[Rf a1, Rf a2] [(.ref a1)])) _
    jvm_step X1.here [X1.here.top, hx, (hb hby d13_7), X1.method', Bd.returns, Value.isRef, FieldType.isReference]
    first | (intro acts; rw [hr _ acts rfl rfl rfl]) | rw [hr _ _ rfl rfl rfl]
    exact Steps.refl _
  · show Q13 Z a1 a2 arr cn nn vs tv zm mm us zC ka kt h0 n0 _ T1.heap _
    exact ⟨rfl, N1, K1, O1, f1_0, f1_1, f1_2, f1_3⟩
def Q24 (Z : State) (p1 : Int32) (h0 : Heap) (n0 : Nat) (v : Option Value) (h : Heap) (L : List Loc) : Prop := v = some (.int (1 : Int32)) ∧ Fr n0 L ∧ h = h0
theorem ef_24 (m : MethodId) (x0 : Int32) : entryFrame m #[(.int x0)] 1 = mkF m 0 #[.val (.int x0)] [] := by first | (simp [entryFrame, mkF, argsToLocals, Value.category]; done) | rfl
theorem rm24 (l : Launch) (Z : State) (a0 : Array Value) (hw : ∀ d ∈ tables_1, d.before a0 Z = true) (ws : List Jvm.Cond) (p1 : Int32) (h0 : Heap) (n0 : Nat) (O0 : Old Z n0 h0) (h_l : ¬ (255 : Int32) < p1) :
    MetFree l m_19 (head1 (Jvm.Cond.code m_19 jdk_43_method_3_code 1 (some .boolean) :: ws) (rk 0 0 0 0)) (fun a U => a = #[(.int p1)] ∧ Z.Warmed39 U.vm ∧ U.heap = h0) (fun _ _ _ _ _ => True) (fun _ U o U' => ∃ v L, o = .returned v ∧ Q24 Z p1 h0 n0 v U'.heap L ∧ FrameEnd U o U' L (rk 0 0 0 0).cells (rk 0 0 0 0).slots) := by
  refine MetFree.of_bodySF (plainFor_of_name pn_4) hisR ?_
  intro p e s m args below meth c s₁ Bd hml0 hP hK
  obtain ⟨rfl, hZ, hh⟩ := hP
  have hx := Bd.exec
  have hby := Bd.bytes
  have hml : c.maxLocals = 1 := hml0
  have hown : s.vm.findClass "java/lang/StringLatin1" = some m.cls := findClass_of_methodNamed Bd.named
  have X0 : Stand p l e (rk 0 0 0 0) s m #[(.int p1)] below meth c s₁ [] 0 0 := Stand.of_body Bd
  have e0 : s₁.heap = h0 := by rw [← hh, Bd.state]; rfl
  have N0 := Fr.nil n0
  have pre0 := own_pre (tb := p.tables) (e := e) (bl := below) (s := s₁) (ef_24 m p1)
  have sg1 : SG p.tables e below (s₁.setTop (mkF m 12 #[It p1] [(.int (1 : Int32))])) (s₁.setTop (mkF m 0 #[It p1] [])) := by
    intro target kt
    show Steps _ _ _ (s₁.setTop (mkF m 0 #[It p1] [])) _
    refine XS.iloadN X0.here hx rfl (hb hby d24_0) rfl ?_
    refine XS.sipush X0.here hx rfl (hb hby d24_1) ?_
    refine XS.icmpNo X0.here hx rfl (hb hby d24_4) rfl (flt h_l).2.2.1 ?_
    refine XS.iconst X0.here hx rfl (hb hby d24_7) ?_
    refine XS.goto X0.here hx rfl (pc0 := 8) (pc' := 12) rfl (hb hby d24_8) (by decide) (by decide) ?_
    exact kt
  obtain ⟨fs, hr, hrun, hended, hW, hsame⟩ := X0.leave (v := some (.int (1 : Int32))) (fun h => by rw [Bd.returns] at h; cases h)
  refine ⟨_, _, pre0 _ (sg1 _ (?_)), hrun, hended, _, _, rfl, ?_, ⟨_, rfl⟩, hW, hsame.mono (by decide) (by decide)⟩
  · show Steps _ _ _ (s₁.setTop (mkF m 12 #[It p1] [(.int (1 : Int32))])) _
    exact retN X0 hx (t := .boolean) Bd.returns (by simp) (hb hby d24_12) hr
  · show Q24 Z p1 h0 n0 _ s₁.heap _
    rw [e0]
    exact ⟨rfl, N0, rfl⟩
def Q22 (Z : State) (a1 : Addr) (p2 : Int32) (arr : Addr) (cn : Int32) (nn : Nat) (vs : List Value) (zC : Int32) (ka : ClassId) (h0 : Heap) (n0 : Nat) (v : Option Value) (h : Heap) (L : List Loc) : Prop := v = some (.ref a1) ∧ Fr n0 L ∧ Keep h0 h [a1, arr] ∧ Old Z n0 h ∧ Fld Z h a1 "java/lang/AbstractStringBuilder" "value" "[B" (.ref arr) ∧ Fld Z h a1 "java/lang/AbstractStringBuilder" "coder" "B" (.int (0 : Int32)) ∧ Fld Z h a1 "java/lang/AbstractStringBuilder" "count" "I" (.int (cn + (1 : Int32))) ∧ Arv Z h arr ka .byte (16 : Int32) (vs.set nn (.int (p2.toInt8.toInt32.toInt8.toInt32))) (.int (0 : Int32))
theorem rm22 (l : Launch) (Z : State) (a0 : Array Value) (hw : ∀ d ∈ tables_1, d.before a0 Z = true) (ws : List Jvm.Cond) (a1 : Addr) (p2 : Int32) (arr : Addr) (cn : Int32) (nn : Nat) (vs : List Value) (zC : Int32) (ka : ClassId) (h0 : Heap) (n0 : Nat) (O0 : Old Z n0 h0) (hCS : ¬ zC = 0) (sC : TS_0 Z zC) (E_a1 : Exa Z h0 a1 "java/lang/StringBuilder") (F_value_a1 : Fld Z h0 a1 "java/lang/AbstractStringBuilder" "value" "[B" (.ref arr)) (F_coder_a1 : Fld Z h0 a1 "java/lang/AbstractStringBuilder" "coder" "B" (.int (0 : Int32))) (F_count_a1 : Fld Z h0 a1 "java/lang/AbstractStringBuilder" "count" "I" (.int cn)) (A_arr : Arv Z h0 arr ka .byte (16 : Int32) vs (.int (0 : Int32))) (ge_a1 : n0 ≤ a1) (ge_arr : n0 ≤ arr) (h_n : Sm cn nn) (h_r : nn + 1 ≤ 16) (h_v : vs.length = 16) (h_l : ¬ (255 : Int32) < p2) :
    MetFree l m_20 (head1 (Jvm.Cond.code m_20 jdk_68_method_31_code 2 (some (.object "java/lang/AbstractStringBuilder")) :: ws) (rk 1 0 0 14)) (fun a U => a = #[(.ref a1), (.int p2)] ∧ Z.Warmed39 U.vm ∧ U.heap = h0) (fun _ _ _ _ _ => True) (fun _ U o U' => ∃ v L, o = .returned v ∧ Q22 Z a1 p2 arr cn nn vs zC ka h0 n0 v U'.heap L ∧ FrameEnd U o U' L (rk 1 0 0 14).cells (rk 1 0 0 14).slots) := by
  refine MetFree.of_bodySF (plainFor_of_name pn_1) hisR ?_
  intro p e s m args below meth c s₁ Bd hml0 hP hK
  obtain ⟨rfl, hZ, hh⟩ := hP
  have hx := Bd.exec
  have hby := Bd.bytes
  have hml : c.maxLocals = 2 := hml0
  have hown : s.vm.findClass "java/lang/AbstractStringBuilder" = some m.cls := findClass_of_methodNamed Bd.named
  have X0 : Stand p l e (rk 1 0 0 14) s m #[(.ref a1), (.int p2)] below meth c s₁ [] 0 0 := Stand.of_body Bd
  have e0 : s₁.heap = h0 := by rw [← hh, Bd.state]; rfl
  have N0 := Fr.nil n0
  have pre0 := own_pre (tb := p.tables) (e := e) (bl := below) (s := s₁) (ef_9 m a1 p2)
  have K0 := Keep.refl h0 [a1, arr]
  obtain ⟨T1, X1, e1, st1⟩ := getF X0 hx hZ hown (host := "") (Or.inl (tw hw 98 rfl)) Via.refl e0 F_count_a1 (g := (mkF m 2 #[Rf a1, It p2] [(.ref a1), (.ref a1)])) rfl rfl (hb hby d22_2)
  obtain ⟨cq2, qq2, qr2⟩ := E_a1.cell
  obtain ⟨_, _, ⟨T2, L2, k2, n2⟩, -, X2, ⟨Lc2, hQ2, l2, y2, z2⟩, st2⟩ := X1.privateBack hx (y := m_8) hown (mvT hZ (tw hw 100 rfl)) (mvT hZ (tw hw 101 rfl)) (own_selp (y2 := m_8) (mvT hZ (tw hw 103 rfl)) rfl (Cond.privateMethod_at (mvP hZ (tw hw 102 rfl) (args := #[]))) (mvT hZ (tw hw 101 rfl)) (by decide)) (Cond.privateMethod_at (mvP hZ (tw hw 102 rfl) (args := #[]))) (mvT hZ (tw hw 104 rfl)) (by decide) (backOf (W := 0) (rm17 l Z a0 hw [] a1 (cn + (1 : Int32)) arr vs (nn + 1) ka h0 n0 O0 F_value_a1 F_coder_a1 A_arr (Sm.add h_n (Sm.lit (x := (1 : Int32)) (n := 1) (by decide)) (by omega)) h_r) hZ (tw hw 104 rfl) (tw hw 47 rfl) (by decide) (by decide)) (g := (mkF m 7 #[Rf a1, It p2] [(.int (cn + (1 : Int32))), (.ref a1)])) rfl (by rw [hml]; rfl) (Steps.refl _) (a := a1) (by rw [e1]; exact qq2) qr2 (argsL := [(.int (cn + (1 : Int32)))]) (rest := []) (lenOf pd_2 rfl) rfl (w0 rfl) (hb hby d22_7) (fun _ _ => ⟨rfl, e1, (by decide : 0 + 0 ≤ _), (by decide : 0 + 0 ≤ _)⟩)
  dsimp only [Pt.U, Pt.locs, Pt.cells, Pt.slots] at X2 l2 y2 z2 st2 hQ2
  subst l2 y2 z2
  obtain ⟨rfl, N2q, e2⟩ := hQ2
  have N2 := Fr.app N0 N2q
  obtain ⟨cq3, kq3, q3a, q3b, q3c⟩ := isOf hZ e2 E_a1
  obtain ⟨_, _, ⟨T3, L3, k3, n3⟩, -, X3, ⟨Lc3, hQ3, l3, y3, z3⟩, st3⟩ := X2.virtualBack hx (y := m_4) (z := m_4) hown (mvT hZ (tw hw 134 rfl)) (mvT hZ (tw hw 135 rfl)) (notFace_of_selects (args := #[]) (mvT hZ (tw hw 137 rfl))) (mvT hZ (tw hw 137 rfl)) (mvT hZ (tw hw 136 rfl)) (by decide) (backOf (W := 0) (rm23 l Z a0 hw [] a1 zC h0 n0 O0 hCS sC F_coder_a1) hZ (tw hw 138 rfl) (tw hw 47 rfl) (by decide) (by decide)) q3a q3c (g := (mkF m 11 #[Rf a1, It p2] [(.ref a1)])) rfl (by rw [hml]; rfl) (Steps.refl _) (argsL := []) (rest := []) (lenOf pd_8 rfl) rfl (w0 rfl) (hb hby d22_11) (fun _ _ => ⟨rfl, e2, (by decide : 0 + 0 ≤ _), (by decide : 0 + 0 ≤ _)⟩)
  dsimp only [Pt.U, Pt.locs, Pt.cells, Pt.slots] at X3 l3 y3 z3 st3 hQ3
  subst l3 y3 z3
  obtain ⟨rfl, N3q, e3⟩ := hQ3
  have N3 := Fr.app N2 N3q
  obtain ⟨_, _, ⟨T4, L4, k4, n4⟩, -, X4, ⟨Lc4, hQ4, l4, y4, z4⟩, st4⟩ := Jvm.LawKit.callS X3 hx (y := m_19) hown (mvT hZ (tw hw 139 rfl)) (mvT hZ (tw hw 140 rfl)) (mvT hZ (tw hw 141 rfl)) (mvT hZ (tw hw 142 rfl)) (by decide) (backOf (W := 0) (rm24 l Z a0 hw [] p2 h0 n0 O0 h_l) hZ (tw hw 142 rfl) (tw hw 141 rfl) (by decide) (by decide)) (g := (mkF m 18 #[Rf a1, It p2] [(.int p2)])) rfl (by rw [hml]; rfl) (argsL := [(.int p2)]) (rest := []) (lenOf pd_9 rfl) rfl (w0 rfl) (hb hby d22_18) (fun _ _ => ⟨rfl, e3, (by decide : 0 + 0 ≤ _), (by decide : 0 + 0 ≤ _)⟩)
  dsimp only [Pt.U, Pt.locs, Pt.cells, Pt.slots] at X4 l4 y4 z4 st4 hQ4
  subst l4 y4 z4
  obtain ⟨rfl, N4q, e4⟩ := hQ4
  have N4 := Fr.app N3 N4q
  obtain ⟨T5, X5, e5, st5⟩ := getF X4 hx hZ hown (host := "") (Or.inl (tw hw 51 rfl)) Via.refl e4 F_value_a1 (g := (mkF m 25 #[Rf a1, It p2] [(.ref a1)])) rfl rfl (hb hby d22_25)
  obtain ⟨T6, X6, e6, st6⟩ := getF X5 hx hZ hown (host := "") (Or.inl (tw hw 98 rfl)) Via.refl e5 F_count_a1 (g := (mkF m 30 #[Rf a1, It p2] [(.ref a1), (.ref a1), (.ref arr)])) rfl rfl (hb hby d22_30)
  obtain ⟨T7, h7, X7, e7, W7, st7⟩ := putF X6 hx hZ hown (host := "") (Or.inl (tw hw 98 rfl)) Via.refl e6 F_count_a1 E_a1 (Or.inl (tw hw 99 rfl)) (tw hw 38 rfl) (ty := .int) (by decide) rfl rfl (g := (mkF m 36 #[Rf a1, It p2] [(.int (cn + (1 : Int32))), (.ref a1), (.int cn), (.ref arr)])) rfl rfl (hb hby d22_36)
  have Fw7 := F_count_a1.same W7
  have N7 := Fr.snoc X7 N4 ge_a1
  have O8 := O0.wr W7 ge_a1
  have K7 := K0.wr W7 (Or.inl (List.mem_of_getElem? (i := 0) rfl))
  obtain ⟨cl9, Ar9, q9, Sz9, Nn9, Hh9, Gg9⟩ := id (A_arr.other W7 (Ne.symm (Exa.neArv E_a1 A_arr (tw hw 38 rfl))))
  have hin9 : ¬ (cn < 0 ∨ cl9.slots.size ≤ (cn).toNatClampNeg) := own_inb Sz9 h_n (Sm.lit (x := (16 : Int32)) (n := 16) (by decide)) h_r
  obtain ⟨T10, h10, X10, e10, W10, st10⟩ := stB X7 hx hZ e7 Ar9 (j := cn) hin9 (g := (mkF m 41 #[Rf a1, It p2] [(.int (p2.toInt8.toInt32)), (.int cn), (.ref arr)])) rfl rfl (hb hby d22_41)
  have V10 : Arv Z h10 arr ka .byte (16 : Int32) (vs.set nn (.int ((p2.toInt8.toInt32).toInt8.toInt32))) (.int (0 : Int32)) := Arv.set Ar9 q9 Sz9 Nn9 Hh9 Gg9 (fits_nar_byte _) W10 nn h_n.nat (h_v ▸ h_r)
  have N10 := Fr.snoc X10 N7 ge_arr
  have O11 := O8.wr W10 ge_arr
  have K10 := K7.wr W10 (Or.inl (List.mem_of_getElem? (i := 1) rfl))
  have sg12 : SG p.tables e below (T10.setTop (mkF m 76 #[Rf a1, It p2] [(.ref a1)])) (s₁.setTop (mkF m 0 #[Rf a1, It p2] [])) := by
    intro target kt
    show Steps _ _ _ (s₁.setTop (mkF m 0 #[Rf a1, It p2] [])) _
    refine XS.aloadN X0.here hx rfl (hb hby d22_0) rfl rfl ?_
    refine XS.aloadN X0.here hx rfl (hb hby d22_1) rfl rfl ?_
    refine st1 _ ?_
    refine XS.iconst X1.here hx rfl (hb hby d22_5) ?_
    refine XS.iadd X1.here hx rfl (hb hby d22_6) rfl ?_
    refine st2.trans ?_
    refine XS.aloadN X2.here hx rfl (hb hby d22_10) rfl rfl ?_
    refine st3.trans ?_
    refine XS.ifNo X3.here hx rfl (hb hby d22_14) rfl ((if0 _ _).trans (feq (by decide : ¬ ((1 : Int32) = (0 : Int32)))).1) ?_
    refine XS.iloadN X3.here hx rfl (hb hby d22_17) rfl ?_
    refine st4 _ ?_
    refine XS.ifNo X4.here hx rfl (hb hby d22_21) rfl ((if0 _ _).trans (feq (by decide : ¬ ((1 : Int32) = (0 : Int32)))).1) ?_
    refine XS.aloadN X4.here hx rfl (hb hby d22_24) rfl rfl ?_
    refine st5 _ ?_
    refine XS.aloadN X5.here hx rfl (hb hby d22_28) rfl rfl ?_
    refine XS.dup X5.here hx rfl (hb hby d22_29) rfl rfl ?_
    refine st6 _ ?_
    refine XS.dupX1 X6.here hx rfl (hb hby d22_33) rfl rfl rfl ?_
    refine XS.iconst X6.here hx rfl (hb hby d22_34) ?_
    refine XS.iadd X6.here hx rfl (hb hby d22_35) rfl ?_
    refine st7 _ ?_
    refine XS.iloadN X7.here hx rfl (hb hby d22_39) rfl ?_
    refine XS.i2b X7.here hx rfl (hb hby d22_40) rfl ?_
    refine st10 _ ?_
    refine XS.goto X10.here hx rfl (pc0 := 42) (pc' := 75) rfl (hb hby d22_42) (by decide) (by decide) ?_
    refine XS.aloadN X10.here hx rfl (hb hby d22_75) rfl rfl ?_
    exact kt
  obtain ⟨fs, hr, hrun, hended, hW, hsame⟩ := X10.leave (v := some (.ref a1)) (fun h => by rw [Bd.returns] at h; cases h)
  refine ⟨_, _, pre0 _ (sg12 _ (?_)), hrun, hended, _, _, rfl, ?_, ⟨_, rfl⟩, hW, hsame.mono (by decide) (by decide)⟩
  · show Steps _ _ _ (T10.setTop (mkF m 76 #[Rf a1, It p2] [(.ref a1)])) _
    jvm_step X10.here [X10.here.top, hx, (hb hby d22_76), X10.method', Bd.returns, Value.isRef, FieldType.isReference]
    first | (intro acts; rw [hr _ acts rfl rfl rfl]) | rw [hr _ _ rfl rfl rfl]
    exact Steps.refl _
  · show Q22 Z a1 p2 arr cn nn vs zC ka h0 n0 _ T10.heap _
    rw [e10]
    exact ⟨rfl, N10, K10, O11, ((F_value_a1.other W7 (sn (.array .byte) .int (Or.inl (tw hw 52 rfl)) (Or.inl (tw hw 99 rfl)))).other W10 (Or.inl (Exa.neArv ((E_a1.wr W7).wr W10) V10 (tw hw 38 rfl)))), ((F_coder_a1.other W7 (sn .byte .int (Or.inl (tw hw 54 rfl)) (Or.inl (tw hw 99 rfl)))).other W10 (Or.inl (Exa.neArv ((E_a1.wr W7).wr W10) V10 (tw hw 38 rfl)))), (Fw7.other W10 (Or.inl (Exa.neArv ((E_a1.wr W7).wr W10) V10 (tw hw 38 rfl)))), V10⟩
def Q21 (Z : State) (a1 : Addr) (p2 : Int32) (arr : Addr) (cn : Int32) (nn : Nat) (vs : List Value) (zC : Int32) (ka : ClassId) (h0 : Heap) (n0 : Nat) (v : Option Value) (h : Heap) (L : List Loc) : Prop := v = some (.ref a1) ∧ Fr n0 L ∧ Keep h0 h [a1, arr] ∧ Old Z n0 h ∧ Fld Z h a1 "java/lang/AbstractStringBuilder" "value" "[B" (.ref arr) ∧ Fld Z h a1 "java/lang/AbstractStringBuilder" "coder" "B" (.int (0 : Int32)) ∧ Fld Z h a1 "java/lang/AbstractStringBuilder" "count" "I" (.int (cn + (1 : Int32))) ∧ Arv Z h arr ka .byte (16 : Int32) (vs.set nn (.int (p2.toInt8.toInt32.toInt8.toInt32))) (.int (0 : Int32))
theorem rm21 (l : Launch) (Z : State) (a0 : Array Value) (hw : ∀ d ∈ tables_1, d.before a0 Z = true) (ws : List Jvm.Cond) (a1 : Addr) (p2 : Int32) (arr : Addr) (cn : Int32) (nn : Nat) (vs : List Value) (zC : Int32) (ka : ClassId) (h0 : Heap) (n0 : Nat) (O0 : Old Z n0 h0) (hCS : ¬ zC = 0) (sC : TS_0 Z zC) (E_a1 : Exa Z h0 a1 "java/lang/StringBuilder") (F_value_a1 : Fld Z h0 a1 "java/lang/AbstractStringBuilder" "value" "[B" (.ref arr)) (F_coder_a1 : Fld Z h0 a1 "java/lang/AbstractStringBuilder" "coder" "B" (.int (0 : Int32))) (F_count_a1 : Fld Z h0 a1 "java/lang/AbstractStringBuilder" "count" "I" (.int cn)) (A_arr : Arv Z h0 arr ka .byte (16 : Int32) vs (.int (0 : Int32))) (ge_a1 : n0 ≤ a1) (ge_arr : n0 ≤ arr) (h_n : Sm cn nn) (h_r : nn + 1 ≤ 16) (h_v : vs.length = 16) (h_l : ¬ (255 : Int32) < p2) :
    MetFree l m_21 (head1 (Jvm.Cond.code m_21 jdk_67_method_14_code 2 (some (.object "java/lang/StringBuilder")) :: ws) (rk 2 0 0 27)) (fun a U => a = #[(.ref a1), (.int p2)] ∧ Z.Warmed39 U.vm ∧ U.heap = h0) (fun _ _ _ _ _ => True) (fun _ U o U' => ∃ v L, o = .returned v ∧ Q21 Z a1 p2 arr cn nn vs zC ka h0 n0 v U'.heap L ∧ FrameEnd U o U' L (rk 2 0 0 27).cells (rk 2 0 0 27).slots) := by
  refine MetFree.of_bodySF (plainFor_of_name pn_2) hisR ?_
  intro p e s m args below meth c s₁ Bd hml0 hP hK
  obtain ⟨rfl, hZ, hh⟩ := hP
  have hx := Bd.exec
  have hby := Bd.bytes
  have hml : c.maxLocals = 2 := hml0
  have hown : s.vm.findClass "java/lang/StringBuilder" = some m.cls := findClass_of_methodNamed Bd.named
  have X0 : Stand p l e (rk 2 0 0 27) s m #[(.ref a1), (.int p2)] below meth c s₁ [] 0 0 := Stand.of_body Bd
  have e0 : s₁.heap = h0 := by rw [← hh, Bd.state]; rfl
  have N0 := Fr.nil n0
  have pre0 := own_pre (tb := p.tables) (e := e) (bl := below) (s := s₁) (ef_9 m a1 p2)
  have K0 := Keep.refl h0 [a1, arr]
  obtain ⟨_, _, ⟨T1, L1, k1, n1⟩, -, X1, ⟨Lc1, hQ1, l1, y1, z1⟩, st1⟩ := superBack X0 hx hZ (y := m_20) hown (tw hw 130 rfl) (own_same (y := m_20) (y2 := m_8) (tw hw 103 rfl) rfl (tw hw 131 rfl) (by decide)) (tw hw 131 rfl) (tw hw 85 rfl) (by decide) (backOf (W := 0) (rm22 l Z a0 hw [] a1 p2 arr cn nn vs zC ka h0 n0 O0 hCS sC E_a1 F_value_a1 F_coder_a1 F_count_a1 A_arr ge_a1 ge_arr h_n h_r h_v h_l) hZ (tw hw 133 rfl) (tw hw 47 rfl) (by decide) (by decide)) e0 (Ins.self E_a1) (g := (mkF m 2 #[Rf a1, It p2] [(.int p2), (.ref a1)])) rfl (by rw [hml]; rfl) (tw hw 133 rfl) (argsL := [(.int p2)]) (rest := []) (lenOf pd_10 rfl) rfl (w0 rfl) (hb hby d21_2) (fun _ _ => ⟨rfl, e0, (by decide : 0 + 0 ≤ _), (by decide : 0 + 0 ≤ _)⟩)
  dsimp only [Pt.U, Pt.locs, Pt.cells, Pt.slots] at X1 l1 y1 z1 st1 hQ1
  subst l1 y1 z1
  obtain ⟨rfl, N1q, K1q, O1, f1_0, f1_1, f1_2, f1_3⟩ := hQ1
  have N1 := Fr.app N0 N1q
  have K1 := K0.trans K1q (allS (Or.inl (List.mem_of_getElem? (i := 0) rfl)) (allS (Or.inl (List.mem_of_getElem? (i := 1) rfl)) all0))
  have sg2 : SG p.tables e below (T1.setTop (mkF m 7 #[Rf a1, It p2] [(.ref a1)])) (s₁.setTop (mkF m 0 #[Rf a1, It p2] [])) := by
    intro target kt
    show Steps _ _ _ (s₁.setTop (mkF m 0 #[Rf a1, It p2] [])) _
    refine XS.aloadN X0.here hx rfl (hb hby d21_0) rfl rfl ?_
    refine XS.iloadN X0.here hx rfl (hb hby d21_1) rfl ?_
    refine st1.trans ?_
    refine XS.pop X1.here hx rfl (hb hby d21_5) rfl rfl ?_
    refine XS.aloadN X1.here hx rfl (hb hby d21_6) rfl rfl ?_
    exact kt
  obtain ⟨fs, hr, hrun, hended, hW, hsame⟩ := X1.leave (v := some (.ref a1)) (fun h => by rw [Bd.returns] at h; cases h)
  refine ⟨_, _, pre0 _ (sg2 _ (?_)), hrun, hended, _, _, rfl, ?_, ⟨_, rfl⟩, hW, hsame.mono (by decide) (by decide)⟩
  · show Steps _ _ _ (T1.setTop (mkF m 7 #[Rf a1, It p2] [(.ref a1)])) _
    jvm_step X1.here [X1.here.top, hx, (hb hby d21_7), X1.method', Bd.returns, Value.isRef, FieldType.isReference]
    first | (intro acts; rw [hr _ acts rfl rfl rfl]) | rw [hr _ _ rfl rfl rfl]
    exact Steps.refl _
  · show Q21 Z a1 p2 arr cn nn vs zC ka h0 n0 _ T1.heap _
    exact ⟨rfl, N1, K1, O1, f1_0, f1_1, f1_2, f1_3⟩
def Q35 (Z : State) (p1 : Int32) (p2 : Int32) (h0 : Heap) (n0 : Nat) (v : Option Value) (h : Heap) (L : List Loc) : Prop := v = some (.int (if p2 < p1 then p2 else p1)) ∧ Fr n0 L ∧ h = h0
theorem ef_35 (m : MethodId) (x0 : Int32) (x1 : Int32) : entryFrame m #[(.int x0), (.int x1)] 2 = mkF m 0 #[.val (.int x0), .val (.int x1)] [] := by first | (simp [entryFrame, mkF, argsToLocals, Value.category]; done) | rfl
theorem rm35 (l : Launch) (Z : State) (a0 : Array Value) (hw : ∀ d ∈ tables_1, d.before a0 Z = true) (ws : List Jvm.Cond) (p1 : Int32) (p2 : Int32) (h0 : Heap) (n0 : Nat) (O0 : Old Z n0 h0) :
    MetFree l m_22 (head1 (Jvm.Cond.code m_22 jdk_29_method_69_code 2 (some .int) :: ws) (rk 0 0 0 0)) (fun a U => a = #[(.int p1), (.int p2)] ∧ Z.Warmed39 U.vm ∧ U.heap = h0) (fun _ _ _ _ _ => True) (fun _ U o U' => ∃ v L, o = .returned v ∧ Q35 Z p1 p2 h0 n0 v U'.heap L ∧ FrameEnd U o U' L (rk 0 0 0 0).cells (rk 0 0 0 0).slots) := by
  refine MetFree.of_bodySF (Jvm.Free.JP.mathPlain rfl (by decide +kernel)) hisR ?_
  intro p e s m args below meth c s₁ Bd hml0 hP hK
  obtain ⟨rfl, hZ, hh⟩ := hP
  have hx := Bd.exec
  have hby := Bd.bytes
  have hml : c.maxLocals = 2 := hml0
  have hown : s.vm.findClass "java/lang/Math" = some m.cls := findClass_of_methodNamed Bd.named
  have X0 : Stand p l e (rk 0 0 0 0) s m #[(.int p1), (.int p2)] below meth c s₁ [] 0 0 := Stand.of_body Bd
  have e0 : s₁.heap = h0 := by rw [← hh, Bd.state]; rfl
  have N0 := Fr.nil n0
  have pre0 := own_pre (tb := p.tables) (e := e) (bl := below) (s := s₁) (ef_35 m p1 p2)
  have sg1 : SG p.tables e below (s₁.setTop (mkF m 2 #[It p1, It p2] [(.int p2), (.int p1)])) (s₁.setTop (mkF m 0 #[It p1, It p2] [])) := by
    intro target kt
    show Steps _ _ _ (s₁.setTop (mkF m 0 #[It p1, It p2] [])) _
    refine XS.iloadN X0.here hx rfl (hb hby d35_0) rfl ?_
    refine XS.iloadN X0.here hx rfl (hb hby d35_1) rfl ?_
    exact kt
  by_cases hc2 : p2 < p1
  · have sg3 : SG p.tables e below (s₁.setTop (mkF m 10 #[It p1, It p2] [(.int p2)])) (s₁.setTop (mkF m 2 #[It p1, It p2] [(.int p2), (.int p1)])) := by
      intro target kt
      show Steps _ _ _ (s₁.setTop (mkF m 2 #[It p1, It p2] [(.int p2), (.int p1)])) _
      refine XS.icmpYes X0.here hx rfl (pc0 := 2) (pc' := 9) rfl (hb hby d35_2) rfl (tlt hc2).2.2.1 (by decide) (by decide) ?_
      refine XS.iloadN X0.here hx rfl (hb hby d35_9) rfl ?_
      exact kt
    obtain ⟨fs, hr, hrun, hended, hW, hsame⟩ := X0.leave (v := some (.int p2)) (fun h => by rw [Bd.returns] at h; cases h)
    refine ⟨_, _, pre0 _ (sg1 _ (sg3 _ (?_))), hrun, hended, _, _, rfl, ?_, ⟨_, rfl⟩, hW, hsame.mono (by decide) (by decide)⟩
    · show Steps _ _ _ (s₁.setTop (mkF m 10 #[It p1, It p2] [(.int p2)])) _
      exact retI X0 hx Bd.returns (hb hby d35_10) hr
    · show Q35 Z p1 p2 h0 n0 _ s₁.heap _
      rw [e0]
      exact ⟨(by rw [if_pos hc2]), N0, rfl⟩
  · have sg4 : SG p.tables e below (s₁.setTop (mkF m 10 #[It p1, It p2] [(.int p1)])) (s₁.setTop (mkF m 2 #[It p1, It p2] [(.int p2), (.int p1)])) := by
      intro target kt
      show Steps _ _ _ (s₁.setTop (mkF m 2 #[It p1, It p2] [(.int p2), (.int p1)])) _
      refine XS.icmpNo X0.here hx rfl (hb hby d35_2) rfl (flt hc2).2.2.1 ?_
      refine XS.iloadN X0.here hx rfl (hb hby d35_5) rfl ?_
      refine XS.goto X0.here hx rfl (pc0 := 6) (pc' := 10) rfl (hb hby d35_6) (by decide) (by decide) ?_
      exact kt
    obtain ⟨fs, hr, hrun, hended, hW, hsame⟩ := X0.leave (v := some (.int p1)) (fun h => by rw [Bd.returns] at h; cases h)
    refine ⟨_, _, pre0 _ (sg1 _ (sg4 _ (?_))), hrun, hended, _, _, rfl, ?_, ⟨_, rfl⟩, hW, hsame.mono (by decide) (by decide)⟩
    · show Steps _ _ _ (s₁.setTop (mkF m 10 #[It p1, It p2] [(.int p1)])) _
      exact retI X0 hx Bd.returns (hb hby d35_10) hr
    · show Q35 Z p1 p2 h0 n0 _ s₁.heap _
      rw [e0]
      exact ⟨(by rw [if_neg hc2]), N0, rfl⟩
def Q34 (Z : State) (p2 : Int32) (h0 : Heap) (n0 : Nat) (v : Option Value) (h : Heap) (L : List Loc) : Prop := v = none ∧ Fr n0 L ∧ h = h0
theorem rm34 (l : Launch) (Z : State) (a0 : Array Value) (hw : ∀ d ∈ tables_1, d.before a0 Z = true) (ws : List Jvm.Cond) (p2 : Int32) (h0 : Heap) (n0 : Nat) (O0 : Old Z n0 h0) (h_nn : ¬ p2 < (0 : Int32)) :
    MetFree l m_23 (head1 (Jvm.Cond.code m_23 jdk_65_method_131_code 2 none :: ws) (rk 0 0 0 0)) (fun a U => a = #[(.int (0 : Int32)), (.int p2)] ∧ Z.Warmed39 U.vm ∧ U.heap = h0) (fun _ _ _ _ _ => True) (fun _ U o U' => ∃ v L, o = .returned v ∧ Q34 Z p2 h0 n0 v U'.heap L ∧ FrameEnd U o U' L (rk 0 0 0 0).cells (rk 0 0 0 0).slots) := by
  refine MetFree.of_bodySF (plainFor_of_name pn_5) hisR ?_
  intro p e s m args below meth c s₁ Bd hml0 hP hK
  obtain ⟨rfl, hZ, hh⟩ := hP
  have hx := Bd.exec
  have hby := Bd.bytes
  have hml : c.maxLocals = 2 := hml0
  have hown : s.vm.findClass "java/util/Arrays" = some m.cls := findClass_of_methodNamed Bd.named
  have X0 : Stand p l e (rk 0 0 0 0) s m #[(.int (0 : Int32)), (.int p2)] below meth c s₁ [] 0 0 := Stand.of_body Bd
  have e0 : s₁.heap = h0 := by rw [← hh, Bd.state]; rfl
  have N0 := Fr.nil n0
  have pre0 := own_pre (tb := p.tables) (e := e) (bl := below) (s := s₁) (ef_35 m (0 : Int32) p2)
  have sg1 : SG p.tables e below (s₁.setTop (mkF m 37 #[It (0 : Int32), It p2] [])) (s₁.setTop (mkF m 0 #[It (0 : Int32), It p2] [])) := by
    intro target kt
    show Steps _ _ _ (s₁.setTop (mkF m 0 #[It (0 : Int32), It p2] [])) _
    refine XS.iloadN X0.here hx rfl (hb hby d34_0) rfl ?_
    refine XS.iloadN X0.here hx rfl (hb hby d34_1) rfl ?_
    refine XS.icmpYes X0.here hx rfl (pc0 := 2) (pc' := 37) rfl (hb hby d34_2) rfl (flt h_nn).2.1 (by decide) (by decide) ?_
    exact kt
  obtain ⟨fs, hr, hrun, hended, hW, hsame⟩ := X0.leave (v := none) (fun _ => rfl)
  refine ⟨_, _, pre0 _ (sg1 _ (?_)), hrun, hended, _, _, rfl, ?_, ⟨_, rfl⟩, hW, hsame.mono (by decide) (by decide)⟩
  · show Steps _ _ _ (s₁.setTop (mkF m 37 #[It (0 : Int32), It p2] [])) _
    exact X0.returnOut hx Bd.returns (hb hby d34_37) hr
  · show Q34 Z p2 h0 n0 _ s₁.heap _
    rw [e0]
    exact ⟨rfl, N0, rfl⟩
def Q33 (Z : State) (arr : Addr) (cn : Int32) (nn : Nat) (vs : List Value) (ka : ClassId) (h0 : Heap) (n0 : Nat) (v : Option Value) (h : Heap) (L : List Loc) : Prop := ∃ ro : Addr, ∃ ko : ClassId, v = some (.ref ro) ∧ Fr n0 L ∧ Keep h0 h [] ∧ Old Z n0 h ∧ Arv Z h ro ko .byte cn (cpy z16 0 vs 0 nn) (.int (0 : Int32)) ∧ n0 ≤ ro ∧ h0.size ≤ ro
theorem ef_33 (m : MethodId) (x0 : Addr) (x1 : Int32) (x2 : Int32) : entryFrame m #[(.ref x0), (.int x1), (.int x2)] 5 = mkF m 0 #[.val (.ref x0), .val (.int x1), .val (.int x2), .unset, .unset] [] := by first | (simp [entryFrame, mkF, argsToLocals, Value.category]; done) | rfl
theorem rm33 (l : Launch) (Z : State) (a0 : Array Value) (hw : ∀ d ∈ tables_1, d.before a0 Z = true) (ws : List Jvm.Cond) (arr : Addr) (cn : Int32) (nn : Nat) (vs : List Value) (ka : ClassId) (h0 : Heap) (n0 : Nat) (O0 : Old Z n0 h0) (A_arr : Arv Z h0 arr ka .byte (16 : Int32) vs (.int (0 : Int32))) (h_n : Sm cn nn) (h_r : nn < 16) :
    MetFree l m_24 (head1 (Jvm.Cond.code m_24 jdk_65_method_133_code 5 (some (.array .byte)) :: ws) (rk 1 1 16 40)) (fun a U => a = #[(.ref arr), (.int (0 : Int32)), (.int cn)] ∧ Z.Warmed39 U.vm ∧ U.heap = h0) (fun _ _ _ _ _ => True) (fun _ U o U' => ∃ v L, o = .returned v ∧ Q33 Z arr cn nn vs ka h0 n0 v U'.heap L ∧ FrameEnd U o U' L (rk 1 1 16 40).cells (rk 1 1 16 40).slots) := by
  refine MetFree.of_bodySF (plainFor_of_name pn_5) hisR ?_
  intro p e s m args below meth c s₁ Bd hml0 hP hK
  obtain ⟨rfl, hZ, hh⟩ := hP
  have hx := Bd.exec
  have hby := Bd.bytes
  have hml : c.maxLocals = 5 := hml0
  have hown : s.vm.findClass "java/util/Arrays" = some m.cls := findClass_of_methodNamed Bd.named
  have X0 : Stand p l e (rk 1 1 16 40) s m #[(.ref arr), (.int (0 : Int32)), (.int cn)] below meth c s₁ [] 0 0 := Stand.of_body Bd
  have e0 : s₁.heap = h0 := by rw [← hh, Bd.state]; rfl
  have N0 := Fr.nil n0
  have pre0 := own_pre (tb := p.tables) (e := e) (bl := below) (s := s₁) (ef_33 m arr (0 : Int32) cn)
  have K0 := Keep.refl h0 []
  obtain ⟨_, _, ⟨T1, L1, k1, n1⟩, -, X1, ⟨Lc1, hQ1, l1, y1, z1⟩, st1⟩ := Jvm.LawKit.callS X0 hx (y := m_23) hown (mvT hZ (tw hw 181 rfl)) (mvT hZ (tw hw 182 rfl)) (mvT hZ (tw hw 176 rfl)) (mvT hZ (tw hw 183 rfl)) (by decide) (backOf (W := 0) (rm34 l Z a0 hw [] cn h0 n0 O0 h_n.nn) hZ (tw hw 183 rfl) (tw hw 176 rfl) (by decide) (by decide)) (g := (mkF m 2 #[Rf arr, It (0 : Int32), It cn, .unset, .unset] [(.int cn), (.int (0 : Int32))])) rfl (by rw [hml]; rfl) (argsL := [(.int (0 : Int32)), (.int cn)]) (rest := []) (lenOf pd_11 rfl) rfl (w0 rfl) (hb hby d33_2) (fun _ _ => ⟨rfl, e0, (by decide : 0 + 0 ≤ _), (by decide : 0 + 0 ≤ _)⟩)
  dsimp only [Pt.U, Pt.locs, Pt.cells, Pt.slots] at X1 l1 y1 z1 st1 hQ1
  subst l1 y1 z1
  obtain ⟨rfl, N1q, e1⟩ := hQ1
  have N1 := Fr.app N0 N1q
  obtain ⟨u2, hu2⟩ : ∃ z, z = (cn - (0 : Int32)) := ⟨_, rfl⟩
  have sg3 : SG p.tables e below (T1.setTop (mkF m 8 #[Rf arr, It (0 : Int32), It cn, .unset, .unset] [(.int u2)])) (s₁.setTop (mkF m 0 #[Rf arr, It (0 : Int32), It cn, .unset, .unset] [])) := by
    intro target kt
    subst hu2
    show Steps _ _ _ (s₁.setTop (mkF m 0 #[Rf arr, It (0 : Int32), It cn, .unset, .unset] [])) _
    refine XS.iloadN X0.here hx rfl (hb hby d33_0) rfl ?_
    refine XS.iloadN X0.here hx rfl (hb hby d33_1) rfl ?_
    refine st1 _ ?_
    refine XS.iloadN X1.here hx rfl (hb hby d33_5) rfl ?_
    refine XS.iloadN X1.here hx rfl (hb hby d33_6) rfl ?_
    refine XS.isub X1.here hx rfl (hb hby d33_7) rfl ?_
    exact kt
  have hl3 : u2 = cn := hu2.trans (own_sub0 cn)
  have h_l3 : Sm u2 nn := by rw [hl3]; exact h_n
  obtain ⟨T4, h4, k4, X4, e4, E4, A4, st4⟩ := newP X1 hx hZ (tw hw 19 rfl) e1 (g := (mkF m 10 #[Rf arr, It (0 : Int32), It cn, It u2, .unset] [(.int u2)])) rfl (hb hby d33_10) rfl h_l3.nn (cap := 16) (own_capn h_l3 (Nat.le_of_lt h_r)) (by decide) (by decide) (by decide)
  obtain ⟨b4, g4⟩ : ∃ z, z = h0.size := ⟨_, rfl⟩
  rw [← g4] at A4 st4
  have ge_b4 : n0 ≤ b4 := Nat.le_trans (own_osz O0) (Nat.le_of_eq g4.symm)
  have sz_b4 : h0.size ≤ b4 := Nat.le_trans K0.1 (Nat.le_of_eq g4.symm)
  have O5 := O0.ext E4
  have K4 := K0.ext E4
  have V_b4 : Arv Z h4 b4 k4 .byte u2 z16 (.int (0 : Int32)) := (Arv.new A4 h_l3.nn).pad (pad_rep [] (.int (0 : Int32)) 16)
  obtain ⟨cl6, Ar6, -, Sz6, Nn6, -, -⟩ := id (A_arr.ext E4)
  obtain ⟨_, _, ⟨T7, L7, k7, n7⟩, -, X7, ⟨Lc7, hQ7, l7, y7, z7⟩, st7⟩ := Jvm.LawKit.callS X4 hx (y := m_22) hown (mvT hZ (tw hw 184 rfl)) (mvT hZ (tw hw 185 rfl)) (mvT hZ (tw hw 186 rfl)) (mvT hZ (tw hw 187 rfl)) (by decide) (backOf (W := 4) (rm35 l Z a0 hw [] ((16 : Int32) - (0 : Int32)) u2 h4 n0 O5 ) hZ (tw hw 187 rfl) (tw hw 186 rfl) (by decide) (by decide)) (g := (mkF m 24 #[Rf arr, It (0 : Int32), It cn, It u2, Rf b4] [(.int u2), (.int ((16 : Int32) - (0 : Int32))), (.int (0 : Int32)), (.ref b4), (.int (0 : Int32)), (.ref arr)])) rfl (by rw [hml]; rfl) (argsL := [(.int ((16 : Int32) - (0 : Int32))), (.int u2)]) (rest := [(.int (0 : Int32)), (.ref b4), (.int (0 : Int32)), (.ref arr)]) (lenOf pd_12 rfl) rfl (w0 rfl) (hb hby d33_24) (fun _ _ => ⟨rfl, e4, (by decide : 1 + 0 ≤ _), (by decide : 16 + 0 ≤ _)⟩)
  dsimp only [Pt.U, Pt.locs, Pt.cells, Pt.slots] at X7 l7 y7 z7 st7 hQ7
  subst l7 y7 z7
  obtain ⟨rfl, N7q, e7⟩ := hQ7
  have N7 := Fr.app N1 N7q
  obtain ⟨r7, hr7⟩ : ∃ z, z = (if u2 < ((16 : Int32) - (0 : Int32)) then u2 else ((16 : Int32) - (0 : Int32))) := ⟨_, rfl⟩
  rw [← hr7] at st7
  have hmn : Sm r7 nn := own_min16 hr7 h_l3 h_r
  obtain ⟨T8, h8, L8, X8, e8, N8, K8q, V8, st8⟩ := cpA X7 hx hZ hown (tw hw 188 rfl) (tw hw 124 rfl) (tw hw 122 rfl) (tw hw 123 rfl) e7 (A_arr.ext E4) V_b4 (Or.inl ⟨rfl, rfl⟩) (Sm.lit (x := (0 : Int32)) (n := 0) (by decide)).nn (Sm.lit (x := (0 : Int32)) (n := 0) (by decide)).nn hmn.nn (own_le3 (Sm.lit (x := (0 : Int32)) (n := 0) (by decide)) hmn (Sm.lit (x := (16 : Int32)) (n := 16) (by decide)) (Nat.le_of_lt (by rw [Nat.zero_add]; exact h_r))) (own_le3 (Sm.lit (x := (0 : Int32)) (n := 0) (by decide)) hmn h_l3 (own_z0 nn)) rfl (own_le2 (Sm.lit (x := (0 : Int32)) (n := 0) (by decide)) hmn (by rw [Nat.zero_add]; exact Nat.le_of_lt h_r)) N7 ge_b4 (g := (mkF m 27 #[Rf arr, It (0 : Int32), It cn, It u2, Rf b4] [(.int r7), (.int (0 : Int32)), (.ref b4), (.int (0 : Int32)), (.ref arr)])) rfl (by rw [hml]; rfl) rfl (hb hby d33_27) (by decide) (W := 0) (w0 rfl) (by decide)
  have VV8 : Arv Z h8 b4 k4 .byte u2 (cpy z16 0 vs 0 nn) (.int (0 : Int32)) := own_cpy (Sm.lit (x := (0 : Int32)) (n := 0) (by decide)) (Sm.lit (x := (0 : Int32)) (n := 0) (by decide)) hmn V8
  have K8 := K4.trans K8q (allS (Or.inr sz_b4) all0)
  have O8 := O5.keep K8q (allS ge_b4 all0)
  have sg9 : SG p.tables e below (T8.setTop (mkF m 32 #[Rf arr, It (0 : Int32), It cn, It u2, Rf b4] [(.ref b4)])) (T1.setTop (mkF m 8 #[Rf arr, It (0 : Int32), It cn, .unset, .unset] [(.int u2)])) := by
    intro target kt
    show Steps _ _ _ (T1.setTop (mkF m 8 #[Rf arr, It (0 : Int32), It cn, .unset, .unset] [(.int u2)])) _
    refine XS.istoreN X1.here hx rfl (hb hby d33_8) rfl (l' := #[Rf arr, It (0 : Int32), It cn, It u2, .unset]) rfl ?_
    refine XS.iloadN X1.here hx rfl (hb hby d33_9) rfl ?_
    refine st4 _ ?_
    refine XS.astore X4.here hx rfl (hb hby d33_12) rfl rfl (l' := #[Rf arr, It (0 : Int32), It cn, It u2, Rf b4]) rfl ?_
    refine XS.aloadN X4.here hx rfl (hb hby d33_14) rfl rfl ?_
    refine XS.iloadN X4.here hx rfl (hb hby d33_15) rfl ?_
    refine XS.aload X4.here hx rfl (hb hby d33_16) rfl rfl ?_
    refine XS.iconst X4.here hx rfl (hb hby d33_18) ?_
    refine XS.aloadN X4.here hx rfl (hb hby d33_19) rfl rfl ?_
    refine X4.arraylength hx (own_rwh e4 Ar6.1) (State.isArrayOf_alike hZ.alike Ar6.2.1) (g := (mkF m 20 #[Rf arr, It (0 : Int32), It cn, It u2, Rf b4] [(.ref arr), (.int (0 : Int32)), (.ref b4), (.int (0 : Int32)), (.ref arr)])) rfl rfl (hb hby d33_20) _ ?_
    rw [len_of Sz6 Nn6]
    show Steps _ _ _ (T4.setTop (mkF m 21 #[Rf arr, It (0 : Int32), It cn, It u2, Rf b4] [(.int (16 : Int32)), (.int (0 : Int32)), (.ref b4), (.int (0 : Int32)), (.ref arr)])) _
    refine XS.iloadN X4.here hx rfl (hb hby d33_21) rfl ?_
    refine XS.isub X4.here hx rfl (hb hby d33_22) rfl ?_
    refine XS.iloadN X4.here hx rfl (hb hby d33_23) rfl ?_
    refine st7 _ ?_
    refine st8 _ ?_
    refine XS.aload X8.here hx rfl (hb hby d33_30) rfl rfl ?_
    exact kt
  obtain ⟨fs, hr, hrun, hended, hW, hsame⟩ := X8.leave (v := some (.ref b4)) (fun h => by rw [Bd.returns] at h; cases h)
  refine ⟨_, _, pre0 _ (sg3 _ (sg9 _ (?_))), hrun, hended, _, _, rfl, ?_, ⟨_, rfl⟩, hW, hsame.mono (by decide) (by decide)⟩
  · show Steps _ _ _ (T8.setTop (mkF m 32 #[Rf arr, It (0 : Int32), It cn, It u2, Rf b4] [(.ref b4)])) _
    jvm_step X8.here [X8.here.top, hx, (hb hby d33_32), X8.method', Bd.returns, Value.isRef, FieldType.isReference]
    first | (intro acts; rw [hr _ acts rfl rfl rfl]) | rw [hr _ _ rfl rfl rfl]
    exact Steps.refl _
  · show Q33 Z arr cn nn vs ka h0 n0 _ T8.heap _
    rw [e8]
    exact ⟨b4, k4, rfl, N8, K8, O8, (hl3 ▸ VV8), ge_b4, sz_b4⟩
def Q32 (Z : State) (arr : Addr) (cn : Int32) (nn : Nat) (vs : List Value) (ka : ClassId) (h0 : Heap) (n0 : Nat) (v : Option Value) (h : Heap) (L : List Loc) : Prop := ∃ ro : Addr, ∃ ko : ClassId, v = some (.ref ro) ∧ Fr n0 L ∧ Keep h0 h [] ∧ Old Z n0 h ∧ Arv Z h ro ko .byte cn (cpy z16 0 vs 0 nn) (.int (0 : Int32)) ∧ n0 ≤ ro ∧ h0.size ≤ ro
theorem ef_32 (m : MethodId) (x0 : Addr) (x1 : Int32) (x2 : Int32) : entryFrame m #[(.ref x0), (.int x1), (.int x2)] 3 = mkF m 0 #[.val (.ref x0), .val (.int x1), .val (.int x2)] [] := by first | (simp [entryFrame, mkF, argsToLocals, Value.category]; done) | rfl
theorem rm32 (l : Launch) (Z : State) (a0 : Array Value) (hw : ∀ d ∈ tables_1, d.before a0 Z = true) (ws : List Jvm.Cond) (arr : Addr) (cn : Int32) (nn : Nat) (vs : List Value) (ka : ClassId) (h0 : Heap) (n0 : Nat) (O0 : Old Z n0 h0) (A_arr : Arv Z h0 arr ka .byte (16 : Int32) vs (.int (0 : Int32))) (h_n : Sm cn nn) (h_r : nn < 16) :
    MetFree l m_25 (head1 (Jvm.Cond.code m_25 jdk_65_method_132_code 3 (some (.array .byte)) :: ws) (rk 2 1 16 56)) (fun a U => a = #[(.ref arr), (.int (0 : Int32)), (.int cn)] ∧ Z.Warmed39 U.vm ∧ U.heap = h0) (fun _ _ _ _ _ => True) (fun _ U o U' => ∃ v L, o = .returned v ∧ Q32 Z arr cn nn vs ka h0 n0 v U'.heap L ∧ FrameEnd U o U' L (rk 2 1 16 56).cells (rk 2 1 16 56).slots) := by
  refine MetFree.of_bodySF (plainFor_of_name pn_5) hisR ?_
  intro p e s m args below meth c s₁ Bd hml0 hP hK
  obtain ⟨rfl, hZ, hh⟩ := hP
  have hx := Bd.exec
  have hby := Bd.bytes
  have hml : c.maxLocals = 3 := hml0
  have hown : s.vm.findClass "java/util/Arrays" = some m.cls := findClass_of_methodNamed Bd.named
  have X0 : Stand p l e (rk 2 1 16 56) s m #[(.ref arr), (.int (0 : Int32)), (.int cn)] below meth c s₁ [] 0 0 := Stand.of_body Bd
  have e0 : s₁.heap = h0 := by rw [← hh, Bd.state]; rfl
  have N0 := Fr.nil n0
  have pre0 := own_pre (tb := p.tables) (e := e) (bl := below) (s := s₁) (ef_32 m arr (0 : Int32) cn)
  have K0 := Keep.refl h0 []
  obtain ⟨cl1, Ar1, -, Sz1, Nn1, -, -⟩ := id A_arr
  obtain ⟨_, _, ⟨T2, L2, k2, n2⟩, -, X2, ⟨Lc2, hQ2, l2, y2, z2⟩, st2⟩ := Jvm.LawKit.callS X0 hx (y := m_24) hown (mvT hZ (tw hw 178 rfl)) (mvT hZ (tw hw 179 rfl)) (mvT hZ (tw hw 176 rfl)) (mvT hZ (tw hw 180 rfl)) (by decide) (backOf (W := 0) (rm33 l Z a0 hw [] arr cn nn vs ka h0 n0 O0 A_arr h_n h_r) hZ (tw hw 180 rfl) (tw hw 176 rfl) (by decide) (by decide)) (g := (mkF m 13 #[Rf arr, It (0 : Int32), It cn] [(.int cn), (.int (0 : Int32)), (.ref arr)])) rfl (by rw [hml]; rfl) (argsL := [(.ref arr), (.int (0 : Int32)), (.int cn)]) (rest := []) (lenOf pd_13 rfl) rfl (w0 rfl) (hb hby d32_13) (fun _ _ => ⟨rfl, e0, (by decide : 0 + 1 ≤ _), (by decide : 0 + 16 ≤ _)⟩)
  dsimp only [Pt.U, Pt.locs, Pt.cells, Pt.slots] at X2 l2 y2 z2 st2 hQ2
  subst l2 y2 z2
  obtain ⟨ro_2, ko_2, rfl, N2q, K2q, O2, f2_0, f2_1, f2_2⟩ := hQ2
  have N2 := Fr.app N0 N2q
  have K2 := K0.trans K2q all0
  have sg3 : SG p.tables e below (T2.setTop (mkF m 16 #[Rf arr, It (0 : Int32), It cn] [(.ref ro_2)])) (s₁.setTop (mkF m 0 #[Rf arr, It (0 : Int32), It cn] [])) := by
    intro target kt
    show Steps _ _ _ (s₁.setTop (mkF m 0 #[Rf arr, It (0 : Int32), It cn] [])) _
    refine XS.iloadN X0.here hx rfl (hb hby d32_0) rfl ?_
    refine XS.ifNo X0.here hx rfl (hb hby d32_1) rfl ((if0 _ _).trans (teq (by decide : (0 : Int32) = (0 : Int32))).2) ?_
    refine XS.iloadN X0.here hx rfl (hb hby d32_4) rfl ?_
    refine XS.aloadN X0.here hx rfl (hb hby d32_5) rfl rfl ?_
    refine X0.arraylength hx (own_rwh e0 Ar1.1) (State.isArrayOf_alike hZ.alike Ar1.2.1) (g := (mkF m 6 #[Rf arr, It (0 : Int32), It cn] [(.ref arr), (.int cn)])) rfl rfl (hb hby d32_6) _ ?_
    rw [len_of Sz1 Nn1]
    show Steps _ _ _ (s₁.setTop (mkF m 7 #[Rf arr, It (0 : Int32), It cn] [(.int (16 : Int32)), (.int cn)])) _
    refine XS.icmpNo X0.here hx rfl (hb hby d32_7) rfl (feq (own_n16 h_n h_r)).1 ?_
    refine XS.aloadN X0.here hx rfl (hb hby d32_10) rfl rfl ?_
    refine XS.iloadN X0.here hx rfl (hb hby d32_11) rfl ?_
    refine XS.iloadN X0.here hx rfl (hb hby d32_12) rfl ?_
    refine st2 _ ?_
    exact kt
  obtain ⟨fs, hr, hrun, hended, hW, hsame⟩ := X2.leave (v := some (.ref ro_2)) (fun h => by rw [Bd.returns] at h; cases h)
  refine ⟨_, _, pre0 _ (sg3 _ (?_)), hrun, hended, _, _, rfl, ?_, ⟨_, rfl⟩, hW, hsame.mono (by decide) (by decide)⟩
  · show Steps _ _ _ (T2.setTop (mkF m 16 #[Rf arr, It (0 : Int32), It cn] [(.ref ro_2)])) _
    jvm_step X2.here [X2.here.top, hx, (hb hby d32_16), X2.method', Bd.returns, Value.isRef, FieldType.isReference]
    first | (intro acts; rw [hr _ acts rfl rfl rfl]) | rw [hr _ _ rfl rfl rfl]
    exact Steps.refl _
  · show Q32 Z arr cn nn vs ka h0 n0 _ T2.heap _
    exact ⟨ro_2, ko_2, rfl, N2, K2, O2, f2_0, f2_1, (Nat.le_trans K0.1 f2_2)⟩
def Q28 (Z : State) (a1 : Addr) (a2 : Addr) (arr : Addr) (cn : Int32) (nn : Nat) (vs : List Value) (zC : Int32) (ka : ClassId) (h0 : Heap) (n0 : Nat) (v : Option Value) (h : Heap) (L : List Loc) : Prop := ∃ ro : Addr, ∃ ko : ClassId, v = none ∧ Fr n0 L ∧ Keep h0 h [a1] ∧ Old Z n0 h ∧ Fld Z h a1 "java/lang/String" "coder" "B" (.int (0 : Int32)) ∧ Fld Z h a1 "java/lang/String" "value" "[B" (.ref ro) ∧ Arv Z h ro ko .byte cn (cpy z16 0 vs 0 nn) (.int (0 : Int32)) ∧ n0 ≤ ro ∧ h0.size ≤ ro
theorem ef_28 (m : MethodId) (x0 : Addr) (x1 : Addr) : entryFrame m #[(.ref x0), (.ref x1), .null] 5 = mkF m 0 #[.val (.ref x0), .val (.ref x1), .val .null, .unset, .unset] [] := by first | (simp [entryFrame, mkF, argsToLocals, Value.category]; done) | rfl
theorem rm28 (l : Launch) (Z : State) (a0 : Array Value) (hw : ∀ d ∈ tables_1, d.before a0 Z = true) (ws : List Jvm.Cond) (a1 : Addr) (a2 : Addr) (arr : Addr) (cn : Int32) (nn : Nat) (vs : List Value) (zC : Int32) (ka : ClassId) (h0 : Heap) (n0 : Nat) (O0 : Old Z n0 h0) (hCS : ¬ zC = 0) (sC : TS_0 Z zC) (E_a1 : Exa Z h0 a1 "java/lang/String") (F_value_a1 : Fld Z h0 a1 "java/lang/String" "value" "[B" .null) (F_coder_a1 : Fld Z h0 a1 "java/lang/String" "coder" "B" (.int (0 : Int32))) (ge_a1 : n0 ≤ a1) (E_a2 : Exa Z h0 a2 "java/lang/StringBuilder") (F_value_a2 : Fld Z h0 a2 "java/lang/AbstractStringBuilder" "value" "[B" (.ref arr)) (F_coder_a2 : Fld Z h0 a2 "java/lang/AbstractStringBuilder" "coder" "B" (.int (0 : Int32))) (F_count_a2 : Fld Z h0 a2 "java/lang/AbstractStringBuilder" "count" "I" (.int cn)) (A_arr : Arv Z h0 arr ka .byte (16 : Int32) vs (.int (0 : Int32))) (h_n : Sm cn nn) (h_r : nn < 16) :
    MetFree l m_26 (head1 (Jvm.Cond.code m_26 jdk_42_method_150_code 5 none :: ws) (rk 3 1 16 71)) (fun a U => a = #[(.ref a1), (.ref a2), .null] ∧ Z.Warmed39 U.vm ∧ U.heap = h0) (fun _ _ _ _ _ => True) (fun _ U o U' => ∃ v L, o = .returned v ∧ Q28 Z a1 a2 arr cn nn vs zC ka h0 n0 v U'.heap L ∧ FrameEnd U o U' L (rk 3 1 16 71).cells (rk 3 1 16 71).slots) := by
  refine MetFree.of_bodySF (plainFor_of_name pn_0) hisR ?_
  intro p e s m args below meth c s₁ Bd hml0 hP hK
  obtain ⟨rfl, hZ, hh⟩ := hP
  have hx := Bd.exec
  have hby := Bd.bytes
  have hml : c.maxLocals = 5 := hml0
  have hown : s.vm.findClass "java/lang/String" = some m.cls := findClass_of_methodNamed Bd.named
  have hnm := (name_of_methodNamed Bd.named Bd.method).1
  have X0 : Stand p l e (rk 3 1 16 71) s m #[(.ref a1), (.ref a2), .null] below meth c s₁ [] 0 0 := Stand.of_body Bd
  have e0 : s₁.heap = h0 := by rw [← hh, Bd.state]; rfl
  have N0 := Fr.nil n0
  have pre0 := own_pre (tb := p.tables) (e := e) (bl := below) (s := s₁) (ef_28 m a1 a2)
  have K0 := Keep.refl h0 [a1]
  obtain ⟨T1, X1, e1, st1⟩ := initO X0 hx hZ hown (tw hw 11 rfl) (tw hw 12 rfl) (tw hw 13 rfl) e0 (g := (mkF m 1 #[Rf a1, Rf a2, .val .null, .unset, .unset] [(.ref a1)])) rfl (by rw [hml]; rfl) rfl (hb hby d28_1) (by decide) (W := 0) (w0 rfl) (by decide)
  obtain ⟨cq2, kq2, q2a, q2b, q2c⟩ := isOf hZ e1 E_a2
  obtain ⟨_, _, ⟨T2, L2, k2, n2⟩, -, X2, ⟨Lc2, hQ2, l2, y2, z2⟩, st2⟩ := X1.virtualBack hx (y := m_5) (z := m_5) hown (mvT hZ (tw hw 160 rfl)) (mvT hZ (tw hw 161 rfl)) (notFace_of_selects (args := #[]) (mvT hZ (tw hw 163 rfl))) (mvT hZ (tw hw 163 rfl)) (mvT hZ (tw hw 162 rfl)) (by decide) (backOf (W := 0) (rm29 l Z a0 hw [] a2 arr h0 n0 O0 F_value_a2) hZ (tw hw 164 rfl) (tw hw 47 rfl) (by decide) (by decide)) q2a q2c (g := (mkF m 5 #[Rf a1, Rf a2, .val .null, .unset, .unset] [(.ref a2)])) rfl (by rw [hml]; rfl) (Steps.refl _) (argsL := []) (rest := []) (lenOf pd_14 rfl) rfl (w0 rfl) (hb hby d28_5) (fun _ _ => ⟨rfl, e1, (by decide : 0 + 0 ≤ _), (by decide : 0 + 0 ≤ _)⟩)
  dsimp only [Pt.U, Pt.locs, Pt.cells, Pt.slots] at X2 l2 y2 z2 st2 hQ2
  subst l2 y2 z2
  obtain ⟨rfl, N2q, e2⟩ := hQ2
  have N2 := Fr.app N0 N2q
  obtain ⟨cq3, kq3, q3a, q3b, q3c⟩ := isOf hZ e2 E_a2
  obtain ⟨_, _, ⟨T3, L3, k3, n3⟩, -, X3, ⟨Lc3, hQ3, l3, y3, z3⟩, st3⟩ := X2.virtualBack hx (y := m_6) (z := m_7) hown (mvT hZ (tw hw 165 rfl)) (mvT hZ (tw hw 166 rfl)) (own_nface (args := #[]) (y2 := m_8) (mvT hZ (tw hw 103 rfl)) rfl) (mvT hZ (tw hw 168 rfl)) (mvT hZ (tw hw 169 rfl)) (by decide) (backOf (W := 0) (rm30 l Z a0 hw [] a2 cn h0 n0 O0 E_a2 F_count_a2) hZ (tw hw 170 rfl) (tw hw 39 rfl) (by decide) (by decide)) q3a q3c (g := (mkF m 10 #[Rf a1, Rf a2, .val .null, Rf arr, .unset] [(.ref a2)])) rfl (by rw [hml]; rfl) (Steps.refl _) (argsL := []) (rest := []) (lenOf pd_1 rfl) rfl (w0 rfl) (hb hby d28_10) (fun _ _ => ⟨rfl, e2, (by decide : 0 + 0 ≤ _), (by decide : 0 + 0 ≤ _)⟩)
  dsimp only [Pt.U, Pt.locs, Pt.cells, Pt.slots] at X3 l3 y3 z3 st3 hQ3
  subst l3 y3 z3
  obtain ⟨rfl, N3q, e3⟩ := hQ3
  have N3 := Fr.app N2 N3q
  obtain ⟨cq4, kq4, q4a, q4b, q4c⟩ := isOf hZ e3 E_a2
  obtain ⟨_, _, ⟨T4, L4, k4, n4⟩, -, X4, ⟨Lc4, hQ4, l4, y4, z4⟩, st4⟩ := X3.virtualBack hx (y := m_4) (z := m_4) hown (mvT hZ (tw hw 173 rfl)) (mvT hZ (tw hw 135 rfl)) (notFace_of_selects (args := #[]) (mvT hZ (tw hw 137 rfl))) (mvT hZ (tw hw 137 rfl)) (mvT hZ (tw hw 136 rfl)) (by decide) (backOf (W := 0) (rm23 l Z a0 hw [] a2 zC h0 n0 O0 hCS sC F_coder_a2) hZ (tw hw 138 rfl) (tw hw 47 rfl) (by decide) (by decide)) q4a q4c (g := (mkF m 16 #[Rf a1, Rf a2, .val .null, Rf arr, It cn] [(.ref a2)])) rfl (by rw [hml]; rfl) (Steps.refl _) (argsL := []) (rest := []) (lenOf pd_8 rfl) rfl (w0 rfl) (hb hby d28_16) (fun _ _ => ⟨rfl, e3, (by decide : 0 + 0 ≤ _), (by decide : 0 + 0 ≤ _)⟩)
  dsimp only [Pt.U, Pt.locs, Pt.cells, Pt.slots] at X4 l4 y4 z4 st4 hQ4
  subst l4 y4 z4
  obtain ⟨rfl, N4q, e4⟩ := hQ4
  have N4 := Fr.app N3 N4q
  obtain ⟨T5, h5, X5, e5, W5, st5⟩ := putFN X4 hx hZ hown (tw hw 26 rfl) Via.refl e4 F_coder_a1 E_a1 (Or.inr ⟨(tw hw 27 rfl), rfl, hnm⟩) (tw hw 2 rfl) (ty := .byte) (v' := .int ((0 : Int32).toInt8.toInt32)) (by decide) rfl (fits_nar_byte _) (g := (mkF m 24 #[Rf a1, Rf a2, .val .null, Rf arr, It cn] [(.int (0 : Int32)), (.ref a1)])) rfl rfl (hb hby d28_24)
  have Fw5 := F_coder_a1.same W5
  have N5 := Fr.snoc X5 N4 ge_a1
  have O6 := O0.wr W5 ge_a1
  have K5 := K0.wr W5 (Or.inl (List.mem_of_getElem? (i := 0) rfl))
  obtain ⟨_, _, ⟨T7, L7, k7, n7⟩, -, X7, ⟨Lc7, hQ7, l7, y7, z7⟩, st7⟩ := Jvm.LawKit.callS X5 hx (y := m_25) hown (mvT hZ (tw hw 174 rfl)) (mvT hZ (tw hw 175 rfl)) (mvT hZ (tw hw 176 rfl)) (mvT hZ (tw hw 177 rfl)) (by decide) (backOf (W := 1) (rm32 l Z a0 hw [] arr cn nn vs ka h5 n0 O6 (A_arr.other W5 (Ne.symm (Exa.neArv E_a1 A_arr (tw hw 2 rfl)))) h_n h_r) hZ (tw hw 177 rfl) (tw hw 176 rfl) (by decide) (by decide)) (g := (mkF m 32 #[Rf a1, Rf a2, .val .null, Rf arr, It cn] [(.int cn), (.int (0 : Int32)), (.ref arr), (.ref a1)])) rfl (by rw [hml]; rfl) (argsL := [(.ref arr), (.int (0 : Int32)), (.int cn)]) (rest := [(.ref a1)]) (lenOf pd_13 rfl) rfl (w0 rfl) (hb hby d28_32) (fun _ _ => ⟨rfl, e5, (by decide : 0 + 1 ≤ _), (by decide : 0 + 16 ≤ _)⟩)
  dsimp only [Pt.U, Pt.locs, Pt.cells, Pt.slots] at X7 l7 y7 z7 st7 hQ7
  subst l7 y7 z7
  obtain ⟨ro_7, ko_7, rfl, N7q, K7q, O7, f7_0, f7_1, f7_2⟩ := hQ7
  have N7 := Fr.app N5 N7q
  have K7 := K5.trans K7q all0
  obtain ⟨T8, h8, X8, e8, W8, st8⟩ := putF X7 hx hZ hown (host := "") (Or.inl (tw hw 28 rfl)) Via.refl rfl ((F_value_a1.other W5 (sn (.array .byte) .byte (Or.inr (tw hw 29 rfl)) (Or.inr (tw hw 27 rfl)))).keep K7q nin0) ((E_a1.wr W5).keep K7q) (Or.inr ⟨(tw hw 29 rfl), rfl, hnm⟩) (tw hw 2 rfl) (ty := (.array .byte)) (by decide) rfl rfl (g := (mkF m 35 #[Rf a1, Rf a2, .val .null, Rf arr, It cn] [(.ref ro_7), (.ref a1)])) rfl rfl (hb hby d28_35)
  have Fw8 := ((F_value_a1.other W5 (sn (.array .byte) .byte (Or.inr (tw hw 29 rfl)) (Or.inr (tw hw 27 rfl)))).keep K7q nin0).same W8
  have N8 := Fr.snoc X8 N7 ge_a1
  have O9 := O7.wr W8 ge_a1
  have K8 := K7.wr W8 (Or.inl (List.mem_of_getElem? (i := 0) rfl))
  have sg10 : SG p.tables e below (T8.setTop (mkF m 97 #[Rf a1, Rf a2, .val .null, Rf arr, It cn] [])) (s₁.setTop (mkF m 0 #[Rf a1, Rf a2, .val .null, .unset, .unset] [])) := by
    intro target kt
    show Steps _ _ _ (s₁.setTop (mkF m 0 #[Rf a1, Rf a2, .val .null, .unset, .unset] [])) _
    refine XS.aloadN X0.here hx rfl (hb hby d28_0) rfl rfl ?_
    refine st1 _ ?_
    refine XS.aloadN X1.here hx rfl (hb hby d28_4) rfl rfl ?_
    refine st2.trans ?_
    refine XS.astoreN X2.here hx rfl (hb hby d28_8) rfl rfl (l' := #[Rf a1, Rf a2, .val .null, Rf arr, .unset]) rfl ?_
    refine XS.aloadN X2.here hx rfl (hb hby d28_9) rfl rfl ?_
    refine st3.trans ?_
    refine XS.istore X3.here hx rfl (hb hby d28_13) rfl (l' := #[Rf a1, Rf a2, .val .null, Rf arr, It cn]) rfl ?_
    refine XS.aloadN X3.here hx rfl (hb hby d28_15) rfl rfl ?_
    refine st4.trans ?_
    refine XS.ifNo X4.here hx rfl (hb hby d28_19) rfl ((if0 _ _).trans (feq (by decide : ¬ ((1 : Int32) = (0 : Int32)))).1) ?_
    refine XS.aloadN X4.here hx rfl (hb hby d28_22) rfl rfl ?_
    refine XS.iconst X4.here hx rfl (hb hby d28_23) ?_
    refine st5 _ ?_
    refine XS.aloadN X5.here hx rfl (hb hby d28_27) rfl rfl ?_
    refine XS.aloadN X5.here hx rfl (hb hby d28_28) rfl rfl ?_
    refine XS.iconst X5.here hx rfl (hb hby d28_29) ?_
    refine XS.iload X5.here hx rfl (hb hby d28_30) rfl ?_
    refine st7 _ ?_
    refine st8 _ ?_
    refine XS.goto X8.here hx rfl (pc0 := 38) (pc' := 97) rfl (hb hby d28_38) (by decide) (by decide) ?_
    exact kt
  obtain ⟨fs, hr, hrun, hended, hW, hsame⟩ := X8.leave (v := none) (fun _ => rfl)
  refine ⟨_, _, pre0 _ (sg10 _ (?_)), hrun, hended, _, _, rfl, ?_, ⟨_, rfl⟩, hW, hsame.mono (by decide) (by decide)⟩
  · show Steps _ _ _ (T8.setTop (mkF m 97 #[Rf a1, Rf a2, .val .null, Rf arr, It cn] [])) _
    exact X8.returnOut hx Bd.returns (hb hby d28_97) hr
  · show Q28 Z a1 a2 arr cn nn vs zC ka h0 n0 _ T8.heap _
    rw [e8]
    exact ⟨ro_7, ko_7, rfl, N8, K8, O9, ((Fw5.keep K7q nin0).other W8 (sn .byte (.array .byte) (Or.inr (tw hw 27 rfl)) (Or.inr (tw hw 29 rfl)))), Fw8, (f7_0.other W8 (Ne.symm (Nat.ne_of_lt (Nat.lt_of_lt_of_le (E_a1.wr W5).lt f7_2)))), f7_1, (Nat.le_trans K5.1 f7_2)⟩
def Q27 (Z : State) (a1 : Addr) (a2 : Addr) (arr : Addr) (cn : Int32) (nn : Nat) (vs : List Value) (zC : Int32) (ka : ClassId) (h0 : Heap) (n0 : Nat) (v : Option Value) (h : Heap) (L : List Loc) : Prop := ∃ ro : Addr, ∃ ko : ClassId, v = none ∧ Fr n0 L ∧ Keep h0 h [a1] ∧ Old Z n0 h ∧ Fld Z h a1 "java/lang/String" "coder" "B" (.int (0 : Int32)) ∧ Fld Z h a1 "java/lang/String" "value" "[B" (.ref ro) ∧ Arv Z h ro ko .byte cn (cpy z16 0 vs 0 nn) (.int (0 : Int32)) ∧ n0 ≤ ro ∧ h0.size ≤ ro
theorem rm27 (l : Launch) (Z : State) (a0 : Array Value) (hw : ∀ d ∈ tables_1, d.before a0 Z = true) (ws : List Jvm.Cond) (a1 : Addr) (a2 : Addr) (arr : Addr) (cn : Int32) (nn : Nat) (vs : List Value) (zC : Int32) (ka : ClassId) (h0 : Heap) (n0 : Nat) (O0 : Old Z n0 h0) (hCS : ¬ zC = 0) (sC : TS_0 Z zC) (E_a1 : Exa Z h0 a1 "java/lang/String") (F_value_a1 : Fld Z h0 a1 "java/lang/String" "value" "[B" .null) (F_coder_a1 : Fld Z h0 a1 "java/lang/String" "coder" "B" (.int (0 : Int32))) (ge_a1 : n0 ≤ a1) (E_a2 : Exa Z h0 a2 "java/lang/StringBuilder") (F_value_a2 : Fld Z h0 a2 "java/lang/AbstractStringBuilder" "value" "[B" (.ref arr)) (F_coder_a2 : Fld Z h0 a2 "java/lang/AbstractStringBuilder" "coder" "B" (.int (0 : Int32))) (F_count_a2 : Fld Z h0 a2 "java/lang/AbstractStringBuilder" "count" "I" (.int cn)) (A_arr : Arv Z h0 arr ka .byte (16 : Int32) vs (.int (0 : Int32))) (h_n : Sm cn nn) (h_r : nn < 16) :
    MetFree l m_27 (head1 (Jvm.Cond.code m_27 jdk_42_method_53_code 2 none :: ws) (rk 4 1 16 87)) (fun a U => a = #[(.ref a1), (.ref a2)] ∧ Z.Warmed39 U.vm ∧ U.heap = h0) (fun _ _ _ _ _ => True) (fun _ U o U' => ∃ v L, o = .returned v ∧ Q27 Z a1 a2 arr cn nn vs zC ka h0 n0 v U'.heap L ∧ FrameEnd U o U' L (rk 4 1 16 87).cells (rk 4 1 16 87).slots) := by
  refine MetFree.of_bodySF (plainFor_of_name pn_0) hisR ?_
  intro p e s m args below meth c s₁ Bd hml0 hP hK
  obtain ⟨rfl, hZ, hh⟩ := hP
  have hx := Bd.exec
  have hby := Bd.bytes
  have hml : c.maxLocals = 2 := hml0
  have hown : s.vm.findClass "java/lang/String" = some m.cls := findClass_of_methodNamed Bd.named
  have X0 : Stand p l e (rk 4 1 16 87) s m #[(.ref a1), (.ref a2)] below meth c s₁ [] 0 0 := Stand.of_body Bd
  have e0 : s₁.heap = h0 := by rw [← hh, Bd.state]; rfl
  have N0 := Fr.nil n0
  have pre0 := own_pre (tb := p.tables) (e := e) (bl := below) (s := s₁) (ef_19 m a1 a2)
  have K0 := Keep.refl h0 [a1]
  obtain ⟨_, _, ⟨T1, L1, k1, n1⟩, -, X1, ⟨Lc1, hQ1, l1, y1, z1⟩, st1⟩ := X0.specialBack hx (y := m_26) rfl hown (mvT hZ (tw hw 157 rfl)) (mvT hZ (tw hw 158 rfl)) (mvT hZ (tw hw 159 rfl)) (by decide) (backOf (W := 0) (rm28 l Z a0 hw [] a1 a2 arr cn nn vs zC ka h0 n0 O0 hCS sC E_a1 F_value_a1 F_coder_a1 ge_a1 E_a2 F_value_a2 F_coder_a2 F_count_a2 A_arr h_n h_r) hZ (tw hw 159 rfl) (tw hw 3 rfl) (by decide) (by decide)) (g := (mkF m 3 #[Rf a1, Rf a2] [.null, (.ref a2), (.ref a1)])) rfl (by rw [hml]; rfl) (Steps.refl _) (a := a1) (argsL := [(.ref a2), .null]) (rest := []) (lenOf pd_15 rfl) rfl (w0 rfl) (hb hby d27_3) (fun _ _ => ⟨rfl, e0, (by decide : 0 + 1 ≤ _), (by decide : 0 + 16 ≤ _)⟩)
  dsimp only [Pt.U, Pt.locs, Pt.cells, Pt.slots] at X1 l1 y1 z1 st1 hQ1
  subst l1 y1 z1
  obtain ⟨ro_1, ko_1, rfl, N1q, K1q, O1, f1_0, f1_1, f1_2, f1_3, f1_4⟩ := hQ1
  have N1 := Fr.app N0 N1q
  have K1 := K0.trans K1q (allS (Or.inl (List.mem_of_getElem? (i := 0) rfl)) all0)
  have sg2 : SG p.tables e below (T1.setTop (mkF m 6 #[Rf a1, Rf a2] [])) (s₁.setTop (mkF m 0 #[Rf a1, Rf a2] [])) := by
    intro target kt
    show Steps _ _ _ (s₁.setTop (mkF m 0 #[Rf a1, Rf a2] [])) _
    refine XS.aloadN X0.here hx rfl (hb hby d27_0) rfl rfl ?_
    refine XS.aloadN X0.here hx rfl (hb hby d27_1) rfl rfl ?_
    refine XS.aconstNull X0.here hx rfl (hb hby d27_2) ?_
    refine st1.trans ?_
    exact kt
  obtain ⟨fs, hr, hrun, hended, hW, hsame⟩ := X1.leave (v := none) (fun _ => rfl)
  refine ⟨_, _, pre0 _ (sg2 _ (?_)), hrun, hended, _, _, rfl, ?_, ⟨_, rfl⟩, hW, hsame.mono (by decide) (by decide)⟩
  · show Steps _ _ _ (T1.setTop (mkF m 6 #[Rf a1, Rf a2] [])) _
    exact X1.returnOut hx Bd.returns (hb hby d27_6) hr
  · show Q27 Z a1 a2 arr cn nn vs zC ka h0 n0 _ T1.heap _
    exact ⟨ro_1, ko_1, rfl, N1, K1, O1, f1_0, f1_1, f1_2, f1_3, (Nat.le_trans K0.1 f1_4)⟩
def Q26 (Z : State) (a1 : Addr) (arr : Addr) (cn : Int32) (nn : Nat) (vs : List Value) (zC : Int32) (ka : ClassId) (h0 : Heap) (n0 : Nat) (v : Option Value) (h : Heap) (L : List Loc) : Prop := ∃ rs : Addr, ∃ ro : Addr, ∃ ko : ClassId, v = some (.ref rs) ∧ Fr n0 L ∧ Keep h0 h [] ∧ Old Z n0 h ∧ Exa Z h rs "java/lang/String" ∧ n0 ≤ rs ∧ h0.size ≤ rs ∧ Fld Z h rs "java/lang/String" "coder" "B" (.int (0 : Int32)) ∧ Fld Z h rs "java/lang/String" "value" "[B" (.ref ro) ∧ Arv Z h ro ko .byte cn (cpy z16 0 vs 0 nn) (.int (0 : Int32)) ∧ n0 ≤ ro ∧ h0.size ≤ ro
theorem rm26 (l : Launch) (Z : State) (a0 : Array Value) (hw : ∀ d ∈ tables_1, d.before a0 Z = true) (ws : List Jvm.Cond) (a1 : Addr) (arr : Addr) (cn : Int32) (nn : Nat) (vs : List Value) (zC : Int32) (ka : ClassId) (h0 : Heap) (n0 : Nat) (O0 : Old Z n0 h0) (hCS : ¬ zC = 0) (sC : TS_0 Z zC) (E_a1 : Exa Z h0 a1 "java/lang/StringBuilder") (F_value_a1 : Fld Z h0 a1 "java/lang/AbstractStringBuilder" "value" "[B" (.ref arr)) (F_coder_a1 : Fld Z h0 a1 "java/lang/AbstractStringBuilder" "coder" "B" (.int (0 : Int32))) (F_count_a1 : Fld Z h0 a1 "java/lang/AbstractStringBuilder" "count" "I" (.int cn)) (A_arr : Arv Z h0 arr ka .byte (16 : Int32) vs (.int (0 : Int32))) (h_n : Sm cn nn) (h_r : nn < 16) :
    MetFree l m_28 (head1 (Jvm.Cond.code m_28 jdk_67_method_42_code 1 (some (.object "java/lang/String")) :: ws) (rk 5 2 20 101)) (fun a U => a = #[(.ref a1)] ∧ Z.Warmed39 U.vm ∧ U.heap = h0) (fun _ _ _ _ _ => True) (fun _ U o U' => ∃ v L, o = .returned v ∧ Q26 Z a1 arr cn nn vs zC ka h0 n0 v U'.heap L ∧ FrameEnd U o U' L (rk 5 2 20 101).cells (rk 5 2 20 101).slots) := by
  refine MetFree.of_bodySF (plainFor_of_name pn_2) hisR ?_
  intro p e s m args below meth c s₁ Bd hml0 hP hK
  obtain ⟨rfl, hZ, hh⟩ := hP
  have hx := Bd.exec
  have hby := Bd.bytes
  have hml : c.maxLocals = 1 := hml0
  have hown : s.vm.findClass "java/lang/StringBuilder" = some m.cls := findClass_of_methodNamed Bd.named
  have X0 : Stand p l e (rk 5 2 20 101) s m #[(.ref a1)] below meth c s₁ [] 0 0 := Stand.of_body Bd
  have e0 : s₁.heap = h0 := by rw [← hh, Bd.state]; rfl
  have N0 := Fr.nil n0
  have pre0 := own_pre (tb := p.tables) (e := e) (bl := below) (s := s₁) (ef_16 m a1)
  have K0 := Keep.refl h0 []
  obtain ⟨T1, h1, X1, e1, E1, A1, D1, -, st1⟩ := newO X0 hx hZ hown (tw hw 153 rfl) (tw hw 2 rfl) (tw hw 3 rfl) e0 (g := (mkF m 0 #[Rf a1] [])) rfl (hb hby d26_0) (by decide) (by decide)
  obtain ⟨b1, g1⟩ : ∃ z, z = h0.size := ⟨_, rfl⟩
  rw [← g1] at A1 D1 st1
  have ge_b1 : n0 ≤ b1 := Nat.le_trans (own_osz O0) (Nat.le_of_eq g1.symm)
  have sz_b1 : h0.size ≤ b1 := Nat.le_trans K0.1 (Nat.le_of_eq g1.symm)
  have O2 := O0.ext E1
  have K1 := K0.ext E1
  have F_coder_b1 : Fld Z h1 b1 "java/lang/String" "coder" "B" (.int (0 : Int32)) := D1 (Or.inr (tw hw 27 rfl)) (ty := .byte) (by decide)
  have F_value_b1 : Fld Z h1 b1 "java/lang/String" "value" "[B" .null := D1 (Or.inr (tw hw 29 rfl)) (ty := (.array .byte)) (by decide)
  obtain ⟨_, _, ⟨T3, L3, k3, n3⟩, -, X3, ⟨Lc3, hQ3, l3, y3, z3⟩, st3⟩ := X1.specialBack hx (y := m_27) rfl hown (mvT hZ (tw hw 154 rfl)) (mvT hZ (tw hw 155 rfl)) (mvT hZ (tw hw 156 rfl)) (by decide) (backOf (W := 1) (rm27 l Z a0 hw [] b1 a1 arr cn nn vs zC ka h1 n0 O2 hCS sC A1 F_value_b1 F_coder_b1 ge_b1 (E_a1.ext E1) (F_value_a1.ext E1) (F_coder_a1.ext E1) (F_count_a1.ext E1) (A_arr.ext E1) h_n h_r) hZ (tw hw 156 rfl) (tw hw 3 rfl) (by decide) (by decide)) (g := (mkF m 5 #[Rf a1] [(.ref a1), (.ref b1), (.ref b1)])) rfl (by rw [hml]; rfl) (Steps.refl _) (a := b1) (argsL := [(.ref a1)]) (rest := [(.ref b1)]) (lenOf pd_16 rfl) rfl (w0 rfl) (hb hby d26_5) (fun _ _ => ⟨rfl, e1, (by decide : 1 + 1 ≤ _), (by decide : 4 + 16 ≤ _)⟩)
  dsimp only [Pt.U, Pt.locs, Pt.cells, Pt.slots] at X3 l3 y3 z3 st3 hQ3
  subst l3 y3 z3
  obtain ⟨ro_3, ko_3, rfl, N3q, K3q, O3, f3_0, f3_1, f3_2, f3_3, f3_4⟩ := hQ3
  have N3 := Fr.app N0 N3q
  have K3 := K1.trans K3q (allS (Or.inr sz_b1) all0)
  have sg4 : SG p.tables e below (T3.setTop (mkF m 8 #[Rf a1] [(.ref b1)])) (s₁.setTop (mkF m 0 #[Rf a1] [])) := by
    intro target kt
    show Steps _ _ _ (s₁.setTop (mkF m 0 #[Rf a1] [])) _
    refine st1 _ ?_
    refine XS.dup X1.here hx rfl (hb hby d26_3) rfl rfl ?_
    refine XS.aloadN X1.here hx rfl (hb hby d26_4) rfl rfl ?_
    refine st3.trans ?_
    exact kt
  obtain ⟨fs, hr, hrun, hended, hW, hsame⟩ := X3.leave (v := some (.ref b1)) (fun h => by rw [Bd.returns] at h; cases h)
  refine ⟨_, _, pre0 _ (sg4 _ (?_)), hrun, hended, _, _, rfl, ?_, ⟨_, rfl⟩, hW, hsame.mono (by decide) (by decide)⟩
  · show Steps _ _ _ (T3.setTop (mkF m 8 #[Rf a1] [(.ref b1)])) _
    jvm_step X3.here [X3.here.top, hx, (hb hby d26_8), X3.method', Bd.returns, Value.isRef, FieldType.isReference]
    first | (intro acts; rw [hr _ acts rfl rfl rfl]) | rw [hr _ _ rfl rfl rfl]
    exact Steps.refl _
  · show Q26 Z a1 arr cn nn vs zC ka h0 n0 _ T3.heap _
    exact ⟨b1, ro_3, ko_3, rfl, N3, K3, O3, (A1.keep K3q), ge_b1, sz_b1, f3_0, f3_1, f3_2, f3_3, (Nat.le_trans K1.1 f3_4)⟩
def Q25 (Z : State) (a1 : Addr) (arr : Addr) (cn : Int32) (nn : Nat) (vs : List Value) (sb : Addr) (zC : Int32) (ka : ClassId) (h0 : Heap) (n0 : Nat) (v : Option Value) (h : Heap) (L : List Loc) : Prop := ∃ rs : Addr, ∃ ro : Addr, ∃ ko : ClassId, v = some (.ref rs) ∧ Fr n0 L ∧ Keep h0 h [] ∧ Old Z n0 h ∧ Exa Z h rs "java/lang/String" ∧ n0 ≤ rs ∧ h0.size ≤ rs ∧ Fld Z h rs "java/lang/String" "coder" "B" (.int (0 : Int32)) ∧ Fld Z h rs "java/lang/String" "value" "[B" (.ref ro) ∧ Arv Z h ro ko .byte cn (cpy z16 0 vs 0 nn) (.int (0 : Int32)) ∧ n0 ≤ ro ∧ h0.size ≤ ro
theorem rm25 (l : Launch) (Z : State) (a0 : Array Value) (hw : ∀ d ∈ tables_1, d.before a0 Z = true) (ws : List Jvm.Cond) (a1 : Addr) (arr : Addr) (cn : Int32) (nn : Nat) (vs : List Value) (sb : Addr) (zC : Int32) (ka : ClassId) (h0 : Heap) (n0 : Nat) (O0 : Old Z n0 h0) (hCS : ¬ zC = 0) (sC : TS_0 Z zC) (F_text_a1 : Fld Z h0 a1 "com/example/tetrad/tetrad/generate/SourceText" "text" "Ljava/lang/StringBuilder;" (.ref sb)) (E_sb : Exa Z h0 sb "java/lang/StringBuilder") (F_value_sb : Fld Z h0 sb "java/lang/AbstractStringBuilder" "value" "[B" (.ref arr)) (F_coder_sb : Fld Z h0 sb "java/lang/AbstractStringBuilder" "coder" "B" (.int (0 : Int32))) (F_count_sb : Fld Z h0 sb "java/lang/AbstractStringBuilder" "count" "I" (.int cn)) (A_arr : Arv Z h0 arr ka .byte (16 : Int32) vs (.int (0 : Int32))) (h_n : Sm cn nn) (h_r : nn < 16) :
    MetFree l m_29 (head1 (Jvm.Cond.code m_29 prog_51_method_9_code 1 (some (.object "java/lang/String")) :: ws) (rk 6 2 20 113)) (fun a U => a = #[(.ref a1)] ∧ Z.Warmed39 U.vm ∧ U.heap = h0) (fun _ _ _ _ _ => True) (fun _ U o U' => ∃ v L, o = .returned v ∧ Q25 Z a1 arr cn nn vs sb zC ka h0 n0 v U'.heap L ∧ FrameEnd U o U' L (rk 6 2 20 113).cells (rk 6 2 20 113).slots) := by
  refine MetFree.of_bodySF (plainFor_of_name pn_3) hisR ?_
  intro p e s m args below meth c s₁ Bd hml0 hP hK
  obtain ⟨rfl, hZ, hh⟩ := hP
  have hx := Bd.exec
  have hby := Bd.bytes
  have hml : c.maxLocals = 1 := hml0
  have hown : s.vm.findClass "com/example/tetrad/tetrad/generate/SourceText" = some m.cls := findClass_of_methodNamed Bd.named
  have X0 : Stand p l e (rk 6 2 20 113) s m #[(.ref a1)] below meth c s₁ [] 0 0 := Stand.of_body Bd
  have e0 : s₁.heap = h0 := by rw [← hh, Bd.state]; rfl
  have N0 := Fr.nil n0
  have pre0 := own_pre (tb := p.tables) (e := e) (bl := below) (s := s₁) (ef_16 m a1)
  have K0 := Keep.refl h0 []
  obtain ⟨T1, X1, e1, st1⟩ := getF X0 hx hZ hown (host := "") (Or.inl (tw hw 55 rfl)) Via.refl e0 F_text_a1 (g := (mkF m 1 #[Rf a1] [(.ref a1)])) rfl rfl (hb hby d25_1)
  obtain ⟨cq2, kq2, q2a, q2b, q2c⟩ := isOf hZ e1 E_sb
  obtain ⟨_, _, ⟨T2, L2, k2, n2⟩, -, X2, ⟨Lc2, hQ2, l2, y2, z2⟩, st2⟩ := X1.virtualBack hx (y := m_28) (z := m_28) hown (mvT hZ (tw hw 148 rfl)) (mvT hZ (tw hw 149 rfl)) (notFace_of_selects (args := #[]) (mvT hZ (tw hw 151 rfl))) (mvT hZ (tw hw 151 rfl)) (mvT hZ (tw hw 150 rfl)) (by decide) (backOf (W := 0) (rm26 l Z a0 hw [] sb arr cn nn vs zC ka h0 n0 O0 hCS sC E_sb F_value_sb F_coder_sb F_count_sb A_arr h_n h_r) hZ (tw hw 152 rfl) (tw hw 39 rfl) (by decide) (by decide)) q2a q2c (g := (mkF m 4 #[Rf a1] [(.ref sb)])) rfl (by rw [hml]; rfl) (Steps.refl _) (argsL := []) (rest := []) (lenOf pd_17 rfl) rfl (w0 rfl) (hb hby d25_4) (fun _ _ => ⟨rfl, e1, (by decide : 0 + 2 ≤ _), (by decide : 0 + 20 ≤ _)⟩)
  dsimp only [Pt.U, Pt.locs, Pt.cells, Pt.slots] at X2 l2 y2 z2 st2 hQ2
  subst l2 y2 z2
  obtain ⟨rs_2, ro_2, ko_2, rfl, N2q, K2q, O2, f2_0, f2_1, f2_2, f2_3, f2_4, f2_5, f2_6, f2_7⟩ := hQ2
  have N2 := Fr.app N0 N2q
  have K2 := K0.trans K2q all0
  have sg3 : SG p.tables e below (T2.setTop (mkF m 7 #[Rf a1] [(.ref rs_2)])) (s₁.setTop (mkF m 0 #[Rf a1] [])) := by
    intro target kt
    show Steps _ _ _ (s₁.setTop (mkF m 0 #[Rf a1] [])) _
    refine XS.aloadN X0.here hx rfl (hb hby d25_0) rfl rfl ?_
    refine st1 _ ?_
    refine st2.trans ?_
    exact kt
  obtain ⟨fs, hr, hrun, hended, hW, hsame⟩ := X2.leave (v := some (.ref rs_2)) (fun h => by rw [Bd.returns] at h; cases h)
  refine ⟨_, _, pre0 _ (sg3 _ (?_)), hrun, hended, _, _, rfl, ?_, ⟨_, rfl⟩, hW, hsame.mono (by decide) (by decide)⟩
  · show Steps _ _ _ (T2.setTop (mkF m 7 #[Rf a1] [(.ref rs_2)])) _
    jvm_step X2.here [X2.here.top, hx, (hb hby d25_7), X2.method', Bd.returns, Value.isRef, FieldType.isReference]
    first | (intro acts; rw [hr _ acts rfl rfl rfl]) | rw [hr _ _ rfl rfl rfl]
    exact Steps.refl _
  · show Q25 Z a1 arr cn nn vs sb zC ka h0 n0 _ T2.heap _
    exact ⟨rs_2, ro_2, ko_2, rfl, N2, K2, O2, f2_0, f2_1, (Nat.le_trans K0.1 f2_2), f2_3, f2_4, f2_5, f2_6, (Nat.le_trans K0.1 f2_7)⟩
def Q45 (Z : State) (a1 : Addr) (a2 : Addr) (h0 : Heap) (n0 : Nat) (v : Option Value) (h : Heap) (L : List Loc) : Prop := v = none ∧ Fr n0 L ∧ Keep h0 h [a1] ∧ Old Z n0 h ∧ Fld Z h a1 "java/lang/String" "coder" "B" (.int (0 : Int32)) ∧ Fld Z h a1 "java/lang/String" "value" "[B" (.ref a2)
theorem ef_45 (m : MethodId) (x0 : Addr) (x1 : Addr) (x2 : Int32) : entryFrame m #[(.ref x0), (.ref x1), (.int x2)] 3 = mkF m 0 #[.val (.ref x0), .val (.ref x1), .val (.int x2)] [] := by first | (simp [entryFrame, mkF, argsToLocals, Value.category]; done) | rfl
theorem rm45 (l : Launch) (Z : State) (a0 : Array Value) (hw : ∀ d ∈ tables_1, d.before a0 Z = true) (ws : List Jvm.Cond) (a1 : Addr) (a2 : Addr) (h0 : Heap) (n0 : Nat) (O0 : Old Z n0 h0) (E_a1 : Exa Z h0 a1 "java/lang/String") (F_value_a1 : Fld Z h0 a1 "java/lang/String" "value" "[B" .null) (F_coder_a1 : Fld Z h0 a1 "java/lang/String" "coder" "B" (.int (0 : Int32))) (ge_a1 : n0 ≤ a1) :
    MetFree l m_30 (head1 (Jvm.Cond.code m_30 jdk_42_method_151_code 3 none :: ws) (rk 1 0 0 12)) (fun a U => a = #[(.ref a1), (.ref a2), (.int (0 : Int32))] ∧ Z.Warmed39 U.vm ∧ U.heap = h0) (fun _ _ _ _ _ => True) (fun _ U o U' => ∃ v L, o = .returned v ∧ Q45 Z a1 a2 h0 n0 v U'.heap L ∧ FrameEnd U o U' L (rk 1 0 0 12).cells (rk 1 0 0 12).slots) := by
  refine MetFree.of_bodySF (plainFor_of_name pn_0) hisR ?_
  intro p e s m args below meth c s₁ Bd hml0 hP hK
  obtain ⟨rfl, hZ, hh⟩ := hP
  have hx := Bd.exec
  have hby := Bd.bytes
  have hml : c.maxLocals = 3 := hml0
  have hown : s.vm.findClass "java/lang/String" = some m.cls := findClass_of_methodNamed Bd.named
  have hnm := (name_of_methodNamed Bd.named Bd.method).1
  have X0 : Stand p l e (rk 1 0 0 12) s m #[(.ref a1), (.ref a2), (.int (0 : Int32))] below meth c s₁ [] 0 0 := Stand.of_body Bd
  have e0 : s₁.heap = h0 := by rw [← hh, Bd.state]; rfl
  have N0 := Fr.nil n0
  have pre0 := own_pre (tb := p.tables) (e := e) (bl := below) (s := s₁) (ef_45 m a1 a2 (0 : Int32))
  have K0 := Keep.refl h0 [a1]
  obtain ⟨T1, X1, e1, st1⟩ := initO X0 hx hZ hown (tw hw 11 rfl) (tw hw 12 rfl) (tw hw 13 rfl) e0 (g := (mkF m 1 #[Rf a1, Rf a2, It (0 : Int32)] [(.ref a1)])) rfl (by rw [hml]; rfl) rfl (hb hby d45_1) (by decide) (W := 0) (w0 rfl) (by decide)
  obtain ⟨T2, h2, X2, e2, W2, st2⟩ := putF X1 hx hZ hown (host := "") (Or.inl (tw hw 28 rfl)) Via.refl e1 F_value_a1 E_a1 (Or.inr ⟨(tw hw 29 rfl), rfl, hnm⟩) (tw hw 2 rfl) (ty := (.array .byte)) (by decide) rfl rfl (g := (mkF m 6 #[Rf a1, Rf a2, It (0 : Int32)] [(.ref a2), (.ref a1)])) rfl rfl (hb hby d45_6)
  have Fw2 := F_value_a1.same W2
  have N2 := Fr.snoc X2 N0 ge_a1
  have O3 := O0.wr W2 ge_a1
  have K2 := K0.wr W2 (Or.inl (List.mem_of_getElem? (i := 0) rfl))
  obtain ⟨T4, h4, X4, e4, W4, st4⟩ := putFN X2 hx hZ hown (tw hw 26 rfl) Via.refl e2 (F_coder_a1.other W2 (sn .byte (.array .byte) (Or.inr (tw hw 27 rfl)) (Or.inr (tw hw 29 rfl)))) (E_a1.wr W2) (Or.inr ⟨(tw hw 27 rfl), rfl, hnm⟩) (tw hw 2 rfl) (ty := .byte) (v' := .int ((0 : Int32).toInt8.toInt32)) (by decide) rfl (fits_nar_byte _) (g := (mkF m 11 #[Rf a1, Rf a2, It (0 : Int32)] [(.int (0 : Int32)), (.ref a1)])) rfl rfl (hb hby d45_11)
  have Fw4 := (F_coder_a1.other W2 (sn .byte (.array .byte) (Or.inr (tw hw 27 rfl)) (Or.inr (tw hw 29 rfl)))).same W4
  have N4 := Fr.snoc X4 N2 ge_a1
  have O5 := O3.wr W4 ge_a1
  have K4 := K2.wr W4 (Or.inl (List.mem_of_getElem? (i := 0) rfl))
  have sg6 : SG p.tables e below (T4.setTop (mkF m 14 #[Rf a1, Rf a2, It (0 : Int32)] [])) (s₁.setTop (mkF m 0 #[Rf a1, Rf a2, It (0 : Int32)] [])) := by
    intro target kt
    show Steps _ _ _ (s₁.setTop (mkF m 0 #[Rf a1, Rf a2, It (0 : Int32)] [])) _
    refine XS.aloadN X0.here hx rfl (hb hby d45_0) rfl rfl ?_
    refine st1 _ ?_
    refine XS.aloadN X1.here hx rfl (hb hby d45_4) rfl rfl ?_
    refine XS.aloadN X1.here hx rfl (hb hby d45_5) rfl rfl ?_
    refine st2 _ ?_
    refine XS.aloadN X2.here hx rfl (hb hby d45_9) rfl rfl ?_
    refine XS.iloadN X2.here hx rfl (hb hby d45_10) rfl ?_
    refine st4 _ ?_
    exact kt
  obtain ⟨fs, hr, hrun, hended, hW, hsame⟩ := X4.leave (v := none) (fun _ => rfl)
  refine ⟨_, _, pre0 _ (sg6 _ (?_)), hrun, hended, _, _, rfl, ?_, ⟨_, rfl⟩, hW, hsame.mono (by decide) (by decide)⟩
  · show Steps _ _ _ (T4.setTop (mkF m 14 #[Rf a1, Rf a2, It (0 : Int32)] [])) _
    exact X4.returnOut hx Bd.returns (hb hby d45_14) hr
  · show Q45 Z a1 a2 h0 n0 _ T4.heap _
    rw [e4]
    exact ⟨rfl, N4, K4, O5, Fw4, (Fw2.other W4 (sn (.array .byte) .byte (Or.inr (tw hw 29 rfl)) (Or.inr (tw hw 27 rfl))))⟩
def Q44_2 (Z : State) (a1 : Addr) (vs : List Value) (ka : ClassId) (h0 : Heap) (n0 : Nat) (v : Option Value) (h : Heap) (L : List Loc) : Prop := v = none ∧ Fr n0 L ∧ Keep h0 h [a1] ∧ Old Z n0 h ∧ Arv Z h a1 ka .byte (8 : Int32) (cpy vs 4 vs 0 4) (.int (0 : Int32))
theorem ef_44_2 (m : MethodId) (x0 : Addr) (x1 : Int32) (x2 : Int32) (x3 : Int32) : entryFrame m #[(.ref x0), (.int x1), (.int x2), (.int x3)] 4 = mkF m 0 #[.val (.ref x0), .val (.int x1), .val (.int x2), .val (.int x3)] [] := by first | (simp [entryFrame, mkF, argsToLocals, Value.category]; done) | rfl
theorem rm44_2 (l : Launch) (Z : State) (a0 : Array Value) (hw : ∀ d ∈ tables_1, d.before a0 Z = true) (ws : List Jvm.Cond) (a1 : Addr) (vs : List Value) (ka : ClassId) (h0 : Heap) (n0 : Nat) (O0 : Old Z n0 h0) (h_v : vs.length = 16) (A_a1 : Arv Z h0 a1 ka .byte (8 : Int32) vs (.int (0 : Int32))) (ge_a1 : n0 ≤ a1) :
    MetFree l m_31 (head1 (Jvm.Cond.code m_31 jdk_42_method_146_code 4 none :: ws) (rk 1 0 0 40)) (fun a U => a = #[(.ref a1), (.int (0 : Int32)), (.int (8 : Int32)), (.int (4 : Int32))] ∧ Z.Warmed39 U.vm ∧ U.heap = h0) (fun _ _ _ _ _ => True) (fun _ U o U' => ∃ v L, o = .returned v ∧ Q44_2 Z a1 vs ka h0 n0 v U'.heap L ∧ FrameEnd U o U' L (rk 1 0 0 40).cells (rk 1 0 0 40).slots) := by
  refine MetFree.of_bodySF (plainFor_of_name pn_0) hisR ?_
  intro p e s m args below meth c s₁ Bd hml0 hP hK
  obtain ⟨rfl, hZ, hh⟩ := hP
  have hx := Bd.exec
  have hby := Bd.bytes
  have hml : c.maxLocals = 4 := hml0
  have hown : s.vm.findClass "java/lang/String" = some m.cls := findClass_of_methodNamed Bd.named
  have X0 : Stand p l e (rk 1 0 0 40) s m #[(.ref a1), (.int (0 : Int32)), (.int (8 : Int32)), (.int (4 : Int32))] below meth c s₁ [] 0 0 := Stand.of_body Bd
  have e0 : s₁.heap = h0 := by rw [← hh, Bd.state]; rfl
  have N0 := Fr.nil n0
  have pre0 := own_pre (tb := p.tables) (e := e) (bl := below) (s := s₁) (ef_44_2 m a1 (0 : Int32) (8 : Int32) (4 : Int32))
  have K0 := Keep.refl h0 [a1]
  obtain ⟨T1, h1, L1, X1, e1, N1, K1q, V1, st1⟩ := cpA X0 hx hZ hown (tw hw 121 rfl) (tw hw 124 rfl) (tw hw 122 rfl) (tw hw 123 rfl) e0 A_a1 A_a1 (Or.inl ⟨rfl, rfl⟩) (Sm.lit (x := (0 : Int32)) (n := 0) (by decide)).nn (Sm.lit (x := ((0 : Int32) + (4 : Int32))) (n := 4) (by decide)).nn (Sm.lit (x := ((8 : Int32) - (4 : Int32))) (n := 4) (by decide)).nn (own_le3 (Sm.lit (x := (0 : Int32)) (n := 0) (by decide)) (Sm.lit (x := ((8 : Int32) - (4 : Int32))) (n := 4) (by decide)) (Sm.lit (x := (8 : Int32)) (n := 8) (by decide)) (by decide)) (own_le3 (Sm.lit (x := ((0 : Int32) + (4 : Int32))) (n := 4) (by decide)) (Sm.lit (x := ((8 : Int32) - (4 : Int32))) (n := 4) (by decide)) (Sm.lit (x := (8 : Int32)) (n := 8) (by decide)) (by decide)) rfl (own_le2 (Sm.lit (x := ((0 : Int32) + (4 : Int32))) (n := 4) (by decide)) (Sm.lit (x := ((8 : Int32) - (4 : Int32))) (n := 4) (by decide)) (by rw [h_v]; decide)) N0 ge_a1 (g := (mkF m 33 #[Rf a1, It (0 : Int32), It (8 : Int32), It (4 : Int32)] [(.int ((8 : Int32) - (4 : Int32))), (.int ((0 : Int32) + (4 : Int32))), (.ref a1), (.int (0 : Int32)), (.ref a1)])) rfl (by rw [hml]; rfl) rfl (hb hby d44_33) (by decide) (W := 0) (w0 rfl) (by decide)
  have VV1 : Arv Z h1 a1 ka .byte (8 : Int32) (cpy vs 4 vs 0 4) (.int (0 : Int32)) := own_cpy (Sm.lit (x := (0 : Int32)) (n := 0) (by decide)) (Sm.lit (x := ((0 : Int32) + (4 : Int32))) (n := 4) (by decide)) (Sm.lit (x := ((8 : Int32) - (4 : Int32))) (n := 4) (by decide)) V1
  have K1 := K0.trans K1q (allS (Or.inl (List.mem_of_getElem? (i := 0) rfl)) all0)
  have O1 := O0.keep K1q (allS ge_a1 all0)
  have sg2 : SG p.tables e below (T1.setTop (mkF m 36 #[Rf a1, It (0 : Int32), It (8 : Int32), It (4 : Int32)] [])) (s₁.setTop (mkF m 0 #[Rf a1, It (0 : Int32), It (8 : Int32), It (4 : Int32)] [])) := by
    intro target kt
    show Steps _ _ _ (s₁.setTop (mkF m 0 #[Rf a1, It (0 : Int32), It (8 : Int32), It (4 : Int32)] [])) _
    refine XS.iloadN X0.here hx rfl (hb hby d44_0) rfl ?_
    refine XS.iloadN X0.here hx rfl (hb hby d44_1) rfl ?_
    refine XS.iloadN X0.here hx rfl (hb hby d44_2) rfl ?_
    refine XS.isub X0.here hx rfl (hb hby d44_3) rfl ?_
    refine XS.icmpYes X0.here hx rfl (pc0 := 4) (pc' := 24) rfl (hb hby d44_4) rfl (flt (by decide : ¬ ((4 : Int32) < ((8 : Int32) - (4 : Int32))))).2.1 (by decide) (by decide) ?_
    refine XS.aloadN X0.here hx rfl (hb hby d44_24) rfl rfl ?_
    refine XS.iloadN X0.here hx rfl (hb hby d44_25) rfl ?_
    refine XS.aloadN X0.here hx rfl (hb hby d44_26) rfl rfl ?_
    refine XS.iloadN X0.here hx rfl (hb hby d44_27) rfl ?_
    refine XS.iloadN X0.here hx rfl (hb hby d44_28) rfl ?_
    refine XS.iadd X0.here hx rfl (hb hby d44_29) rfl ?_
    refine XS.iloadN X0.here hx rfl (hb hby d44_30) rfl ?_
    refine XS.iloadN X0.here hx rfl (hb hby d44_31) rfl ?_
    refine XS.isub X0.here hx rfl (hb hby d44_32) rfl ?_
    refine st1 _ ?_
    exact kt
  obtain ⟨fs, hr, hrun, hended, hW, hsame⟩ := X1.leave (v := none) (fun _ => rfl)
  refine ⟨_, _, pre0 _ (sg2 _ (?_)), hrun, hended, _, _, rfl, ?_, ⟨_, rfl⟩, hW, hsame.mono (by decide) (by decide)⟩
  · show Steps _ _ _ (T1.setTop (mkF m 36 #[Rf a1, It (0 : Int32), It (8 : Int32), It (4 : Int32)] [])) _
    exact X1.returnOut hx Bd.returns (hb hby d44_36) hr
  · show Q44_2 Z a1 vs ka h0 n0 _ T1.heap _
    rw [e1]
    exact ⟨rfl, N1, K1, O1, VV1⟩
def Q44_3 (Z : State) (a1 : Addr) (vs : List Value) (ka : ClassId) (h0 : Heap) (n0 : Nat) (v : Option Value) (h : Heap) (L : List Loc) : Prop := v = none ∧ Fr n0 L ∧ Keep h0 h [a1] ∧ Old Z n0 h ∧ Arv Z h a1 ka .byte (12 : Int32) (cpy (cpy vs 4 vs 0 4) 8 (cpy vs 4 vs 0 4) 0 4) (.int (0 : Int32))
theorem rm44_3 (l : Launch) (Z : State) (a0 : Array Value) (hw : ∀ d ∈ tables_1, d.before a0 Z = true) (ws : List Jvm.Cond) (a1 : Addr) (vs : List Value) (ka : ClassId) (h0 : Heap) (n0 : Nat) (O0 : Old Z n0 h0) (h_v : vs.length = 16) (A_a1 : Arv Z h0 a1 ka .byte (12 : Int32) vs (.int (0 : Int32))) (ge_a1 : n0 ≤ a1) :
    MetFree l m_31 (head1 (Jvm.Cond.code m_31 jdk_42_method_146_code 4 none :: ws) (rk 1 0 0 40)) (fun a U => a = #[(.ref a1), (.int (0 : Int32)), (.int (12 : Int32)), (.int (4 : Int32))] ∧ Z.Warmed39 U.vm ∧ U.heap = h0) (fun _ _ _ _ _ => True) (fun _ U o U' => ∃ v L, o = .returned v ∧ Q44_3 Z a1 vs ka h0 n0 v U'.heap L ∧ FrameEnd U o U' L (rk 1 0 0 40).cells (rk 1 0 0 40).slots) := by
  refine MetFree.of_bodySF (plainFor_of_name pn_0) hisR ?_
  intro p e s m args below meth c s₁ Bd hml0 hP hK
  obtain ⟨rfl, hZ, hh⟩ := hP
  have hx := Bd.exec
  have hby := Bd.bytes
  have hml : c.maxLocals = 4 := hml0
  have hown : s.vm.findClass "java/lang/String" = some m.cls := findClass_of_methodNamed Bd.named
  have X0 : Stand p l e (rk 1 0 0 40) s m #[(.ref a1), (.int (0 : Int32)), (.int (12 : Int32)), (.int (4 : Int32))] below meth c s₁ [] 0 0 := Stand.of_body Bd
  have e0 : s₁.heap = h0 := by rw [← hh, Bd.state]; rfl
  have N0 := Fr.nil n0
  have pre0 := own_pre (tb := p.tables) (e := e) (bl := below) (s := s₁) (ef_44_2 m a1 (0 : Int32) (12 : Int32) (4 : Int32))
  have K0 := Keep.refl h0 [a1]
  obtain ⟨T1, h1, L1, X1, e1, N1, K1q, V1, st1⟩ := cpA X0 hx hZ hown (tw hw 121 rfl) (tw hw 124 rfl) (tw hw 122 rfl) (tw hw 123 rfl) e0 A_a1 A_a1 (Or.inl ⟨rfl, rfl⟩) (Sm.lit (x := (0 : Int32)) (n := 0) (by decide)).nn (Sm.lit (x := ((0 : Int32) + (4 : Int32))) (n := 4) (by decide)).nn (Sm.lit (x := (4 : Int32)) (n := 4) (by decide)).nn (own_le3 (Sm.lit (x := (0 : Int32)) (n := 0) (by decide)) (Sm.lit (x := (4 : Int32)) (n := 4) (by decide)) (Sm.lit (x := (12 : Int32)) (n := 12) (by decide)) (by decide)) (own_le3 (Sm.lit (x := ((0 : Int32) + (4 : Int32))) (n := 4) (by decide)) (Sm.lit (x := (4 : Int32)) (n := 4) (by decide)) (Sm.lit (x := (12 : Int32)) (n := 12) (by decide)) (by decide)) rfl (own_le2 (Sm.lit (x := ((0 : Int32) + (4 : Int32))) (n := 4) (by decide)) (Sm.lit (x := (4 : Int32)) (n := 4) (by decide)) (by rw [h_v]; decide)) N0 ge_a1 (g := (mkF m 14 #[Rf a1, It (0 : Int32), It (12 : Int32), It (4 : Int32)] [(.int (4 : Int32)), (.int ((0 : Int32) + (4 : Int32))), (.ref a1), (.int (0 : Int32)), (.ref a1)])) rfl (by rw [hml]; rfl) rfl (hb hby d44_14) (by decide) (W := 0) (w0 rfl) (by decide)
  have VV1 : Arv Z h1 a1 ka .byte (12 : Int32) (cpy vs 4 vs 0 4) (.int (0 : Int32)) := own_cpy (Sm.lit (x := (0 : Int32)) (n := 0) (by decide)) (Sm.lit (x := ((0 : Int32) + (4 : Int32))) (n := 4) (by decide)) (Sm.lit (x := (4 : Int32)) (n := 4) (by decide)) V1
  have K1 := K0.trans K1q (allS (Or.inl (List.mem_of_getElem? (i := 0) rfl)) all0)
  have O1 := O0.keep K1q (allS ge_a1 all0)
  obtain ⟨T2, h2, L2, X2, e2, N2, K2q, V2, st2⟩ := cpA X1 hx hZ hown (tw hw 121 rfl) (tw hw 124 rfl) (tw hw 122 rfl) (tw hw 123 rfl) e1 VV1 VV1 (Or.inl ⟨rfl, rfl⟩) (Sm.lit (x := (0 : Int32)) (n := 0) (by decide)).nn (Sm.lit (x := ((0 : Int32) + ((4 : Int32) <<< ((1 : Int32) &&& 31)))) (n := 8) (by decide)).nn (Sm.lit (x := ((12 : Int32) - ((4 : Int32) <<< ((1 : Int32) &&& 31)))) (n := 4) (by decide)).nn (own_le3 (Sm.lit (x := (0 : Int32)) (n := 0) (by decide)) (Sm.lit (x := ((12 : Int32) - ((4 : Int32) <<< ((1 : Int32) &&& 31)))) (n := 4) (by decide)) (Sm.lit (x := (12 : Int32)) (n := 12) (by decide)) (by decide)) (own_le3 (Sm.lit (x := ((0 : Int32) + ((4 : Int32) <<< ((1 : Int32) &&& 31)))) (n := 8) (by decide)) (Sm.lit (x := ((12 : Int32) - ((4 : Int32) <<< ((1 : Int32) &&& 31)))) (n := 4) (by decide)) (Sm.lit (x := (12 : Int32)) (n := 12) (by decide)) (by decide)) rfl (own_le2 (Sm.lit (x := ((0 : Int32) + ((4 : Int32) <<< ((1 : Int32) &&& 31)))) (n := 8) (by decide)) (Sm.lit (x := ((12 : Int32) - ((4 : Int32) <<< ((1 : Int32) &&& 31)))) (n := 4) (by decide)) (by rw [own_cpyl h_v (by decide)]; decide)) N1 ge_a1 (g := (mkF m 33 #[Rf a1, It (0 : Int32), It (12 : Int32), .val (.int ((4 : Int32) <<< ((1 : Int32) &&& 31)))] [(.int ((12 : Int32) - ((4 : Int32) <<< ((1 : Int32) &&& 31)))), (.int ((0 : Int32) + ((4 : Int32) <<< ((1 : Int32) &&& 31)))), (.ref a1), (.int (0 : Int32)), (.ref a1)])) rfl (by rw [hml]; rfl) rfl (hb hby d44_33) (by decide) (W := 0) (w0 rfl) (by decide)
  have VV2 : Arv Z h2 a1 ka .byte (12 : Int32) (cpy (cpy vs 4 vs 0 4) 8 (cpy vs 4 vs 0 4) 0 4) (.int (0 : Int32)) := own_cpy (Sm.lit (x := (0 : Int32)) (n := 0) (by decide)) (Sm.lit (x := ((0 : Int32) + ((4 : Int32) <<< ((1 : Int32) &&& 31)))) (n := 8) (by decide)) (Sm.lit (x := ((12 : Int32) - ((4 : Int32) <<< ((1 : Int32) &&& 31)))) (n := 4) (by decide)) V2
  have K2 := K1.trans K2q (allS (Or.inl (List.mem_of_getElem? (i := 0) rfl)) all0)
  have O2 := O1.keep K2q (allS ge_a1 all0)
  have sg3 : SG p.tables e below (T2.setTop (mkF m 36 #[Rf a1, It (0 : Int32), It (12 : Int32), .val (.int ((4 : Int32) <<< ((1 : Int32) &&& 31)))] [])) (s₁.setTop (mkF m 0 #[Rf a1, It (0 : Int32), It (12 : Int32), It (4 : Int32)] [])) := by
    intro target kt
    show Steps _ _ _ (s₁.setTop (mkF m 0 #[Rf a1, It (0 : Int32), It (12 : Int32), It (4 : Int32)] [])) _
    refine XS.iloadN X0.here hx rfl (hb hby d44_0) rfl ?_
    refine XS.iloadN X0.here hx rfl (hb hby d44_1) rfl ?_
    refine XS.iloadN X0.here hx rfl (hb hby d44_2) rfl ?_
    refine XS.isub X0.here hx rfl (hb hby d44_3) rfl ?_
    refine XS.icmpNo X0.here hx rfl (hb hby d44_4) rfl (tlt (by decide : (4 : Int32) < ((12 : Int32) - (4 : Int32)))).2.1 ?_
    refine XS.aloadN X0.here hx rfl (hb hby d44_7) rfl rfl ?_
    refine XS.iloadN X0.here hx rfl (hb hby d44_8) rfl ?_
    refine XS.aloadN X0.here hx rfl (hb hby d44_9) rfl rfl ?_
    refine XS.iloadN X0.here hx rfl (hb hby d44_10) rfl ?_
    refine XS.iloadN X0.here hx rfl (hb hby d44_11) rfl ?_
    refine XS.iadd X0.here hx rfl (hb hby d44_12) rfl ?_
    refine XS.iloadN X0.here hx rfl (hb hby d44_13) rfl ?_
    refine st1 _ ?_
    refine XS.iloadN X1.here hx rfl (hb hby d44_17) rfl ?_
    refine XS.iconst X1.here hx rfl (hb hby d44_18) ?_
    refine XS.ishl X1.here hx rfl (hb hby d44_19) rfl ?_
    refine XS.istoreN X1.here hx rfl (hb hby d44_20) rfl (l' := #[Rf a1, It (0 : Int32), It (12 : Int32), .val (.int ((4 : Int32) <<< ((1 : Int32) &&& 31)))]) rfl ?_
    refine XS.goto X1.here hx rfl (pc0 := 21) (pc' := 0) rfl (hb hby d44_21) (by decide) (by decide) ?_
    refine XS.iloadN X1.here hx rfl (hb hby d44_0) rfl ?_
    refine XS.iloadN X1.here hx rfl (hb hby d44_1) rfl ?_
    refine XS.iloadN X1.here hx rfl (hb hby d44_2) rfl ?_
    refine XS.isub X1.here hx rfl (hb hby d44_3) rfl ?_
    refine XS.icmpYes X1.here hx rfl (pc0 := 4) (pc' := 24) rfl (hb hby d44_4) rfl (flt (by decide : ¬ (((4 : Int32) <<< ((1 : Int32) &&& 31)) < ((12 : Int32) - ((4 : Int32) <<< ((1 : Int32) &&& 31)))))).2.1 (by decide) (by decide) ?_
    refine XS.aloadN X1.here hx rfl (hb hby d44_24) rfl rfl ?_
    refine XS.iloadN X1.here hx rfl (hb hby d44_25) rfl ?_
    refine XS.aloadN X1.here hx rfl (hb hby d44_26) rfl rfl ?_
    refine XS.iloadN X1.here hx rfl (hb hby d44_27) rfl ?_
    refine XS.iloadN X1.here hx rfl (hb hby d44_28) rfl ?_
    refine XS.iadd X1.here hx rfl (hb hby d44_29) rfl ?_
    refine XS.iloadN X1.here hx rfl (hb hby d44_30) rfl ?_
    show Steps _ _ _ (T1.setTop (mkF m 31 #[Rf a1, It (0 : Int32), It (12 : Int32), .val (.int ((4 : Int32) <<< ((1 : Int32) &&& 31)))] [(.int (12 : Int32)), (.int ((0 : Int32) + ((4 : Int32) <<< ((1 : Int32) &&& 31)))), (.ref a1), (.int (0 : Int32)), (.ref a1)])) _
    refine XS.iloadN X1.here hx rfl (hb hby d44_31) rfl ?_
    refine XS.isub X1.here hx rfl (hb hby d44_32) rfl ?_
    refine st2 _ ?_
    exact kt
  obtain ⟨fs, hr, hrun, hended, hW, hsame⟩ := X2.leave (v := none) (fun _ => rfl)
  refine ⟨_, _, pre0 _ (sg3 _ (?_)), hrun, hended, _, _, rfl, ?_, ⟨_, rfl⟩, hW, hsame.mono (by decide) (by decide)⟩
  · show Steps _ _ _ (T2.setTop (mkF m 36 #[Rf a1, It (0 : Int32), It (12 : Int32), .val (.int ((4 : Int32) <<< ((1 : Int32) &&& 31)))] [])) _
    exact X2.returnOut hx Bd.returns (hb hby d44_36) hr
  · show Q44_3 Z a1 vs ka h0 n0 _ T2.heap _
    rw [e2]
    exact ⟨rfl, N2, K2, O2, VV2⟩
def Q12_0 (Z : State) (a1 : Addr) (tv : Addr) (us : List Value) (kt : ClassId) (h0 : Heap) (n0 : Nat) (v : Option Value) (h : Heap) (L : List Loc) : Prop := ∃ rs : Addr, ∃ ro : Addr, ∃ ko : ClassId, v = some (.ref rs) ∧ Fr n0 L ∧ Keep h0 h [] ∧ Old Z n0 h ∧ Exa Z h rs "java/lang/String" ∧ Fld Z h rs "java/lang/String" "coder" "B" (.int (0 : Int32)) ∧ Fld Z h rs "java/lang/String" "value" "[B" (.ref ro) ∧ Arv Z h ro ko .byte (0 : Int32) [] (.int (0 : Int32))
theorem ef_12_0 (m : MethodId) (x0 : Addr) (x1 : Int32) : entryFrame m #[(.ref x0), (.int x1)] 5 = mkF m 0 #[.val (.ref x0), .val (.int x1), .unset, .unset, .unset] [] := by first | (simp [entryFrame, mkF, argsToLocals, Value.category]; done) | rfl
theorem rm12_0 (l : Launch) (Z : State) (a0 : Array Value) (hw : ∀ d ∈ tables_1, d.before a0 Z = true) (ws : List Jvm.Cond) (a1 : Addr) (tv : Addr) (us : List Value) (kt : ClassId) (h0 : Heap) (n0 : Nat) (O0 : Old Z n0 h0) (E_a1 : Exa Z h0 a1 "java/lang/String") (F_coder_a1 : Fld Z h0 a1 "java/lang/String" "coder" "B" (.int (0 : Int32))) (F_value_a1 : Fld Z h0 a1 "java/lang/String" "value" "[B" (.ref tv)) (A_tv : Arv Z h0 tv kt .byte (4 : Int32) us (.int (0 : Int32))) :
    MetFree l m_32 (head1 (Jvm.Cond.code m_32 jdk_42_method_145_code 5 (some (.object "java/lang/String")) :: ws) (rk 0 2 4 0)) (fun a U => a = #[(.ref a1), (.int (0 : Int32))] ∧ Z.Warmed39 U.vm ∧ U.heap = h0 ∧ CHv Z own_EL U.vm h0) (fun _ _ _ _ _ => True) (fun _ U o U' => ∃ v L, o = .returned v ∧ Q12_0 Z a1 tv us kt h0 n0 v U'.heap L ∧ CHr Z own_EL U.vm U.heap U'.vm U'.heap ∧ ReturnedEndW U o U' L (rk 0 2 4 0).cells (rk 0 2 4 0).slots) := by
  refine MetFree.of_bodySF (plainFor_of_name pn_0) hisR ?_
  intro p e s m args below meth c s₁ Bd hml0 hP hK
  obtain ⟨rfl, hZ, hh, hCH⟩ := hP
  have hx := Bd.exec
  have hby := Bd.bytes
  have hml : c.maxLocals = 5 := hml0
  have hown : s.vm.findClass "java/lang/String" = some m.cls := findClass_of_methodNamed Bd.named
  have X0 : Stand p l e (rk 0 2 4 0) (s.setVm s.vm) m #[(.ref a1), (.int (0 : Int32))] below meth c s₁ [] 0 0 := Stand.of_body Bd
  have e0 : s₁.heap = h0 := by rw [← hh, Bd.state]; rfl
  have N0 := Fr.nil n0
  have pre0 := own_pre (tb := p.tables) (e := e) (bl := below) (s := s₁) (ef_12_0 m a1 (0 : Int32))
  have Y0 : s.Since s.vm h0.size := (State.WarmedH.refl s).since h0.size
  have Yk0 : h0.size ≤ h0.size := Nat.le_refl _
  have CR0 : CHr Z own_EL s.vm h0 s.vm h0 := CHr.refl hCH
  have hEL := own_EW hw
  have hSA := own_SA hw
  have K0 := Keep.refl h0 []
  obtain ⟨T1, X1, e1, st1⟩ := getF X0 hx hZ hown (host := "") (Or.inl (tw hw 28 rfl)) Via.refl e0 F_value_a1 (g := (mkF m 40 #[Rf a1, It (0 : Int32), .unset, .unset, .unset] [(.ref a1)])) rfl rfl (hb hby d12_40)
  obtain ⟨cl2, Ar2, -, Sz2, Nn2, -, -⟩ := id A_tv
  obtain ⟨sa3, T3, h3, k3, sb3, kb3, X3, e3, E3, Y3, Yk3, hZ3, hown3, A3, Fc3, Fv3, V3, la3, lb3, C3, Lt3, SF3, st3⟩ := ldcCH X1 hx hZ hown (tw hw 77 rfl) hSA e1 Y0 Yk0 hEL (own_mem (by decide)) CR0.1 (vs := []) (z := (0 : Int32)) (by decide) (by decide) (by decide) (g := (mkF m 53 #[Rf a1, It (0 : Int32), It (4 : Int32), .unset, .unset] [])) rfl (hb hby d12_53) (n := 0) (by decide) (by decide) (by decide) (by decide)
  have O4 := O0.ext E3
  have K3 := K0.ext E3
  have CR5 := CR0.trans (C3)
  have sg6 : SG p.tables e below (T3.setTop (mkF m 55 #[Rf a1, It (0 : Int32), It (4 : Int32), .unset, .unset] [(.ref sa3)])) (s₁.setTop (mkF m 0 #[Rf a1, It (0 : Int32), .unset, .unset, .unset] [])) := by
    intro target kt
    show Steps _ _ _ (s₁.setTop (mkF m 0 #[Rf a1, It (0 : Int32), .unset, .unset, .unset] [])) _
    refine XS.iloadN X0.here hx rfl (hb hby d12_0) rfl ?_
    refine XS.ifYes X0.here hx rfl (pc0 := 1) (pc' := 32) rfl (hb hby d12_1) rfl ((if0 _ _).trans (flt (by decide : ¬ ((0 : Int32) < (0 : Int32)))).2.1) (by decide) (by decide) ?_
    refine XS.iloadN X0.here hx rfl (hb hby d12_32) rfl ?_
    refine XS.iconst X0.here hx rfl (hb hby d12_33) ?_
    refine XS.icmpYes X0.here hx rfl (pc0 := 34) (pc' := 39) rfl (hb hby d12_34) rfl (feq (by decide : ¬ ((0 : Int32) = (1 : Int32)))).2 (by decide) (by decide) ?_
    refine XS.aloadN X0.here hx rfl (hb hby d12_39) rfl rfl ?_
    refine st1 _ ?_
    refine X1.arraylength hx (own_rwh e1 Ar2.1) (State.isArrayOf_alike hZ.alike Ar2.2.1) (g := (mkF m 43 #[Rf a1, It (0 : Int32), .unset, .unset, .unset] [(.ref tv)])) rfl rfl (hb hby d12_43) _ ?_
    rw [len_of Sz2 Nn2]
    show Steps _ _ _ (T1.setTop (mkF m 44 #[Rf a1, It (0 : Int32), .unset, .unset, .unset] [(.int (4 : Int32))])) _
    refine XS.istoreN X1.here hx rfl (hb hby d12_44) rfl (l' := #[Rf a1, It (0 : Int32), It (4 : Int32), .unset, .unset]) rfl ?_
    refine XS.iloadN X1.here hx rfl (hb hby d12_45) rfl ?_
    refine XS.ifNo X1.here hx rfl (hb hby d12_46) rfl ((if0 _ _).trans (feq (by decide : ¬ ((4 : Int32) = (0 : Int32)))).1) ?_
    refine XS.iloadN X1.here hx rfl (hb hby d12_49) rfl ?_
    refine XS.ifNo X1.here hx rfl (hb hby d12_50) rfl ((if0 _ _).trans (teq (by decide : (0 : Int32) = (0 : Int32))).2) ?_
    refine st3 _ ?_
    exact kt
  obtain ⟨fs, hr, hrun, hended, hRW⟩ := X3.leaveW Y3 (show _ ≤ T3.heap.size by rw [e3]; exact Yk3) (v := some (.ref sa3)) (fun h => by rw [Bd.returns] at h; cases h)
  refine ⟨_, _, pre0 _ (sg6 _ (?_)), hrun, hended, _, _, rfl, ?_, (by rw [hh]; show CHr Z own_EL s.vm h0 T3.vm T3.heap; rw [e3]; exact CR5.trans (CHv.at X3 hZ3 hEL CR5.1)), hRW.1, hRW.2.1, hRW.2.2.1, hRW.2.2.2.mono (by decide) (by decide)⟩
  · show Steps _ _ _ (T3.setTop (mkF m 55 #[Rf a1, It (0 : Int32), It (4 : Int32), .unset, .unset] [(.ref sa3)])) _
    jvm_step X3.here [X3.here.top, hx, (hb hby d12_55), X3.method', Bd.returns, Value.isRef, FieldType.isReference]
    first | (intro acts; rw [hr _ acts rfl rfl rfl]) | rw [hr _ _ rfl rfl rfl]
    exact Steps.refl _
  · show Q12_0 Z a1 tv us kt h0 n0 _ T3.heap _
    rw [e3]
    exact ⟨sa3, sb3, kb3, rfl, N0, K3, O4, A3, Fc3, Fv3, V3⟩
def Q12_1 (Z : State) (a1 : Addr) (h0 : Heap) (n0 : Nat) (v : Option Value) (h : Heap) (L : List Loc) : Prop := v = some (.ref a1) ∧ Fr n0 L ∧ h = h0
theorem rm12_1 (l : Launch) (Z : State) (a0 : Array Value) (hw : ∀ d ∈ tables_1, d.before a0 Z = true) (ws : List Jvm.Cond) (a1 : Addr) (h0 : Heap) (n0 : Nat) (O0 : Old Z n0 h0) :
    MetFree l m_32 (head1 (Jvm.Cond.code m_32 jdk_42_method_145_code 5 (some (.object "java/lang/String")) :: ws) (rk 0 0 0 0)) (fun a U => a = #[(.ref a1), (.int (1 : Int32))] ∧ Z.Warmed39 U.vm ∧ U.heap = h0) (fun _ _ _ _ _ => True) (fun _ U o U' => ∃ v L, o = .returned v ∧ Q12_1 Z a1 h0 n0 v U'.heap L ∧ FrameEnd U o U' L (rk 0 0 0 0).cells (rk 0 0 0 0).slots) := by
  refine MetFree.of_bodySF (plainFor_of_name pn_0) hisR ?_
  intro p e s m args below meth c s₁ Bd hml0 hP hK
  obtain ⟨rfl, hZ, hh⟩ := hP
  have hx := Bd.exec
  have hby := Bd.bytes
  have hml : c.maxLocals = 5 := hml0
  have hown : s.vm.findClass "java/lang/String" = some m.cls := findClass_of_methodNamed Bd.named
  have X0 : Stand p l e (rk 0 0 0 0) s m #[(.ref a1), (.int (1 : Int32))] below meth c s₁ [] 0 0 := Stand.of_body Bd
  have e0 : s₁.heap = h0 := by rw [← hh, Bd.state]; rfl
  have N0 := Fr.nil n0
  have pre0 := own_pre (tb := p.tables) (e := e) (bl := below) (s := s₁) (ef_12_0 m a1 (1 : Int32))
  have sg1 : SG p.tables e below (s₁.setTop (mkF m 38 #[Rf a1, It (1 : Int32), .unset, .unset, .unset] [(.ref a1)])) (s₁.setTop (mkF m 0 #[Rf a1, It (1 : Int32), .unset, .unset, .unset] [])) := by
    intro target kt
    show Steps _ _ _ (s₁.setTop (mkF m 0 #[Rf a1, It (1 : Int32), .unset, .unset, .unset] [])) _
    refine XS.iloadN X0.here hx rfl (hb hby d12_0) rfl ?_
    refine XS.ifYes X0.here hx rfl (pc0 := 1) (pc' := 32) rfl (hb hby d12_1) rfl ((if0 _ _).trans (flt (by decide : ¬ ((1 : Int32) < (0 : Int32)))).2.1) (by decide) (by decide) ?_
    refine XS.iloadN X0.here hx rfl (hb hby d12_32) rfl ?_
    refine XS.iconst X0.here hx rfl (hb hby d12_33) ?_
    refine XS.icmpNo X0.here hx rfl (hb hby d12_34) rfl (teq (by decide : (1 : Int32) = (1 : Int32))).2 ?_
    refine XS.aloadN X0.here hx rfl (hb hby d12_37) rfl rfl ?_
    exact kt
  obtain ⟨fs, hr, hrun, hended, hW, hsame⟩ := X0.leave (v := some (.ref a1)) (fun h => by rw [Bd.returns] at h; cases h)
  refine ⟨_, _, pre0 _ (sg1 _ (?_)), hrun, hended, _, _, rfl, ?_, ⟨_, rfl⟩, hW, hsame.mono (by decide) (by decide)⟩
  · show Steps _ _ _ (s₁.setTop (mkF m 38 #[Rf a1, It (1 : Int32), .unset, .unset, .unset] [(.ref a1)])) _
    jvm_step X0.here [X0.here.top, hx, (hb hby d12_38), X0.method', Bd.returns, Value.isRef, FieldType.isReference]
    first | (intro acts; rw [hr _ acts rfl rfl rfl]) | rw [hr _ _ rfl rfl rfl]
    exact Steps.refl _
  · show Q12_1 Z a1 h0 n0 _ s₁.heap _
    rw [e0]
    exact ⟨rfl, N0, rfl⟩
def Q12_2 (Z : State) (a1 : Addr) (tv : Addr) (us : List Value) (kt : ClassId) (h0 : Heap) (n0 : Nat) (v : Option Value) (h : Heap) (L : List Loc) : Prop := ∃ rs : Addr, ∃ ro : Addr, ∃ ko : ClassId, v = some (.ref rs) ∧ Fr n0 L ∧ Keep h0 h [] ∧ Old Z n0 h ∧ Exa Z h rs "java/lang/String" ∧ n0 ≤ rs ∧ h0.size ≤ rs ∧ Fld Z h rs "java/lang/String" "coder" "B" (.int (0 : Int32)) ∧ Fld Z h rs "java/lang/String" "value" "[B" (.ref ro) ∧ Arv Z h ro ko .byte (8 : Int32) (cpy (cpy z16 0 us 0 4) 4 (cpy z16 0 us 0 4) 0 4) (.int (0 : Int32)) ∧ n0 ≤ ro ∧ h0.size ≤ ro
theorem rm12_2 (l : Launch) (Z : State) (a0 : Array Value) (hw : ∀ d ∈ tables_1, d.before a0 Z = true) (ws : List Jvm.Cond) (a1 : Addr) (tv : Addr) (us : List Value) (kt : ClassId) (h0 : Heap) (n0 : Nat) (O0 : Old Z n0 h0) (E_a1 : Exa Z h0 a1 "java/lang/String") (F_coder_a1 : Fld Z h0 a1 "java/lang/String" "coder" "B" (.int (0 : Int32))) (F_value_a1 : Fld Z h0 a1 "java/lang/String" "value" "[B" (.ref tv)) (A_tv : Arv Z h0 tv kt .byte (4 : Int32) us (.int (0 : Int32))) :
    MetFree l m_32 (head1 (Jvm.Cond.code m_32 jdk_42_method_145_code 5 (some (.object "java/lang/String")) :: ws) (rk 2 2 12 55)) (fun a U => a = #[(.ref a1), (.int (2 : Int32))] ∧ Z.Warmed39 U.vm ∧ U.heap = h0) (fun _ _ _ _ _ => True) (fun _ U o U' => ∃ v L, o = .returned v ∧ Q12_2 Z a1 tv us kt h0 n0 v U'.heap L ∧ FrameEnd U o U' L (rk 2 2 12 55).cells (rk 2 2 12 55).slots) := by
  refine MetFree.of_bodySF (plainFor_of_name pn_0) hisR ?_
  intro p e s m args below meth c s₁ Bd hml0 hP hK
  obtain ⟨rfl, hZ, hh⟩ := hP
  have hx := Bd.exec
  have hby := Bd.bytes
  have hml : c.maxLocals = 5 := hml0
  have hown : s.vm.findClass "java/lang/String" = some m.cls := findClass_of_methodNamed Bd.named
  have X0 : Stand p l e (rk 2 2 12 55) s m #[(.ref a1), (.int (2 : Int32))] below meth c s₁ [] 0 0 := Stand.of_body Bd
  have e0 : s₁.heap = h0 := by rw [← hh, Bd.state]; rfl
  have N0 := Fr.nil n0
  have pre0 := own_pre (tb := p.tables) (e := e) (bl := below) (s := s₁) (ef_12_0 m a1 (2 : Int32))
  have K0 := Keep.refl h0 []
  obtain ⟨T1, X1, e1, st1⟩ := getF X0 hx hZ hown (host := "") (Or.inl (tw hw 28 rfl)) Via.refl e0 F_value_a1 (g := (mkF m 40 #[Rf a1, It (2 : Int32), .unset, .unset, .unset] [(.ref a1)])) rfl rfl (hb hby d12_40)
  obtain ⟨cl2, Ar2, -, Sz2, Nn2, -, -⟩ := id A_tv
  obtain ⟨u3, hu3⟩ : ∃ z, z = ((4 : Int32) * (2 : Int32)) := ⟨_, rfl⟩
  have sg4 : SG p.tables e below (T1.setTop (mkF m 111 #[Rf a1, It (2 : Int32), It (4 : Int32), .unset, .unset] [(.int u3)])) (s₁.setTop (mkF m 0 #[Rf a1, It (2 : Int32), .unset, .unset, .unset] [])) := by
    intro target kt
    subst hu3
    show Steps _ _ _ (s₁.setTop (mkF m 0 #[Rf a1, It (2 : Int32), .unset, .unset, .unset] [])) _
    refine XS.iloadN X0.here hx rfl (hb hby d12_0) rfl ?_
    refine XS.ifYes X0.here hx rfl (pc0 := 1) (pc' := 32) rfl (hb hby d12_1) rfl ((if0 _ _).trans (flt (by decide : ¬ ((2 : Int32) < (0 : Int32)))).2.1) (by decide) (by decide) ?_
    refine XS.iloadN X0.here hx rfl (hb hby d12_32) rfl ?_
    refine XS.iconst X0.here hx rfl (hb hby d12_33) ?_
    refine XS.icmpYes X0.here hx rfl (pc0 := 34) (pc' := 39) rfl (hb hby d12_34) rfl (feq (by decide : ¬ ((2 : Int32) = (1 : Int32)))).2 (by decide) (by decide) ?_
    refine XS.aloadN X0.here hx rfl (hb hby d12_39) rfl rfl ?_
    refine st1 _ ?_
    refine X1.arraylength hx (own_rwh e1 Ar2.1) (State.isArrayOf_alike hZ.alike Ar2.2.1) (g := (mkF m 43 #[Rf a1, It (2 : Int32), .unset, .unset, .unset] [(.ref tv)])) rfl rfl (hb hby d12_43) _ ?_
    rw [len_of Sz2 Nn2]
    show Steps _ _ _ (T1.setTop (mkF m 44 #[Rf a1, It (2 : Int32), .unset, .unset, .unset] [(.int (4 : Int32))])) _
    refine XS.istoreN X1.here hx rfl (hb hby d12_44) rfl (l' := #[Rf a1, It (2 : Int32), It (4 : Int32), .unset, .unset]) rfl ?_
    refine XS.iloadN X1.here hx rfl (hb hby d12_45) rfl ?_
    refine XS.ifNo X1.here hx rfl (hb hby d12_46) rfl ((if0 _ _).trans (feq (by decide : ¬ ((4 : Int32) = (0 : Int32)))).1) ?_
    refine XS.iloadN X1.here hx rfl (hb hby d12_49) rfl ?_
    refine XS.ifYes X1.here hx rfl (pc0 := 50) (pc' := 56) rfl (hb hby d12_50) rfl ((if0 _ _).trans (feq (by decide : ¬ ((2 : Int32) = (0 : Int32)))).2) (by decide) (by decide) ?_
    refine X1.ldcwInt hx hown (mvT hZ (tw hw 226 rfl)) (g := (mkF m 56 #[Rf a1, It (2 : Int32), It (4 : Int32), .unset, .unset] [])) rfl (hb hby d12_56) _ ?_
    refine XS.iloadN X1.here hx rfl (hb hby d12_59) rfl ?_
    refine XS.idiv X1.here hx rfl (hb hby d12_60) rfl (by decide) ?_
    refine XS.iloadN X1.here hx rfl (hb hby d12_61) rfl ?_
    refine XS.icmpYes X1.here hx rfl (pc0 := 62) (pc' := 76) rfl (hb hby d12_62) rfl (flt (by decide : ¬ ((2147483647 : Int32) / (2 : Int32)) < (4 : Int32))).2.1 (by decide) (by decide) ?_
    refine XS.iloadN X1.here hx rfl (hb hby d12_76) rfl ?_
    refine XS.iconst X1.here hx rfl (hb hby d12_77) ?_
    refine XS.icmpYes X1.here hx rfl (pc0 := 78) (pc' := 108) rfl (hb hby d12_78) rfl (feq (by decide : ¬ ((4 : Int32) = (1 : Int32)))).2 (by decide) (by decide) ?_
    refine XS.iloadN X1.here hx rfl (hb hby d12_108) rfl ?_
    refine XS.iloadN X1.here hx rfl (hb hby d12_109) rfl ?_
    refine XS.imul X1.here hx rfl (hb hby d12_110) rfl ?_
    exact kt
  have hk_u3 : u3 = (8 : Int32) := hu3.trans (by decide)
  subst hk_u3
  obtain ⟨T5, h5, k5, X5, e5, E5, A5, st5⟩ := newP X1 hx hZ (tw hw 19 rfl) e1 (g := (mkF m 113 #[Rf a1, It (2 : Int32), It (4 : Int32), It (8 : Int32), .unset] [(.int (8 : Int32))])) rfl (hb hby d12_113) rfl (Sm.lit (x := (8 : Int32)) (n := 8) (by decide)).nn (cap := 8) (own_capn (Sm.lit (x := (8 : Int32)) (n := 8) (by decide)) (by decide)) (by decide) (by decide) (by decide)
  obtain ⟨b5, g5⟩ : ∃ z, z = h0.size := ⟨_, rfl⟩
  rw [← g5] at A5 st5
  have ge_b5 : n0 ≤ b5 := Nat.le_trans (own_osz O0) (Nat.le_of_eq g5.symm)
  have sz_b5 : h0.size ≤ b5 := Nat.le_trans K0.1 (Nat.le_of_eq g5.symm)
  have O6 := O0.ext E5
  have K5 := K0.ext E5
  have V_b5 : Arv Z h5 b5 k5 .byte (8 : Int32) z16 (.int (0 : Int32)) := (Arv.new A5 (Sm.lit (x := (8 : Int32)) (n := 8) (by decide)).nn).pad (pad_rep [] (.int (0 : Int32)) 16)
  obtain ⟨T7, X7, e7, st7⟩ := getF X5 hx hZ hown (host := "") (Or.inl (tw hw 28 rfl)) Via.refl e5 (F_value_a1.ext E5) (g := (mkF m 118 #[Rf a1, It (2 : Int32), It (4 : Int32), It (8 : Int32), Rf b5] [(.ref a1)])) rfl rfl (hb hby d12_118)
  obtain ⟨T8, h8, L8, X8, e8, N8, K8q, V8, st8⟩ := cpA X7 hx hZ hown (tw hw 121 rfl) (tw hw 124 rfl) (tw hw 122 rfl) (tw hw 123 rfl) e7 (A_tv.ext E5) V_b5 (Or.inl ⟨rfl, rfl⟩) (Sm.lit (x := (0 : Int32)) (n := 0) (by decide)).nn (Sm.lit (x := (0 : Int32)) (n := 0) (by decide)).nn (Sm.lit (x := (4 : Int32)) (n := 4) (by decide)).nn (own_le3 (Sm.lit (x := (0 : Int32)) (n := 0) (by decide)) (Sm.lit (x := (4 : Int32)) (n := 4) (by decide)) (Sm.lit (x := (4 : Int32)) (n := 4) (by decide)) (by decide)) (own_le3 (Sm.lit (x := (0 : Int32)) (n := 0) (by decide)) (Sm.lit (x := (4 : Int32)) (n := 4) (by decide)) (Sm.lit (x := (8 : Int32)) (n := 8) (by decide)) (by decide)) rfl (own_le2 (Sm.lit (x := (0 : Int32)) (n := 0) (by decide)) (Sm.lit (x := (4 : Int32)) (n := 4) (by decide)) (by decide)) N0 ge_b5 (g := (mkF m 126 #[Rf a1, It (2 : Int32), It (4 : Int32), It (8 : Int32), Rf b5] [(.int (4 : Int32)), (.int (0 : Int32)), (.ref b5), (.int (0 : Int32)), (.ref tv)])) rfl (by rw [hml]; rfl) rfl (hb hby d12_126) (by decide) (W := 0) (w0 rfl) (by decide)
  have VV8 : Arv Z h8 b5 k5 .byte (8 : Int32) (cpy z16 0 us 0 4) (.int (0 : Int32)) := own_cpy (Sm.lit (x := (0 : Int32)) (n := 0) (by decide)) (Sm.lit (x := (0 : Int32)) (n := 0) (by decide)) (Sm.lit (x := (4 : Int32)) (n := 4) (by decide)) V8
  have K8 := K5.trans K8q (allS (Or.inr sz_b5) all0)
  have O8 := O6.keep K8q (allS ge_b5 all0)
  obtain ⟨_, _, ⟨T9, L9, k9, n9⟩, -, X9, ⟨Lc9, hQ9, l9, y9, z9⟩, st9⟩ := Jvm.LawKit.callS X8 hx (y := m_31) hown (mvT hZ (tw hw 227 rfl)) (mvT hZ (tw hw 228 rfl)) (mvT hZ (tw hw 3 rfl)) (mvT hZ (tw hw 229 rfl)) (by decide) (backOf (W := 0) (rm44_2 l Z a0 hw [] b5 (cpy z16 0 us 0 4) k5 h8 n0 O8 (own_cpyl rfl (by decide)) VV8 ge_b5) hZ (tw hw 229 rfl) (tw hw 3 rfl) (by decide) (by decide)) (g := (mkF m 134 #[Rf a1, It (2 : Int32), It (4 : Int32), It (8 : Int32), Rf b5] [(.int (4 : Int32)), (.int (8 : Int32)), (.int (0 : Int32)), (.ref b5)])) rfl (by rw [hml]; rfl) (argsL := [(.ref b5), (.int (0 : Int32)), (.int (8 : Int32)), (.int (4 : Int32))]) (rest := []) (lenOf pd_18 rfl) rfl (w0 rfl) (hb hby d12_134) (fun _ _ => ⟨rfl, e8, (by decide : 1 + 0 ≤ _), (by decide : 8 + 0 ≤ _)⟩)
  dsimp only [Pt.U, Pt.locs, Pt.cells, Pt.slots] at X9 l9 y9 z9 st9 hQ9
  subst l9 y9 z9
  obtain ⟨rfl, N9q, K9q, O9, f9_0⟩ := hQ9
  have N9 := Fr.app N8 N9q
  have K9 := K8.trans K9q (allS (Or.inr sz_b5) all0)
  obtain ⟨T10, h10, X10, e10, E10, A10, D10, -, st10⟩ := newO X9 hx hZ hown (tw hw 230 rfl) (tw hw 2 rfl) (tw hw 3 rfl) rfl (g := (mkF m 137 #[Rf a1, It (2 : Int32), It (4 : Int32), It (8 : Int32), Rf b5] [])) rfl (hb hby d12_137) (by decide) (by decide)
  obtain ⟨b10, g10⟩ : ∃ z, z = T9.heap.size := ⟨_, rfl⟩
  rw [← g10] at A10 D10 st10
  have ge_b10 : n0 ≤ b10 := Nat.le_trans (own_osz O9) (Nat.le_of_eq g10.symm)
  have sz_b10 : h0.size ≤ b10 := Nat.le_trans K9.1 (Nat.le_of_eq g10.symm)
  have O11 := O9.ext E10
  have K10 := K9.ext E10
  have F_coder_b10 : Fld Z h10 b10 "java/lang/String" "coder" "B" (.int (0 : Int32)) := D10 (Or.inr (tw hw 27 rfl)) (ty := .byte) (by decide)
  have F_value_b10 : Fld Z h10 b10 "java/lang/String" "value" "[B" .null := D10 (Or.inr (tw hw 29 rfl)) (ty := (.array .byte)) (by decide)
  obtain ⟨T12, X12, e12, st12⟩ := getF X10 hx hZ hown (host := "") (Or.inl (tw hw 26 rfl)) Via.refl e10 ((((F_coder_a1.ext E5).keep K8q (ninS (Nat.ne_of_lt (Nat.lt_of_lt_of_le E_a1.lt (Nat.le_of_eq g5.symm))) nin0)).keep K9q (ninS (Nat.ne_of_lt (Nat.lt_of_lt_of_le E_a1.lt (Nat.le_of_eq g5.symm))) nin0)).ext E10) (g := (mkF m 144 #[Rf a1, It (2 : Int32), It (4 : Int32), It (8 : Int32), Rf b5] [(.ref a1), (.ref b5), (.ref b10), (.ref b10)])) rfl rfl (hb hby d12_144)
  obtain ⟨_, _, ⟨T13, L13, k13, n13⟩, -, X13, ⟨Lc13, hQ13, l13, y13, z13⟩, st13⟩ := X12.specialBack hx (y := m_30) rfl hown (mvT hZ (tw hw 231 rfl)) (mvT hZ (tw hw 232 rfl)) (mvT hZ (tw hw 233 rfl)) (by decide) (backOf (W := 1) (rm45 l Z a0 hw [] b10 b5 h10 n0 O11 A10 F_value_b10 F_coder_b10 ge_b10) hZ (tw hw 233 rfl) (tw hw 3 rfl) (by decide) (by decide)) (g := (mkF m 147 #[Rf a1, It (2 : Int32), It (4 : Int32), It (8 : Int32), Rf b5] [(.int (0 : Int32)), (.ref b5), (.ref b10), (.ref b10)])) rfl (by rw [hml]; rfl) (Steps.refl _) (a := b10) (argsL := [(.ref b5), (.int (0 : Int32))]) (rest := [(.ref b10)]) (lenOf pd_19 rfl) rfl (w0 rfl) (hb hby d12_147) (fun _ _ => ⟨rfl, e12, (by decide : 2 + 0 ≤ _), (by decide : 12 + 0 ≤ _)⟩)
  dsimp only [Pt.U, Pt.locs, Pt.cells, Pt.slots] at X13 l13 y13 z13 st13 hQ13
  subst l13 y13 z13
  obtain ⟨rfl, N13q, K13q, O13, f13_0, f13_1⟩ := hQ13
  have N13 := Fr.app N9 N13q
  have K13 := K10.trans K13q (allS (Or.inr sz_b10) all0)
  have sg14 : SG p.tables e below (T13.setTop (mkF m 150 #[Rf a1, It (2 : Int32), It (4 : Int32), It (8 : Int32), Rf b5] [(.ref b10)])) (T1.setTop (mkF m 111 #[Rf a1, It (2 : Int32), It (4 : Int32), .unset, .unset] [(.int (8 : Int32))])) := by
    intro target kt
    show Steps _ _ _ (T1.setTop (mkF m 111 #[Rf a1, It (2 : Int32), It (4 : Int32), .unset, .unset] [(.int (8 : Int32))])) _
    refine XS.istoreN X1.here hx rfl (hb hby d12_111) rfl (l' := #[Rf a1, It (2 : Int32), It (4 : Int32), It (8 : Int32), .unset]) rfl ?_
    refine XS.iloadN X1.here hx rfl (hb hby d12_112) rfl ?_
    refine st5 _ ?_
    refine XS.astore X5.here hx rfl (hb hby d12_115) rfl rfl (l' := #[Rf a1, It (2 : Int32), It (4 : Int32), It (8 : Int32), Rf b5]) rfl ?_
    refine XS.aloadN X5.here hx rfl (hb hby d12_117) rfl rfl ?_
    refine st7 _ ?_
    refine XS.iconst X7.here hx rfl (hb hby d12_121) ?_
    refine XS.aload X7.here hx rfl (hb hby d12_122) rfl rfl ?_
    refine XS.iconst X7.here hx rfl (hb hby d12_124) ?_
    refine XS.iloadN X7.here hx rfl (hb hby d12_125) rfl ?_
    refine st8 _ ?_
    refine XS.aload X8.here hx rfl (hb hby d12_129) rfl rfl ?_
    refine XS.iconst X8.here hx rfl (hb hby d12_131) ?_
    refine XS.iloadN X8.here hx rfl (hb hby d12_132) rfl ?_
    refine XS.iloadN X8.here hx rfl (hb hby d12_133) rfl ?_
    refine st9 _ ?_
    refine st10 _ ?_
    refine XS.dup X10.here hx rfl (hb hby d12_140) rfl rfl ?_
    refine XS.aload X10.here hx rfl (hb hby d12_141) rfl rfl ?_
    refine XS.aloadN X10.here hx rfl (hb hby d12_143) rfl rfl ?_
    refine st12 _ ?_
    refine st13.trans ?_
    exact kt
  obtain ⟨fs, hr, hrun, hended, hW, hsame⟩ := X13.leave (v := some (.ref b10)) (fun h => by rw [Bd.returns] at h; cases h)
  refine ⟨_, _, pre0 _ (sg4 _ (sg14 _ (?_))), hrun, hended, _, _, rfl, ?_, ⟨_, rfl⟩, hW, hsame.mono (by decide) (by decide)⟩
  · show Steps _ _ _ (T13.setTop (mkF m 150 #[Rf a1, It (2 : Int32), It (4 : Int32), It (8 : Int32), Rf b5] [(.ref b10)])) _
    jvm_step X13.here [X13.here.top, hx, (hb hby d12_150), X13.method', Bd.returns, Value.isRef, FieldType.isReference]
    first | (intro acts; rw [hr _ acts rfl rfl rfl]) | rw [hr _ _ rfl rfl rfl]
    exact Steps.refl _
  · show Q12_2 Z a1 tv us kt h0 n0 _ T13.heap _
    exact ⟨b10, b5, k5, rfl, N13, K13, O13, (A10.keep K13q), ge_b10, sz_b10, f13_0, f13_1, ((f9_0.ext E10).keep K13q (ninS (Nat.ne_of_lt (Nat.lt_of_lt_of_le f9_0.lt (Nat.le_of_eq g10.symm))) nin0)), ge_b5, sz_b5⟩
def Q12_3 (Z : State) (a1 : Addr) (tv : Addr) (us : List Value) (kt : ClassId) (h0 : Heap) (n0 : Nat) (v : Option Value) (h : Heap) (L : List Loc) : Prop := ∃ rs : Addr, ∃ ro : Addr, ∃ ko : ClassId, v = some (.ref rs) ∧ Fr n0 L ∧ Keep h0 h [] ∧ Old Z n0 h ∧ Exa Z h rs "java/lang/String" ∧ n0 ≤ rs ∧ h0.size ≤ rs ∧ Fld Z h rs "java/lang/String" "coder" "B" (.int (0 : Int32)) ∧ Fld Z h rs "java/lang/String" "value" "[B" (.ref ro) ∧ Arv Z h ro ko .byte (12 : Int32) (cpy (cpy (cpy z16 0 us 0 4) 4 (cpy z16 0 us 0 4) 0 4) 8 (cpy (cpy z16 0 us 0 4) 4 (cpy z16 0 us 0 4) 0 4) 0 4) (.int (0 : Int32)) ∧ n0 ≤ ro ∧ h0.size ≤ ro
theorem rm12_3 (l : Launch) (Z : State) (a0 : Array Value) (hw : ∀ d ∈ tables_1, d.before a0 Z = true) (ws : List Jvm.Cond) (a1 : Addr) (tv : Addr) (us : List Value) (kt : ClassId) (h0 : Heap) (n0 : Nat) (O0 : Old Z n0 h0) (E_a1 : Exa Z h0 a1 "java/lang/String") (F_coder_a1 : Fld Z h0 a1 "java/lang/String" "coder" "B" (.int (0 : Int32))) (F_value_a1 : Fld Z h0 a1 "java/lang/String" "value" "[B" (.ref tv)) (A_tv : Arv Z h0 tv kt .byte (4 : Int32) us (.int (0 : Int32))) :
    MetFree l m_32 (head1 (Jvm.Cond.code m_32 jdk_42_method_145_code 5 (some (.object "java/lang/String")) :: ws) (rk 2 2 16 55)) (fun a U => a = #[(.ref a1), (.int (3 : Int32))] ∧ Z.Warmed39 U.vm ∧ U.heap = h0) (fun _ _ _ _ _ => True) (fun _ U o U' => ∃ v L, o = .returned v ∧ Q12_3 Z a1 tv us kt h0 n0 v U'.heap L ∧ FrameEnd U o U' L (rk 2 2 16 55).cells (rk 2 2 16 55).slots) := by
  refine MetFree.of_bodySF (plainFor_of_name pn_0) hisR ?_
  intro p e s m args below meth c s₁ Bd hml0 hP hK
  obtain ⟨rfl, hZ, hh⟩ := hP
  have hx := Bd.exec
  have hby := Bd.bytes
  have hml : c.maxLocals = 5 := hml0
  have hown : s.vm.findClass "java/lang/String" = some m.cls := findClass_of_methodNamed Bd.named
  have X0 : Stand p l e (rk 2 2 16 55) s m #[(.ref a1), (.int (3 : Int32))] below meth c s₁ [] 0 0 := Stand.of_body Bd
  have e0 : s₁.heap = h0 := by rw [← hh, Bd.state]; rfl
  have N0 := Fr.nil n0
  have pre0 := own_pre (tb := p.tables) (e := e) (bl := below) (s := s₁) (ef_12_0 m a1 (3 : Int32))
  have K0 := Keep.refl h0 []
  obtain ⟨T1, X1, e1, st1⟩ := getF X0 hx hZ hown (host := "") (Or.inl (tw hw 28 rfl)) Via.refl e0 F_value_a1 (g := (mkF m 40 #[Rf a1, It (3 : Int32), .unset, .unset, .unset] [(.ref a1)])) rfl rfl (hb hby d12_40)
  obtain ⟨cl2, Ar2, -, Sz2, Nn2, -, -⟩ := id A_tv
  obtain ⟨u3, hu3⟩ : ∃ z, z = ((4 : Int32) * (3 : Int32)) := ⟨_, rfl⟩
  have sg4 : SG p.tables e below (T1.setTop (mkF m 111 #[Rf a1, It (3 : Int32), It (4 : Int32), .unset, .unset] [(.int u3)])) (s₁.setTop (mkF m 0 #[Rf a1, It (3 : Int32), .unset, .unset, .unset] [])) := by
    intro target kt
    subst hu3
    show Steps _ _ _ (s₁.setTop (mkF m 0 #[Rf a1, It (3 : Int32), .unset, .unset, .unset] [])) _
    refine XS.iloadN X0.here hx rfl (hb hby d12_0) rfl ?_
    refine XS.ifYes X0.here hx rfl (pc0 := 1) (pc' := 32) rfl (hb hby d12_1) rfl ((if0 _ _).trans (flt (by decide : ¬ ((3 : Int32) < (0 : Int32)))).2.1) (by decide) (by decide) ?_
    refine XS.iloadN X0.here hx rfl (hb hby d12_32) rfl ?_
    refine XS.iconst X0.here hx rfl (hb hby d12_33) ?_
    refine XS.icmpYes X0.here hx rfl (pc0 := 34) (pc' := 39) rfl (hb hby d12_34) rfl (feq (by decide : ¬ ((3 : Int32) = (1 : Int32)))).2 (by decide) (by decide) ?_
    refine XS.aloadN X0.here hx rfl (hb hby d12_39) rfl rfl ?_
    refine st1 _ ?_
    refine X1.arraylength hx (own_rwh e1 Ar2.1) (State.isArrayOf_alike hZ.alike Ar2.2.1) (g := (mkF m 43 #[Rf a1, It (3 : Int32), .unset, .unset, .unset] [(.ref tv)])) rfl rfl (hb hby d12_43) _ ?_
    rw [len_of Sz2 Nn2]
    show Steps _ _ _ (T1.setTop (mkF m 44 #[Rf a1, It (3 : Int32), .unset, .unset, .unset] [(.int (4 : Int32))])) _
    refine XS.istoreN X1.here hx rfl (hb hby d12_44) rfl (l' := #[Rf a1, It (3 : Int32), It (4 : Int32), .unset, .unset]) rfl ?_
    refine XS.iloadN X1.here hx rfl (hb hby d12_45) rfl ?_
    refine XS.ifNo X1.here hx rfl (hb hby d12_46) rfl ((if0 _ _).trans (feq (by decide : ¬ ((4 : Int32) = (0 : Int32)))).1) ?_
    refine XS.iloadN X1.here hx rfl (hb hby d12_49) rfl ?_
    refine XS.ifYes X1.here hx rfl (pc0 := 50) (pc' := 56) rfl (hb hby d12_50) rfl ((if0 _ _).trans (feq (by decide : ¬ ((3 : Int32) = (0 : Int32)))).2) (by decide) (by decide) ?_
    refine X1.ldcwInt hx hown (mvT hZ (tw hw 226 rfl)) (g := (mkF m 56 #[Rf a1, It (3 : Int32), It (4 : Int32), .unset, .unset] [])) rfl (hb hby d12_56) _ ?_
    refine XS.iloadN X1.here hx rfl (hb hby d12_59) rfl ?_
    refine XS.idiv X1.here hx rfl (hb hby d12_60) rfl (by decide) ?_
    refine XS.iloadN X1.here hx rfl (hb hby d12_61) rfl ?_
    refine XS.icmpYes X1.here hx rfl (pc0 := 62) (pc' := 76) rfl (hb hby d12_62) rfl (flt (by decide : ¬ ((2147483647 : Int32) / (3 : Int32)) < (4 : Int32))).2.1 (by decide) (by decide) ?_
    refine XS.iloadN X1.here hx rfl (hb hby d12_76) rfl ?_
    refine XS.iconst X1.here hx rfl (hb hby d12_77) ?_
    refine XS.icmpYes X1.here hx rfl (pc0 := 78) (pc' := 108) rfl (hb hby d12_78) rfl (feq (by decide : ¬ ((4 : Int32) = (1 : Int32)))).2 (by decide) (by decide) ?_
    refine XS.iloadN X1.here hx rfl (hb hby d12_108) rfl ?_
    refine XS.iloadN X1.here hx rfl (hb hby d12_109) rfl ?_
    refine XS.imul X1.here hx rfl (hb hby d12_110) rfl ?_
    exact kt
  have hk_u3 : u3 = (12 : Int32) := hu3.trans (by decide)
  subst hk_u3
  obtain ⟨T5, h5, k5, X5, e5, E5, A5, st5⟩ := newP X1 hx hZ (tw hw 19 rfl) e1 (g := (mkF m 113 #[Rf a1, It (3 : Int32), It (4 : Int32), It (12 : Int32), .unset] [(.int (12 : Int32))])) rfl (hb hby d12_113) rfl (Sm.lit (x := (12 : Int32)) (n := 12) (by decide)).nn (cap := 12) (own_capn (Sm.lit (x := (12 : Int32)) (n := 12) (by decide)) (by decide)) (by decide) (by decide) (by decide)
  obtain ⟨b5, g5⟩ : ∃ z, z = h0.size := ⟨_, rfl⟩
  rw [← g5] at A5 st5
  have ge_b5 : n0 ≤ b5 := Nat.le_trans (own_osz O0) (Nat.le_of_eq g5.symm)
  have sz_b5 : h0.size ≤ b5 := Nat.le_trans K0.1 (Nat.le_of_eq g5.symm)
  have O6 := O0.ext E5
  have K5 := K0.ext E5
  have V_b5 : Arv Z h5 b5 k5 .byte (12 : Int32) z16 (.int (0 : Int32)) := (Arv.new A5 (Sm.lit (x := (12 : Int32)) (n := 12) (by decide)).nn).pad (pad_rep [] (.int (0 : Int32)) 16)
  obtain ⟨T7, X7, e7, st7⟩ := getF X5 hx hZ hown (host := "") (Or.inl (tw hw 28 rfl)) Via.refl e5 (F_value_a1.ext E5) (g := (mkF m 118 #[Rf a1, It (3 : Int32), It (4 : Int32), It (12 : Int32), Rf b5] [(.ref a1)])) rfl rfl (hb hby d12_118)
  obtain ⟨T8, h8, L8, X8, e8, N8, K8q, V8, st8⟩ := cpA X7 hx hZ hown (tw hw 121 rfl) (tw hw 124 rfl) (tw hw 122 rfl) (tw hw 123 rfl) e7 (A_tv.ext E5) V_b5 (Or.inl ⟨rfl, rfl⟩) (Sm.lit (x := (0 : Int32)) (n := 0) (by decide)).nn (Sm.lit (x := (0 : Int32)) (n := 0) (by decide)).nn (Sm.lit (x := (4 : Int32)) (n := 4) (by decide)).nn (own_le3 (Sm.lit (x := (0 : Int32)) (n := 0) (by decide)) (Sm.lit (x := (4 : Int32)) (n := 4) (by decide)) (Sm.lit (x := (4 : Int32)) (n := 4) (by decide)) (by decide)) (own_le3 (Sm.lit (x := (0 : Int32)) (n := 0) (by decide)) (Sm.lit (x := (4 : Int32)) (n := 4) (by decide)) (Sm.lit (x := (12 : Int32)) (n := 12) (by decide)) (by decide)) rfl (own_le2 (Sm.lit (x := (0 : Int32)) (n := 0) (by decide)) (Sm.lit (x := (4 : Int32)) (n := 4) (by decide)) (by decide)) N0 ge_b5 (g := (mkF m 126 #[Rf a1, It (3 : Int32), It (4 : Int32), It (12 : Int32), Rf b5] [(.int (4 : Int32)), (.int (0 : Int32)), (.ref b5), (.int (0 : Int32)), (.ref tv)])) rfl (by rw [hml]; rfl) rfl (hb hby d12_126) (by decide) (W := 0) (w0 rfl) (by decide)
  have VV8 : Arv Z h8 b5 k5 .byte (12 : Int32) (cpy z16 0 us 0 4) (.int (0 : Int32)) := own_cpy (Sm.lit (x := (0 : Int32)) (n := 0) (by decide)) (Sm.lit (x := (0 : Int32)) (n := 0) (by decide)) (Sm.lit (x := (4 : Int32)) (n := 4) (by decide)) V8
  have K8 := K5.trans K8q (allS (Or.inr sz_b5) all0)
  have O8 := O6.keep K8q (allS ge_b5 all0)
  obtain ⟨_, _, ⟨T9, L9, k9, n9⟩, -, X9, ⟨Lc9, hQ9, l9, y9, z9⟩, st9⟩ := Jvm.LawKit.callS X8 hx (y := m_31) hown (mvT hZ (tw hw 227 rfl)) (mvT hZ (tw hw 228 rfl)) (mvT hZ (tw hw 3 rfl)) (mvT hZ (tw hw 229 rfl)) (by decide) (backOf (W := 0) (rm44_3 l Z a0 hw [] b5 (cpy z16 0 us 0 4) k5 h8 n0 O8 (own_cpyl rfl (by decide)) VV8 ge_b5) hZ (tw hw 229 rfl) (tw hw 3 rfl) (by decide) (by decide)) (g := (mkF m 134 #[Rf a1, It (3 : Int32), It (4 : Int32), It (12 : Int32), Rf b5] [(.int (4 : Int32)), (.int (12 : Int32)), (.int (0 : Int32)), (.ref b5)])) rfl (by rw [hml]; rfl) (argsL := [(.ref b5), (.int (0 : Int32)), (.int (12 : Int32)), (.int (4 : Int32))]) (rest := []) (lenOf pd_18 rfl) rfl (w0 rfl) (hb hby d12_134) (fun _ _ => ⟨rfl, e8, (by decide : 1 + 0 ≤ _), (by decide : 12 + 0 ≤ _)⟩)
  dsimp only [Pt.U, Pt.locs, Pt.cells, Pt.slots] at X9 l9 y9 z9 st9 hQ9
  subst l9 y9 z9
  obtain ⟨rfl, N9q, K9q, O9, f9_0⟩ := hQ9
  have N9 := Fr.app N8 N9q
  have K9 := K8.trans K9q (allS (Or.inr sz_b5) all0)
  obtain ⟨T10, h10, X10, e10, E10, A10, D10, -, st10⟩ := newO X9 hx hZ hown (tw hw 230 rfl) (tw hw 2 rfl) (tw hw 3 rfl) rfl (g := (mkF m 137 #[Rf a1, It (3 : Int32), It (4 : Int32), It (12 : Int32), Rf b5] [])) rfl (hb hby d12_137) (by decide) (by decide)
  obtain ⟨b10, g10⟩ : ∃ z, z = T9.heap.size := ⟨_, rfl⟩
  rw [← g10] at A10 D10 st10
  have ge_b10 : n0 ≤ b10 := Nat.le_trans (own_osz O9) (Nat.le_of_eq g10.symm)
  have sz_b10 : h0.size ≤ b10 := Nat.le_trans K9.1 (Nat.le_of_eq g10.symm)
  have O11 := O9.ext E10
  have K10 := K9.ext E10
  have F_coder_b10 : Fld Z h10 b10 "java/lang/String" "coder" "B" (.int (0 : Int32)) := D10 (Or.inr (tw hw 27 rfl)) (ty := .byte) (by decide)
  have F_value_b10 : Fld Z h10 b10 "java/lang/String" "value" "[B" .null := D10 (Or.inr (tw hw 29 rfl)) (ty := (.array .byte)) (by decide)
  obtain ⟨T12, X12, e12, st12⟩ := getF X10 hx hZ hown (host := "") (Or.inl (tw hw 26 rfl)) Via.refl e10 ((((F_coder_a1.ext E5).keep K8q (ninS (Nat.ne_of_lt (Nat.lt_of_lt_of_le E_a1.lt (Nat.le_of_eq g5.symm))) nin0)).keep K9q (ninS (Nat.ne_of_lt (Nat.lt_of_lt_of_le E_a1.lt (Nat.le_of_eq g5.symm))) nin0)).ext E10) (g := (mkF m 144 #[Rf a1, It (3 : Int32), It (4 : Int32), It (12 : Int32), Rf b5] [(.ref a1), (.ref b5), (.ref b10), (.ref b10)])) rfl rfl (hb hby d12_144)
  obtain ⟨_, _, ⟨T13, L13, k13, n13⟩, -, X13, ⟨Lc13, hQ13, l13, y13, z13⟩, st13⟩ := X12.specialBack hx (y := m_30) rfl hown (mvT hZ (tw hw 231 rfl)) (mvT hZ (tw hw 232 rfl)) (mvT hZ (tw hw 233 rfl)) (by decide) (backOf (W := 1) (rm45 l Z a0 hw [] b10 b5 h10 n0 O11 A10 F_value_b10 F_coder_b10 ge_b10) hZ (tw hw 233 rfl) (tw hw 3 rfl) (by decide) (by decide)) (g := (mkF m 147 #[Rf a1, It (3 : Int32), It (4 : Int32), It (12 : Int32), Rf b5] [(.int (0 : Int32)), (.ref b5), (.ref b10), (.ref b10)])) rfl (by rw [hml]; rfl) (Steps.refl _) (a := b10) (argsL := [(.ref b5), (.int (0 : Int32))]) (rest := [(.ref b10)]) (lenOf pd_19 rfl) rfl (w0 rfl) (hb hby d12_147) (fun _ _ => ⟨rfl, e12, (by decide : 2 + 0 ≤ _), (by decide : 16 + 0 ≤ _)⟩)
  dsimp only [Pt.U, Pt.locs, Pt.cells, Pt.slots] at X13 l13 y13 z13 st13 hQ13
  subst l13 y13 z13
  obtain ⟨rfl, N13q, K13q, O13, f13_0, f13_1⟩ := hQ13
  have N13 := Fr.app N9 N13q
  have K13 := K10.trans K13q (allS (Or.inr sz_b10) all0)
  have sg14 : SG p.tables e below (T13.setTop (mkF m 150 #[Rf a1, It (3 : Int32), It (4 : Int32), It (12 : Int32), Rf b5] [(.ref b10)])) (T1.setTop (mkF m 111 #[Rf a1, It (3 : Int32), It (4 : Int32), .unset, .unset] [(.int (12 : Int32))])) := by
    intro target kt
    show Steps _ _ _ (T1.setTop (mkF m 111 #[Rf a1, It (3 : Int32), It (4 : Int32), .unset, .unset] [(.int (12 : Int32))])) _
    refine XS.istoreN X1.here hx rfl (hb hby d12_111) rfl (l' := #[Rf a1, It (3 : Int32), It (4 : Int32), It (12 : Int32), .unset]) rfl ?_
    refine XS.iloadN X1.here hx rfl (hb hby d12_112) rfl ?_
    refine st5 _ ?_
    refine XS.astore X5.here hx rfl (hb hby d12_115) rfl rfl (l' := #[Rf a1, It (3 : Int32), It (4 : Int32), It (12 : Int32), Rf b5]) rfl ?_
    refine XS.aloadN X5.here hx rfl (hb hby d12_117) rfl rfl ?_
    refine st7 _ ?_
    refine XS.iconst X7.here hx rfl (hb hby d12_121) ?_
    refine XS.aload X7.here hx rfl (hb hby d12_122) rfl rfl ?_
    refine XS.iconst X7.here hx rfl (hb hby d12_124) ?_
    refine XS.iloadN X7.here hx rfl (hb hby d12_125) rfl ?_
    refine st8 _ ?_
    refine XS.aload X8.here hx rfl (hb hby d12_129) rfl rfl ?_
    refine XS.iconst X8.here hx rfl (hb hby d12_131) ?_
    refine XS.iloadN X8.here hx rfl (hb hby d12_132) rfl ?_
    refine XS.iloadN X8.here hx rfl (hb hby d12_133) rfl ?_
    refine st9 _ ?_
    refine st10 _ ?_
    refine XS.dup X10.here hx rfl (hb hby d12_140) rfl rfl ?_
    refine XS.aload X10.here hx rfl (hb hby d12_141) rfl rfl ?_
    refine XS.aloadN X10.here hx rfl (hb hby d12_143) rfl rfl ?_
    refine st12 _ ?_
    refine st13.trans ?_
    exact kt
  obtain ⟨fs, hr, hrun, hended, hW, hsame⟩ := X13.leave (v := some (.ref b10)) (fun h => by rw [Bd.returns] at h; cases h)
  refine ⟨_, _, pre0 _ (sg4 _ (sg14 _ (?_))), hrun, hended, _, _, rfl, ?_, ⟨_, rfl⟩, hW, hsame.mono (by decide) (by decide)⟩
  · show Steps _ _ _ (T13.setTop (mkF m 150 #[Rf a1, It (3 : Int32), It (4 : Int32), It (12 : Int32), Rf b5] [(.ref b10)])) _
    jvm_step X13.here [X13.here.top, hx, (hb hby d12_150), X13.method', Bd.returns, Value.isRef, FieldType.isReference]
    first | (intro acts; rw [hr _ acts rfl rfl rfl]) | rw [hr _ _ rfl rfl rfl]
    exact Steps.refl _
  · show Q12_3 Z a1 tv us kt h0 n0 _ T13.heap _
    exact ⟨b10, b5, k5, rfl, N13, K13, O13, (A10.keep K13q), ge_b10, sz_b10, f13_0, f13_1, ((f9_0.ext E10).keep K13q (ninS (Nat.ne_of_lt (Nat.lt_of_lt_of_le f9_0.lt (Nat.le_of_eq g10.symm))) nin0)), ge_b5, sz_b5⟩
def Q10_01 (Z : State) (a1 : Addr) (a2 : Addr) (sb : Addr) (arr : Addr) (sv : Addr) (us : List Value) (zC : Int32) (ka : ClassId) (ks : ClassId) (h0 : Heap) (n0 : Nat) (v : Option Value) (h : Heap) (L : List Loc) : Prop := v = some (.ref a1) ∧ Fr n0 L ∧ Keep h0 h [sb, arr] ∧ Old Z n0 h ∧ Fld Z h sb "java/lang/AbstractStringBuilder" "value" "[B" (.ref arr) ∧ Fld Z h sb "java/lang/AbstractStringBuilder" "coder" "B" (.int (0 : Int32)) ∧ Fld Z h sb "java/lang/AbstractStringBuilder" "count" "I" (.int (2 : Int32)) ∧ Arv Z h arr ka .byte (16 : Int32) ((cpy (cpy z16 0 ([] : List Value) 0 0) 0 us 0 1).set 1 (.int ((10 : Int32).toInt8.toInt32.toInt8.toInt32))) (.int (0 : Int32))
theorem rm10_01 (l : Launch) (Z : State) (a0 : Array Value) (hw : ∀ d ∈ tables_1, d.before a0 Z = true) (ws : List Jvm.Cond) (a1 : Addr) (a2 : Addr) (sb : Addr) (arr : Addr) (sv : Addr) (us : List Value) (zC : Int32) (ka : ClassId) (ks : ClassId) (h0 : Heap) (n0 : Nat) (O0 : Old Z n0 h0) (sC : TS_0 Z zC) (E_a1 : Exa Z h0 a1 "com/example/tetrad/tetrad/generate/SourceText") (F_text_a1 : Fld Z h0 a1 "com/example/tetrad/tetrad/generate/SourceText" "text" "Ljava/lang/StringBuilder;" (.ref sb)) (F_depth_a1 : Fld Z h0 a1 "com/example/tetrad/tetrad/generate/SourceText" "depth" "I" (.int (0 : Int32))) (E_sb : Exa Z h0 sb "java/lang/StringBuilder") (F_value_sb : Fld Z h0 sb "java/lang/AbstractStringBuilder" "value" "[B" (.ref arr)) (F_coder_sb : Fld Z h0 sb "java/lang/AbstractStringBuilder" "coder" "B" (.int (0 : Int32))) (F_count_sb : Fld Z h0 sb "java/lang/AbstractStringBuilder" "count" "I" (.int (0 : Int32))) (A_arr : Arv Z h0 arr ka .byte (16 : Int32) z16 (.int (0 : Int32))) (E_a2 : Exa Z h0 a2 "java/lang/String") (F_coder_a2 : Fld Z h0 a2 "java/lang/String" "coder" "B" (.int (0 : Int32))) (F_value_a2 : Fld Z h0 a2 "java/lang/String" "value" "[B" (.ref sv)) (A_sv : Arv Z h0 sv ks .byte (1 : Int32) us (.int (0 : Int32))) (ge_sb : n0 ≤ sb) (ge_arr : n0 ≤ arr) (h_ne : sv ≠ arr) (hCS : ¬ zC = 0) :
    MetFree l m_33 (head1 (Jvm.Cond.code m_33 prog_51_method_2_code 2 (some (.object "com/example/tetrad/tetrad/generate/SourceText")) :: ws) (rk 5 4 24 96)) (fun a U => a = #[(.ref a1), (.ref a2)] ∧ Z.Warmed39 U.vm ∧ U.heap = h0 ∧ CHv Z own_EL U.vm h0 ∧ Safe Z own_EL U.vm h0 arr) (fun _ _ _ _ _ => True) (fun _ U o U' => ∃ v L, o = .returned v ∧ Q10_01 Z a1 a2 sb arr sv us zC ka ks h0 n0 v U'.heap L ∧ CHr Z own_EL U.vm U.heap U'.vm U'.heap ∧ ReturnedEndW U o U' L (rk 5 4 24 96).cells (rk 5 4 24 96).slots) := by
  refine MetFree.of_bodySF (plainFor_of_name pn_3) hisR ?_
  intro p e s m args below meth c s₁ Bd hml0 hP hK
  obtain ⟨rfl, hZ, hh, hCH, hSf⟩ := hP
  have hx := Bd.exec
  have hby := Bd.bytes
  have hml : c.maxLocals = 2 := hml0
  have hown : s.vm.findClass "com/example/tetrad/tetrad/generate/SourceText" = some m.cls := findClass_of_methodNamed Bd.named
  have X0 : Stand p l e (rk 5 4 24 96) (s.setVm s.vm) m #[(.ref a1), (.ref a2)] below meth c s₁ [] 0 0 := Stand.of_body Bd
  have e0 : s₁.heap = h0 := by rw [← hh, Bd.state]; rfl
  have N0 := Fr.nil n0
  have pre0 := own_pre (tb := p.tables) (e := e) (bl := below) (s := s₁) (ef_19 m a1 a2)
  have Y0 : s.Since s.vm h0.size := (State.WarmedH.refl s).since h0.size
  have Yk0 : h0.size ≤ h0.size := Nat.le_refl _
  have CR0 : CHr Z own_EL s.vm h0 s.vm h0 := CHr.refl hCH
  have hEL := own_EW hw
  have hSA := own_SA hw
  have K0 := Keep.refl h0 [sb, arr]
  obtain ⟨cq1, kq1, q1a, q1b, q1c⟩ := isOf hZ e0 E_a2
  obtain ⟨_, _, ⟨T1, L1, k1, n1⟩, -, X1, ⟨Lc1, hQ1, l1, y1, z1⟩, st1⟩ := X0.virtualBack hx (y := m_3) (z := m_3) hown (mvT hZ (tw hw 62 rfl)) (mvT hZ (tw hw 63 rfl)) (notFace_of_selects (args := #[]) (mvT hZ (tw hw 65 rfl))) (mvT hZ (tw hw 65 rfl)) (mvT hZ (tw hw 64 rfl)) (by decide) (backOf (W := 0) (rm11_n l Z a0 hw [] a2 sv (1 : Int32) us ks h0 n0 O0 (by decide) E_a2 F_coder_a2 F_value_a2 A_sv) hZ (tw hw 66 rfl) (tw hw 3 rfl) (by decide) (by decide)) q1a q1c (g := (mkF m 1 #[Rf a1, Rf a2] [(.ref a2)])) rfl (by rw [hml]; rfl) (Steps.refl _) (argsL := []) (rest := []) (lenOf pd_8 rfl) rfl (w0 rfl) (hb hby d10_1) (fun _ _ => ⟨rfl, e0, (by decide : 0 + 0 ≤ _), (by decide : 0 + 0 ≤ _)⟩)
  dsimp only [Pt.U, Pt.locs, Pt.cells, Pt.slots] at X1 l1 y1 z1 st1 hQ1
  subst l1 y1 z1
  obtain ⟨rfl, N1q, e1⟩ := hQ1
  have N1 := Fr.app N0 N1q
  obtain ⟨T2, X2, e2, st2⟩ := getF X1 hx hZ hown (host := "") (Or.inl (tw hw 55 rfl)) Via.refl e1 F_text_a1 (g := (mkF m 8 #[Rf a1, Rf a2] [(.ref a1)])) rfl rfl (hb hby d10_8)
  obtain ⟨sa3, T3, h3, k3, sb3, kb3, X3, e3, E3, Y3, Yk3, hZ3, hown3, A3, Fc3, Fv3, V3, la3, lb3, C3, Lt3, SF3, st3⟩ := ldcCH X2 hx hZ hown (tw hw 67 rfl) hSA e2 Y0 Yk0 hEL (own_mem (by decide)) CR0.1 (vs := [(.int (32 : Int32)), (.int (32 : Int32)), (.int (32 : Int32)), (.int (32 : Int32))]) (z := (4 : Int32)) (by decide) (by decide) (by decide) (g := (mkF m 11 #[Rf a1, Rf a2] [(.ref sb)])) rfl (hb hby d10_11) (n := 16) (by decide) (by decide) (by decide) (by decide)
  have O4 := O0.ext E3
  have K3 := K0.ext E3
  have CR5 := CR0.trans (C3)
  obtain ⟨T6, X6, e6, st6⟩ := getF X3 hx hZ3 hown3 (host := "") (Or.inl (tw hw 70 rfl)) Via.refl e3 (F_depth_a1.ext E3) (g := (mkF m 14 #[Rf a1, Rf a2] [(.ref a1), (.ref sa3), (.ref sb)])) rfl rfl (hb hby d10_14)
  obtain ⟨cq7, kq7, q7a, q7b, q7c⟩ := isOf hZ3 e6 A3
  obtain ⟨_, _, ⟨T7, L7, k7, n7⟩, -, X7, Y7, G7, ⟨Lc7, hQ7, l7, y7, z7, C7⟩, st7⟩ := X6.virtualBackS hx (y := m_32) (z := m_32) hown3 (mvT hZ3 (tw hw 72 rfl)) (mvT hZ3 (tw hw 73 rfl)) (notFace_of_selects (args := #[]) (mvT hZ3 (tw hw 75 rfl))) (mvT hZ3 (tw hw 75 rfl)) (mvT hZ3 (tw hw 74 rfl)) (by decide) (backOfSH (W := 1) (rm12_0 l Z a0 hw [] sa3 sb3 s4 kb3 h3 n0 O4 A3 Fc3 Fv3 V3) hZ3 (tw hw 76 rfl) (tw hw 3 rfl) (by decide) (by decide) hEL CR5.1) q7a q7c (g := (mkF m 17 #[Rf a1, Rf a2] [(.int (0 : Int32)), (.ref sa3), (.ref sb)])) rfl (by rw [hml]; rfl) (Steps.refl _) (argsL := [(.int (0 : Int32))]) (rest := [(.ref sb)]) (lenOf pd_20 rfl) rfl (w0 rfl) (hb hby d10_17) (fun _ _ => ⟨rfl, e6, (by decide : 2 + 2 ≤ _), (by decide : 20 + 4 ≤ _)⟩)
  dsimp only [Pt.U, Pt.locs, Pt.cells, Pt.slots] at X7 l7 y7 z7 st7 hQ7 Y7 G7 C7
  subst l7 y7 z7
  obtain ⟨rs_7, ro_7, ko_7, rfl, N7q, K7q, O7, f7_0, f7_1, f7_2, f7_3⟩ := hQ7
  have N7 := Fr.app N1 N7q
  obtain ⟨X7, Y7, hZ7, hown7⟩ := rebS Y3 (by rw [e6]; exact Yk3) X7 Y7 G7 hZ3 hown3
  have CR8 := CR5.trans (C7)
  have K7 := K3.trans K7q all0
  obtain ⟨cq9, kq9, q9a, q9b, q9c⟩ := isOf hZ7 rfl ((E_sb.ext E3).keep K7q)
  obtain ⟨_, _, ⟨T9, L9, k9, n9⟩, -, X9, ⟨Lc9, hQ9, l9, y9, z9⟩, st9⟩ := X7.virtualBack hx (y := m_18) (z := m_18) hown7 (mvT hZ7 (tw hw 78 rfl)) (mvT hZ7 (tw hw 79 rfl)) (notFace_of_selects (args := #[]) (mvT hZ7 (tw hw 81 rfl))) (mvT hZ7 (tw hw 81 rfl)) (mvT hZ7 (tw hw 80 rfl)) (by decide) (backOf (W := 0) (rm13 l Z a0 hw [] sb rs_7 arr (0 : Int32) 0 z16 ro_7 (0 : Int32) 0 [] zC ka ko_7 T7.heap n0 O7 hCS sC ((E_sb.ext E3).keep K7q) ((F_value_sb.ext E3).keep K7q nin0) ((F_coder_sb.ext E3).keep K7q nin0) ((F_count_sb.ext E3).keep K7q nin0) ((A_arr.ext E3).keep K7q nin0) f7_0 f7_1 f7_2 f7_3 ge_sb ge_arr (Sm.lit (x := (0 : Int32)) (n := 0) (by decide)) (Sm.lit (x := (0 : Int32)) (n := 0) (by decide)) (by decide) rfl) hZ7 (tw hw 82 rfl) (tw hw 39 rfl) (by decide) (by decide)) q9a q9c (g := (mkF m 20 #[Rf a1, Rf a2] [(.ref rs_7), (.ref sb)])) rfl (by rw [hml]; rfl) (Steps.refl _) (argsL := [(.ref rs_7)]) (rest := []) (lenOf pd_21 rfl) rfl (w0 rfl) (hb hby d10_20) (fun _ _ => ⟨rfl, rfl, (by decide : 4 + 0 ≤ _), (by decide : 24 + 0 ≤ _)⟩)
  dsimp only [Pt.U, Pt.locs, Pt.cells, Pt.slots] at X9 l9 y9 z9 st9 hQ9
  subst l9 y9 z9
  obtain ⟨rfl, N9q, K9q, O9, f9_0, f9_1, f9_2, f9_3⟩ := hQ9
  have N9 := Fr.app N7 N9q
  have CR10 := CR8.trans (CHr.keep K9q (allS (Safe.exa hZ7.alike ((E_sb.ext E3).keep K7q) (by decide) (by decide)) (allS (C7.safe (A_arr.ext E3).lt (C3.safe A_arr.lt hSf)) all0)) CR8.1)
  have Sf9_arr := (Safe.keep K9q (allS (Safe.exa hZ7.alike ((E_sb.ext E3).keep K7q) (by decide) (by decide)) (allS (C7.safe (A_arr.ext E3).lt (C3.safe A_arr.lt hSf)) all0)) CR8.1 (C7.safe (A_arr.ext E3).lt (C3.safe A_arr.lt hSf)))
  have K9 := K7.trans K9q (allS (Or.inl (List.mem_of_getElem? (i := 0) rfl)) (allS (Or.inl (List.mem_of_getElem? (i := 1) rfl)) all0))
  obtain ⟨cq11, kq11, q11a, q11b, q11c⟩ := isOf hZ7 rfl (((E_sb.ext E3).keep K7q).keep K9q)
  obtain ⟨_, _, ⟨T11, L11, k11, n11⟩, -, X11, ⟨Lc11, hQ11, l11, y11, z11⟩, st11⟩ := X9.virtualBack hx (y := m_18) (z := m_18) hown7 (mvT hZ7 (tw hw 78 rfl)) (mvT hZ7 (tw hw 79 rfl)) (notFace_of_selects (args := #[]) (mvT hZ7 (tw hw 81 rfl))) (mvT hZ7 (tw hw 81 rfl)) (mvT hZ7 (tw hw 80 rfl)) (by decide) (backOf (W := 0) (rm13 l Z a0 hw [] sb a2 arr ((0 : Int32) + (0 : Int32)) 0 (cpy z16 0 [] 0 0) sv (1 : Int32) 1 us zC ka ks T9.heap n0 O9 hCS sC (((E_sb.ext E3).keep K7q).keep K9q) f9_0 f9_1 f9_2 f9_3 (((E_a2.ext E3).keep K7q).keep K9q) (((F_coder_a2.ext E3).keep K7q nin0).keep K9q (ninS (Exa.ne E_a2 E_sb (by decide)) (ninS (Exa.neArv (((E_a2.ext E3).keep K7q).keep K9q) f9_3 (tw hw 2 rfl)) nin0))) (((F_value_a2.ext E3).keep K7q nin0).keep K9q (ninS (Exa.ne E_a2 E_sb (by decide)) (ninS (Exa.neArv (((E_a2.ext E3).keep K7q).keep K9q) f9_3 (tw hw 2 rfl)) nin0))) (((A_sv.ext E3).keep K7q nin0).keep K9q (ninS (Ne.symm (Exa.neArv E_sb A_sv (tw hw 38 rfl))) (ninS h_ne nin0))) ge_sb ge_arr (Sm.lit (x := ((0 : Int32) + (0 : Int32))) (n := 0) (by decide)) (Sm.lit (x := (1 : Int32)) (n := 1) (by decide)) (by decide) (own_cpyl rfl (by decide))) hZ7 (tw hw 82 rfl) (tw hw 39 rfl) (by decide) (by decide)) q11a q11c (g := (mkF m 24 #[Rf a1, Rf a2] [(.ref a2), (.ref sb)])) rfl (by rw [hml]; rfl) (Steps.refl _) (argsL := [(.ref a2)]) (rest := []) (lenOf pd_21 rfl) rfl (w0 rfl) (hb hby d10_24) (fun _ _ => ⟨rfl, rfl, (by decide : 4 + 0 ≤ _), (by decide : 24 + 0 ≤ _)⟩)
  dsimp only [Pt.U, Pt.locs, Pt.cells, Pt.slots] at X11 l11 y11 z11 st11 hQ11
  subst l11 y11 z11
  obtain ⟨rfl, N11q, K11q, O11, f11_0, f11_1, f11_2, f11_3⟩ := hQ11
  have N11 := Fr.app N9 N11q
  have CR12 := CR10.trans (CHr.keep K11q (allS (Safe.exa hZ7.alike (((E_sb.ext E3).keep K7q).keep K9q) (by decide) (by decide)) (allS Sf9_arr all0)) CR10.1)
  have Sf11_arr := (Safe.keep K11q (allS (Safe.exa hZ7.alike (((E_sb.ext E3).keep K7q).keep K9q) (by decide) (by decide)) (allS Sf9_arr all0)) CR10.1 Sf9_arr)
  have K11 := K9.trans K11q (allS (Or.inl (List.mem_of_getElem? (i := 0) rfl)) (allS (Or.inl (List.mem_of_getElem? (i := 1) rfl)) all0))
  obtain ⟨T13, X13, e13, st13⟩ := getF X11 hx hZ7 hown7 (host := "") (Or.inl (tw hw 55 rfl)) Via.refl rfl ((((F_text_a1.ext E3).keep K7q nin0).keep K9q (ninS (Exa.ne E_a1 E_sb (by decide)) (ninS (Exa.neArv ((((E_a1.ext E3).keep K7q).keep K9q).keep K11q) f11_3 (tw hw 31 rfl)) nin0))).keep K11q (ninS (Exa.ne E_a1 E_sb (by decide)) (ninS (Exa.neArv ((((E_a1.ext E3).keep K7q).keep K9q).keep K11q) f11_3 (tw hw 31 rfl)) nin0))) (g := (mkF m 29 #[Rf a1, Rf a2] [(.ref a1)])) rfl rfl (hb hby d10_29)
  obtain ⟨cq14, kq14, q14a, q14b, q14c⟩ := isOf hZ7 e13 ((((E_sb.ext E3).keep K7q).keep K9q).keep K11q)
  obtain ⟨_, _, ⟨T14, L14, k14, n14⟩, -, X14, ⟨Lc14, hQ14, l14, y14, z14⟩, st14⟩ := X13.virtualBack hx (y := m_21) (z := m_21) hown7 (mvT hZ7 (tw hw 125 rfl)) (mvT hZ7 (tw hw 126 rfl)) (notFace_of_selects (args := #[]) (mvT hZ7 (tw hw 128 rfl))) (mvT hZ7 (tw hw 128 rfl)) (mvT hZ7 (tw hw 127 rfl)) (by decide) (backOf (W := 0) (rm21 l Z a0 hw [] sb (10 : Int32) arr (((0 : Int32) + (0 : Int32)) + (1 : Int32)) 1 (cpy (cpy z16 0 [] 0 0) 0 us 0 1) zC ka T11.heap n0 O11 hCS sC ((((E_sb.ext E3).keep K7q).keep K9q).keep K11q) f11_0 f11_1 f11_2 f11_3 ge_sb ge_arr (Sm.lit (x := (((0 : Int32) + (0 : Int32)) + (1 : Int32))) (n := 1) (by decide)) (by decide) (own_cpyl (own_cpyl rfl (by decide)) (by decide)) (by decide)) hZ7 (tw hw 129 rfl) (tw hw 39 rfl) (by decide) (by decide)) q14a q14c (g := (mkF m 34 #[Rf a1, Rf a2] [(.int (10 : Int32)), (.ref sb)])) rfl (by rw [hml]; rfl) (Steps.refl _) (argsL := [(.int (10 : Int32))]) (rest := []) (lenOf pd_22 rfl) rfl (w0 rfl) (hb hby d10_34) (fun _ _ => ⟨rfl, e13, (by decide : 4 + 0 ≤ _), (by decide : 24 + 0 ≤ _)⟩)
  dsimp only [Pt.U, Pt.locs, Pt.cells, Pt.slots] at X14 l14 y14 z14 st14 hQ14
  subst l14 y14 z14
  obtain ⟨rfl, N14q, K14q, O14, f14_0, f14_1, f14_2, f14_3⟩ := hQ14
  have N14 := Fr.app N11 N14q
  have CR15 := CR12.trans (CHr.keep K14q (allS (Safe.exa hZ7.alike ((((E_sb.ext E3).keep K7q).keep K9q).keep K11q) (by decide) (by decide)) (allS Sf11_arr all0)) CR12.1)
  have Sf14_arr := (Safe.keep K14q (allS (Safe.exa hZ7.alike ((((E_sb.ext E3).keep K7q).keep K9q).keep K11q) (by decide) (by decide)) (allS Sf11_arr all0)) CR12.1 Sf11_arr)
  have K14 := K11.trans K14q (allS (Or.inl (List.mem_of_getElem? (i := 0) rfl)) (allS (Or.inl (List.mem_of_getElem? (i := 1) rfl)) all0))
  have sg16 : SG p.tables e below (T14.setTop (mkF m 39 #[Rf a1, Rf a2] [(.ref a1)])) (s₁.setTop (mkF m 0 #[Rf a1, Rf a2] [])) := by
    intro target kt
    show Steps _ _ _ (s₁.setTop (mkF m 0 #[Rf a1, Rf a2] [])) _
    refine XS.aloadN X0.here hx rfl (hb hby d10_0) rfl rfl ?_
    refine st1.trans ?_
    refine XS.ifNo X1.here hx rfl (hb hby d10_4) rfl ((if0 _ _).trans (teq (by decide : (0 : Int32) = (0 : Int32))).2) ?_
    refine XS.aloadN X1.here hx rfl (hb hby d10_7) rfl rfl ?_
    refine st2 _ ?_
    refine st3 _ ?_
    refine XS.aloadN X3.here hx rfl (hb hby d10_13) rfl rfl ?_
    refine st6 _ ?_
    refine st7.trans ?_
    refine st9.trans ?_
    refine XS.aloadN X9.here hx rfl (hb hby d10_23) rfl rfl ?_
    refine st11.trans ?_
    refine XS.pop X11.here hx rfl (hb hby d10_27) rfl rfl ?_
    refine XS.aloadN X11.here hx rfl (hb hby d10_28) rfl rfl ?_
    refine st13 _ ?_
    refine XS.bipush X13.here hx rfl (hb hby d10_32) ?_
    refine st14.trans ?_
    refine XS.pop X14.here hx rfl (hb hby d10_37) rfl rfl ?_
    refine XS.aloadN X14.here hx rfl (hb hby d10_38) rfl rfl ?_
    exact kt
  obtain ⟨fs, hr, hrun, hended, hRW⟩ := X14.leaveW Y7 (show _ ≤ T14.heap.size by exact (Nat.le_trans (Nat.le_trans (Nat.le_trans (Nat.le_refl _) K9q.1) K11q.1) K14q.1)) (v := some (.ref a1)) (fun h => by rw [Bd.returns] at h; cases h)
  refine ⟨_, _, pre0 _ (sg16 _ (?_)), hrun, hended, _, _, rfl, ?_, (by rw [hh]; show CHr Z own_EL s.vm h0 T14.vm T14.heap; exact CR15.trans (CHv.at X14 hZ7 hEL CR15.1)), hRW.1, hRW.2.1, hRW.2.2.1, hRW.2.2.2.mono (by decide) (by decide)⟩
  · show Steps _ _ _ (T14.setTop (mkF m 39 #[Rf a1, Rf a2] [(.ref a1)])) _
    jvm_step X14.here [X14.here.top, hx, (hb hby d10_39), X14.method', Bd.returns, Value.isRef, FieldType.isReference]
    first | (intro acts; rw [hr _ acts rfl rfl rfl]) | rw [hr _ _ rfl rfl rfl]
    exact Steps.refl _
  · show Q10_01 Z a1 a2 sb arr sv us zC ka ks h0 n0 _ T14.heap _
    exact ⟨rfl, N14, K14, O14, f14_0, f14_1, (own_fi (by decide) f14_2), f14_3⟩
def Q10_02 (Z : State) (a1 : Addr) (a2 : Addr) (sb : Addr) (arr : Addr) (sv : Addr) (us : List Value) (zC : Int32) (ka : ClassId) (ks : ClassId) (h0 : Heap) (n0 : Nat) (v : Option Value) (h : Heap) (L : List Loc) : Prop := v = some (.ref a1) ∧ Fr n0 L ∧ Keep h0 h [sb, arr] ∧ Old Z n0 h ∧ Fld Z h sb "java/lang/AbstractStringBuilder" "value" "[B" (.ref arr) ∧ Fld Z h sb "java/lang/AbstractStringBuilder" "coder" "B" (.int (0 : Int32)) ∧ Fld Z h sb "java/lang/AbstractStringBuilder" "count" "I" (.int (3 : Int32)) ∧ Arv Z h arr ka .byte (16 : Int32) ((cpy (cpy z16 0 ([] : List Value) 0 0) 0 us 0 2).set 2 (.int ((10 : Int32).toInt8.toInt32.toInt8.toInt32))) (.int (0 : Int32))
theorem rm10_02 (l : Launch) (Z : State) (a0 : Array Value) (hw : ∀ d ∈ tables_1, d.before a0 Z = true) (ws : List Jvm.Cond) (a1 : Addr) (a2 : Addr) (sb : Addr) (arr : Addr) (sv : Addr) (us : List Value) (zC : Int32) (ka : ClassId) (ks : ClassId) (h0 : Heap) (n0 : Nat) (O0 : Old Z n0 h0) (sC : TS_0 Z zC) (E_a1 : Exa Z h0 a1 "com/example/tetrad/tetrad/generate/SourceText") (F_text_a1 : Fld Z h0 a1 "com/example/tetrad/tetrad/generate/SourceText" "text" "Ljava/lang/StringBuilder;" (.ref sb)) (F_depth_a1 : Fld Z h0 a1 "com/example/tetrad/tetrad/generate/SourceText" "depth" "I" (.int (0 : Int32))) (E_sb : Exa Z h0 sb "java/lang/StringBuilder") (F_value_sb : Fld Z h0 sb "java/lang/AbstractStringBuilder" "value" "[B" (.ref arr)) (F_coder_sb : Fld Z h0 sb "java/lang/AbstractStringBuilder" "coder" "B" (.int (0 : Int32))) (F_count_sb : Fld Z h0 sb "java/lang/AbstractStringBuilder" "count" "I" (.int (0 : Int32))) (A_arr : Arv Z h0 arr ka .byte (16 : Int32) z16 (.int (0 : Int32))) (E_a2 : Exa Z h0 a2 "java/lang/String") (F_coder_a2 : Fld Z h0 a2 "java/lang/String" "coder" "B" (.int (0 : Int32))) (F_value_a2 : Fld Z h0 a2 "java/lang/String" "value" "[B" (.ref sv)) (A_sv : Arv Z h0 sv ks .byte (2 : Int32) us (.int (0 : Int32))) (ge_sb : n0 ≤ sb) (ge_arr : n0 ≤ arr) (h_ne : sv ≠ arr) (hCS : ¬ zC = 0) :
    MetFree l m_33 (head1 (Jvm.Cond.code m_33 prog_51_method_2_code 2 (some (.object "com/example/tetrad/tetrad/generate/SourceText")) :: ws) (rk 5 4 24 96)) (fun a U => a = #[(.ref a1), (.ref a2)] ∧ Z.Warmed39 U.vm ∧ U.heap = h0 ∧ CHv Z own_EL U.vm h0 ∧ Safe Z own_EL U.vm h0 arr) (fun _ _ _ _ _ => True) (fun _ U o U' => ∃ v L, o = .returned v ∧ Q10_02 Z a1 a2 sb arr sv us zC ka ks h0 n0 v U'.heap L ∧ CHr Z own_EL U.vm U.heap U'.vm U'.heap ∧ ReturnedEndW U o U' L (rk 5 4 24 96).cells (rk 5 4 24 96).slots) := by
  refine MetFree.of_bodySF (plainFor_of_name pn_3) hisR ?_
  intro p e s m args below meth c s₁ Bd hml0 hP hK
  obtain ⟨rfl, hZ, hh, hCH, hSf⟩ := hP
  have hx := Bd.exec
  have hby := Bd.bytes
  have hml : c.maxLocals = 2 := hml0
  have hown : s.vm.findClass "com/example/tetrad/tetrad/generate/SourceText" = some m.cls := findClass_of_methodNamed Bd.named
  have X0 : Stand p l e (rk 5 4 24 96) (s.setVm s.vm) m #[(.ref a1), (.ref a2)] below meth c s₁ [] 0 0 := Stand.of_body Bd
  have e0 : s₁.heap = h0 := by rw [← hh, Bd.state]; rfl
  have N0 := Fr.nil n0
  have pre0 := own_pre (tb := p.tables) (e := e) (bl := below) (s := s₁) (ef_19 m a1 a2)
  have Y0 : s.Since s.vm h0.size := (State.WarmedH.refl s).since h0.size
  have Yk0 : h0.size ≤ h0.size := Nat.le_refl _
  have CR0 : CHr Z own_EL s.vm h0 s.vm h0 := CHr.refl hCH
  have hEL := own_EW hw
  have hSA := own_SA hw
  have K0 := Keep.refl h0 [sb, arr]
  obtain ⟨cq1, kq1, q1a, q1b, q1c⟩ := isOf hZ e0 E_a2
  obtain ⟨_, _, ⟨T1, L1, k1, n1⟩, -, X1, ⟨Lc1, hQ1, l1, y1, z1⟩, st1⟩ := X0.virtualBack hx (y := m_3) (z := m_3) hown (mvT hZ (tw hw 62 rfl)) (mvT hZ (tw hw 63 rfl)) (notFace_of_selects (args := #[]) (mvT hZ (tw hw 65 rfl))) (mvT hZ (tw hw 65 rfl)) (mvT hZ (tw hw 64 rfl)) (by decide) (backOf (W := 0) (rm11_n l Z a0 hw [] a2 sv (2 : Int32) us ks h0 n0 O0 (by decide) E_a2 F_coder_a2 F_value_a2 A_sv) hZ (tw hw 66 rfl) (tw hw 3 rfl) (by decide) (by decide)) q1a q1c (g := (mkF m 1 #[Rf a1, Rf a2] [(.ref a2)])) rfl (by rw [hml]; rfl) (Steps.refl _) (argsL := []) (rest := []) (lenOf pd_8 rfl) rfl (w0 rfl) (hb hby d10_1) (fun _ _ => ⟨rfl, e0, (by decide : 0 + 0 ≤ _), (by decide : 0 + 0 ≤ _)⟩)
  dsimp only [Pt.U, Pt.locs, Pt.cells, Pt.slots] at X1 l1 y1 z1 st1 hQ1
  subst l1 y1 z1
  obtain ⟨rfl, N1q, e1⟩ := hQ1
  have N1 := Fr.app N0 N1q
  obtain ⟨T2, X2, e2, st2⟩ := getF X1 hx hZ hown (host := "") (Or.inl (tw hw 55 rfl)) Via.refl e1 F_text_a1 (g := (mkF m 8 #[Rf a1, Rf a2] [(.ref a1)])) rfl rfl (hb hby d10_8)
  obtain ⟨sa3, T3, h3, k3, sb3, kb3, X3, e3, E3, Y3, Yk3, hZ3, hown3, A3, Fc3, Fv3, V3, la3, lb3, C3, Lt3, SF3, st3⟩ := ldcCH X2 hx hZ hown (tw hw 67 rfl) hSA e2 Y0 Yk0 hEL (own_mem (by decide)) CR0.1 (vs := [(.int (32 : Int32)), (.int (32 : Int32)), (.int (32 : Int32)), (.int (32 : Int32))]) (z := (4 : Int32)) (by decide) (by decide) (by decide) (g := (mkF m 11 #[Rf a1, Rf a2] [(.ref sb)])) rfl (hb hby d10_11) (n := 16) (by decide) (by decide) (by decide) (by decide)
  have O4 := O0.ext E3
  have K3 := K0.ext E3
  have CR5 := CR0.trans (C3)
  obtain ⟨T6, X6, e6, st6⟩ := getF X3 hx hZ3 hown3 (host := "") (Or.inl (tw hw 70 rfl)) Via.refl e3 (F_depth_a1.ext E3) (g := (mkF m 14 #[Rf a1, Rf a2] [(.ref a1), (.ref sa3), (.ref sb)])) rfl rfl (hb hby d10_14)
  obtain ⟨cq7, kq7, q7a, q7b, q7c⟩ := isOf hZ3 e6 A3
  obtain ⟨_, _, ⟨T7, L7, k7, n7⟩, -, X7, Y7, G7, ⟨Lc7, hQ7, l7, y7, z7, C7⟩, st7⟩ := X6.virtualBackS hx (y := m_32) (z := m_32) hown3 (mvT hZ3 (tw hw 72 rfl)) (mvT hZ3 (tw hw 73 rfl)) (notFace_of_selects (args := #[]) (mvT hZ3 (tw hw 75 rfl))) (mvT hZ3 (tw hw 75 rfl)) (mvT hZ3 (tw hw 74 rfl)) (by decide) (backOfSH (W := 1) (rm12_0 l Z a0 hw [] sa3 sb3 s4 kb3 h3 n0 O4 A3 Fc3 Fv3 V3) hZ3 (tw hw 76 rfl) (tw hw 3 rfl) (by decide) (by decide) hEL CR5.1) q7a q7c (g := (mkF m 17 #[Rf a1, Rf a2] [(.int (0 : Int32)), (.ref sa3), (.ref sb)])) rfl (by rw [hml]; rfl) (Steps.refl _) (argsL := [(.int (0 : Int32))]) (rest := [(.ref sb)]) (lenOf pd_20 rfl) rfl (w0 rfl) (hb hby d10_17) (fun _ _ => ⟨rfl, e6, (by decide : 2 + 2 ≤ _), (by decide : 20 + 4 ≤ _)⟩)
  dsimp only [Pt.U, Pt.locs, Pt.cells, Pt.slots] at X7 l7 y7 z7 st7 hQ7 Y7 G7 C7
  subst l7 y7 z7
  obtain ⟨rs_7, ro_7, ko_7, rfl, N7q, K7q, O7, f7_0, f7_1, f7_2, f7_3⟩ := hQ7
  have N7 := Fr.app N1 N7q
  obtain ⟨X7, Y7, hZ7, hown7⟩ := rebS Y3 (by rw [e6]; exact Yk3) X7 Y7 G7 hZ3 hown3
  have CR8 := CR5.trans (C7)
  have K7 := K3.trans K7q all0
  obtain ⟨cq9, kq9, q9a, q9b, q9c⟩ := isOf hZ7 rfl ((E_sb.ext E3).keep K7q)
  obtain ⟨_, _, ⟨T9, L9, k9, n9⟩, -, X9, ⟨Lc9, hQ9, l9, y9, z9⟩, st9⟩ := X7.virtualBack hx (y := m_18) (z := m_18) hown7 (mvT hZ7 (tw hw 78 rfl)) (mvT hZ7 (tw hw 79 rfl)) (notFace_of_selects (args := #[]) (mvT hZ7 (tw hw 81 rfl))) (mvT hZ7 (tw hw 81 rfl)) (mvT hZ7 (tw hw 80 rfl)) (by decide) (backOf (W := 0) (rm13 l Z a0 hw [] sb rs_7 arr (0 : Int32) 0 z16 ro_7 (0 : Int32) 0 [] zC ka ko_7 T7.heap n0 O7 hCS sC ((E_sb.ext E3).keep K7q) ((F_value_sb.ext E3).keep K7q nin0) ((F_coder_sb.ext E3).keep K7q nin0) ((F_count_sb.ext E3).keep K7q nin0) ((A_arr.ext E3).keep K7q nin0) f7_0 f7_1 f7_2 f7_3 ge_sb ge_arr (Sm.lit (x := (0 : Int32)) (n := 0) (by decide)) (Sm.lit (x := (0 : Int32)) (n := 0) (by decide)) (by decide) rfl) hZ7 (tw hw 82 rfl) (tw hw 39 rfl) (by decide) (by decide)) q9a q9c (g := (mkF m 20 #[Rf a1, Rf a2] [(.ref rs_7), (.ref sb)])) rfl (by rw [hml]; rfl) (Steps.refl _) (argsL := [(.ref rs_7)]) (rest := []) (lenOf pd_21 rfl) rfl (w0 rfl) (hb hby d10_20) (fun _ _ => ⟨rfl, rfl, (by decide : 4 + 0 ≤ _), (by decide : 24 + 0 ≤ _)⟩)
  dsimp only [Pt.U, Pt.locs, Pt.cells, Pt.slots] at X9 l9 y9 z9 st9 hQ9
  subst l9 y9 z9
  obtain ⟨rfl, N9q, K9q, O9, f9_0, f9_1, f9_2, f9_3⟩ := hQ9
  have N9 := Fr.app N7 N9q
  have CR10 := CR8.trans (CHr.keep K9q (allS (Safe.exa hZ7.alike ((E_sb.ext E3).keep K7q) (by decide) (by decide)) (allS (C7.safe (A_arr.ext E3).lt (C3.safe A_arr.lt hSf)) all0)) CR8.1)
  have Sf9_arr := (Safe.keep K9q (allS (Safe.exa hZ7.alike ((E_sb.ext E3).keep K7q) (by decide) (by decide)) (allS (C7.safe (A_arr.ext E3).lt (C3.safe A_arr.lt hSf)) all0)) CR8.1 (C7.safe (A_arr.ext E3).lt (C3.safe A_arr.lt hSf)))
  have K9 := K7.trans K9q (allS (Or.inl (List.mem_of_getElem? (i := 0) rfl)) (allS (Or.inl (List.mem_of_getElem? (i := 1) rfl)) all0))
  obtain ⟨cq11, kq11, q11a, q11b, q11c⟩ := isOf hZ7 rfl (((E_sb.ext E3).keep K7q).keep K9q)
  obtain ⟨_, _, ⟨T11, L11, k11, n11⟩, -, X11, ⟨Lc11, hQ11, l11, y11, z11⟩, st11⟩ := X9.virtualBack hx (y := m_18) (z := m_18) hown7 (mvT hZ7 (tw hw 78 rfl)) (mvT hZ7 (tw hw 79 rfl)) (notFace_of_selects (args := #[]) (mvT hZ7 (tw hw 81 rfl))) (mvT hZ7 (tw hw 81 rfl)) (mvT hZ7 (tw hw 80 rfl)) (by decide) (backOf (W := 0) (rm13 l Z a0 hw [] sb a2 arr ((0 : Int32) + (0 : Int32)) 0 (cpy z16 0 [] 0 0) sv (2 : Int32) 2 us zC ka ks T9.heap n0 O9 hCS sC (((E_sb.ext E3).keep K7q).keep K9q) f9_0 f9_1 f9_2 f9_3 (((E_a2.ext E3).keep K7q).keep K9q) (((F_coder_a2.ext E3).keep K7q nin0).keep K9q (ninS (Exa.ne E_a2 E_sb (by decide)) (ninS (Exa.neArv (((E_a2.ext E3).keep K7q).keep K9q) f9_3 (tw hw 2 rfl)) nin0))) (((F_value_a2.ext E3).keep K7q nin0).keep K9q (ninS (Exa.ne E_a2 E_sb (by decide)) (ninS (Exa.neArv (((E_a2.ext E3).keep K7q).keep K9q) f9_3 (tw hw 2 rfl)) nin0))) (((A_sv.ext E3).keep K7q nin0).keep K9q (ninS (Ne.symm (Exa.neArv E_sb A_sv (tw hw 38 rfl))) (ninS h_ne nin0))) ge_sb ge_arr (Sm.lit (x := ((0 : Int32) + (0 : Int32))) (n := 0) (by decide)) (Sm.lit (x := (2 : Int32)) (n := 2) (by decide)) (by decide) (own_cpyl rfl (by decide))) hZ7 (tw hw 82 rfl) (tw hw 39 rfl) (by decide) (by decide)) q11a q11c (g := (mkF m 24 #[Rf a1, Rf a2] [(.ref a2), (.ref sb)])) rfl (by rw [hml]; rfl) (Steps.refl _) (argsL := [(.ref a2)]) (rest := []) (lenOf pd_21 rfl) rfl (w0 rfl) (hb hby d10_24) (fun _ _ => ⟨rfl, rfl, (by decide : 4 + 0 ≤ _), (by decide : 24 + 0 ≤ _)⟩)
  dsimp only [Pt.U, Pt.locs, Pt.cells, Pt.slots] at X11 l11 y11 z11 st11 hQ11
  subst l11 y11 z11
  obtain ⟨rfl, N11q, K11q, O11, f11_0, f11_1, f11_2, f11_3⟩ := hQ11
  have N11 := Fr.app N9 N11q
  have CR12 := CR10.trans (CHr.keep K11q (allS (Safe.exa hZ7.alike (((E_sb.ext E3).keep K7q).keep K9q) (by decide) (by decide)) (allS Sf9_arr all0)) CR10.1)
  have Sf11_arr := (Safe.keep K11q (allS (Safe.exa hZ7.alike (((E_sb.ext E3).keep K7q).keep K9q) (by decide) (by decide)) (allS Sf9_arr all0)) CR10.1 Sf9_arr)
  have K11 := K9.trans K11q (allS (Or.inl (List.mem_of_getElem? (i := 0) rfl)) (allS (Or.inl (List.mem_of_getElem? (i := 1) rfl)) all0))
  obtain ⟨T13, X13, e13, st13⟩ := getF X11 hx hZ7 hown7 (host := "") (Or.inl (tw hw 55 rfl)) Via.refl rfl ((((F_text_a1.ext E3).keep K7q nin0).keep K9q (ninS (Exa.ne E_a1 E_sb (by decide)) (ninS (Exa.neArv ((((E_a1.ext E3).keep K7q).keep K9q).keep K11q) f11_3 (tw hw 31 rfl)) nin0))).keep K11q (ninS (Exa.ne E_a1 E_sb (by decide)) (ninS (Exa.neArv ((((E_a1.ext E3).keep K7q).keep K9q).keep K11q) f11_3 (tw hw 31 rfl)) nin0))) (g := (mkF m 29 #[Rf a1, Rf a2] [(.ref a1)])) rfl rfl (hb hby d10_29)
  obtain ⟨cq14, kq14, q14a, q14b, q14c⟩ := isOf hZ7 e13 ((((E_sb.ext E3).keep K7q).keep K9q).keep K11q)
  obtain ⟨_, _, ⟨T14, L14, k14, n14⟩, -, X14, ⟨Lc14, hQ14, l14, y14, z14⟩, st14⟩ := X13.virtualBack hx (y := m_21) (z := m_21) hown7 (mvT hZ7 (tw hw 125 rfl)) (mvT hZ7 (tw hw 126 rfl)) (notFace_of_selects (args := #[]) (mvT hZ7 (tw hw 128 rfl))) (mvT hZ7 (tw hw 128 rfl)) (mvT hZ7 (tw hw 127 rfl)) (by decide) (backOf (W := 0) (rm21 l Z a0 hw [] sb (10 : Int32) arr (((0 : Int32) + (0 : Int32)) + (2 : Int32)) 2 (cpy (cpy z16 0 [] 0 0) 0 us 0 2) zC ka T11.heap n0 O11 hCS sC ((((E_sb.ext E3).keep K7q).keep K9q).keep K11q) f11_0 f11_1 f11_2 f11_3 ge_sb ge_arr (Sm.lit (x := (((0 : Int32) + (0 : Int32)) + (2 : Int32))) (n := 2) (by decide)) (by decide) (own_cpyl (own_cpyl rfl (by decide)) (by decide)) (by decide)) hZ7 (tw hw 129 rfl) (tw hw 39 rfl) (by decide) (by decide)) q14a q14c (g := (mkF m 34 #[Rf a1, Rf a2] [(.int (10 : Int32)), (.ref sb)])) rfl (by rw [hml]; rfl) (Steps.refl _) (argsL := [(.int (10 : Int32))]) (rest := []) (lenOf pd_22 rfl) rfl (w0 rfl) (hb hby d10_34) (fun _ _ => ⟨rfl, e13, (by decide : 4 + 0 ≤ _), (by decide : 24 + 0 ≤ _)⟩)
  dsimp only [Pt.U, Pt.locs, Pt.cells, Pt.slots] at X14 l14 y14 z14 st14 hQ14
  subst l14 y14 z14
  obtain ⟨rfl, N14q, K14q, O14, f14_0, f14_1, f14_2, f14_3⟩ := hQ14
  have N14 := Fr.app N11 N14q
  have CR15 := CR12.trans (CHr.keep K14q (allS (Safe.exa hZ7.alike ((((E_sb.ext E3).keep K7q).keep K9q).keep K11q) (by decide) (by decide)) (allS Sf11_arr all0)) CR12.1)
  have Sf14_arr := (Safe.keep K14q (allS (Safe.exa hZ7.alike ((((E_sb.ext E3).keep K7q).keep K9q).keep K11q) (by decide) (by decide)) (allS Sf11_arr all0)) CR12.1 Sf11_arr)
  have K14 := K11.trans K14q (allS (Or.inl (List.mem_of_getElem? (i := 0) rfl)) (allS (Or.inl (List.mem_of_getElem? (i := 1) rfl)) all0))
  have sg16 : SG p.tables e below (T14.setTop (mkF m 39 #[Rf a1, Rf a2] [(.ref a1)])) (s₁.setTop (mkF m 0 #[Rf a1, Rf a2] [])) := by
    intro target kt
    show Steps _ _ _ (s₁.setTop (mkF m 0 #[Rf a1, Rf a2] [])) _
    refine XS.aloadN X0.here hx rfl (hb hby d10_0) rfl rfl ?_
    refine st1.trans ?_
    refine XS.ifNo X1.here hx rfl (hb hby d10_4) rfl ((if0 _ _).trans (teq (by decide : (0 : Int32) = (0 : Int32))).2) ?_
    refine XS.aloadN X1.here hx rfl (hb hby d10_7) rfl rfl ?_
    refine st2 _ ?_
    refine st3 _ ?_
    refine XS.aloadN X3.here hx rfl (hb hby d10_13) rfl rfl ?_
    refine st6 _ ?_
    refine st7.trans ?_
    refine st9.trans ?_
    refine XS.aloadN X9.here hx rfl (hb hby d10_23) rfl rfl ?_
    refine st11.trans ?_
    refine XS.pop X11.here hx rfl (hb hby d10_27) rfl rfl ?_
    refine XS.aloadN X11.here hx rfl (hb hby d10_28) rfl rfl ?_
    refine st13 _ ?_
    refine XS.bipush X13.here hx rfl (hb hby d10_32) ?_
    refine st14.trans ?_
    refine XS.pop X14.here hx rfl (hb hby d10_37) rfl rfl ?_
    refine XS.aloadN X14.here hx rfl (hb hby d10_38) rfl rfl ?_
    exact kt
  obtain ⟨fs, hr, hrun, hended, hRW⟩ := X14.leaveW Y7 (show _ ≤ T14.heap.size by exact (Nat.le_trans (Nat.le_trans (Nat.le_trans (Nat.le_refl _) K9q.1) K11q.1) K14q.1)) (v := some (.ref a1)) (fun h => by rw [Bd.returns] at h; cases h)
  refine ⟨_, _, pre0 _ (sg16 _ (?_)), hrun, hended, _, _, rfl, ?_, (by rw [hh]; show CHr Z own_EL s.vm h0 T14.vm T14.heap; exact CR15.trans (CHv.at X14 hZ7 hEL CR15.1)), hRW.1, hRW.2.1, hRW.2.2.1, hRW.2.2.2.mono (by decide) (by decide)⟩
  · show Steps _ _ _ (T14.setTop (mkF m 39 #[Rf a1, Rf a2] [(.ref a1)])) _
    jvm_step X14.here [X14.here.top, hx, (hb hby d10_39), X14.method', Bd.returns, Value.isRef, FieldType.isReference]
    first | (intro acts; rw [hr _ acts rfl rfl rfl]) | rw [hr _ _ rfl rfl rfl]
    exact Steps.refl _
  · show Q10_02 Z a1 a2 sb arr sv us zC ka ks h0 n0 _ T14.heap _
    exact ⟨rfl, N14, K14, O14, f14_0, f14_1, (own_fi (by decide) f14_2), f14_3⟩
def Q10_11 (Z : State) (a1 : Addr) (a2 : Addr) (sb : Addr) (arr : Addr) (sv : Addr) (us : List Value) (zC : Int32) (ka : ClassId) (ks : ClassId) (h0 : Heap) (n0 : Nat) (v : Option Value) (h : Heap) (L : List Loc) : Prop := v = some (.ref a1) ∧ Fr n0 L ∧ Keep h0 h [sb, arr] ∧ Old Z n0 h ∧ Fld Z h sb "java/lang/AbstractStringBuilder" "value" "[B" (.ref arr) ∧ Fld Z h sb "java/lang/AbstractStringBuilder" "coder" "B" (.int (0 : Int32)) ∧ Fld Z h sb "java/lang/AbstractStringBuilder" "count" "I" (.int (6 : Int32)) ∧ Arv Z h arr ka .byte (16 : Int32) ((cpy (cpy z16 0 s4 0 4) 4 us 0 1).set 5 (.int ((10 : Int32).toInt8.toInt32.toInt8.toInt32))) (.int (0 : Int32))
theorem rm10_11 (l : Launch) (Z : State) (a0 : Array Value) (hw : ∀ d ∈ tables_1, d.before a0 Z = true) (ws : List Jvm.Cond) (a1 : Addr) (a2 : Addr) (sb : Addr) (arr : Addr) (sv : Addr) (us : List Value) (zC : Int32) (ka : ClassId) (ks : ClassId) (h0 : Heap) (n0 : Nat) (O0 : Old Z n0 h0) (sC : TS_0 Z zC) (E_a1 : Exa Z h0 a1 "com/example/tetrad/tetrad/generate/SourceText") (F_text_a1 : Fld Z h0 a1 "com/example/tetrad/tetrad/generate/SourceText" "text" "Ljava/lang/StringBuilder;" (.ref sb)) (F_depth_a1 : Fld Z h0 a1 "com/example/tetrad/tetrad/generate/SourceText" "depth" "I" (.int (1 : Int32))) (E_sb : Exa Z h0 sb "java/lang/StringBuilder") (F_value_sb : Fld Z h0 sb "java/lang/AbstractStringBuilder" "value" "[B" (.ref arr)) (F_coder_sb : Fld Z h0 sb "java/lang/AbstractStringBuilder" "coder" "B" (.int (0 : Int32))) (F_count_sb : Fld Z h0 sb "java/lang/AbstractStringBuilder" "count" "I" (.int (0 : Int32))) (A_arr : Arv Z h0 arr ka .byte (16 : Int32) z16 (.int (0 : Int32))) (E_a2 : Exa Z h0 a2 "java/lang/String") (F_coder_a2 : Fld Z h0 a2 "java/lang/String" "coder" "B" (.int (0 : Int32))) (F_value_a2 : Fld Z h0 a2 "java/lang/String" "value" "[B" (.ref sv)) (A_sv : Arv Z h0 sv ks .byte (1 : Int32) us (.int (0 : Int32))) (ge_sb : n0 ≤ sb) (ge_arr : n0 ≤ arr) (h_ne : sv ≠ arr) (hCS : ¬ zC = 0) :
    MetFree l m_33 (head1 (Jvm.Cond.code m_33 prog_51_method_2_code 2 (some (.object "com/example/tetrad/tetrad/generate/SourceText")) :: ws) (rk 5 2 20 96)) (fun a U => a = #[(.ref a1), (.ref a2)] ∧ Z.Warmed39 U.vm ∧ U.heap = h0 ∧ CHv Z own_EL U.vm h0 ∧ Safe Z own_EL U.vm h0 arr) (fun _ _ _ _ _ => True) (fun _ U o U' => ∃ v L, o = .returned v ∧ Q10_11 Z a1 a2 sb arr sv us zC ka ks h0 n0 v U'.heap L ∧ CHr Z own_EL U.vm U.heap U'.vm U'.heap ∧ ReturnedEndW U o U' L (rk 5 2 20 96).cells (rk 5 2 20 96).slots) := by
  refine MetFree.of_bodySF (plainFor_of_name pn_3) hisR ?_
  intro p e s m args below meth c s₁ Bd hml0 hP hK
  obtain ⟨rfl, hZ, hh, hCH, hSf⟩ := hP
  have hx := Bd.exec
  have hby := Bd.bytes
  have hml : c.maxLocals = 2 := hml0
  have hown : s.vm.findClass "com/example/tetrad/tetrad/generate/SourceText" = some m.cls := findClass_of_methodNamed Bd.named
  have X0 : Stand p l e (rk 5 2 20 96) (s.setVm s.vm) m #[(.ref a1), (.ref a2)] below meth c s₁ [] 0 0 := Stand.of_body Bd
  have e0 : s₁.heap = h0 := by rw [← hh, Bd.state]; rfl
  have N0 := Fr.nil n0
  have pre0 := own_pre (tb := p.tables) (e := e) (bl := below) (s := s₁) (ef_19 m a1 a2)
  have Y0 : s.Since s.vm h0.size := (State.WarmedH.refl s).since h0.size
  have Yk0 : h0.size ≤ h0.size := Nat.le_refl _
  have CR0 : CHr Z own_EL s.vm h0 s.vm h0 := CHr.refl hCH
  have hEL := own_EW hw
  have hSA := own_SA hw
  have K0 := Keep.refl h0 [sb, arr]
  obtain ⟨cq1, kq1, q1a, q1b, q1c⟩ := isOf hZ e0 E_a2
  obtain ⟨_, _, ⟨T1, L1, k1, n1⟩, -, X1, ⟨Lc1, hQ1, l1, y1, z1⟩, st1⟩ := X0.virtualBack hx (y := m_3) (z := m_3) hown (mvT hZ (tw hw 62 rfl)) (mvT hZ (tw hw 63 rfl)) (notFace_of_selects (args := #[]) (mvT hZ (tw hw 65 rfl))) (mvT hZ (tw hw 65 rfl)) (mvT hZ (tw hw 64 rfl)) (by decide) (backOf (W := 0) (rm11_n l Z a0 hw [] a2 sv (1 : Int32) us ks h0 n0 O0 (by decide) E_a2 F_coder_a2 F_value_a2 A_sv) hZ (tw hw 66 rfl) (tw hw 3 rfl) (by decide) (by decide)) q1a q1c (g := (mkF m 1 #[Rf a1, Rf a2] [(.ref a2)])) rfl (by rw [hml]; rfl) (Steps.refl _) (argsL := []) (rest := []) (lenOf pd_8 rfl) rfl (w0 rfl) (hb hby d10_1) (fun _ _ => ⟨rfl, e0, (by decide : 0 + 0 ≤ _), (by decide : 0 + 0 ≤ _)⟩)
  dsimp only [Pt.U, Pt.locs, Pt.cells, Pt.slots] at X1 l1 y1 z1 st1 hQ1
  subst l1 y1 z1
  obtain ⟨rfl, N1q, e1⟩ := hQ1
  have N1 := Fr.app N0 N1q
  obtain ⟨T2, X2, e2, st2⟩ := getF X1 hx hZ hown (host := "") (Or.inl (tw hw 55 rfl)) Via.refl e1 F_text_a1 (g := (mkF m 8 #[Rf a1, Rf a2] [(.ref a1)])) rfl rfl (hb hby d10_8)
  obtain ⟨sa3, T3, h3, k3, sb3, kb3, X3, e3, E3, Y3, Yk3, hZ3, hown3, A3, Fc3, Fv3, V3, la3, lb3, C3, Lt3, SF3, st3⟩ := ldcCH X2 hx hZ hown (tw hw 67 rfl) hSA e2 Y0 Yk0 hEL (own_mem (by decide)) CR0.1 (vs := [(.int (32 : Int32)), (.int (32 : Int32)), (.int (32 : Int32)), (.int (32 : Int32))]) (z := (4 : Int32)) (by decide) (by decide) (by decide) (g := (mkF m 11 #[Rf a1, Rf a2] [(.ref sb)])) rfl (hb hby d10_11) (n := 16) (by decide) (by decide) (by decide) (by decide)
  have O4 := O0.ext E3
  have K3 := K0.ext E3
  have CR5 := CR0.trans (C3)
  obtain ⟨T6, X6, e6, st6⟩ := getF X3 hx hZ3 hown3 (host := "") (Or.inl (tw hw 70 rfl)) Via.refl e3 (F_depth_a1.ext E3) (g := (mkF m 14 #[Rf a1, Rf a2] [(.ref a1), (.ref sa3), (.ref sb)])) rfl rfl (hb hby d10_14)
  obtain ⟨cq7, kq7, q7a, q7b, q7c⟩ := isOf hZ3 e6 A3
  obtain ⟨_, _, ⟨T7, L7, k7, n7⟩, -, X7, ⟨Lc7, hQ7, l7, y7, z7⟩, st7⟩ := X6.virtualBack hx (y := m_32) (z := m_32) hown3 (mvT hZ3 (tw hw 72 rfl)) (mvT hZ3 (tw hw 73 rfl)) (notFace_of_selects (args := #[]) (mvT hZ3 (tw hw 75 rfl))) (mvT hZ3 (tw hw 75 rfl)) (mvT hZ3 (tw hw 74 rfl)) (by decide) (backOf (W := 1) (rm12_1 l Z a0 hw [] sa3 h3 n0 O4 ) hZ3 (tw hw 76 rfl) (tw hw 3 rfl) (by decide) (by decide)) q7a q7c (g := (mkF m 17 #[Rf a1, Rf a2] [(.int (1 : Int32)), (.ref sa3), (.ref sb)])) rfl (by rw [hml]; rfl) (Steps.refl _) (argsL := [(.int (1 : Int32))]) (rest := [(.ref sb)]) (lenOf pd_20 rfl) rfl (w0 rfl) (hb hby d10_17) (fun _ _ => ⟨rfl, e6, (by decide : 2 + 0 ≤ _), (by decide : 20 + 0 ≤ _)⟩)
  dsimp only [Pt.U, Pt.locs, Pt.cells, Pt.slots] at X7 l7 y7 z7 st7 hQ7
  subst l7 y7 z7
  obtain ⟨rfl, N7q, e7⟩ := hQ7
  have N7 := Fr.app N1 N7q
  obtain ⟨cq8, kq8, q8a, q8b, q8c⟩ := isOf hZ3 e7 (E_sb.ext E3)
  obtain ⟨_, _, ⟨T8, L8, k8, n8⟩, -, X8, ⟨Lc8, hQ8, l8, y8, z8⟩, st8⟩ := X7.virtualBack hx (y := m_18) (z := m_18) hown3 (mvT hZ3 (tw hw 78 rfl)) (mvT hZ3 (tw hw 79 rfl)) (notFace_of_selects (args := #[]) (mvT hZ3 (tw hw 81 rfl))) (mvT hZ3 (tw hw 81 rfl)) (mvT hZ3 (tw hw 80 rfl)) (by decide) (backOf (W := 0) (rm13 l Z a0 hw [] sb sa3 arr (0 : Int32) 0 z16 sb3 (4 : Int32) 4 s4 zC ka kb3 h3 n0 O4 hCS sC (E_sb.ext E3) (F_value_sb.ext E3) (F_coder_sb.ext E3) (F_count_sb.ext E3) (A_arr.ext E3) A3 Fc3 Fv3 V3 ge_sb ge_arr (Sm.lit (x := (0 : Int32)) (n := 0) (by decide)) (Sm.lit (x := (4 : Int32)) (n := 4) (by decide)) (by decide) rfl) hZ3 (tw hw 82 rfl) (tw hw 39 rfl) (by decide) (by decide)) q8a q8c (g := (mkF m 20 #[Rf a1, Rf a2] [(.ref sa3), (.ref sb)])) rfl (by rw [hml]; rfl) (Steps.refl _) (argsL := [(.ref sa3)]) (rest := []) (lenOf pd_21 rfl) rfl (w0 rfl) (hb hby d10_20) (fun _ _ => ⟨rfl, e7, (by decide : 2 + 0 ≤ _), (by decide : 20 + 0 ≤ _)⟩)
  dsimp only [Pt.U, Pt.locs, Pt.cells, Pt.slots] at X8 l8 y8 z8 st8 hQ8
  subst l8 y8 z8
  obtain ⟨rfl, N8q, K8q, O8, f8_0, f8_1, f8_2, f8_3⟩ := hQ8
  have N8 := Fr.app N7 N8q
  have CR9 := CR5.trans (CHr.keep K8q (allS (Safe.exa hZ3.alike (E_sb.ext E3) (by decide) (by decide)) (allS (C3.safe A_arr.lt hSf) all0)) CR5.1)
  have Sf8_arr := (Safe.keep K8q (allS (Safe.exa hZ3.alike (E_sb.ext E3) (by decide) (by decide)) (allS (C3.safe A_arr.lt hSf) all0)) CR5.1 (C3.safe A_arr.lt hSf))
  have K8 := K3.trans K8q (allS (Or.inl (List.mem_of_getElem? (i := 0) rfl)) (allS (Or.inl (List.mem_of_getElem? (i := 1) rfl)) all0))
  obtain ⟨cq10, kq10, q10a, q10b, q10c⟩ := isOf hZ3 rfl ((E_sb.ext E3).keep K8q)
  obtain ⟨_, _, ⟨T10, L10, k10, n10⟩, -, X10, ⟨Lc10, hQ10, l10, y10, z10⟩, st10⟩ := X8.virtualBack hx (y := m_18) (z := m_18) hown3 (mvT hZ3 (tw hw 78 rfl)) (mvT hZ3 (tw hw 79 rfl)) (notFace_of_selects (args := #[]) (mvT hZ3 (tw hw 81 rfl))) (mvT hZ3 (tw hw 81 rfl)) (mvT hZ3 (tw hw 80 rfl)) (by decide) (backOf (W := 0) (rm13 l Z a0 hw [] sb a2 arr ((0 : Int32) + (4 : Int32)) 4 (cpy z16 0 s4 0 4) sv (1 : Int32) 1 us zC ka ks T8.heap n0 O8 hCS sC ((E_sb.ext E3).keep K8q) f8_0 f8_1 f8_2 f8_3 ((E_a2.ext E3).keep K8q) ((F_coder_a2.ext E3).keep K8q (ninS (Exa.ne E_a2 E_sb (by decide)) (ninS (Exa.neArv ((E_a2.ext E3).keep K8q) f8_3 (tw hw 2 rfl)) nin0))) ((F_value_a2.ext E3).keep K8q (ninS (Exa.ne E_a2 E_sb (by decide)) (ninS (Exa.neArv ((E_a2.ext E3).keep K8q) f8_3 (tw hw 2 rfl)) nin0))) ((A_sv.ext E3).keep K8q (ninS (Ne.symm (Exa.neArv E_sb A_sv (tw hw 38 rfl))) (ninS h_ne nin0))) ge_sb ge_arr (Sm.lit (x := ((0 : Int32) + (4 : Int32))) (n := 4) (by decide)) (Sm.lit (x := (1 : Int32)) (n := 1) (by decide)) (by decide) (own_cpyl rfl (by decide))) hZ3 (tw hw 82 rfl) (tw hw 39 rfl) (by decide) (by decide)) q10a q10c (g := (mkF m 24 #[Rf a1, Rf a2] [(.ref a2), (.ref sb)])) rfl (by rw [hml]; rfl) (Steps.refl _) (argsL := [(.ref a2)]) (rest := []) (lenOf pd_21 rfl) rfl (w0 rfl) (hb hby d10_24) (fun _ _ => ⟨rfl, rfl, (by decide : 2 + 0 ≤ _), (by decide : 20 + 0 ≤ _)⟩)
  dsimp only [Pt.U, Pt.locs, Pt.cells, Pt.slots] at X10 l10 y10 z10 st10 hQ10
  subst l10 y10 z10
  obtain ⟨rfl, N10q, K10q, O10, f10_0, f10_1, f10_2, f10_3⟩ := hQ10
  have N10 := Fr.app N8 N10q
  have CR11 := CR9.trans (CHr.keep K10q (allS (Safe.exa hZ3.alike ((E_sb.ext E3).keep K8q) (by decide) (by decide)) (allS Sf8_arr all0)) CR9.1)
  have Sf10_arr := (Safe.keep K10q (allS (Safe.exa hZ3.alike ((E_sb.ext E3).keep K8q) (by decide) (by decide)) (allS Sf8_arr all0)) CR9.1 Sf8_arr)
  have K10 := K8.trans K10q (allS (Or.inl (List.mem_of_getElem? (i := 0) rfl)) (allS (Or.inl (List.mem_of_getElem? (i := 1) rfl)) all0))
  obtain ⟨T12, X12, e12, st12⟩ := getF X10 hx hZ3 hown3 (host := "") (Or.inl (tw hw 55 rfl)) Via.refl rfl (((F_text_a1.ext E3).keep K8q (ninS (Exa.ne E_a1 E_sb (by decide)) (ninS (Exa.neArv (((E_a1.ext E3).keep K8q).keep K10q) f10_3 (tw hw 31 rfl)) nin0))).keep K10q (ninS (Exa.ne E_a1 E_sb (by decide)) (ninS (Exa.neArv (((E_a1.ext E3).keep K8q).keep K10q) f10_3 (tw hw 31 rfl)) nin0))) (g := (mkF m 29 #[Rf a1, Rf a2] [(.ref a1)])) rfl rfl (hb hby d10_29)
  obtain ⟨cq13, kq13, q13a, q13b, q13c⟩ := isOf hZ3 e12 (((E_sb.ext E3).keep K8q).keep K10q)
  obtain ⟨_, _, ⟨T13, L13, k13, n13⟩, -, X13, ⟨Lc13, hQ13, l13, y13, z13⟩, st13⟩ := X12.virtualBack hx (y := m_21) (z := m_21) hown3 (mvT hZ3 (tw hw 125 rfl)) (mvT hZ3 (tw hw 126 rfl)) (notFace_of_selects (args := #[]) (mvT hZ3 (tw hw 128 rfl))) (mvT hZ3 (tw hw 128 rfl)) (mvT hZ3 (tw hw 127 rfl)) (by decide) (backOf (W := 0) (rm21 l Z a0 hw [] sb (10 : Int32) arr (((0 : Int32) + (4 : Int32)) + (1 : Int32)) 5 (cpy (cpy z16 0 s4 0 4) 4 us 0 1) zC ka T10.heap n0 O10 hCS sC (((E_sb.ext E3).keep K8q).keep K10q) f10_0 f10_1 f10_2 f10_3 ge_sb ge_arr (Sm.lit (x := (((0 : Int32) + (4 : Int32)) + (1 : Int32))) (n := 5) (by decide)) (by decide) (own_cpyl (own_cpyl rfl (by decide)) (by decide)) (by decide)) hZ3 (tw hw 129 rfl) (tw hw 39 rfl) (by decide) (by decide)) q13a q13c (g := (mkF m 34 #[Rf a1, Rf a2] [(.int (10 : Int32)), (.ref sb)])) rfl (by rw [hml]; rfl) (Steps.refl _) (argsL := [(.int (10 : Int32))]) (rest := []) (lenOf pd_22 rfl) rfl (w0 rfl) (hb hby d10_34) (fun _ _ => ⟨rfl, e12, (by decide : 2 + 0 ≤ _), (by decide : 20 + 0 ≤ _)⟩)
  dsimp only [Pt.U, Pt.locs, Pt.cells, Pt.slots] at X13 l13 y13 z13 st13 hQ13
  subst l13 y13 z13
  obtain ⟨rfl, N13q, K13q, O13, f13_0, f13_1, f13_2, f13_3⟩ := hQ13
  have N13 := Fr.app N10 N13q
  have CR14 := CR11.trans (CHr.keep K13q (allS (Safe.exa hZ3.alike (((E_sb.ext E3).keep K8q).keep K10q) (by decide) (by decide)) (allS Sf10_arr all0)) CR11.1)
  have Sf13_arr := (Safe.keep K13q (allS (Safe.exa hZ3.alike (((E_sb.ext E3).keep K8q).keep K10q) (by decide) (by decide)) (allS Sf10_arr all0)) CR11.1 Sf10_arr)
  have K13 := K10.trans K13q (allS (Or.inl (List.mem_of_getElem? (i := 0) rfl)) (allS (Or.inl (List.mem_of_getElem? (i := 1) rfl)) all0))
  have sg15 : SG p.tables e below (T13.setTop (mkF m 39 #[Rf a1, Rf a2] [(.ref a1)])) (s₁.setTop (mkF m 0 #[Rf a1, Rf a2] [])) := by
    intro target kt
    show Steps _ _ _ (s₁.setTop (mkF m 0 #[Rf a1, Rf a2] [])) _
    refine XS.aloadN X0.here hx rfl (hb hby d10_0) rfl rfl ?_
    refine st1.trans ?_
    refine XS.ifNo X1.here hx rfl (hb hby d10_4) rfl ((if0 _ _).trans (teq (by decide : (0 : Int32) = (0 : Int32))).2) ?_
    refine XS.aloadN X1.here hx rfl (hb hby d10_7) rfl rfl ?_
    refine st2 _ ?_
    refine st3 _ ?_
    refine XS.aloadN X3.here hx rfl (hb hby d10_13) rfl rfl ?_
    refine st6 _ ?_
    refine st7.trans ?_
    refine st8.trans ?_
    refine XS.aloadN X8.here hx rfl (hb hby d10_23) rfl rfl ?_
    refine st10.trans ?_
    refine XS.pop X10.here hx rfl (hb hby d10_27) rfl rfl ?_
    refine XS.aloadN X10.here hx rfl (hb hby d10_28) rfl rfl ?_
    refine st12 _ ?_
    refine XS.bipush X12.here hx rfl (hb hby d10_32) ?_
    refine st13.trans ?_
    refine XS.pop X13.here hx rfl (hb hby d10_37) rfl rfl ?_
    refine XS.aloadN X13.here hx rfl (hb hby d10_38) rfl rfl ?_
    exact kt
  obtain ⟨fs, hr, hrun, hended, hRW⟩ := X13.leaveW Y3 (show _ ≤ T13.heap.size by exact (Nat.le_trans (Nat.le_trans (Nat.le_trans Yk3 K8q.1) K10q.1) K13q.1)) (v := some (.ref a1)) (fun h => by rw [Bd.returns] at h; cases h)
  refine ⟨_, _, pre0 _ (sg15 _ (?_)), hrun, hended, _, _, rfl, ?_, (by rw [hh]; show CHr Z own_EL s.vm h0 T13.vm T13.heap; exact CR14.trans (CHv.at X13 hZ3 hEL CR14.1)), hRW.1, hRW.2.1, hRW.2.2.1, hRW.2.2.2.mono (by decide) (by decide)⟩
  · show Steps _ _ _ (T13.setTop (mkF m 39 #[Rf a1, Rf a2] [(.ref a1)])) _
    jvm_step X13.here [X13.here.top, hx, (hb hby d10_39), X13.method', Bd.returns, Value.isRef, FieldType.isReference]
    first | (intro acts; rw [hr _ acts rfl rfl rfl]) | rw [hr _ _ rfl rfl rfl]
    exact Steps.refl _
  · show Q10_11 Z a1 a2 sb arr sv us zC ka ks h0 n0 _ T13.heap _
    exact ⟨rfl, N13, K13, O13, f13_0, f13_1, (own_fi (by decide) f13_2), f13_3⟩
def Q10_12 (Z : State) (a1 : Addr) (a2 : Addr) (sb : Addr) (arr : Addr) (sv : Addr) (us : List Value) (zC : Int32) (ka : ClassId) (ks : ClassId) (h0 : Heap) (n0 : Nat) (v : Option Value) (h : Heap) (L : List Loc) : Prop := v = some (.ref a1) ∧ Fr n0 L ∧ Keep h0 h [sb, arr] ∧ Old Z n0 h ∧ Fld Z h sb "java/lang/AbstractStringBuilder" "value" "[B" (.ref arr) ∧ Fld Z h sb "java/lang/AbstractStringBuilder" "coder" "B" (.int (0 : Int32)) ∧ Fld Z h sb "java/lang/AbstractStringBuilder" "count" "I" (.int (7 : Int32)) ∧ Arv Z h arr ka .byte (16 : Int32) ((cpy (cpy z16 0 s4 0 4) 4 us 0 2).set 6 (.int ((10 : Int32).toInt8.toInt32.toInt8.toInt32))) (.int (0 : Int32))
theorem rm10_12 (l : Launch) (Z : State) (a0 : Array Value) (hw : ∀ d ∈ tables_1, d.before a0 Z = true) (ws : List Jvm.Cond) (a1 : Addr) (a2 : Addr) (sb : Addr) (arr : Addr) (sv : Addr) (us : List Value) (zC : Int32) (ka : ClassId) (ks : ClassId) (h0 : Heap) (n0 : Nat) (O0 : Old Z n0 h0) (sC : TS_0 Z zC) (E_a1 : Exa Z h0 a1 "com/example/tetrad/tetrad/generate/SourceText") (F_text_a1 : Fld Z h0 a1 "com/example/tetrad/tetrad/generate/SourceText" "text" "Ljava/lang/StringBuilder;" (.ref sb)) (F_depth_a1 : Fld Z h0 a1 "com/example/tetrad/tetrad/generate/SourceText" "depth" "I" (.int (1 : Int32))) (E_sb : Exa Z h0 sb "java/lang/StringBuilder") (F_value_sb : Fld Z h0 sb "java/lang/AbstractStringBuilder" "value" "[B" (.ref arr)) (F_coder_sb : Fld Z h0 sb "java/lang/AbstractStringBuilder" "coder" "B" (.int (0 : Int32))) (F_count_sb : Fld Z h0 sb "java/lang/AbstractStringBuilder" "count" "I" (.int (0 : Int32))) (A_arr : Arv Z h0 arr ka .byte (16 : Int32) z16 (.int (0 : Int32))) (E_a2 : Exa Z h0 a2 "java/lang/String") (F_coder_a2 : Fld Z h0 a2 "java/lang/String" "coder" "B" (.int (0 : Int32))) (F_value_a2 : Fld Z h0 a2 "java/lang/String" "value" "[B" (.ref sv)) (A_sv : Arv Z h0 sv ks .byte (2 : Int32) us (.int (0 : Int32))) (ge_sb : n0 ≤ sb) (ge_arr : n0 ≤ arr) (h_ne : sv ≠ arr) (hCS : ¬ zC = 0) :
    MetFree l m_33 (head1 (Jvm.Cond.code m_33 prog_51_method_2_code 2 (some (.object "com/example/tetrad/tetrad/generate/SourceText")) :: ws) (rk 5 2 20 96)) (fun a U => a = #[(.ref a1), (.ref a2)] ∧ Z.Warmed39 U.vm ∧ U.heap = h0 ∧ CHv Z own_EL U.vm h0 ∧ Safe Z own_EL U.vm h0 arr) (fun _ _ _ _ _ => True) (fun _ U o U' => ∃ v L, o = .returned v ∧ Q10_12 Z a1 a2 sb arr sv us zC ka ks h0 n0 v U'.heap L ∧ CHr Z own_EL U.vm U.heap U'.vm U'.heap ∧ ReturnedEndW U o U' L (rk 5 2 20 96).cells (rk 5 2 20 96).slots) := by
  refine MetFree.of_bodySF (plainFor_of_name pn_3) hisR ?_
  intro p e s m args below meth c s₁ Bd hml0 hP hK
  obtain ⟨rfl, hZ, hh, hCH, hSf⟩ := hP
  have hx := Bd.exec
  have hby := Bd.bytes
  have hml : c.maxLocals = 2 := hml0
  have hown : s.vm.findClass "com/example/tetrad/tetrad/generate/SourceText" = some m.cls := findClass_of_methodNamed Bd.named
  have X0 : Stand p l e (rk 5 2 20 96) (s.setVm s.vm) m #[(.ref a1), (.ref a2)] below meth c s₁ [] 0 0 := Stand.of_body Bd
  have e0 : s₁.heap = h0 := by rw [← hh, Bd.state]; rfl
  have N0 := Fr.nil n0
  have pre0 := own_pre (tb := p.tables) (e := e) (bl := below) (s := s₁) (ef_19 m a1 a2)
  have Y0 : s.Since s.vm h0.size := (State.WarmedH.refl s).since h0.size
  have Yk0 : h0.size ≤ h0.size := Nat.le_refl _
  have CR0 : CHr Z own_EL s.vm h0 s.vm h0 := CHr.refl hCH
  have hEL := own_EW hw
  have hSA := own_SA hw
  have K0 := Keep.refl h0 [sb, arr]
  obtain ⟨cq1, kq1, q1a, q1b, q1c⟩ := isOf hZ e0 E_a2
  obtain ⟨_, _, ⟨T1, L1, k1, n1⟩, -, X1, ⟨Lc1, hQ1, l1, y1, z1⟩, st1⟩ := X0.virtualBack hx (y := m_3) (z := m_3) hown (mvT hZ (tw hw 62 rfl)) (mvT hZ (tw hw 63 rfl)) (notFace_of_selects (args := #[]) (mvT hZ (tw hw 65 rfl))) (mvT hZ (tw hw 65 rfl)) (mvT hZ (tw hw 64 rfl)) (by decide) (backOf (W := 0) (rm11_n l Z a0 hw [] a2 sv (2 : Int32) us ks h0 n0 O0 (by decide) E_a2 F_coder_a2 F_value_a2 A_sv) hZ (tw hw 66 rfl) (tw hw 3 rfl) (by decide) (by decide)) q1a q1c (g := (mkF m 1 #[Rf a1, Rf a2] [(.ref a2)])) rfl (by rw [hml]; rfl) (Steps.refl _) (argsL := []) (rest := []) (lenOf pd_8 rfl) rfl (w0 rfl) (hb hby d10_1) (fun _ _ => ⟨rfl, e0, (by decide : 0 + 0 ≤ _), (by decide : 0 + 0 ≤ _)⟩)
  dsimp only [Pt.U, Pt.locs, Pt.cells, Pt.slots] at X1 l1 y1 z1 st1 hQ1
  subst l1 y1 z1
  obtain ⟨rfl, N1q, e1⟩ := hQ1
  have N1 := Fr.app N0 N1q
  obtain ⟨T2, X2, e2, st2⟩ := getF X1 hx hZ hown (host := "") (Or.inl (tw hw 55 rfl)) Via.refl e1 F_text_a1 (g := (mkF m 8 #[Rf a1, Rf a2] [(.ref a1)])) rfl rfl (hb hby d10_8)
  obtain ⟨sa3, T3, h3, k3, sb3, kb3, X3, e3, E3, Y3, Yk3, hZ3, hown3, A3, Fc3, Fv3, V3, la3, lb3, C3, Lt3, SF3, st3⟩ := ldcCH X2 hx hZ hown (tw hw 67 rfl) hSA e2 Y0 Yk0 hEL (own_mem (by decide)) CR0.1 (vs := [(.int (32 : Int32)), (.int (32 : Int32)), (.int (32 : Int32)), (.int (32 : Int32))]) (z := (4 : Int32)) (by decide) (by decide) (by decide) (g := (mkF m 11 #[Rf a1, Rf a2] [(.ref sb)])) rfl (hb hby d10_11) (n := 16) (by decide) (by decide) (by decide) (by decide)
  have O4 := O0.ext E3
  have K3 := K0.ext E3
  have CR5 := CR0.trans (C3)
  obtain ⟨T6, X6, e6, st6⟩ := getF X3 hx hZ3 hown3 (host := "") (Or.inl (tw hw 70 rfl)) Via.refl e3 (F_depth_a1.ext E3) (g := (mkF m 14 #[Rf a1, Rf a2] [(.ref a1), (.ref sa3), (.ref sb)])) rfl rfl (hb hby d10_14)
  obtain ⟨cq7, kq7, q7a, q7b, q7c⟩ := isOf hZ3 e6 A3
  obtain ⟨_, _, ⟨T7, L7, k7, n7⟩, -, X7, ⟨Lc7, hQ7, l7, y7, z7⟩, st7⟩ := X6.virtualBack hx (y := m_32) (z := m_32) hown3 (mvT hZ3 (tw hw 72 rfl)) (mvT hZ3 (tw hw 73 rfl)) (notFace_of_selects (args := #[]) (mvT hZ3 (tw hw 75 rfl))) (mvT hZ3 (tw hw 75 rfl)) (mvT hZ3 (tw hw 74 rfl)) (by decide) (backOf (W := 1) (rm12_1 l Z a0 hw [] sa3 h3 n0 O4 ) hZ3 (tw hw 76 rfl) (tw hw 3 rfl) (by decide) (by decide)) q7a q7c (g := (mkF m 17 #[Rf a1, Rf a2] [(.int (1 : Int32)), (.ref sa3), (.ref sb)])) rfl (by rw [hml]; rfl) (Steps.refl _) (argsL := [(.int (1 : Int32))]) (rest := [(.ref sb)]) (lenOf pd_20 rfl) rfl (w0 rfl) (hb hby d10_17) (fun _ _ => ⟨rfl, e6, (by decide : 2 + 0 ≤ _), (by decide : 20 + 0 ≤ _)⟩)
  dsimp only [Pt.U, Pt.locs, Pt.cells, Pt.slots] at X7 l7 y7 z7 st7 hQ7
  subst l7 y7 z7
  obtain ⟨rfl, N7q, e7⟩ := hQ7
  have N7 := Fr.app N1 N7q
  obtain ⟨cq8, kq8, q8a, q8b, q8c⟩ := isOf hZ3 e7 (E_sb.ext E3)
  obtain ⟨_, _, ⟨T8, L8, k8, n8⟩, -, X8, ⟨Lc8, hQ8, l8, y8, z8⟩, st8⟩ := X7.virtualBack hx (y := m_18) (z := m_18) hown3 (mvT hZ3 (tw hw 78 rfl)) (mvT hZ3 (tw hw 79 rfl)) (notFace_of_selects (args := #[]) (mvT hZ3 (tw hw 81 rfl))) (mvT hZ3 (tw hw 81 rfl)) (mvT hZ3 (tw hw 80 rfl)) (by decide) (backOf (W := 0) (rm13 l Z a0 hw [] sb sa3 arr (0 : Int32) 0 z16 sb3 (4 : Int32) 4 s4 zC ka kb3 h3 n0 O4 hCS sC (E_sb.ext E3) (F_value_sb.ext E3) (F_coder_sb.ext E3) (F_count_sb.ext E3) (A_arr.ext E3) A3 Fc3 Fv3 V3 ge_sb ge_arr (Sm.lit (x := (0 : Int32)) (n := 0) (by decide)) (Sm.lit (x := (4 : Int32)) (n := 4) (by decide)) (by decide) rfl) hZ3 (tw hw 82 rfl) (tw hw 39 rfl) (by decide) (by decide)) q8a q8c (g := (mkF m 20 #[Rf a1, Rf a2] [(.ref sa3), (.ref sb)])) rfl (by rw [hml]; rfl) (Steps.refl _) (argsL := [(.ref sa3)]) (rest := []) (lenOf pd_21 rfl) rfl (w0 rfl) (hb hby d10_20) (fun _ _ => ⟨rfl, e7, (by decide : 2 + 0 ≤ _), (by decide : 20 + 0 ≤ _)⟩)
  dsimp only [Pt.U, Pt.locs, Pt.cells, Pt.slots] at X8 l8 y8 z8 st8 hQ8
  subst l8 y8 z8
  obtain ⟨rfl, N8q, K8q, O8, f8_0, f8_1, f8_2, f8_3⟩ := hQ8
  have N8 := Fr.app N7 N8q
  have CR9 := CR5.trans (CHr.keep K8q (allS (Safe.exa hZ3.alike (E_sb.ext E3) (by decide) (by decide)) (allS (C3.safe A_arr.lt hSf) all0)) CR5.1)
  have Sf8_arr := (Safe.keep K8q (allS (Safe.exa hZ3.alike (E_sb.ext E3) (by decide) (by decide)) (allS (C3.safe A_arr.lt hSf) all0)) CR5.1 (C3.safe A_arr.lt hSf))
  have K8 := K3.trans K8q (allS (Or.inl (List.mem_of_getElem? (i := 0) rfl)) (allS (Or.inl (List.mem_of_getElem? (i := 1) rfl)) all0))
  obtain ⟨cq10, kq10, q10a, q10b, q10c⟩ := isOf hZ3 rfl ((E_sb.ext E3).keep K8q)
  obtain ⟨_, _, ⟨T10, L10, k10, n10⟩, -, X10, ⟨Lc10, hQ10, l10, y10, z10⟩, st10⟩ := X8.virtualBack hx (y := m_18) (z := m_18) hown3 (mvT hZ3 (tw hw 78 rfl)) (mvT hZ3 (tw hw 79 rfl)) (notFace_of_selects (args := #[]) (mvT hZ3 (tw hw 81 rfl))) (mvT hZ3 (tw hw 81 rfl)) (mvT hZ3 (tw hw 80 rfl)) (by decide) (backOf (W := 0) (rm13 l Z a0 hw [] sb a2 arr ((0 : Int32) + (4 : Int32)) 4 (cpy z16 0 s4 0 4) sv (2 : Int32) 2 us zC ka ks T8.heap n0 O8 hCS sC ((E_sb.ext E3).keep K8q) f8_0 f8_1 f8_2 f8_3 ((E_a2.ext E3).keep K8q) ((F_coder_a2.ext E3).keep K8q (ninS (Exa.ne E_a2 E_sb (by decide)) (ninS (Exa.neArv ((E_a2.ext E3).keep K8q) f8_3 (tw hw 2 rfl)) nin0))) ((F_value_a2.ext E3).keep K8q (ninS (Exa.ne E_a2 E_sb (by decide)) (ninS (Exa.neArv ((E_a2.ext E3).keep K8q) f8_3 (tw hw 2 rfl)) nin0))) ((A_sv.ext E3).keep K8q (ninS (Ne.symm (Exa.neArv E_sb A_sv (tw hw 38 rfl))) (ninS h_ne nin0))) ge_sb ge_arr (Sm.lit (x := ((0 : Int32) + (4 : Int32))) (n := 4) (by decide)) (Sm.lit (x := (2 : Int32)) (n := 2) (by decide)) (by decide) (own_cpyl rfl (by decide))) hZ3 (tw hw 82 rfl) (tw hw 39 rfl) (by decide) (by decide)) q10a q10c (g := (mkF m 24 #[Rf a1, Rf a2] [(.ref a2), (.ref sb)])) rfl (by rw [hml]; rfl) (Steps.refl _) (argsL := [(.ref a2)]) (rest := []) (lenOf pd_21 rfl) rfl (w0 rfl) (hb hby d10_24) (fun _ _ => ⟨rfl, rfl, (by decide : 2 + 0 ≤ _), (by decide : 20 + 0 ≤ _)⟩)
  dsimp only [Pt.U, Pt.locs, Pt.cells, Pt.slots] at X10 l10 y10 z10 st10 hQ10
  subst l10 y10 z10
  obtain ⟨rfl, N10q, K10q, O10, f10_0, f10_1, f10_2, f10_3⟩ := hQ10
  have N10 := Fr.app N8 N10q
  have CR11 := CR9.trans (CHr.keep K10q (allS (Safe.exa hZ3.alike ((E_sb.ext E3).keep K8q) (by decide) (by decide)) (allS Sf8_arr all0)) CR9.1)
  have Sf10_arr := (Safe.keep K10q (allS (Safe.exa hZ3.alike ((E_sb.ext E3).keep K8q) (by decide) (by decide)) (allS Sf8_arr all0)) CR9.1 Sf8_arr)
  have K10 := K8.trans K10q (allS (Or.inl (List.mem_of_getElem? (i := 0) rfl)) (allS (Or.inl (List.mem_of_getElem? (i := 1) rfl)) all0))
  obtain ⟨T12, X12, e12, st12⟩ := getF X10 hx hZ3 hown3 (host := "") (Or.inl (tw hw 55 rfl)) Via.refl rfl (((F_text_a1.ext E3).keep K8q (ninS (Exa.ne E_a1 E_sb (by decide)) (ninS (Exa.neArv (((E_a1.ext E3).keep K8q).keep K10q) f10_3 (tw hw 31 rfl)) nin0))).keep K10q (ninS (Exa.ne E_a1 E_sb (by decide)) (ninS (Exa.neArv (((E_a1.ext E3).keep K8q).keep K10q) f10_3 (tw hw 31 rfl)) nin0))) (g := (mkF m 29 #[Rf a1, Rf a2] [(.ref a1)])) rfl rfl (hb hby d10_29)
  obtain ⟨cq13, kq13, q13a, q13b, q13c⟩ := isOf hZ3 e12 (((E_sb.ext E3).keep K8q).keep K10q)
  obtain ⟨_, _, ⟨T13, L13, k13, n13⟩, -, X13, ⟨Lc13, hQ13, l13, y13, z13⟩, st13⟩ := X12.virtualBack hx (y := m_21) (z := m_21) hown3 (mvT hZ3 (tw hw 125 rfl)) (mvT hZ3 (tw hw 126 rfl)) (notFace_of_selects (args := #[]) (mvT hZ3 (tw hw 128 rfl))) (mvT hZ3 (tw hw 128 rfl)) (mvT hZ3 (tw hw 127 rfl)) (by decide) (backOf (W := 0) (rm21 l Z a0 hw [] sb (10 : Int32) arr (((0 : Int32) + (4 : Int32)) + (2 : Int32)) 6 (cpy (cpy z16 0 s4 0 4) 4 us 0 2) zC ka T10.heap n0 O10 hCS sC (((E_sb.ext E3).keep K8q).keep K10q) f10_0 f10_1 f10_2 f10_3 ge_sb ge_arr (Sm.lit (x := (((0 : Int32) + (4 : Int32)) + (2 : Int32))) (n := 6) (by decide)) (by decide) (own_cpyl (own_cpyl rfl (by decide)) (by decide)) (by decide)) hZ3 (tw hw 129 rfl) (tw hw 39 rfl) (by decide) (by decide)) q13a q13c (g := (mkF m 34 #[Rf a1, Rf a2] [(.int (10 : Int32)), (.ref sb)])) rfl (by rw [hml]; rfl) (Steps.refl _) (argsL := [(.int (10 : Int32))]) (rest := []) (lenOf pd_22 rfl) rfl (w0 rfl) (hb hby d10_34) (fun _ _ => ⟨rfl, e12, (by decide : 2 + 0 ≤ _), (by decide : 20 + 0 ≤ _)⟩)
  dsimp only [Pt.U, Pt.locs, Pt.cells, Pt.slots] at X13 l13 y13 z13 st13 hQ13
  subst l13 y13 z13
  obtain ⟨rfl, N13q, K13q, O13, f13_0, f13_1, f13_2, f13_3⟩ := hQ13
  have N13 := Fr.app N10 N13q
  have CR14 := CR11.trans (CHr.keep K13q (allS (Safe.exa hZ3.alike (((E_sb.ext E3).keep K8q).keep K10q) (by decide) (by decide)) (allS Sf10_arr all0)) CR11.1)
  have Sf13_arr := (Safe.keep K13q (allS (Safe.exa hZ3.alike (((E_sb.ext E3).keep K8q).keep K10q) (by decide) (by decide)) (allS Sf10_arr all0)) CR11.1 Sf10_arr)
  have K13 := K10.trans K13q (allS (Or.inl (List.mem_of_getElem? (i := 0) rfl)) (allS (Or.inl (List.mem_of_getElem? (i := 1) rfl)) all0))
  have sg15 : SG p.tables e below (T13.setTop (mkF m 39 #[Rf a1, Rf a2] [(.ref a1)])) (s₁.setTop (mkF m 0 #[Rf a1, Rf a2] [])) := by
    intro target kt
    show Steps _ _ _ (s₁.setTop (mkF m 0 #[Rf a1, Rf a2] [])) _
    refine XS.aloadN X0.here hx rfl (hb hby d10_0) rfl rfl ?_
    refine st1.trans ?_
    refine XS.ifNo X1.here hx rfl (hb hby d10_4) rfl ((if0 _ _).trans (teq (by decide : (0 : Int32) = (0 : Int32))).2) ?_
    refine XS.aloadN X1.here hx rfl (hb hby d10_7) rfl rfl ?_
    refine st2 _ ?_
    refine st3 _ ?_
    refine XS.aloadN X3.here hx rfl (hb hby d10_13) rfl rfl ?_
    refine st6 _ ?_
    refine st7.trans ?_
    refine st8.trans ?_
    refine XS.aloadN X8.here hx rfl (hb hby d10_23) rfl rfl ?_
    refine st10.trans ?_
    refine XS.pop X10.here hx rfl (hb hby d10_27) rfl rfl ?_
    refine XS.aloadN X10.here hx rfl (hb hby d10_28) rfl rfl ?_
    refine st12 _ ?_
    refine XS.bipush X12.here hx rfl (hb hby d10_32) ?_
    refine st13.trans ?_
    refine XS.pop X13.here hx rfl (hb hby d10_37) rfl rfl ?_
    refine XS.aloadN X13.here hx rfl (hb hby d10_38) rfl rfl ?_
    exact kt
  obtain ⟨fs, hr, hrun, hended, hRW⟩ := X13.leaveW Y3 (show _ ≤ T13.heap.size by exact (Nat.le_trans (Nat.le_trans (Nat.le_trans Yk3 K8q.1) K10q.1) K13q.1)) (v := some (.ref a1)) (fun h => by rw [Bd.returns] at h; cases h)
  refine ⟨_, _, pre0 _ (sg15 _ (?_)), hrun, hended, _, _, rfl, ?_, (by rw [hh]; show CHr Z own_EL s.vm h0 T13.vm T13.heap; exact CR14.trans (CHv.at X13 hZ3 hEL CR14.1)), hRW.1, hRW.2.1, hRW.2.2.1, hRW.2.2.2.mono (by decide) (by decide)⟩
  · show Steps _ _ _ (T13.setTop (mkF m 39 #[Rf a1, Rf a2] [(.ref a1)])) _
    jvm_step X13.here [X13.here.top, hx, (hb hby d10_39), X13.method', Bd.returns, Value.isRef, FieldType.isReference]
    first | (intro acts; rw [hr _ acts rfl rfl rfl]) | rw [hr _ _ rfl rfl rfl]
    exact Steps.refl _
  · show Q10_12 Z a1 a2 sb arr sv us zC ka ks h0 n0 _ T13.heap _
    exact ⟨rfl, N13, K13, O13, f13_0, f13_1, (own_fi (by decide) f13_2), f13_3⟩
def Q10_21 (Z : State) (a1 : Addr) (a2 : Addr) (sb : Addr) (arr : Addr) (sv : Addr) (us : List Value) (zC : Int32) (ka : ClassId) (ks : ClassId) (h0 : Heap) (n0 : Nat) (v : Option Value) (h : Heap) (L : List Loc) : Prop := v = some (.ref a1) ∧ Fr n0 L ∧ Keep h0 h [sb, arr] ∧ Old Z n0 h ∧ Fld Z h sb "java/lang/AbstractStringBuilder" "value" "[B" (.ref arr) ∧ Fld Z h sb "java/lang/AbstractStringBuilder" "coder" "B" (.int (0 : Int32)) ∧ Fld Z h sb "java/lang/AbstractStringBuilder" "count" "I" (.int (10 : Int32)) ∧ Arv Z h arr ka .byte (16 : Int32) ((cpy (cpy z16 0 (cpy (cpy z16 0 s4 0 4) 4 (cpy z16 0 s4 0 4) 0 4) 0 8) 8 us 0 1).set 9 (.int ((10 : Int32).toInt8.toInt32.toInt8.toInt32))) (.int (0 : Int32))
theorem rm10_21 (l : Launch) (Z : State) (a0 : Array Value) (hw : ∀ d ∈ tables_1, d.before a0 Z = true) (ws : List Jvm.Cond) (a1 : Addr) (a2 : Addr) (sb : Addr) (arr : Addr) (sv : Addr) (us : List Value) (zC : Int32) (ka : ClassId) (ks : ClassId) (h0 : Heap) (n0 : Nat) (O0 : Old Z n0 h0) (sC : TS_0 Z zC) (E_a1 : Exa Z h0 a1 "com/example/tetrad/tetrad/generate/SourceText") (F_text_a1 : Fld Z h0 a1 "com/example/tetrad/tetrad/generate/SourceText" "text" "Ljava/lang/StringBuilder;" (.ref sb)) (F_depth_a1 : Fld Z h0 a1 "com/example/tetrad/tetrad/generate/SourceText" "depth" "I" (.int (2 : Int32))) (E_sb : Exa Z h0 sb "java/lang/StringBuilder") (F_value_sb : Fld Z h0 sb "java/lang/AbstractStringBuilder" "value" "[B" (.ref arr)) (F_coder_sb : Fld Z h0 sb "java/lang/AbstractStringBuilder" "coder" "B" (.int (0 : Int32))) (F_count_sb : Fld Z h0 sb "java/lang/AbstractStringBuilder" "count" "I" (.int (0 : Int32))) (A_arr : Arv Z h0 arr ka .byte (16 : Int32) z16 (.int (0 : Int32))) (E_a2 : Exa Z h0 a2 "java/lang/String") (F_coder_a2 : Fld Z h0 a2 "java/lang/String" "coder" "B" (.int (0 : Int32))) (F_value_a2 : Fld Z h0 a2 "java/lang/String" "value" "[B" (.ref sv)) (A_sv : Arv Z h0 sv ks .byte (1 : Int32) us (.int (0 : Int32))) (ge_sb : n0 ≤ sb) (ge_arr : n0 ≤ arr) (h_ne : sv ≠ arr) (hCS : ¬ zC = 0) :
    MetFree l m_33 (head1 (Jvm.Cond.code m_33 prog_51_method_2_code 2 (some (.object "com/example/tetrad/tetrad/generate/SourceText")) :: ws) (rk 5 4 32 96)) (fun a U => a = #[(.ref a1), (.ref a2)] ∧ Z.Warmed39 U.vm ∧ U.heap = h0 ∧ CHv Z own_EL U.vm h0 ∧ Safe Z own_EL U.vm h0 arr) (fun _ _ _ _ _ => True) (fun _ U o U' => ∃ v L, o = .returned v ∧ Q10_21 Z a1 a2 sb arr sv us zC ka ks h0 n0 v U'.heap L ∧ CHr Z own_EL U.vm U.heap U'.vm U'.heap ∧ ReturnedEndW U o U' L (rk 5 4 32 96).cells (rk 5 4 32 96).slots) := by
  refine MetFree.of_bodySF (plainFor_of_name pn_3) hisR ?_
  intro p e s m args below meth c s₁ Bd hml0 hP hK
  obtain ⟨rfl, hZ, hh, hCH, hSf⟩ := hP
  have hx := Bd.exec
  have hby := Bd.bytes
  have hml : c.maxLocals = 2 := hml0
  have hown : s.vm.findClass "com/example/tetrad/tetrad/generate/SourceText" = some m.cls := findClass_of_methodNamed Bd.named
  have X0 : Stand p l e (rk 5 4 32 96) (s.setVm s.vm) m #[(.ref a1), (.ref a2)] below meth c s₁ [] 0 0 := Stand.of_body Bd
  have e0 : s₁.heap = h0 := by rw [← hh, Bd.state]; rfl
  have N0 := Fr.nil n0
  have pre0 := own_pre (tb := p.tables) (e := e) (bl := below) (s := s₁) (ef_19 m a1 a2)
  have Y0 : s.Since s.vm h0.size := (State.WarmedH.refl s).since h0.size
  have Yk0 : h0.size ≤ h0.size := Nat.le_refl _
  have CR0 : CHr Z own_EL s.vm h0 s.vm h0 := CHr.refl hCH
  have hEL := own_EW hw
  have hSA := own_SA hw
  have K0 := Keep.refl h0 [sb, arr]
  obtain ⟨cq1, kq1, q1a, q1b, q1c⟩ := isOf hZ e0 E_a2
  obtain ⟨_, _, ⟨T1, L1, k1, n1⟩, -, X1, ⟨Lc1, hQ1, l1, y1, z1⟩, st1⟩ := X0.virtualBack hx (y := m_3) (z := m_3) hown (mvT hZ (tw hw 62 rfl)) (mvT hZ (tw hw 63 rfl)) (notFace_of_selects (args := #[]) (mvT hZ (tw hw 65 rfl))) (mvT hZ (tw hw 65 rfl)) (mvT hZ (tw hw 64 rfl)) (by decide) (backOf (W := 0) (rm11_n l Z a0 hw [] a2 sv (1 : Int32) us ks h0 n0 O0 (by decide) E_a2 F_coder_a2 F_value_a2 A_sv) hZ (tw hw 66 rfl) (tw hw 3 rfl) (by decide) (by decide)) q1a q1c (g := (mkF m 1 #[Rf a1, Rf a2] [(.ref a2)])) rfl (by rw [hml]; rfl) (Steps.refl _) (argsL := []) (rest := []) (lenOf pd_8 rfl) rfl (w0 rfl) (hb hby d10_1) (fun _ _ => ⟨rfl, e0, (by decide : 0 + 0 ≤ _), (by decide : 0 + 0 ≤ _)⟩)
  dsimp only [Pt.U, Pt.locs, Pt.cells, Pt.slots] at X1 l1 y1 z1 st1 hQ1
  subst l1 y1 z1
  obtain ⟨rfl, N1q, e1⟩ := hQ1
  have N1 := Fr.app N0 N1q
  obtain ⟨T2, X2, e2, st2⟩ := getF X1 hx hZ hown (host := "") (Or.inl (tw hw 55 rfl)) Via.refl e1 F_text_a1 (g := (mkF m 8 #[Rf a1, Rf a2] [(.ref a1)])) rfl rfl (hb hby d10_8)
  obtain ⟨sa3, T3, h3, k3, sb3, kb3, X3, e3, E3, Y3, Yk3, hZ3, hown3, A3, Fc3, Fv3, V3, la3, lb3, C3, Lt3, SF3, st3⟩ := ldcCH X2 hx hZ hown (tw hw 67 rfl) hSA e2 Y0 Yk0 hEL (own_mem (by decide)) CR0.1 (vs := [(.int (32 : Int32)), (.int (32 : Int32)), (.int (32 : Int32)), (.int (32 : Int32))]) (z := (4 : Int32)) (by decide) (by decide) (by decide) (g := (mkF m 11 #[Rf a1, Rf a2] [(.ref sb)])) rfl (hb hby d10_11) (n := 16) (by decide) (by decide) (by decide) (by decide)
  have O4 := O0.ext E3
  have K3 := K0.ext E3
  have CR5 := CR0.trans (C3)
  obtain ⟨T6, X6, e6, st6⟩ := getF X3 hx hZ3 hown3 (host := "") (Or.inl (tw hw 70 rfl)) Via.refl e3 (F_depth_a1.ext E3) (g := (mkF m 14 #[Rf a1, Rf a2] [(.ref a1), (.ref sa3), (.ref sb)])) rfl rfl (hb hby d10_14)
  obtain ⟨cq7, kq7, q7a, q7b, q7c⟩ := isOf hZ3 e6 A3
  obtain ⟨_, _, ⟨T7, L7, k7, n7⟩, -, X7, ⟨Lc7, hQ7, l7, y7, z7⟩, st7⟩ := X6.virtualBack hx (y := m_32) (z := m_32) hown3 (mvT hZ3 (tw hw 72 rfl)) (mvT hZ3 (tw hw 73 rfl)) (notFace_of_selects (args := #[]) (mvT hZ3 (tw hw 75 rfl))) (mvT hZ3 (tw hw 75 rfl)) (mvT hZ3 (tw hw 74 rfl)) (by decide) (backOf (W := 1) (rm12_2 l Z a0 hw [] sa3 sb3 s4 kb3 h3 n0 O4 A3 Fc3 Fv3 V3) hZ3 (tw hw 76 rfl) (tw hw 3 rfl) (by decide) (by decide)) q7a q7c (g := (mkF m 17 #[Rf a1, Rf a2] [(.int (2 : Int32)), (.ref sa3), (.ref sb)])) rfl (by rw [hml]; rfl) (Steps.refl _) (argsL := [(.int (2 : Int32))]) (rest := [(.ref sb)]) (lenOf pd_20 rfl) rfl (w0 rfl) (hb hby d10_17) (fun _ _ => ⟨rfl, e6, (by decide : 2 + 2 ≤ _), (by decide : 20 + 12 ≤ _)⟩)
  dsimp only [Pt.U, Pt.locs, Pt.cells, Pt.slots] at X7 l7 y7 z7 st7 hQ7
  subst l7 y7 z7
  obtain ⟨rs_7, ro_7, ko_7, rfl, N7q, K7q, O7, f7_0, f7_1, f7_2, f7_3, f7_4, f7_5, f7_6, f7_7⟩ := hQ7
  have N7 := Fr.app N1 N7q
  have CR8 := CR5.trans (CHr.keep K7q all0 CR5.1)
  have K7 := K3.trans K7q all0
  obtain ⟨cq9, kq9, q9a, q9b, q9c⟩ := isOf hZ3 rfl ((E_sb.ext E3).keep K7q)
  obtain ⟨_, _, ⟨T9, L9, k9, n9⟩, -, X9, ⟨Lc9, hQ9, l9, y9, z9⟩, st9⟩ := X7.virtualBack hx (y := m_18) (z := m_18) hown3 (mvT hZ3 (tw hw 78 rfl)) (mvT hZ3 (tw hw 79 rfl)) (notFace_of_selects (args := #[]) (mvT hZ3 (tw hw 81 rfl))) (mvT hZ3 (tw hw 81 rfl)) (mvT hZ3 (tw hw 80 rfl)) (by decide) (backOf (W := 0) (rm13 l Z a0 hw [] sb rs_7 arr (0 : Int32) 0 z16 ro_7 (8 : Int32) 8 (cpy (cpy z16 0 s4 0 4) 4 (cpy z16 0 s4 0 4) 0 4) zC ka ko_7 T7.heap n0 O7 hCS sC ((E_sb.ext E3).keep K7q) ((F_value_sb.ext E3).keep K7q nin0) ((F_coder_sb.ext E3).keep K7q nin0) ((F_count_sb.ext E3).keep K7q nin0) ((A_arr.ext E3).keep K7q nin0) f7_0 f7_3 f7_4 f7_5 ge_sb ge_arr (Sm.lit (x := (0 : Int32)) (n := 0) (by decide)) (Sm.lit (x := (8 : Int32)) (n := 8) (by decide)) (by decide) rfl) hZ3 (tw hw 82 rfl) (tw hw 39 rfl) (by decide) (by decide)) q9a q9c (g := (mkF m 20 #[Rf a1, Rf a2] [(.ref rs_7), (.ref sb)])) rfl (by rw [hml]; rfl) (Steps.refl _) (argsL := [(.ref rs_7)]) (rest := []) (lenOf pd_21 rfl) rfl (w0 rfl) (hb hby d10_20) (fun _ _ => ⟨rfl, rfl, (by decide : 4 + 0 ≤ _), (by decide : 32 + 0 ≤ _)⟩)
  dsimp only [Pt.U, Pt.locs, Pt.cells, Pt.slots] at X9 l9 y9 z9 st9 hQ9
  subst l9 y9 z9
  obtain ⟨rfl, N9q, K9q, O9, f9_0, f9_1, f9_2, f9_3⟩ := hQ9
  have N9 := Fr.app N7 N9q
  have CR10 := CR8.trans (CHr.keep K9q (allS (Safe.exa hZ3.alike ((E_sb.ext E3).keep K7q) (by decide) (by decide)) (allS (Safe.keep K7q all0 CR5.1 (C3.safe A_arr.lt hSf)) all0)) CR8.1)
  have Sf9_arr := (Safe.keep K9q (allS (Safe.exa hZ3.alike ((E_sb.ext E3).keep K7q) (by decide) (by decide)) (allS (Safe.keep K7q all0 CR5.1 (C3.safe A_arr.lt hSf)) all0)) CR8.1 (Safe.keep K7q all0 CR5.1 (C3.safe A_arr.lt hSf)))
  have K9 := K7.trans K9q (allS (Or.inl (List.mem_of_getElem? (i := 0) rfl)) (allS (Or.inl (List.mem_of_getElem? (i := 1) rfl)) all0))
  obtain ⟨cq11, kq11, q11a, q11b, q11c⟩ := isOf hZ3 rfl (((E_sb.ext E3).keep K7q).keep K9q)
  obtain ⟨_, _, ⟨T11, L11, k11, n11⟩, -, X11, ⟨Lc11, hQ11, l11, y11, z11⟩, st11⟩ := X9.virtualBack hx (y := m_18) (z := m_18) hown3 (mvT hZ3 (tw hw 78 rfl)) (mvT hZ3 (tw hw 79 rfl)) (notFace_of_selects (args := #[]) (mvT hZ3 (tw hw 81 rfl))) (mvT hZ3 (tw hw 81 rfl)) (mvT hZ3 (tw hw 80 rfl)) (by decide) (backOf (W := 0) (rm13 l Z a0 hw [] sb a2 arr ((0 : Int32) + (8 : Int32)) 8 (cpy z16 0 (cpy (cpy z16 0 s4 0 4) 4 (cpy z16 0 s4 0 4) 0 4) 0 8) sv (1 : Int32) 1 us zC ka ks T9.heap n0 O9 hCS sC (((E_sb.ext E3).keep K7q).keep K9q) f9_0 f9_1 f9_2 f9_3 (((E_a2.ext E3).keep K7q).keep K9q) (((F_coder_a2.ext E3).keep K7q nin0).keep K9q (ninS (Exa.ne E_a2 E_sb (by decide)) (ninS (Exa.neArv (((E_a2.ext E3).keep K7q).keep K9q) f9_3 (tw hw 2 rfl)) nin0))) (((F_value_a2.ext E3).keep K7q nin0).keep K9q (ninS (Exa.ne E_a2 E_sb (by decide)) (ninS (Exa.neArv (((E_a2.ext E3).keep K7q).keep K9q) f9_3 (tw hw 2 rfl)) nin0))) (((A_sv.ext E3).keep K7q nin0).keep K9q (ninS (Ne.symm (Exa.neArv E_sb A_sv (tw hw 38 rfl))) (ninS h_ne nin0))) ge_sb ge_arr (Sm.lit (x := ((0 : Int32) + (8 : Int32))) (n := 8) (by decide)) (Sm.lit (x := (1 : Int32)) (n := 1) (by decide)) (by decide) (own_cpyl rfl (by decide))) hZ3 (tw hw 82 rfl) (tw hw 39 rfl) (by decide) (by decide)) q11a q11c (g := (mkF m 24 #[Rf a1, Rf a2] [(.ref a2), (.ref sb)])) rfl (by rw [hml]; rfl) (Steps.refl _) (argsL := [(.ref a2)]) (rest := []) (lenOf pd_21 rfl) rfl (w0 rfl) (hb hby d10_24) (fun _ _ => ⟨rfl, rfl, (by decide : 4 + 0 ≤ _), (by decide : 32 + 0 ≤ _)⟩)
  dsimp only [Pt.U, Pt.locs, Pt.cells, Pt.slots] at X11 l11 y11 z11 st11 hQ11
  subst l11 y11 z11
  obtain ⟨rfl, N11q, K11q, O11, f11_0, f11_1, f11_2, f11_3⟩ := hQ11
  have N11 := Fr.app N9 N11q
  have CR12 := CR10.trans (CHr.keep K11q (allS (Safe.exa hZ3.alike (((E_sb.ext E3).keep K7q).keep K9q) (by decide) (by decide)) (allS Sf9_arr all0)) CR10.1)
  have Sf11_arr := (Safe.keep K11q (allS (Safe.exa hZ3.alike (((E_sb.ext E3).keep K7q).keep K9q) (by decide) (by decide)) (allS Sf9_arr all0)) CR10.1 Sf9_arr)
  have K11 := K9.trans K11q (allS (Or.inl (List.mem_of_getElem? (i := 0) rfl)) (allS (Or.inl (List.mem_of_getElem? (i := 1) rfl)) all0))
  obtain ⟨T13, X13, e13, st13⟩ := getF X11 hx hZ3 hown3 (host := "") (Or.inl (tw hw 55 rfl)) Via.refl rfl ((((F_text_a1.ext E3).keep K7q nin0).keep K9q (ninS (Exa.ne E_a1 E_sb (by decide)) (ninS (Exa.neArv ((((E_a1.ext E3).keep K7q).keep K9q).keep K11q) f11_3 (tw hw 31 rfl)) nin0))).keep K11q (ninS (Exa.ne E_a1 E_sb (by decide)) (ninS (Exa.neArv ((((E_a1.ext E3).keep K7q).keep K9q).keep K11q) f11_3 (tw hw 31 rfl)) nin0))) (g := (mkF m 29 #[Rf a1, Rf a2] [(.ref a1)])) rfl rfl (hb hby d10_29)
  obtain ⟨cq14, kq14, q14a, q14b, q14c⟩ := isOf hZ3 e13 ((((E_sb.ext E3).keep K7q).keep K9q).keep K11q)
  obtain ⟨_, _, ⟨T14, L14, k14, n14⟩, -, X14, ⟨Lc14, hQ14, l14, y14, z14⟩, st14⟩ := X13.virtualBack hx (y := m_21) (z := m_21) hown3 (mvT hZ3 (tw hw 125 rfl)) (mvT hZ3 (tw hw 126 rfl)) (notFace_of_selects (args := #[]) (mvT hZ3 (tw hw 128 rfl))) (mvT hZ3 (tw hw 128 rfl)) (mvT hZ3 (tw hw 127 rfl)) (by decide) (backOf (W := 0) (rm21 l Z a0 hw [] sb (10 : Int32) arr (((0 : Int32) + (8 : Int32)) + (1 : Int32)) 9 (cpy (cpy z16 0 (cpy (cpy z16 0 s4 0 4) 4 (cpy z16 0 s4 0 4) 0 4) 0 8) 8 us 0 1) zC ka T11.heap n0 O11 hCS sC ((((E_sb.ext E3).keep K7q).keep K9q).keep K11q) f11_0 f11_1 f11_2 f11_3 ge_sb ge_arr (Sm.lit (x := (((0 : Int32) + (8 : Int32)) + (1 : Int32))) (n := 9) (by decide)) (by decide) (own_cpyl (own_cpyl rfl (by decide)) (by decide)) (by decide)) hZ3 (tw hw 129 rfl) (tw hw 39 rfl) (by decide) (by decide)) q14a q14c (g := (mkF m 34 #[Rf a1, Rf a2] [(.int (10 : Int32)), (.ref sb)])) rfl (by rw [hml]; rfl) (Steps.refl _) (argsL := [(.int (10 : Int32))]) (rest := []) (lenOf pd_22 rfl) rfl (w0 rfl) (hb hby d10_34) (fun _ _ => ⟨rfl, e13, (by decide : 4 + 0 ≤ _), (by decide : 32 + 0 ≤ _)⟩)
  dsimp only [Pt.U, Pt.locs, Pt.cells, Pt.slots] at X14 l14 y14 z14 st14 hQ14
  subst l14 y14 z14
  obtain ⟨rfl, N14q, K14q, O14, f14_0, f14_1, f14_2, f14_3⟩ := hQ14
  have N14 := Fr.app N11 N14q
  have CR15 := CR12.trans (CHr.keep K14q (allS (Safe.exa hZ3.alike ((((E_sb.ext E3).keep K7q).keep K9q).keep K11q) (by decide) (by decide)) (allS Sf11_arr all0)) CR12.1)
  have Sf14_arr := (Safe.keep K14q (allS (Safe.exa hZ3.alike ((((E_sb.ext E3).keep K7q).keep K9q).keep K11q) (by decide) (by decide)) (allS Sf11_arr all0)) CR12.1 Sf11_arr)
  have K14 := K11.trans K14q (allS (Or.inl (List.mem_of_getElem? (i := 0) rfl)) (allS (Or.inl (List.mem_of_getElem? (i := 1) rfl)) all0))
  have sg16 : SG p.tables e below (T14.setTop (mkF m 39 #[Rf a1, Rf a2] [(.ref a1)])) (s₁.setTop (mkF m 0 #[Rf a1, Rf a2] [])) := by
    intro target kt
    show Steps _ _ _ (s₁.setTop (mkF m 0 #[Rf a1, Rf a2] [])) _
    refine XS.aloadN X0.here hx rfl (hb hby d10_0) rfl rfl ?_
    refine st1.trans ?_
    refine XS.ifNo X1.here hx rfl (hb hby d10_4) rfl ((if0 _ _).trans (teq (by decide : (0 : Int32) = (0 : Int32))).2) ?_
    refine XS.aloadN X1.here hx rfl (hb hby d10_7) rfl rfl ?_
    refine st2 _ ?_
    refine st3 _ ?_
    refine XS.aloadN X3.here hx rfl (hb hby d10_13) rfl rfl ?_
    refine st6 _ ?_
    refine st7.trans ?_
    refine st9.trans ?_
    refine XS.aloadN X9.here hx rfl (hb hby d10_23) rfl rfl ?_
    refine st11.trans ?_
    refine XS.pop X11.here hx rfl (hb hby d10_27) rfl rfl ?_
    refine XS.aloadN X11.here hx rfl (hb hby d10_28) rfl rfl ?_
    refine st13 _ ?_
    refine XS.bipush X13.here hx rfl (hb hby d10_32) ?_
    refine st14.trans ?_
    refine XS.pop X14.here hx rfl (hb hby d10_37) rfl rfl ?_
    refine XS.aloadN X14.here hx rfl (hb hby d10_38) rfl rfl ?_
    exact kt
  obtain ⟨fs, hr, hrun, hended, hRW⟩ := X14.leaveW Y3 (show _ ≤ T14.heap.size by exact (Nat.le_trans (Nat.le_trans (Nat.le_trans (Nat.le_trans Yk3 K7q.1) K9q.1) K11q.1) K14q.1)) (v := some (.ref a1)) (fun h => by rw [Bd.returns] at h; cases h)
  refine ⟨_, _, pre0 _ (sg16 _ (?_)), hrun, hended, _, _, rfl, ?_, (by rw [hh]; show CHr Z own_EL s.vm h0 T14.vm T14.heap; exact CR15.trans (CHv.at X14 hZ3 hEL CR15.1)), hRW.1, hRW.2.1, hRW.2.2.1, hRW.2.2.2.mono (by decide) (by decide)⟩
  · show Steps _ _ _ (T14.setTop (mkF m 39 #[Rf a1, Rf a2] [(.ref a1)])) _
    jvm_step X14.here [X14.here.top, hx, (hb hby d10_39), X14.method', Bd.returns, Value.isRef, FieldType.isReference]
    first | (intro acts; rw [hr _ acts rfl rfl rfl]) | rw [hr _ _ rfl rfl rfl]
    exact Steps.refl _
  · show Q10_21 Z a1 a2 sb arr sv us zC ka ks h0 n0 _ T14.heap _
    exact ⟨rfl, N14, K14, O14, f14_0, f14_1, (own_fi (by decide) f14_2), f14_3⟩
def Q10_22 (Z : State) (a1 : Addr) (a2 : Addr) (sb : Addr) (arr : Addr) (sv : Addr) (us : List Value) (zC : Int32) (ka : ClassId) (ks : ClassId) (h0 : Heap) (n0 : Nat) (v : Option Value) (h : Heap) (L : List Loc) : Prop := v = some (.ref a1) ∧ Fr n0 L ∧ Keep h0 h [sb, arr] ∧ Old Z n0 h ∧ Fld Z h sb "java/lang/AbstractStringBuilder" "value" "[B" (.ref arr) ∧ Fld Z h sb "java/lang/AbstractStringBuilder" "coder" "B" (.int (0 : Int32)) ∧ Fld Z h sb "java/lang/AbstractStringBuilder" "count" "I" (.int (11 : Int32)) ∧ Arv Z h arr ka .byte (16 : Int32) ((cpy (cpy z16 0 (cpy (cpy z16 0 s4 0 4) 4 (cpy z16 0 s4 0 4) 0 4) 0 8) 8 us 0 2).set 10 (.int ((10 : Int32).toInt8.toInt32.toInt8.toInt32))) (.int (0 : Int32))
theorem rm10_22 (l : Launch) (Z : State) (a0 : Array Value) (hw : ∀ d ∈ tables_1, d.before a0 Z = true) (ws : List Jvm.Cond) (a1 : Addr) (a2 : Addr) (sb : Addr) (arr : Addr) (sv : Addr) (us : List Value) (zC : Int32) (ka : ClassId) (ks : ClassId) (h0 : Heap) (n0 : Nat) (O0 : Old Z n0 h0) (sC : TS_0 Z zC) (E_a1 : Exa Z h0 a1 "com/example/tetrad/tetrad/generate/SourceText") (F_text_a1 : Fld Z h0 a1 "com/example/tetrad/tetrad/generate/SourceText" "text" "Ljava/lang/StringBuilder;" (.ref sb)) (F_depth_a1 : Fld Z h0 a1 "com/example/tetrad/tetrad/generate/SourceText" "depth" "I" (.int (2 : Int32))) (E_sb : Exa Z h0 sb "java/lang/StringBuilder") (F_value_sb : Fld Z h0 sb "java/lang/AbstractStringBuilder" "value" "[B" (.ref arr)) (F_coder_sb : Fld Z h0 sb "java/lang/AbstractStringBuilder" "coder" "B" (.int (0 : Int32))) (F_count_sb : Fld Z h0 sb "java/lang/AbstractStringBuilder" "count" "I" (.int (0 : Int32))) (A_arr : Arv Z h0 arr ka .byte (16 : Int32) z16 (.int (0 : Int32))) (E_a2 : Exa Z h0 a2 "java/lang/String") (F_coder_a2 : Fld Z h0 a2 "java/lang/String" "coder" "B" (.int (0 : Int32))) (F_value_a2 : Fld Z h0 a2 "java/lang/String" "value" "[B" (.ref sv)) (A_sv : Arv Z h0 sv ks .byte (2 : Int32) us (.int (0 : Int32))) (ge_sb : n0 ≤ sb) (ge_arr : n0 ≤ arr) (h_ne : sv ≠ arr) (hCS : ¬ zC = 0) :
    MetFree l m_33 (head1 (Jvm.Cond.code m_33 prog_51_method_2_code 2 (some (.object "com/example/tetrad/tetrad/generate/SourceText")) :: ws) (rk 5 4 32 96)) (fun a U => a = #[(.ref a1), (.ref a2)] ∧ Z.Warmed39 U.vm ∧ U.heap = h0 ∧ CHv Z own_EL U.vm h0 ∧ Safe Z own_EL U.vm h0 arr) (fun _ _ _ _ _ => True) (fun _ U o U' => ∃ v L, o = .returned v ∧ Q10_22 Z a1 a2 sb arr sv us zC ka ks h0 n0 v U'.heap L ∧ CHr Z own_EL U.vm U.heap U'.vm U'.heap ∧ ReturnedEndW U o U' L (rk 5 4 32 96).cells (rk 5 4 32 96).slots) := by
  refine MetFree.of_bodySF (plainFor_of_name pn_3) hisR ?_
  intro p e s m args below meth c s₁ Bd hml0 hP hK
  obtain ⟨rfl, hZ, hh, hCH, hSf⟩ := hP
  have hx := Bd.exec
  have hby := Bd.bytes
  have hml : c.maxLocals = 2 := hml0
  have hown : s.vm.findClass "com/example/tetrad/tetrad/generate/SourceText" = some m.cls := findClass_of_methodNamed Bd.named
  have X0 : Stand p l e (rk 5 4 32 96) (s.setVm s.vm) m #[(.ref a1), (.ref a2)] below meth c s₁ [] 0 0 := Stand.of_body Bd
  have e0 : s₁.heap = h0 := by rw [← hh, Bd.state]; rfl
  have N0 := Fr.nil n0
  have pre0 := own_pre (tb := p.tables) (e := e) (bl := below) (s := s₁) (ef_19 m a1 a2)
  have Y0 : s.Since s.vm h0.size := (State.WarmedH.refl s).since h0.size
  have Yk0 : h0.size ≤ h0.size := Nat.le_refl _
  have CR0 : CHr Z own_EL s.vm h0 s.vm h0 := CHr.refl hCH
  have hEL := own_EW hw
  have hSA := own_SA hw
  have K0 := Keep.refl h0 [sb, arr]
  obtain ⟨cq1, kq1, q1a, q1b, q1c⟩ := isOf hZ e0 E_a2
  obtain ⟨_, _, ⟨T1, L1, k1, n1⟩, -, X1, ⟨Lc1, hQ1, l1, y1, z1⟩, st1⟩ := X0.virtualBack hx (y := m_3) (z := m_3) hown (mvT hZ (tw hw 62 rfl)) (mvT hZ (tw hw 63 rfl)) (notFace_of_selects (args := #[]) (mvT hZ (tw hw 65 rfl))) (mvT hZ (tw hw 65 rfl)) (mvT hZ (tw hw 64 rfl)) (by decide) (backOf (W := 0) (rm11_n l Z a0 hw [] a2 sv (2 : Int32) us ks h0 n0 O0 (by decide) E_a2 F_coder_a2 F_value_a2 A_sv) hZ (tw hw 66 rfl) (tw hw 3 rfl) (by decide) (by decide)) q1a q1c (g := (mkF m 1 #[Rf a1, Rf a2] [(.ref a2)])) rfl (by rw [hml]; rfl) (Steps.refl _) (argsL := []) (rest := []) (lenOf pd_8 rfl) rfl (w0 rfl) (hb hby d10_1) (fun _ _ => ⟨rfl, e0, (by decide : 0 + 0 ≤ _), (by decide : 0 + 0 ≤ _)⟩)
  dsimp only [Pt.U, Pt.locs, Pt.cells, Pt.slots] at X1 l1 y1 z1 st1 hQ1
  subst l1 y1 z1
  obtain ⟨rfl, N1q, e1⟩ := hQ1
  have N1 := Fr.app N0 N1q
  obtain ⟨T2, X2, e2, st2⟩ := getF X1 hx hZ hown (host := "") (Or.inl (tw hw 55 rfl)) Via.refl e1 F_text_a1 (g := (mkF m 8 #[Rf a1, Rf a2] [(.ref a1)])) rfl rfl (hb hby d10_8)
  obtain ⟨sa3, T3, h3, k3, sb3, kb3, X3, e3, E3, Y3, Yk3, hZ3, hown3, A3, Fc3, Fv3, V3, la3, lb3, C3, Lt3, SF3, st3⟩ := ldcCH X2 hx hZ hown (tw hw 67 rfl) hSA e2 Y0 Yk0 hEL (own_mem (by decide)) CR0.1 (vs := [(.int (32 : Int32)), (.int (32 : Int32)), (.int (32 : Int32)), (.int (32 : Int32))]) (z := (4 : Int32)) (by decide) (by decide) (by decide) (g := (mkF m 11 #[Rf a1, Rf a2] [(.ref sb)])) rfl (hb hby d10_11) (n := 16) (by decide) (by decide) (by decide) (by decide)
  have O4 := O0.ext E3
  have K3 := K0.ext E3
  have CR5 := CR0.trans (C3)
  obtain ⟨T6, X6, e6, st6⟩ := getF X3 hx hZ3 hown3 (host := "") (Or.inl (tw hw 70 rfl)) Via.refl e3 (F_depth_a1.ext E3) (g := (mkF m 14 #[Rf a1, Rf a2] [(.ref a1), (.ref sa3), (.ref sb)])) rfl rfl (hb hby d10_14)
  obtain ⟨cq7, kq7, q7a, q7b, q7c⟩ := isOf hZ3 e6 A3
  obtain ⟨_, _, ⟨T7, L7, k7, n7⟩, -, X7, ⟨Lc7, hQ7, l7, y7, z7⟩, st7⟩ := X6.virtualBack hx (y := m_32) (z := m_32) hown3 (mvT hZ3 (tw hw 72 rfl)) (mvT hZ3 (tw hw 73 rfl)) (notFace_of_selects (args := #[]) (mvT hZ3 (tw hw 75 rfl))) (mvT hZ3 (tw hw 75 rfl)) (mvT hZ3 (tw hw 74 rfl)) (by decide) (backOf (W := 1) (rm12_2 l Z a0 hw [] sa3 sb3 s4 kb3 h3 n0 O4 A3 Fc3 Fv3 V3) hZ3 (tw hw 76 rfl) (tw hw 3 rfl) (by decide) (by decide)) q7a q7c (g := (mkF m 17 #[Rf a1, Rf a2] [(.int (2 : Int32)), (.ref sa3), (.ref sb)])) rfl (by rw [hml]; rfl) (Steps.refl _) (argsL := [(.int (2 : Int32))]) (rest := [(.ref sb)]) (lenOf pd_20 rfl) rfl (w0 rfl) (hb hby d10_17) (fun _ _ => ⟨rfl, e6, (by decide : 2 + 2 ≤ _), (by decide : 20 + 12 ≤ _)⟩)
  dsimp only [Pt.U, Pt.locs, Pt.cells, Pt.slots] at X7 l7 y7 z7 st7 hQ7
  subst l7 y7 z7
  obtain ⟨rs_7, ro_7, ko_7, rfl, N7q, K7q, O7, f7_0, f7_1, f7_2, f7_3, f7_4, f7_5, f7_6, f7_7⟩ := hQ7
  have N7 := Fr.app N1 N7q
  have CR8 := CR5.trans (CHr.keep K7q all0 CR5.1)
  have K7 := K3.trans K7q all0
  obtain ⟨cq9, kq9, q9a, q9b, q9c⟩ := isOf hZ3 rfl ((E_sb.ext E3).keep K7q)
  obtain ⟨_, _, ⟨T9, L9, k9, n9⟩, -, X9, ⟨Lc9, hQ9, l9, y9, z9⟩, st9⟩ := X7.virtualBack hx (y := m_18) (z := m_18) hown3 (mvT hZ3 (tw hw 78 rfl)) (mvT hZ3 (tw hw 79 rfl)) (notFace_of_selects (args := #[]) (mvT hZ3 (tw hw 81 rfl))) (mvT hZ3 (tw hw 81 rfl)) (mvT hZ3 (tw hw 80 rfl)) (by decide) (backOf (W := 0) (rm13 l Z a0 hw [] sb rs_7 arr (0 : Int32) 0 z16 ro_7 (8 : Int32) 8 (cpy (cpy z16 0 s4 0 4) 4 (cpy z16 0 s4 0 4) 0 4) zC ka ko_7 T7.heap n0 O7 hCS sC ((E_sb.ext E3).keep K7q) ((F_value_sb.ext E3).keep K7q nin0) ((F_coder_sb.ext E3).keep K7q nin0) ((F_count_sb.ext E3).keep K7q nin0) ((A_arr.ext E3).keep K7q nin0) f7_0 f7_3 f7_4 f7_5 ge_sb ge_arr (Sm.lit (x := (0 : Int32)) (n := 0) (by decide)) (Sm.lit (x := (8 : Int32)) (n := 8) (by decide)) (by decide) rfl) hZ3 (tw hw 82 rfl) (tw hw 39 rfl) (by decide) (by decide)) q9a q9c (g := (mkF m 20 #[Rf a1, Rf a2] [(.ref rs_7), (.ref sb)])) rfl (by rw [hml]; rfl) (Steps.refl _) (argsL := [(.ref rs_7)]) (rest := []) (lenOf pd_21 rfl) rfl (w0 rfl) (hb hby d10_20) (fun _ _ => ⟨rfl, rfl, (by decide : 4 + 0 ≤ _), (by decide : 32 + 0 ≤ _)⟩)
  dsimp only [Pt.U, Pt.locs, Pt.cells, Pt.slots] at X9 l9 y9 z9 st9 hQ9
  subst l9 y9 z9
  obtain ⟨rfl, N9q, K9q, O9, f9_0, f9_1, f9_2, f9_3⟩ := hQ9
  have N9 := Fr.app N7 N9q
  have CR10 := CR8.trans (CHr.keep K9q (allS (Safe.exa hZ3.alike ((E_sb.ext E3).keep K7q) (by decide) (by decide)) (allS (Safe.keep K7q all0 CR5.1 (C3.safe A_arr.lt hSf)) all0)) CR8.1)
  have Sf9_arr := (Safe.keep K9q (allS (Safe.exa hZ3.alike ((E_sb.ext E3).keep K7q) (by decide) (by decide)) (allS (Safe.keep K7q all0 CR5.1 (C3.safe A_arr.lt hSf)) all0)) CR8.1 (Safe.keep K7q all0 CR5.1 (C3.safe A_arr.lt hSf)))
  have K9 := K7.trans K9q (allS (Or.inl (List.mem_of_getElem? (i := 0) rfl)) (allS (Or.inl (List.mem_of_getElem? (i := 1) rfl)) all0))
  obtain ⟨cq11, kq11, q11a, q11b, q11c⟩ := isOf hZ3 rfl (((E_sb.ext E3).keep K7q).keep K9q)
  obtain ⟨_, _, ⟨T11, L11, k11, n11⟩, -, X11, ⟨Lc11, hQ11, l11, y11, z11⟩, st11⟩ := X9.virtualBack hx (y := m_18) (z := m_18) hown3 (mvT hZ3 (tw hw 78 rfl)) (mvT hZ3 (tw hw 79 rfl)) (notFace_of_selects (args := #[]) (mvT hZ3 (tw hw 81 rfl))) (mvT hZ3 (tw hw 81 rfl)) (mvT hZ3 (tw hw 80 rfl)) (by decide) (backOf (W := 0) (rm13 l Z a0 hw [] sb a2 arr ((0 : Int32) + (8 : Int32)) 8 (cpy z16 0 (cpy (cpy z16 0 s4 0 4) 4 (cpy z16 0 s4 0 4) 0 4) 0 8) sv (2 : Int32) 2 us zC ka ks T9.heap n0 O9 hCS sC (((E_sb.ext E3).keep K7q).keep K9q) f9_0 f9_1 f9_2 f9_3 (((E_a2.ext E3).keep K7q).keep K9q) (((F_coder_a2.ext E3).keep K7q nin0).keep K9q (ninS (Exa.ne E_a2 E_sb (by decide)) (ninS (Exa.neArv (((E_a2.ext E3).keep K7q).keep K9q) f9_3 (tw hw 2 rfl)) nin0))) (((F_value_a2.ext E3).keep K7q nin0).keep K9q (ninS (Exa.ne E_a2 E_sb (by decide)) (ninS (Exa.neArv (((E_a2.ext E3).keep K7q).keep K9q) f9_3 (tw hw 2 rfl)) nin0))) (((A_sv.ext E3).keep K7q nin0).keep K9q (ninS (Ne.symm (Exa.neArv E_sb A_sv (tw hw 38 rfl))) (ninS h_ne nin0))) ge_sb ge_arr (Sm.lit (x := ((0 : Int32) + (8 : Int32))) (n := 8) (by decide)) (Sm.lit (x := (2 : Int32)) (n := 2) (by decide)) (by decide) (own_cpyl rfl (by decide))) hZ3 (tw hw 82 rfl) (tw hw 39 rfl) (by decide) (by decide)) q11a q11c (g := (mkF m 24 #[Rf a1, Rf a2] [(.ref a2), (.ref sb)])) rfl (by rw [hml]; rfl) (Steps.refl _) (argsL := [(.ref a2)]) (rest := []) (lenOf pd_21 rfl) rfl (w0 rfl) (hb hby d10_24) (fun _ _ => ⟨rfl, rfl, (by decide : 4 + 0 ≤ _), (by decide : 32 + 0 ≤ _)⟩)
  dsimp only [Pt.U, Pt.locs, Pt.cells, Pt.slots] at X11 l11 y11 z11 st11 hQ11
  subst l11 y11 z11
  obtain ⟨rfl, N11q, K11q, O11, f11_0, f11_1, f11_2, f11_3⟩ := hQ11
  have N11 := Fr.app N9 N11q
  have CR12 := CR10.trans (CHr.keep K11q (allS (Safe.exa hZ3.alike (((E_sb.ext E3).keep K7q).keep K9q) (by decide) (by decide)) (allS Sf9_arr all0)) CR10.1)
  have Sf11_arr := (Safe.keep K11q (allS (Safe.exa hZ3.alike (((E_sb.ext E3).keep K7q).keep K9q) (by decide) (by decide)) (allS Sf9_arr all0)) CR10.1 Sf9_arr)
  have K11 := K9.trans K11q (allS (Or.inl (List.mem_of_getElem? (i := 0) rfl)) (allS (Or.inl (List.mem_of_getElem? (i := 1) rfl)) all0))
  obtain ⟨T13, X13, e13, st13⟩ := getF X11 hx hZ3 hown3 (host := "") (Or.inl (tw hw 55 rfl)) Via.refl rfl ((((F_text_a1.ext E3).keep K7q nin0).keep K9q (ninS (Exa.ne E_a1 E_sb (by decide)) (ninS (Exa.neArv ((((E_a1.ext E3).keep K7q).keep K9q).keep K11q) f11_3 (tw hw 31 rfl)) nin0))).keep K11q (ninS (Exa.ne E_a1 E_sb (by decide)) (ninS (Exa.neArv ((((E_a1.ext E3).keep K7q).keep K9q).keep K11q) f11_3 (tw hw 31 rfl)) nin0))) (g := (mkF m 29 #[Rf a1, Rf a2] [(.ref a1)])) rfl rfl (hb hby d10_29)
  obtain ⟨cq14, kq14, q14a, q14b, q14c⟩ := isOf hZ3 e13 ((((E_sb.ext E3).keep K7q).keep K9q).keep K11q)
  obtain ⟨_, _, ⟨T14, L14, k14, n14⟩, -, X14, ⟨Lc14, hQ14, l14, y14, z14⟩, st14⟩ := X13.virtualBack hx (y := m_21) (z := m_21) hown3 (mvT hZ3 (tw hw 125 rfl)) (mvT hZ3 (tw hw 126 rfl)) (notFace_of_selects (args := #[]) (mvT hZ3 (tw hw 128 rfl))) (mvT hZ3 (tw hw 128 rfl)) (mvT hZ3 (tw hw 127 rfl)) (by decide) (backOf (W := 0) (rm21 l Z a0 hw [] sb (10 : Int32) arr (((0 : Int32) + (8 : Int32)) + (2 : Int32)) 10 (cpy (cpy z16 0 (cpy (cpy z16 0 s4 0 4) 4 (cpy z16 0 s4 0 4) 0 4) 0 8) 8 us 0 2) zC ka T11.heap n0 O11 hCS sC ((((E_sb.ext E3).keep K7q).keep K9q).keep K11q) f11_0 f11_1 f11_2 f11_3 ge_sb ge_arr (Sm.lit (x := (((0 : Int32) + (8 : Int32)) + (2 : Int32))) (n := 10) (by decide)) (by decide) (own_cpyl (own_cpyl rfl (by decide)) (by decide)) (by decide)) hZ3 (tw hw 129 rfl) (tw hw 39 rfl) (by decide) (by decide)) q14a q14c (g := (mkF m 34 #[Rf a1, Rf a2] [(.int (10 : Int32)), (.ref sb)])) rfl (by rw [hml]; rfl) (Steps.refl _) (argsL := [(.int (10 : Int32))]) (rest := []) (lenOf pd_22 rfl) rfl (w0 rfl) (hb hby d10_34) (fun _ _ => ⟨rfl, e13, (by decide : 4 + 0 ≤ _), (by decide : 32 + 0 ≤ _)⟩)
  dsimp only [Pt.U, Pt.locs, Pt.cells, Pt.slots] at X14 l14 y14 z14 st14 hQ14
  subst l14 y14 z14
  obtain ⟨rfl, N14q, K14q, O14, f14_0, f14_1, f14_2, f14_3⟩ := hQ14
  have N14 := Fr.app N11 N14q
  have CR15 := CR12.trans (CHr.keep K14q (allS (Safe.exa hZ3.alike ((((E_sb.ext E3).keep K7q).keep K9q).keep K11q) (by decide) (by decide)) (allS Sf11_arr all0)) CR12.1)
  have Sf14_arr := (Safe.keep K14q (allS (Safe.exa hZ3.alike ((((E_sb.ext E3).keep K7q).keep K9q).keep K11q) (by decide) (by decide)) (allS Sf11_arr all0)) CR12.1 Sf11_arr)
  have K14 := K11.trans K14q (allS (Or.inl (List.mem_of_getElem? (i := 0) rfl)) (allS (Or.inl (List.mem_of_getElem? (i := 1) rfl)) all0))
  have sg16 : SG p.tables e below (T14.setTop (mkF m 39 #[Rf a1, Rf a2] [(.ref a1)])) (s₁.setTop (mkF m 0 #[Rf a1, Rf a2] [])) := by
    intro target kt
    show Steps _ _ _ (s₁.setTop (mkF m 0 #[Rf a1, Rf a2] [])) _
    refine XS.aloadN X0.here hx rfl (hb hby d10_0) rfl rfl ?_
    refine st1.trans ?_
    refine XS.ifNo X1.here hx rfl (hb hby d10_4) rfl ((if0 _ _).trans (teq (by decide : (0 : Int32) = (0 : Int32))).2) ?_
    refine XS.aloadN X1.here hx rfl (hb hby d10_7) rfl rfl ?_
    refine st2 _ ?_
    refine st3 _ ?_
    refine XS.aloadN X3.here hx rfl (hb hby d10_13) rfl rfl ?_
    refine st6 _ ?_
    refine st7.trans ?_
    refine st9.trans ?_
    refine XS.aloadN X9.here hx rfl (hb hby d10_23) rfl rfl ?_
    refine st11.trans ?_
    refine XS.pop X11.here hx rfl (hb hby d10_27) rfl rfl ?_
    refine XS.aloadN X11.here hx rfl (hb hby d10_28) rfl rfl ?_
    refine st13 _ ?_
    refine XS.bipush X13.here hx rfl (hb hby d10_32) ?_
    refine st14.trans ?_
    refine XS.pop X14.here hx rfl (hb hby d10_37) rfl rfl ?_
    refine XS.aloadN X14.here hx rfl (hb hby d10_38) rfl rfl ?_
    exact kt
  obtain ⟨fs, hr, hrun, hended, hRW⟩ := X14.leaveW Y3 (show _ ≤ T14.heap.size by exact (Nat.le_trans (Nat.le_trans (Nat.le_trans (Nat.le_trans Yk3 K7q.1) K9q.1) K11q.1) K14q.1)) (v := some (.ref a1)) (fun h => by rw [Bd.returns] at h; cases h)
  refine ⟨_, _, pre0 _ (sg16 _ (?_)), hrun, hended, _, _, rfl, ?_, (by rw [hh]; show CHr Z own_EL s.vm h0 T14.vm T14.heap; exact CR15.trans (CHv.at X14 hZ3 hEL CR15.1)), hRW.1, hRW.2.1, hRW.2.2.1, hRW.2.2.2.mono (by decide) (by decide)⟩
  · show Steps _ _ _ (T14.setTop (mkF m 39 #[Rf a1, Rf a2] [(.ref a1)])) _
    jvm_step X14.here [X14.here.top, hx, (hb hby d10_39), X14.method', Bd.returns, Value.isRef, FieldType.isReference]
    first | (intro acts; rw [hr _ acts rfl rfl rfl]) | rw [hr _ _ rfl rfl rfl]
    exact Steps.refl _
  · show Q10_22 Z a1 a2 sb arr sv us zC ka ks h0 n0 _ T14.heap _
    exact ⟨rfl, N14, K14, O14, f14_0, f14_1, (own_fi (by decide) f14_2), f14_3⟩
def Q10_31 (Z : State) (a1 : Addr) (a2 : Addr) (sb : Addr) (arr : Addr) (sv : Addr) (us : List Value) (zC : Int32) (ka : ClassId) (ks : ClassId) (h0 : Heap) (n0 : Nat) (v : Option Value) (h : Heap) (L : List Loc) : Prop := v = some (.ref a1) ∧ Fr n0 L ∧ Keep h0 h [sb, arr] ∧ Old Z n0 h ∧ Fld Z h sb "java/lang/AbstractStringBuilder" "value" "[B" (.ref arr) ∧ Fld Z h sb "java/lang/AbstractStringBuilder" "coder" "B" (.int (0 : Int32)) ∧ Fld Z h sb "java/lang/AbstractStringBuilder" "count" "I" (.int (14 : Int32)) ∧ Arv Z h arr ka .byte (16 : Int32) ((cpy (cpy z16 0 (cpy (cpy (cpy z16 0 s4 0 4) 4 (cpy z16 0 s4 0 4) 0 4) 8 (cpy (cpy z16 0 s4 0 4) 4 (cpy z16 0 s4 0 4) 0 4) 0 4) 0 12) 12 us 0 1).set 13 (.int ((10 : Int32).toInt8.toInt32.toInt8.toInt32))) (.int (0 : Int32))
theorem rm10_31 (l : Launch) (Z : State) (a0 : Array Value) (hw : ∀ d ∈ tables_1, d.before a0 Z = true) (ws : List Jvm.Cond) (a1 : Addr) (a2 : Addr) (sb : Addr) (arr : Addr) (sv : Addr) (us : List Value) (zC : Int32) (ka : ClassId) (ks : ClassId) (h0 : Heap) (n0 : Nat) (O0 : Old Z n0 h0) (sC : TS_0 Z zC) (E_a1 : Exa Z h0 a1 "com/example/tetrad/tetrad/generate/SourceText") (F_text_a1 : Fld Z h0 a1 "com/example/tetrad/tetrad/generate/SourceText" "text" "Ljava/lang/StringBuilder;" (.ref sb)) (F_depth_a1 : Fld Z h0 a1 "com/example/tetrad/tetrad/generate/SourceText" "depth" "I" (.int (3 : Int32))) (E_sb : Exa Z h0 sb "java/lang/StringBuilder") (F_value_sb : Fld Z h0 sb "java/lang/AbstractStringBuilder" "value" "[B" (.ref arr)) (F_coder_sb : Fld Z h0 sb "java/lang/AbstractStringBuilder" "coder" "B" (.int (0 : Int32))) (F_count_sb : Fld Z h0 sb "java/lang/AbstractStringBuilder" "count" "I" (.int (0 : Int32))) (A_arr : Arv Z h0 arr ka .byte (16 : Int32) z16 (.int (0 : Int32))) (E_a2 : Exa Z h0 a2 "java/lang/String") (F_coder_a2 : Fld Z h0 a2 "java/lang/String" "coder" "B" (.int (0 : Int32))) (F_value_a2 : Fld Z h0 a2 "java/lang/String" "value" "[B" (.ref sv)) (A_sv : Arv Z h0 sv ks .byte (1 : Int32) us (.int (0 : Int32))) (ge_sb : n0 ≤ sb) (ge_arr : n0 ≤ arr) (h_ne : sv ≠ arr) (hCS : ¬ zC = 0) :
    MetFree l m_33 (head1 (Jvm.Cond.code m_33 prog_51_method_2_code 2 (some (.object "com/example/tetrad/tetrad/generate/SourceText")) :: ws) (rk 5 4 36 96)) (fun a U => a = #[(.ref a1), (.ref a2)] ∧ Z.Warmed39 U.vm ∧ U.heap = h0 ∧ CHv Z own_EL U.vm h0 ∧ Safe Z own_EL U.vm h0 arr) (fun _ _ _ _ _ => True) (fun _ U o U' => ∃ v L, o = .returned v ∧ Q10_31 Z a1 a2 sb arr sv us zC ka ks h0 n0 v U'.heap L ∧ CHr Z own_EL U.vm U.heap U'.vm U'.heap ∧ ReturnedEndW U o U' L (rk 5 4 36 96).cells (rk 5 4 36 96).slots) := by
  refine MetFree.of_bodySF (plainFor_of_name pn_3) hisR ?_
  intro p e s m args below meth c s₁ Bd hml0 hP hK
  obtain ⟨rfl, hZ, hh, hCH, hSf⟩ := hP
  have hx := Bd.exec
  have hby := Bd.bytes
  have hml : c.maxLocals = 2 := hml0
  have hown : s.vm.findClass "com/example/tetrad/tetrad/generate/SourceText" = some m.cls := findClass_of_methodNamed Bd.named
  have X0 : Stand p l e (rk 5 4 36 96) (s.setVm s.vm) m #[(.ref a1), (.ref a2)] below meth c s₁ [] 0 0 := Stand.of_body Bd
  have e0 : s₁.heap = h0 := by rw [← hh, Bd.state]; rfl
  have N0 := Fr.nil n0
  have pre0 := own_pre (tb := p.tables) (e := e) (bl := below) (s := s₁) (ef_19 m a1 a2)
  have Y0 : s.Since s.vm h0.size := (State.WarmedH.refl s).since h0.size
  have Yk0 : h0.size ≤ h0.size := Nat.le_refl _
  have CR0 : CHr Z own_EL s.vm h0 s.vm h0 := CHr.refl hCH
  have hEL := own_EW hw
  have hSA := own_SA hw
  have K0 := Keep.refl h0 [sb, arr]
  obtain ⟨cq1, kq1, q1a, q1b, q1c⟩ := isOf hZ e0 E_a2
  obtain ⟨_, _, ⟨T1, L1, k1, n1⟩, -, X1, ⟨Lc1, hQ1, l1, y1, z1⟩, st1⟩ := X0.virtualBack hx (y := m_3) (z := m_3) hown (mvT hZ (tw hw 62 rfl)) (mvT hZ (tw hw 63 rfl)) (notFace_of_selects (args := #[]) (mvT hZ (tw hw 65 rfl))) (mvT hZ (tw hw 65 rfl)) (mvT hZ (tw hw 64 rfl)) (by decide) (backOf (W := 0) (rm11_n l Z a0 hw [] a2 sv (1 : Int32) us ks h0 n0 O0 (by decide) E_a2 F_coder_a2 F_value_a2 A_sv) hZ (tw hw 66 rfl) (tw hw 3 rfl) (by decide) (by decide)) q1a q1c (g := (mkF m 1 #[Rf a1, Rf a2] [(.ref a2)])) rfl (by rw [hml]; rfl) (Steps.refl _) (argsL := []) (rest := []) (lenOf pd_8 rfl) rfl (w0 rfl) (hb hby d10_1) (fun _ _ => ⟨rfl, e0, (by decide : 0 + 0 ≤ _), (by decide : 0 + 0 ≤ _)⟩)
  dsimp only [Pt.U, Pt.locs, Pt.cells, Pt.slots] at X1 l1 y1 z1 st1 hQ1
  subst l1 y1 z1
  obtain ⟨rfl, N1q, e1⟩ := hQ1
  have N1 := Fr.app N0 N1q
  obtain ⟨T2, X2, e2, st2⟩ := getF X1 hx hZ hown (host := "") (Or.inl (tw hw 55 rfl)) Via.refl e1 F_text_a1 (g := (mkF m 8 #[Rf a1, Rf a2] [(.ref a1)])) rfl rfl (hb hby d10_8)
  obtain ⟨sa3, T3, h3, k3, sb3, kb3, X3, e3, E3, Y3, Yk3, hZ3, hown3, A3, Fc3, Fv3, V3, la3, lb3, C3, Lt3, SF3, st3⟩ := ldcCH X2 hx hZ hown (tw hw 67 rfl) hSA e2 Y0 Yk0 hEL (own_mem (by decide)) CR0.1 (vs := [(.int (32 : Int32)), (.int (32 : Int32)), (.int (32 : Int32)), (.int (32 : Int32))]) (z := (4 : Int32)) (by decide) (by decide) (by decide) (g := (mkF m 11 #[Rf a1, Rf a2] [(.ref sb)])) rfl (hb hby d10_11) (n := 16) (by decide) (by decide) (by decide) (by decide)
  have O4 := O0.ext E3
  have K3 := K0.ext E3
  have CR5 := CR0.trans (C3)
  obtain ⟨T6, X6, e6, st6⟩ := getF X3 hx hZ3 hown3 (host := "") (Or.inl (tw hw 70 rfl)) Via.refl e3 (F_depth_a1.ext E3) (g := (mkF m 14 #[Rf a1, Rf a2] [(.ref a1), (.ref sa3), (.ref sb)])) rfl rfl (hb hby d10_14)
  obtain ⟨cq7, kq7, q7a, q7b, q7c⟩ := isOf hZ3 e6 A3
  obtain ⟨_, _, ⟨T7, L7, k7, n7⟩, -, X7, ⟨Lc7, hQ7, l7, y7, z7⟩, st7⟩ := X6.virtualBack hx (y := m_32) (z := m_32) hown3 (mvT hZ3 (tw hw 72 rfl)) (mvT hZ3 (tw hw 73 rfl)) (notFace_of_selects (args := #[]) (mvT hZ3 (tw hw 75 rfl))) (mvT hZ3 (tw hw 75 rfl)) (mvT hZ3 (tw hw 74 rfl)) (by decide) (backOf (W := 1) (rm12_3 l Z a0 hw [] sa3 sb3 s4 kb3 h3 n0 O4 A3 Fc3 Fv3 V3) hZ3 (tw hw 76 rfl) (tw hw 3 rfl) (by decide) (by decide)) q7a q7c (g := (mkF m 17 #[Rf a1, Rf a2] [(.int (3 : Int32)), (.ref sa3), (.ref sb)])) rfl (by rw [hml]; rfl) (Steps.refl _) (argsL := [(.int (3 : Int32))]) (rest := [(.ref sb)]) (lenOf pd_20 rfl) rfl (w0 rfl) (hb hby d10_17) (fun _ _ => ⟨rfl, e6, (by decide : 2 + 2 ≤ _), (by decide : 20 + 16 ≤ _)⟩)
  dsimp only [Pt.U, Pt.locs, Pt.cells, Pt.slots] at X7 l7 y7 z7 st7 hQ7
  subst l7 y7 z7
  obtain ⟨rs_7, ro_7, ko_7, rfl, N7q, K7q, O7, f7_0, f7_1, f7_2, f7_3, f7_4, f7_5, f7_6, f7_7⟩ := hQ7
  have N7 := Fr.app N1 N7q
  have CR8 := CR5.trans (CHr.keep K7q all0 CR5.1)
  have K7 := K3.trans K7q all0
  obtain ⟨cq9, kq9, q9a, q9b, q9c⟩ := isOf hZ3 rfl ((E_sb.ext E3).keep K7q)
  obtain ⟨_, _, ⟨T9, L9, k9, n9⟩, -, X9, ⟨Lc9, hQ9, l9, y9, z9⟩, st9⟩ := X7.virtualBack hx (y := m_18) (z := m_18) hown3 (mvT hZ3 (tw hw 78 rfl)) (mvT hZ3 (tw hw 79 rfl)) (notFace_of_selects (args := #[]) (mvT hZ3 (tw hw 81 rfl))) (mvT hZ3 (tw hw 81 rfl)) (mvT hZ3 (tw hw 80 rfl)) (by decide) (backOf (W := 0) (rm13 l Z a0 hw [] sb rs_7 arr (0 : Int32) 0 z16 ro_7 (12 : Int32) 12 (cpy (cpy (cpy z16 0 s4 0 4) 4 (cpy z16 0 s4 0 4) 0 4) 8 (cpy (cpy z16 0 s4 0 4) 4 (cpy z16 0 s4 0 4) 0 4) 0 4) zC ka ko_7 T7.heap n0 O7 hCS sC ((E_sb.ext E3).keep K7q) ((F_value_sb.ext E3).keep K7q nin0) ((F_coder_sb.ext E3).keep K7q nin0) ((F_count_sb.ext E3).keep K7q nin0) ((A_arr.ext E3).keep K7q nin0) f7_0 f7_3 f7_4 f7_5 ge_sb ge_arr (Sm.lit (x := (0 : Int32)) (n := 0) (by decide)) (Sm.lit (x := (12 : Int32)) (n := 12) (by decide)) (by decide) rfl) hZ3 (tw hw 82 rfl) (tw hw 39 rfl) (by decide) (by decide)) q9a q9c (g := (mkF m 20 #[Rf a1, Rf a2] [(.ref rs_7), (.ref sb)])) rfl (by rw [hml]; rfl) (Steps.refl _) (argsL := [(.ref rs_7)]) (rest := []) (lenOf pd_21 rfl) rfl (w0 rfl) (hb hby d10_20) (fun _ _ => ⟨rfl, rfl, (by decide : 4 + 0 ≤ _), (by decide : 36 + 0 ≤ _)⟩)
  dsimp only [Pt.U, Pt.locs, Pt.cells, Pt.slots] at X9 l9 y9 z9 st9 hQ9
  subst l9 y9 z9
  obtain ⟨rfl, N9q, K9q, O9, f9_0, f9_1, f9_2, f9_3⟩ := hQ9
  have N9 := Fr.app N7 N9q
  have CR10 := CR8.trans (CHr.keep K9q (allS (Safe.exa hZ3.alike ((E_sb.ext E3).keep K7q) (by decide) (by decide)) (allS (Safe.keep K7q all0 CR5.1 (C3.safe A_arr.lt hSf)) all0)) CR8.1)
  have Sf9_arr := (Safe.keep K9q (allS (Safe.exa hZ3.alike ((E_sb.ext E3).keep K7q) (by decide) (by decide)) (allS (Safe.keep K7q all0 CR5.1 (C3.safe A_arr.lt hSf)) all0)) CR8.1 (Safe.keep K7q all0 CR5.1 (C3.safe A_arr.lt hSf)))
  have K9 := K7.trans K9q (allS (Or.inl (List.mem_of_getElem? (i := 0) rfl)) (allS (Or.inl (List.mem_of_getElem? (i := 1) rfl)) all0))
  obtain ⟨cq11, kq11, q11a, q11b, q11c⟩ := isOf hZ3 rfl (((E_sb.ext E3).keep K7q).keep K9q)
  obtain ⟨_, _, ⟨T11, L11, k11, n11⟩, -, X11, ⟨Lc11, hQ11, l11, y11, z11⟩, st11⟩ := X9.virtualBack hx (y := m_18) (z := m_18) hown3 (mvT hZ3 (tw hw 78 rfl)) (mvT hZ3 (tw hw 79 rfl)) (notFace_of_selects (args := #[]) (mvT hZ3 (tw hw 81 rfl))) (mvT hZ3 (tw hw 81 rfl)) (mvT hZ3 (tw hw 80 rfl)) (by decide) (backOf (W := 0) (rm13 l Z a0 hw [] sb a2 arr ((0 : Int32) + (12 : Int32)) 12 (cpy z16 0 (cpy (cpy (cpy z16 0 s4 0 4) 4 (cpy z16 0 s4 0 4) 0 4) 8 (cpy (cpy z16 0 s4 0 4) 4 (cpy z16 0 s4 0 4) 0 4) 0 4) 0 12) sv (1 : Int32) 1 us zC ka ks T9.heap n0 O9 hCS sC (((E_sb.ext E3).keep K7q).keep K9q) f9_0 f9_1 f9_2 f9_3 (((E_a2.ext E3).keep K7q).keep K9q) (((F_coder_a2.ext E3).keep K7q nin0).keep K9q (ninS (Exa.ne E_a2 E_sb (by decide)) (ninS (Exa.neArv (((E_a2.ext E3).keep K7q).keep K9q) f9_3 (tw hw 2 rfl)) nin0))) (((F_value_a2.ext E3).keep K7q nin0).keep K9q (ninS (Exa.ne E_a2 E_sb (by decide)) (ninS (Exa.neArv (((E_a2.ext E3).keep K7q).keep K9q) f9_3 (tw hw 2 rfl)) nin0))) (((A_sv.ext E3).keep K7q nin0).keep K9q (ninS (Ne.symm (Exa.neArv E_sb A_sv (tw hw 38 rfl))) (ninS h_ne nin0))) ge_sb ge_arr (Sm.lit (x := ((0 : Int32) + (12 : Int32))) (n := 12) (by decide)) (Sm.lit (x := (1 : Int32)) (n := 1) (by decide)) (by decide) (own_cpyl rfl (by decide))) hZ3 (tw hw 82 rfl) (tw hw 39 rfl) (by decide) (by decide)) q11a q11c (g := (mkF m 24 #[Rf a1, Rf a2] [(.ref a2), (.ref sb)])) rfl (by rw [hml]; rfl) (Steps.refl _) (argsL := [(.ref a2)]) (rest := []) (lenOf pd_21 rfl) rfl (w0 rfl) (hb hby d10_24) (fun _ _ => ⟨rfl, rfl, (by decide : 4 + 0 ≤ _), (by decide : 36 + 0 ≤ _)⟩)
  dsimp only [Pt.U, Pt.locs, Pt.cells, Pt.slots] at X11 l11 y11 z11 st11 hQ11
  subst l11 y11 z11
  obtain ⟨rfl, N11q, K11q, O11, f11_0, f11_1, f11_2, f11_3⟩ := hQ11
  have N11 := Fr.app N9 N11q
  have CR12 := CR10.trans (CHr.keep K11q (allS (Safe.exa hZ3.alike (((E_sb.ext E3).keep K7q).keep K9q) (by decide) (by decide)) (allS Sf9_arr all0)) CR10.1)
  have Sf11_arr := (Safe.keep K11q (allS (Safe.exa hZ3.alike (((E_sb.ext E3).keep K7q).keep K9q) (by decide) (by decide)) (allS Sf9_arr all0)) CR10.1 Sf9_arr)
  have K11 := K9.trans K11q (allS (Or.inl (List.mem_of_getElem? (i := 0) rfl)) (allS (Or.inl (List.mem_of_getElem? (i := 1) rfl)) all0))
  obtain ⟨T13, X13, e13, st13⟩ := getF X11 hx hZ3 hown3 (host := "") (Or.inl (tw hw 55 rfl)) Via.refl rfl ((((F_text_a1.ext E3).keep K7q nin0).keep K9q (ninS (Exa.ne E_a1 E_sb (by decide)) (ninS (Exa.neArv ((((E_a1.ext E3).keep K7q).keep K9q).keep K11q) f11_3 (tw hw 31 rfl)) nin0))).keep K11q (ninS (Exa.ne E_a1 E_sb (by decide)) (ninS (Exa.neArv ((((E_a1.ext E3).keep K7q).keep K9q).keep K11q) f11_3 (tw hw 31 rfl)) nin0))) (g := (mkF m 29 #[Rf a1, Rf a2] [(.ref a1)])) rfl rfl (hb hby d10_29)
  obtain ⟨cq14, kq14, q14a, q14b, q14c⟩ := isOf hZ3 e13 ((((E_sb.ext E3).keep K7q).keep K9q).keep K11q)
  obtain ⟨_, _, ⟨T14, L14, k14, n14⟩, -, X14, ⟨Lc14, hQ14, l14, y14, z14⟩, st14⟩ := X13.virtualBack hx (y := m_21) (z := m_21) hown3 (mvT hZ3 (tw hw 125 rfl)) (mvT hZ3 (tw hw 126 rfl)) (notFace_of_selects (args := #[]) (mvT hZ3 (tw hw 128 rfl))) (mvT hZ3 (tw hw 128 rfl)) (mvT hZ3 (tw hw 127 rfl)) (by decide) (backOf (W := 0) (rm21 l Z a0 hw [] sb (10 : Int32) arr (((0 : Int32) + (12 : Int32)) + (1 : Int32)) 13 (cpy (cpy z16 0 (cpy (cpy (cpy z16 0 s4 0 4) 4 (cpy z16 0 s4 0 4) 0 4) 8 (cpy (cpy z16 0 s4 0 4) 4 (cpy z16 0 s4 0 4) 0 4) 0 4) 0 12) 12 us 0 1) zC ka T11.heap n0 O11 hCS sC ((((E_sb.ext E3).keep K7q).keep K9q).keep K11q) f11_0 f11_1 f11_2 f11_3 ge_sb ge_arr (Sm.lit (x := (((0 : Int32) + (12 : Int32)) + (1 : Int32))) (n := 13) (by decide)) (by decide) (own_cpyl (own_cpyl rfl (by decide)) (by decide)) (by decide)) hZ3 (tw hw 129 rfl) (tw hw 39 rfl) (by decide) (by decide)) q14a q14c (g := (mkF m 34 #[Rf a1, Rf a2] [(.int (10 : Int32)), (.ref sb)])) rfl (by rw [hml]; rfl) (Steps.refl _) (argsL := [(.int (10 : Int32))]) (rest := []) (lenOf pd_22 rfl) rfl (w0 rfl) (hb hby d10_34) (fun _ _ => ⟨rfl, e13, (by decide : 4 + 0 ≤ _), (by decide : 36 + 0 ≤ _)⟩)
  dsimp only [Pt.U, Pt.locs, Pt.cells, Pt.slots] at X14 l14 y14 z14 st14 hQ14
  subst l14 y14 z14
  obtain ⟨rfl, N14q, K14q, O14, f14_0, f14_1, f14_2, f14_3⟩ := hQ14
  have N14 := Fr.app N11 N14q
  have CR15 := CR12.trans (CHr.keep K14q (allS (Safe.exa hZ3.alike ((((E_sb.ext E3).keep K7q).keep K9q).keep K11q) (by decide) (by decide)) (allS Sf11_arr all0)) CR12.1)
  have Sf14_arr := (Safe.keep K14q (allS (Safe.exa hZ3.alike ((((E_sb.ext E3).keep K7q).keep K9q).keep K11q) (by decide) (by decide)) (allS Sf11_arr all0)) CR12.1 Sf11_arr)
  have K14 := K11.trans K14q (allS (Or.inl (List.mem_of_getElem? (i := 0) rfl)) (allS (Or.inl (List.mem_of_getElem? (i := 1) rfl)) all0))
  have sg16 : SG p.tables e below (T14.setTop (mkF m 39 #[Rf a1, Rf a2] [(.ref a1)])) (s₁.setTop (mkF m 0 #[Rf a1, Rf a2] [])) := by
    intro target kt
    show Steps _ _ _ (s₁.setTop (mkF m 0 #[Rf a1, Rf a2] [])) _
    refine XS.aloadN X0.here hx rfl (hb hby d10_0) rfl rfl ?_
    refine st1.trans ?_
    refine XS.ifNo X1.here hx rfl (hb hby d10_4) rfl ((if0 _ _).trans (teq (by decide : (0 : Int32) = (0 : Int32))).2) ?_
    refine XS.aloadN X1.here hx rfl (hb hby d10_7) rfl rfl ?_
    refine st2 _ ?_
    refine st3 _ ?_
    refine XS.aloadN X3.here hx rfl (hb hby d10_13) rfl rfl ?_
    refine st6 _ ?_
    refine st7.trans ?_
    refine st9.trans ?_
    refine XS.aloadN X9.here hx rfl (hb hby d10_23) rfl rfl ?_
    refine st11.trans ?_
    refine XS.pop X11.here hx rfl (hb hby d10_27) rfl rfl ?_
    refine XS.aloadN X11.here hx rfl (hb hby d10_28) rfl rfl ?_
    refine st13 _ ?_
    refine XS.bipush X13.here hx rfl (hb hby d10_32) ?_
    refine st14.trans ?_
    refine XS.pop X14.here hx rfl (hb hby d10_37) rfl rfl ?_
    refine XS.aloadN X14.here hx rfl (hb hby d10_38) rfl rfl ?_
    exact kt
  obtain ⟨fs, hr, hrun, hended, hRW⟩ := X14.leaveW Y3 (show _ ≤ T14.heap.size by exact (Nat.le_trans (Nat.le_trans (Nat.le_trans (Nat.le_trans Yk3 K7q.1) K9q.1) K11q.1) K14q.1)) (v := some (.ref a1)) (fun h => by rw [Bd.returns] at h; cases h)
  refine ⟨_, _, pre0 _ (sg16 _ (?_)), hrun, hended, _, _, rfl, ?_, (by rw [hh]; show CHr Z own_EL s.vm h0 T14.vm T14.heap; exact CR15.trans (CHv.at X14 hZ3 hEL CR15.1)), hRW.1, hRW.2.1, hRW.2.2.1, hRW.2.2.2.mono (by decide) (by decide)⟩
  · show Steps _ _ _ (T14.setTop (mkF m 39 #[Rf a1, Rf a2] [(.ref a1)])) _
    jvm_step X14.here [X14.here.top, hx, (hb hby d10_39), X14.method', Bd.returns, Value.isRef, FieldType.isReference]
    first | (intro acts; rw [hr _ acts rfl rfl rfl]) | rw [hr _ _ rfl rfl rfl]
    exact Steps.refl _
  · show Q10_31 Z a1 a2 sb arr sv us zC ka ks h0 n0 _ T14.heap _
    exact ⟨rfl, N14, K14, O14, f14_0, f14_1, (own_fi (by decide) f14_2), f14_3⟩
def Q10_32 (Z : State) (a1 : Addr) (a2 : Addr) (sb : Addr) (arr : Addr) (sv : Addr) (us : List Value) (zC : Int32) (ka : ClassId) (ks : ClassId) (h0 : Heap) (n0 : Nat) (v : Option Value) (h : Heap) (L : List Loc) : Prop := v = some (.ref a1) ∧ Fr n0 L ∧ Keep h0 h [sb, arr] ∧ Old Z n0 h ∧ Fld Z h sb "java/lang/AbstractStringBuilder" "value" "[B" (.ref arr) ∧ Fld Z h sb "java/lang/AbstractStringBuilder" "coder" "B" (.int (0 : Int32)) ∧ Fld Z h sb "java/lang/AbstractStringBuilder" "count" "I" (.int (15 : Int32)) ∧ Arv Z h arr ka .byte (16 : Int32) ((cpy (cpy z16 0 (cpy (cpy (cpy z16 0 s4 0 4) 4 (cpy z16 0 s4 0 4) 0 4) 8 (cpy (cpy z16 0 s4 0 4) 4 (cpy z16 0 s4 0 4) 0 4) 0 4) 0 12) 12 us 0 2).set 14 (.int ((10 : Int32).toInt8.toInt32.toInt8.toInt32))) (.int (0 : Int32))
theorem rm10_32 (l : Launch) (Z : State) (a0 : Array Value) (hw : ∀ d ∈ tables_1, d.before a0 Z = true) (ws : List Jvm.Cond) (a1 : Addr) (a2 : Addr) (sb : Addr) (arr : Addr) (sv : Addr) (us : List Value) (zC : Int32) (ka : ClassId) (ks : ClassId) (h0 : Heap) (n0 : Nat) (O0 : Old Z n0 h0) (sC : TS_0 Z zC) (E_a1 : Exa Z h0 a1 "com/example/tetrad/tetrad/generate/SourceText") (F_text_a1 : Fld Z h0 a1 "com/example/tetrad/tetrad/generate/SourceText" "text" "Ljava/lang/StringBuilder;" (.ref sb)) (F_depth_a1 : Fld Z h0 a1 "com/example/tetrad/tetrad/generate/SourceText" "depth" "I" (.int (3 : Int32))) (E_sb : Exa Z h0 sb "java/lang/StringBuilder") (F_value_sb : Fld Z h0 sb "java/lang/AbstractStringBuilder" "value" "[B" (.ref arr)) (F_coder_sb : Fld Z h0 sb "java/lang/AbstractStringBuilder" "coder" "B" (.int (0 : Int32))) (F_count_sb : Fld Z h0 sb "java/lang/AbstractStringBuilder" "count" "I" (.int (0 : Int32))) (A_arr : Arv Z h0 arr ka .byte (16 : Int32) z16 (.int (0 : Int32))) (E_a2 : Exa Z h0 a2 "java/lang/String") (F_coder_a2 : Fld Z h0 a2 "java/lang/String" "coder" "B" (.int (0 : Int32))) (F_value_a2 : Fld Z h0 a2 "java/lang/String" "value" "[B" (.ref sv)) (A_sv : Arv Z h0 sv ks .byte (2 : Int32) us (.int (0 : Int32))) (ge_sb : n0 ≤ sb) (ge_arr : n0 ≤ arr) (h_ne : sv ≠ arr) (hCS : ¬ zC = 0) :
    MetFree l m_33 (head1 (Jvm.Cond.code m_33 prog_51_method_2_code 2 (some (.object "com/example/tetrad/tetrad/generate/SourceText")) :: ws) (rk 5 4 36 96)) (fun a U => a = #[(.ref a1), (.ref a2)] ∧ Z.Warmed39 U.vm ∧ U.heap = h0 ∧ CHv Z own_EL U.vm h0 ∧ Safe Z own_EL U.vm h0 arr) (fun _ _ _ _ _ => True) (fun _ U o U' => ∃ v L, o = .returned v ∧ Q10_32 Z a1 a2 sb arr sv us zC ka ks h0 n0 v U'.heap L ∧ CHr Z own_EL U.vm U.heap U'.vm U'.heap ∧ ReturnedEndW U o U' L (rk 5 4 36 96).cells (rk 5 4 36 96).slots) := by
  refine MetFree.of_bodySF (plainFor_of_name pn_3) hisR ?_
  intro p e s m args below meth c s₁ Bd hml0 hP hK
  obtain ⟨rfl, hZ, hh, hCH, hSf⟩ := hP
  have hx := Bd.exec
  have hby := Bd.bytes
  have hml : c.maxLocals = 2 := hml0
  have hown : s.vm.findClass "com/example/tetrad/tetrad/generate/SourceText" = some m.cls := findClass_of_methodNamed Bd.named
  have X0 : Stand p l e (rk 5 4 36 96) (s.setVm s.vm) m #[(.ref a1), (.ref a2)] below meth c s₁ [] 0 0 := Stand.of_body Bd
  have e0 : s₁.heap = h0 := by rw [← hh, Bd.state]; rfl
  have N0 := Fr.nil n0
  have pre0 := own_pre (tb := p.tables) (e := e) (bl := below) (s := s₁) (ef_19 m a1 a2)
  have Y0 : s.Since s.vm h0.size := (State.WarmedH.refl s).since h0.size
  have Yk0 : h0.size ≤ h0.size := Nat.le_refl _
  have CR0 : CHr Z own_EL s.vm h0 s.vm h0 := CHr.refl hCH
  have hEL := own_EW hw
  have hSA := own_SA hw
  have K0 := Keep.refl h0 [sb, arr]
  obtain ⟨cq1, kq1, q1a, q1b, q1c⟩ := isOf hZ e0 E_a2
  obtain ⟨_, _, ⟨T1, L1, k1, n1⟩, -, X1, ⟨Lc1, hQ1, l1, y1, z1⟩, st1⟩ := X0.virtualBack hx (y := m_3) (z := m_3) hown (mvT hZ (tw hw 62 rfl)) (mvT hZ (tw hw 63 rfl)) (notFace_of_selects (args := #[]) (mvT hZ (tw hw 65 rfl))) (mvT hZ (tw hw 65 rfl)) (mvT hZ (tw hw 64 rfl)) (by decide) (backOf (W := 0) (rm11_n l Z a0 hw [] a2 sv (2 : Int32) us ks h0 n0 O0 (by decide) E_a2 F_coder_a2 F_value_a2 A_sv) hZ (tw hw 66 rfl) (tw hw 3 rfl) (by decide) (by decide)) q1a q1c (g := (mkF m 1 #[Rf a1, Rf a2] [(.ref a2)])) rfl (by rw [hml]; rfl) (Steps.refl _) (argsL := []) (rest := []) (lenOf pd_8 rfl) rfl (w0 rfl) (hb hby d10_1) (fun _ _ => ⟨rfl, e0, (by decide : 0 + 0 ≤ _), (by decide : 0 + 0 ≤ _)⟩)
  dsimp only [Pt.U, Pt.locs, Pt.cells, Pt.slots] at X1 l1 y1 z1 st1 hQ1
  subst l1 y1 z1
  obtain ⟨rfl, N1q, e1⟩ := hQ1
  have N1 := Fr.app N0 N1q
  obtain ⟨T2, X2, e2, st2⟩ := getF X1 hx hZ hown (host := "") (Or.inl (tw hw 55 rfl)) Via.refl e1 F_text_a1 (g := (mkF m 8 #[Rf a1, Rf a2] [(.ref a1)])) rfl rfl (hb hby d10_8)
  obtain ⟨sa3, T3, h3, k3, sb3, kb3, X3, e3, E3, Y3, Yk3, hZ3, hown3, A3, Fc3, Fv3, V3, la3, lb3, C3, Lt3, SF3, st3⟩ := ldcCH X2 hx hZ hown (tw hw 67 rfl) hSA e2 Y0 Yk0 hEL (own_mem (by decide)) CR0.1 (vs := [(.int (32 : Int32)), (.int (32 : Int32)), (.int (32 : Int32)), (.int (32 : Int32))]) (z := (4 : Int32)) (by decide) (by decide) (by decide) (g := (mkF m 11 #[Rf a1, Rf a2] [(.ref sb)])) rfl (hb hby d10_11) (n := 16) (by decide) (by decide) (by decide) (by decide)
  have O4 := O0.ext E3
  have K3 := K0.ext E3
  have CR5 := CR0.trans (C3)
  obtain ⟨T6, X6, e6, st6⟩ := getF X3 hx hZ3 hown3 (host := "") (Or.inl (tw hw 70 rfl)) Via.refl e3 (F_depth_a1.ext E3) (g := (mkF m 14 #[Rf a1, Rf a2] [(.ref a1), (.ref sa3), (.ref sb)])) rfl rfl (hb hby d10_14)
  obtain ⟨cq7, kq7, q7a, q7b, q7c⟩ := isOf hZ3 e6 A3
  obtain ⟨_, _, ⟨T7, L7, k7, n7⟩, -, X7, ⟨Lc7, hQ7, l7, y7, z7⟩, st7⟩ := X6.virtualBack hx (y := m_32) (z := m_32) hown3 (mvT hZ3 (tw hw 72 rfl)) (mvT hZ3 (tw hw 73 rfl)) (notFace_of_selects (args := #[]) (mvT hZ3 (tw hw 75 rfl))) (mvT hZ3 (tw hw 75 rfl)) (mvT hZ3 (tw hw 74 rfl)) (by decide) (backOf (W := 1) (rm12_3 l Z a0 hw [] sa3 sb3 s4 kb3 h3 n0 O4 A3 Fc3 Fv3 V3) hZ3 (tw hw 76 rfl) (tw hw 3 rfl) (by decide) (by decide)) q7a q7c (g := (mkF m 17 #[Rf a1, Rf a2] [(.int (3 : Int32)), (.ref sa3), (.ref sb)])) rfl (by rw [hml]; rfl) (Steps.refl _) (argsL := [(.int (3 : Int32))]) (rest := [(.ref sb)]) (lenOf pd_20 rfl) rfl (w0 rfl) (hb hby d10_17) (fun _ _ => ⟨rfl, e6, (by decide : 2 + 2 ≤ _), (by decide : 20 + 16 ≤ _)⟩)
  dsimp only [Pt.U, Pt.locs, Pt.cells, Pt.slots] at X7 l7 y7 z7 st7 hQ7
  subst l7 y7 z7
  obtain ⟨rs_7, ro_7, ko_7, rfl, N7q, K7q, O7, f7_0, f7_1, f7_2, f7_3, f7_4, f7_5, f7_6, f7_7⟩ := hQ7
  have N7 := Fr.app N1 N7q
  have CR8 := CR5.trans (CHr.keep K7q all0 CR5.1)
  have K7 := K3.trans K7q all0
  obtain ⟨cq9, kq9, q9a, q9b, q9c⟩ := isOf hZ3 rfl ((E_sb.ext E3).keep K7q)
  obtain ⟨_, _, ⟨T9, L9, k9, n9⟩, -, X9, ⟨Lc9, hQ9, l9, y9, z9⟩, st9⟩ := X7.virtualBack hx (y := m_18) (z := m_18) hown3 (mvT hZ3 (tw hw 78 rfl)) (mvT hZ3 (tw hw 79 rfl)) (notFace_of_selects (args := #[]) (mvT hZ3 (tw hw 81 rfl))) (mvT hZ3 (tw hw 81 rfl)) (mvT hZ3 (tw hw 80 rfl)) (by decide) (backOf (W := 0) (rm13 l Z a0 hw [] sb rs_7 arr (0 : Int32) 0 z16 ro_7 (12 : Int32) 12 (cpy (cpy (cpy z16 0 s4 0 4) 4 (cpy z16 0 s4 0 4) 0 4) 8 (cpy (cpy z16 0 s4 0 4) 4 (cpy z16 0 s4 0 4) 0 4) 0 4) zC ka ko_7 T7.heap n0 O7 hCS sC ((E_sb.ext E3).keep K7q) ((F_value_sb.ext E3).keep K7q nin0) ((F_coder_sb.ext E3).keep K7q nin0) ((F_count_sb.ext E3).keep K7q nin0) ((A_arr.ext E3).keep K7q nin0) f7_0 f7_3 f7_4 f7_5 ge_sb ge_arr (Sm.lit (x := (0 : Int32)) (n := 0) (by decide)) (Sm.lit (x := (12 : Int32)) (n := 12) (by decide)) (by decide) rfl) hZ3 (tw hw 82 rfl) (tw hw 39 rfl) (by decide) (by decide)) q9a q9c (g := (mkF m 20 #[Rf a1, Rf a2] [(.ref rs_7), (.ref sb)])) rfl (by rw [hml]; rfl) (Steps.refl _) (argsL := [(.ref rs_7)]) (rest := []) (lenOf pd_21 rfl) rfl (w0 rfl) (hb hby d10_20) (fun _ _ => ⟨rfl, rfl, (by decide : 4 + 0 ≤ _), (by decide : 36 + 0 ≤ _)⟩)
  dsimp only [Pt.U, Pt.locs, Pt.cells, Pt.slots] at X9 l9 y9 z9 st9 hQ9
  subst l9 y9 z9
  obtain ⟨rfl, N9q, K9q, O9, f9_0, f9_1, f9_2, f9_3⟩ := hQ9
  have N9 := Fr.app N7 N9q
  have CR10 := CR8.trans (CHr.keep K9q (allS (Safe.exa hZ3.alike ((E_sb.ext E3).keep K7q) (by decide) (by decide)) (allS (Safe.keep K7q all0 CR5.1 (C3.safe A_arr.lt hSf)) all0)) CR8.1)
  have Sf9_arr := (Safe.keep K9q (allS (Safe.exa hZ3.alike ((E_sb.ext E3).keep K7q) (by decide) (by decide)) (allS (Safe.keep K7q all0 CR5.1 (C3.safe A_arr.lt hSf)) all0)) CR8.1 (Safe.keep K7q all0 CR5.1 (C3.safe A_arr.lt hSf)))
  have K9 := K7.trans K9q (allS (Or.inl (List.mem_of_getElem? (i := 0) rfl)) (allS (Or.inl (List.mem_of_getElem? (i := 1) rfl)) all0))
  obtain ⟨cq11, kq11, q11a, q11b, q11c⟩ := isOf hZ3 rfl (((E_sb.ext E3).keep K7q).keep K9q)
  obtain ⟨_, _, ⟨T11, L11, k11, n11⟩, -, X11, ⟨Lc11, hQ11, l11, y11, z11⟩, st11⟩ := X9.virtualBack hx (y := m_18) (z := m_18) hown3 (mvT hZ3 (tw hw 78 rfl)) (mvT hZ3 (tw hw 79 rfl)) (notFace_of_selects (args := #[]) (mvT hZ3 (tw hw 81 rfl))) (mvT hZ3 (tw hw 81 rfl)) (mvT hZ3 (tw hw 80 rfl)) (by decide) (backOf (W := 0) (rm13 l Z a0 hw [] sb a2 arr ((0 : Int32) + (12 : Int32)) 12 (cpy z16 0 (cpy (cpy (cpy z16 0 s4 0 4) 4 (cpy z16 0 s4 0 4) 0 4) 8 (cpy (cpy z16 0 s4 0 4) 4 (cpy z16 0 s4 0 4) 0 4) 0 4) 0 12) sv (2 : Int32) 2 us zC ka ks T9.heap n0 O9 hCS sC (((E_sb.ext E3).keep K7q).keep K9q) f9_0 f9_1 f9_2 f9_3 (((E_a2.ext E3).keep K7q).keep K9q) (((F_coder_a2.ext E3).keep K7q nin0).keep K9q (ninS (Exa.ne E_a2 E_sb (by decide)) (ninS (Exa.neArv (((E_a2.ext E3).keep K7q).keep K9q) f9_3 (tw hw 2 rfl)) nin0))) (((F_value_a2.ext E3).keep K7q nin0).keep K9q (ninS (Exa.ne E_a2 E_sb (by decide)) (ninS (Exa.neArv (((E_a2.ext E3).keep K7q).keep K9q) f9_3 (tw hw 2 rfl)) nin0))) (((A_sv.ext E3).keep K7q nin0).keep K9q (ninS (Ne.symm (Exa.neArv E_sb A_sv (tw hw 38 rfl))) (ninS h_ne nin0))) ge_sb ge_arr (Sm.lit (x := ((0 : Int32) + (12 : Int32))) (n := 12) (by decide)) (Sm.lit (x := (2 : Int32)) (n := 2) (by decide)) (by decide) (own_cpyl rfl (by decide))) hZ3 (tw hw 82 rfl) (tw hw 39 rfl) (by decide) (by decide)) q11a q11c (g := (mkF m 24 #[Rf a1, Rf a2] [(.ref a2), (.ref sb)])) rfl (by rw [hml]; rfl) (Steps.refl _) (argsL := [(.ref a2)]) (rest := []) (lenOf pd_21 rfl) rfl (w0 rfl) (hb hby d10_24) (fun _ _ => ⟨rfl, rfl, (by decide : 4 + 0 ≤ _), (by decide : 36 + 0 ≤ _)⟩)
  dsimp only [Pt.U, Pt.locs, Pt.cells, Pt.slots] at X11 l11 y11 z11 st11 hQ11
  subst l11 y11 z11
  obtain ⟨rfl, N11q, K11q, O11, f11_0, f11_1, f11_2, f11_3⟩ := hQ11
  have N11 := Fr.app N9 N11q
  have CR12 := CR10.trans (CHr.keep K11q (allS (Safe.exa hZ3.alike (((E_sb.ext E3).keep K7q).keep K9q) (by decide) (by decide)) (allS Sf9_arr all0)) CR10.1)
  have Sf11_arr := (Safe.keep K11q (allS (Safe.exa hZ3.alike (((E_sb.ext E3).keep K7q).keep K9q) (by decide) (by decide)) (allS Sf9_arr all0)) CR10.1 Sf9_arr)
  have K11 := K9.trans K11q (allS (Or.inl (List.mem_of_getElem? (i := 0) rfl)) (allS (Or.inl (List.mem_of_getElem? (i := 1) rfl)) all0))
  obtain ⟨T13, X13, e13, st13⟩ := getF X11 hx hZ3 hown3 (host := "") (Or.inl (tw hw 55 rfl)) Via.refl rfl ((((F_text_a1.ext E3).keep K7q nin0).keep K9q (ninS (Exa.ne E_a1 E_sb (by decide)) (ninS (Exa.neArv ((((E_a1.ext E3).keep K7q).keep K9q).keep K11q) f11_3 (tw hw 31 rfl)) nin0))).keep K11q (ninS (Exa.ne E_a1 E_sb (by decide)) (ninS (Exa.neArv ((((E_a1.ext E3).keep K7q).keep K9q).keep K11q) f11_3 (tw hw 31 rfl)) nin0))) (g := (mkF m 29 #[Rf a1, Rf a2] [(.ref a1)])) rfl rfl (hb hby d10_29)
  obtain ⟨cq14, kq14, q14a, q14b, q14c⟩ := isOf hZ3 e13 ((((E_sb.ext E3).keep K7q).keep K9q).keep K11q)
  obtain ⟨_, _, ⟨T14, L14, k14, n14⟩, -, X14, ⟨Lc14, hQ14, l14, y14, z14⟩, st14⟩ := X13.virtualBack hx (y := m_21) (z := m_21) hown3 (mvT hZ3 (tw hw 125 rfl)) (mvT hZ3 (tw hw 126 rfl)) (notFace_of_selects (args := #[]) (mvT hZ3 (tw hw 128 rfl))) (mvT hZ3 (tw hw 128 rfl)) (mvT hZ3 (tw hw 127 rfl)) (by decide) (backOf (W := 0) (rm21 l Z a0 hw [] sb (10 : Int32) arr (((0 : Int32) + (12 : Int32)) + (2 : Int32)) 14 (cpy (cpy z16 0 (cpy (cpy (cpy z16 0 s4 0 4) 4 (cpy z16 0 s4 0 4) 0 4) 8 (cpy (cpy z16 0 s4 0 4) 4 (cpy z16 0 s4 0 4) 0 4) 0 4) 0 12) 12 us 0 2) zC ka T11.heap n0 O11 hCS sC ((((E_sb.ext E3).keep K7q).keep K9q).keep K11q) f11_0 f11_1 f11_2 f11_3 ge_sb ge_arr (Sm.lit (x := (((0 : Int32) + (12 : Int32)) + (2 : Int32))) (n := 14) (by decide)) (by decide) (own_cpyl (own_cpyl rfl (by decide)) (by decide)) (by decide)) hZ3 (tw hw 129 rfl) (tw hw 39 rfl) (by decide) (by decide)) q14a q14c (g := (mkF m 34 #[Rf a1, Rf a2] [(.int (10 : Int32)), (.ref sb)])) rfl (by rw [hml]; rfl) (Steps.refl _) (argsL := [(.int (10 : Int32))]) (rest := []) (lenOf pd_22 rfl) rfl (w0 rfl) (hb hby d10_34) (fun _ _ => ⟨rfl, e13, (by decide : 4 + 0 ≤ _), (by decide : 36 + 0 ≤ _)⟩)
  dsimp only [Pt.U, Pt.locs, Pt.cells, Pt.slots] at X14 l14 y14 z14 st14 hQ14
  subst l14 y14 z14
  obtain ⟨rfl, N14q, K14q, O14, f14_0, f14_1, f14_2, f14_3⟩ := hQ14
  have N14 := Fr.app N11 N14q
  have CR15 := CR12.trans (CHr.keep K14q (allS (Safe.exa hZ3.alike ((((E_sb.ext E3).keep K7q).keep K9q).keep K11q) (by decide) (by decide)) (allS Sf11_arr all0)) CR12.1)
  have Sf14_arr := (Safe.keep K14q (allS (Safe.exa hZ3.alike ((((E_sb.ext E3).keep K7q).keep K9q).keep K11q) (by decide) (by decide)) (allS Sf11_arr all0)) CR12.1 Sf11_arr)
  have K14 := K11.trans K14q (allS (Or.inl (List.mem_of_getElem? (i := 0) rfl)) (allS (Or.inl (List.mem_of_getElem? (i := 1) rfl)) all0))
  have sg16 : SG p.tables e below (T14.setTop (mkF m 39 #[Rf a1, Rf a2] [(.ref a1)])) (s₁.setTop (mkF m 0 #[Rf a1, Rf a2] [])) := by
    intro target kt
    show Steps _ _ _ (s₁.setTop (mkF m 0 #[Rf a1, Rf a2] [])) _
    refine XS.aloadN X0.here hx rfl (hb hby d10_0) rfl rfl ?_
    refine st1.trans ?_
    refine XS.ifNo X1.here hx rfl (hb hby d10_4) rfl ((if0 _ _).trans (teq (by decide : (0 : Int32) = (0 : Int32))).2) ?_
    refine XS.aloadN X1.here hx rfl (hb hby d10_7) rfl rfl ?_
    refine st2 _ ?_
    refine st3 _ ?_
    refine XS.aloadN X3.here hx rfl (hb hby d10_13) rfl rfl ?_
    refine st6 _ ?_
    refine st7.trans ?_
    refine st9.trans ?_
    refine XS.aloadN X9.here hx rfl (hb hby d10_23) rfl rfl ?_
    refine st11.trans ?_
    refine XS.pop X11.here hx rfl (hb hby d10_27) rfl rfl ?_
    refine XS.aloadN X11.here hx rfl (hb hby d10_28) rfl rfl ?_
    refine st13 _ ?_
    refine XS.bipush X13.here hx rfl (hb hby d10_32) ?_
    refine st14.trans ?_
    refine XS.pop X14.here hx rfl (hb hby d10_37) rfl rfl ?_
    refine XS.aloadN X14.here hx rfl (hb hby d10_38) rfl rfl ?_
    exact kt
  obtain ⟨fs, hr, hrun, hended, hRW⟩ := X14.leaveW Y3 (show _ ≤ T14.heap.size by exact (Nat.le_trans (Nat.le_trans (Nat.le_trans (Nat.le_trans Yk3 K7q.1) K9q.1) K11q.1) K14q.1)) (v := some (.ref a1)) (fun h => by rw [Bd.returns] at h; cases h)
  refine ⟨_, _, pre0 _ (sg16 _ (?_)), hrun, hended, _, _, rfl, ?_, (by rw [hh]; show CHr Z own_EL s.vm h0 T14.vm T14.heap; exact CR15.trans (CHv.at X14 hZ3 hEL CR15.1)), hRW.1, hRW.2.1, hRW.2.2.1, hRW.2.2.2.mono (by decide) (by decide)⟩
  · show Steps _ _ _ (T14.setTop (mkF m 39 #[Rf a1, Rf a2] [(.ref a1)])) _
    jvm_step X14.here [X14.here.top, hx, (hb hby d10_39), X14.method', Bd.returns, Value.isRef, FieldType.isReference]
    first | (intro acts; rw [hr _ acts rfl rfl rfl]) | rw [hr _ _ rfl rfl rfl]
    exact Steps.refl _
  · show Q10_32 Z a1 a2 sb arr sv us zC ka ks h0 n0 _ T14.heap _
    exact ⟨rfl, N14, K14, O14, f14_0, f14_1, (own_fi (by decide) f14_2), f14_3⟩
def Q10_e (Z : State) (a1 : Addr) (a2 : Addr) (sb : Addr) (arr : Addr) (sv : Addr) (us : List Value) (zC : Int32) (ka : ClassId) (ks : ClassId) (h0 : Heap) (n0 : Nat) (v : Option Value) (h : Heap) (L : List Loc) : Prop := v = some (.ref a1) ∧ Fr n0 L ∧ Keep h0 h [sb, arr] ∧ Old Z n0 h ∧ Fld Z h sb "java/lang/AbstractStringBuilder" "value" "[B" (.ref arr) ∧ Fld Z h sb "java/lang/AbstractStringBuilder" "coder" "B" (.int (0 : Int32)) ∧ Fld Z h sb "java/lang/AbstractStringBuilder" "count" "I" (.int (1 : Int32)) ∧ Arv Z h arr ka .byte (16 : Int32) (z16.set 0 (.int ((10 : Int32).toInt8.toInt32.toInt8.toInt32))) (.int (0 : Int32))
theorem rm10_e (l : Launch) (Z : State) (a0 : Array Value) (hw : ∀ d ∈ tables_1, d.before a0 Z = true) (ws : List Jvm.Cond) (a1 : Addr) (a2 : Addr) (sb : Addr) (arr : Addr) (sv : Addr) (us : List Value) (zC : Int32) (ka : ClassId) (ks : ClassId) (h0 : Heap) (n0 : Nat) (O0 : Old Z n0 h0) (sC : TS_0 Z zC) (E_a1 : Exa Z h0 a1 "com/example/tetrad/tetrad/generate/SourceText") (F_text_a1 : Fld Z h0 a1 "com/example/tetrad/tetrad/generate/SourceText" "text" "Ljava/lang/StringBuilder;" (.ref sb)) (E_sb : Exa Z h0 sb "java/lang/StringBuilder") (F_value_sb : Fld Z h0 sb "java/lang/AbstractStringBuilder" "value" "[B" (.ref arr)) (F_coder_sb : Fld Z h0 sb "java/lang/AbstractStringBuilder" "coder" "B" (.int (0 : Int32))) (F_count_sb : Fld Z h0 sb "java/lang/AbstractStringBuilder" "count" "I" (.int (0 : Int32))) (A_arr : Arv Z h0 arr ka .byte (16 : Int32) z16 (.int (0 : Int32))) (E_a2 : Exa Z h0 a2 "java/lang/String") (F_coder_a2 : Fld Z h0 a2 "java/lang/String" "coder" "B" (.int (0 : Int32))) (F_value_a2 : Fld Z h0 a2 "java/lang/String" "value" "[B" (.ref sv)) (A_sv : Arv Z h0 sv ks .byte (0 : Int32) us (.int (0 : Int32))) (ge_sb : n0 ≤ sb) (ge_arr : n0 ≤ arr) (h_ne : sv ≠ arr) (hCS : ¬ zC = 0) :
    MetFree l m_33 (head1 (Jvm.Cond.code m_33 prog_51_method_2_code 2 (some (.object "com/example/tetrad/tetrad/generate/SourceText")) :: ws) (rk 3 0 0 40)) (fun a U => a = #[(.ref a1), (.ref a2)] ∧ Z.Warmed39 U.vm ∧ U.heap = h0) (fun _ _ _ _ _ => True) (fun _ U o U' => ∃ v L, o = .returned v ∧ Q10_e Z a1 a2 sb arr sv us zC ka ks h0 n0 v U'.heap L ∧ FrameEnd U o U' L (rk 3 0 0 40).cells (rk 3 0 0 40).slots) := by
  refine MetFree.of_bodySF (plainFor_of_name pn_3) hisR ?_
  intro p e s m args below meth c s₁ Bd hml0 hP hK
  obtain ⟨rfl, hZ, hh⟩ := hP
  have hx := Bd.exec
  have hby := Bd.bytes
  have hml : c.maxLocals = 2 := hml0
  have hown : s.vm.findClass "com/example/tetrad/tetrad/generate/SourceText" = some m.cls := findClass_of_methodNamed Bd.named
  have X0 : Stand p l e (rk 3 0 0 40) s m #[(.ref a1), (.ref a2)] below meth c s₁ [] 0 0 := Stand.of_body Bd
  have e0 : s₁.heap = h0 := by rw [← hh, Bd.state]; rfl
  have N0 := Fr.nil n0
  have pre0 := own_pre (tb := p.tables) (e := e) (bl := below) (s := s₁) (ef_19 m a1 a2)
  have K0 := Keep.refl h0 [sb, arr]
  obtain ⟨cq1, kq1, q1a, q1b, q1c⟩ := isOf hZ e0 E_a2
  obtain ⟨_, _, ⟨T1, L1, k1, n1⟩, -, X1, ⟨Lc1, hQ1, l1, y1, z1⟩, st1⟩ := X0.virtualBack hx (y := m_3) (z := m_3) hown (mvT hZ (tw hw 62 rfl)) (mvT hZ (tw hw 63 rfl)) (notFace_of_selects (args := #[]) (mvT hZ (tw hw 65 rfl))) (mvT hZ (tw hw 65 rfl)) (mvT hZ (tw hw 64 rfl)) (by decide) (backOf (W := 0) (rm11_e l Z a0 hw [] a2 sv us ks h0 n0 O0 E_a2 F_coder_a2 F_value_a2 A_sv) hZ (tw hw 66 rfl) (tw hw 3 rfl) (by decide) (by decide)) q1a q1c (g := (mkF m 1 #[Rf a1, Rf a2] [(.ref a2)])) rfl (by rw [hml]; rfl) (Steps.refl _) (argsL := []) (rest := []) (lenOf pd_8 rfl) rfl (w0 rfl) (hb hby d10_1) (fun _ _ => ⟨rfl, e0, (by decide : 0 + 0 ≤ _), (by decide : 0 + 0 ≤ _)⟩)
  dsimp only [Pt.U, Pt.locs, Pt.cells, Pt.slots] at X1 l1 y1 z1 st1 hQ1
  subst l1 y1 z1
  obtain ⟨rfl, N1q, e1⟩ := hQ1
  have N1 := Fr.app N0 N1q
  obtain ⟨T2, X2, e2, st2⟩ := getF X1 hx hZ hown (host := "") (Or.inl (tw hw 55 rfl)) Via.refl e1 F_text_a1 (g := (mkF m 29 #[Rf a1, Rf a2] [(.ref a1)])) rfl rfl (hb hby d10_29)
  obtain ⟨cq3, kq3, q3a, q3b, q3c⟩ := isOf hZ e2 E_sb
  obtain ⟨_, _, ⟨T3, L3, k3, n3⟩, -, X3, ⟨Lc3, hQ3, l3, y3, z3⟩, st3⟩ := X2.virtualBack hx (y := m_21) (z := m_21) hown (mvT hZ (tw hw 125 rfl)) (mvT hZ (tw hw 126 rfl)) (notFace_of_selects (args := #[]) (mvT hZ (tw hw 128 rfl))) (mvT hZ (tw hw 128 rfl)) (mvT hZ (tw hw 127 rfl)) (by decide) (backOf (W := 0) (rm21 l Z a0 hw [] sb (10 : Int32) arr (0 : Int32) 0 z16 zC ka h0 n0 O0 hCS sC E_sb F_value_sb F_coder_sb F_count_sb A_arr ge_sb ge_arr (Sm.lit (x := (0 : Int32)) (n := 0) (by decide)) (by decide) rfl (by decide)) hZ (tw hw 129 rfl) (tw hw 39 rfl) (by decide) (by decide)) q3a q3c (g := (mkF m 34 #[Rf a1, Rf a2] [(.int (10 : Int32)), (.ref sb)])) rfl (by rw [hml]; rfl) (Steps.refl _) (argsL := [(.int (10 : Int32))]) (rest := []) (lenOf pd_22 rfl) rfl (w0 rfl) (hb hby d10_34) (fun _ _ => ⟨rfl, e2, (by decide : 0 + 0 ≤ _), (by decide : 0 + 0 ≤ _)⟩)
  dsimp only [Pt.U, Pt.locs, Pt.cells, Pt.slots] at X3 l3 y3 z3 st3 hQ3
  subst l3 y3 z3
  obtain ⟨rfl, N3q, K3q, O3, f3_0, f3_1, f3_2, f3_3⟩ := hQ3
  have N3 := Fr.app N1 N3q
  have K3 := K0.trans K3q (allS (Or.inl (List.mem_of_getElem? (i := 0) rfl)) (allS (Or.inl (List.mem_of_getElem? (i := 1) rfl)) all0))
  have sg4 : SG p.tables e below (T3.setTop (mkF m 39 #[Rf a1, Rf a2] [(.ref a1)])) (s₁.setTop (mkF m 0 #[Rf a1, Rf a2] [])) := by
    intro target kt
    show Steps _ _ _ (s₁.setTop (mkF m 0 #[Rf a1, Rf a2] [])) _
    refine XS.aloadN X0.here hx rfl (hb hby d10_0) rfl rfl ?_
    refine st1.trans ?_
    refine XS.ifYes X1.here hx rfl (pc0 := 4) (pc' := 28) rfl (hb hby d10_4) rfl ((if0 _ _).trans (feq (by decide : ¬ ((1 : Int32) = (0 : Int32)))).2) (by decide) (by decide) ?_
    refine XS.aloadN X1.here hx rfl (hb hby d10_28) rfl rfl ?_
    refine st2 _ ?_
    refine XS.bipush X2.here hx rfl (hb hby d10_32) ?_
    refine st3.trans ?_
    refine XS.pop X3.here hx rfl (hb hby d10_37) rfl rfl ?_
    refine XS.aloadN X3.here hx rfl (hb hby d10_38) rfl rfl ?_
    exact kt
  obtain ⟨fs, hr, hrun, hended, hW, hsame⟩ := X3.leave (v := some (.ref a1)) (fun h => by rw [Bd.returns] at h; cases h)
  refine ⟨_, _, pre0 _ (sg4 _ (?_)), hrun, hended, _, _, rfl, ?_, ⟨_, rfl⟩, hW, hsame.mono (by decide) (by decide)⟩
  · show Steps _ _ _ (T3.setTop (mkF m 39 #[Rf a1, Rf a2] [(.ref a1)])) _
    jvm_step X3.here [X3.here.top, hx, (hb hby d10_39), X3.method', Bd.returns, Value.isRef, FieldType.isReference]
    first | (intro acts; rw [hr _ acts rfl rfl rfl]) | rw [hr _ _ rfl rfl rfl]
    exact Steps.refl _
  · show Q10_e Z a1 a2 sb arr sv us zC ka ks h0 n0 _ T3.heap _
    exact ⟨rfl, N3, K3, O3, f3_0, f3_1, (own_fi (by decide) f3_2), f3_3⟩
def Q41_n (Z : State) (p1 : Int32) (p2 : Int32) (h0 : Heap) (n0 : Nat) (v : Option Value) (h : Heap) (L : List Loc) : Prop := v = some (.int p1) ∧ Fr n0 L ∧ h = h0
theorem ef_41_n (m : MethodId) (x0 : Int32) (x1 : Int32) : entryFrame m #[(.int x0), (.int x1), .null] 3 = mkF m 0 #[.val (.int x0), .val (.int x1), .val .null] [] := by first | (simp [entryFrame, mkF, argsToLocals, Value.category]; done) | rfl
theorem rm41_n (l : Launch) (Z : State) (a0 : Array Value) (hw : ∀ d ∈ tables_1, d.before a0 Z = true) (ws : List Jvm.Cond) (p1 : Int32) (p2 : Int32) (h0 : Heap) (n0 : Nat) (O0 : Old Z n0 h0) (h1 : ¬ p1 < (0 : Int32)) (h2 : p1 < p2) :
    MetFree l m_34 (head1 (Jvm.Cond.code m_34 jdk_41_method_11_code 3 (some .int) :: ws) (rk 0 0 0 0)) (fun a U => a = #[(.int p1), (.int p2), .null] ∧ Z.Warmed39 U.vm ∧ U.heap = h0) (fun _ _ _ _ _ => True) (fun _ U o U' => ∃ v L, o = .returned v ∧ Q41_n Z p1 p2 h0 n0 v U'.heap L ∧ FrameEnd U o U' L (rk 0 0 0 0).cells (rk 0 0 0 0).slots) := by
  refine MetFree.of_bodySF (plainFor_of_name pn_6) hisR ?_
  intro p e s m args below meth c s₁ Bd hml0 hP hK
  obtain ⟨rfl, hZ, hh⟩ := hP
  have hx := Bd.exec
  have hby := Bd.bytes
  have hml : c.maxLocals = 3 := hml0
  have hown : s.vm.findClass "jdk/internal/util/Preconditions" = some m.cls := findClass_of_methodNamed Bd.named
  have X0 : Stand p l e (rk 0 0 0 0) s m #[(.int p1), (.int p2), .null] below meth c s₁ [] 0 0 := Stand.of_body Bd
  have e0 : s₁.heap = h0 := by rw [← hh, Bd.state]; rfl
  have N0 := Fr.nil n0
  have pre0 := own_pre (tb := p.tables) (e := e) (bl := below) (s := s₁) (ef_41_n m p1 p2)
  have sg1 : SG p.tables e below (s₁.setTop (mkF m 17 #[It p1, It p2, .val .null] [(.int p1)])) (s₁.setTop (mkF m 0 #[It p1, It p2, .val .null] [])) := by
    intro target kt
    show Steps _ _ _ (s₁.setTop (mkF m 0 #[It p1, It p2, .val .null] [])) _
    refine XS.iloadN X0.here hx rfl (hb hby d41_0) rfl ?_
    refine XS.ifNo X0.here hx rfl (hb hby d41_1) rfl ((if0 _ _).trans (flt h1).1) ?_
    refine XS.iloadN X0.here hx rfl (hb hby d41_4) rfl ?_
    refine XS.iloadN X0.here hx rfl (hb hby d41_5) rfl ?_
    refine XS.icmpYes X0.here hx rfl (pc0 := 6) (pc' := 16) rfl (hb hby d41_6) rfl (tlt h2).1 (by decide) (by decide) ?_
    refine XS.iloadN X0.here hx rfl (hb hby d41_16) rfl ?_
    exact kt
  obtain ⟨fs, hr, hrun, hended, hW, hsame⟩ := X0.leave (v := some (.int p1)) (fun h => by rw [Bd.returns] at h; cases h)
  refine ⟨_, _, pre0 _ (sg1 _ (?_)), hrun, hended, _, _, rfl, ?_, ⟨_, rfl⟩, hW, hsame.mono (by decide) (by decide)⟩
  · show Steps _ _ _ (s₁.setTop (mkF m 17 #[It p1, It p2, .val .null] [(.int p1)])) _
    exact retI X0 hx Bd.returns (hb hby d41_17) hr
  · show Q41_n Z p1 p2 h0 n0 _ s₁.heap _
    rw [e0]
    exact ⟨rfl, N0, rfl⟩
def Q40_n (Z : State) (p1 : Int32) (p2 : Int32) (h0 : Heap) (n0 : Nat) (v : Option Value) (h : Heap) (L : List Loc) : Prop := v = none ∧ Fr n0 L ∧ h = h0
theorem rm40_n (l : Launch) (Z : State) (a0 : Array Value) (hw : ∀ d ∈ tables_1, d.before a0 Z = true) (ws : List Jvm.Cond) (p1 : Int32) (p2 : Int32) (h0 : Heap) (n0 : Nat) (O0 : Old Z n0 h0) (h1 : ¬ p1 < (0 : Int32)) (h2 : p1 < p2) (sF : TS_1 Z) :
    MetFree l m_35 (head1 (Jvm.Cond.code m_35 jdk_42_method_155_code 2 none :: ws) (rk 1 0 0 14)) (fun a U => a = #[(.int p1), (.int p2)] ∧ Z.Warmed39 U.vm ∧ U.heap = h0) (fun _ _ _ _ _ => True) (fun _ U o U' => ∃ v L, o = .returned v ∧ Q40_n Z p1 p2 h0 n0 v U'.heap L ∧ FrameEnd U o U' L (rk 1 0 0 14).cells (rk 1 0 0 14).slots) := by
  refine MetFree.of_bodySF (plainFor_of_name pn_0) hisR ?_
  intro p e s m args below meth c s₁ Bd hml0 hP hK
  obtain ⟨rfl, hZ, hh⟩ := hP
  have hx := Bd.exec
  have hby := Bd.bytes
  have hml : c.maxLocals = 2 := hml0
  have hown : s.vm.findClass "java/lang/String" = some m.cls := findClass_of_methodNamed Bd.named
  have X0 : Stand p l e (rk 1 0 0 14) s m #[(.int p1), (.int p2)] below meth c s₁ [] 0 0 := Stand.of_body Bd
  have e0 : s₁.heap = h0 := by rw [← hh, Bd.state]; rfl
  have N0 := Fr.nil n0
  have pre0 := own_pre (tb := p.tables) (e := e) (bl := below) (s := s₁) (ef_35 m p1 p2)
  obtain ⟨T1, X1, e1, st1⟩ := getS2 X0 hx hZ hown (host := "") (Or.inl (tw hw 210 rfl)) Via.refl e0 (sF.ext O0.2) (g := (mkF m 2 #[It p1, It p2] [(.int p2), (.int p1)])) rfl (hb hby d40_2)
  obtain ⟨_, _, ⟨T2, L2, k2, n2⟩, -, X2, ⟨Lc2, hQ2, l2, y2, z2⟩, st2⟩ := Jvm.LawKit.callS X1 hx (y := m_34) hown (mvT hZ (tw hw 212 rfl)) (mvT hZ (tw hw 213 rfl)) (mvT hZ (tw hw 211 rfl)) (mvT hZ (tw hw 214 rfl)) (by decide) (backOf (W := 0) (rm41_n l Z a0 hw [] p1 p2 h0 n0 O0 h1 h2) hZ (tw hw 214 rfl) (tw hw 211 rfl) (by decide) (by decide)) (g := (mkF m 5 #[It p1, It p2] [.null, (.int p2), (.int p1)])) rfl (by rw [hml]; rfl) (argsL := [(.int p1), (.int p2), .null]) (rest := []) (lenOf pd_23 rfl) rfl (w0 rfl) (hb hby d40_5) (fun _ _ => ⟨rfl, e1, (by decide : 0 + 0 ≤ _), (by decide : 0 + 0 ≤ _)⟩)
  dsimp only [Pt.U, Pt.locs, Pt.cells, Pt.slots] at X2 l2 y2 z2 st2 hQ2
  subst l2 y2 z2
  obtain ⟨rfl, N2q, e2⟩ := hQ2
  have N2 := Fr.app N0 N2q
  have sg3 : SG p.tables e below (T2.setTop (mkF m 9 #[It p1, It p2] [])) (s₁.setTop (mkF m 0 #[It p1, It p2] [])) := by
    intro target kt
    show Steps _ _ _ (s₁.setTop (mkF m 0 #[It p1, It p2] [])) _
    refine XS.iloadN X0.here hx rfl (hb hby d40_0) rfl ?_
    refine XS.iloadN X0.here hx rfl (hb hby d40_1) rfl ?_
    refine st1 _ ?_
    refine st2 _ ?_
    refine XS.pop X2.here hx rfl (hb hby d40_8) rfl rfl ?_
    exact kt
  obtain ⟨fs, hr, hrun, hended, hW, hsame⟩ := X2.leave (v := none) (fun _ => rfl)
  refine ⟨_, _, pre0 _ (sg3 _ (?_)), hrun, hended, _, _, rfl, ?_, ⟨_, rfl⟩, hW, hsame.mono (by decide) (by decide)⟩
  · show Steps _ _ _ (T2.setTop (mkF m 9 #[It p1, It p2] [])) _
    exact X2.returnOut hx Bd.returns (hb hby d40_9) hr
  · show Q40_n Z p1 p2 h0 n0 _ T2.heap _
    rw [e2]
    exact ⟨rfl, N2, rfl⟩
def Q41_r (Z : State) (p1 : Int32) (p2 : Int32) (a3 : Addr) (h0 : Heap) (n0 : Nat) (v : Option Value) (h : Heap) (L : List Loc) : Prop := v = some (.int p1) ∧ Fr n0 L ∧ h = h0
theorem ef_41_r (m : MethodId) (x0 : Int32) (x1 : Int32) (x2 : Addr) : entryFrame m #[(.int x0), (.int x1), (.ref x2)] 3 = mkF m 0 #[.val (.int x0), .val (.int x1), .val (.ref x2)] [] := by first | (simp [entryFrame, mkF, argsToLocals, Value.category]; done) | rfl
theorem rm41_r (l : Launch) (Z : State) (a0 : Array Value) (hw : ∀ d ∈ tables_1, d.before a0 Z = true) (ws : List Jvm.Cond) (p1 : Int32) (p2 : Int32) (a3 : Addr) (h0 : Heap) (n0 : Nat) (O0 : Old Z n0 h0) (h1 : ¬ p1 < (0 : Int32)) (h2 : p1 < p2) :
    MetFree l m_34 (head1 (Jvm.Cond.code m_34 jdk_41_method_11_code 3 (some .int) :: ws) (rk 0 0 0 0)) (fun a U => a = #[(.int p1), (.int p2), (.ref a3)] ∧ Z.Warmed39 U.vm ∧ U.heap = h0) (fun _ _ _ _ _ => True) (fun _ U o U' => ∃ v L, o = .returned v ∧ Q41_r Z p1 p2 a3 h0 n0 v U'.heap L ∧ FrameEnd U o U' L (rk 0 0 0 0).cells (rk 0 0 0 0).slots) := by
  refine MetFree.of_bodySF (plainFor_of_name pn_6) hisR ?_
  intro p e s m args below meth c s₁ Bd hml0 hP hK
  obtain ⟨rfl, hZ, hh⟩ := hP
  have hx := Bd.exec
  have hby := Bd.bytes
  have hml : c.maxLocals = 3 := hml0
  have hown : s.vm.findClass "jdk/internal/util/Preconditions" = some m.cls := findClass_of_methodNamed Bd.named
  have X0 : Stand p l e (rk 0 0 0 0) s m #[(.int p1), (.int p2), (.ref a3)] below meth c s₁ [] 0 0 := Stand.of_body Bd
  have e0 : s₁.heap = h0 := by rw [← hh, Bd.state]; rfl
  have N0 := Fr.nil n0
  have pre0 := own_pre (tb := p.tables) (e := e) (bl := below) (s := s₁) (ef_41_r m p1 p2 a3)
  have sg1 : SG p.tables e below (s₁.setTop (mkF m 17 #[It p1, It p2, Rf a3] [(.int p1)])) (s₁.setTop (mkF m 0 #[It p1, It p2, Rf a3] [])) := by
    intro target kt
    show Steps _ _ _ (s₁.setTop (mkF m 0 #[It p1, It p2, Rf a3] [])) _
    refine XS.iloadN X0.here hx rfl (hb hby d41_0) rfl ?_
    refine XS.ifNo X0.here hx rfl (hb hby d41_1) rfl ((if0 _ _).trans (flt h1).1) ?_
    refine XS.iloadN X0.here hx rfl (hb hby d41_4) rfl ?_
    refine XS.iloadN X0.here hx rfl (hb hby d41_5) rfl ?_
    refine XS.icmpYes X0.here hx rfl (pc0 := 6) (pc' := 16) rfl (hb hby d41_6) rfl (tlt h2).1 (by decide) (by decide) ?_
    refine XS.iloadN X0.here hx rfl (hb hby d41_16) rfl ?_
    exact kt
  obtain ⟨fs, hr, hrun, hended, hW, hsame⟩ := X0.leave (v := some (.int p1)) (fun h => by rw [Bd.returns] at h; cases h)
  refine ⟨_, _, pre0 _ (sg1 _ (?_)), hrun, hended, _, _, rfl, ?_, ⟨_, rfl⟩, hW, hsame.mono (by decide) (by decide)⟩
  · show Steps _ _ _ (s₁.setTop (mkF m 17 #[It p1, It p2, Rf a3] [(.int p1)])) _
    exact retI X0 hx Bd.returns (hb hby d41_17) hr
  · show Q41_r Z p1 p2 a3 h0 n0 _ s₁.heap _
    rw [e0]
    exact ⟨rfl, N0, rfl⟩
def Q40_r (Z : State) (p1 : Int32) (p2 : Int32) (wF : Addr) (h0 : Heap) (n0 : Nat) (v : Option Value) (h : Heap) (L : List Loc) : Prop := v = none ∧ Fr n0 L ∧ h = h0
theorem rm40_r (l : Launch) (Z : State) (a0 : Array Value) (hw : ∀ d ∈ tables_1, d.before a0 Z = true) (ws : List Jvm.Cond) (p1 : Int32) (p2 : Int32) (wF : Addr) (h0 : Heap) (n0 : Nat) (O0 : Old Z n0 h0) (h1 : ¬ p1 < (0 : Int32)) (h2 : p1 < p2) (sF : TS_2 Z wF) :
    MetFree l m_35 (head1 (Jvm.Cond.code m_35 jdk_42_method_155_code 2 none :: ws) (rk 1 0 0 14)) (fun a U => a = #[(.int p1), (.int p2)] ∧ Z.Warmed39 U.vm ∧ U.heap = h0) (fun _ _ _ _ _ => True) (fun _ U o U' => ∃ v L, o = .returned v ∧ Q40_r Z p1 p2 wF h0 n0 v U'.heap L ∧ FrameEnd U o U' L (rk 1 0 0 14).cells (rk 1 0 0 14).slots) := by
  refine MetFree.of_bodySF (plainFor_of_name pn_0) hisR ?_
  intro p e s m args below meth c s₁ Bd hml0 hP hK
  obtain ⟨rfl, hZ, hh⟩ := hP
  have hx := Bd.exec
  have hby := Bd.bytes
  have hml : c.maxLocals = 2 := hml0
  have hown : s.vm.findClass "java/lang/String" = some m.cls := findClass_of_methodNamed Bd.named
  have X0 : Stand p l e (rk 1 0 0 14) s m #[(.int p1), (.int p2)] below meth c s₁ [] 0 0 := Stand.of_body Bd
  have e0 : s₁.heap = h0 := by rw [← hh, Bd.state]; rfl
  have N0 := Fr.nil n0
  have pre0 := own_pre (tb := p.tables) (e := e) (bl := below) (s := s₁) (ef_35 m p1 p2)
  obtain ⟨T1, X1, e1, st1⟩ := getS2 X0 hx hZ hown (host := "") (Or.inl (tw hw 210 rfl)) Via.refl e0 (sF.ext O0.2) (g := (mkF m 2 #[It p1, It p2] [(.int p2), (.int p1)])) rfl (hb hby d40_2)
  obtain ⟨_, _, ⟨T2, L2, k2, n2⟩, -, X2, ⟨Lc2, hQ2, l2, y2, z2⟩, st2⟩ := Jvm.LawKit.callS X1 hx (y := m_34) hown (mvT hZ (tw hw 212 rfl)) (mvT hZ (tw hw 213 rfl)) (mvT hZ (tw hw 211 rfl)) (mvT hZ (tw hw 214 rfl)) (by decide) (backOf (W := 0) (rm41_r l Z a0 hw [] p1 p2 wF h0 n0 O0 h1 h2) hZ (tw hw 214 rfl) (tw hw 211 rfl) (by decide) (by decide)) (g := (mkF m 5 #[It p1, It p2] [(.ref wF), (.int p2), (.int p1)])) rfl (by rw [hml]; rfl) (argsL := [(.int p1), (.int p2), (.ref wF)]) (rest := []) (lenOf pd_23 rfl) rfl (w0 rfl) (hb hby d40_5) (fun _ _ => ⟨rfl, e1, (by decide : 0 + 0 ≤ _), (by decide : 0 + 0 ≤ _)⟩)
  dsimp only [Pt.U, Pt.locs, Pt.cells, Pt.slots] at X2 l2 y2 z2 st2 hQ2
  subst l2 y2 z2
  obtain ⟨rfl, N2q, e2⟩ := hQ2
  have N2 := Fr.app N0 N2q
  have sg3 : SG p.tables e below (T2.setTop (mkF m 9 #[It p1, It p2] [])) (s₁.setTop (mkF m 0 #[It p1, It p2] [])) := by
    intro target kt
    show Steps _ _ _ (s₁.setTop (mkF m 0 #[It p1, It p2] [])) _
    refine XS.iloadN X0.here hx rfl (hb hby d40_0) rfl ?_
    refine XS.iloadN X0.here hx rfl (hb hby d40_1) rfl ?_
    refine st1 _ ?_
    refine st2 _ ?_
    refine XS.pop X2.here hx rfl (hb hby d40_8) rfl rfl ?_
    exact kt
  obtain ⟨fs, hr, hrun, hended, hW, hsame⟩ := X2.leave (v := none) (fun _ => rfl)
  refine ⟨_, _, pre0 _ (sg3 _ (?_)), hrun, hended, _, _, rfl, ?_, ⟨_, rfl⟩, hW, hsame.mono (by decide) (by decide)⟩
  · show Steps _ _ _ (T2.setTop (mkF m 9 #[It p1, It p2] [])) _
    exact X2.returnOut hx Bd.returns (hb hby d40_9) hr
  · show Q40_r Z p1 p2 wF h0 n0 _ T2.heap _
    rw [e2]
    exact ⟨rfl, N2, rfl⟩
def Q40 (Z : State) (p1 : Int32) (p2 : Int32) (vFM : Value) (h0 : Heap) (n0 : Nat) (v : Option Value) (h : Heap) (L : List Loc) : Prop := v = none ∧ Fr n0 L ∧ h = h0
theorem rm40 (l : Launch) (Z : State) (a0 : Array Value) (hw : ∀ d ∈ tables_1, d.before a0 Z = true) (ws : List Jvm.Cond) (p1 : Int32) (p2 : Int32) (vFM : Value) (h0 : Heap) (n0 : Nat) (O0 : Old Z n0 h0) (hFM : vFM.isRef = true) (h1 : ¬ p1 < (0 : Int32)) (h2 : p1 < p2) (sF : TS_3 Z vFM) :
    MetFree l m_35 (head1 (Jvm.Cond.code m_35 jdk_42_method_155_code 2 none :: ws) (rk 1 0 0 14)) (fun a U => a = #[(.int p1), (.int p2)] ∧ Z.Warmed39 U.vm ∧ U.heap = h0) (fun _ _ _ _ _ => True) (fun _ U o U' => ∃ v L, o = .returned v ∧ Q40 Z p1 p2 vFM h0 n0 v U'.heap L ∧ FrameEnd U o U' L (rk 1 0 0 14).cells (rk 1 0 0 14).slots) := by
  rcases ref_cases hFM with e | ⟨b, e⟩
  · subst e; exact rm40_n l Z a0 hw ws p1 p2 h0 n0 O0 h1 h2 sF
  · subst e; exact rm40_r l Z a0 hw ws p1 p2 b h0 n0 O0 h1 h2 sF
def Q39 (Z : State) (a1 : Addr) (p2 : Int32) (zm : Int32) (zn : Nat) (ni : Nat) (bb : Int32) (xx : Int32) (us : List Value) (vFM : Value) (ka : ClassId) (h0 : Heap) (n0 : Nat) (v : Option Value) (h : Heap) (L : List Loc) : Prop := v = some (.int xx) ∧ Fr n0 L ∧ h = h0
theorem rm39 (l : Launch) (Z : State) (a0 : Array Value) (hw : ∀ d ∈ tables_1, d.before a0 Z = true) (ws : List Jvm.Cond) (a1 : Addr) (p2 : Int32) (zm : Int32) (zn : Nat) (ni : Nat) (bb : Int32) (xx : Int32) (us : List Value) (vFM : Value) (ka : ClassId) (h0 : Heap) (n0 : Nat) (O0 : Old Z n0 h0) (hFM : vFM.isRef = true) (h_i : Sm p2 ni) (h_z : Sm zm zn) (h_lt : ni < zn) (h_g : us.getD ni (.int (0 : Int32)) = .int bb) (h_b : ((bb &&& (255 : Int32)).toUInt32.toUInt16.toUInt32.toInt32) = xx) (h_x : nar .char xx = xx) (sF : TS_3 Z vFM) (A_a1 : Arv Z h0 a1 ka .byte zm us (.int (0 : Int32))) :
    MetFree l m_36 (head1 (Jvm.Cond.code m_36 jdk_43_method_2_code 2 (some .char) :: ws) (rk 2 0 0 27)) (fun a U => a = #[(.ref a1), (.int p2)] ∧ Z.Warmed39 U.vm ∧ U.heap = h0) (fun _ _ _ _ _ => True) (fun _ U o U' => ∃ v L, o = .returned v ∧ Q39 Z a1 p2 zm zn ni bb xx us vFM ka h0 n0 v U'.heap L ∧ FrameEnd U o U' L (rk 2 0 0 27).cells (rk 2 0 0 27).slots) := by
  refine MetFree.of_bodySF (plainFor_of_name pn_4) hisR ?_
  intro p e s m args below meth c s₁ Bd hml0 hP hK
  obtain ⟨rfl, hZ, hh⟩ := hP
  have hx := Bd.exec
  have hby := Bd.bytes
  have hml : c.maxLocals = 2 := hml0
  have hown : s.vm.findClass "java/lang/StringLatin1" = some m.cls := findClass_of_methodNamed Bd.named
  have X0 : Stand p l e (rk 2 0 0 27) s m #[(.ref a1), (.int p2)] below meth c s₁ [] 0 0 := Stand.of_body Bd
  have e0 : s₁.heap = h0 := by rw [← hh, Bd.state]; rfl
  have N0 := Fr.nil n0
  have pre0 := own_pre (tb := p.tables) (e := e) (bl := below) (s := s₁) (ef_9 m a1 p2)
  obtain ⟨cl1, Ar1, -, Sz1, Nn1, -, -⟩ := id A_a1
  obtain ⟨_, _, ⟨T2, L2, k2, n2⟩, -, X2, ⟨Lc2, hQ2, l2, y2, z2⟩, st2⟩ := Jvm.LawKit.callS X0 hx (y := m_35) hown (mvT hZ (tw hw 207 rfl)) (mvT hZ (tw hw 208 rfl)) (mvT hZ (tw hw 3 rfl)) (mvT hZ (tw hw 209 rfl)) (by decide) (backOf (W := 0) (rm40 l Z a0 hw [] p2 zm vFM h0 n0 O0 hFM h_i.nn (own_smlt h_i h_z h_lt) sF) hZ (tw hw 209 rfl) (tw hw 3 rfl) (by decide) (by decide)) (g := (mkF m 3 #[Rf a1, It p2] [(.int zm), (.int p2)])) rfl (by rw [hml]; rfl) (argsL := [(.int p2), (.int zm)]) (rest := []) (lenOf pd_11 rfl) rfl (w0 rfl) (hb hby d39_3) (fun _ _ => ⟨rfl, e0, (by decide : 0 + 0 ≤ _), (by decide : 0 + 0 ≤ _)⟩)
  dsimp only [Pt.U, Pt.locs, Pt.cells, Pt.slots] at X2 l2 y2 z2 st2 hQ2
  subst l2 y2 z2
  obtain ⟨rfl, N2q, e2⟩ := hQ2
  have N2 := Fr.app N0 N2q
  obtain ⟨cl3, Ar3, -, Sz3, Nn3, Hh3, -⟩ := id A_a1
  have hin3 : ¬ (p2 < 0 ∨ cl3.slots.size ≤ (p2).toNatClampNeg) := own_inb Sz3 h_i h_z h_lt
  have hat3 : cl3.slots[(p2).toNatClampNeg]? = some (.int bb) := Has.at Hh3 hin3 (by rw [h_i.nat]; exact h_g)
  have sg4 : SG p.tables e below (T2.setTop (mkF m 14 #[Rf a1, It p2] [(.int ((bb &&& (255 : Int32)).toUInt32.toUInt16.toUInt32.toInt32))])) (s₁.setTop (mkF m 0 #[Rf a1, It p2] [])) := by
    intro target kt
    show Steps _ _ _ (s₁.setTop (mkF m 0 #[Rf a1, It p2] [])) _
    refine XS.iloadN X0.here hx rfl (hb hby d39_0) rfl ?_
    refine XS.aloadN X0.here hx rfl (hb hby d39_1) rfl rfl ?_
    refine X0.arraylength hx (own_rwh e0 Ar1.1) (State.isArrayOf_alike hZ.alike Ar1.2.1) (g := (mkF m 2 #[Rf a1, It p2] [(.ref a1), (.int p2)])) rfl rfl (hb hby d39_2) _ ?_
    rw [len_of Sz1 Nn1]
    show Steps _ _ _ (s₁.setTop (mkF m 3 #[Rf a1, It p2] [(.int zm), (.int p2)])) _
    refine st2 _ ?_
    refine XS.aloadN X2.here hx rfl (hb hby d39_6) rfl rfl ?_
    refine XS.iloadN X2.here hx rfl (hb hby d39_7) rfl ?_
    refine X2.baloadBytes hx (j := p2) (v := (.int bb)) (own_rwh e2 Ar3.1) (State.isArrayOf_alike hZ.alike Ar3.2.1) Ar3.2.2 hin3 hat3 (g := (mkF m 8 #[Rf a1, It p2] [(.int p2), (.ref a1)])) rfl rfl (hb hby d39_8) _ ?_
    refine XS.sipush X2.here hx rfl (hb hby d39_9) ?_
    refine XS.iand X2.here hx rfl (hb hby d39_12) rfl ?_
    refine XS.i2c X2.here hx rfl (hb hby d39_13) rfl ?_
    exact kt
  have hnar : nar .char ((bb &&& (255 : Int32)).toUInt32.toUInt16.toUInt32.toInt32) = ((bb &&& (255 : Int32)).toUInt32.toUInt16.toUInt32.toInt32) := (by rw [h_b]; exact h_x)
  obtain ⟨fs, hr, hrun, hended, hW, hsame⟩ := X2.leave (v := some (.int ((bb &&& (255 : Int32)).toUInt32.toUInt16.toUInt32.toInt32))) (fun h => by rw [Bd.returns] at h; cases h)
  rw [← hnar] at hr
  refine ⟨_, _, pre0 _ (sg4 _ (?_)), hrun, hended, _, _, rfl, ?_, ⟨_, rfl⟩, hW, hsame.mono (by decide) (by decide)⟩
  · show Steps _ _ _ (T2.setTop (mkF m 14 #[Rf a1, It p2] [(.int ((bb &&& (255 : Int32)).toUInt32.toUInt16.toUInt32.toInt32))])) _
    exact retN X2 hx (t := .char) Bd.returns (by simp) (hb hby d39_14) hr
  · show Q39 Z a1 p2 zm zn ni bb xx us vFM ka h0 n0 _ T2.heap _
    rw [e2]
    exact ⟨(by rw [h_b]), N2, rfl⟩
def Q37 (Z : State) (a1 : Addr) (p2 : Int32) (tv : Addr) (zm : Int32) (zn : Nat) (ni : Nat) (bb : Int32) (xx : Int32) (us : List Value) (vFM : Value) (zC : Int32) (kt : ClassId) (h0 : Heap) (n0 : Nat) (v : Option Value) (h : Heap) (L : List Loc) : Prop := v = some (.int xx) ∧ Fr n0 L ∧ h = h0
theorem rm37 (l : Launch) (Z : State) (a0 : Array Value) (hw : ∀ d ∈ tables_1, d.before a0 Z = true) (ws : List Jvm.Cond) (a1 : Addr) (p2 : Int32) (tv : Addr) (zm : Int32) (zn : Nat) (ni : Nat) (bb : Int32) (xx : Int32) (us : List Value) (vFM : Value) (zC : Int32) (kt : ClassId) (h0 : Heap) (n0 : Nat) (O0 : Old Z n0 h0) (hCS : ¬ zC = 0) (hFM : vFM.isRef = true) (h_i : Sm p2 ni) (h_z : Sm zm zn) (h_lt : ni < zn) (h_g : us.getD ni (.int (0 : Int32)) = .int bb) (h_b : ((bb &&& (255 : Int32)).toUInt32.toUInt16.toUInt32.toInt32) = xx) (h_x : nar .char xx = xx) (sC : TS_0 Z zC) (sF : TS_3 Z vFM) (E_a1 : Exa Z h0 a1 "java/lang/String") (F_coder_a1 : Fld Z h0 a1 "java/lang/String" "coder" "B" (.int (0 : Int32))) (F_value_a1 : Fld Z h0 a1 "java/lang/String" "value" "[B" (.ref tv)) (A_tv : Arv Z h0 tv kt .byte zm us (.int (0 : Int32))) :
    MetFree l m_37 (head1 (Jvm.Cond.code m_37 jdk_42_method_56_code 2 (some .char) :: ws) (rk 3 0 0 40)) (fun a U => a = #[(.ref a1), (.int p2)] ∧ Z.Warmed39 U.vm ∧ U.heap = h0) (fun _ _ _ _ _ => True) (fun _ U o U' => ∃ v L, o = .returned v ∧ Q37 Z a1 p2 tv zm zn ni bb xx us vFM zC kt h0 n0 v U'.heap L ∧ FrameEnd U o U' L (rk 3 0 0 40).cells (rk 3 0 0 40).slots) := by
  refine MetFree.of_bodySF (plainFor_of_name pn_0) hisR ?_
  intro p e s m args below meth c s₁ Bd hml0 hP hK
  obtain ⟨rfl, hZ, hh⟩ := hP
  have hx := Bd.exec
  have hby := Bd.bytes
  have hml : c.maxLocals = 2 := hml0
  have hown : s.vm.findClass "java/lang/String" = some m.cls := findClass_of_methodNamed Bd.named
  have X0 : Stand p l e (rk 3 0 0 40) s m #[(.ref a1), (.int p2)] below meth c s₁ [] 0 0 := Stand.of_body Bd
  have e0 : s₁.heap = h0 := by rw [← hh, Bd.state]; rfl
  have N0 := Fr.nil n0
  have pre0 := own_pre (tb := p.tables) (e := e) (bl := below) (s := s₁) (ef_9 m a1 p2)
  obtain ⟨cq1, kq1, q1a, q1b, q1c⟩ := isOf hZ e0 E_a1
  obtain ⟨_, _, ⟨T1, L1, k1, n1⟩, -, X1, ⟨Lc1, hQ1, l1, y1, z1⟩, st1⟩ := X0.virtualBack hx (y := m_1) (z := m_1) hown (mvT hZ (tw hw 199 rfl)) (mvT hZ (tw hw 200 rfl)) (notFace_of_selects (args := #[]) (mvT hZ (tw hw 202 rfl))) (mvT hZ (tw hw 202 rfl)) (mvT hZ (tw hw 201 rfl)) (by decide) (backOf (W := 0) (rm38 l Z a0 hw [] a1 zC h0 n0 O0 hCS sC F_coder_a1) hZ (tw hw 203 rfl) (tw hw 3 rfl) (by decide) (by decide)) q1a q1c (g := (mkF m 1 #[Rf a1, It p2] [(.ref a1)])) rfl (by rw [hml]; rfl) (Steps.refl _) (argsL := []) (rest := []) (lenOf pd_8 rfl) rfl (w0 rfl) (hb hby d37_1) (fun _ _ => ⟨rfl, e0, (by decide : 0 + 0 ≤ _), (by decide : 0 + 0 ≤ _)⟩)
  dsimp only [Pt.U, Pt.locs, Pt.cells, Pt.slots] at X1 l1 y1 z1 st1 hQ1
  subst l1 y1 z1
  obtain ⟨rfl, N1q, e1⟩ := hQ1
  have N1 := Fr.app N0 N1q
  obtain ⟨T2, X2, e2, st2⟩ := getF X1 hx hZ hown (host := "") (Or.inl (tw hw 28 rfl)) Via.refl e1 F_value_a1 (g := (mkF m 8 #[Rf a1, It p2] [(.ref a1)])) rfl rfl (hb hby d37_8)
  obtain ⟨_, _, ⟨T3, L3, k3, n3⟩, -, X3, ⟨Lc3, hQ3, l3, y3, z3⟩, st3⟩ := Jvm.LawKit.callS X2 hx (y := m_36) hown (mvT hZ (tw hw 204 rfl)) (mvT hZ (tw hw 205 rfl)) (mvT hZ (tw hw 141 rfl)) (mvT hZ (tw hw 206 rfl)) (by decide) (backOf (W := 0) (rm39 l Z a0 hw [] tv p2 zm zn ni bb xx us vFM kt h0 n0 O0 hFM h_i h_z h_lt h_g h_b h_x sF A_tv) hZ (tw hw 206 rfl) (tw hw 141 rfl) (by decide) (by decide)) (g := (mkF m 12 #[Rf a1, It p2] [(.int p2), (.ref tv)])) rfl (by rw [hml]; rfl) (argsL := [(.ref tv), (.int p2)]) (rest := []) (lenOf pd_24 rfl) rfl (w0 rfl) (hb hby d37_12) (fun _ _ => ⟨rfl, e2, (by decide : 0 + 0 ≤ _), (by decide : 0 + 0 ≤ _)⟩)
  dsimp only [Pt.U, Pt.locs, Pt.cells, Pt.slots] at X3 l3 y3 z3 st3 hQ3
  subst l3 y3 z3
  obtain ⟨rfl, N3q, e3⟩ := hQ3
  have N3 := Fr.app N1 N3q
  have sg4 : SG p.tables e below (T3.setTop (mkF m 15 #[Rf a1, It p2] [(.int xx)])) (s₁.setTop (mkF m 0 #[Rf a1, It p2] [])) := by
    intro target kt
    show Steps _ _ _ (s₁.setTop (mkF m 0 #[Rf a1, It p2] [])) _
    refine XS.aloadN X0.here hx rfl (hb hby d37_0) rfl rfl ?_
    refine st1.trans ?_
    refine XS.ifNo X1.here hx rfl (hb hby d37_4) rfl ((if0 _ _).trans (feq (by decide : ¬ ((1 : Int32) = (0 : Int32)))).1) ?_
    refine XS.aloadN X1.here hx rfl (hb hby d37_7) rfl rfl ?_
    refine st2 _ ?_
    refine XS.iloadN X2.here hx rfl (hb hby d37_11) rfl ?_
    refine st3 _ ?_
    exact kt
  have hnar : nar .char xx = xx := h_x
  obtain ⟨fs, hr, hrun, hended, hW, hsame⟩ := X3.leave (v := some (.int xx)) (fun h => by rw [Bd.returns] at h; cases h)
  rw [← hnar] at hr
  refine ⟨_, _, pre0 _ (sg4 _ (?_)), hrun, hended, _, _, rfl, ?_, ⟨_, rfl⟩, hW, hsame.mono (by decide) (by decide)⟩
  · show Steps _ _ _ (T3.setTop (mkF m 15 #[Rf a1, It p2] [(.int xx)])) _
    exact retN X3 hx (t := .char) Bd.returns (by simp) (hb hby d37_15) hr
  · show Q37 Z a1 p2 tv zm zn ni bb xx us vFM zC kt h0 n0 _ T3.heap _
    rw [e3]
    exact ⟨rfl, N3, rfl⟩
def Q36_i (Z : State) (a1 : Addr) (p2 : Int32) (p3 : Int32) (p4 : Int32) (p5 : Int32) (p6 : Int32) (tv : Addr) (zm : Int32) (us : List Value) (vFM : Value) (zn : Nat) (ni : Nat) (bb : Int32) (xx : Int32) (zC : Int32) (kt : ClassId) (h0 : Heap) (n0 : Nat) (v : Option Value) (h : Heap) (L : List Loc) : Prop := v = some (.int (1 : Int32)) ∧ Fr n0 L ∧ h = h0
theorem ef_36_i (m : MethodId) (x0 : Addr) (x1 : Int32) (x2 : Int32) (x3 : Int32) (x4 : Int32) (x5 : Int32) : entryFrame m #[(.ref x0), (.int x1), (.int x2), (.int x3), (.int x4), (.int x5)] 8 = mkF m 0 #[.val (.ref x0), .val (.int x1), .val (.int x2), .val (.int x3), .val (.int x4), .val (.int x5), .unset, .unset] [] := by first | (simp [entryFrame, mkF, argsToLocals, Value.category]; done) | rfl
theorem rm36_i (l : Launch) (Z : State) (a0 : Array Value) (hw : ∀ d ∈ tables_1, d.before a0 Z = true) (ws : List Jvm.Cond) (a1 : Addr) (p2 : Int32) (p3 : Int32) (p4 : Int32) (p5 : Int32) (p6 : Int32) (tv : Addr) (zm : Int32) (us : List Value) (vFM : Value) (zn : Nat) (ni : Nat) (bb : Int32) (xx : Int32) (zC : Int32) (kt : ClassId) (h0 : Heap) (n0 : Nat) (O0 : Old Z n0 h0) (hCS : ¬ zC = 0) (hFM : vFM.isRef = true) (h_o : p2 < zm) (h_i : Sm p2 ni) (h_z : Sm zm zn) (h_lt : ni < zn) (h_g : us.getD ni (.int (0 : Int32)) = .int bb) (h_b : ((bb &&& (255 : Int32)).toUInt32.toUInt16.toUInt32.toInt32) = xx) (h_x : nar .char xx = xx) (h_e : xx = (if p2 < p3 then (32 : Int32) else (if (p2 - p3) < p4 then (if (p2 - p3) = (0 : Int32) then p5 else p6) else (10 : Int32)))) (sC : TS_0 Z zC) (sF : TS_3 Z vFM) (E_a1 : Exa Z h0 a1 "java/lang/String") (F_coder_a1 : Fld Z h0 a1 "java/lang/String" "coder" "B" (.int (0 : Int32))) (F_value_a1 : Fld Z h0 a1 "java/lang/String" "value" "[B" (.ref tv)) (A_tv : Arv Z h0 tv kt .byte zm us (.int (0 : Int32))) :
    MetFree l m_38 (head1 (Jvm.Cond.code m_38 method_2_code 8 (some .boolean) :: ws) (rk 4 0 0 53)) (fun a U => a = #[(.ref a1), (.int p2), (.int p3), (.int p4), (.int p5), (.int p6)] ∧ Z.Warmed39 U.vm ∧ U.heap = h0) (fun _ _ _ _ _ => True) (fun _ U o U' => ∃ v L, o = .returned v ∧ Q36_i Z a1 p2 p3 p4 p5 p6 tv zm us vFM zn ni bb xx zC kt h0 n0 v U'.heap L ∧ FrameEnd U o U' L (rk 4 0 0 53).cells (rk 4 0 0 53).slots) := by
  refine MetFree.of_bodySF (plainFor_of_name pn_7) hisR ?_
  intro p e s m args below meth c s₁ Bd hml0 hP hK
  obtain ⟨rfl, hZ, hh⟩ := hP
  have hx := Bd.exec
  have hby := Bd.bytes
  have hml : c.maxLocals = 8 := hml0
  have hown : s.vm.findClass "com/example/tetrad/tetrad/generate/SourceTextIndentPinLaw" = some m.cls := findClass_of_methodNamed Bd.named
  have X0 : Stand p l e (rk 4 0 0 53) s m #[(.ref a1), (.int p2), (.int p3), (.int p4), (.int p5), (.int p6)] below meth c s₁ [] 0 0 := Stand.of_body Bd
  have e0 : s₁.heap = h0 := by rw [← hh, Bd.state]; rfl
  have N0 := Fr.nil n0
  have pre0 := own_pre (tb := p.tables) (e := e) (bl := below) (s := s₁) (ef_36_i m a1 p2 p3 p4 p5 p6)
  obtain ⟨cq1, kq1, q1a, q1b, q1c⟩ := isOf hZ e0 E_a1
  obtain ⟨_, _, ⟨T1, L1, k1, n1⟩, -, X1, ⟨Lc1, hQ1, l1, y1, z1⟩, st1⟩ := X0.virtualBack hx (y := m_2) (z := m_2) hown (mvT hZ (tw hw 189 rfl)) (mvT hZ (tw hw 89 rfl)) (notFace_of_selects (args := #[]) (mvT hZ (tw hw 91 rfl))) (mvT hZ (tw hw 91 rfl)) (mvT hZ (tw hw 90 rfl)) (by decide) (backOf (W := 1) (rm15 l Z a0 hw [] a1 tv zm us zC kt h0 n0 O0 hCS sC E_a1 F_coder_a1 F_value_a1 A_tv) hZ (tw hw 92 rfl) (tw hw 3 rfl) (by decide) (by decide)) q1a q1c (g := (mkF m 2 #[Rf a1, It p2, It p3, It p4, It p5, It p6, .unset, .unset] [(.ref a1), (.int p2)])) rfl (by rw [hml]; rfl) (Steps.refl _) (argsL := []) (rest := [(.int p2)]) (lenOf pd_1 rfl) rfl (w0 rfl) (hb hby d36_2) (fun _ _ => ⟨rfl, e0, (by decide : 0 + 0 ≤ _), (by decide : 0 + 0 ≤ _)⟩)
  dsimp only [Pt.U, Pt.locs, Pt.cells, Pt.slots] at X1 l1 y1 z1 st1 hQ1
  subst l1 y1 z1
  obtain ⟨rfl, N1q, e1⟩ := hQ1
  have N1 := Fr.app N0 N1q
  have sg2 : SG p.tables e below (T1.setTop (mkF m 15 #[Rf a1, It p2, It p3, It p4, It p5, It p6, .unset, It (p2 - p3)] [])) (s₁.setTop (mkF m 0 #[Rf a1, It p2, It p3, It p4, It p5, It p6, .unset, .unset] [])) := by
    intro target kt
    show Steps _ _ _ (s₁.setTop (mkF m 0 #[Rf a1, It p2, It p3, It p4, It p5, It p6, .unset, .unset] [])) _
    refine XS.iloadN X0.here hx rfl (hb hby d36_0) rfl ?_
    refine XS.aloadN X0.here hx rfl (hb hby d36_1) rfl rfl ?_
    refine st1.trans ?_
    refine XS.icmpYes X1.here hx rfl (pc0 := 5) (pc' := 10) rfl (hb hby d36_5) rfl (tlt h_o).1 (by decide) (by decide) ?_
    refine XS.iloadN X1.here hx rfl (hb hby d36_10) rfl ?_
    refine XS.iloadN X1.here hx rfl (hb hby d36_11) rfl ?_
    refine XS.isub X1.here hx rfl (hb hby d36_12) rfl ?_
    refine XS.istore X1.here hx rfl (hb hby d36_13) rfl (l' := #[Rf a1, It p2, It p3, It p4, It p5, It p6, .unset, It (p2 - p3)]) rfl ?_
    exact kt
  obtain ⟨T13, L13, v13_l6, X13, e13, N13, hv13_l6, sg13⟩ : ∃ (T' : State) (L' : List Loc) (v13_l6 : Int32), Stand p l e (rk 4 0 0 53) s m #[(.ref a1), (.int p2), (.int p3), (.int p4), (.int p5), (.int p6)] below meth c T' L' 0 0 ∧ T'.heap = h0 ∧ Fr n0 L' ∧ v13_l6 = (if p2 < p3 then (32 : Int32) else (if (p2 - p3) < p4 then (if (p2 - p3) = (0 : Int32) then p5 else p6) else (10 : Int32))) ∧ ∀ target, Steps p.tables e below (T'.setTop (mkF m 54 #[Rf a1, It p2, It p3, It p4, It p5, It p6, It v13_l6, It (p2 - p3)] [])) target → Steps p.tables e below (T1.setTop (mkF m 15 #[Rf a1, It p2, It p3, It p4, It p5, It p6, .unset, It (p2 - p3)] [])) target := by
    have sg3 : SG p.tables e below (T1.setTop (mkF m 17 #[Rf a1, It p2, It p3, It p4, It p5, It p6, .unset, It (p2 - p3)] [(.int p3), (.int p2)])) (T1.setTop (mkF m 15 #[Rf a1, It p2, It p3, It p4, It p5, It p6, .unset, It (p2 - p3)] [])) := by
      intro target kt
      show Steps _ _ _ (T1.setTop (mkF m 15 #[Rf a1, It p2, It p3, It p4, It p5, It p6, .unset, It (p2 - p3)] [])) _
      refine XS.iloadN X1.here hx rfl (hb hby d36_15) rfl ?_
      refine XS.iloadN X1.here hx rfl (hb hby d36_16) rfl ?_
      exact kt
    by_cases hc4 : p2 < p3
    · have sg5 : SG p.tables e below (T1.setTop (mkF m 54 #[Rf a1, It p2, It p3, It p4, It p5, It p6, It (32 : Int32), It (p2 - p3)] [])) (T1.setTop (mkF m 17 #[Rf a1, It p2, It p3, It p4, It p5, It p6, .unset, It (p2 - p3)] [(.int p3), (.int p2)])) := by
        intro target kt
        show Steps _ _ _ (T1.setTop (mkF m 17 #[Rf a1, It p2, It p3, It p4, It p5, It p6, .unset, It (p2 - p3)] [(.int p3), (.int p2)])) _
        refine XS.icmpNo X1.here hx rfl (hb hby d36_17) rfl (tlt hc4).2.1 ?_
        refine XS.bipush X1.here hx rfl (hb hby d36_20) ?_
        refine XS.istore X1.here hx rfl (hb hby d36_22) rfl (l' := #[Rf a1, It p2, It p3, It p4, It p5, It p6, It (32 : Int32), It (p2 - p3)]) rfl ?_
        refine XS.goto X1.here hx rfl (pc0 := 24) (pc' := 54) rfl (hb hby d36_24) (by decide) (by decide) ?_
        exact kt
      exact ⟨T1, _, (32 : Int32), X1.mono (by decide) (by decide), e1, N1, (by rw [if_pos hc4]), fun target kt => sg3 _ (sg5 _ (kt))⟩
    · have sg6 : SG p.tables e below (T1.setTop (mkF m 30 #[Rf a1, It p2, It p3, It p4, It p5, It p6, .unset, It (p2 - p3)] [(.int p4), (.int (p2 - p3))])) (T1.setTop (mkF m 17 #[Rf a1, It p2, It p3, It p4, It p5, It p6, .unset, It (p2 - p3)] [(.int p3), (.int p2)])) := by
        intro target kt
        show Steps _ _ _ (T1.setTop (mkF m 17 #[Rf a1, It p2, It p3, It p4, It p5, It p6, .unset, It (p2 - p3)] [(.int p3), (.int p2)])) _
        refine XS.icmpYes X1.here hx rfl (pc0 := 17) (pc' := 27) rfl (hb hby d36_17) rfl (flt hc4).2.1 (by decide) (by decide) ?_
        refine XS.iload X1.here hx rfl (hb hby d36_27) rfl ?_
        refine XS.iloadN X1.here hx rfl (hb hby d36_29) rfl ?_
        exact kt
      by_cases hc7 : (p2 - p3) < p4
      · have sg8 : SG p.tables e below (T1.setTop (mkF m 35 #[Rf a1, It p2, It p3, It p4, It p5, It p6, .unset, It (p2 - p3)] [(.int (p2 - p3))])) (T1.setTop (mkF m 30 #[Rf a1, It p2, It p3, It p4, It p5, It p6, .unset, It (p2 - p3)] [(.int p4), (.int (p2 - p3))])) := by
          intro target kt
          show Steps _ _ _ (T1.setTop (mkF m 30 #[Rf a1, It p2, It p3, It p4, It p5, It p6, .unset, It (p2 - p3)] [(.int p4), (.int (p2 - p3))])) _
          refine XS.icmpNo X1.here hx rfl (hb hby d36_30) rfl (tlt hc7).2.1 ?_
          refine XS.iload X1.here hx rfl (hb hby d36_33) rfl ?_
          exact kt
        by_cases hc9 : (p2 - p3) = (0 : Int32)
        · have sg10 : SG p.tables e below (T1.setTop (mkF m 54 #[Rf a1, It p2, It p3, It p4, It p5, It p6, It p5, It (p2 - p3)] [])) (T1.setTop (mkF m 35 #[Rf a1, It p2, It p3, It p4, It p5, It p6, .unset, It (p2 - p3)] [(.int (p2 - p3))])) := by
            intro target kt
            show Steps _ _ _ (T1.setTop (mkF m 35 #[Rf a1, It p2, It p3, It p4, It p5, It p6, .unset, It (p2 - p3)] [(.int (p2 - p3))])) _
            refine XS.ifNo X1.here hx rfl (hb hby d36_35) rfl ((if0 _ _).trans (teq hc9).2) ?_
            refine XS.iload X1.here hx rfl (hb hby d36_38) rfl ?_
            refine XS.goto X1.here hx rfl (pc0 := 40) (pc' := 45) rfl (hb hby d36_40) (by decide) (by decide) ?_
            refine XS.istore X1.here hx rfl (hb hby d36_45) rfl (l' := #[Rf a1, It p2, It p3, It p4, It p5, It p6, It p5, It (p2 - p3)]) rfl ?_
            refine XS.goto X1.here hx rfl (pc0 := 47) (pc' := 54) rfl (hb hby d36_47) (by decide) (by decide) ?_
            exact kt
          exact ⟨T1, _, p5, X1.mono (by decide) (by decide), e1, N1, (by rw [if_neg hc4, if_pos hc7, if_pos hc9]), fun target kt => sg3 _ (sg6 _ (sg8 _ (sg10 _ (kt))))⟩
        · have sg11 : SG p.tables e below (T1.setTop (mkF m 54 #[Rf a1, It p2, It p3, It p4, It p5, It p6, It p6, It (p2 - p3)] [])) (T1.setTop (mkF m 35 #[Rf a1, It p2, It p3, It p4, It p5, It p6, .unset, It (p2 - p3)] [(.int (p2 - p3))])) := by
            intro target kt
            show Steps _ _ _ (T1.setTop (mkF m 35 #[Rf a1, It p2, It p3, It p4, It p5, It p6, .unset, It (p2 - p3)] [(.int (p2 - p3))])) _
            refine XS.ifYes X1.here hx rfl (pc0 := 35) (pc' := 43) rfl (hb hby d36_35) rfl ((if0 _ _).trans (feq hc9).2) (by decide) (by decide) ?_
            refine XS.iload X1.here hx rfl (hb hby d36_43) rfl ?_
            refine XS.istore X1.here hx rfl (hb hby d36_45) rfl (l' := #[Rf a1, It p2, It p3, It p4, It p5, It p6, It p6, It (p2 - p3)]) rfl ?_
            refine XS.goto X1.here hx rfl (pc0 := 47) (pc' := 54) rfl (hb hby d36_47) (by decide) (by decide) ?_
            exact kt
          exact ⟨T1, _, p6, X1.mono (by decide) (by decide), e1, N1, (by rw [if_neg hc4, if_pos hc7, if_neg hc9]), fun target kt => sg3 _ (sg6 _ (sg8 _ (sg11 _ (kt))))⟩
      · have sg12 : SG p.tables e below (T1.setTop (mkF m 54 #[Rf a1, It p2, It p3, It p4, It p5, It p6, It (10 : Int32), It (p2 - p3)] [])) (T1.setTop (mkF m 30 #[Rf a1, It p2, It p3, It p4, It p5, It p6, .unset, It (p2 - p3)] [(.int p4), (.int (p2 - p3))])) := by
          intro target kt
          show Steps _ _ _ (T1.setTop (mkF m 30 #[Rf a1, It p2, It p3, It p4, It p5, It p6, .unset, It (p2 - p3)] [(.int p4), (.int (p2 - p3))])) _
          refine XS.icmpYes X1.here hx rfl (pc0 := 30) (pc' := 50) rfl (hb hby d36_30) rfl (flt hc7).2.1 (by decide) (by decide) ?_
          refine XS.bipush X1.here hx rfl (hb hby d36_50) ?_
          refine XS.istore X1.here hx rfl (hb hby d36_52) rfl (l' := #[Rf a1, It p2, It p3, It p4, It p5, It p6, It (10 : Int32), It (p2 - p3)]) rfl ?_
          exact kt
        exact ⟨T1, _, (10 : Int32), X1.mono (by decide) (by decide), e1, N1, (by rw [if_neg hc4, if_neg hc7]), fun target kt => sg3 _ (sg6 _ (sg12 _ (kt)))⟩
  obtain ⟨cq14, kq14, q14a, q14b, q14c⟩ := isOf hZ e13 E_a1
  obtain ⟨_, _, ⟨T14, L14, k14, n14⟩, -, X14, ⟨Lc14, hQ14, l14, y14, z14⟩, st14⟩ := X13.virtualBack hx (y := m_37) (z := m_37) hown (mvT hZ (tw hw 194 rfl)) (mvT hZ (tw hw 195 rfl)) (notFace_of_selects (args := #[]) (mvT hZ (tw hw 197 rfl))) (mvT hZ (tw hw 197 rfl)) (mvT hZ (tw hw 196 rfl)) (by decide) (backOf (W := 0) (rm37 l Z a0 hw [] a1 p2 tv zm zn ni bb xx us vFM zC kt h0 n0 O0 hCS hFM h_i h_z h_lt h_g h_b h_x sC sF E_a1 F_coder_a1 F_value_a1 A_tv) hZ (tw hw 198 rfl) (tw hw 3 rfl) (by decide) (by decide)) q14a q14c (g := (mkF m 56 #[Rf a1, It p2, It p3, It p4, It p5, It p6, It v13_l6, It (p2 - p3)] [(.int p2), (.ref a1)])) rfl (by rw [hml]; rfl) (Steps.refl _) (argsL := [(.int p2)]) (rest := []) (lenOf pd_25 rfl) rfl (w0 rfl) (hb hby d36_56) (fun _ _ => ⟨rfl, e13, (by decide : 0 + 0 ≤ _), (by decide : 0 + 0 ≤ _)⟩)
  dsimp only [Pt.U, Pt.locs, Pt.cells, Pt.slots] at X14 l14 y14 z14 st14 hQ14
  subst l14 y14 z14
  obtain ⟨rfl, N14q, e14⟩ := hQ14
  have N14 := Fr.app N13 N14q
  have sg15 : SG p.tables e below (T14.setTop (mkF m 69 #[Rf a1, It p2, It p3, It p4, It p5, It p6, It v13_l6, It (p2 - p3)] [(.int (1 : Int32))])) (T13.setTop (mkF m 54 #[Rf a1, It p2, It p3, It p4, It p5, It p6, It v13_l6, It (p2 - p3)] [])) := by
    intro target kt
    show Steps _ _ _ (T13.setTop (mkF m 54 #[Rf a1, It p2, It p3, It p4, It p5, It p6, It v13_l6, It (p2 - p3)] [])) _
    refine XS.aloadN X13.here hx rfl (hb hby d36_54) rfl rfl ?_
    refine XS.iloadN X13.here hx rfl (hb hby d36_55) rfl ?_
    refine st14.trans ?_
    refine XS.iload X14.here hx rfl (hb hby d36_59) rfl ?_
    refine XS.icmpNo X14.here hx rfl (hb hby d36_61) rfl (teq (h_e.trans hv13_l6.symm)).2 ?_
    refine XS.iconst X14.here hx rfl (hb hby d36_64) ?_
    refine XS.goto X14.here hx rfl (pc0 := 65) (pc' := 69) rfl (hb hby d36_65) (by decide) (by decide) ?_
    exact kt
  obtain ⟨fs, hr, hrun, hended, hW, hsame⟩ := X14.leave (v := some (.int (1 : Int32))) (fun h => by rw [Bd.returns] at h; cases h)
  refine ⟨_, _, pre0 _ (sg2 _ (sg13 _ (sg15 _ (?_)))), hrun, hended, _, _, rfl, ?_, ⟨_, rfl⟩, hW, hsame.mono (by decide) (by decide)⟩
  · show Steps _ _ _ (T14.setTop (mkF m 69 #[Rf a1, It p2, It p3, It p4, It p5, It p6, It v13_l6, It (p2 - p3)] [(.int (1 : Int32))])) _
    exact retN X14 hx (t := .boolean) Bd.returns (by simp) (hb hby d36_69) hr
  · show Q36_i Z a1 p2 p3 p4 p5 p6 tv zm us vFM zn ni bb xx zC kt h0 n0 _ T14.heap _
    rw [e14]
    exact ⟨rfl, N14, rfl⟩
def Q36_o (Z : State) (a1 : Addr) (p2 : Int32) (p3 : Int32) (p4 : Int32) (p5 : Int32) (p6 : Int32) (tv : Addr) (zm : Int32) (us : List Value) (vFM : Value) (zC : Int32) (kt : ClassId) (h0 : Heap) (n0 : Nat) (v : Option Value) (h : Heap) (L : List Loc) : Prop := v = some (.int (1 : Int32)) ∧ Fr n0 L ∧ h = h0
theorem rm36_o (l : Launch) (Z : State) (a0 : Array Value) (hw : ∀ d ∈ tables_1, d.before a0 Z = true) (ws : List Jvm.Cond) (a1 : Addr) (p2 : Int32) (p3 : Int32) (p4 : Int32) (p5 : Int32) (p6 : Int32) (tv : Addr) (zm : Int32) (us : List Value) (vFM : Value) (zC : Int32) (kt : ClassId) (h0 : Heap) (n0 : Nat) (O0 : Old Z n0 h0) (hCS : ¬ zC = 0) (h_o : ¬ p2 < zm) (sC : TS_0 Z zC) (sF : TS_3 Z vFM) (E_a1 : Exa Z h0 a1 "java/lang/String") (F_coder_a1 : Fld Z h0 a1 "java/lang/String" "coder" "B" (.int (0 : Int32))) (F_value_a1 : Fld Z h0 a1 "java/lang/String" "value" "[B" (.ref tv)) (A_tv : Arv Z h0 tv kt .byte zm us (.int (0 : Int32))) :
    MetFree l m_38 (head1 (Jvm.Cond.code m_38 method_2_code 8 (some .boolean) :: ws) (rk 4 0 0 53)) (fun a U => a = #[(.ref a1), (.int p2), (.int p3), (.int p4), (.int p5), (.int p6)] ∧ Z.Warmed39 U.vm ∧ U.heap = h0) (fun _ _ _ _ _ => True) (fun _ U o U' => ∃ v L, o = .returned v ∧ Q36_o Z a1 p2 p3 p4 p5 p6 tv zm us vFM zC kt h0 n0 v U'.heap L ∧ FrameEnd U o U' L (rk 4 0 0 53).cells (rk 4 0 0 53).slots) := by
  refine MetFree.of_bodySF (plainFor_of_name pn_7) hisR ?_
  intro p e s m args below meth c s₁ Bd hml0 hP hK
  obtain ⟨rfl, hZ, hh⟩ := hP
  have hx := Bd.exec
  have hby := Bd.bytes
  have hml : c.maxLocals = 8 := hml0
  have hown : s.vm.findClass "com/example/tetrad/tetrad/generate/SourceTextIndentPinLaw" = some m.cls := findClass_of_methodNamed Bd.named
  have X0 : Stand p l e (rk 4 0 0 53) s m #[(.ref a1), (.int p2), (.int p3), (.int p4), (.int p5), (.int p6)] below meth c s₁ [] 0 0 := Stand.of_body Bd
  have e0 : s₁.heap = h0 := by rw [← hh, Bd.state]; rfl
  have N0 := Fr.nil n0
  have pre0 := own_pre (tb := p.tables) (e := e) (bl := below) (s := s₁) (ef_36_i m a1 p2 p3 p4 p5 p6)
  obtain ⟨cq1, kq1, q1a, q1b, q1c⟩ := isOf hZ e0 E_a1
  obtain ⟨_, _, ⟨T1, L1, k1, n1⟩, -, X1, ⟨Lc1, hQ1, l1, y1, z1⟩, st1⟩ := X0.virtualBack hx (y := m_2) (z := m_2) hown (mvT hZ (tw hw 189 rfl)) (mvT hZ (tw hw 89 rfl)) (notFace_of_selects (args := #[]) (mvT hZ (tw hw 91 rfl))) (mvT hZ (tw hw 91 rfl)) (mvT hZ (tw hw 90 rfl)) (by decide) (backOf (W := 1) (rm15 l Z a0 hw [] a1 tv zm us zC kt h0 n0 O0 hCS sC E_a1 F_coder_a1 F_value_a1 A_tv) hZ (tw hw 92 rfl) (tw hw 3 rfl) (by decide) (by decide)) q1a q1c (g := (mkF m 2 #[Rf a1, It p2, It p3, It p4, It p5, It p6, .unset, .unset] [(.ref a1), (.int p2)])) rfl (by rw [hml]; rfl) (Steps.refl _) (argsL := []) (rest := [(.int p2)]) (lenOf pd_1 rfl) rfl (w0 rfl) (hb hby d36_2) (fun _ _ => ⟨rfl, e0, (by decide : 0 + 0 ≤ _), (by decide : 0 + 0 ≤ _)⟩)
  dsimp only [Pt.U, Pt.locs, Pt.cells, Pt.slots] at X1 l1 y1 z1 st1 hQ1
  subst l1 y1 z1
  obtain ⟨rfl, N1q, e1⟩ := hQ1
  have N1 := Fr.app N0 N1q
  have sg2 : SG p.tables e below (T1.setTop (mkF m 9 #[Rf a1, It p2, It p3, It p4, It p5, It p6, .unset, .unset] [(.int (1 : Int32))])) (s₁.setTop (mkF m 0 #[Rf a1, It p2, It p3, It p4, It p5, It p6, .unset, .unset] [])) := by
    intro target kt
    show Steps _ _ _ (s₁.setTop (mkF m 0 #[Rf a1, It p2, It p3, It p4, It p5, It p6, .unset, .unset] [])) _
    refine XS.iloadN X0.here hx rfl (hb hby d36_0) rfl ?_
    refine XS.aloadN X0.here hx rfl (hb hby d36_1) rfl rfl ?_
    refine st1.trans ?_
    refine XS.icmpNo X1.here hx rfl (hb hby d36_5) rfl (flt h_o).1 ?_
    refine XS.iconst X1.here hx rfl (hb hby d36_8) ?_
    exact kt
  obtain ⟨fs, hr, hrun, hended, hW, hsame⟩ := X1.leave (v := some (.int (1 : Int32))) (fun h => by rw [Bd.returns] at h; cases h)
  refine ⟨_, _, pre0 _ (sg2 _ (?_)), hrun, hended, _, _, rfl, ?_, ⟨_, rfl⟩, hW, hsame.mono (by decide) (by decide)⟩
  · show Steps _ _ _ (T1.setTop (mkF m 9 #[Rf a1, It p2, It p3, It p4, It p5, It p6, .unset, .unset] [(.int (1 : Int32))])) _
    exact retN X1 hx (t := .boolean) Bd.returns (by simp) (hb hby d36_9) hr
  · show Q36_o Z a1 p2 p3 p4 p5 p6 tv zm us vFM zC kt h0 n0 _ T1.heap _
    rw [e1]
    exact ⟨rfl, N1, rfl⟩
def Q36 (Z : State) (a1 : Addr) (p2 : Int32) (p3 : Int32) (p4 : Int32) (p5 : Int32) (p6 : Int32) (tv : Addr) (zm : Int32) (us : List Value) (vFM : Value) (zC : Int32) (kt : ClassId) (h0 : Heap) (n0 : Nat) (v : Option Value) (h : Heap) (L : List Loc) : Prop := v = some (.int (1 : Int32)) ∧ Fr n0 L ∧ h = h0
theorem rm36 (l : Launch) (Z : State) (a0 : Array Value) (hw : ∀ d ∈ tables_1, d.before a0 Z = true) (ws : List Jvm.Cond) (a1 : Addr) (p2 : Int32) (p3 : Int32) (p4 : Int32) (p5 : Int32) (p6 : Int32) (tv : Addr) (zm : Int32) (us : List Value) (vFM : Value) (zC : Int32) (kt : ClassId) (h0 : Heap) (n0 : Nat) (O0 : Old Z n0 h0) (hCS : ¬ zC = 0) (hFM : vFM.isRef = true) (h_at : ATi us zm p2 p3 p4 p5 p6) (sC : TS_0 Z zC) (sF : TS_3 Z vFM) (E_a1 : Exa Z h0 a1 "java/lang/String") (F_coder_a1 : Fld Z h0 a1 "java/lang/String" "coder" "B" (.int (0 : Int32))) (F_value_a1 : Fld Z h0 a1 "java/lang/String" "value" "[B" (.ref tv)) (A_tv : Arv Z h0 tv kt .byte zm us (.int (0 : Int32))) :
    MetFree l m_38 (head1 (Jvm.Cond.code m_38 method_2_code 8 (some .boolean) :: ws) (rk 4 0 0 53)) (fun a U => a = #[(.ref a1), (.int p2), (.int p3), (.int p4), (.int p5), (.int p6)] ∧ Z.Warmed39 U.vm ∧ U.heap = h0) (fun _ _ _ _ _ => True) (fun _ U o U' => ∃ v L, o = .returned v ∧ Q36 Z a1 p2 p3 p4 p5 p6 tv zm us vFM zC kt h0 n0 v U'.heap L ∧ FrameEnd U o U' L (rk 4 0 0 53).cells (rk 4 0 0 53).slots) := by
  rcases h_at with h_o | ⟨h_o, zn, ni, bb, xx, h_i, h_z, h_lt, h_g, h_b, h_x, h_e⟩
  · exact rm36_o l Z a0 hw ws a1 p2 p3 p4 p5 p6 tv zm us vFM zC kt h0 n0 O0 hCS h_o sC sF E_a1 F_coder_a1 F_value_a1 A_tv
  · exact rm36_i l Z a0 hw ws a1 p2 p3 p4 p5 p6 tv zm us vFM zn ni bb xx zC kt h0 n0 O0 hCS hFM h_o h_i h_z h_lt h_g h_b h_x h_e sC sF E_a1 F_coder_a1 F_value_a1 A_tv
def Q0 (Z : State) (p1 : Int32) (p2 : Int32) (p3 : Int32) (p4 : Int32) (vFM : Value) (zC : Int32) (h0 : Heap) (n0 : Nat) (v : Option Value) (h : Heap) (L : List Loc) : Prop := v = some (.int (1 : Int32)) ∧ Fr n0 L ∧ Keep h0 h [] ∧ Old Z n0 h
theorem ef_0 (m : MethodId) (x0 : Int32) (x1 : Int32) (x2 : Int32) (x3 : Int32) : entryFrame m #[(.int x0), (.int x1), (.int x2), (.int x3)] maxLocals = mkF m 0 #[.val (.int x0), .val (.int x1), .val (.int x2), .val (.int x3), .unset, .unset, .unset, .unset, .unset, .unset, .unset, .unset, .unset, .unset, .unset, .unset, .unset] [] := by first | (simp [entryFrame, mkF, argsToLocals, Value.category, maxLocals]; done) | rfl
theorem rm0 (l : Launch) (Z : State) (a0 : Array Value) (hw : ∀ d ∈ tables_1, d.before a0 Z = true) (ws : List Jvm.Cond) (p1 : Int32) (p2 : Int32) (p3 : Int32) (p4 : Int32) (vFM : Value) (zC : Int32) (h0 : Heap) (n0 : Nat) (O0 : Old Z n0 h0) (hCS : ¬ zC = 0) (hFM : vFM.isRef = true) (sC : TS_0 Z zC) (sF : TS_3 Z vFM) :
    MetFree l x (head1 (Jvm.Cond.code x code maxLocals ret :: ws) room_1) (fun a U => a = #[(.int p1), (.int p2), (.int p3), (.int p4)] ∧ Z.Warmed39 U.vm ∧ U.heap = h0 ∧ CHv Z own_EL U.vm h0) (fun _ _ _ _ _ => True) (fun _ U o U' => ∃ v L, o = .returned v ∧ Q0 Z p1 p2 p3 p4 vFM zC h0 n0 v U'.heap L ∧ CHr Z own_EL U.vm U.heap U'.vm U'.heap ∧ ReturnedEndW U o U' L room_1.cells room_1.slots) := by
  refine MetFree.of_bodySF (plainFor_of_name pn_7) hisR ?_
  intro p e s m args below meth c s₁ Bd hml0 hP hK
  obtain ⟨rfl, hZ, hh, hCH⟩ := hP
  have hx := Bd.exec
  have hby := Bd.bytes
  have hml : c.maxLocals = 17 := hml0
  have hown : s.vm.findClass "com/example/tetrad/tetrad/generate/SourceTextIndentPinLaw" = some m.cls := findClass_of_methodNamed Bd.named
  have X0 : Stand p l e room_1 (s.setVm s.vm) m #[(.int p1), (.int p2), (.int p3), (.int p4)] below meth c s₁ [] 0 0 := Stand.of_body Bd
  have e0 : s₁.heap = h0 := by rw [← hh, Bd.state]; rfl
  have N0 := Fr.nil n0
  have pre0 := own_pre (tb := p.tables) (e := e) (bl := below) (s := s₁) (ef_0 m p1 p2 p3 p4)
  have Y0 : s.Since s.vm h0.size := (State.WarmedH.refl s).since h0.size
  have Yk0 : h0.size ≤ h0.size := Nat.le_refl _
  have CR0 : CHr Z own_EL s.vm h0 s.vm h0 := CHr.refl hCH
  have hEL := own_EW hw
  have hSA := own_SA hw
  have K0 := Keep.refl h0 []
  obtain ⟨u1, hu1⟩ : ∃ z, z = (p1 &&& (3 : Int32)) := ⟨_, rfl⟩
  have sg2 : SG p.tables e below (s₁.setTop (mkF m 3 #[It p1, It p2, It p3, It p4, .unset, .unset, .unset, .unset, .unset, .unset, .unset, .unset, .unset, .unset, .unset, .unset, .unset] [(.int u1)])) (s₁.setTop (mkF m 0 #[It p1, It p2, It p3, It p4, .unset, .unset, .unset, .unset, .unset, .unset, .unset, .unset, .unset, .unset, .unset, .unset, .unset] [])) := by
    intro target kt
    subst hu1
    show Steps _ _ _ (s₁.setTop (mkF m 0 #[It p1, It p2, It p3, It p4, .unset, .unset, .unset, .unset, .unset, .unset, .unset, .unset, .unset, .unset, .unset, .unset, .unset] [])) _
    refine XS.iloadN X0.here hx rfl (hb hby at_0) rfl ?_
    refine XS.iconst X0.here hx rfl (hb hby at_1) ?_
    refine XS.iand X0.here hx rfl (hb hby at_2) rfl ?_
    exact kt
  have sg3 : SG p.tables e below (s₁.setTop (mkF m 5 #[It p1, It p2, It p3, It p4, It u1, .unset, .unset, .unset, .unset, .unset, .unset, .unset, .unset, .unset, .unset, .unset, .unset] [])) (s₁.setTop (mkF m 3 #[It p1, It p2, It p3, It p4, .unset, .unset, .unset, .unset, .unset, .unset, .unset, .unset, .unset, .unset, .unset, .unset, .unset] [(.int u1)])) := by
    intro target kt
    show Steps _ _ _ (s₁.setTop (mkF m 3 #[It p1, It p2, It p3, It p4, .unset, .unset, .unset, .unset, .unset, .unset, .unset, .unset, .unset, .unset, .unset, .unset, .unset] [(.int u1)])) _
    refine XS.istore X0.here hx rfl (hb hby at_3) rfl (l' := #[It p1, It p2, It p3, It p4, It u1, .unset, .unset, .unset, .unset, .unset, .unset, .unset, .unset, .unset, .unset, .unset, .unset]) rfl ?_
    exact kt
  obtain ⟨T11, L11, v11_t0, X11, e11, N11, hv11_t0, sg11⟩ : ∃ (T' : State) (L' : List Loc) (v11_t0 : Int32), Stand p l e room_1 (s.setVm s.vm) m #[(.int p1), (.int p2), (.int p3), (.int p4)] below meth c T' L' 0 0 ∧ T'.heap = h0 ∧ Fr n0 L' ∧ v11_t0 = (if (p2 &&& (1 : Int32)) = (0 : Int32) then (0 : Int32) else (if (0 : Int32) < u1 then (1 : Int32) else (0 : Int32))) ∧ ∀ target, Steps p.tables e below (T'.setTop (mkF m 21 #[It p1, It p2, It p3, It p4, It u1, .unset, .unset, .unset, .unset, .unset, .unset, .unset, .unset, .unset, .unset, .unset, .unset] [(.int v11_t0)])) target → Steps p.tables e below (s₁.setTop (mkF m 5 #[It p1, It p2, It p3, It p4, It u1, .unset, .unset, .unset, .unset, .unset, .unset, .unset, .unset, .unset, .unset, .unset, .unset] [])) target := by
    have sg4 : SG p.tables e below (s₁.setTop (mkF m 8 #[It p1, It p2, It p3, It p4, It u1, .unset, .unset, .unset, .unset, .unset, .unset, .unset, .unset, .unset, .unset, .unset, .unset] [(.int (p2 &&& (1 : Int32)))])) (s₁.setTop (mkF m 5 #[It p1, It p2, It p3, It p4, It u1, .unset, .unset, .unset, .unset, .unset, .unset, .unset, .unset, .unset, .unset, .unset, .unset] [])) := by
      intro target kt
      show Steps _ _ _ (s₁.setTop (mkF m 5 #[It p1, It p2, It p3, It p4, It u1, .unset, .unset, .unset, .unset, .unset, .unset, .unset, .unset, .unset, .unset, .unset, .unset] [])) _
      refine XS.iloadN X0.here hx rfl (hb hby at_5) rfl ?_
      refine XS.iconst X0.here hx rfl (hb hby at_6) ?_
      refine XS.iand X0.here hx rfl (hb hby at_7) rfl ?_
      exact kt
    by_cases hc5 : (p2 &&& (1 : Int32)) = (0 : Int32)
    · have sg6 : SG p.tables e below (s₁.setTop (mkF m 21 #[It p1, It p2, It p3, It p4, It u1, .unset, .unset, .unset, .unset, .unset, .unset, .unset, .unset, .unset, .unset, .unset, .unset] [(.int (0 : Int32))])) (s₁.setTop (mkF m 8 #[It p1, It p2, It p3, It p4, It u1, .unset, .unset, .unset, .unset, .unset, .unset, .unset, .unset, .unset, .unset, .unset, .unset] [(.int (p2 &&& (1 : Int32)))])) := by
        intro target kt
        show Steps _ _ _ (s₁.setTop (mkF m 8 #[It p1, It p2, It p3, It p4, It u1, .unset, .unset, .unset, .unset, .unset, .unset, .unset, .unset, .unset, .unset, .unset, .unset] [(.int (p2 &&& (1 : Int32)))])) _
        refine XS.ifYes X0.here hx rfl (pc0 := 8) (pc' := 20) rfl (hb hby at_8) rfl ((if0 _ _).trans (teq hc5).1) (by decide) (by decide) ?_
        refine XS.iconst X0.here hx rfl (hb hby at_20) ?_
        exact kt
      exact ⟨s₁, _, (0 : Int32), X0.mono (by decide) (by decide), e0, N0, (by rw [if_pos hc5]), fun target kt => sg4 _ (sg6 _ (kt))⟩
    · have sg7 : SG p.tables e below (s₁.setTop (mkF m 13 #[It p1, It p2, It p3, It p4, It u1, .unset, .unset, .unset, .unset, .unset, .unset, .unset, .unset, .unset, .unset, .unset, .unset] [(.int u1)])) (s₁.setTop (mkF m 8 #[It p1, It p2, It p3, It p4, It u1, .unset, .unset, .unset, .unset, .unset, .unset, .unset, .unset, .unset, .unset, .unset, .unset] [(.int (p2 &&& (1 : Int32)))])) := by
        intro target kt
        show Steps _ _ _ (s₁.setTop (mkF m 8 #[It p1, It p2, It p3, It p4, It u1, .unset, .unset, .unset, .unset, .unset, .unset, .unset, .unset, .unset, .unset, .unset, .unset] [(.int (p2 &&& (1 : Int32)))])) _
        refine XS.ifNo X0.here hx rfl (hb hby at_8) rfl ((if0 _ _).trans (feq hc5).1) ?_
        refine XS.iload X0.here hx rfl (hb hby at_11) rfl ?_
        exact kt
      by_cases hc8 : (0 : Int32) < u1
      · have sg9 : SG p.tables e below (s₁.setTop (mkF m 21 #[It p1, It p2, It p3, It p4, It u1, .unset, .unset, .unset, .unset, .unset, .unset, .unset, .unset, .unset, .unset, .unset, .unset] [(.int (1 : Int32))])) (s₁.setTop (mkF m 13 #[It p1, It p2, It p3, It p4, It u1, .unset, .unset, .unset, .unset, .unset, .unset, .unset, .unset, .unset, .unset, .unset, .unset] [(.int u1)])) := by
          intro target kt
          show Steps _ _ _ (s₁.setTop (mkF m 13 #[It p1, It p2, It p3, It p4, It u1, .unset, .unset, .unset, .unset, .unset, .unset, .unset, .unset, .unset, .unset, .unset, .unset] [(.int u1)])) _
          refine XS.ifNo X0.here hx rfl (hb hby at_13) rfl ((if0 _ _).trans (tlt hc8).2.2.2) ?_
          refine XS.iconst X0.here hx rfl (hb hby at_16) ?_
          refine XS.goto X0.here hx rfl (pc0 := 17) (pc' := 21) rfl (hb hby at_17) (by decide) (by decide) ?_
          exact kt
        exact ⟨s₁, _, (1 : Int32), X0.mono (by decide) (by decide), e0, N0, (by rw [if_neg hc5, if_pos hc8]), fun target kt => sg4 _ (sg7 _ (sg9 _ (kt)))⟩
      · have sg10 : SG p.tables e below (s₁.setTop (mkF m 21 #[It p1, It p2, It p3, It p4, It u1, .unset, .unset, .unset, .unset, .unset, .unset, .unset, .unset, .unset, .unset, .unset, .unset] [(.int (0 : Int32))])) (s₁.setTop (mkF m 13 #[It p1, It p2, It p3, It p4, It u1, .unset, .unset, .unset, .unset, .unset, .unset, .unset, .unset, .unset, .unset, .unset, .unset] [(.int u1)])) := by
          intro target kt
          show Steps _ _ _ (s₁.setTop (mkF m 13 #[It p1, It p2, It p3, It p4, It u1, .unset, .unset, .unset, .unset, .unset, .unset, .unset, .unset, .unset, .unset, .unset, .unset] [(.int u1)])) _
          refine XS.ifYes X0.here hx rfl (pc0 := 13) (pc' := 20) rfl (hb hby at_13) rfl ((if0 _ _).trans (flt hc8).2.2.2) (by decide) (by decide) ?_
          refine XS.iconst X0.here hx rfl (hb hby at_20) ?_
          exact kt
        exact ⟨s₁, _, (0 : Int32), X0.mono (by decide) (by decide), e0, N0, (by rw [if_neg hc5, if_neg hc8]), fun target kt => sg4 _ (sg7 _ (sg10 _ (kt)))⟩
  obtain ⟨u12, hu12⟩ : ∃ z, z = (((p2.toUInt32 >>> ((1 : Int32) &&& 31).toUInt32).toInt32) % (3 : Int32)) := ⟨_, rfl⟩
  have sg13 : SG p.tables e below (T11.setTop (mkF m 28 #[It p1, It p2, It p3, It p4, It u1, It v11_t0, .unset, .unset, .unset, .unset, .unset, .unset, .unset, .unset, .unset, .unset, .unset] [(.int u12)])) (T11.setTop (mkF m 21 #[It p1, It p2, It p3, It p4, It u1, .unset, .unset, .unset, .unset, .unset, .unset, .unset, .unset, .unset, .unset, .unset, .unset] [(.int v11_t0)])) := by
    intro target kt
    subst hu12
    show Steps _ _ _ (T11.setTop (mkF m 21 #[It p1, It p2, It p3, It p4, It u1, .unset, .unset, .unset, .unset, .unset, .unset, .unset, .unset, .unset, .unset, .unset, .unset] [(.int v11_t0)])) _
    refine XS.istore X11.here hx rfl (hb hby at_21) rfl (l' := #[It p1, It p2, It p3, It p4, It u1, It v11_t0, .unset, .unset, .unset, .unset, .unset, .unset, .unset, .unset, .unset, .unset, .unset]) rfl ?_
    refine XS.iloadN X11.here hx rfl (hb hby at_23) rfl ?_
    refine XS.iconst X11.here hx rfl (hb hby at_24) ?_
    refine XS.iushr X11.here hx rfl (hb hby at_25) rfl ?_
    refine XS.iconst X11.here hx rfl (hb hby at_26) ?_
    refine iremM (g := (mkF m 27 #[It p1, It p2, It p3, It p4, It u1, It v11_t0, .unset, .unset, .unset, .unset, .unset, .unset, .unset, .unset, .unset, .unset, .unset] [(.int (3 : Int32)), (.int ((p2.toUInt32 >>> ((1 : Int32) &&& 31).toUInt32).toInt32))])) X11 hx rfl (hb hby at_27) rfl (by decide) ?_
    exact kt
  obtain ⟨u14, hu14⟩ : ∃ z, z = ((p3 &&& (255 : Int32)).toUInt32.toUInt16.toUInt32.toInt32) := ⟨_, rfl⟩
  have sg15 : SG p.tables e below (T11.setTop (mkF m 36 #[It p1, It p2, It p3, It p4, It u1, It v11_t0, It u12, .unset, .unset, .unset, .unset, .unset, .unset, .unset, .unset, .unset, .unset] [(.int u14)])) (T11.setTop (mkF m 28 #[It p1, It p2, It p3, It p4, It u1, It v11_t0, .unset, .unset, .unset, .unset, .unset, .unset, .unset, .unset, .unset, .unset, .unset] [(.int u12)])) := by
    intro target kt
    subst hu14
    show Steps _ _ _ (T11.setTop (mkF m 28 #[It p1, It p2, It p3, It p4, It u1, It v11_t0, .unset, .unset, .unset, .unset, .unset, .unset, .unset, .unset, .unset, .unset, .unset] [(.int u12)])) _
    refine XS.istore X11.here hx rfl (hb hby at_28) rfl (l' := #[It p1, It p2, It p3, It p4, It u1, It v11_t0, It u12, .unset, .unset, .unset, .unset, .unset, .unset, .unset, .unset, .unset, .unset]) rfl ?_
    refine XS.iloadN X11.here hx rfl (hb hby at_30) rfl ?_
    refine XS.sipush X11.here hx rfl (hb hby at_31) ?_
    refine XS.iand X11.here hx rfl (hb hby at_34) rfl ?_
    refine XS.i2c X11.here hx rfl (hb hby at_35) rfl ?_
    exact kt
  have rg_u14 := own_chr hu14
  obtain ⟨u16, hu16⟩ : ∃ z, z = ((p4 &&& (255 : Int32)).toUInt32.toUInt16.toUInt32.toInt32) := ⟨_, rfl⟩
  have sg17 : SG p.tables e below (T11.setTop (mkF m 44 #[It p1, It p2, It p3, It p4, It u1, It v11_t0, It u12, It u14, .unset, .unset, .unset, .unset, .unset, .unset, .unset, .unset, .unset] [(.int u16)])) (T11.setTop (mkF m 36 #[It p1, It p2, It p3, It p4, It u1, It v11_t0, It u12, .unset, .unset, .unset, .unset, .unset, .unset, .unset, .unset, .unset, .unset] [(.int u14)])) := by
    intro target kt
    subst hu16
    show Steps _ _ _ (T11.setTop (mkF m 36 #[It p1, It p2, It p3, It p4, It u1, It v11_t0, It u12, .unset, .unset, .unset, .unset, .unset, .unset, .unset, .unset, .unset, .unset] [(.int u14)])) _
    refine XS.istore X11.here hx rfl (hb hby at_36) rfl (l' := #[It p1, It p2, It p3, It p4, It u1, It v11_t0, It u12, It u14, .unset, .unset, .unset, .unset, .unset, .unset, .unset, .unset, .unset]) rfl ?_
    refine XS.iloadN X11.here hx rfl (hb hby at_38) rfl ?_
    refine XS.sipush X11.here hx rfl (hb hby at_39) ?_
    refine XS.iand X11.here hx rfl (hb hby at_42) rfl ?_
    refine XS.i2c X11.here hx rfl (hb hby at_43) rfl ?_
    exact kt
  have rg_u16 := own_chr hu16
  obtain ⟨T18, h18, k18, X18, e18, E18, A18, st18⟩ := newP X11 hx hZ (tw hw 0 rfl) e11 (g := (mkF m 47 #[It p1, It p2, It p3, It p4, It u1, It v11_t0, It u12, It u14, It u16, .unset, .unset, .unset, .unset, .unset, .unset, .unset, .unset] [(.int (1 : Int32))])) rfl (hb hby at_47) rfl (by decide) (cap := 1) (by decide) (by decide) (by decide) (by decide)
  obtain ⟨b18, g18⟩ : ∃ z, z = h0.size := ⟨_, rfl⟩
  rw [← g18] at A18 st18
  have ge_b18 : n0 ≤ b18 := Nat.le_trans (own_osz O0) (Nat.le_of_eq g18.symm)
  have sz_b18 : h0.size ≤ b18 := Nat.le_trans K0.1 (Nat.le_of_eq g18.symm)
  have O19 := O0.ext E18
  have K18 := K0.ext E18
  have CR20 := CR0.trans (CHr.ext E18 CR0.1)
  have V_b18 : Arv Z h18 b18 k18 .char (1 : Int32) [(.int (0 : Int32))] (.int (0 : Int32)) := (Arv.new A18 (by decide)).pad (pad_rep [] (.int (0 : Int32)) 1)
  obtain ⟨cl21, Ar21, q21, Sz21, Nn21, Hh21, Gg21⟩ := id V_b18
  have hin21 : ¬ ((0 : Int32) < 0 ∨ cl21.slots.size ≤ ((0 : Int32)).toNatClampNeg) := inb_of Sz21 ⟨by decide, by decide⟩
  obtain ⟨T22, h22, X22, e22, W22, st22⟩ := stC X18 hx hZ e18 Ar21 (j := (0 : Int32)) hin21 (g := (mkF m 53 #[It p1, It p2, It p3, It p4, It u1, It v11_t0, It u12, It u14, It u16, .unset, .unset, .unset, .unset, .unset, .unset, .unset, .unset] [(.int u14), (.int (0 : Int32)), (.ref b18), (.ref b18)])) rfl rfl (hb hby at_53)
  have V22 : Arv Z h22 b18 k18 .char (1 : Int32) [(.int (nar .char u14))] (.int (0 : Int32)) := Arv.set Ar21 q21 Sz21 Nn21 Hh21 Gg21 (fits_nar_char _) W22 0 rfl (Nat.le_of_ble_eq_true rfl)
  have N22 := Fr.snoc X22 N11 ge_b18
  have O23 := O19.wr W22 ge_b18
  have K22 := K18.wr W22 (Or.inr sz_b18)
  have CR24 := CR20.trans (CHr.wr W22 (own_safearr hZ.alike V_b18 (by decide)) CR20.1)
  obtain ⟨T25, h25, k25, X25, e25, E25, A25, st25⟩ := newP X22 hx hZ (tw hw 0 rfl) e22 (g := (mkF m 57 #[It p1, It p2, It p3, It p4, It u1, It v11_t0, It u12, It u14, It u16, Rf b18, .unset, .unset, .unset, .unset, .unset, .unset, .unset] [(.int (2 : Int32))])) rfl (hb hby at_57) rfl (by decide) (cap := 2) (by decide) (by decide) (by decide) (by decide)
  obtain ⟨b25, g25⟩ : ∃ z, z = h22.size := ⟨_, rfl⟩
  rw [← g25] at A25 st25
  have ge_b25 : n0 ≤ b25 := Nat.le_trans (own_osz O23) (Nat.le_of_eq g25.symm)
  have sz_b25 : h0.size ≤ b25 := Nat.le_trans K22.1 (Nat.le_of_eq g25.symm)
  have O26 := O23.ext E25
  have K25 := K22.ext E25
  have CR27 := CR24.trans (CHr.ext E25 CR24.1)
  have V_b25 : Arv Z h25 b25 k25 .char (2 : Int32) [(.int (0 : Int32)), (.int (0 : Int32))] (.int (0 : Int32)) := (Arv.new A25 (by decide)).pad (pad_rep [] (.int (0 : Int32)) 2)
  obtain ⟨cl28, Ar28, q28, Sz28, Nn28, Hh28, Gg28⟩ := id V_b25
  have hin28 : ¬ ((0 : Int32) < 0 ∨ cl28.slots.size ≤ ((0 : Int32)).toNatClampNeg) := inb_of Sz28 ⟨by decide, by decide⟩
  obtain ⟨T29, h29, X29, e29, W29, st29⟩ := stC X25 hx hZ e25 Ar28 (j := (0 : Int32)) hin28 (g := (mkF m 63 #[It p1, It p2, It p3, It p4, It u1, It v11_t0, It u12, It u14, It u16, Rf b18, .unset, .unset, .unset, .unset, .unset, .unset, .unset] [(.int u14), (.int (0 : Int32)), (.ref b25), (.ref b25)])) rfl rfl (hb hby at_63)
  have V29 : Arv Z h29 b25 k25 .char (2 : Int32) [(.int (nar .char u14)), (.int (0 : Int32))] (.int (0 : Int32)) := Arv.set Ar28 q28 Sz28 Nn28 Hh28 Gg28 (fits_nar_char _) W29 0 rfl (Nat.le_of_ble_eq_true rfl)
  have N29 := Fr.snoc X29 N22 ge_b25
  have O30 := O26.wr W29 ge_b25
  have K29 := K25.wr W29 (Or.inr sz_b25)
  have CR31 := CR27.trans (CHr.wr W29 (own_safearr hZ.alike V_b25 (by decide)) CR27.1)
  obtain ⟨cl32, Ar32, q32, Sz32, Nn32, Hh32, Gg32⟩ := id V29
  have hin32 : ¬ ((1 : Int32) < 0 ∨ cl32.slots.size ≤ ((1 : Int32)).toNatClampNeg) := inb_of Sz32 ⟨by decide, by decide⟩
  obtain ⟨T33, h33, X33, e33, W33, st33⟩ := stC X29 hx hZ e29 Ar32 (j := (1 : Int32)) hin32 (g := (mkF m 68 #[It p1, It p2, It p3, It p4, It u1, It v11_t0, It u12, It u14, It u16, Rf b18, .unset, .unset, .unset, .unset, .unset, .unset, .unset] [(.int u16), (.int (1 : Int32)), (.ref b25), (.ref b25)])) rfl rfl (hb hby at_68)
  have V33 : Arv Z h33 b25 k25 .char (2 : Int32) [(.int (nar .char u14)), (.int (nar .char u16))] (.int (0 : Int32)) := Arv.set Ar32 q32 Sz32 Nn32 Hh32 Gg32 (fits_nar_char _) W33 1 rfl (Nat.le_of_ble_eq_true rfl)
  have N33 := Fr.snoc X33 N29 ge_b25
  have O34 := O30.wr W33 ge_b25
  have K33 := K29.wr W33 (Or.inr sz_b25)
  have CR35 := CR31.trans (CHr.wr W33 (own_safearr hZ.alike V29 (by decide)) CR31.1)
  have sg36 : SG p.tables e below (T33.setTop (mkF m 71 #[It p1, It p2, It p3, It p4, It u1, It v11_t0, It u12, It u14, It u16, Rf b18, Rf b25, .unset, .unset, .unset, .unset, .unset, .unset] [])) (T11.setTop (mkF m 44 #[It p1, It p2, It p3, It p4, It u1, It v11_t0, It u12, It u14, .unset, .unset, .unset, .unset, .unset, .unset, .unset, .unset, .unset] [(.int u16)])) := by
    intro target kt
    show Steps _ _ _ (T11.setTop (mkF m 44 #[It p1, It p2, It p3, It p4, It u1, It v11_t0, It u12, It u14, .unset, .unset, .unset, .unset, .unset, .unset, .unset, .unset, .unset] [(.int u16)])) _
    refine XS.istore X11.here hx rfl (hb hby at_44) rfl (l' := #[It p1, It p2, It p3, It p4, It u1, It v11_t0, It u12, It u14, It u16, .unset, .unset, .unset, .unset, .unset, .unset, .unset, .unset]) rfl ?_
    refine XS.iconst X11.here hx rfl (hb hby at_46) ?_
    refine st18 _ ?_
    refine XS.dup X18.here hx rfl (hb hby at_49) rfl rfl ?_
    refine XS.iconst X18.here hx rfl (hb hby at_50) ?_
    refine XS.iload X18.here hx rfl (hb hby at_51) rfl ?_
    refine st22 _ ?_
    refine XS.astore X22.here hx rfl (hb hby at_54) rfl rfl (l' := #[It p1, It p2, It p3, It p4, It u1, It v11_t0, It u12, It u14, It u16, Rf b18, .unset, .unset, .unset, .unset, .unset, .unset, .unset]) rfl ?_
    refine XS.iconst X22.here hx rfl (hb hby at_56) ?_
    refine st25 _ ?_
    refine XS.dup X25.here hx rfl (hb hby at_59) rfl rfl ?_
    refine XS.iconst X25.here hx rfl (hb hby at_60) ?_
    refine XS.iload X25.here hx rfl (hb hby at_61) rfl ?_
    refine st29 _ ?_
    refine XS.dup X29.here hx rfl (hb hby at_64) rfl rfl ?_
    refine XS.iconst X29.here hx rfl (hb hby at_65) ?_
    refine XS.iload X29.here hx rfl (hb hby at_66) rfl ?_
    refine st33 _ ?_
    refine XS.astore X33.here hx rfl (hb hby at_69) rfl rfl (l' := #[It p1, It p2, It p3, It p4, It u1, It v11_t0, It u12, It u14, It u16, Rf b18, Rf b25, .unset, .unset, .unset, .unset, .unset, .unset]) rfl ?_
    exact kt
  obtain ⟨T330, L330, v330_l6, v330_l11, v330_l12, v330_l14, v330_l15, v330_l16, h330, vm330, kk330, ot330, ok330, oz330, ol330, X330, e330, N330, O330, K330, KK330, Y330, Yk330, hZ330, hown330, CR_330, CQ330, EO330, CO330, VO330, AO330, hAT, sg330⟩ : ∃ (T' : State) (L' : List Loc) (v330_l6 : Int32) (v330_l11 : Addr) (v330_l12 : Addr) (v330_l14 : Int32) (v330_l15 : Addr) (v330_l16 : Int32) (h' : Heap) (vm' : Vm) (k' : Nat) (ot330 : Addr) (ok330 : ClassId) (oz330 : Int32) (ol330 : List Value), Stand p l e room_1 (s.setVm vm') m #[(.int p1), (.int p2), (.int p3), (.int p4)] below meth c T' L' 13 87 ∧ T'.heap = h' ∧ Fr n0 L' ∧ Old Z n0 h' ∧ Keep h33 h' [] ∧ Keep h0 h' [] ∧ s.Since vm' k' ∧ k' ≤ h'.size ∧ Z.Warmed39 (s.setVm vm').vm ∧ (s.setVm vm').vm.findClass "com/example/tetrad/tetrad/generate/SourceTextIndentPinLaw" = some m.cls ∧ CHr Z own_EL s.vm h0 vm' h' ∧ CHr Z own_EL s.vm h33 vm' h' ∧ Exa Z h' v330_l15 "java/lang/String" ∧ Fld Z h' v330_l15 "java/lang/String" "coder" "B" (.int (0 : Int32)) ∧ Fld Z h' v330_l15 "java/lang/String" "value" "[B" (.ref ot330) ∧ Arv Z h' ot330 ok330 .byte oz330 ol330 (.int (0 : Int32)) ∧ AT ol330 oz330 v330_l16 v330_l6 u14 u16 ∧ ∀ target, Steps p.tables e below (T'.setTop (mkF m 285 #[It p1, It p2, It p3, It p4, It u1, It v11_t0, It v330_l6, It u14, It u16, Rf b18, Rf b25, Rf v330_l11, Rf v330_l12, It (1 : Int32), It v330_l14, Rf v330_l15, It v330_l16] [])) target → Steps p.tables e below (T33.setTop (mkF m 71 #[It p1, It p2, It p3, It p4, It u1, It v11_t0, It u12, It u14, It u16, Rf b18, Rf b25, .unset, .unset, .unset, .unset, .unset, .unset] [])) target := by
    by_cases hc37 : u12 = (0 : Int32)
    · subst hc37
      obtain ⟨sa38, T38, h38, k38, sb38, kb38, X38, e38, E38, Y38, Yk38, hZ38, hown38, A38, Fc38, Fv38, V38, la38, lb38, C38, Lt38, SF38, st38⟩ := ldcCH X33 hx hZ hown (tw hw 215 rfl) hSA e33 Y0 (Nat.le_trans (Nat.le_trans (Nat.le_trans (Nat.le_trans (Nat.le_trans Yk0 E18.1) (Keep.of_wr W22).1) E25.1) (Keep.of_wr W29).1) (Keep.of_wr W33).1) hEL (own_mem (by decide)) CR35.1 (vs := []) (z := (0 : Int32)) (by decide) (by decide) (by decide) (g := (mkF m 76 #[It p1, It p2, It p3, It p4, It u1, It v11_t0, It (0 : Int32), It u14, It u16, Rf b18, Rf b25, .unset, .unset, .unset, .unset, .unset, .unset] [])) rfl (hb hby at_76) (n := 0) (by decide) (by decide) (by decide) (by decide)
      have O39 := O34.ext E38
      have K38 := K33.ext E38
      have CR40 := CR35.trans (C38)
      obtain ⟨T41, h41, X41, e41, E41, A41, D41, -, st41⟩ := newO X38 hx hZ38 hown38 (tw hw 30 rfl) (tw hw 31 rfl) (tw hw 32 rfl) e38 (g := (mkF m 114 #[It p1, It p2, It p3, It p4, It u1, It v11_t0, It (0 : Int32), It u14, It u16, Rf b18, Rf b25, Rf sa38, .unset, .unset, .unset, .unset, .unset] [])) rfl (hb hby at_114) (by decide) (by decide)
      obtain ⟨b41, g41⟩ : ∃ z, z = h38.size := ⟨_, rfl⟩
      rw [← g41] at A41 D41 st41
      have ge_b41 : n0 ≤ b41 := Nat.le_trans (own_osz O39) (Nat.le_of_eq g41.symm)
      have sz_b41 : h0.size ≤ b41 := Nat.le_trans K38.1 (Nat.le_of_eq g41.symm)
      have O42 := O39.ext E41
      have K41 := K38.ext E41
      have CR43 := CR40.trans (CHr.ext E41 CR40.1)
      have F_text_b41 : Fld Z h41 b41 "com/example/tetrad/tetrad/generate/SourceText" "text" "Ljava/lang/StringBuilder;" .null := D41 (Or.inr (tw hw 56 rfl)) (ty := (.object "java/lang/StringBuilder")) (by decide)
      have F_depth_b41 : Fld Z h41 b41 "com/example/tetrad/tetrad/generate/SourceText" "depth" "I" (.int (0 : Int32)) := D41 (Or.inl (tw hw 71 rfl)) (ty := .int) (by decide)
      obtain ⟨_, _, ⟨T44, L44, k44, n44⟩, -, X44, ⟨Lc44, hQ44, l44, y44, z44⟩, st44⟩ := X41.specialBack hx (y := m_11) rfl hown38 (mvT hZ38 (tw hw 33 rfl)) (mvT hZ38 (tw hw 34 rfl)) (mvT hZ38 (tw hw 35 rfl)) (by decide) (backOf (W := 1) (rm7 l Z a0 hw [] b41 zC h41 n0 O42 sC A41 F_text_b41 F_depth_b41 ge_b41 hCS) hZ38 (tw hw 35 rfl) (tw hw 32 rfl) (by decide) (by decide)) (g := (mkF m 118 #[It p1, It p2, It p3, It p4, It u1, It v11_t0, It (0 : Int32), It u14, It u16, Rf b18, Rf b25, Rf sa38, .unset, .unset, .unset, .unset, .unset] [(.ref b41), (.ref b41)])) rfl (by rw [hml]; rfl) (Steps.refl _) (a := b41) (argsL := []) (rest := [(.ref b41)]) (lenOf pd_3 rfl) rfl (w0 rfl) (hb hby at_118) (fun _ _ => ⟨rfl, e41, (by decide : 5 + 2 ≤ _), (by decide : 9 + 20 ≤ _)⟩)
      dsimp only [Pt.U, Pt.locs, Pt.cells, Pt.slots] at X44 l44 y44 z44 st44 hQ44
      subst l44 y44 z44
      obtain ⟨sb_44, ro_44, ko_44, rfl, N44q, K44q, O44, f44_0, f44_1, f44_2, f44_3, f44_4, f44_5, f44_6, f44_7, f44_8, f44_9, f44_10⟩ := hQ44
      have N44 := Fr.app N33 N44q
      have CR45 := CR43.trans (CHr.keep K44q (allS (Safe.exa hZ38.alike A41 (by decide) (by decide)) all0) CR43.1)
      have K44 := K41.trans K44q (allS (Or.inr sz_b41) all0)
      have sg46 : SG p.tables e below (T44.setTop (mkF m 126 #[It p1, It p2, It p3, It p4, It u1, It v11_t0, It (0 : Int32), It u14, It u16, Rf b18, Rf b25, Rf sa38, Rf b41, It (1 : Int32), .unset, .unset, .unset] [])) (T33.setTop (mkF m 71 #[It p1, It p2, It p3, It p4, It u1, It v11_t0, It (0 : Int32), It u14, It u16, Rf b18, Rf b25, .unset, .unset, .unset, .unset, .unset, .unset] [])) := by
        intro target kt
        show Steps _ _ _ (T33.setTop (mkF m 71 #[It p1, It p2, It p3, It p4, It u1, It v11_t0, It (0 : Int32), It u14, It u16, Rf b18, Rf b25, .unset, .unset, .unset, .unset, .unset, .unset] [])) _
        refine XS.iload X33.here hx rfl (hb hby at_71) rfl ?_
        refine XS.ifNo X33.here hx rfl (hb hby at_73) rfl ((if0 _ _).trans (teq (by decide : (0 : Int32) = (0 : Int32))).2) ?_
        refine st38 _ ?_
        refine XS.astore X38.here hx rfl (hb hby at_78) rfl rfl (l' := #[It p1, It p2, It p3, It p4, It u1, It v11_t0, It (0 : Int32), It u14, It u16, Rf b18, Rf b25, Rf sa38, .unset, .unset, .unset, .unset, .unset]) rfl ?_
        refine XS.goto X38.here hx rfl (pc0 := 80) (pc' := 114) rfl (hb hby at_80) (by decide) (by decide) ?_
        refine st41 _ ?_
        refine XS.dup X41.here hx rfl (hb hby at_117) rfl rfl ?_
        refine st44.trans ?_
        refine XS.astore X44.here hx rfl (hb hby at_121) rfl rfl (l' := #[It p1, It p2, It p3, It p4, It u1, It v11_t0, It (0 : Int32), It u14, It u16, Rf b18, Rf b25, Rf sa38, Rf b41, .unset, .unset, .unset, .unset]) rfl ?_
        refine XS.iconst X44.here hx rfl (hb hby at_123) ?_
        refine XS.istore X44.here hx rfl (hb hby at_124) rfl (l' := #[It p1, It p2, It p3, It p4, It u1, It v11_t0, It (0 : Int32), It u14, It u16, Rf b18, Rf b25, Rf sa38, Rf b41, It (1 : Int32), .unset, .unset, .unset]) rfl ?_
        exact kt
      obtain ⟨T53, L53, h53, vm53, kk53, dv53, X53, e53, N53, O53, K53, KK53, Y53, Yk53, hZ53, hown53, CR_53, CQ53, FD53, FT53, ed53, sg53⟩ : ∃ (T' : State) (L' : List Loc) (h' : Heap) (vm' : Vm) (k' : Nat) (dv53 : Int32), Stand p l e room_1 (s.setVm vm') m #[(.int p1), (.int p2), (.int p3), (.int p4)] below meth c T' L' 7 29 ∧ T'.heap = h' ∧ Fr n0 L' ∧ Old Z n0 h' ∧ Keep T44.heap h' [b41] ∧ Keep h0 h' [] ∧ s.Since vm' k' ∧ k' ≤ h'.size ∧ Z.Warmed39 (s.setVm vm').vm ∧ (s.setVm vm').vm.findClass "com/example/tetrad/tetrad/generate/SourceTextIndentPinLaw" = some m.cls ∧ CHr Z own_EL s.vm h0 vm' h' ∧ CHr Z own_EL T38.vm T44.heap vm' h' ∧ Fld Z h' b41 "com/example/tetrad/tetrad/generate/SourceText" "depth" "I" (.int dv53) ∧ Fld Z h' b41 "com/example/tetrad/tetrad/generate/SourceText" "text" "Ljava/lang/StringBuilder;" (.ref sb_44) ∧ dv53 = (if u1 < (1 : Int32) then (0 : Int32) else ((0 : Int32) + (1 : Int32))) ∧ ∀ target, Steps p.tables e below (T'.setTop (mkF m 154 #[It p1, It p2, It p3, It p4, It u1, It v11_t0, It (0 : Int32), It u14, It u16, Rf b18, Rf b25, Rf sa38, Rf b41, It (1 : Int32), .unset, .unset, .unset] [])) target → Steps p.tables e below (T44.setTop (mkF m 126 #[It p1, It p2, It p3, It p4, It u1, It v11_t0, It (0 : Int32), It u14, It u16, Rf b18, Rf b25, Rf sa38, Rf b41, It (1 : Int32), .unset, .unset, .unset] [])) target := by
        have sg47 : SG p.tables e below (T44.setTop (mkF m 129 #[It p1, It p2, It p3, It p4, It u1, It v11_t0, It (0 : Int32), It u14, It u16, Rf b18, Rf b25, Rf sa38, Rf b41, It (1 : Int32), .unset, .unset, .unset] [(.int (1 : Int32)), (.int u1)])) (T44.setTop (mkF m 126 #[It p1, It p2, It p3, It p4, It u1, It v11_t0, It (0 : Int32), It u14, It u16, Rf b18, Rf b25, Rf sa38, Rf b41, It (1 : Int32), .unset, .unset, .unset] [])) := by
          intro target kt
          show Steps _ _ _ (T44.setTop (mkF m 126 #[It p1, It p2, It p3, It p4, It u1, It v11_t0, It (0 : Int32), It u14, It u16, Rf b18, Rf b25, Rf sa38, Rf b41, It (1 : Int32), .unset, .unset, .unset] [])) _
          refine XS.iload X44.here hx rfl (hb hby at_126) rfl ?_
          refine XS.iconst X44.here hx rfl (hb hby at_128) ?_
          exact kt
        by_cases hc48 : u1 < (1 : Int32)
        · have sg49 : SG p.tables e below (T44.setTop (mkF m 154 #[It p1, It p2, It p3, It p4, It u1, It v11_t0, It (0 : Int32), It u14, It u16, Rf b18, Rf b25, Rf sa38, Rf b41, It (1 : Int32), .unset, .unset, .unset] [])) (T44.setTop (mkF m 129 #[It p1, It p2, It p3, It p4, It u1, It v11_t0, It (0 : Int32), It u14, It u16, Rf b18, Rf b25, Rf sa38, Rf b41, It (1 : Int32), .unset, .unset, .unset] [(.int (1 : Int32)), (.int u1)])) := by
            intro target kt
            show Steps _ _ _ (T44.setTop (mkF m 129 #[It p1, It p2, It p3, It p4, It u1, It v11_t0, It (0 : Int32), It u14, It u16, Rf b18, Rf b25, Rf sa38, Rf b41, It (1 : Int32), .unset, .unset, .unset] [(.int (1 : Int32)), (.int u1)])) _
            refine XS.icmpYes X44.here hx rfl (pc0 := 129) (pc' := 154) rfl (hb hby at_129) rfl (tlt hc48).1 (by decide) (by decide) ?_
            exact kt
          exact ⟨T44, _, T44.heap, T38.vm, _, (0 : Int32), X44.mono (by decide) (by decide), rfl, N44, O44, (Keep.refl T44.heap [b41]), K44, Y38, (Nat.le_trans (Nat.le_trans Yk38 E41.1) K44q.1), hZ38, hown38, CR45, (CHr.refl CR45.1), f44_1, f44_0, (if_pos hc48).symm, fun target kt => sg47 _ (sg49 _ (kt))⟩
        · obtain ⟨cq50, kq50, q50a, q50b, q50c⟩ := isOf hZ38 rfl (A41.keep K44q)
          obtain ⟨_, _, ⟨T50, L50, k50, n50⟩, -, X50, ⟨Lc50, hQ50, l50, y50, z50⟩, st50⟩ := X44.virtualBack hx (y := m_12) (z := m_12) hown38 (mvT hZ38 (tw hw 216 rfl)) (mvT hZ38 (tw hw 217 rfl)) (notFace_of_selects (args := #[]) (mvT hZ38 (tw hw 219 rfl))) (mvT hZ38 (tw hw 219 rfl)) (mvT hZ38 (tw hw 218 rfl)) (by decide) (backOf (W := 0) (rm42 l Z a0 hw [] b41 (0 : Int32) sb_44 T44.heap n0 O44 (A41.keep K44q) f44_1 f44_0 ge_b41) hZ38 (tw hw 220 rfl) (tw hw 32 rfl) (by decide) (by decide)) q50a q50c (g := (mkF m 139 #[It p1, It p2, It p3, It p4, It u1, It v11_t0, It (0 : Int32), It u14, It u16, Rf b18, Rf b25, Rf sa38, Rf b41, It (1 : Int32), .unset, .unset, .unset] [(.ref b41)])) rfl (by rw [hml]; rfl) (Steps.refl _) (argsL := []) (rest := []) (lenOf pd_26 rfl) rfl (w0 rfl) (hb hby at_139) (fun _ _ => ⟨rfl, rfl, (by decide : 7 + 0 ≤ _), (by decide : 29 + 0 ≤ _)⟩)
          dsimp only [Pt.U, Pt.locs, Pt.cells, Pt.slots] at X50 l50 y50 z50 st50 hQ50
          subst l50 y50 z50
          obtain ⟨rfl, N50q, K50q, O50, f50_0, f50_1⟩ := hQ50
          have N50 := Fr.app N44 N50q
          have CR51 := CR45.trans (CHr.keep K50q (allS (Safe.exa hZ38.alike (A41.keep K44q) (by decide) (by decide)) all0) CR45.1)
          have K50 := K44.trans K50q (allS (Or.inr sz_b41) all0)
          have sg52 : SG p.tables e below (T50.setTop (mkF m 154 #[It p1, It p2, It p3, It p4, It u1, It v11_t0, It (0 : Int32), It u14, It u16, Rf b18, Rf b25, Rf sa38, Rf b41, It (1 : Int32), .unset, .unset, .unset] [])) (T44.setTop (mkF m 129 #[It p1, It p2, It p3, It p4, It u1, It v11_t0, It (0 : Int32), It u14, It u16, Rf b18, Rf b25, Rf sa38, Rf b41, It (1 : Int32), .unset, .unset, .unset] [(.int (1 : Int32)), (.int u1)])) := by
            intro target kt
            show Steps _ _ _ (T44.setTop (mkF m 129 #[It p1, It p2, It p3, It p4, It u1, It v11_t0, It (0 : Int32), It u14, It u16, Rf b18, Rf b25, Rf sa38, Rf b41, It (1 : Int32), .unset, .unset, .unset] [(.int (1 : Int32)), (.int u1)])) _
            refine XS.icmpNo X44.here hx rfl (hb hby at_129) rfl (flt hc48).1 ?_
            refine XS.iload X44.here hx rfl (hb hby at_132) rfl ?_
            refine XS.ifNo X44.here hx rfl (hb hby at_134) rfl ((if0 _ _).trans (feq (by decide : ¬ ((1 : Int32) = (0 : Int32)))).1) ?_
            refine XS.aload X44.here hx rfl (hb hby at_137) rfl rfl ?_
            refine st50.trans ?_
            refine XS.aload X50.here hx rfl (hb hby at_142) rfl rfl ?_
            refine Jvm.RoadKit.acmp (g := (mkF m 144 #[It p1, It p2, It p3, It p4, It u1, It v11_t0, It (0 : Int32), It u14, It u16, Rf b18, Rf b25, Rf sa38, Rf b41, It (1 : Int32), .unset, .unset, .unset] [(.ref b41), (.ref b41)])) X50 hx rfl rfl rfl (pc0 := 144) (pc' := 147) (same := true) rfl (hb hby at_144) rfl (decide_eq_true rfl) (by decide) (by decide) ?_
            refine XS.iconst X50.here hx rfl (hb hby at_147) ?_
            refine XS.goto X50.here hx rfl (pc0 := 148) (pc' := 152) rfl (hb hby at_148) (by decide) (by decide) ?_
            refine XS.istore X50.here hx rfl (hb hby at_152) rfl (l' := #[It p1, It p2, It p3, It p4, It u1, It v11_t0, It (0 : Int32), It u14, It u16, Rf b18, Rf b25, Rf sa38, Rf b41, It (1 : Int32), .unset, .unset, .unset]) rfl ?_
            exact kt
          exact ⟨T50, _, T50.heap, T38.vm, _, ((0 : Int32) + (1 : Int32)), X50.mono (by decide) (by decide), rfl, N50, O50, ((Keep.refl T44.heap [b41]).trans K50q (allS (Or.inl (List.mem_of_getElem? (i := 0) rfl)) all0)), K50, Y38, (Nat.le_trans (Nat.le_trans (Nat.le_trans Yk38 E41.1) K44q.1) K50q.1), hZ38, hown38, CR51, ((CHr.refl CR45.1).trans (CHr.keep K50q (allS (Safe.exa hZ38.alike (A41.keep K44q) (by decide) (by decide)) all0) CR45.1)), f50_0, f50_1, (if_neg hc48).symm, fun target kt => sg47 _ (sg52 _ (kt))⟩
      have Rn54 := (CQ53.safe f44_6.lt (Safe.keep K44q (allS (Safe.exa hZ38.alike A41 (by decide) (by decide)) all0) CR43.1 (Safe.new f44_10)))
      have Rn55 := (CQ53.safe f44_2.lt (Safe.keep K44q (allS (Safe.exa hZ38.alike A41 (by decide) (by decide)) all0) CR43.1 (Safe.new f44_8)))
      have Rn56 := (f44_6.keep K53 (ninS (Ne.symm (Nat.ne_of_lt (Nat.lt_of_lt_of_le A41.lt f44_10))) nin0))
      have Rn57 := (f44_2.keep K53)
      have Rn58 := (f44_4.keep K53 (ninS (Ne.symm (Nat.ne_of_lt (Nat.lt_of_lt_of_le A41.lt f44_8))) nin0))
      have Rn59 := (f44_5.keep K53 (ninS (Ne.symm (Nat.ne_of_lt (Nat.lt_of_lt_of_le A41.lt f44_8))) nin0))
      have Rn60 := (f44_3.keep K53 (ninS (Ne.symm (Nat.ne_of_lt (Nat.lt_of_lt_of_le A41.lt f44_8))) nin0))
      obtain ⟨T67, L67, h67, vm67, kk67, dv67, X67, e67, N67, O67, K67, KK67, Y67, Yk67, hZ67, hown67, CR_67, CQ67, FD67, FT67, ed67, sg67⟩ : ∃ (T' : State) (L' : List Loc) (h' : Heap) (vm' : Vm) (k' : Nat) (dv67 : Int32), Stand p l e room_1 (s.setVm vm') m #[(.int p1), (.int p2), (.int p3), (.int p4)] below meth c T' L' 7 29 ∧ T'.heap = h' ∧ Fr n0 L' ∧ Old Z n0 h' ∧ Keep h53 h' [b41] ∧ Keep h0 h' [] ∧ s.Since vm' k' ∧ k' ≤ h'.size ∧ Z.Warmed39 (s.setVm vm').vm ∧ (s.setVm vm').vm.findClass "com/example/tetrad/tetrad/generate/SourceTextIndentPinLaw" = some m.cls ∧ CHr Z own_EL s.vm h0 vm' h' ∧ CHr Z own_EL vm53 h53 vm' h' ∧ Fld Z h' b41 "com/example/tetrad/tetrad/generate/SourceText" "depth" "I" (.int dv67) ∧ Fld Z h' b41 "com/example/tetrad/tetrad/generate/SourceText" "text" "Ljava/lang/StringBuilder;" (.ref sb_44) ∧ dv67 = (if u1 < (2 : Int32) then dv53 else (dv53 + (1 : Int32))) ∧ ∀ target, Steps p.tables e below (T'.setTop (mkF m 182 #[It p1, It p2, It p3, It p4, It u1, It v11_t0, It (0 : Int32), It u14, It u16, Rf b18, Rf b25, Rf sa38, Rf b41, It (1 : Int32), .unset, .unset, .unset] [])) target → Steps p.tables e below (T53.setTop (mkF m 154 #[It p1, It p2, It p3, It p4, It u1, It v11_t0, It (0 : Int32), It u14, It u16, Rf b18, Rf b25, Rf sa38, Rf b41, It (1 : Int32), .unset, .unset, .unset] [])) target := by
        have sg61 : SG p.tables e below (T53.setTop (mkF m 157 #[It p1, It p2, It p3, It p4, It u1, It v11_t0, It (0 : Int32), It u14, It u16, Rf b18, Rf b25, Rf sa38, Rf b41, It (1 : Int32), .unset, .unset, .unset] [(.int (2 : Int32)), (.int u1)])) (T53.setTop (mkF m 154 #[It p1, It p2, It p3, It p4, It u1, It v11_t0, It (0 : Int32), It u14, It u16, Rf b18, Rf b25, Rf sa38, Rf b41, It (1 : Int32), .unset, .unset, .unset] [])) := by
          intro target kt
          show Steps _ _ _ (T53.setTop (mkF m 154 #[It p1, It p2, It p3, It p4, It u1, It v11_t0, It (0 : Int32), It u14, It u16, Rf b18, Rf b25, Rf sa38, Rf b41, It (1 : Int32), .unset, .unset, .unset] [])) _
          refine XS.iload X53.here hx rfl (hb hby at_154) rfl ?_
          refine XS.iconst X53.here hx rfl (hb hby at_156) ?_
          exact kt
        by_cases hc62 : u1 < (2 : Int32)
        · have sg63 : SG p.tables e below (T53.setTop (mkF m 182 #[It p1, It p2, It p3, It p4, It u1, It v11_t0, It (0 : Int32), It u14, It u16, Rf b18, Rf b25, Rf sa38, Rf b41, It (1 : Int32), .unset, .unset, .unset] [])) (T53.setTop (mkF m 157 #[It p1, It p2, It p3, It p4, It u1, It v11_t0, It (0 : Int32), It u14, It u16, Rf b18, Rf b25, Rf sa38, Rf b41, It (1 : Int32), .unset, .unset, .unset] [(.int (2 : Int32)), (.int u1)])) := by
            intro target kt
            show Steps _ _ _ (T53.setTop (mkF m 157 #[It p1, It p2, It p3, It p4, It u1, It v11_t0, It (0 : Int32), It u14, It u16, Rf b18, Rf b25, Rf sa38, Rf b41, It (1 : Int32), .unset, .unset, .unset] [(.int (2 : Int32)), (.int u1)])) _
            refine XS.icmpYes X53.here hx rfl (pc0 := 157) (pc' := 182) rfl (hb hby at_157) rfl (tlt hc62).1 (by decide) (by decide) ?_
            exact kt
          exact ⟨T53, _, h53, vm53, _, dv53, X53.mono (by decide) (by decide), e53, N53, O53, (Keep.refl h53 [b41]), KK53, Y53, Yk53, hZ53, hown53, CR_53, (CHr.refl CR_53.1), FD53, FT53, (if_pos hc62).symm, fun target kt => sg61 _ (sg63 _ (kt))⟩
        · obtain ⟨cq64, kq64, q64a, q64b, q64c⟩ := isOf hZ53 e53 ((A41.keep K44q).keep K53)
          obtain ⟨_, _, ⟨T64, L64, k64, n64⟩, -, X64, ⟨Lc64, hQ64, l64, y64, z64⟩, st64⟩ := X53.virtualBack hx (y := m_12) (z := m_12) hown53 (mvT hZ53 (tw hw 216 rfl)) (mvT hZ53 (tw hw 217 rfl)) (notFace_of_selects (args := #[]) (mvT hZ53 (tw hw 219 rfl))) (mvT hZ53 (tw hw 219 rfl)) (mvT hZ53 (tw hw 218 rfl)) (by decide) (backOf (W := 0) (rm42 l Z a0 hw [] b41 dv53 sb_44 h53 n0 O53 ((A41.keep K44q).keep K53) FD53 FT53 ge_b41) hZ53 (tw hw 220 rfl) (tw hw 32 rfl) (by decide) (by decide)) q64a q64c (g := (mkF m 167 #[It p1, It p2, It p3, It p4, It u1, It v11_t0, It (0 : Int32), It u14, It u16, Rf b18, Rf b25, Rf sa38, Rf b41, It (1 : Int32), .unset, .unset, .unset] [(.ref b41)])) rfl (by rw [hml]; rfl) (Steps.refl _) (argsL := []) (rest := []) (lenOf pd_26 rfl) rfl (w0 rfl) (hb hby at_167) (fun _ _ => ⟨rfl, e53, (by decide : 7 + 0 ≤ _), (by decide : 29 + 0 ≤ _)⟩)
          dsimp only [Pt.U, Pt.locs, Pt.cells, Pt.slots] at X64 l64 y64 z64 st64 hQ64
          subst l64 y64 z64
          obtain ⟨rfl, N64q, K64q, O64, f64_0, f64_1⟩ := hQ64
          have N64 := Fr.app N53 N64q
          have CR65 := CR_53.trans (CHr.keep K64q (allS (Safe.exa hZ53.alike ((A41.keep K44q).keep K53) (by decide) (by decide)) all0) CR_53.1)
          have K64 := KK53.trans K64q (allS (Or.inr sz_b41) all0)
          have sg66 : SG p.tables e below (T64.setTop (mkF m 182 #[It p1, It p2, It p3, It p4, It u1, It v11_t0, It (0 : Int32), It u14, It u16, Rf b18, Rf b25, Rf sa38, Rf b41, It (1 : Int32), .unset, .unset, .unset] [])) (T53.setTop (mkF m 157 #[It p1, It p2, It p3, It p4, It u1, It v11_t0, It (0 : Int32), It u14, It u16, Rf b18, Rf b25, Rf sa38, Rf b41, It (1 : Int32), .unset, .unset, .unset] [(.int (2 : Int32)), (.int u1)])) := by
            intro target kt
            show Steps _ _ _ (T53.setTop (mkF m 157 #[It p1, It p2, It p3, It p4, It u1, It v11_t0, It (0 : Int32), It u14, It u16, Rf b18, Rf b25, Rf sa38, Rf b41, It (1 : Int32), .unset, .unset, .unset] [(.int (2 : Int32)), (.int u1)])) _
            refine XS.icmpNo X53.here hx rfl (hb hby at_157) rfl (flt hc62).1 ?_
            refine XS.iload X53.here hx rfl (hb hby at_160) rfl ?_
            refine XS.ifNo X53.here hx rfl (hb hby at_162) rfl ((if0 _ _).trans (feq (by decide : ¬ ((1 : Int32) = (0 : Int32)))).1) ?_
            refine XS.aload X53.here hx rfl (hb hby at_165) rfl rfl ?_
            refine st64.trans ?_
            refine XS.aload X64.here hx rfl (hb hby at_170) rfl rfl ?_
            refine Jvm.RoadKit.acmp (g := (mkF m 172 #[It p1, It p2, It p3, It p4, It u1, It v11_t0, It (0 : Int32), It u14, It u16, Rf b18, Rf b25, Rf sa38, Rf b41, It (1 : Int32), .unset, .unset, .unset] [(.ref b41), (.ref b41)])) X64 hx rfl rfl rfl (pc0 := 172) (pc' := 175) (same := true) rfl (hb hby at_172) rfl (decide_eq_true rfl) (by decide) (by decide) ?_
            refine XS.iconst X64.here hx rfl (hb hby at_175) ?_
            refine XS.goto X64.here hx rfl (pc0 := 176) (pc' := 180) rfl (hb hby at_176) (by decide) (by decide) ?_
            refine XS.istore X64.here hx rfl (hb hby at_180) rfl (l' := #[It p1, It p2, It p3, It p4, It u1, It v11_t0, It (0 : Int32), It u14, It u16, Rf b18, Rf b25, Rf sa38, Rf b41, It (1 : Int32), .unset, .unset, .unset]) rfl ?_
            exact kt
          exact ⟨T64, _, T64.heap, vm53, _, (dv53 + (1 : Int32)), X64.mono (by decide) (by decide), rfl, N64, O64, ((Keep.refl h53 [b41]).trans K64q (allS (Or.inl (List.mem_of_getElem? (i := 0) rfl)) all0)), K64, Y53, (Nat.le_trans Yk53 K64q.1), hZ53, hown53, CR65, ((CHr.refl CR_53.1).trans (CHr.keep K64q (allS (Safe.exa hZ53.alike ((A41.keep K44q).keep K53) (by decide) (by decide)) all0) CR_53.1)), f64_0, f64_1, (if_neg hc62).symm, fun target kt => sg61 _ (sg66 _ (kt))⟩
      have Rn68 := (CQ67.safe Rn56.lt Rn54)
      have Rn69 := (CQ67.safe Rn57.lt Rn55)
      have Rn70 := (Rn56.keep K67 (ninS (Ne.symm (Nat.ne_of_lt (Nat.lt_of_lt_of_le A41.lt f44_10))) nin0))
      have Rn71 := (Rn57.keep K67)
      have Rn72 := (Rn58.keep K67 (ninS (Ne.symm (Nat.ne_of_lt (Nat.lt_of_lt_of_le A41.lt f44_8))) nin0))
      have Rn73 := (Rn59.keep K67 (ninS (Ne.symm (Nat.ne_of_lt (Nat.lt_of_lt_of_le A41.lt f44_8))) nin0))
      have Rn74 := (Rn60.keep K67 (ninS (Ne.symm (Nat.ne_of_lt (Nat.lt_of_lt_of_le A41.lt f44_8))) nin0))
      obtain ⟨T81, L81, h81, vm81, kk81, dv81, X81, e81, N81, O81, K81, KK81, Y81, Yk81, hZ81, hown81, CR_81, CQ81, FD81, FT81, ed81, sg81⟩ : ∃ (T' : State) (L' : List Loc) (h' : Heap) (vm' : Vm) (k' : Nat) (dv81 : Int32), Stand p l e room_1 (s.setVm vm') m #[(.int p1), (.int p2), (.int p3), (.int p4)] below meth c T' L' 7 29 ∧ T'.heap = h' ∧ Fr n0 L' ∧ Old Z n0 h' ∧ Keep h67 h' [b41] ∧ Keep h0 h' [] ∧ s.Since vm' k' ∧ k' ≤ h'.size ∧ Z.Warmed39 (s.setVm vm').vm ∧ (s.setVm vm').vm.findClass "com/example/tetrad/tetrad/generate/SourceTextIndentPinLaw" = some m.cls ∧ CHr Z own_EL s.vm h0 vm' h' ∧ CHr Z own_EL vm67 h67 vm' h' ∧ Fld Z h' b41 "com/example/tetrad/tetrad/generate/SourceText" "depth" "I" (.int dv81) ∧ Fld Z h' b41 "com/example/tetrad/tetrad/generate/SourceText" "text" "Ljava/lang/StringBuilder;" (.ref sb_44) ∧ dv81 = (if u1 < (3 : Int32) then dv67 else (dv67 + (1 : Int32))) ∧ ∀ target, Steps p.tables e below (T'.setTop (mkF m 210 #[It p1, It p2, It p3, It p4, It u1, It v11_t0, It (0 : Int32), It u14, It u16, Rf b18, Rf b25, Rf sa38, Rf b41, It (1 : Int32), .unset, .unset, .unset] [])) target → Steps p.tables e below (T67.setTop (mkF m 182 #[It p1, It p2, It p3, It p4, It u1, It v11_t0, It (0 : Int32), It u14, It u16, Rf b18, Rf b25, Rf sa38, Rf b41, It (1 : Int32), .unset, .unset, .unset] [])) target := by
        have sg75 : SG p.tables e below (T67.setTop (mkF m 185 #[It p1, It p2, It p3, It p4, It u1, It v11_t0, It (0 : Int32), It u14, It u16, Rf b18, Rf b25, Rf sa38, Rf b41, It (1 : Int32), .unset, .unset, .unset] [(.int (3 : Int32)), (.int u1)])) (T67.setTop (mkF m 182 #[It p1, It p2, It p3, It p4, It u1, It v11_t0, It (0 : Int32), It u14, It u16, Rf b18, Rf b25, Rf sa38, Rf b41, It (1 : Int32), .unset, .unset, .unset] [])) := by
          intro target kt
          show Steps _ _ _ (T67.setTop (mkF m 182 #[It p1, It p2, It p3, It p4, It u1, It v11_t0, It (0 : Int32), It u14, It u16, Rf b18, Rf b25, Rf sa38, Rf b41, It (1 : Int32), .unset, .unset, .unset] [])) _
          refine XS.iload X67.here hx rfl (hb hby at_182) rfl ?_
          refine XS.iconst X67.here hx rfl (hb hby at_184) ?_
          exact kt
        by_cases hc76 : u1 < (3 : Int32)
        · have sg77 : SG p.tables e below (T67.setTop (mkF m 210 #[It p1, It p2, It p3, It p4, It u1, It v11_t0, It (0 : Int32), It u14, It u16, Rf b18, Rf b25, Rf sa38, Rf b41, It (1 : Int32), .unset, .unset, .unset] [])) (T67.setTop (mkF m 185 #[It p1, It p2, It p3, It p4, It u1, It v11_t0, It (0 : Int32), It u14, It u16, Rf b18, Rf b25, Rf sa38, Rf b41, It (1 : Int32), .unset, .unset, .unset] [(.int (3 : Int32)), (.int u1)])) := by
            intro target kt
            show Steps _ _ _ (T67.setTop (mkF m 185 #[It p1, It p2, It p3, It p4, It u1, It v11_t0, It (0 : Int32), It u14, It u16, Rf b18, Rf b25, Rf sa38, Rf b41, It (1 : Int32), .unset, .unset, .unset] [(.int (3 : Int32)), (.int u1)])) _
            refine XS.icmpYes X67.here hx rfl (pc0 := 185) (pc' := 210) rfl (hb hby at_185) rfl (tlt hc76).1 (by decide) (by decide) ?_
            exact kt
          exact ⟨T67, _, h67, vm67, _, dv67, X67.mono (by decide) (by decide), e67, N67, O67, (Keep.refl h67 [b41]), KK67, Y67, Yk67, hZ67, hown67, CR_67, (CHr.refl CR_67.1), FD67, FT67, (if_pos hc76).symm, fun target kt => sg75 _ (sg77 _ (kt))⟩
        · obtain ⟨cq78, kq78, q78a, q78b, q78c⟩ := isOf hZ67 e67 (((A41.keep K44q).keep K53).keep K67)
          obtain ⟨_, _, ⟨T78, L78, k78, n78⟩, -, X78, ⟨Lc78, hQ78, l78, y78, z78⟩, st78⟩ := X67.virtualBack hx (y := m_12) (z := m_12) hown67 (mvT hZ67 (tw hw 216 rfl)) (mvT hZ67 (tw hw 217 rfl)) (notFace_of_selects (args := #[]) (mvT hZ67 (tw hw 219 rfl))) (mvT hZ67 (tw hw 219 rfl)) (mvT hZ67 (tw hw 218 rfl)) (by decide) (backOf (W := 0) (rm42 l Z a0 hw [] b41 dv67 sb_44 h67 n0 O67 (((A41.keep K44q).keep K53).keep K67) FD67 FT67 ge_b41) hZ67 (tw hw 220 rfl) (tw hw 32 rfl) (by decide) (by decide)) q78a q78c (g := (mkF m 195 #[It p1, It p2, It p3, It p4, It u1, It v11_t0, It (0 : Int32), It u14, It u16, Rf b18, Rf b25, Rf sa38, Rf b41, It (1 : Int32), .unset, .unset, .unset] [(.ref b41)])) rfl (by rw [hml]; rfl) (Steps.refl _) (argsL := []) (rest := []) (lenOf pd_26 rfl) rfl (w0 rfl) (hb hby at_195) (fun _ _ => ⟨rfl, e67, (by decide : 7 + 0 ≤ _), (by decide : 29 + 0 ≤ _)⟩)
          dsimp only [Pt.U, Pt.locs, Pt.cells, Pt.slots] at X78 l78 y78 z78 st78 hQ78
          subst l78 y78 z78
          obtain ⟨rfl, N78q, K78q, O78, f78_0, f78_1⟩ := hQ78
          have N78 := Fr.app N67 N78q
          have CR79 := CR_67.trans (CHr.keep K78q (allS (Safe.exa hZ67.alike (((A41.keep K44q).keep K53).keep K67) (by decide) (by decide)) all0) CR_67.1)
          have K78 := KK67.trans K78q (allS (Or.inr sz_b41) all0)
          have sg80 : SG p.tables e below (T78.setTop (mkF m 210 #[It p1, It p2, It p3, It p4, It u1, It v11_t0, It (0 : Int32), It u14, It u16, Rf b18, Rf b25, Rf sa38, Rf b41, It (1 : Int32), .unset, .unset, .unset] [])) (T67.setTop (mkF m 185 #[It p1, It p2, It p3, It p4, It u1, It v11_t0, It (0 : Int32), It u14, It u16, Rf b18, Rf b25, Rf sa38, Rf b41, It (1 : Int32), .unset, .unset, .unset] [(.int (3 : Int32)), (.int u1)])) := by
            intro target kt
            show Steps _ _ _ (T67.setTop (mkF m 185 #[It p1, It p2, It p3, It p4, It u1, It v11_t0, It (0 : Int32), It u14, It u16, Rf b18, Rf b25, Rf sa38, Rf b41, It (1 : Int32), .unset, .unset, .unset] [(.int (3 : Int32)), (.int u1)])) _
            refine XS.icmpNo X67.here hx rfl (hb hby at_185) rfl (flt hc76).1 ?_
            refine XS.iload X67.here hx rfl (hb hby at_188) rfl ?_
            refine XS.ifNo X67.here hx rfl (hb hby at_190) rfl ((if0 _ _).trans (feq (by decide : ¬ ((1 : Int32) = (0 : Int32)))).1) ?_
            refine XS.aload X67.here hx rfl (hb hby at_193) rfl rfl ?_
            refine st78.trans ?_
            refine XS.aload X78.here hx rfl (hb hby at_198) rfl rfl ?_
            refine Jvm.RoadKit.acmp (g := (mkF m 200 #[It p1, It p2, It p3, It p4, It u1, It v11_t0, It (0 : Int32), It u14, It u16, Rf b18, Rf b25, Rf sa38, Rf b41, It (1 : Int32), .unset, .unset, .unset] [(.ref b41), (.ref b41)])) X78 hx rfl rfl rfl (pc0 := 200) (pc' := 203) (same := true) rfl (hb hby at_200) rfl (decide_eq_true rfl) (by decide) (by decide) ?_
            refine XS.iconst X78.here hx rfl (hb hby at_203) ?_
            refine XS.goto X78.here hx rfl (pc0 := 204) (pc' := 208) rfl (hb hby at_204) (by decide) (by decide) ?_
            refine XS.istore X78.here hx rfl (hb hby at_208) rfl (l' := #[It p1, It p2, It p3, It p4, It u1, It v11_t0, It (0 : Int32), It u14, It u16, Rf b18, Rf b25, Rf sa38, Rf b41, It (1 : Int32), .unset, .unset, .unset]) rfl ?_
            exact kt
          exact ⟨T78, _, T78.heap, vm67, _, (dv67 + (1 : Int32)), X78.mono (by decide) (by decide), rfl, N78, O78, ((Keep.refl h67 [b41]).trans K78q (allS (Or.inl (List.mem_of_getElem? (i := 0) rfl)) all0)), K78, Y67, (Nat.le_trans Yk67 K78q.1), hZ67, hown67, CR79, ((CHr.refl CR_67.1).trans (CHr.keep K78q (allS (Safe.exa hZ67.alike (((A41.keep K44q).keep K53).keep K67) (by decide) (by decide)) all0) CR_67.1)), f78_0, f78_1, (if_neg hc76).symm, fun target kt => sg75 _ (sg80 _ (kt))⟩
      have Rn82 := (CQ81.safe Rn70.lt Rn68)
      have Rn83 := (CQ81.safe Rn71.lt Rn69)
      have Rn84 := (Rn70.keep K81 (ninS (Ne.symm (Nat.ne_of_lt (Nat.lt_of_lt_of_le A41.lt f44_10))) nin0))
      have Rn85 := (Rn71.keep K81)
      have Rn86 := (Rn72.keep K81 (ninS (Ne.symm (Nat.ne_of_lt (Nat.lt_of_lt_of_le A41.lt f44_8))) nin0))
      have Rn87 := (Rn73.keep K81 (ninS (Ne.symm (Nat.ne_of_lt (Nat.lt_of_lt_of_le A41.lt f44_8))) nin0))
      have Rn88 := (Rn74.keep K81 (ninS (Ne.symm (Nat.ne_of_lt (Nat.lt_of_lt_of_le A41.lt f44_8))) nin0))
      have sg89 : SG p.tables e below (T81.setTop (mkF m 214 #[It p1, It p2, It p3, It p4, It u1, It v11_t0, It (0 : Int32), It u14, It u16, Rf b18, Rf b25, Rf sa38, Rf b41, It (1 : Int32), It u1, .unset, .unset] [])) (T81.setTop (mkF m 210 #[It p1, It p2, It p3, It p4, It u1, It v11_t0, It (0 : Int32), It u14, It u16, Rf b18, Rf b25, Rf sa38, Rf b41, It (1 : Int32), .unset, .unset, .unset] [])) := by
        intro target kt
        show Steps _ _ _ (T81.setTop (mkF m 210 #[It p1, It p2, It p3, It p4, It u1, It v11_t0, It (0 : Int32), It u14, It u16, Rf b18, Rf b25, Rf sa38, Rf b41, It (1 : Int32), .unset, .unset, .unset] [])) _
        refine XS.iload X81.here hx rfl (hb hby at_210) rfl ?_
        refine XS.istore X81.here hx rfl (hb hby at_212) rfl (l' := #[It p1, It p2, It p3, It p4, It u1, It v11_t0, It (0 : Int32), It u14, It u16, Rf b18, Rf b25, Rf sa38, Rf b41, It (1 : Int32), It u1, .unset, .unset]) rfl ?_
        exact kt
      obtain ⟨T96, L96, v96_l14, h96, vm96, kk96, dv96, X96, e96, N96, hv96_l14, O96, K96, KK96, Y96, Yk96, hZ96, hown96, CR_96, CQ96, FD96, FT96, ed96, sg96⟩ : ∃ (T' : State) (L' : List Loc) (v96_l14 : Int32) (h' : Heap) (vm' : Vm) (k' : Nat) (dv96 : Int32), Stand p l e room_1 (s.setVm vm') m #[(.int p1), (.int p2), (.int p3), (.int p4)] below meth c T' L' 7 29 ∧ T'.heap = h' ∧ Fr n0 L' ∧ v96_l14 = (if v11_t0 = (0 : Int32) then u1 else (u1 - (1 : Int32))) ∧ Old Z n0 h' ∧ Keep h81 h' [b41] ∧ Keep h0 h' [] ∧ s.Since vm' k' ∧ k' ≤ h'.size ∧ Z.Warmed39 (s.setVm vm').vm ∧ (s.setVm vm').vm.findClass "com/example/tetrad/tetrad/generate/SourceTextIndentPinLaw" = some m.cls ∧ CHr Z own_EL s.vm h0 vm' h' ∧ CHr Z own_EL vm81 h81 vm' h' ∧ Fld Z h' b41 "com/example/tetrad/tetrad/generate/SourceText" "depth" "I" (.int dv96) ∧ Fld Z h' b41 "com/example/tetrad/tetrad/generate/SourceText" "text" "Ljava/lang/StringBuilder;" (.ref sb_44) ∧ dv96 = (if v11_t0 = (0 : Int32) then dv81 else (dv81 - (1 : Int32))) ∧ ∀ target, Steps p.tables e below (T'.setTop (mkF m 231 #[It p1, It p2, It p3, It p4, It u1, It v11_t0, It (0 : Int32), It u14, It u16, Rf b18, Rf b25, Rf sa38, Rf b41, It (1 : Int32), It v96_l14, .unset, .unset] [])) target → Steps p.tables e below (T81.setTop (mkF m 214 #[It p1, It p2, It p3, It p4, It u1, It v11_t0, It (0 : Int32), It u14, It u16, Rf b18, Rf b25, Rf sa38, Rf b41, It (1 : Int32), It u1, .unset, .unset] [])) target := by
        have sg90 : SG p.tables e below (T81.setTop (mkF m 216 #[It p1, It p2, It p3, It p4, It u1, It v11_t0, It (0 : Int32), It u14, It u16, Rf b18, Rf b25, Rf sa38, Rf b41, It (1 : Int32), It u1, .unset, .unset] [(.int v11_t0)])) (T81.setTop (mkF m 214 #[It p1, It p2, It p3, It p4, It u1, It v11_t0, It (0 : Int32), It u14, It u16, Rf b18, Rf b25, Rf sa38, Rf b41, It (1 : Int32), It u1, .unset, .unset] [])) := by
          intro target kt
          show Steps _ _ _ (T81.setTop (mkF m 214 #[It p1, It p2, It p3, It p4, It u1, It v11_t0, It (0 : Int32), It u14, It u16, Rf b18, Rf b25, Rf sa38, Rf b41, It (1 : Int32), It u1, .unset, .unset] [])) _
          refine XS.iload X81.here hx rfl (hb hby at_214) rfl ?_
          exact kt
        by_cases hc91 : v11_t0 = (0 : Int32)
        · have sg92 : SG p.tables e below (T81.setTop (mkF m 231 #[It p1, It p2, It p3, It p4, It u1, It v11_t0, It (0 : Int32), It u14, It u16, Rf b18, Rf b25, Rf sa38, Rf b41, It (1 : Int32), It u1, .unset, .unset] [])) (T81.setTop (mkF m 216 #[It p1, It p2, It p3, It p4, It u1, It v11_t0, It (0 : Int32), It u14, It u16, Rf b18, Rf b25, Rf sa38, Rf b41, It (1 : Int32), It u1, .unset, .unset] [(.int v11_t0)])) := by
            intro target kt
            show Steps _ _ _ (T81.setTop (mkF m 216 #[It p1, It p2, It p3, It p4, It u1, It v11_t0, It (0 : Int32), It u14, It u16, Rf b18, Rf b25, Rf sa38, Rf b41, It (1 : Int32), It u1, .unset, .unset] [(.int v11_t0)])) _
            refine XS.ifYes X81.here hx rfl (pc0 := 216) (pc' := 231) rfl (hb hby at_216) rfl ((if0 _ _).trans (teq hc91).1) (by decide) (by decide) ?_
            exact kt
          exact ⟨T81, _, u1, h81, vm81, _, dv81, X81.mono (by decide) (by decide), e81, N81, (by rw [if_pos hc91]), O81, (Keep.refl h81 [b41]), KK81, Y81, Yk81, hZ81, hown81, CR_81, (CHr.refl CR_81.1), FD81, FT81, (if_pos hc91).symm, fun target kt => sg90 _ (sg92 _ (kt))⟩
        · obtain ⟨cq93, kq93, q93a, q93b, q93c⟩ := isOf hZ81 e81 ((((A41.keep K44q).keep K53).keep K67).keep K81)
          obtain ⟨_, _, ⟨T93, L93, k93, n93⟩, -, X93, ⟨Lc93, hQ93, l93, y93, z93⟩, st93⟩ := X81.virtualBack hx (y := m_13) (z := m_13) hown81 (mvT hZ81 (tw hw 221 rfl)) (mvT hZ81 (tw hw 222 rfl)) (notFace_of_selects (args := #[]) (mvT hZ81 (tw hw 224 rfl))) (mvT hZ81 (tw hw 224 rfl)) (mvT hZ81 (tw hw 223 rfl)) (by decide) (backOf (W := 0) (rm43 l Z a0 hw [] b41 dv81 sb_44 h81 n0 O81 ((((A41.keep K44q).keep K53).keep K67).keep K81) FD81 FT81 ge_b41) hZ81 (tw hw 225 rfl) (tw hw 32 rfl) (by decide) (by decide)) q93a q93c (g := (mkF m 221 #[It p1, It p2, It p3, It p4, It u1, It v11_t0, It (0 : Int32), It u14, It u16, Rf b18, Rf b25, Rf sa38, Rf b41, It (1 : Int32), It u1, .unset, .unset] [(.ref b41)])) rfl (by rw [hml]; rfl) (Steps.refl _) (argsL := []) (rest := []) (lenOf pd_26 rfl) rfl (w0 rfl) (hb hby at_221) (fun _ _ => ⟨rfl, e81, (by decide : 7 + 0 ≤ _), (by decide : 29 + 0 ≤ _)⟩)
          dsimp only [Pt.U, Pt.locs, Pt.cells, Pt.slots] at X93 l93 y93 z93 st93 hQ93
          subst l93 y93 z93
          obtain ⟨rfl, N93q, K93q, O93, f93_0, f93_1⟩ := hQ93
          have N93 := Fr.app N81 N93q
          have CR94 := CR_81.trans (CHr.keep K93q (allS (Safe.exa hZ81.alike ((((A41.keep K44q).keep K53).keep K67).keep K81) (by decide) (by decide)) all0) CR_81.1)
          have K93 := KK81.trans K93q (allS (Or.inr sz_b41) all0)
          have sg95 : SG p.tables e below (T93.setTop (mkF m 231 #[It p1, It p2, It p3, It p4, It u1, It v11_t0, It (0 : Int32), It u14, It u16, Rf b18, Rf b25, Rf sa38, Rf b41, It (1 : Int32), .val (.int (u1 - (1 : Int32))), .unset, .unset] [])) (T81.setTop (mkF m 216 #[It p1, It p2, It p3, It p4, It u1, It v11_t0, It (0 : Int32), It u14, It u16, Rf b18, Rf b25, Rf sa38, Rf b41, It (1 : Int32), It u1, .unset, .unset] [(.int v11_t0)])) := by
            intro target kt
            show Steps _ _ _ (T81.setTop (mkF m 216 #[It p1, It p2, It p3, It p4, It u1, It v11_t0, It (0 : Int32), It u14, It u16, Rf b18, Rf b25, Rf sa38, Rf b41, It (1 : Int32), It u1, .unset, .unset] [(.int v11_t0)])) _
            refine XS.ifNo X81.here hx rfl (hb hby at_216) rfl ((if0 _ _).trans (feq hc91).1) ?_
            refine XS.aload X81.here hx rfl (hb hby at_219) rfl rfl ?_
            refine st93.trans ?_
            refine XS.pop X93.here hx rfl (hb hby at_224) rfl rfl ?_
            refine XS.iload X93.here hx rfl (hb hby at_225) rfl ?_
            refine XS.iconst X93.here hx rfl (hb hby at_227) ?_
            refine XS.isub X93.here hx rfl (hb hby at_228) rfl ?_
            refine XS.istore X93.here hx rfl (hb hby at_229) rfl (l' := #[It p1, It p2, It p3, It p4, It u1, It v11_t0, It (0 : Int32), It u14, It u16, Rf b18, Rf b25, Rf sa38, Rf b41, It (1 : Int32), .val (.int (u1 - (1 : Int32))), .unset, .unset]) rfl ?_
            exact kt
          exact ⟨T93, _, (u1 - (1 : Int32)), T93.heap, vm81, _, (dv81 - (1 : Int32)), X93.mono (by decide) (by decide), rfl, N93, (by rw [if_neg hc91]), O93, ((Keep.refl h81 [b41]).trans K93q (allS (Or.inl (List.mem_of_getElem? (i := 0) rfl)) all0)), K93, Y81, (Nat.le_trans Yk81 K93q.1), hZ81, hown81, CR94, ((CHr.refl CR_81.1).trans (CHr.keep K93q (allS (Safe.exa hZ81.alike ((((A41.keep K44q).keep K53).keep K67).keep K81) (by decide) (by decide)) all0) CR_81.1)), f93_0, f93_1, (if_neg hc91).symm, fun target kt => sg90 _ (sg95 _ (kt))⟩
      have Rn97 := (CQ96.safe Rn84.lt Rn82)
      have Rn98 := (CQ96.safe Rn85.lt Rn83)
      have Rn99 := (Rn84.keep K96 (ninS (Ne.symm (Nat.ne_of_lt (Nat.lt_of_lt_of_le A41.lt f44_10))) nin0))
      have Rn100 := (Rn85.keep K96)
      have Rn101 := (Rn86.keep K96 (ninS (Ne.symm (Nat.ne_of_lt (Nat.lt_of_lt_of_le A41.lt f44_8))) nin0))
      have Rn102 := (Rn87.keep K96 (ninS (Ne.symm (Nat.ne_of_lt (Nat.lt_of_lt_of_le A41.lt f44_8))) nin0))
      have Rn103 := (Rn88.keep K96 (ninS (Ne.symm (Nat.ne_of_lt (Nat.lt_of_lt_of_le A41.lt f44_8))) nin0))
      have hdep : dv96 = v96_l14 := own_dep hu1 hv96_l14 ed53 ed67 ed81 ed96
      have FDz := own_fi hdep FD96
      have hdr := own_dr hu1 hv11_t0 hv96_l14
      have VL104 : Arv Z h96 sb38 kb38 .byte (0 : Int32) ([] : List Value) (.int (0 : Int32)) := ((((((V38.ext E41).keep K44q (ninS (Nat.ne_of_lt (Nat.lt_of_lt_of_le V38.lt (Nat.le_of_eq g41.symm))) nin0)).keep K53 (ninS (Nat.ne_of_lt (Nat.lt_of_lt_of_le V38.lt (Nat.le_of_eq g41.symm))) nin0)).keep K67 (ninS (Nat.ne_of_lt (Nat.lt_of_lt_of_le V38.lt (Nat.le_of_eq g41.symm))) nin0)).keep K81 (ninS (Nat.ne_of_lt (Nat.lt_of_lt_of_le V38.lt (Nat.le_of_eq g41.symm))) nin0)).keep K96 (ninS (Nat.ne_of_lt (Nat.lt_of_lt_of_le V38.lt (Nat.le_of_eq g41.symm))) nin0))
      obtain ⟨cq105, kq105, q105a, q105b, q105c⟩ := isOf hZ96 e96 (((((A41.keep K44q).keep K53).keep K67).keep K81).keep K96)
      obtain ⟨_, _, ⟨T105, L105, k105, n105⟩, -, X105, ⟨Lc105, hQ105, l105, y105, z105⟩, st105⟩ := X96.virtualBack hx (y := m_33) (z := m_33) hown96 (mvT hZ96 (tw hw 57 rfl)) (mvT hZ96 (tw hw 58 rfl)) (notFace_of_selects (args := #[]) (mvT hZ96 (tw hw 60 rfl))) (mvT hZ96 (tw hw 60 rfl)) (mvT hZ96 (tw hw 59 rfl)) (by decide) (backOf (W := 0) (rm10_e l Z a0 hw [] b41 sa38 sb_44 ro_44 sb38 ([] : List Value) zC ko_44 kb38 h96 n0 O96 sC (((((A41.keep K44q).keep K53).keep K67).keep K81).keep K96) FT96 Rn100 Rn103 Rn101 Rn102 Rn99 ((((((A38.ext E41).keep K44q).keep K53).keep K67).keep K81).keep K96) ((((((Fc38.ext E41).keep K44q (ninS (Nat.ne_of_lt (Nat.lt_of_lt_of_le A38.lt (Nat.le_of_eq g41.symm))) nin0)).keep K53 (ninS (Nat.ne_of_lt (Nat.lt_of_lt_of_le A38.lt (Nat.le_of_eq g41.symm))) nin0)).keep K67 (ninS (Nat.ne_of_lt (Nat.lt_of_lt_of_le A38.lt (Nat.le_of_eq g41.symm))) nin0)).keep K81 (ninS (Nat.ne_of_lt (Nat.lt_of_lt_of_le A38.lt (Nat.le_of_eq g41.symm))) nin0)).keep K96 (ninS (Nat.ne_of_lt (Nat.lt_of_lt_of_le A38.lt (Nat.le_of_eq g41.symm))) nin0)) ((((((Fv38.ext E41).keep K44q (ninS (Nat.ne_of_lt (Nat.lt_of_lt_of_le A38.lt (Nat.le_of_eq g41.symm))) nin0)).keep K53 (ninS (Nat.ne_of_lt (Nat.lt_of_lt_of_le A38.lt (Nat.le_of_eq g41.symm))) nin0)).keep K67 (ninS (Nat.ne_of_lt (Nat.lt_of_lt_of_le A38.lt (Nat.le_of_eq g41.symm))) nin0)).keep K81 (ninS (Nat.ne_of_lt (Nat.lt_of_lt_of_le A38.lt (Nat.le_of_eq g41.symm))) nin0)).keep K96 (ninS (Nat.ne_of_lt (Nat.lt_of_lt_of_le A38.lt (Nat.le_of_eq g41.symm))) nin0)) VL104 f44_7 f44_9 (Nat.ne_of_lt (Nat.lt_of_lt_of_le (V38.ext E41).lt f44_10)) hCS) hZ96 (tw hw 61 rfl) (tw hw 32 rfl) (by decide) (by decide)) q105a q105c (g := (mkF m 235 #[It p1, It p2, It p3, It p4, It u1, It v11_t0, It (0 : Int32), It u14, It u16, Rf b18, Rf b25, Rf sa38, Rf b41, It (1 : Int32), It v96_l14, .unset, .unset] [(.ref sa38), (.ref b41)])) rfl (by rw [hml]; rfl) (Steps.refl _) (argsL := [(.ref sa38)]) (rest := []) (lenOf pd_27 rfl) rfl (w0 rfl) (hb hby at_235) (fun _ _ => ⟨rfl, e96, (by decide : 7 + 0 ≤ _), (by decide : 29 + 0 ≤ _)⟩)
      dsimp only [Pt.U, Pt.locs, Pt.cells, Pt.slots] at X105 l105 y105 z105 st105 hQ105
      subst l105 y105 z105
      obtain ⟨rfl, N105q, K105q, O105, f105_0, f105_1, f105_2, f105_3⟩ := hQ105
      have N105 := Fr.app N96 N105q
      have CR106 := CR_96.trans (CHr.keep K105q (allS (Safe.exa hZ96.alike Rn100 (by decide) (by decide)) (allS Rn97 all0)) CR_96.1)
      have Sf105_sb_44 := (Safe.keep K105q (allS (Safe.exa hZ96.alike Rn100 (by decide) (by decide)) (allS Rn97 all0)) CR_96.1 Rn98)
      have Sf105_ro_44 := (Safe.keep K105q (allS (Safe.exa hZ96.alike Rn100 (by decide) (by decide)) (allS Rn97 all0)) CR_96.1 Rn97)
      have K105 := KK96.trans K105q (allS (Or.inr (Nat.le_trans K41.1 f44_8)) (allS (Or.inr (Nat.le_trans K41.1 f44_10)) all0))
      obtain ⟨cq107, kq107, q107a, q107b, q107c⟩ := isOf hZ96 rfl ((((((A41.keep K44q).keep K53).keep K67).keep K81).keep K96).keep K105q)
      obtain ⟨_, _, ⟨T107, L107, k107, n107⟩, -, X107, ⟨Lc107, hQ107, l107, y107, z107⟩, st107⟩ := X105.virtualBack hx (y := m_29) (z := m_29) hown96 (mvT hZ96 (tw hw 143 rfl)) (mvT hZ96 (tw hw 144 rfl)) (notFace_of_selects (args := #[]) (mvT hZ96 (tw hw 146 rfl))) (mvT hZ96 (tw hw 146 rfl)) (mvT hZ96 (tw hw 145 rfl)) (by decide) (backOf (W := 0) (rm25 l Z a0 hw [] b41 ro_44 (1 : Int32) 1 (z16.set 0 (.int ((10 : Int32).toInt8.toInt32.toInt8.toInt32))) sb_44 zC ko_44 T105.heap n0 O105 hCS sC (FT96.keep K105q (ninS (Nat.ne_of_lt (Nat.lt_of_lt_of_le A41.lt f44_8)) (ninS (Nat.ne_of_lt (Nat.lt_of_lt_of_le A41.lt f44_10)) nin0))) (Rn100.keep K105q) f105_0 f105_1 f105_2 f105_3 (Sm.lit (x := (1 : Int32)) (n := 1) (by decide)) (by decide)) hZ96 (tw hw 147 rfl) (tw hw 32 rfl) (by decide) (by decide)) q107a q107c (g := (mkF m 241 #[It p1, It p2, It p3, It p4, It u1, It v11_t0, It (0 : Int32), It u14, It u16, Rf b18, Rf b25, Rf sa38, Rf b41, It (1 : Int32), It v96_l14, .unset, .unset] [(.ref b41)])) rfl (by rw [hml]; rfl) (Steps.refl _) (argsL := []) (rest := []) (lenOf pd_17 rfl) rfl (w0 rfl) (hb hby at_241) (fun _ _ => ⟨rfl, rfl, (by decide : 7 + 2 ≤ _), (by decide : 29 + 20 ≤ _)⟩)
      dsimp only [Pt.U, Pt.locs, Pt.cells, Pt.slots] at X107 l107 y107 z107 st107 hQ107
      subst l107 y107 z107
      obtain ⟨rs_107, ro_107, ko_107, rfl, N107q, K107q, O107, f107_0, f107_1, f107_2, f107_3, f107_4, f107_5, f107_6, f107_7⟩ := hQ107
      have N107 := Fr.app N105 N107q
      have CR108 := CR106.trans (CHr.keep K107q all0 CR106.1)
      have K107 := K105.trans K107q all0
      have VO107 : Arv Z T107.heap ro_107 ko_107 .byte (1 : Int32) [.int (10 : Int32), .int (0 : Int32), .int (0 : Int32), .int (0 : Int32), .int (0 : Int32), .int (0 : Int32), .int (0 : Int32), .int (0 : Int32), .int (0 : Int32), .int (0 : Int32), .int (0 : Int32), .int (0 : Int32), .int (0 : Int32), .int (0 : Int32), .int (0 : Int32), .int (0 : Int32)] (.int (0 : Int32)) := f107_5
      obtain ⟨u109, hu109⟩ : ∃ z, z = (0 : Int32) := ⟨_, rfl⟩
      have sg110 : SG p.tables e below (T107.setTop (mkF m 266 #[It p1, It p2, It p3, It p4, It u1, It v11_t0, It (0 : Int32), It u14, It u16, Rf b18, Rf b25, Rf sa38, Rf b41, It (1 : Int32), It v96_l14, Rf rs_107, .unset] [(.int u109)])) (T96.setTop (mkF m 231 #[It p1, It p2, It p3, It p4, It u1, It v11_t0, It (0 : Int32), It u14, It u16, Rf b18, Rf b25, Rf sa38, Rf b41, It (1 : Int32), It v96_l14, .unset, .unset] [])) := by
        intro target kt
        subst hu109
        show Steps _ _ _ (T96.setTop (mkF m 231 #[It p1, It p2, It p3, It p4, It u1, It v11_t0, It (0 : Int32), It u14, It u16, Rf b18, Rf b25, Rf sa38, Rf b41, It (1 : Int32), It v96_l14, .unset, .unset] [])) _
        refine XS.aload X96.here hx rfl (hb hby at_231) rfl rfl ?_
        refine XS.aload X96.here hx rfl (hb hby at_233) rfl rfl ?_
        refine st105.trans ?_
        refine XS.pop X105.here hx rfl (hb hby at_238) rfl rfl ?_
        refine XS.aload X105.here hx rfl (hb hby at_239) rfl rfl ?_
        refine st107.trans ?_
        refine XS.astore X107.here hx rfl (hb hby at_244) rfl rfl (l' := #[It p1, It p2, It p3, It p4, It u1, It v11_t0, It (0 : Int32), It u14, It u16, Rf b18, Rf b25, Rf sa38, Rf b41, It (1 : Int32), It v96_l14, Rf rs_107, .unset]) rfl ?_
        refine XS.iload X107.here hx rfl (hb hby at_246) rfl ?_
        refine XS.ifYes X107.here hx rfl (pc0 := 248) (pc' := 253) rfl (hb hby at_248) rfl ((if0 _ _).trans (feq (by decide : ¬ ((1 : Int32) = (0 : Int32)))).2) (by decide) (by decide) ?_
        refine XS.iload X107.here hx rfl (hb hby at_253) rfl ?_
        refine XS.ifNo X107.here hx rfl (hb hby at_255) rfl ((if0 _ _).trans (teq (by decide : (0 : Int32) = (0 : Int32))).2) ?_
        refine XS.iconst X107.here hx rfl (hb hby at_258) ?_
        refine XS.goto X107.here hx rfl (pc0 := 259) (pc' := 266) rfl (hb hby at_259) (by decide) (by decide) ?_
        exact kt
      have hk_u109 : u109 = (0 : Int32) := hu109.trans (by decide)
      subst hk_u109
      obtain ⟨cq111, kq111, q111a, q111b, q111c⟩ := isOf hZ96 rfl f107_0
      obtain ⟨_, _, ⟨T111, L111, k111, n111⟩, -, X111, ⟨Lc111, hQ111, l111, y111, z111⟩, st111⟩ := X107.virtualBack hx (y := m_2) (z := m_2) hown96 (mvT hZ96 (tw hw 189 rfl)) (mvT hZ96 (tw hw 89 rfl)) (notFace_of_selects (args := #[]) (mvT hZ96 (tw hw 91 rfl))) (mvT hZ96 (tw hw 91 rfl)) (mvT hZ96 (tw hw 90 rfl)) (by decide) (backOf (W := 0) (rm15 l Z a0 hw [] rs_107 ro_107 (1 : Int32) ([.int (10 : Int32), .int (0 : Int32), .int (0 : Int32), .int (0 : Int32), .int (0 : Int32), .int (0 : Int32), .int (0 : Int32), .int (0 : Int32), .int (0 : Int32), .int (0 : Int32), .int (0 : Int32), .int (0 : Int32), .int (0 : Int32), .int (0 : Int32), .int (0 : Int32), .int (0 : Int32)]) zC ko_107 T107.heap n0 O107 hCS sC f107_0 f107_3 f107_4 VO107) hZ96 (tw hw 92 rfl) (tw hw 3 rfl) (by decide) (by decide)) q111a q111c (g := (mkF m 270 #[It p1, It p2, It p3, It p4, It u1, It v11_t0, It (0 : Int32), It u14, It u16, Rf b18, Rf b25, Rf sa38, Rf b41, It (1 : Int32), It v96_l14, Rf rs_107, It (0 : Int32)] [(.ref rs_107)])) rfl (by rw [hml]; rfl) (Steps.refl _) (argsL := []) (rest := []) (lenOf pd_1 rfl) rfl (w0 rfl) (hb hby at_270) (fun _ _ => ⟨rfl, rfl, (by decide : 9 + 0 ≤ _), (by decide : 49 + 0 ≤ _)⟩)
      dsimp only [Pt.U, Pt.locs, Pt.cells, Pt.slots] at X111 l111 y111 z111 st111 hQ111
      subst l111 y111 z111
      obtain ⟨rfl, N111q, e111⟩ := hQ111
      have N111 := Fr.app N107 N111q
      have sg112 : SG p.tables e below (T111.setTop (mkF m 285 #[It p1, It p2, It p3, It p4, It u1, It v11_t0, It (0 : Int32), It u14, It u16, Rf b18, Rf b25, Rf sa38, Rf b41, It (1 : Int32), It v96_l14, Rf rs_107, It (0 : Int32)] [])) (T107.setTop (mkF m 266 #[It p1, It p2, It p3, It p4, It u1, It v11_t0, It (0 : Int32), It u14, It u16, Rf b18, Rf b25, Rf sa38, Rf b41, It (1 : Int32), It v96_l14, Rf rs_107, .unset] [(.int (0 : Int32))])) := by
        intro target kt
        show Steps _ _ _ (T107.setTop (mkF m 266 #[It p1, It p2, It p3, It p4, It u1, It v11_t0, It (0 : Int32), It u14, It u16, Rf b18, Rf b25, Rf sa38, Rf b41, It (1 : Int32), It v96_l14, Rf rs_107, .unset] [(.int (0 : Int32))])) _
        refine XS.istore X107.here hx rfl (hb hby at_266) rfl (l' := #[It p1, It p2, It p3, It p4, It u1, It v11_t0, It (0 : Int32), It u14, It u16, Rf b18, Rf b25, Rf sa38, Rf b41, It (1 : Int32), It v96_l14, Rf rs_107, It (0 : Int32)]) rfl ?_
        refine XS.aload X107.here hx rfl (hb hby at_268) rfl rfl ?_
        refine st111.trans ?_
        refine XS.iload X111.here hx rfl (hb hby at_273) rfl ?_
        refine XS.iload X111.here hx rfl (hb hby at_275) rfl ?_
        refine XS.iadd X111.here hx rfl (hb hby at_277) rfl ?_
        refine XS.iconst X111.here hx rfl (hb hby at_278) ?_
        refine XS.iadd X111.here hx rfl (hb hby at_279) rfl ?_
        refine XS.icmpYes X111.here hx rfl (pc0 := 280) (pc' := 285) rfl (hb hby at_280) rfl (teq (by decide : (1 : Int32) = (((0 : Int32) + (0 : Int32)) + (1 : Int32)))).1 (by decide) (by decide) ?_
        exact kt
      exact ⟨T111, _, (0 : Int32), sa38, b41, v96_l14, rs_107, (0 : Int32), T107.heap, vm96, _, ro_107, ko_107, (1 : Int32), [.int (10 : Int32), .int (0 : Int32), .int (0 : Int32), .int (0 : Int32), .int (0 : Int32), .int (0 : Int32), .int (0 : Int32), .int (0 : Int32), .int (0 : Int32), .int (0 : Int32), .int (0 : Int32), .int (0 : Int32), .int (0 : Int32), .int (0 : Int32), .int (0 : Int32), .int (0 : Int32)], X111.mono (by decide) (by decide), e111, N111, O107, ((((((((((Keep.refl h33 []).ext E38).ext E41).trans K44q (allS (Or.inr (Nat.le_trans (Nat.le_trans (Nat.le_refl _) E38.1) (Nat.le_of_eq g41.symm))) all0)).trans K53 (allS (Or.inr (Nat.le_trans (Nat.le_trans (Nat.le_refl _) E38.1) (Nat.le_of_eq g41.symm))) all0)).trans K67 (allS (Or.inr (Nat.le_trans (Nat.le_trans (Nat.le_refl _) E38.1) (Nat.le_of_eq g41.symm))) all0)).trans K81 (allS (Or.inr (Nat.le_trans (Nat.le_trans (Nat.le_refl _) E38.1) (Nat.le_of_eq g41.symm))) all0)).trans K96 (allS (Or.inr (Nat.le_trans (Nat.le_trans (Nat.le_refl _) E38.1) (Nat.le_of_eq g41.symm))) all0)).trans K105q (allS (Or.inr (Nat.le_trans (Nat.le_trans (Nat.le_trans (Nat.le_refl _) E38.1) E41.1) f44_8)) (allS (Or.inr (Nat.le_trans (Nat.le_trans (Nat.le_trans (Nat.le_refl _) E38.1) E41.1) f44_10)) all0))).trans K107q all0), K107, Y96, (Nat.le_trans (Nat.le_trans Yk96 K105q.1) K107q.1), hZ96, hown96, CR108, ((((((((((CHr.refl CR35.1).trans (C38)).trans (CHr.ext E41 CR40.1)).trans (CHr.keep K44q (allS (Safe.exa hZ38.alike A41 (by decide) (by decide)) all0) CR43.1)).trans (CQ53)).trans (CQ67)).trans (CQ81)).trans (CQ96)).trans (CHr.keep K105q (allS (Safe.exa hZ96.alike Rn100 (by decide) (by decide)) (allS Rn97 all0)) CR_96.1)).trans (CHr.keep K107q all0 CR106.1)), f107_0, f107_3, f107_4, VO107, own_at00 rg_u14 rg_u16, fun target kt => sg46 _ (sg53 _ (sg67 _ (sg81 _ (sg89 _ (sg96 _ (sg110 _ (sg112 _ (kt))))))))⟩
    · by_cases hc113 : u12 = (1 : Int32)
      · subst hc113
        obtain ⟨T114, h114, X114, e114, E114, A114, D114, -, st114⟩ := newO X33 hx hZ hown (tw hw 1 rfl) (tw hw 2 rfl) (tw hw 3 rfl) e33 (g := (mkF m 89 #[It p1, It p2, It p3, It p4, It u1, It v11_t0, It (1 : Int32), It u14, It u16, Rf b18, Rf b25, .unset, .unset, .unset, .unset, .unset, .unset] [])) rfl (hb hby at_89) (by decide) (by decide)
        obtain ⟨b114, g114⟩ : ∃ z, z = h33.size := ⟨_, rfl⟩
        rw [← g114] at A114 D114 st114
        have ge_b114 : n0 ≤ b114 := Nat.le_trans (own_osz O34) (Nat.le_of_eq g114.symm)
        have sz_b114 : h0.size ≤ b114 := Nat.le_trans K33.1 (Nat.le_of_eq g114.symm)
        have O115 := O34.ext E114
        have K114 := K33.ext E114
        have CR116 := CR35.trans (CHr.ext E114 CR35.1)
        have F_coder_b114 : Fld Z h114 b114 "java/lang/String" "coder" "B" (.int (0 : Int32)) := D114 (Or.inr (tw hw 27 rfl)) (ty := .byte) (by decide)
        have F_value_b114 : Fld Z h114 b114 "java/lang/String" "value" "[B" .null := D114 (Or.inr (tw hw 29 rfl)) (ty := (.array .byte)) (by decide)
        have lat117 : Lat ([(nar .char u14)] : List Int32) := own_lat1 rg_u14
        obtain ⟨vv117, _, ⟨T117, L117, k117, n117⟩, -, X117, ⟨Lc117, hQ117, l117, y117, z117⟩, st117⟩ := X114.specialBack hx (y := m_39) rfl hown (mvT hZ (tw hw 4 rfl)) (mvT hZ (tw hw 5 rfl)) (mvT hZ (tw hw 6 rfl)) (by decide) (StrChars.Road.backV (W := 1) hZ (own_wn hw) (kI := 4) (tw hw 2 rfl) (cs := ([(nar .char u14)] : List Int32)) (bs := (([(nar .char u14)] : List Int32)).map StrChars.lo8) (n := 1) ge_b114 (own_osz O115) A114 F_value_b114 F_coder_b114 ((((V22.ext E25).other W29 (Nat.ne_of_lt (Nat.lt_of_lt_of_le V22.lt (Nat.le_of_eq g25.symm)))).other W33 (Nat.ne_of_lt (Nat.lt_of_lt_of_le V22.lt (Nat.le_of_eq g25.symm)))).ext E114) (sC.ext O115.2) hCS rfl rfl (by decide) (by decide) lat117.1 rfl (by decide) (by decide)) (g := (mkF m 95 #[It p1, It p2, It p3, It p4, It u1, It v11_t0, It (1 : Int32), It u14, It u16, Rf b18, Rf b25, .unset, .unset, .unset, .unset, .unset, .unset] [(.ref b18), (.ref b114), (.ref b114)])) rfl (by rw [hml]; rfl) (Steps.refl _) (a := b114) (argsL := [(.ref b18)]) (rest := [(.ref b114)]) (lenOf pd_28 rfl) rfl (w0 rfl) (hb hby at_95) (fun _ _ => ⟨rfl, e114, (by decide : 3 + 1 ≤ _), (by decide : 7 + 1 ≤ _)⟩)
        dsimp only [Pt.U, Pt.locs, Pt.cells, Pt.slots] at X117 l117 y117 z117 st117 hQ117
        subst l117 y117 z117
        obtain ⟨rfl, N117q, K117q, A117, Fc117, t117, kb117, gt117, bt117, nt117, Fv117, Va117⟩ := hQ117
        have N117 := Fr.app N33 N117q
        have V117 : Arv Z T117.heap t117 kb117 .byte (Int32.ofNat (([(nar .char u14)] : List Int32)).length) (strV ([(nar .char u14)] : List Int32)) (.int 0) := Va117
        have sz_t117 : h0.size ≤ t117 := Nat.le_trans K114.1 bt117
        have CR118 := CR116.trans (CHr.keep K117q (allS (Safe.ext E114 CR35.1 (Safe.new (Nat.le_of_eq g114.symm))) all0) CR116.1)
        have Sf117_b114 := (Safe.keep K117q (allS (Safe.ext E114 CR35.1 (Safe.new (Nat.le_of_eq g114.symm))) all0) CR116.1 (Safe.ext E114 CR35.1 (Safe.new (Nat.le_of_eq g114.symm))))
        have O117 := O115.keep K117q (allS ge_b114 all0)
        have K117 := K114.trans K117q (allS (Or.inr sz_b114) all0)
        obtain ⟨T119, h119, X119, e119, E119, A119, D119, -, st119⟩ := newO X117 hx hZ hown (tw hw 30 rfl) (tw hw 31 rfl) (tw hw 32 rfl) rfl (g := (mkF m 114 #[It p1, It p2, It p3, It p4, It u1, It v11_t0, It (1 : Int32), It u14, It u16, Rf b18, Rf b25, Rf b114, .unset, .unset, .unset, .unset, .unset] [])) rfl (hb hby at_114) (by decide) (by decide)
        obtain ⟨b119, g119⟩ : ∃ z, z = T117.heap.size := ⟨_, rfl⟩
        rw [← g119] at A119 D119 st119
        have ge_b119 : n0 ≤ b119 := Nat.le_trans (own_osz O117) (Nat.le_of_eq g119.symm)
        have sz_b119 : h0.size ≤ b119 := Nat.le_trans K117.1 (Nat.le_of_eq g119.symm)
        have O120 := O117.ext E119
        have K119 := K117.ext E119
        have CR121 := CR118.trans (CHr.ext E119 CR118.1)
        have F_text_b119 : Fld Z h119 b119 "com/example/tetrad/tetrad/generate/SourceText" "text" "Ljava/lang/StringBuilder;" .null := D119 (Or.inr (tw hw 56 rfl)) (ty := (.object "java/lang/StringBuilder")) (by decide)
        have F_depth_b119 : Fld Z h119 b119 "com/example/tetrad/tetrad/generate/SourceText" "depth" "I" (.int (0 : Int32)) := D119 (Or.inl (tw hw 71 rfl)) (ty := .int) (by decide)
        obtain ⟨_, _, ⟨T122, L122, k122, n122⟩, -, X122, ⟨Lc122, hQ122, l122, y122, z122⟩, st122⟩ := X119.specialBack hx (y := m_11) rfl hown (mvT hZ (tw hw 33 rfl)) (mvT hZ (tw hw 34 rfl)) (mvT hZ (tw hw 35 rfl)) (by decide) (backOf (W := 1) (rm7 l Z a0 hw [] b119 zC h119 n0 O120 sC A119 F_text_b119 F_depth_b119 ge_b119 hCS) hZ (tw hw 35 rfl) (tw hw 32 rfl) (by decide) (by decide)) (g := (mkF m 118 #[It p1, It p2, It p3, It p4, It u1, It v11_t0, It (1 : Int32), It u14, It u16, Rf b18, Rf b25, Rf b114, .unset, .unset, .unset, .unset, .unset] [(.ref b119), (.ref b119)])) rfl (by rw [hml]; rfl) (Steps.refl _) (a := b119) (argsL := []) (rest := [(.ref b119)]) (lenOf pd_3 rfl) rfl (w0 rfl) (hb hby at_118) (fun _ _ => ⟨rfl, e119, (by decide : 5 + 2 ≤ _), (by decide : 10 + 20 ≤ _)⟩)
        dsimp only [Pt.U, Pt.locs, Pt.cells, Pt.slots] at X122 l122 y122 z122 st122 hQ122
        subst l122 y122 z122
        obtain ⟨sb_122, ro_122, ko_122, rfl, N122q, K122q, O122, f122_0, f122_1, f122_2, f122_3, f122_4, f122_5, f122_6, f122_7, f122_8, f122_9, f122_10⟩ := hQ122
        have N122 := Fr.app N117 N122q
        have CR123 := CR121.trans (CHr.keep K122q (allS (Safe.exa hZ.alike A119 (by decide) (by decide)) all0) CR121.1)
        have K122 := K119.trans K122q (allS (Or.inr sz_b119) all0)
        have sg124 : SG p.tables e below (T122.setTop (mkF m 126 #[It p1, It p2, It p3, It p4, It u1, It v11_t0, It (1 : Int32), It u14, It u16, Rf b18, Rf b25, Rf b114, Rf b119, It (1 : Int32), .unset, .unset, .unset] [])) (T33.setTop (mkF m 71 #[It p1, It p2, It p3, It p4, It u1, It v11_t0, It (1 : Int32), It u14, It u16, Rf b18, Rf b25, .unset, .unset, .unset, .unset, .unset, .unset] [])) := by
          intro target kt
          show Steps _ _ _ (T33.setTop (mkF m 71 #[It p1, It p2, It p3, It p4, It u1, It v11_t0, It (1 : Int32), It u14, It u16, Rf b18, Rf b25, .unset, .unset, .unset, .unset, .unset, .unset] [])) _
          refine XS.iload X33.here hx rfl (hb hby at_71) rfl ?_
          refine XS.ifYes X33.here hx rfl (pc0 := 73) (pc' := 83) rfl (hb hby at_73) rfl ((if0 _ _).trans (feq (by decide : ¬ ((1 : Int32) = (0 : Int32)))).2) (by decide) (by decide) ?_
          refine XS.iload X33.here hx rfl (hb hby at_83) rfl ?_
          refine XS.iconst X33.here hx rfl (hb hby at_85) ?_
          refine XS.icmpNo X33.here hx rfl (hb hby at_86) rfl (teq (by decide : (1 : Int32) = (1 : Int32))).2 ?_
          refine st114 _ ?_
          refine XS.dup X114.here hx rfl (hb hby at_92) rfl rfl ?_
          refine XS.aload X114.here hx rfl (hb hby at_93) rfl rfl ?_
          refine st117.trans ?_
          refine XS.astore X117.here hx rfl (hb hby at_98) rfl rfl (l' := #[It p1, It p2, It p3, It p4, It u1, It v11_t0, It (1 : Int32), It u14, It u16, Rf b18, Rf b25, Rf b114, .unset, .unset, .unset, .unset, .unset]) rfl ?_
          refine XS.goto X117.here hx rfl (pc0 := 100) (pc' := 114) rfl (hb hby at_100) (by decide) (by decide) ?_
          refine st119 _ ?_
          refine XS.dup X119.here hx rfl (hb hby at_117) rfl rfl ?_
          refine st122.trans ?_
          refine XS.astore X122.here hx rfl (hb hby at_121) rfl rfl (l' := #[It p1, It p2, It p3, It p4, It u1, It v11_t0, It (1 : Int32), It u14, It u16, Rf b18, Rf b25, Rf b114, Rf b119, .unset, .unset, .unset, .unset]) rfl ?_
          refine XS.iconst X122.here hx rfl (hb hby at_123) ?_
          refine XS.istore X122.here hx rfl (hb hby at_124) rfl (l' := #[It p1, It p2, It p3, It p4, It u1, It v11_t0, It (1 : Int32), It u14, It u16, Rf b18, Rf b25, Rf b114, Rf b119, It (1 : Int32), .unset, .unset, .unset]) rfl ?_
          exact kt
        obtain ⟨T131, L131, h131, vm131, kk131, dv131, X131, e131, N131, O131, K131, KK131, Y131, Yk131, hZ131, hown131, CR_131, CQ131, FD131, FT131, ed131, sg131⟩ : ∃ (T' : State) (L' : List Loc) (h' : Heap) (vm' : Vm) (k' : Nat) (dv131 : Int32), Stand p l e room_1 (s.setVm vm') m #[(.int p1), (.int p2), (.int p3), (.int p4)] below meth c T' L' 7 30 ∧ T'.heap = h' ∧ Fr n0 L' ∧ Old Z n0 h' ∧ Keep T122.heap h' [b119] ∧ Keep h0 h' [] ∧ s.Since vm' k' ∧ k' ≤ h'.size ∧ Z.Warmed39 (s.setVm vm').vm ∧ (s.setVm vm').vm.findClass "com/example/tetrad/tetrad/generate/SourceTextIndentPinLaw" = some m.cls ∧ CHr Z own_EL s.vm h0 vm' h' ∧ CHr Z own_EL s.vm T122.heap vm' h' ∧ Fld Z h' b119 "com/example/tetrad/tetrad/generate/SourceText" "depth" "I" (.int dv131) ∧ Fld Z h' b119 "com/example/tetrad/tetrad/generate/SourceText" "text" "Ljava/lang/StringBuilder;" (.ref sb_122) ∧ dv131 = (if u1 < (1 : Int32) then (0 : Int32) else ((0 : Int32) + (1 : Int32))) ∧ ∀ target, Steps p.tables e below (T'.setTop (mkF m 154 #[It p1, It p2, It p3, It p4, It u1, It v11_t0, It (1 : Int32), It u14, It u16, Rf b18, Rf b25, Rf b114, Rf b119, It (1 : Int32), .unset, .unset, .unset] [])) target → Steps p.tables e below (T122.setTop (mkF m 126 #[It p1, It p2, It p3, It p4, It u1, It v11_t0, It (1 : Int32), It u14, It u16, Rf b18, Rf b25, Rf b114, Rf b119, It (1 : Int32), .unset, .unset, .unset] [])) target := by
          have sg125 : SG p.tables e below (T122.setTop (mkF m 129 #[It p1, It p2, It p3, It p4, It u1, It v11_t0, It (1 : Int32), It u14, It u16, Rf b18, Rf b25, Rf b114, Rf b119, It (1 : Int32), .unset, .unset, .unset] [(.int (1 : Int32)), (.int u1)])) (T122.setTop (mkF m 126 #[It p1, It p2, It p3, It p4, It u1, It v11_t0, It (1 : Int32), It u14, It u16, Rf b18, Rf b25, Rf b114, Rf b119, It (1 : Int32), .unset, .unset, .unset] [])) := by
            intro target kt
            show Steps _ _ _ (T122.setTop (mkF m 126 #[It p1, It p2, It p3, It p4, It u1, It v11_t0, It (1 : Int32), It u14, It u16, Rf b18, Rf b25, Rf b114, Rf b119, It (1 : Int32), .unset, .unset, .unset] [])) _
            refine XS.iload X122.here hx rfl (hb hby at_126) rfl ?_
            refine XS.iconst X122.here hx rfl (hb hby at_128) ?_
            exact kt
          by_cases hc126 : u1 < (1 : Int32)
          · have sg127 : SG p.tables e below (T122.setTop (mkF m 154 #[It p1, It p2, It p3, It p4, It u1, It v11_t0, It (1 : Int32), It u14, It u16, Rf b18, Rf b25, Rf b114, Rf b119, It (1 : Int32), .unset, .unset, .unset] [])) (T122.setTop (mkF m 129 #[It p1, It p2, It p3, It p4, It u1, It v11_t0, It (1 : Int32), It u14, It u16, Rf b18, Rf b25, Rf b114, Rf b119, It (1 : Int32), .unset, .unset, .unset] [(.int (1 : Int32)), (.int u1)])) := by
              intro target kt
              show Steps _ _ _ (T122.setTop (mkF m 129 #[It p1, It p2, It p3, It p4, It u1, It v11_t0, It (1 : Int32), It u14, It u16, Rf b18, Rf b25, Rf b114, Rf b119, It (1 : Int32), .unset, .unset, .unset] [(.int (1 : Int32)), (.int u1)])) _
              refine XS.icmpYes X122.here hx rfl (pc0 := 129) (pc' := 154) rfl (hb hby at_129) rfl (tlt hc126).1 (by decide) (by decide) ?_
              exact kt
            exact ⟨T122, _, T122.heap, s.vm, _, (0 : Int32), X122.mono (by decide) (by decide), rfl, N122, O122, (Keep.refl T122.heap [b119]), K122, Y0, (Nat.le_trans (Nat.le_trans (Nat.le_trans (Nat.le_trans (Nat.le_trans (Nat.le_trans (Nat.le_trans (Nat.le_trans (Nat.le_trans Yk0 E18.1) (Keep.of_wr W22).1) E25.1) (Keep.of_wr W29).1) (Keep.of_wr W33).1) E114.1) K117q.1) E119.1) K122q.1), hZ, hown, CR123, (CHr.refl CR123.1), f122_1, f122_0, (if_pos hc126).symm, fun target kt => sg125 _ (sg127 _ (kt))⟩
          · obtain ⟨cq128, kq128, q128a, q128b, q128c⟩ := isOf hZ rfl (A119.keep K122q)
            obtain ⟨_, _, ⟨T128, L128, k128, n128⟩, -, X128, ⟨Lc128, hQ128, l128, y128, z128⟩, st128⟩ := X122.virtualBack hx (y := m_12) (z := m_12) hown (mvT hZ (tw hw 216 rfl)) (mvT hZ (tw hw 217 rfl)) (notFace_of_selects (args := #[]) (mvT hZ (tw hw 219 rfl))) (mvT hZ (tw hw 219 rfl)) (mvT hZ (tw hw 218 rfl)) (by decide) (backOf (W := 0) (rm42 l Z a0 hw [] b119 (0 : Int32) sb_122 T122.heap n0 O122 (A119.keep K122q) f122_1 f122_0 ge_b119) hZ (tw hw 220 rfl) (tw hw 32 rfl) (by decide) (by decide)) q128a q128c (g := (mkF m 139 #[It p1, It p2, It p3, It p4, It u1, It v11_t0, It (1 : Int32), It u14, It u16, Rf b18, Rf b25, Rf b114, Rf b119, It (1 : Int32), .unset, .unset, .unset] [(.ref b119)])) rfl (by rw [hml]; rfl) (Steps.refl _) (argsL := []) (rest := []) (lenOf pd_26 rfl) rfl (w0 rfl) (hb hby at_139) (fun _ _ => ⟨rfl, rfl, (by decide : 7 + 0 ≤ _), (by decide : 30 + 0 ≤ _)⟩)
            dsimp only [Pt.U, Pt.locs, Pt.cells, Pt.slots] at X128 l128 y128 z128 st128 hQ128
            subst l128 y128 z128
            obtain ⟨rfl, N128q, K128q, O128, f128_0, f128_1⟩ := hQ128
            have N128 := Fr.app N122 N128q
            have CR129 := CR123.trans (CHr.keep K128q (allS (Safe.exa hZ.alike (A119.keep K122q) (by decide) (by decide)) all0) CR123.1)
            have K128 := K122.trans K128q (allS (Or.inr sz_b119) all0)
            have sg130 : SG p.tables e below (T128.setTop (mkF m 154 #[It p1, It p2, It p3, It p4, It u1, It v11_t0, It (1 : Int32), It u14, It u16, Rf b18, Rf b25, Rf b114, Rf b119, It (1 : Int32), .unset, .unset, .unset] [])) (T122.setTop (mkF m 129 #[It p1, It p2, It p3, It p4, It u1, It v11_t0, It (1 : Int32), It u14, It u16, Rf b18, Rf b25, Rf b114, Rf b119, It (1 : Int32), .unset, .unset, .unset] [(.int (1 : Int32)), (.int u1)])) := by
              intro target kt
              show Steps _ _ _ (T122.setTop (mkF m 129 #[It p1, It p2, It p3, It p4, It u1, It v11_t0, It (1 : Int32), It u14, It u16, Rf b18, Rf b25, Rf b114, Rf b119, It (1 : Int32), .unset, .unset, .unset] [(.int (1 : Int32)), (.int u1)])) _
              refine XS.icmpNo X122.here hx rfl (hb hby at_129) rfl (flt hc126).1 ?_
              refine XS.iload X122.here hx rfl (hb hby at_132) rfl ?_
              refine XS.ifNo X122.here hx rfl (hb hby at_134) rfl ((if0 _ _).trans (feq (by decide : ¬ ((1 : Int32) = (0 : Int32)))).1) ?_
              refine XS.aload X122.here hx rfl (hb hby at_137) rfl rfl ?_
              refine st128.trans ?_
              refine XS.aload X128.here hx rfl (hb hby at_142) rfl rfl ?_
              refine Jvm.RoadKit.acmp (g := (mkF m 144 #[It p1, It p2, It p3, It p4, It u1, It v11_t0, It (1 : Int32), It u14, It u16, Rf b18, Rf b25, Rf b114, Rf b119, It (1 : Int32), .unset, .unset, .unset] [(.ref b119), (.ref b119)])) X128 hx rfl rfl rfl (pc0 := 144) (pc' := 147) (same := true) rfl (hb hby at_144) rfl (decide_eq_true rfl) (by decide) (by decide) ?_
              refine XS.iconst X128.here hx rfl (hb hby at_147) ?_
              refine XS.goto X128.here hx rfl (pc0 := 148) (pc' := 152) rfl (hb hby at_148) (by decide) (by decide) ?_
              refine XS.istore X128.here hx rfl (hb hby at_152) rfl (l' := #[It p1, It p2, It p3, It p4, It u1, It v11_t0, It (1 : Int32), It u14, It u16, Rf b18, Rf b25, Rf b114, Rf b119, It (1 : Int32), .unset, .unset, .unset]) rfl ?_
              exact kt
            exact ⟨T128, _, T128.heap, s.vm, _, ((0 : Int32) + (1 : Int32)), X128.mono (by decide) (by decide), rfl, N128, O128, ((Keep.refl T122.heap [b119]).trans K128q (allS (Or.inl (List.mem_of_getElem? (i := 0) rfl)) all0)), K128, Y0, (Nat.le_trans (Nat.le_trans (Nat.le_trans (Nat.le_trans (Nat.le_trans (Nat.le_trans (Nat.le_trans (Nat.le_trans (Nat.le_trans (Nat.le_trans Yk0 E18.1) (Keep.of_wr W22).1) E25.1) (Keep.of_wr W29).1) (Keep.of_wr W33).1) E114.1) K117q.1) E119.1) K122q.1) K128q.1), hZ, hown, CR129, ((CHr.refl CR123.1).trans (CHr.keep K128q (allS (Safe.exa hZ.alike (A119.keep K122q) (by decide) (by decide)) all0) CR123.1)), f128_0, f128_1, (if_neg hc126).symm, fun target kt => sg125 _ (sg130 _ (kt))⟩
        have Rn132 := (CQ131.safe f122_6.lt (Safe.keep K122q (allS (Safe.exa hZ.alike A119 (by decide) (by decide)) all0) CR121.1 (Safe.new f122_10)))
        have Rn133 := (CQ131.safe f122_2.lt (Safe.keep K122q (allS (Safe.exa hZ.alike A119 (by decide) (by decide)) all0) CR121.1 (Safe.new f122_8)))
        have Rn134 := (f122_6.keep K131 (ninS (Ne.symm (Nat.ne_of_lt (Nat.lt_of_lt_of_le A119.lt f122_10))) nin0))
        have Rn135 := (f122_2.keep K131)
        have Rn136 := (f122_4.keep K131 (ninS (Ne.symm (Nat.ne_of_lt (Nat.lt_of_lt_of_le A119.lt f122_8))) nin0))
        have Rn137 := (f122_5.keep K131 (ninS (Ne.symm (Nat.ne_of_lt (Nat.lt_of_lt_of_le A119.lt f122_8))) nin0))
        have Rn138 := (f122_3.keep K131 (ninS (Ne.symm (Nat.ne_of_lt (Nat.lt_of_lt_of_le A119.lt f122_8))) nin0))
        obtain ⟨T145, L145, h145, vm145, kk145, dv145, X145, e145, N145, O145, K145, KK145, Y145, Yk145, hZ145, hown145, CR_145, CQ145, FD145, FT145, ed145, sg145⟩ : ∃ (T' : State) (L' : List Loc) (h' : Heap) (vm' : Vm) (k' : Nat) (dv145 : Int32), Stand p l e room_1 (s.setVm vm') m #[(.int p1), (.int p2), (.int p3), (.int p4)] below meth c T' L' 7 30 ∧ T'.heap = h' ∧ Fr n0 L' ∧ Old Z n0 h' ∧ Keep h131 h' [b119] ∧ Keep h0 h' [] ∧ s.Since vm' k' ∧ k' ≤ h'.size ∧ Z.Warmed39 (s.setVm vm').vm ∧ (s.setVm vm').vm.findClass "com/example/tetrad/tetrad/generate/SourceTextIndentPinLaw" = some m.cls ∧ CHr Z own_EL s.vm h0 vm' h' ∧ CHr Z own_EL vm131 h131 vm' h' ∧ Fld Z h' b119 "com/example/tetrad/tetrad/generate/SourceText" "depth" "I" (.int dv145) ∧ Fld Z h' b119 "com/example/tetrad/tetrad/generate/SourceText" "text" "Ljava/lang/StringBuilder;" (.ref sb_122) ∧ dv145 = (if u1 < (2 : Int32) then dv131 else (dv131 + (1 : Int32))) ∧ ∀ target, Steps p.tables e below (T'.setTop (mkF m 182 #[It p1, It p2, It p3, It p4, It u1, It v11_t0, It (1 : Int32), It u14, It u16, Rf b18, Rf b25, Rf b114, Rf b119, It (1 : Int32), .unset, .unset, .unset] [])) target → Steps p.tables e below (T131.setTop (mkF m 154 #[It p1, It p2, It p3, It p4, It u1, It v11_t0, It (1 : Int32), It u14, It u16, Rf b18, Rf b25, Rf b114, Rf b119, It (1 : Int32), .unset, .unset, .unset] [])) target := by
          have sg139 : SG p.tables e below (T131.setTop (mkF m 157 #[It p1, It p2, It p3, It p4, It u1, It v11_t0, It (1 : Int32), It u14, It u16, Rf b18, Rf b25, Rf b114, Rf b119, It (1 : Int32), .unset, .unset, .unset] [(.int (2 : Int32)), (.int u1)])) (T131.setTop (mkF m 154 #[It p1, It p2, It p3, It p4, It u1, It v11_t0, It (1 : Int32), It u14, It u16, Rf b18, Rf b25, Rf b114, Rf b119, It (1 : Int32), .unset, .unset, .unset] [])) := by
            intro target kt
            show Steps _ _ _ (T131.setTop (mkF m 154 #[It p1, It p2, It p3, It p4, It u1, It v11_t0, It (1 : Int32), It u14, It u16, Rf b18, Rf b25, Rf b114, Rf b119, It (1 : Int32), .unset, .unset, .unset] [])) _
            refine XS.iload X131.here hx rfl (hb hby at_154) rfl ?_
            refine XS.iconst X131.here hx rfl (hb hby at_156) ?_
            exact kt
          by_cases hc140 : u1 < (2 : Int32)
          · have sg141 : SG p.tables e below (T131.setTop (mkF m 182 #[It p1, It p2, It p3, It p4, It u1, It v11_t0, It (1 : Int32), It u14, It u16, Rf b18, Rf b25, Rf b114, Rf b119, It (1 : Int32), .unset, .unset, .unset] [])) (T131.setTop (mkF m 157 #[It p1, It p2, It p3, It p4, It u1, It v11_t0, It (1 : Int32), It u14, It u16, Rf b18, Rf b25, Rf b114, Rf b119, It (1 : Int32), .unset, .unset, .unset] [(.int (2 : Int32)), (.int u1)])) := by
              intro target kt
              show Steps _ _ _ (T131.setTop (mkF m 157 #[It p1, It p2, It p3, It p4, It u1, It v11_t0, It (1 : Int32), It u14, It u16, Rf b18, Rf b25, Rf b114, Rf b119, It (1 : Int32), .unset, .unset, .unset] [(.int (2 : Int32)), (.int u1)])) _
              refine XS.icmpYes X131.here hx rfl (pc0 := 157) (pc' := 182) rfl (hb hby at_157) rfl (tlt hc140).1 (by decide) (by decide) ?_
              exact kt
            exact ⟨T131, _, h131, vm131, _, dv131, X131.mono (by decide) (by decide), e131, N131, O131, (Keep.refl h131 [b119]), KK131, Y131, Yk131, hZ131, hown131, CR_131, (CHr.refl CR_131.1), FD131, FT131, (if_pos hc140).symm, fun target kt => sg139 _ (sg141 _ (kt))⟩
          · obtain ⟨cq142, kq142, q142a, q142b, q142c⟩ := isOf hZ131 e131 ((A119.keep K122q).keep K131)
            obtain ⟨_, _, ⟨T142, L142, k142, n142⟩, -, X142, ⟨Lc142, hQ142, l142, y142, z142⟩, st142⟩ := X131.virtualBack hx (y := m_12) (z := m_12) hown131 (mvT hZ131 (tw hw 216 rfl)) (mvT hZ131 (tw hw 217 rfl)) (notFace_of_selects (args := #[]) (mvT hZ131 (tw hw 219 rfl))) (mvT hZ131 (tw hw 219 rfl)) (mvT hZ131 (tw hw 218 rfl)) (by decide) (backOf (W := 0) (rm42 l Z a0 hw [] b119 dv131 sb_122 h131 n0 O131 ((A119.keep K122q).keep K131) FD131 FT131 ge_b119) hZ131 (tw hw 220 rfl) (tw hw 32 rfl) (by decide) (by decide)) q142a q142c (g := (mkF m 167 #[It p1, It p2, It p3, It p4, It u1, It v11_t0, It (1 : Int32), It u14, It u16, Rf b18, Rf b25, Rf b114, Rf b119, It (1 : Int32), .unset, .unset, .unset] [(.ref b119)])) rfl (by rw [hml]; rfl) (Steps.refl _) (argsL := []) (rest := []) (lenOf pd_26 rfl) rfl (w0 rfl) (hb hby at_167) (fun _ _ => ⟨rfl, e131, (by decide : 7 + 0 ≤ _), (by decide : 30 + 0 ≤ _)⟩)
            dsimp only [Pt.U, Pt.locs, Pt.cells, Pt.slots] at X142 l142 y142 z142 st142 hQ142
            subst l142 y142 z142
            obtain ⟨rfl, N142q, K142q, O142, f142_0, f142_1⟩ := hQ142
            have N142 := Fr.app N131 N142q
            have CR143 := CR_131.trans (CHr.keep K142q (allS (Safe.exa hZ131.alike ((A119.keep K122q).keep K131) (by decide) (by decide)) all0) CR_131.1)
            have K142 := KK131.trans K142q (allS (Or.inr sz_b119) all0)
            have sg144 : SG p.tables e below (T142.setTop (mkF m 182 #[It p1, It p2, It p3, It p4, It u1, It v11_t0, It (1 : Int32), It u14, It u16, Rf b18, Rf b25, Rf b114, Rf b119, It (1 : Int32), .unset, .unset, .unset] [])) (T131.setTop (mkF m 157 #[It p1, It p2, It p3, It p4, It u1, It v11_t0, It (1 : Int32), It u14, It u16, Rf b18, Rf b25, Rf b114, Rf b119, It (1 : Int32), .unset, .unset, .unset] [(.int (2 : Int32)), (.int u1)])) := by
              intro target kt
              show Steps _ _ _ (T131.setTop (mkF m 157 #[It p1, It p2, It p3, It p4, It u1, It v11_t0, It (1 : Int32), It u14, It u16, Rf b18, Rf b25, Rf b114, Rf b119, It (1 : Int32), .unset, .unset, .unset] [(.int (2 : Int32)), (.int u1)])) _
              refine XS.icmpNo X131.here hx rfl (hb hby at_157) rfl (flt hc140).1 ?_
              refine XS.iload X131.here hx rfl (hb hby at_160) rfl ?_
              refine XS.ifNo X131.here hx rfl (hb hby at_162) rfl ((if0 _ _).trans (feq (by decide : ¬ ((1 : Int32) = (0 : Int32)))).1) ?_
              refine XS.aload X131.here hx rfl (hb hby at_165) rfl rfl ?_
              refine st142.trans ?_
              refine XS.aload X142.here hx rfl (hb hby at_170) rfl rfl ?_
              refine Jvm.RoadKit.acmp (g := (mkF m 172 #[It p1, It p2, It p3, It p4, It u1, It v11_t0, It (1 : Int32), It u14, It u16, Rf b18, Rf b25, Rf b114, Rf b119, It (1 : Int32), .unset, .unset, .unset] [(.ref b119), (.ref b119)])) X142 hx rfl rfl rfl (pc0 := 172) (pc' := 175) (same := true) rfl (hb hby at_172) rfl (decide_eq_true rfl) (by decide) (by decide) ?_
              refine XS.iconst X142.here hx rfl (hb hby at_175) ?_
              refine XS.goto X142.here hx rfl (pc0 := 176) (pc' := 180) rfl (hb hby at_176) (by decide) (by decide) ?_
              refine XS.istore X142.here hx rfl (hb hby at_180) rfl (l' := #[It p1, It p2, It p3, It p4, It u1, It v11_t0, It (1 : Int32), It u14, It u16, Rf b18, Rf b25, Rf b114, Rf b119, It (1 : Int32), .unset, .unset, .unset]) rfl ?_
              exact kt
            exact ⟨T142, _, T142.heap, vm131, _, (dv131 + (1 : Int32)), X142.mono (by decide) (by decide), rfl, N142, O142, ((Keep.refl h131 [b119]).trans K142q (allS (Or.inl (List.mem_of_getElem? (i := 0) rfl)) all0)), K142, Y131, (Nat.le_trans Yk131 K142q.1), hZ131, hown131, CR143, ((CHr.refl CR_131.1).trans (CHr.keep K142q (allS (Safe.exa hZ131.alike ((A119.keep K122q).keep K131) (by decide) (by decide)) all0) CR_131.1)), f142_0, f142_1, (if_neg hc140).symm, fun target kt => sg139 _ (sg144 _ (kt))⟩
        have Rn146 := (CQ145.safe Rn134.lt Rn132)
        have Rn147 := (CQ145.safe Rn135.lt Rn133)
        have Rn148 := (Rn134.keep K145 (ninS (Ne.symm (Nat.ne_of_lt (Nat.lt_of_lt_of_le A119.lt f122_10))) nin0))
        have Rn149 := (Rn135.keep K145)
        have Rn150 := (Rn136.keep K145 (ninS (Ne.symm (Nat.ne_of_lt (Nat.lt_of_lt_of_le A119.lt f122_8))) nin0))
        have Rn151 := (Rn137.keep K145 (ninS (Ne.symm (Nat.ne_of_lt (Nat.lt_of_lt_of_le A119.lt f122_8))) nin0))
        have Rn152 := (Rn138.keep K145 (ninS (Ne.symm (Nat.ne_of_lt (Nat.lt_of_lt_of_le A119.lt f122_8))) nin0))
        obtain ⟨T159, L159, h159, vm159, kk159, dv159, X159, e159, N159, O159, K159, KK159, Y159, Yk159, hZ159, hown159, CR_159, CQ159, FD159, FT159, ed159, sg159⟩ : ∃ (T' : State) (L' : List Loc) (h' : Heap) (vm' : Vm) (k' : Nat) (dv159 : Int32), Stand p l e room_1 (s.setVm vm') m #[(.int p1), (.int p2), (.int p3), (.int p4)] below meth c T' L' 7 30 ∧ T'.heap = h' ∧ Fr n0 L' ∧ Old Z n0 h' ∧ Keep h145 h' [b119] ∧ Keep h0 h' [] ∧ s.Since vm' k' ∧ k' ≤ h'.size ∧ Z.Warmed39 (s.setVm vm').vm ∧ (s.setVm vm').vm.findClass "com/example/tetrad/tetrad/generate/SourceTextIndentPinLaw" = some m.cls ∧ CHr Z own_EL s.vm h0 vm' h' ∧ CHr Z own_EL vm145 h145 vm' h' ∧ Fld Z h' b119 "com/example/tetrad/tetrad/generate/SourceText" "depth" "I" (.int dv159) ∧ Fld Z h' b119 "com/example/tetrad/tetrad/generate/SourceText" "text" "Ljava/lang/StringBuilder;" (.ref sb_122) ∧ dv159 = (if u1 < (3 : Int32) then dv145 else (dv145 + (1 : Int32))) ∧ ∀ target, Steps p.tables e below (T'.setTop (mkF m 210 #[It p1, It p2, It p3, It p4, It u1, It v11_t0, It (1 : Int32), It u14, It u16, Rf b18, Rf b25, Rf b114, Rf b119, It (1 : Int32), .unset, .unset, .unset] [])) target → Steps p.tables e below (T145.setTop (mkF m 182 #[It p1, It p2, It p3, It p4, It u1, It v11_t0, It (1 : Int32), It u14, It u16, Rf b18, Rf b25, Rf b114, Rf b119, It (1 : Int32), .unset, .unset, .unset] [])) target := by
          have sg153 : SG p.tables e below (T145.setTop (mkF m 185 #[It p1, It p2, It p3, It p4, It u1, It v11_t0, It (1 : Int32), It u14, It u16, Rf b18, Rf b25, Rf b114, Rf b119, It (1 : Int32), .unset, .unset, .unset] [(.int (3 : Int32)), (.int u1)])) (T145.setTop (mkF m 182 #[It p1, It p2, It p3, It p4, It u1, It v11_t0, It (1 : Int32), It u14, It u16, Rf b18, Rf b25, Rf b114, Rf b119, It (1 : Int32), .unset, .unset, .unset] [])) := by
            intro target kt
            show Steps _ _ _ (T145.setTop (mkF m 182 #[It p1, It p2, It p3, It p4, It u1, It v11_t0, It (1 : Int32), It u14, It u16, Rf b18, Rf b25, Rf b114, Rf b119, It (1 : Int32), .unset, .unset, .unset] [])) _
            refine XS.iload X145.here hx rfl (hb hby at_182) rfl ?_
            refine XS.iconst X145.here hx rfl (hb hby at_184) ?_
            exact kt
          by_cases hc154 : u1 < (3 : Int32)
          · have sg155 : SG p.tables e below (T145.setTop (mkF m 210 #[It p1, It p2, It p3, It p4, It u1, It v11_t0, It (1 : Int32), It u14, It u16, Rf b18, Rf b25, Rf b114, Rf b119, It (1 : Int32), .unset, .unset, .unset] [])) (T145.setTop (mkF m 185 #[It p1, It p2, It p3, It p4, It u1, It v11_t0, It (1 : Int32), It u14, It u16, Rf b18, Rf b25, Rf b114, Rf b119, It (1 : Int32), .unset, .unset, .unset] [(.int (3 : Int32)), (.int u1)])) := by
              intro target kt
              show Steps _ _ _ (T145.setTop (mkF m 185 #[It p1, It p2, It p3, It p4, It u1, It v11_t0, It (1 : Int32), It u14, It u16, Rf b18, Rf b25, Rf b114, Rf b119, It (1 : Int32), .unset, .unset, .unset] [(.int (3 : Int32)), (.int u1)])) _
              refine XS.icmpYes X145.here hx rfl (pc0 := 185) (pc' := 210) rfl (hb hby at_185) rfl (tlt hc154).1 (by decide) (by decide) ?_
              exact kt
            exact ⟨T145, _, h145, vm145, _, dv145, X145.mono (by decide) (by decide), e145, N145, O145, (Keep.refl h145 [b119]), KK145, Y145, Yk145, hZ145, hown145, CR_145, (CHr.refl CR_145.1), FD145, FT145, (if_pos hc154).symm, fun target kt => sg153 _ (sg155 _ (kt))⟩
          · obtain ⟨cq156, kq156, q156a, q156b, q156c⟩ := isOf hZ145 e145 (((A119.keep K122q).keep K131).keep K145)
            obtain ⟨_, _, ⟨T156, L156, k156, n156⟩, -, X156, ⟨Lc156, hQ156, l156, y156, z156⟩, st156⟩ := X145.virtualBack hx (y := m_12) (z := m_12) hown145 (mvT hZ145 (tw hw 216 rfl)) (mvT hZ145 (tw hw 217 rfl)) (notFace_of_selects (args := #[]) (mvT hZ145 (tw hw 219 rfl))) (mvT hZ145 (tw hw 219 rfl)) (mvT hZ145 (tw hw 218 rfl)) (by decide) (backOf (W := 0) (rm42 l Z a0 hw [] b119 dv145 sb_122 h145 n0 O145 (((A119.keep K122q).keep K131).keep K145) FD145 FT145 ge_b119) hZ145 (tw hw 220 rfl) (tw hw 32 rfl) (by decide) (by decide)) q156a q156c (g := (mkF m 195 #[It p1, It p2, It p3, It p4, It u1, It v11_t0, It (1 : Int32), It u14, It u16, Rf b18, Rf b25, Rf b114, Rf b119, It (1 : Int32), .unset, .unset, .unset] [(.ref b119)])) rfl (by rw [hml]; rfl) (Steps.refl _) (argsL := []) (rest := []) (lenOf pd_26 rfl) rfl (w0 rfl) (hb hby at_195) (fun _ _ => ⟨rfl, e145, (by decide : 7 + 0 ≤ _), (by decide : 30 + 0 ≤ _)⟩)
            dsimp only [Pt.U, Pt.locs, Pt.cells, Pt.slots] at X156 l156 y156 z156 st156 hQ156
            subst l156 y156 z156
            obtain ⟨rfl, N156q, K156q, O156, f156_0, f156_1⟩ := hQ156
            have N156 := Fr.app N145 N156q
            have CR157 := CR_145.trans (CHr.keep K156q (allS (Safe.exa hZ145.alike (((A119.keep K122q).keep K131).keep K145) (by decide) (by decide)) all0) CR_145.1)
            have K156 := KK145.trans K156q (allS (Or.inr sz_b119) all0)
            have sg158 : SG p.tables e below (T156.setTop (mkF m 210 #[It p1, It p2, It p3, It p4, It u1, It v11_t0, It (1 : Int32), It u14, It u16, Rf b18, Rf b25, Rf b114, Rf b119, It (1 : Int32), .unset, .unset, .unset] [])) (T145.setTop (mkF m 185 #[It p1, It p2, It p3, It p4, It u1, It v11_t0, It (1 : Int32), It u14, It u16, Rf b18, Rf b25, Rf b114, Rf b119, It (1 : Int32), .unset, .unset, .unset] [(.int (3 : Int32)), (.int u1)])) := by
              intro target kt
              show Steps _ _ _ (T145.setTop (mkF m 185 #[It p1, It p2, It p3, It p4, It u1, It v11_t0, It (1 : Int32), It u14, It u16, Rf b18, Rf b25, Rf b114, Rf b119, It (1 : Int32), .unset, .unset, .unset] [(.int (3 : Int32)), (.int u1)])) _
              refine XS.icmpNo X145.here hx rfl (hb hby at_185) rfl (flt hc154).1 ?_
              refine XS.iload X145.here hx rfl (hb hby at_188) rfl ?_
              refine XS.ifNo X145.here hx rfl (hb hby at_190) rfl ((if0 _ _).trans (feq (by decide : ¬ ((1 : Int32) = (0 : Int32)))).1) ?_
              refine XS.aload X145.here hx rfl (hb hby at_193) rfl rfl ?_
              refine st156.trans ?_
              refine XS.aload X156.here hx rfl (hb hby at_198) rfl rfl ?_
              refine Jvm.RoadKit.acmp (g := (mkF m 200 #[It p1, It p2, It p3, It p4, It u1, It v11_t0, It (1 : Int32), It u14, It u16, Rf b18, Rf b25, Rf b114, Rf b119, It (1 : Int32), .unset, .unset, .unset] [(.ref b119), (.ref b119)])) X156 hx rfl rfl rfl (pc0 := 200) (pc' := 203) (same := true) rfl (hb hby at_200) rfl (decide_eq_true rfl) (by decide) (by decide) ?_
              refine XS.iconst X156.here hx rfl (hb hby at_203) ?_
              refine XS.goto X156.here hx rfl (pc0 := 204) (pc' := 208) rfl (hb hby at_204) (by decide) (by decide) ?_
              refine XS.istore X156.here hx rfl (hb hby at_208) rfl (l' := #[It p1, It p2, It p3, It p4, It u1, It v11_t0, It (1 : Int32), It u14, It u16, Rf b18, Rf b25, Rf b114, Rf b119, It (1 : Int32), .unset, .unset, .unset]) rfl ?_
              exact kt
            exact ⟨T156, _, T156.heap, vm145, _, (dv145 + (1 : Int32)), X156.mono (by decide) (by decide), rfl, N156, O156, ((Keep.refl h145 [b119]).trans K156q (allS (Or.inl (List.mem_of_getElem? (i := 0) rfl)) all0)), K156, Y145, (Nat.le_trans Yk145 K156q.1), hZ145, hown145, CR157, ((CHr.refl CR_145.1).trans (CHr.keep K156q (allS (Safe.exa hZ145.alike (((A119.keep K122q).keep K131).keep K145) (by decide) (by decide)) all0) CR_145.1)), f156_0, f156_1, (if_neg hc154).symm, fun target kt => sg153 _ (sg158 _ (kt))⟩
        have Rn160 := (CQ159.safe Rn148.lt Rn146)
        have Rn161 := (CQ159.safe Rn149.lt Rn147)
        have Rn162 := (Rn148.keep K159 (ninS (Ne.symm (Nat.ne_of_lt (Nat.lt_of_lt_of_le A119.lt f122_10))) nin0))
        have Rn163 := (Rn149.keep K159)
        have Rn164 := (Rn150.keep K159 (ninS (Ne.symm (Nat.ne_of_lt (Nat.lt_of_lt_of_le A119.lt f122_8))) nin0))
        have Rn165 := (Rn151.keep K159 (ninS (Ne.symm (Nat.ne_of_lt (Nat.lt_of_lt_of_le A119.lt f122_8))) nin0))
        have Rn166 := (Rn152.keep K159 (ninS (Ne.symm (Nat.ne_of_lt (Nat.lt_of_lt_of_le A119.lt f122_8))) nin0))
        have sg167 : SG p.tables e below (T159.setTop (mkF m 214 #[It p1, It p2, It p3, It p4, It u1, It v11_t0, It (1 : Int32), It u14, It u16, Rf b18, Rf b25, Rf b114, Rf b119, It (1 : Int32), It u1, .unset, .unset] [])) (T159.setTop (mkF m 210 #[It p1, It p2, It p3, It p4, It u1, It v11_t0, It (1 : Int32), It u14, It u16, Rf b18, Rf b25, Rf b114, Rf b119, It (1 : Int32), .unset, .unset, .unset] [])) := by
          intro target kt
          show Steps _ _ _ (T159.setTop (mkF m 210 #[It p1, It p2, It p3, It p4, It u1, It v11_t0, It (1 : Int32), It u14, It u16, Rf b18, Rf b25, Rf b114, Rf b119, It (1 : Int32), .unset, .unset, .unset] [])) _
          refine XS.iload X159.here hx rfl (hb hby at_210) rfl ?_
          refine XS.istore X159.here hx rfl (hb hby at_212) rfl (l' := #[It p1, It p2, It p3, It p4, It u1, It v11_t0, It (1 : Int32), It u14, It u16, Rf b18, Rf b25, Rf b114, Rf b119, It (1 : Int32), It u1, .unset, .unset]) rfl ?_
          exact kt
        obtain ⟨T174, L174, v174_l14, h174, vm174, kk174, dv174, X174, e174, N174, hv174_l14, O174, K174, KK174, Y174, Yk174, hZ174, hown174, CR_174, CQ174, FD174, FT174, ed174, sg174⟩ : ∃ (T' : State) (L' : List Loc) (v174_l14 : Int32) (h' : Heap) (vm' : Vm) (k' : Nat) (dv174 : Int32), Stand p l e room_1 (s.setVm vm') m #[(.int p1), (.int p2), (.int p3), (.int p4)] below meth c T' L' 7 30 ∧ T'.heap = h' ∧ Fr n0 L' ∧ v174_l14 = (if v11_t0 = (0 : Int32) then u1 else (u1 - (1 : Int32))) ∧ Old Z n0 h' ∧ Keep h159 h' [b119] ∧ Keep h0 h' [] ∧ s.Since vm' k' ∧ k' ≤ h'.size ∧ Z.Warmed39 (s.setVm vm').vm ∧ (s.setVm vm').vm.findClass "com/example/tetrad/tetrad/generate/SourceTextIndentPinLaw" = some m.cls ∧ CHr Z own_EL s.vm h0 vm' h' ∧ CHr Z own_EL vm159 h159 vm' h' ∧ Fld Z h' b119 "com/example/tetrad/tetrad/generate/SourceText" "depth" "I" (.int dv174) ∧ Fld Z h' b119 "com/example/tetrad/tetrad/generate/SourceText" "text" "Ljava/lang/StringBuilder;" (.ref sb_122) ∧ dv174 = (if v11_t0 = (0 : Int32) then dv159 else (dv159 - (1 : Int32))) ∧ ∀ target, Steps p.tables e below (T'.setTop (mkF m 231 #[It p1, It p2, It p3, It p4, It u1, It v11_t0, It (1 : Int32), It u14, It u16, Rf b18, Rf b25, Rf b114, Rf b119, It (1 : Int32), It v174_l14, .unset, .unset] [])) target → Steps p.tables e below (T159.setTop (mkF m 214 #[It p1, It p2, It p3, It p4, It u1, It v11_t0, It (1 : Int32), It u14, It u16, Rf b18, Rf b25, Rf b114, Rf b119, It (1 : Int32), It u1, .unset, .unset] [])) target := by
          have sg168 : SG p.tables e below (T159.setTop (mkF m 216 #[It p1, It p2, It p3, It p4, It u1, It v11_t0, It (1 : Int32), It u14, It u16, Rf b18, Rf b25, Rf b114, Rf b119, It (1 : Int32), It u1, .unset, .unset] [(.int v11_t0)])) (T159.setTop (mkF m 214 #[It p1, It p2, It p3, It p4, It u1, It v11_t0, It (1 : Int32), It u14, It u16, Rf b18, Rf b25, Rf b114, Rf b119, It (1 : Int32), It u1, .unset, .unset] [])) := by
            intro target kt
            show Steps _ _ _ (T159.setTop (mkF m 214 #[It p1, It p2, It p3, It p4, It u1, It v11_t0, It (1 : Int32), It u14, It u16, Rf b18, Rf b25, Rf b114, Rf b119, It (1 : Int32), It u1, .unset, .unset] [])) _
            refine XS.iload X159.here hx rfl (hb hby at_214) rfl ?_
            exact kt
          by_cases hc169 : v11_t0 = (0 : Int32)
          · have sg170 : SG p.tables e below (T159.setTop (mkF m 231 #[It p1, It p2, It p3, It p4, It u1, It v11_t0, It (1 : Int32), It u14, It u16, Rf b18, Rf b25, Rf b114, Rf b119, It (1 : Int32), It u1, .unset, .unset] [])) (T159.setTop (mkF m 216 #[It p1, It p2, It p3, It p4, It u1, It v11_t0, It (1 : Int32), It u14, It u16, Rf b18, Rf b25, Rf b114, Rf b119, It (1 : Int32), It u1, .unset, .unset] [(.int v11_t0)])) := by
              intro target kt
              show Steps _ _ _ (T159.setTop (mkF m 216 #[It p1, It p2, It p3, It p4, It u1, It v11_t0, It (1 : Int32), It u14, It u16, Rf b18, Rf b25, Rf b114, Rf b119, It (1 : Int32), It u1, .unset, .unset] [(.int v11_t0)])) _
              refine XS.ifYes X159.here hx rfl (pc0 := 216) (pc' := 231) rfl (hb hby at_216) rfl ((if0 _ _).trans (teq hc169).1) (by decide) (by decide) ?_
              exact kt
            exact ⟨T159, _, u1, h159, vm159, _, dv159, X159.mono (by decide) (by decide), e159, N159, (by rw [if_pos hc169]), O159, (Keep.refl h159 [b119]), KK159, Y159, Yk159, hZ159, hown159, CR_159, (CHr.refl CR_159.1), FD159, FT159, (if_pos hc169).symm, fun target kt => sg168 _ (sg170 _ (kt))⟩
          · obtain ⟨cq171, kq171, q171a, q171b, q171c⟩ := isOf hZ159 e159 ((((A119.keep K122q).keep K131).keep K145).keep K159)
            obtain ⟨_, _, ⟨T171, L171, k171, n171⟩, -, X171, ⟨Lc171, hQ171, l171, y171, z171⟩, st171⟩ := X159.virtualBack hx (y := m_13) (z := m_13) hown159 (mvT hZ159 (tw hw 221 rfl)) (mvT hZ159 (tw hw 222 rfl)) (notFace_of_selects (args := #[]) (mvT hZ159 (tw hw 224 rfl))) (mvT hZ159 (tw hw 224 rfl)) (mvT hZ159 (tw hw 223 rfl)) (by decide) (backOf (W := 0) (rm43 l Z a0 hw [] b119 dv159 sb_122 h159 n0 O159 ((((A119.keep K122q).keep K131).keep K145).keep K159) FD159 FT159 ge_b119) hZ159 (tw hw 225 rfl) (tw hw 32 rfl) (by decide) (by decide)) q171a q171c (g := (mkF m 221 #[It p1, It p2, It p3, It p4, It u1, It v11_t0, It (1 : Int32), It u14, It u16, Rf b18, Rf b25, Rf b114, Rf b119, It (1 : Int32), It u1, .unset, .unset] [(.ref b119)])) rfl (by rw [hml]; rfl) (Steps.refl _) (argsL := []) (rest := []) (lenOf pd_26 rfl) rfl (w0 rfl) (hb hby at_221) (fun _ _ => ⟨rfl, e159, (by decide : 7 + 0 ≤ _), (by decide : 30 + 0 ≤ _)⟩)
            dsimp only [Pt.U, Pt.locs, Pt.cells, Pt.slots] at X171 l171 y171 z171 st171 hQ171
            subst l171 y171 z171
            obtain ⟨rfl, N171q, K171q, O171, f171_0, f171_1⟩ := hQ171
            have N171 := Fr.app N159 N171q
            have CR172 := CR_159.trans (CHr.keep K171q (allS (Safe.exa hZ159.alike ((((A119.keep K122q).keep K131).keep K145).keep K159) (by decide) (by decide)) all0) CR_159.1)
            have K171 := KK159.trans K171q (allS (Or.inr sz_b119) all0)
            have sg173 : SG p.tables e below (T171.setTop (mkF m 231 #[It p1, It p2, It p3, It p4, It u1, It v11_t0, It (1 : Int32), It u14, It u16, Rf b18, Rf b25, Rf b114, Rf b119, It (1 : Int32), .val (.int (u1 - (1 : Int32))), .unset, .unset] [])) (T159.setTop (mkF m 216 #[It p1, It p2, It p3, It p4, It u1, It v11_t0, It (1 : Int32), It u14, It u16, Rf b18, Rf b25, Rf b114, Rf b119, It (1 : Int32), It u1, .unset, .unset] [(.int v11_t0)])) := by
              intro target kt
              show Steps _ _ _ (T159.setTop (mkF m 216 #[It p1, It p2, It p3, It p4, It u1, It v11_t0, It (1 : Int32), It u14, It u16, Rf b18, Rf b25, Rf b114, Rf b119, It (1 : Int32), It u1, .unset, .unset] [(.int v11_t0)])) _
              refine XS.ifNo X159.here hx rfl (hb hby at_216) rfl ((if0 _ _).trans (feq hc169).1) ?_
              refine XS.aload X159.here hx rfl (hb hby at_219) rfl rfl ?_
              refine st171.trans ?_
              refine XS.pop X171.here hx rfl (hb hby at_224) rfl rfl ?_
              refine XS.iload X171.here hx rfl (hb hby at_225) rfl ?_
              refine XS.iconst X171.here hx rfl (hb hby at_227) ?_
              refine XS.isub X171.here hx rfl (hb hby at_228) rfl ?_
              refine XS.istore X171.here hx rfl (hb hby at_229) rfl (l' := #[It p1, It p2, It p3, It p4, It u1, It v11_t0, It (1 : Int32), It u14, It u16, Rf b18, Rf b25, Rf b114, Rf b119, It (1 : Int32), .val (.int (u1 - (1 : Int32))), .unset, .unset]) rfl ?_
              exact kt
            exact ⟨T171, _, (u1 - (1 : Int32)), T171.heap, vm159, _, (dv159 - (1 : Int32)), X171.mono (by decide) (by decide), rfl, N171, (by rw [if_neg hc169]), O171, ((Keep.refl h159 [b119]).trans K171q (allS (Or.inl (List.mem_of_getElem? (i := 0) rfl)) all0)), K171, Y159, (Nat.le_trans Yk159 K171q.1), hZ159, hown159, CR172, ((CHr.refl CR_159.1).trans (CHr.keep K171q (allS (Safe.exa hZ159.alike ((((A119.keep K122q).keep K131).keep K145).keep K159) (by decide) (by decide)) all0) CR_159.1)), f171_0, f171_1, (if_neg hc169).symm, fun target kt => sg168 _ (sg173 _ (kt))⟩
        have Rn175 := (CQ174.safe Rn162.lt Rn160)
        have Rn176 := (CQ174.safe Rn163.lt Rn161)
        have Rn177 := (Rn162.keep K174 (ninS (Ne.symm (Nat.ne_of_lt (Nat.lt_of_lt_of_le A119.lt f122_10))) nin0))
        have Rn178 := (Rn163.keep K174)
        have Rn179 := (Rn164.keep K174 (ninS (Ne.symm (Nat.ne_of_lt (Nat.lt_of_lt_of_le A119.lt f122_8))) nin0))
        have Rn180 := (Rn165.keep K174 (ninS (Ne.symm (Nat.ne_of_lt (Nat.lt_of_lt_of_le A119.lt f122_8))) nin0))
        have Rn181 := (Rn166.keep K174 (ninS (Ne.symm (Nat.ne_of_lt (Nat.lt_of_lt_of_le A119.lt f122_8))) nin0))
        have hdep : dv174 = v174_l14 := own_dep hu1 hv174_l14 ed131 ed145 ed159 ed174
        have FDz := own_fi hdep FD174
        have hdr := own_dr hu1 hv11_t0 hv174_l14
        have sg182 : SG p.tables e below (T174.setTop (mkF m 235 #[It p1, It p2, It p3, It p4, It u1, It v11_t0, It (1 : Int32), It u14, It u16, Rf b18, Rf b25, Rf b114, Rf b119, It (1 : Int32), It v174_l14, .unset, .unset] [(.ref b114), (.ref b119)])) (T174.setTop (mkF m 231 #[It p1, It p2, It p3, It p4, It u1, It v11_t0, It (1 : Int32), It u14, It u16, Rf b18, Rf b25, Rf b114, Rf b119, It (1 : Int32), It v174_l14, .unset, .unset] [])) := by
          intro target kt
          show Steps _ _ _ (T174.setTop (mkF m 231 #[It p1, It p2, It p3, It p4, It u1, It v11_t0, It (1 : Int32), It u14, It u16, Rf b18, Rf b25, Rf b114, Rf b119, It (1 : Int32), It v174_l14, .unset, .unset] [])) _
          refine XS.aload X174.here hx rfl (hb hby at_231) rfl rfl ?_
          refine XS.aload X174.here hx rfl (hb hby at_233) rfl rfl ?_
          exact kt
        by_cases hc183 : v174_l14 = (0 : Int32)
        · subst hc183
          have VL184 : Arv Z h174 t117 kb117 .byte (1 : Int32) [.int (StrChars.lo8 (nar .char u14))] (.int (0 : Int32)) := ((((((V117.ext E119).keep K122q (ninS (Nat.ne_of_lt (Nat.lt_of_lt_of_le V117.lt (Nat.le_of_eq g119.symm))) nin0)).keep K131 (ninS (Nat.ne_of_lt (Nat.lt_of_lt_of_le V117.lt (Nat.le_of_eq g119.symm))) nin0)).keep K145 (ninS (Nat.ne_of_lt (Nat.lt_of_lt_of_le V117.lt (Nat.le_of_eq g119.symm))) nin0)).keep K159 (ninS (Nat.ne_of_lt (Nat.lt_of_lt_of_le V117.lt (Nat.le_of_eq g119.symm))) nin0)).keep K174 (ninS (Nat.ne_of_lt (Nat.lt_of_lt_of_le V117.lt (Nat.le_of_eq g119.symm))) nin0))
          obtain ⟨cq185, kq185, q185a, q185b, q185c⟩ := isOf hZ174 e174 (((((A119.keep K122q).keep K131).keep K145).keep K159).keep K174)
          obtain ⟨_, _, ⟨T185, L185, k185, n185⟩, -, X185, Y185, G185, ⟨Lc185, hQ185, l185, y185, z185, C185⟩, st185⟩ := X174.virtualBackS hx (y := m_33) (z := m_33) hown174 (mvT hZ174 (tw hw 57 rfl)) (mvT hZ174 (tw hw 58 rfl)) (notFace_of_selects (args := #[]) (mvT hZ174 (tw hw 60 rfl))) (mvT hZ174 (tw hw 60 rfl)) (mvT hZ174 (tw hw 59 rfl)) (by decide) (own_backSH (W := 0) (rm10_01 l Z a0 hw [] b119 b114 sb_122 ro_122 t117 ([.int (StrChars.lo8 (nar .char u14))]) zC ko_122 kb117 h174 n0 O174 sC (((((A119.keep K122q).keep K131).keep K145).keep K159).keep K174) FT174 FDz Rn178 Rn181 Rn179 Rn180 Rn177 ((((((A117.ext E119).keep K122q).keep K131).keep K145).keep K159).keep K174) ((((((Fc117.ext E119).keep K122q (ninS (Nat.ne_of_lt (Nat.lt_of_lt_of_le A117.lt (Nat.le_of_eq g119.symm))) nin0)).keep K131 (ninS (Nat.ne_of_lt (Nat.lt_of_lt_of_le A117.lt (Nat.le_of_eq g119.symm))) nin0)).keep K145 (ninS (Nat.ne_of_lt (Nat.lt_of_lt_of_le A117.lt (Nat.le_of_eq g119.symm))) nin0)).keep K159 (ninS (Nat.ne_of_lt (Nat.lt_of_lt_of_le A117.lt (Nat.le_of_eq g119.symm))) nin0)).keep K174 (ninS (Nat.ne_of_lt (Nat.lt_of_lt_of_le A117.lt (Nat.le_of_eq g119.symm))) nin0)) ((((((Fv117.ext E119).keep K122q (ninS (Nat.ne_of_lt (Nat.lt_of_lt_of_le A117.lt (Nat.le_of_eq g119.symm))) nin0)).keep K131 (ninS (Nat.ne_of_lt (Nat.lt_of_lt_of_le A117.lt (Nat.le_of_eq g119.symm))) nin0)).keep K145 (ninS (Nat.ne_of_lt (Nat.lt_of_lt_of_le A117.lt (Nat.le_of_eq g119.symm))) nin0)).keep K159 (ninS (Nat.ne_of_lt (Nat.lt_of_lt_of_le A117.lt (Nat.le_of_eq g119.symm))) nin0)).keep K174 (ninS (Nat.ne_of_lt (Nat.lt_of_lt_of_le A117.lt (Nat.le_of_eq g119.symm))) nin0)) VL184 f122_7 f122_9 (Nat.ne_of_lt (Nat.lt_of_lt_of_le (V117.ext E119).lt f122_10)) hCS) hZ174 (tw hw 61 rfl) (tw hw 32 rfl) (by decide) (by decide) hEL CR_174.1 Rn177.lt Rn175) q185a q185c (g := (mkF m 235 #[It p1, It p2, It p3, It p4, It u1, It v11_t0, It (1 : Int32), It u14, It u16, Rf b18, Rf b25, Rf b114, Rf b119, It (1 : Int32), It (0 : Int32), .unset, .unset] [(.ref b114), (.ref b119)])) rfl (by rw [hml]; rfl) (Steps.refl _) (argsL := [(.ref b114)]) (rest := []) (lenOf pd_27 rfl) rfl (w0 rfl) (hb hby at_235) (fun _ _ => ⟨rfl, e174, (by decide : 7 + 4 ≤ _), (by decide : 30 + 24 ≤ _)⟩)
          dsimp only [Pt.U, Pt.locs, Pt.cells, Pt.slots] at X185 l185 y185 z185 st185 hQ185 Y185 G185 C185
          subst l185 y185 z185
          obtain ⟨rfl, N185q, K185q, O185, f185_0, f185_1, f185_2, f185_3⟩ := hQ185
          have N185 := Fr.app N174 N185q
          obtain ⟨X185, Y185, hZ185, hown185⟩ := rebS Y174 (by rw [e174]; exact Yk174) X185 Y185 G185 hZ174 hown174
          have CR186 := CR_174.trans (C185)
          have Sf185_sb_122 := (C185.safe Rn178.lt Rn176)
          have Sf185_ro_122 := (C185.safe Rn177.lt Rn175)
          have K185 := KK174.trans K185q (allS (Or.inr (Nat.le_trans K119.1 f122_8)) (allS (Or.inr (Nat.le_trans K119.1 f122_10)) all0))
          obtain ⟨cq187, kq187, q187a, q187b, q187c⟩ := isOf hZ185 rfl ((((((A119.keep K122q).keep K131).keep K145).keep K159).keep K174).keep K185q)
          obtain ⟨_, _, ⟨T187, L187, k187, n187⟩, -, X187, ⟨Lc187, hQ187, l187, y187, z187⟩, st187⟩ := X185.virtualBack hx (y := m_29) (z := m_29) hown185 (mvT hZ185 (tw hw 143 rfl)) (mvT hZ185 (tw hw 144 rfl)) (notFace_of_selects (args := #[]) (mvT hZ185 (tw hw 146 rfl))) (mvT hZ185 (tw hw 146 rfl)) (mvT hZ185 (tw hw 145 rfl)) (by decide) (backOf (W := 0) (rm25 l Z a0 hw [] b119 ro_122 (2 : Int32) 2 ((cpy (cpy z16 0 ([] : List Value) 0 0) 0 [.int (StrChars.lo8 (nar .char u14))] 0 1).set 1 (.int ((10 : Int32).toInt8.toInt32.toInt8.toInt32))) sb_122 zC ko_122 T185.heap n0 O185 hCS sC (FT174.keep K185q (ninS (Nat.ne_of_lt (Nat.lt_of_lt_of_le A119.lt f122_8)) (ninS (Nat.ne_of_lt (Nat.lt_of_lt_of_le A119.lt f122_10)) nin0))) (Rn178.keep K185q) f185_0 f185_1 f185_2 f185_3 (Sm.lit (x := (2 : Int32)) (n := 2) (by decide)) (by decide)) hZ185 (tw hw 147 rfl) (tw hw 32 rfl) (by decide) (by decide)) q187a q187c (g := (mkF m 241 #[It p1, It p2, It p3, It p4, It u1, It v11_t0, It (1 : Int32), It u14, It u16, Rf b18, Rf b25, Rf b114, Rf b119, It (1 : Int32), It (0 : Int32), .unset, .unset] [(.ref b119)])) rfl (by rw [hml]; rfl) (Steps.refl _) (argsL := []) (rest := []) (lenOf pd_17 rfl) rfl (w0 rfl) (hb hby at_241) (fun _ _ => ⟨rfl, rfl, (by decide : 11 + 2 ≤ _), (by decide : 54 + 20 ≤ _)⟩)
          dsimp only [Pt.U, Pt.locs, Pt.cells, Pt.slots] at X187 l187 y187 z187 st187 hQ187
          subst l187 y187 z187
          obtain ⟨rs_187, ro_187, ko_187, rfl, N187q, K187q, O187, f187_0, f187_1, f187_2, f187_3, f187_4, f187_5, f187_6, f187_7⟩ := hQ187
          have N187 := Fr.app N185 N187q
          have CR188 := CR186.trans (CHr.keep K187q all0 CR186.1)
          have K187 := K185.trans K187q all0
          have VO187 : Arv Z T187.heap ro_187 ko_187 .byte (2 : Int32) [.int (StrChars.lo8 (nar .char u14)), .int (10 : Int32), .int (0 : Int32), .int (0 : Int32), .int (0 : Int32), .int (0 : Int32), .int (0 : Int32), .int (0 : Int32), .int (0 : Int32), .int (0 : Int32), .int (0 : Int32), .int (0 : Int32), .int (0 : Int32), .int (0 : Int32), .int (0 : Int32), .int (0 : Int32)] (.int (0 : Int32)) := f187_5
          obtain ⟨u189, hu189⟩ : ∃ z, z = ((4 : Int32) * (0 : Int32)) := ⟨_, rfl⟩
          have sg190 : SG p.tables e below (T187.setTop (mkF m 266 #[It p1, It p2, It p3, It p4, It u1, It v11_t0, It (1 : Int32), It u14, It u16, Rf b18, Rf b25, Rf b114, Rf b119, It (1 : Int32), It (0 : Int32), Rf rs_187, .unset] [(.int u189)])) (T174.setTop (mkF m 235 #[It p1, It p2, It p3, It p4, It u1, It v11_t0, It (1 : Int32), It u14, It u16, Rf b18, Rf b25, Rf b114, Rf b119, It (1 : Int32), It (0 : Int32), .unset, .unset] [(.ref b114), (.ref b119)])) := by
            intro target kt
            subst hu189
            show Steps _ _ _ (T174.setTop (mkF m 235 #[It p1, It p2, It p3, It p4, It u1, It v11_t0, It (1 : Int32), It u14, It u16, Rf b18, Rf b25, Rf b114, Rf b119, It (1 : Int32), It (0 : Int32), .unset, .unset] [(.ref b114), (.ref b119)])) _
            refine st185.trans ?_
            refine XS.pop X185.here hx rfl (hb hby at_238) rfl rfl ?_
            refine XS.aload X185.here hx rfl (hb hby at_239) rfl rfl ?_
            refine st187.trans ?_
            refine XS.astore X187.here hx rfl (hb hby at_244) rfl rfl (l' := #[It p1, It p2, It p3, It p4, It u1, It v11_t0, It (1 : Int32), It u14, It u16, Rf b18, Rf b25, Rf b114, Rf b119, It (1 : Int32), It (0 : Int32), Rf rs_187, .unset]) rfl ?_
            refine XS.iload X187.here hx rfl (hb hby at_246) rfl ?_
            refine XS.ifYes X187.here hx rfl (pc0 := 248) (pc' := 253) rfl (hb hby at_248) rfl ((if0 _ _).trans (feq (by decide : ¬ ((1 : Int32) = (0 : Int32)))).2) (by decide) (by decide) ?_
            refine XS.iload X187.here hx rfl (hb hby at_253) rfl ?_
            refine XS.ifYes X187.here hx rfl (pc0 := 255) (pc' := 262) rfl (hb hby at_255) rfl ((if0 _ _).trans (feq (by decide : ¬ ((1 : Int32) = (0 : Int32)))).2) (by decide) (by decide) ?_
            refine XS.iconst X187.here hx rfl (hb hby at_262) ?_
            refine XS.iload X187.here hx rfl (hb hby at_263) rfl ?_
            refine XS.imul X187.here hx rfl (hb hby at_265) rfl ?_
            exact kt
          have hk_u189 : u189 = (0 : Int32) := hu189.trans (by decide)
          subst hk_u189
          obtain ⟨cq191, kq191, q191a, q191b, q191c⟩ := isOf hZ185 rfl f187_0
          obtain ⟨_, _, ⟨T191, L191, k191, n191⟩, -, X191, ⟨Lc191, hQ191, l191, y191, z191⟩, st191⟩ := X187.virtualBack hx (y := m_2) (z := m_2) hown185 (mvT hZ185 (tw hw 189 rfl)) (mvT hZ185 (tw hw 89 rfl)) (notFace_of_selects (args := #[]) (mvT hZ185 (tw hw 91 rfl))) (mvT hZ185 (tw hw 91 rfl)) (mvT hZ185 (tw hw 90 rfl)) (by decide) (backOf (W := 0) (rm15 l Z a0 hw [] rs_187 ro_187 (2 : Int32) ([.int (StrChars.lo8 (nar .char u14)), .int (10 : Int32), .int (0 : Int32), .int (0 : Int32), .int (0 : Int32), .int (0 : Int32), .int (0 : Int32), .int (0 : Int32), .int (0 : Int32), .int (0 : Int32), .int (0 : Int32), .int (0 : Int32), .int (0 : Int32), .int (0 : Int32), .int (0 : Int32), .int (0 : Int32)]) zC ko_187 T187.heap n0 O187 hCS sC f187_0 f187_3 f187_4 VO187) hZ185 (tw hw 92 rfl) (tw hw 3 rfl) (by decide) (by decide)) q191a q191c (g := (mkF m 270 #[It p1, It p2, It p3, It p4, It u1, It v11_t0, It (1 : Int32), It u14, It u16, Rf b18, Rf b25, Rf b114, Rf b119, It (1 : Int32), It (0 : Int32), Rf rs_187, It (0 : Int32)] [(.ref rs_187)])) rfl (by rw [hml]; rfl) (Steps.refl _) (argsL := []) (rest := []) (lenOf pd_1 rfl) rfl (w0 rfl) (hb hby at_270) (fun _ _ => ⟨rfl, rfl, (by decide : 13 + 0 ≤ _), (by decide : 74 + 0 ≤ _)⟩)
          dsimp only [Pt.U, Pt.locs, Pt.cells, Pt.slots] at X191 l191 y191 z191 st191 hQ191
          subst l191 y191 z191
          obtain ⟨rfl, N191q, e191⟩ := hQ191
          have N191 := Fr.app N187 N191q
          have sg192 : SG p.tables e below (T191.setTop (mkF m 285 #[It p1, It p2, It p3, It p4, It u1, It v11_t0, It (1 : Int32), It u14, It u16, Rf b18, Rf b25, Rf b114, Rf b119, It (1 : Int32), It (0 : Int32), Rf rs_187, It (0 : Int32)] [])) (T187.setTop (mkF m 266 #[It p1, It p2, It p3, It p4, It u1, It v11_t0, It (1 : Int32), It u14, It u16, Rf b18, Rf b25, Rf b114, Rf b119, It (1 : Int32), It (0 : Int32), Rf rs_187, .unset] [(.int (0 : Int32))])) := by
            intro target kt
            show Steps _ _ _ (T187.setTop (mkF m 266 #[It p1, It p2, It p3, It p4, It u1, It v11_t0, It (1 : Int32), It u14, It u16, Rf b18, Rf b25, Rf b114, Rf b119, It (1 : Int32), It (0 : Int32), Rf rs_187, .unset] [(.int (0 : Int32))])) _
            refine XS.istore X187.here hx rfl (hb hby at_266) rfl (l' := #[It p1, It p2, It p3, It p4, It u1, It v11_t0, It (1 : Int32), It u14, It u16, Rf b18, Rf b25, Rf b114, Rf b119, It (1 : Int32), It (0 : Int32), Rf rs_187, It (0 : Int32)]) rfl ?_
            refine XS.aload X187.here hx rfl (hb hby at_268) rfl rfl ?_
            refine st191.trans ?_
            refine XS.iload X191.here hx rfl (hb hby at_273) rfl ?_
            refine XS.iload X191.here hx rfl (hb hby at_275) rfl ?_
            refine XS.iadd X191.here hx rfl (hb hby at_277) rfl ?_
            refine XS.iconst X191.here hx rfl (hb hby at_278) ?_
            refine XS.iadd X191.here hx rfl (hb hby at_279) rfl ?_
            refine XS.icmpYes X191.here hx rfl (pc0 := 280) (pc' := 285) rfl (hb hby at_280) rfl (teq (by decide : (2 : Int32) = (((0 : Int32) + (1 : Int32)) + (1 : Int32)))).1 (by decide) (by decide) ?_
            exact kt
          exact ⟨T191, _, (1 : Int32), b114, b119, (0 : Int32), rs_187, (0 : Int32), T187.heap, T185.vm, _, ro_187, ko_187, (2 : Int32), [.int (StrChars.lo8 (nar .char u14)), .int (10 : Int32), .int (0 : Int32), .int (0 : Int32), .int (0 : Int32), .int (0 : Int32), .int (0 : Int32), .int (0 : Int32), .int (0 : Int32), .int (0 : Int32), .int (0 : Int32), .int (0 : Int32), .int (0 : Int32), .int (0 : Int32), .int (0 : Int32), .int (0 : Int32)], X191.mono (by decide) (by decide), e191, N191, O187, (((((((((((Keep.refl h33 []).ext E114).trans K117q (allS (Or.inr (Nat.le_trans (Nat.le_refl _) (Nat.le_of_eq g114.symm))) all0)).ext E119).trans K122q (allS (Or.inr (Nat.le_trans (Nat.le_trans (Nat.le_trans (Nat.le_refl _) E114.1) K117q.1) (Nat.le_of_eq g119.symm))) all0)).trans K131 (allS (Or.inr (Nat.le_trans (Nat.le_trans (Nat.le_trans (Nat.le_refl _) E114.1) K117q.1) (Nat.le_of_eq g119.symm))) all0)).trans K145 (allS (Or.inr (Nat.le_trans (Nat.le_trans (Nat.le_trans (Nat.le_refl _) E114.1) K117q.1) (Nat.le_of_eq g119.symm))) all0)).trans K159 (allS (Or.inr (Nat.le_trans (Nat.le_trans (Nat.le_trans (Nat.le_refl _) E114.1) K117q.1) (Nat.le_of_eq g119.symm))) all0)).trans K174 (allS (Or.inr (Nat.le_trans (Nat.le_trans (Nat.le_trans (Nat.le_refl _) E114.1) K117q.1) (Nat.le_of_eq g119.symm))) all0)).trans K185q (allS (Or.inr (Nat.le_trans (Nat.le_trans (Nat.le_trans (Nat.le_trans (Nat.le_refl _) E114.1) K117q.1) E119.1) f122_8)) (allS (Or.inr (Nat.le_trans (Nat.le_trans (Nat.le_trans (Nat.le_trans (Nat.le_refl _) E114.1) K117q.1) E119.1) f122_10)) all0))).trans K187q all0), K187, Y185, (Nat.le_trans (Nat.le_refl _) K187q.1), hZ185, hown185, CR188, (((((((((((CHr.refl CR35.1).trans (CHr.ext E114 CR35.1)).trans (CHr.keep K117q (allS (Safe.ext E114 CR35.1 (Safe.new (Nat.le_of_eq g114.symm))) all0) CR116.1)).trans (CHr.ext E119 CR118.1)).trans (CHr.keep K122q (allS (Safe.exa hZ.alike A119 (by decide) (by decide)) all0) CR121.1)).trans (CQ131)).trans (CQ145)).trans (CQ159)).trans (CQ174)).trans (C185)).trans (CHr.keep K187q all0 CR186.1)), f187_0, f187_3, f187_4, VO187, own_at01 rg_u14 rg_u16, fun target kt => sg124 _ (sg131 _ (sg145 _ (sg159 _ (sg167 _ (sg174 _ (sg182 _ (sg190 _ (sg192 _ (kt)))))))))⟩
        · by_cases hc193 : v174_l14 = (1 : Int32)
          · subst hc193
            have VL194 : Arv Z h174 t117 kb117 .byte (1 : Int32) [.int (StrChars.lo8 (nar .char u14))] (.int (0 : Int32)) := ((((((V117.ext E119).keep K122q (ninS (Nat.ne_of_lt (Nat.lt_of_lt_of_le V117.lt (Nat.le_of_eq g119.symm))) nin0)).keep K131 (ninS (Nat.ne_of_lt (Nat.lt_of_lt_of_le V117.lt (Nat.le_of_eq g119.symm))) nin0)).keep K145 (ninS (Nat.ne_of_lt (Nat.lt_of_lt_of_le V117.lt (Nat.le_of_eq g119.symm))) nin0)).keep K159 (ninS (Nat.ne_of_lt (Nat.lt_of_lt_of_le V117.lt (Nat.le_of_eq g119.symm))) nin0)).keep K174 (ninS (Nat.ne_of_lt (Nat.lt_of_lt_of_le V117.lt (Nat.le_of_eq g119.symm))) nin0))
            obtain ⟨cq195, kq195, q195a, q195b, q195c⟩ := isOf hZ174 e174 (((((A119.keep K122q).keep K131).keep K145).keep K159).keep K174)
            obtain ⟨_, _, ⟨T195, L195, k195, n195⟩, -, X195, Y195, G195, ⟨Lc195, hQ195, l195, y195, z195, C195⟩, st195⟩ := X174.virtualBackS hx (y := m_33) (z := m_33) hown174 (mvT hZ174 (tw hw 57 rfl)) (mvT hZ174 (tw hw 58 rfl)) (notFace_of_selects (args := #[]) (mvT hZ174 (tw hw 60 rfl))) (mvT hZ174 (tw hw 60 rfl)) (mvT hZ174 (tw hw 59 rfl)) (by decide) (own_backSH (W := 0) (rm10_11 l Z a0 hw [] b119 b114 sb_122 ro_122 t117 ([.int (StrChars.lo8 (nar .char u14))]) zC ko_122 kb117 h174 n0 O174 sC (((((A119.keep K122q).keep K131).keep K145).keep K159).keep K174) FT174 FDz Rn178 Rn181 Rn179 Rn180 Rn177 ((((((A117.ext E119).keep K122q).keep K131).keep K145).keep K159).keep K174) ((((((Fc117.ext E119).keep K122q (ninS (Nat.ne_of_lt (Nat.lt_of_lt_of_le A117.lt (Nat.le_of_eq g119.symm))) nin0)).keep K131 (ninS (Nat.ne_of_lt (Nat.lt_of_lt_of_le A117.lt (Nat.le_of_eq g119.symm))) nin0)).keep K145 (ninS (Nat.ne_of_lt (Nat.lt_of_lt_of_le A117.lt (Nat.le_of_eq g119.symm))) nin0)).keep K159 (ninS (Nat.ne_of_lt (Nat.lt_of_lt_of_le A117.lt (Nat.le_of_eq g119.symm))) nin0)).keep K174 (ninS (Nat.ne_of_lt (Nat.lt_of_lt_of_le A117.lt (Nat.le_of_eq g119.symm))) nin0)) ((((((Fv117.ext E119).keep K122q (ninS (Nat.ne_of_lt (Nat.lt_of_lt_of_le A117.lt (Nat.le_of_eq g119.symm))) nin0)).keep K131 (ninS (Nat.ne_of_lt (Nat.lt_of_lt_of_le A117.lt (Nat.le_of_eq g119.symm))) nin0)).keep K145 (ninS (Nat.ne_of_lt (Nat.lt_of_lt_of_le A117.lt (Nat.le_of_eq g119.symm))) nin0)).keep K159 (ninS (Nat.ne_of_lt (Nat.lt_of_lt_of_le A117.lt (Nat.le_of_eq g119.symm))) nin0)).keep K174 (ninS (Nat.ne_of_lt (Nat.lt_of_lt_of_le A117.lt (Nat.le_of_eq g119.symm))) nin0)) VL194 f122_7 f122_9 (Nat.ne_of_lt (Nat.lt_of_lt_of_le (V117.ext E119).lt f122_10)) hCS) hZ174 (tw hw 61 rfl) (tw hw 32 rfl) (by decide) (by decide) hEL CR_174.1 Rn177.lt Rn175) q195a q195c (g := (mkF m 235 #[It p1, It p2, It p3, It p4, It u1, It v11_t0, It (1 : Int32), It u14, It u16, Rf b18, Rf b25, Rf b114, Rf b119, It (1 : Int32), It (1 : Int32), .unset, .unset] [(.ref b114), (.ref b119)])) rfl (by rw [hml]; rfl) (Steps.refl _) (argsL := [(.ref b114)]) (rest := []) (lenOf pd_27 rfl) rfl (w0 rfl) (hb hby at_235) (fun _ _ => ⟨rfl, e174, (by decide : 7 + 2 ≤ _), (by decide : 30 + 20 ≤ _)⟩)
            dsimp only [Pt.U, Pt.locs, Pt.cells, Pt.slots] at X195 l195 y195 z195 st195 hQ195 Y195 G195 C195
            subst l195 y195 z195
            obtain ⟨rfl, N195q, K195q, O195, f195_0, f195_1, f195_2, f195_3⟩ := hQ195
            have N195 := Fr.app N174 N195q
            obtain ⟨X195, Y195, hZ195, hown195⟩ := rebS Y174 (by rw [e174]; exact Yk174) X195 Y195 G195 hZ174 hown174
            have CR196 := CR_174.trans (C195)
            have Sf195_sb_122 := (C195.safe Rn178.lt Rn176)
            have Sf195_ro_122 := (C195.safe Rn177.lt Rn175)
            have K195 := KK174.trans K195q (allS (Or.inr (Nat.le_trans K119.1 f122_8)) (allS (Or.inr (Nat.le_trans K119.1 f122_10)) all0))
            obtain ⟨cq197, kq197, q197a, q197b, q197c⟩ := isOf hZ195 rfl ((((((A119.keep K122q).keep K131).keep K145).keep K159).keep K174).keep K195q)
            obtain ⟨_, _, ⟨T197, L197, k197, n197⟩, -, X197, ⟨Lc197, hQ197, l197, y197, z197⟩, st197⟩ := X195.virtualBack hx (y := m_29) (z := m_29) hown195 (mvT hZ195 (tw hw 143 rfl)) (mvT hZ195 (tw hw 144 rfl)) (notFace_of_selects (args := #[]) (mvT hZ195 (tw hw 146 rfl))) (mvT hZ195 (tw hw 146 rfl)) (mvT hZ195 (tw hw 145 rfl)) (by decide) (backOf (W := 0) (rm25 l Z a0 hw [] b119 ro_122 (6 : Int32) 6 ((cpy (cpy z16 0 s4 0 4) 4 [.int (StrChars.lo8 (nar .char u14))] 0 1).set 5 (.int ((10 : Int32).toInt8.toInt32.toInt8.toInt32))) sb_122 zC ko_122 T195.heap n0 O195 hCS sC (FT174.keep K195q (ninS (Nat.ne_of_lt (Nat.lt_of_lt_of_le A119.lt f122_8)) (ninS (Nat.ne_of_lt (Nat.lt_of_lt_of_le A119.lt f122_10)) nin0))) (Rn178.keep K195q) f195_0 f195_1 f195_2 f195_3 (Sm.lit (x := (6 : Int32)) (n := 6) (by decide)) (by decide)) hZ195 (tw hw 147 rfl) (tw hw 32 rfl) (by decide) (by decide)) q197a q197c (g := (mkF m 241 #[It p1, It p2, It p3, It p4, It u1, It v11_t0, It (1 : Int32), It u14, It u16, Rf b18, Rf b25, Rf b114, Rf b119, It (1 : Int32), It (1 : Int32), .unset, .unset] [(.ref b119)])) rfl (by rw [hml]; rfl) (Steps.refl _) (argsL := []) (rest := []) (lenOf pd_17 rfl) rfl (w0 rfl) (hb hby at_241) (fun _ _ => ⟨rfl, rfl, (by decide : 9 + 2 ≤ _), (by decide : 50 + 20 ≤ _)⟩)
            dsimp only [Pt.U, Pt.locs, Pt.cells, Pt.slots] at X197 l197 y197 z197 st197 hQ197
            subst l197 y197 z197
            obtain ⟨rs_197, ro_197, ko_197, rfl, N197q, K197q, O197, f197_0, f197_1, f197_2, f197_3, f197_4, f197_5, f197_6, f197_7⟩ := hQ197
            have N197 := Fr.app N195 N197q
            have CR198 := CR196.trans (CHr.keep K197q all0 CR196.1)
            have K197 := K195.trans K197q all0
            have VO197 : Arv Z T197.heap ro_197 ko_197 .byte (6 : Int32) [.int (32 : Int32), .int (32 : Int32), .int (32 : Int32), .int (32 : Int32), .int (StrChars.lo8 (nar .char u14)), .int (10 : Int32), .int (0 : Int32), .int (0 : Int32), .int (0 : Int32), .int (0 : Int32), .int (0 : Int32), .int (0 : Int32), .int (0 : Int32), .int (0 : Int32), .int (0 : Int32), .int (0 : Int32)] (.int (0 : Int32)) := f197_5
            obtain ⟨u199, hu199⟩ : ∃ z, z = ((4 : Int32) * (1 : Int32)) := ⟨_, rfl⟩
            have sg200 : SG p.tables e below (T197.setTop (mkF m 266 #[It p1, It p2, It p3, It p4, It u1, It v11_t0, It (1 : Int32), It u14, It u16, Rf b18, Rf b25, Rf b114, Rf b119, It (1 : Int32), It (1 : Int32), Rf rs_197, .unset] [(.int u199)])) (T174.setTop (mkF m 235 #[It p1, It p2, It p3, It p4, It u1, It v11_t0, It (1 : Int32), It u14, It u16, Rf b18, Rf b25, Rf b114, Rf b119, It (1 : Int32), It (1 : Int32), .unset, .unset] [(.ref b114), (.ref b119)])) := by
              intro target kt
              subst hu199
              show Steps _ _ _ (T174.setTop (mkF m 235 #[It p1, It p2, It p3, It p4, It u1, It v11_t0, It (1 : Int32), It u14, It u16, Rf b18, Rf b25, Rf b114, Rf b119, It (1 : Int32), It (1 : Int32), .unset, .unset] [(.ref b114), (.ref b119)])) _
              refine st195.trans ?_
              refine XS.pop X195.here hx rfl (hb hby at_238) rfl rfl ?_
              refine XS.aload X195.here hx rfl (hb hby at_239) rfl rfl ?_
              refine st197.trans ?_
              refine XS.astore X197.here hx rfl (hb hby at_244) rfl rfl (l' := #[It p1, It p2, It p3, It p4, It u1, It v11_t0, It (1 : Int32), It u14, It u16, Rf b18, Rf b25, Rf b114, Rf b119, It (1 : Int32), It (1 : Int32), Rf rs_197, .unset]) rfl ?_
              refine XS.iload X197.here hx rfl (hb hby at_246) rfl ?_
              refine XS.ifYes X197.here hx rfl (pc0 := 248) (pc' := 253) rfl (hb hby at_248) rfl ((if0 _ _).trans (feq (by decide : ¬ ((1 : Int32) = (0 : Int32)))).2) (by decide) (by decide) ?_
              refine XS.iload X197.here hx rfl (hb hby at_253) rfl ?_
              refine XS.ifYes X197.here hx rfl (pc0 := 255) (pc' := 262) rfl (hb hby at_255) rfl ((if0 _ _).trans (feq (by decide : ¬ ((1 : Int32) = (0 : Int32)))).2) (by decide) (by decide) ?_
              refine XS.iconst X197.here hx rfl (hb hby at_262) ?_
              refine XS.iload X197.here hx rfl (hb hby at_263) rfl ?_
              refine XS.imul X197.here hx rfl (hb hby at_265) rfl ?_
              exact kt
            have hk_u199 : u199 = (4 : Int32) := hu199.trans (by decide)
            subst hk_u199
            obtain ⟨cq201, kq201, q201a, q201b, q201c⟩ := isOf hZ195 rfl f197_0
            obtain ⟨_, _, ⟨T201, L201, k201, n201⟩, -, X201, ⟨Lc201, hQ201, l201, y201, z201⟩, st201⟩ := X197.virtualBack hx (y := m_2) (z := m_2) hown195 (mvT hZ195 (tw hw 189 rfl)) (mvT hZ195 (tw hw 89 rfl)) (notFace_of_selects (args := #[]) (mvT hZ195 (tw hw 91 rfl))) (mvT hZ195 (tw hw 91 rfl)) (mvT hZ195 (tw hw 90 rfl)) (by decide) (backOf (W := 0) (rm15 l Z a0 hw [] rs_197 ro_197 (6 : Int32) ([.int (32 : Int32), .int (32 : Int32), .int (32 : Int32), .int (32 : Int32), .int (StrChars.lo8 (nar .char u14)), .int (10 : Int32), .int (0 : Int32), .int (0 : Int32), .int (0 : Int32), .int (0 : Int32), .int (0 : Int32), .int (0 : Int32), .int (0 : Int32), .int (0 : Int32), .int (0 : Int32), .int (0 : Int32)]) zC ko_197 T197.heap n0 O197 hCS sC f197_0 f197_3 f197_4 VO197) hZ195 (tw hw 92 rfl) (tw hw 3 rfl) (by decide) (by decide)) q201a q201c (g := (mkF m 270 #[It p1, It p2, It p3, It p4, It u1, It v11_t0, It (1 : Int32), It u14, It u16, Rf b18, Rf b25, Rf b114, Rf b119, It (1 : Int32), It (1 : Int32), Rf rs_197, It (4 : Int32)] [(.ref rs_197)])) rfl (by rw [hml]; rfl) (Steps.refl _) (argsL := []) (rest := []) (lenOf pd_1 rfl) rfl (w0 rfl) (hb hby at_270) (fun _ _ => ⟨rfl, rfl, (by decide : 11 + 0 ≤ _), (by decide : 70 + 0 ≤ _)⟩)
            dsimp only [Pt.U, Pt.locs, Pt.cells, Pt.slots] at X201 l201 y201 z201 st201 hQ201
            subst l201 y201 z201
            obtain ⟨rfl, N201q, e201⟩ := hQ201
            have N201 := Fr.app N197 N201q
            have sg202 : SG p.tables e below (T201.setTop (mkF m 285 #[It p1, It p2, It p3, It p4, It u1, It v11_t0, It (1 : Int32), It u14, It u16, Rf b18, Rf b25, Rf b114, Rf b119, It (1 : Int32), It (1 : Int32), Rf rs_197, It (4 : Int32)] [])) (T197.setTop (mkF m 266 #[It p1, It p2, It p3, It p4, It u1, It v11_t0, It (1 : Int32), It u14, It u16, Rf b18, Rf b25, Rf b114, Rf b119, It (1 : Int32), It (1 : Int32), Rf rs_197, .unset] [(.int (4 : Int32))])) := by
              intro target kt
              show Steps _ _ _ (T197.setTop (mkF m 266 #[It p1, It p2, It p3, It p4, It u1, It v11_t0, It (1 : Int32), It u14, It u16, Rf b18, Rf b25, Rf b114, Rf b119, It (1 : Int32), It (1 : Int32), Rf rs_197, .unset] [(.int (4 : Int32))])) _
              refine XS.istore X197.here hx rfl (hb hby at_266) rfl (l' := #[It p1, It p2, It p3, It p4, It u1, It v11_t0, It (1 : Int32), It u14, It u16, Rf b18, Rf b25, Rf b114, Rf b119, It (1 : Int32), It (1 : Int32), Rf rs_197, It (4 : Int32)]) rfl ?_
              refine XS.aload X197.here hx rfl (hb hby at_268) rfl rfl ?_
              refine st201.trans ?_
              refine XS.iload X201.here hx rfl (hb hby at_273) rfl ?_
              refine XS.iload X201.here hx rfl (hb hby at_275) rfl ?_
              refine XS.iadd X201.here hx rfl (hb hby at_277) rfl ?_
              refine XS.iconst X201.here hx rfl (hb hby at_278) ?_
              refine XS.iadd X201.here hx rfl (hb hby at_279) rfl ?_
              refine XS.icmpYes X201.here hx rfl (pc0 := 280) (pc' := 285) rfl (hb hby at_280) rfl (teq (by decide : (6 : Int32) = (((4 : Int32) + (1 : Int32)) + (1 : Int32)))).1 (by decide) (by decide) ?_
              exact kt
            exact ⟨T201, _, (1 : Int32), b114, b119, (1 : Int32), rs_197, (4 : Int32), T197.heap, T195.vm, _, ro_197, ko_197, (6 : Int32), [.int (32 : Int32), .int (32 : Int32), .int (32 : Int32), .int (32 : Int32), .int (StrChars.lo8 (nar .char u14)), .int (10 : Int32), .int (0 : Int32), .int (0 : Int32), .int (0 : Int32), .int (0 : Int32), .int (0 : Int32), .int (0 : Int32), .int (0 : Int32), .int (0 : Int32), .int (0 : Int32), .int (0 : Int32)], X201.mono (by decide) (by decide), e201, N201, O197, (((((((((((Keep.refl h33 []).ext E114).trans K117q (allS (Or.inr (Nat.le_trans (Nat.le_refl _) (Nat.le_of_eq g114.symm))) all0)).ext E119).trans K122q (allS (Or.inr (Nat.le_trans (Nat.le_trans (Nat.le_trans (Nat.le_refl _) E114.1) K117q.1) (Nat.le_of_eq g119.symm))) all0)).trans K131 (allS (Or.inr (Nat.le_trans (Nat.le_trans (Nat.le_trans (Nat.le_refl _) E114.1) K117q.1) (Nat.le_of_eq g119.symm))) all0)).trans K145 (allS (Or.inr (Nat.le_trans (Nat.le_trans (Nat.le_trans (Nat.le_refl _) E114.1) K117q.1) (Nat.le_of_eq g119.symm))) all0)).trans K159 (allS (Or.inr (Nat.le_trans (Nat.le_trans (Nat.le_trans (Nat.le_refl _) E114.1) K117q.1) (Nat.le_of_eq g119.symm))) all0)).trans K174 (allS (Or.inr (Nat.le_trans (Nat.le_trans (Nat.le_trans (Nat.le_refl _) E114.1) K117q.1) (Nat.le_of_eq g119.symm))) all0)).trans K195q (allS (Or.inr (Nat.le_trans (Nat.le_trans (Nat.le_trans (Nat.le_trans (Nat.le_refl _) E114.1) K117q.1) E119.1) f122_8)) (allS (Or.inr (Nat.le_trans (Nat.le_trans (Nat.le_trans (Nat.le_trans (Nat.le_refl _) E114.1) K117q.1) E119.1) f122_10)) all0))).trans K197q all0), K197, Y195, (Nat.le_trans (Nat.le_refl _) K197q.1), hZ195, hown195, CR198, (((((((((((CHr.refl CR35.1).trans (CHr.ext E114 CR35.1)).trans (CHr.keep K117q (allS (Safe.ext E114 CR35.1 (Safe.new (Nat.le_of_eq g114.symm))) all0) CR116.1)).trans (CHr.ext E119 CR118.1)).trans (CHr.keep K122q (allS (Safe.exa hZ.alike A119 (by decide) (by decide)) all0) CR121.1)).trans (CQ131)).trans (CQ145)).trans (CQ159)).trans (CQ174)).trans (C195)).trans (CHr.keep K197q all0 CR196.1)), f197_0, f197_3, f197_4, VO197, own_at11 rg_u14 rg_u16, fun target kt => sg124 _ (sg131 _ (sg145 _ (sg159 _ (sg167 _ (sg174 _ (sg182 _ (sg200 _ (sg202 _ (kt)))))))))⟩
          · by_cases hc203 : v174_l14 = (2 : Int32)
            · subst hc203
              have VL204 : Arv Z h174 t117 kb117 .byte (1 : Int32) [.int (StrChars.lo8 (nar .char u14))] (.int (0 : Int32)) := ((((((V117.ext E119).keep K122q (ninS (Nat.ne_of_lt (Nat.lt_of_lt_of_le V117.lt (Nat.le_of_eq g119.symm))) nin0)).keep K131 (ninS (Nat.ne_of_lt (Nat.lt_of_lt_of_le V117.lt (Nat.le_of_eq g119.symm))) nin0)).keep K145 (ninS (Nat.ne_of_lt (Nat.lt_of_lt_of_le V117.lt (Nat.le_of_eq g119.symm))) nin0)).keep K159 (ninS (Nat.ne_of_lt (Nat.lt_of_lt_of_le V117.lt (Nat.le_of_eq g119.symm))) nin0)).keep K174 (ninS (Nat.ne_of_lt (Nat.lt_of_lt_of_le V117.lt (Nat.le_of_eq g119.symm))) nin0))
              obtain ⟨cq205, kq205, q205a, q205b, q205c⟩ := isOf hZ174 e174 (((((A119.keep K122q).keep K131).keep K145).keep K159).keep K174)
              obtain ⟨_, _, ⟨T205, L205, k205, n205⟩, -, X205, Y205, G205, ⟨Lc205, hQ205, l205, y205, z205, C205⟩, st205⟩ := X174.virtualBackS hx (y := m_33) (z := m_33) hown174 (mvT hZ174 (tw hw 57 rfl)) (mvT hZ174 (tw hw 58 rfl)) (notFace_of_selects (args := #[]) (mvT hZ174 (tw hw 60 rfl))) (mvT hZ174 (tw hw 60 rfl)) (mvT hZ174 (tw hw 59 rfl)) (by decide) (own_backSH (W := 0) (rm10_21 l Z a0 hw [] b119 b114 sb_122 ro_122 t117 ([.int (StrChars.lo8 (nar .char u14))]) zC ko_122 kb117 h174 n0 O174 sC (((((A119.keep K122q).keep K131).keep K145).keep K159).keep K174) FT174 FDz Rn178 Rn181 Rn179 Rn180 Rn177 ((((((A117.ext E119).keep K122q).keep K131).keep K145).keep K159).keep K174) ((((((Fc117.ext E119).keep K122q (ninS (Nat.ne_of_lt (Nat.lt_of_lt_of_le A117.lt (Nat.le_of_eq g119.symm))) nin0)).keep K131 (ninS (Nat.ne_of_lt (Nat.lt_of_lt_of_le A117.lt (Nat.le_of_eq g119.symm))) nin0)).keep K145 (ninS (Nat.ne_of_lt (Nat.lt_of_lt_of_le A117.lt (Nat.le_of_eq g119.symm))) nin0)).keep K159 (ninS (Nat.ne_of_lt (Nat.lt_of_lt_of_le A117.lt (Nat.le_of_eq g119.symm))) nin0)).keep K174 (ninS (Nat.ne_of_lt (Nat.lt_of_lt_of_le A117.lt (Nat.le_of_eq g119.symm))) nin0)) ((((((Fv117.ext E119).keep K122q (ninS (Nat.ne_of_lt (Nat.lt_of_lt_of_le A117.lt (Nat.le_of_eq g119.symm))) nin0)).keep K131 (ninS (Nat.ne_of_lt (Nat.lt_of_lt_of_le A117.lt (Nat.le_of_eq g119.symm))) nin0)).keep K145 (ninS (Nat.ne_of_lt (Nat.lt_of_lt_of_le A117.lt (Nat.le_of_eq g119.symm))) nin0)).keep K159 (ninS (Nat.ne_of_lt (Nat.lt_of_lt_of_le A117.lt (Nat.le_of_eq g119.symm))) nin0)).keep K174 (ninS (Nat.ne_of_lt (Nat.lt_of_lt_of_le A117.lt (Nat.le_of_eq g119.symm))) nin0)) VL204 f122_7 f122_9 (Nat.ne_of_lt (Nat.lt_of_lt_of_le (V117.ext E119).lt f122_10)) hCS) hZ174 (tw hw 61 rfl) (tw hw 32 rfl) (by decide) (by decide) hEL CR_174.1 Rn177.lt Rn175) q205a q205c (g := (mkF m 235 #[It p1, It p2, It p3, It p4, It u1, It v11_t0, It (1 : Int32), It u14, It u16, Rf b18, Rf b25, Rf b114, Rf b119, It (1 : Int32), It (2 : Int32), .unset, .unset] [(.ref b114), (.ref b119)])) rfl (by rw [hml]; rfl) (Steps.refl _) (argsL := [(.ref b114)]) (rest := []) (lenOf pd_27 rfl) rfl (w0 rfl) (hb hby at_235) (fun _ _ => ⟨rfl, e174, (by decide : 7 + 4 ≤ _), (by decide : 30 + 32 ≤ _)⟩)
              dsimp only [Pt.U, Pt.locs, Pt.cells, Pt.slots] at X205 l205 y205 z205 st205 hQ205 Y205 G205 C205
              subst l205 y205 z205
              obtain ⟨rfl, N205q, K205q, O205, f205_0, f205_1, f205_2, f205_3⟩ := hQ205
              have N205 := Fr.app N174 N205q
              obtain ⟨X205, Y205, hZ205, hown205⟩ := rebS Y174 (by rw [e174]; exact Yk174) X205 Y205 G205 hZ174 hown174
              have CR206 := CR_174.trans (C205)
              have Sf205_sb_122 := (C205.safe Rn178.lt Rn176)
              have Sf205_ro_122 := (C205.safe Rn177.lt Rn175)
              have K205 := KK174.trans K205q (allS (Or.inr (Nat.le_trans K119.1 f122_8)) (allS (Or.inr (Nat.le_trans K119.1 f122_10)) all0))
              obtain ⟨cq207, kq207, q207a, q207b, q207c⟩ := isOf hZ205 rfl ((((((A119.keep K122q).keep K131).keep K145).keep K159).keep K174).keep K205q)
              obtain ⟨_, _, ⟨T207, L207, k207, n207⟩, -, X207, ⟨Lc207, hQ207, l207, y207, z207⟩, st207⟩ := X205.virtualBack hx (y := m_29) (z := m_29) hown205 (mvT hZ205 (tw hw 143 rfl)) (mvT hZ205 (tw hw 144 rfl)) (notFace_of_selects (args := #[]) (mvT hZ205 (tw hw 146 rfl))) (mvT hZ205 (tw hw 146 rfl)) (mvT hZ205 (tw hw 145 rfl)) (by decide) (backOf (W := 0) (rm25 l Z a0 hw [] b119 ro_122 (10 : Int32) 10 ((cpy (cpy z16 0 (cpy (cpy z16 0 s4 0 4) 4 (cpy z16 0 s4 0 4) 0 4) 0 8) 8 [.int (StrChars.lo8 (nar .char u14))] 0 1).set 9 (.int ((10 : Int32).toInt8.toInt32.toInt8.toInt32))) sb_122 zC ko_122 T205.heap n0 O205 hCS sC (FT174.keep K205q (ninS (Nat.ne_of_lt (Nat.lt_of_lt_of_le A119.lt f122_8)) (ninS (Nat.ne_of_lt (Nat.lt_of_lt_of_le A119.lt f122_10)) nin0))) (Rn178.keep K205q) f205_0 f205_1 f205_2 f205_3 (Sm.lit (x := (10 : Int32)) (n := 10) (by decide)) (by decide)) hZ205 (tw hw 147 rfl) (tw hw 32 rfl) (by decide) (by decide)) q207a q207c (g := (mkF m 241 #[It p1, It p2, It p3, It p4, It u1, It v11_t0, It (1 : Int32), It u14, It u16, Rf b18, Rf b25, Rf b114, Rf b119, It (1 : Int32), It (2 : Int32), .unset, .unset] [(.ref b119)])) rfl (by rw [hml]; rfl) (Steps.refl _) (argsL := []) (rest := []) (lenOf pd_17 rfl) rfl (w0 rfl) (hb hby at_241) (fun _ _ => ⟨rfl, rfl, (by decide : 11 + 2 ≤ _), (by decide : 62 + 20 ≤ _)⟩)
              dsimp only [Pt.U, Pt.locs, Pt.cells, Pt.slots] at X207 l207 y207 z207 st207 hQ207
              subst l207 y207 z207
              obtain ⟨rs_207, ro_207, ko_207, rfl, N207q, K207q, O207, f207_0, f207_1, f207_2, f207_3, f207_4, f207_5, f207_6, f207_7⟩ := hQ207
              have N207 := Fr.app N205 N207q
              have CR208 := CR206.trans (CHr.keep K207q all0 CR206.1)
              have K207 := K205.trans K207q all0
              have VO207 : Arv Z T207.heap ro_207 ko_207 .byte (10 : Int32) [.int (32 : Int32), .int (32 : Int32), .int (32 : Int32), .int (32 : Int32), .int (32 : Int32), .int (32 : Int32), .int (32 : Int32), .int (32 : Int32), .int (StrChars.lo8 (nar .char u14)), .int (10 : Int32), .int (0 : Int32), .int (0 : Int32), .int (0 : Int32), .int (0 : Int32), .int (0 : Int32), .int (0 : Int32)] (.int (0 : Int32)) := f207_5
              obtain ⟨u209, hu209⟩ : ∃ z, z = ((4 : Int32) * (2 : Int32)) := ⟨_, rfl⟩
              have sg210 : SG p.tables e below (T207.setTop (mkF m 266 #[It p1, It p2, It p3, It p4, It u1, It v11_t0, It (1 : Int32), It u14, It u16, Rf b18, Rf b25, Rf b114, Rf b119, It (1 : Int32), It (2 : Int32), Rf rs_207, .unset] [(.int u209)])) (T174.setTop (mkF m 235 #[It p1, It p2, It p3, It p4, It u1, It v11_t0, It (1 : Int32), It u14, It u16, Rf b18, Rf b25, Rf b114, Rf b119, It (1 : Int32), It (2 : Int32), .unset, .unset] [(.ref b114), (.ref b119)])) := by
                intro target kt
                subst hu209
                show Steps _ _ _ (T174.setTop (mkF m 235 #[It p1, It p2, It p3, It p4, It u1, It v11_t0, It (1 : Int32), It u14, It u16, Rf b18, Rf b25, Rf b114, Rf b119, It (1 : Int32), It (2 : Int32), .unset, .unset] [(.ref b114), (.ref b119)])) _
                refine st205.trans ?_
                refine XS.pop X205.here hx rfl (hb hby at_238) rfl rfl ?_
                refine XS.aload X205.here hx rfl (hb hby at_239) rfl rfl ?_
                refine st207.trans ?_
                refine XS.astore X207.here hx rfl (hb hby at_244) rfl rfl (l' := #[It p1, It p2, It p3, It p4, It u1, It v11_t0, It (1 : Int32), It u14, It u16, Rf b18, Rf b25, Rf b114, Rf b119, It (1 : Int32), It (2 : Int32), Rf rs_207, .unset]) rfl ?_
                refine XS.iload X207.here hx rfl (hb hby at_246) rfl ?_
                refine XS.ifYes X207.here hx rfl (pc0 := 248) (pc' := 253) rfl (hb hby at_248) rfl ((if0 _ _).trans (feq (by decide : ¬ ((1 : Int32) = (0 : Int32)))).2) (by decide) (by decide) ?_
                refine XS.iload X207.here hx rfl (hb hby at_253) rfl ?_
                refine XS.ifYes X207.here hx rfl (pc0 := 255) (pc' := 262) rfl (hb hby at_255) rfl ((if0 _ _).trans (feq (by decide : ¬ ((1 : Int32) = (0 : Int32)))).2) (by decide) (by decide) ?_
                refine XS.iconst X207.here hx rfl (hb hby at_262) ?_
                refine XS.iload X207.here hx rfl (hb hby at_263) rfl ?_
                refine XS.imul X207.here hx rfl (hb hby at_265) rfl ?_
                exact kt
              have hk_u209 : u209 = (8 : Int32) := hu209.trans (by decide)
              subst hk_u209
              obtain ⟨cq211, kq211, q211a, q211b, q211c⟩ := isOf hZ205 rfl f207_0
              obtain ⟨_, _, ⟨T211, L211, k211, n211⟩, -, X211, ⟨Lc211, hQ211, l211, y211, z211⟩, st211⟩ := X207.virtualBack hx (y := m_2) (z := m_2) hown205 (mvT hZ205 (tw hw 189 rfl)) (mvT hZ205 (tw hw 89 rfl)) (notFace_of_selects (args := #[]) (mvT hZ205 (tw hw 91 rfl))) (mvT hZ205 (tw hw 91 rfl)) (mvT hZ205 (tw hw 90 rfl)) (by decide) (backOf (W := 0) (rm15 l Z a0 hw [] rs_207 ro_207 (10 : Int32) ([.int (32 : Int32), .int (32 : Int32), .int (32 : Int32), .int (32 : Int32), .int (32 : Int32), .int (32 : Int32), .int (32 : Int32), .int (32 : Int32), .int (StrChars.lo8 (nar .char u14)), .int (10 : Int32), .int (0 : Int32), .int (0 : Int32), .int (0 : Int32), .int (0 : Int32), .int (0 : Int32), .int (0 : Int32)]) zC ko_207 T207.heap n0 O207 hCS sC f207_0 f207_3 f207_4 VO207) hZ205 (tw hw 92 rfl) (tw hw 3 rfl) (by decide) (by decide)) q211a q211c (g := (mkF m 270 #[It p1, It p2, It p3, It p4, It u1, It v11_t0, It (1 : Int32), It u14, It u16, Rf b18, Rf b25, Rf b114, Rf b119, It (1 : Int32), It (2 : Int32), Rf rs_207, It (8 : Int32)] [(.ref rs_207)])) rfl (by rw [hml]; rfl) (Steps.refl _) (argsL := []) (rest := []) (lenOf pd_1 rfl) rfl (w0 rfl) (hb hby at_270) (fun _ _ => ⟨rfl, rfl, (by decide : 13 + 0 ≤ _), (by decide : 82 + 0 ≤ _)⟩)
              dsimp only [Pt.U, Pt.locs, Pt.cells, Pt.slots] at X211 l211 y211 z211 st211 hQ211
              subst l211 y211 z211
              obtain ⟨rfl, N211q, e211⟩ := hQ211
              have N211 := Fr.app N207 N211q
              have sg212 : SG p.tables e below (T211.setTop (mkF m 285 #[It p1, It p2, It p3, It p4, It u1, It v11_t0, It (1 : Int32), It u14, It u16, Rf b18, Rf b25, Rf b114, Rf b119, It (1 : Int32), It (2 : Int32), Rf rs_207, It (8 : Int32)] [])) (T207.setTop (mkF m 266 #[It p1, It p2, It p3, It p4, It u1, It v11_t0, It (1 : Int32), It u14, It u16, Rf b18, Rf b25, Rf b114, Rf b119, It (1 : Int32), It (2 : Int32), Rf rs_207, .unset] [(.int (8 : Int32))])) := by
                intro target kt
                show Steps _ _ _ (T207.setTop (mkF m 266 #[It p1, It p2, It p3, It p4, It u1, It v11_t0, It (1 : Int32), It u14, It u16, Rf b18, Rf b25, Rf b114, Rf b119, It (1 : Int32), It (2 : Int32), Rf rs_207, .unset] [(.int (8 : Int32))])) _
                refine XS.istore X207.here hx rfl (hb hby at_266) rfl (l' := #[It p1, It p2, It p3, It p4, It u1, It v11_t0, It (1 : Int32), It u14, It u16, Rf b18, Rf b25, Rf b114, Rf b119, It (1 : Int32), It (2 : Int32), Rf rs_207, It (8 : Int32)]) rfl ?_
                refine XS.aload X207.here hx rfl (hb hby at_268) rfl rfl ?_
                refine st211.trans ?_
                refine XS.iload X211.here hx rfl (hb hby at_273) rfl ?_
                refine XS.iload X211.here hx rfl (hb hby at_275) rfl ?_
                refine XS.iadd X211.here hx rfl (hb hby at_277) rfl ?_
                refine XS.iconst X211.here hx rfl (hb hby at_278) ?_
                refine XS.iadd X211.here hx rfl (hb hby at_279) rfl ?_
                refine XS.icmpYes X211.here hx rfl (pc0 := 280) (pc' := 285) rfl (hb hby at_280) rfl (teq (by decide : (10 : Int32) = (((8 : Int32) + (1 : Int32)) + (1 : Int32)))).1 (by decide) (by decide) ?_
                exact kt
              exact ⟨T211, _, (1 : Int32), b114, b119, (2 : Int32), rs_207, (8 : Int32), T207.heap, T205.vm, _, ro_207, ko_207, (10 : Int32), [.int (32 : Int32), .int (32 : Int32), .int (32 : Int32), .int (32 : Int32), .int (32 : Int32), .int (32 : Int32), .int (32 : Int32), .int (32 : Int32), .int (StrChars.lo8 (nar .char u14)), .int (10 : Int32), .int (0 : Int32), .int (0 : Int32), .int (0 : Int32), .int (0 : Int32), .int (0 : Int32), .int (0 : Int32)], X211.mono (by decide) (by decide), e211, N211, O207, (((((((((((Keep.refl h33 []).ext E114).trans K117q (allS (Or.inr (Nat.le_trans (Nat.le_refl _) (Nat.le_of_eq g114.symm))) all0)).ext E119).trans K122q (allS (Or.inr (Nat.le_trans (Nat.le_trans (Nat.le_trans (Nat.le_refl _) E114.1) K117q.1) (Nat.le_of_eq g119.symm))) all0)).trans K131 (allS (Or.inr (Nat.le_trans (Nat.le_trans (Nat.le_trans (Nat.le_refl _) E114.1) K117q.1) (Nat.le_of_eq g119.symm))) all0)).trans K145 (allS (Or.inr (Nat.le_trans (Nat.le_trans (Nat.le_trans (Nat.le_refl _) E114.1) K117q.1) (Nat.le_of_eq g119.symm))) all0)).trans K159 (allS (Or.inr (Nat.le_trans (Nat.le_trans (Nat.le_trans (Nat.le_refl _) E114.1) K117q.1) (Nat.le_of_eq g119.symm))) all0)).trans K174 (allS (Or.inr (Nat.le_trans (Nat.le_trans (Nat.le_trans (Nat.le_refl _) E114.1) K117q.1) (Nat.le_of_eq g119.symm))) all0)).trans K205q (allS (Or.inr (Nat.le_trans (Nat.le_trans (Nat.le_trans (Nat.le_trans (Nat.le_refl _) E114.1) K117q.1) E119.1) f122_8)) (allS (Or.inr (Nat.le_trans (Nat.le_trans (Nat.le_trans (Nat.le_trans (Nat.le_refl _) E114.1) K117q.1) E119.1) f122_10)) all0))).trans K207q all0), K207, Y205, (Nat.le_trans (Nat.le_refl _) K207q.1), hZ205, hown205, CR208, (((((((((((CHr.refl CR35.1).trans (CHr.ext E114 CR35.1)).trans (CHr.keep K117q (allS (Safe.ext E114 CR35.1 (Safe.new (Nat.le_of_eq g114.symm))) all0) CR116.1)).trans (CHr.ext E119 CR118.1)).trans (CHr.keep K122q (allS (Safe.exa hZ.alike A119 (by decide) (by decide)) all0) CR121.1)).trans (CQ131)).trans (CQ145)).trans (CQ159)).trans (CQ174)).trans (C205)).trans (CHr.keep K207q all0 CR206.1)), f207_0, f207_3, f207_4, VO207, own_at21 rg_u14 rg_u16, fun target kt => sg124 _ (sg131 _ (sg145 _ (sg159 _ (sg167 _ (sg174 _ (sg182 _ (sg210 _ (sg212 _ (kt)))))))))⟩
            · have hl_v174_l14 : v174_l14 = (3 : Int32) := own_or3 hdr hc183 hc193 hc203
              subst hl_v174_l14
              have VL213 : Arv Z h174 t117 kb117 .byte (1 : Int32) [.int (StrChars.lo8 (nar .char u14))] (.int (0 : Int32)) := ((((((V117.ext E119).keep K122q (ninS (Nat.ne_of_lt (Nat.lt_of_lt_of_le V117.lt (Nat.le_of_eq g119.symm))) nin0)).keep K131 (ninS (Nat.ne_of_lt (Nat.lt_of_lt_of_le V117.lt (Nat.le_of_eq g119.symm))) nin0)).keep K145 (ninS (Nat.ne_of_lt (Nat.lt_of_lt_of_le V117.lt (Nat.le_of_eq g119.symm))) nin0)).keep K159 (ninS (Nat.ne_of_lt (Nat.lt_of_lt_of_le V117.lt (Nat.le_of_eq g119.symm))) nin0)).keep K174 (ninS (Nat.ne_of_lt (Nat.lt_of_lt_of_le V117.lt (Nat.le_of_eq g119.symm))) nin0))
              obtain ⟨cq214, kq214, q214a, q214b, q214c⟩ := isOf hZ174 e174 (((((A119.keep K122q).keep K131).keep K145).keep K159).keep K174)
              obtain ⟨_, _, ⟨T214, L214, k214, n214⟩, -, X214, Y214, G214, ⟨Lc214, hQ214, l214, y214, z214, C214⟩, st214⟩ := X174.virtualBackS hx (y := m_33) (z := m_33) hown174 (mvT hZ174 (tw hw 57 rfl)) (mvT hZ174 (tw hw 58 rfl)) (notFace_of_selects (args := #[]) (mvT hZ174 (tw hw 60 rfl))) (mvT hZ174 (tw hw 60 rfl)) (mvT hZ174 (tw hw 59 rfl)) (by decide) (own_backSH (W := 0) (rm10_31 l Z a0 hw [] b119 b114 sb_122 ro_122 t117 ([.int (StrChars.lo8 (nar .char u14))]) zC ko_122 kb117 h174 n0 O174 sC (((((A119.keep K122q).keep K131).keep K145).keep K159).keep K174) FT174 FDz Rn178 Rn181 Rn179 Rn180 Rn177 ((((((A117.ext E119).keep K122q).keep K131).keep K145).keep K159).keep K174) ((((((Fc117.ext E119).keep K122q (ninS (Nat.ne_of_lt (Nat.lt_of_lt_of_le A117.lt (Nat.le_of_eq g119.symm))) nin0)).keep K131 (ninS (Nat.ne_of_lt (Nat.lt_of_lt_of_le A117.lt (Nat.le_of_eq g119.symm))) nin0)).keep K145 (ninS (Nat.ne_of_lt (Nat.lt_of_lt_of_le A117.lt (Nat.le_of_eq g119.symm))) nin0)).keep K159 (ninS (Nat.ne_of_lt (Nat.lt_of_lt_of_le A117.lt (Nat.le_of_eq g119.symm))) nin0)).keep K174 (ninS (Nat.ne_of_lt (Nat.lt_of_lt_of_le A117.lt (Nat.le_of_eq g119.symm))) nin0)) ((((((Fv117.ext E119).keep K122q (ninS (Nat.ne_of_lt (Nat.lt_of_lt_of_le A117.lt (Nat.le_of_eq g119.symm))) nin0)).keep K131 (ninS (Nat.ne_of_lt (Nat.lt_of_lt_of_le A117.lt (Nat.le_of_eq g119.symm))) nin0)).keep K145 (ninS (Nat.ne_of_lt (Nat.lt_of_lt_of_le A117.lt (Nat.le_of_eq g119.symm))) nin0)).keep K159 (ninS (Nat.ne_of_lt (Nat.lt_of_lt_of_le A117.lt (Nat.le_of_eq g119.symm))) nin0)).keep K174 (ninS (Nat.ne_of_lt (Nat.lt_of_lt_of_le A117.lt (Nat.le_of_eq g119.symm))) nin0)) VL213 f122_7 f122_9 (Nat.ne_of_lt (Nat.lt_of_lt_of_le (V117.ext E119).lt f122_10)) hCS) hZ174 (tw hw 61 rfl) (tw hw 32 rfl) (by decide) (by decide) hEL CR_174.1 Rn177.lt Rn175) q214a q214c (g := (mkF m 235 #[It p1, It p2, It p3, It p4, It u1, It v11_t0, It (1 : Int32), It u14, It u16, Rf b18, Rf b25, Rf b114, Rf b119, It (1 : Int32), It (3 : Int32), .unset, .unset] [(.ref b114), (.ref b119)])) rfl (by rw [hml]; rfl) (Steps.refl _) (argsL := [(.ref b114)]) (rest := []) (lenOf pd_27 rfl) rfl (w0 rfl) (hb hby at_235) (fun _ _ => ⟨rfl, e174, (by decide : 7 + 4 ≤ _), (by decide : 30 + 36 ≤ _)⟩)
              dsimp only [Pt.U, Pt.locs, Pt.cells, Pt.slots] at X214 l214 y214 z214 st214 hQ214 Y214 G214 C214
              subst l214 y214 z214
              obtain ⟨rfl, N214q, K214q, O214, f214_0, f214_1, f214_2, f214_3⟩ := hQ214
              have N214 := Fr.app N174 N214q
              obtain ⟨X214, Y214, hZ214, hown214⟩ := rebS Y174 (by rw [e174]; exact Yk174) X214 Y214 G214 hZ174 hown174
              have CR215 := CR_174.trans (C214)
              have Sf214_sb_122 := (C214.safe Rn178.lt Rn176)
              have Sf214_ro_122 := (C214.safe Rn177.lt Rn175)
              have K214 := KK174.trans K214q (allS (Or.inr (Nat.le_trans K119.1 f122_8)) (allS (Or.inr (Nat.le_trans K119.1 f122_10)) all0))
              obtain ⟨cq216, kq216, q216a, q216b, q216c⟩ := isOf hZ214 rfl ((((((A119.keep K122q).keep K131).keep K145).keep K159).keep K174).keep K214q)
              obtain ⟨_, _, ⟨T216, L216, k216, n216⟩, -, X216, ⟨Lc216, hQ216, l216, y216, z216⟩, st216⟩ := X214.virtualBack hx (y := m_29) (z := m_29) hown214 (mvT hZ214 (tw hw 143 rfl)) (mvT hZ214 (tw hw 144 rfl)) (notFace_of_selects (args := #[]) (mvT hZ214 (tw hw 146 rfl))) (mvT hZ214 (tw hw 146 rfl)) (mvT hZ214 (tw hw 145 rfl)) (by decide) (backOf (W := 0) (rm25 l Z a0 hw [] b119 ro_122 (14 : Int32) 14 ((cpy (cpy z16 0 (cpy (cpy (cpy z16 0 s4 0 4) 4 (cpy z16 0 s4 0 4) 0 4) 8 (cpy (cpy z16 0 s4 0 4) 4 (cpy z16 0 s4 0 4) 0 4) 0 4) 0 12) 12 [.int (StrChars.lo8 (nar .char u14))] 0 1).set 13 (.int ((10 : Int32).toInt8.toInt32.toInt8.toInt32))) sb_122 zC ko_122 T214.heap n0 O214 hCS sC (FT174.keep K214q (ninS (Nat.ne_of_lt (Nat.lt_of_lt_of_le A119.lt f122_8)) (ninS (Nat.ne_of_lt (Nat.lt_of_lt_of_le A119.lt f122_10)) nin0))) (Rn178.keep K214q) f214_0 f214_1 f214_2 f214_3 (Sm.lit (x := (14 : Int32)) (n := 14) (by decide)) (by decide)) hZ214 (tw hw 147 rfl) (tw hw 32 rfl) (by decide) (by decide)) q216a q216c (g := (mkF m 241 #[It p1, It p2, It p3, It p4, It u1, It v11_t0, It (1 : Int32), It u14, It u16, Rf b18, Rf b25, Rf b114, Rf b119, It (1 : Int32), It (3 : Int32), .unset, .unset] [(.ref b119)])) rfl (by rw [hml]; rfl) (Steps.refl _) (argsL := []) (rest := []) (lenOf pd_17 rfl) rfl (w0 rfl) (hb hby at_241) (fun _ _ => ⟨rfl, rfl, (by decide : 11 + 2 ≤ _), (by decide : 66 + 20 ≤ _)⟩)
              dsimp only [Pt.U, Pt.locs, Pt.cells, Pt.slots] at X216 l216 y216 z216 st216 hQ216
              subst l216 y216 z216
              obtain ⟨rs_216, ro_216, ko_216, rfl, N216q, K216q, O216, f216_0, f216_1, f216_2, f216_3, f216_4, f216_5, f216_6, f216_7⟩ := hQ216
              have N216 := Fr.app N214 N216q
              have CR217 := CR215.trans (CHr.keep K216q all0 CR215.1)
              have K216 := K214.trans K216q all0
              have VO216 : Arv Z T216.heap ro_216 ko_216 .byte (14 : Int32) [.int (32 : Int32), .int (32 : Int32), .int (32 : Int32), .int (32 : Int32), .int (32 : Int32), .int (32 : Int32), .int (32 : Int32), .int (32 : Int32), .int (32 : Int32), .int (32 : Int32), .int (32 : Int32), .int (32 : Int32), .int (StrChars.lo8 (nar .char u14)), .int (10 : Int32), .int (0 : Int32), .int (0 : Int32)] (.int (0 : Int32)) := f216_5
              obtain ⟨u218, hu218⟩ : ∃ z, z = ((4 : Int32) * (3 : Int32)) := ⟨_, rfl⟩
              have sg219 : SG p.tables e below (T216.setTop (mkF m 266 #[It p1, It p2, It p3, It p4, It u1, It v11_t0, It (1 : Int32), It u14, It u16, Rf b18, Rf b25, Rf b114, Rf b119, It (1 : Int32), It (3 : Int32), Rf rs_216, .unset] [(.int u218)])) (T174.setTop (mkF m 235 #[It p1, It p2, It p3, It p4, It u1, It v11_t0, It (1 : Int32), It u14, It u16, Rf b18, Rf b25, Rf b114, Rf b119, It (1 : Int32), It (3 : Int32), .unset, .unset] [(.ref b114), (.ref b119)])) := by
                intro target kt
                subst hu218
                show Steps _ _ _ (T174.setTop (mkF m 235 #[It p1, It p2, It p3, It p4, It u1, It v11_t0, It (1 : Int32), It u14, It u16, Rf b18, Rf b25, Rf b114, Rf b119, It (1 : Int32), It (3 : Int32), .unset, .unset] [(.ref b114), (.ref b119)])) _
                refine st214.trans ?_
                refine XS.pop X214.here hx rfl (hb hby at_238) rfl rfl ?_
                refine XS.aload X214.here hx rfl (hb hby at_239) rfl rfl ?_
                refine st216.trans ?_
                refine XS.astore X216.here hx rfl (hb hby at_244) rfl rfl (l' := #[It p1, It p2, It p3, It p4, It u1, It v11_t0, It (1 : Int32), It u14, It u16, Rf b18, Rf b25, Rf b114, Rf b119, It (1 : Int32), It (3 : Int32), Rf rs_216, .unset]) rfl ?_
                refine XS.iload X216.here hx rfl (hb hby at_246) rfl ?_
                refine XS.ifYes X216.here hx rfl (pc0 := 248) (pc' := 253) rfl (hb hby at_248) rfl ((if0 _ _).trans (feq (by decide : ¬ ((1 : Int32) = (0 : Int32)))).2) (by decide) (by decide) ?_
                refine XS.iload X216.here hx rfl (hb hby at_253) rfl ?_
                refine XS.ifYes X216.here hx rfl (pc0 := 255) (pc' := 262) rfl (hb hby at_255) rfl ((if0 _ _).trans (feq (by decide : ¬ ((1 : Int32) = (0 : Int32)))).2) (by decide) (by decide) ?_
                refine XS.iconst X216.here hx rfl (hb hby at_262) ?_
                refine XS.iload X216.here hx rfl (hb hby at_263) rfl ?_
                refine XS.imul X216.here hx rfl (hb hby at_265) rfl ?_
                exact kt
              have hk_u218 : u218 = (12 : Int32) := hu218.trans (by decide)
              subst hk_u218
              obtain ⟨cq220, kq220, q220a, q220b, q220c⟩ := isOf hZ214 rfl f216_0
              obtain ⟨_, _, ⟨T220, L220, k220, n220⟩, -, X220, ⟨Lc220, hQ220, l220, y220, z220⟩, st220⟩ := X216.virtualBack hx (y := m_2) (z := m_2) hown214 (mvT hZ214 (tw hw 189 rfl)) (mvT hZ214 (tw hw 89 rfl)) (notFace_of_selects (args := #[]) (mvT hZ214 (tw hw 91 rfl))) (mvT hZ214 (tw hw 91 rfl)) (mvT hZ214 (tw hw 90 rfl)) (by decide) (backOf (W := 0) (rm15 l Z a0 hw [] rs_216 ro_216 (14 : Int32) ([.int (32 : Int32), .int (32 : Int32), .int (32 : Int32), .int (32 : Int32), .int (32 : Int32), .int (32 : Int32), .int (32 : Int32), .int (32 : Int32), .int (32 : Int32), .int (32 : Int32), .int (32 : Int32), .int (32 : Int32), .int (StrChars.lo8 (nar .char u14)), .int (10 : Int32), .int (0 : Int32), .int (0 : Int32)]) zC ko_216 T216.heap n0 O216 hCS sC f216_0 f216_3 f216_4 VO216) hZ214 (tw hw 92 rfl) (tw hw 3 rfl) (by decide) (by decide)) q220a q220c (g := (mkF m 270 #[It p1, It p2, It p3, It p4, It u1, It v11_t0, It (1 : Int32), It u14, It u16, Rf b18, Rf b25, Rf b114, Rf b119, It (1 : Int32), It (3 : Int32), Rf rs_216, It (12 : Int32)] [(.ref rs_216)])) rfl (by rw [hml]; rfl) (Steps.refl _) (argsL := []) (rest := []) (lenOf pd_1 rfl) rfl (w0 rfl) (hb hby at_270) (fun _ _ => ⟨rfl, rfl, (by decide : 13 + 0 ≤ _), (by decide : 86 + 0 ≤ _)⟩)
              dsimp only [Pt.U, Pt.locs, Pt.cells, Pt.slots] at X220 l220 y220 z220 st220 hQ220
              subst l220 y220 z220
              obtain ⟨rfl, N220q, e220⟩ := hQ220
              have N220 := Fr.app N216 N220q
              have sg221 : SG p.tables e below (T220.setTop (mkF m 285 #[It p1, It p2, It p3, It p4, It u1, It v11_t0, It (1 : Int32), It u14, It u16, Rf b18, Rf b25, Rf b114, Rf b119, It (1 : Int32), It (3 : Int32), Rf rs_216, It (12 : Int32)] [])) (T216.setTop (mkF m 266 #[It p1, It p2, It p3, It p4, It u1, It v11_t0, It (1 : Int32), It u14, It u16, Rf b18, Rf b25, Rf b114, Rf b119, It (1 : Int32), It (3 : Int32), Rf rs_216, .unset] [(.int (12 : Int32))])) := by
                intro target kt
                show Steps _ _ _ (T216.setTop (mkF m 266 #[It p1, It p2, It p3, It p4, It u1, It v11_t0, It (1 : Int32), It u14, It u16, Rf b18, Rf b25, Rf b114, Rf b119, It (1 : Int32), It (3 : Int32), Rf rs_216, .unset] [(.int (12 : Int32))])) _
                refine XS.istore X216.here hx rfl (hb hby at_266) rfl (l' := #[It p1, It p2, It p3, It p4, It u1, It v11_t0, It (1 : Int32), It u14, It u16, Rf b18, Rf b25, Rf b114, Rf b119, It (1 : Int32), It (3 : Int32), Rf rs_216, It (12 : Int32)]) rfl ?_
                refine XS.aload X216.here hx rfl (hb hby at_268) rfl rfl ?_
                refine st220.trans ?_
                refine XS.iload X220.here hx rfl (hb hby at_273) rfl ?_
                refine XS.iload X220.here hx rfl (hb hby at_275) rfl ?_
                refine XS.iadd X220.here hx rfl (hb hby at_277) rfl ?_
                refine XS.iconst X220.here hx rfl (hb hby at_278) ?_
                refine XS.iadd X220.here hx rfl (hb hby at_279) rfl ?_
                refine XS.icmpYes X220.here hx rfl (pc0 := 280) (pc' := 285) rfl (hb hby at_280) rfl (teq (by decide : (14 : Int32) = (((12 : Int32) + (1 : Int32)) + (1 : Int32)))).1 (by decide) (by decide) ?_
                exact kt
              exact ⟨T220, _, (1 : Int32), b114, b119, (3 : Int32), rs_216, (12 : Int32), T216.heap, T214.vm, _, ro_216, ko_216, (14 : Int32), [.int (32 : Int32), .int (32 : Int32), .int (32 : Int32), .int (32 : Int32), .int (32 : Int32), .int (32 : Int32), .int (32 : Int32), .int (32 : Int32), .int (32 : Int32), .int (32 : Int32), .int (32 : Int32), .int (32 : Int32), .int (StrChars.lo8 (nar .char u14)), .int (10 : Int32), .int (0 : Int32), .int (0 : Int32)], X220.mono (by decide) (by decide), e220, N220, O216, (((((((((((Keep.refl h33 []).ext E114).trans K117q (allS (Or.inr (Nat.le_trans (Nat.le_refl _) (Nat.le_of_eq g114.symm))) all0)).ext E119).trans K122q (allS (Or.inr (Nat.le_trans (Nat.le_trans (Nat.le_trans (Nat.le_refl _) E114.1) K117q.1) (Nat.le_of_eq g119.symm))) all0)).trans K131 (allS (Or.inr (Nat.le_trans (Nat.le_trans (Nat.le_trans (Nat.le_refl _) E114.1) K117q.1) (Nat.le_of_eq g119.symm))) all0)).trans K145 (allS (Or.inr (Nat.le_trans (Nat.le_trans (Nat.le_trans (Nat.le_refl _) E114.1) K117q.1) (Nat.le_of_eq g119.symm))) all0)).trans K159 (allS (Or.inr (Nat.le_trans (Nat.le_trans (Nat.le_trans (Nat.le_refl _) E114.1) K117q.1) (Nat.le_of_eq g119.symm))) all0)).trans K174 (allS (Or.inr (Nat.le_trans (Nat.le_trans (Nat.le_trans (Nat.le_refl _) E114.1) K117q.1) (Nat.le_of_eq g119.symm))) all0)).trans K214q (allS (Or.inr (Nat.le_trans (Nat.le_trans (Nat.le_trans (Nat.le_trans (Nat.le_refl _) E114.1) K117q.1) E119.1) f122_8)) (allS (Or.inr (Nat.le_trans (Nat.le_trans (Nat.le_trans (Nat.le_trans (Nat.le_refl _) E114.1) K117q.1) E119.1) f122_10)) all0))).trans K216q all0), K216, Y214, (Nat.le_trans (Nat.le_refl _) K216q.1), hZ214, hown214, CR217, (((((((((((CHr.refl CR35.1).trans (CHr.ext E114 CR35.1)).trans (CHr.keep K117q (allS (Safe.ext E114 CR35.1 (Safe.new (Nat.le_of_eq g114.symm))) all0) CR116.1)).trans (CHr.ext E119 CR118.1)).trans (CHr.keep K122q (allS (Safe.exa hZ.alike A119 (by decide) (by decide)) all0) CR121.1)).trans (CQ131)).trans (CQ145)).trans (CQ159)).trans (CQ174)).trans (C214)).trans (CHr.keep K216q all0 CR215.1)), f216_0, f216_3, f216_4, VO216, own_at31 rg_u14 rg_u16, fun target kt => sg124 _ (sg131 _ (sg145 _ (sg159 _ (sg167 _ (sg174 _ (sg182 _ (sg219 _ (sg221 _ (kt)))))))))⟩
      · have hl_u12 : u12 = (2 : Int32) := own_len2 hu12 hc37 hc113
        subst hl_u12
        obtain ⟨T222, h222, X222, e222, E222, A222, D222, -, st222⟩ := newO X33 hx hZ hown (tw hw 1 rfl) (tw hw 2 rfl) (tw hw 3 rfl) e33 (g := (mkF m 103 #[It p1, It p2, It p3, It p4, It u1, It v11_t0, It (2 : Int32), It u14, It u16, Rf b18, Rf b25, .unset, .unset, .unset, .unset, .unset, .unset] [])) rfl (hb hby at_103) (by decide) (by decide)
        obtain ⟨b222, g222⟩ : ∃ z, z = h33.size := ⟨_, rfl⟩
        rw [← g222] at A222 D222 st222
        have ge_b222 : n0 ≤ b222 := Nat.le_trans (own_osz O34) (Nat.le_of_eq g222.symm)
        have sz_b222 : h0.size ≤ b222 := Nat.le_trans K33.1 (Nat.le_of_eq g222.symm)
        have O223 := O34.ext E222
        have K222 := K33.ext E222
        have CR224 := CR35.trans (CHr.ext E222 CR35.1)
        have F_coder_b222 : Fld Z h222 b222 "java/lang/String" "coder" "B" (.int (0 : Int32)) := D222 (Or.inr (tw hw 27 rfl)) (ty := .byte) (by decide)
        have F_value_b222 : Fld Z h222 b222 "java/lang/String" "value" "[B" .null := D222 (Or.inr (tw hw 29 rfl)) (ty := (.array .byte)) (by decide)
        have lat225 : Lat ([(nar .char u14), (nar .char u16)] : List Int32) := own_lat2 rg_u14 rg_u16
        obtain ⟨vv225, _, ⟨T225, L225, k225, n225⟩, -, X225, ⟨Lc225, hQ225, l225, y225, z225⟩, st225⟩ := X222.specialBack hx (y := m_39) rfl hown (mvT hZ (tw hw 4 rfl)) (mvT hZ (tw hw 5 rfl)) (mvT hZ (tw hw 6 rfl)) (by decide) (StrChars.Road.backV (W := 1) hZ (own_wn hw) (kI := 4) (tw hw 2 rfl) (cs := ([(nar .char u14), (nar .char u16)] : List Int32)) (bs := (([(nar .char u14), (nar .char u16)] : List Int32)).map StrChars.lo8) (n := 2) ge_b222 (own_osz O223) A222 F_value_b222 F_coder_b222 (V33.ext E222) (sC.ext O223.2) hCS rfl rfl (by decide) (by decide) lat225.1 rfl (by decide) (by decide)) (g := (mkF m 109 #[It p1, It p2, It p3, It p4, It u1, It v11_t0, It (2 : Int32), It u14, It u16, Rf b18, Rf b25, .unset, .unset, .unset, .unset, .unset, .unset] [(.ref b25), (.ref b222), (.ref b222)])) rfl (by rw [hml]; rfl) (Steps.refl _) (a := b222) (argsL := [(.ref b25)]) (rest := [(.ref b222)]) (lenOf pd_28 rfl) rfl (w0 rfl) (hb hby at_109) (fun _ _ => ⟨rfl, e222, (by decide : 3 + 1 ≤ _), (by decide : 7 + 2 ≤ _)⟩)
        dsimp only [Pt.U, Pt.locs, Pt.cells, Pt.slots] at X225 l225 y225 z225 st225 hQ225
        subst l225 y225 z225
        obtain ⟨rfl, N225q, K225q, A225, Fc225, t225, kb225, gt225, bt225, nt225, Fv225, Va225⟩ := hQ225
        have N225 := Fr.app N33 N225q
        have V225 : Arv Z T225.heap t225 kb225 .byte (Int32.ofNat (([(nar .char u14), (nar .char u16)] : List Int32)).length) (strV ([(nar .char u14), (nar .char u16)] : List Int32)) (.int 0) := Va225
        have sz_t225 : h0.size ≤ t225 := Nat.le_trans K222.1 bt225
        have CR226 := CR224.trans (CHr.keep K225q (allS (Safe.ext E222 CR35.1 (Safe.new (Nat.le_of_eq g222.symm))) all0) CR224.1)
        have Sf225_b222 := (Safe.keep K225q (allS (Safe.ext E222 CR35.1 (Safe.new (Nat.le_of_eq g222.symm))) all0) CR224.1 (Safe.ext E222 CR35.1 (Safe.new (Nat.le_of_eq g222.symm))))
        have O225 := O223.keep K225q (allS ge_b222 all0)
        have K225 := K222.trans K225q (allS (Or.inr sz_b222) all0)
        obtain ⟨T227, h227, X227, e227, E227, A227, D227, -, st227⟩ := newO X225 hx hZ hown (tw hw 30 rfl) (tw hw 31 rfl) (tw hw 32 rfl) rfl (g := (mkF m 114 #[It p1, It p2, It p3, It p4, It u1, It v11_t0, It (2 : Int32), It u14, It u16, Rf b18, Rf b25, Rf b222, .unset, .unset, .unset, .unset, .unset] [])) rfl (hb hby at_114) (by decide) (by decide)
        obtain ⟨b227, g227⟩ : ∃ z, z = T225.heap.size := ⟨_, rfl⟩
        rw [← g227] at A227 D227 st227
        have ge_b227 : n0 ≤ b227 := Nat.le_trans (own_osz O225) (Nat.le_of_eq g227.symm)
        have sz_b227 : h0.size ≤ b227 := Nat.le_trans K225.1 (Nat.le_of_eq g227.symm)
        have O228 := O225.ext E227
        have K227 := K225.ext E227
        have CR229 := CR226.trans (CHr.ext E227 CR226.1)
        have F_text_b227 : Fld Z h227 b227 "com/example/tetrad/tetrad/generate/SourceText" "text" "Ljava/lang/StringBuilder;" .null := D227 (Or.inr (tw hw 56 rfl)) (ty := (.object "java/lang/StringBuilder")) (by decide)
        have F_depth_b227 : Fld Z h227 b227 "com/example/tetrad/tetrad/generate/SourceText" "depth" "I" (.int (0 : Int32)) := D227 (Or.inl (tw hw 71 rfl)) (ty := .int) (by decide)
        obtain ⟨_, _, ⟨T230, L230, k230, n230⟩, -, X230, ⟨Lc230, hQ230, l230, y230, z230⟩, st230⟩ := X227.specialBack hx (y := m_11) rfl hown (mvT hZ (tw hw 33 rfl)) (mvT hZ (tw hw 34 rfl)) (mvT hZ (tw hw 35 rfl)) (by decide) (backOf (W := 1) (rm7 l Z a0 hw [] b227 zC h227 n0 O228 sC A227 F_text_b227 F_depth_b227 ge_b227 hCS) hZ (tw hw 35 rfl) (tw hw 32 rfl) (by decide) (by decide)) (g := (mkF m 118 #[It p1, It p2, It p3, It p4, It u1, It v11_t0, It (2 : Int32), It u14, It u16, Rf b18, Rf b25, Rf b222, .unset, .unset, .unset, .unset, .unset] [(.ref b227), (.ref b227)])) rfl (by rw [hml]; rfl) (Steps.refl _) (a := b227) (argsL := []) (rest := [(.ref b227)]) (lenOf pd_3 rfl) rfl (w0 rfl) (hb hby at_118) (fun _ _ => ⟨rfl, e227, (by decide : 5 + 2 ≤ _), (by decide : 11 + 20 ≤ _)⟩)
        dsimp only [Pt.U, Pt.locs, Pt.cells, Pt.slots] at X230 l230 y230 z230 st230 hQ230
        subst l230 y230 z230
        obtain ⟨sb_230, ro_230, ko_230, rfl, N230q, K230q, O230, f230_0, f230_1, f230_2, f230_3, f230_4, f230_5, f230_6, f230_7, f230_8, f230_9, f230_10⟩ := hQ230
        have N230 := Fr.app N225 N230q
        have CR231 := CR229.trans (CHr.keep K230q (allS (Safe.exa hZ.alike A227 (by decide) (by decide)) all0) CR229.1)
        have K230 := K227.trans K230q (allS (Or.inr sz_b227) all0)
        have sg232 : SG p.tables e below (T230.setTop (mkF m 126 #[It p1, It p2, It p3, It p4, It u1, It v11_t0, It (2 : Int32), It u14, It u16, Rf b18, Rf b25, Rf b222, Rf b227, It (1 : Int32), .unset, .unset, .unset] [])) (T33.setTop (mkF m 71 #[It p1, It p2, It p3, It p4, It u1, It v11_t0, It (2 : Int32), It u14, It u16, Rf b18, Rf b25, .unset, .unset, .unset, .unset, .unset, .unset] [])) := by
          intro target kt
          show Steps _ _ _ (T33.setTop (mkF m 71 #[It p1, It p2, It p3, It p4, It u1, It v11_t0, It (2 : Int32), It u14, It u16, Rf b18, Rf b25, .unset, .unset, .unset, .unset, .unset, .unset] [])) _
          refine XS.iload X33.here hx rfl (hb hby at_71) rfl ?_
          refine XS.ifYes X33.here hx rfl (pc0 := 73) (pc' := 83) rfl (hb hby at_73) rfl ((if0 _ _).trans (feq (by decide : ¬ ((2 : Int32) = (0 : Int32)))).2) (by decide) (by decide) ?_
          refine XS.iload X33.here hx rfl (hb hby at_83) rfl ?_
          refine XS.iconst X33.here hx rfl (hb hby at_85) ?_
          refine XS.icmpYes X33.here hx rfl (pc0 := 86) (pc' := 103) rfl (hb hby at_86) rfl (feq (by decide : ¬ ((2 : Int32) = (1 : Int32)))).2 (by decide) (by decide) ?_
          refine st222 _ ?_
          refine XS.dup X222.here hx rfl (hb hby at_106) rfl rfl ?_
          refine XS.aload X222.here hx rfl (hb hby at_107) rfl rfl ?_
          refine st225.trans ?_
          refine XS.astore X225.here hx rfl (hb hby at_112) rfl rfl (l' := #[It p1, It p2, It p3, It p4, It u1, It v11_t0, It (2 : Int32), It u14, It u16, Rf b18, Rf b25, Rf b222, .unset, .unset, .unset, .unset, .unset]) rfl ?_
          refine st227 _ ?_
          refine XS.dup X227.here hx rfl (hb hby at_117) rfl rfl ?_
          refine st230.trans ?_
          refine XS.astore X230.here hx rfl (hb hby at_121) rfl rfl (l' := #[It p1, It p2, It p3, It p4, It u1, It v11_t0, It (2 : Int32), It u14, It u16, Rf b18, Rf b25, Rf b222, Rf b227, .unset, .unset, .unset, .unset]) rfl ?_
          refine XS.iconst X230.here hx rfl (hb hby at_123) ?_
          refine XS.istore X230.here hx rfl (hb hby at_124) rfl (l' := #[It p1, It p2, It p3, It p4, It u1, It v11_t0, It (2 : Int32), It u14, It u16, Rf b18, Rf b25, Rf b222, Rf b227, It (1 : Int32), .unset, .unset, .unset]) rfl ?_
          exact kt
        obtain ⟨T239, L239, h239, vm239, kk239, dv239, X239, e239, N239, O239, K239, KK239, Y239, Yk239, hZ239, hown239, CR_239, CQ239, FD239, FT239, ed239, sg239⟩ : ∃ (T' : State) (L' : List Loc) (h' : Heap) (vm' : Vm) (k' : Nat) (dv239 : Int32), Stand p l e room_1 (s.setVm vm') m #[(.int p1), (.int p2), (.int p3), (.int p4)] below meth c T' L' 7 31 ∧ T'.heap = h' ∧ Fr n0 L' ∧ Old Z n0 h' ∧ Keep T230.heap h' [b227] ∧ Keep h0 h' [] ∧ s.Since vm' k' ∧ k' ≤ h'.size ∧ Z.Warmed39 (s.setVm vm').vm ∧ (s.setVm vm').vm.findClass "com/example/tetrad/tetrad/generate/SourceTextIndentPinLaw" = some m.cls ∧ CHr Z own_EL s.vm h0 vm' h' ∧ CHr Z own_EL s.vm T230.heap vm' h' ∧ Fld Z h' b227 "com/example/tetrad/tetrad/generate/SourceText" "depth" "I" (.int dv239) ∧ Fld Z h' b227 "com/example/tetrad/tetrad/generate/SourceText" "text" "Ljava/lang/StringBuilder;" (.ref sb_230) ∧ dv239 = (if u1 < (1 : Int32) then (0 : Int32) else ((0 : Int32) + (1 : Int32))) ∧ ∀ target, Steps p.tables e below (T'.setTop (mkF m 154 #[It p1, It p2, It p3, It p4, It u1, It v11_t0, It (2 : Int32), It u14, It u16, Rf b18, Rf b25, Rf b222, Rf b227, It (1 : Int32), .unset, .unset, .unset] [])) target → Steps p.tables e below (T230.setTop (mkF m 126 #[It p1, It p2, It p3, It p4, It u1, It v11_t0, It (2 : Int32), It u14, It u16, Rf b18, Rf b25, Rf b222, Rf b227, It (1 : Int32), .unset, .unset, .unset] [])) target := by
          have sg233 : SG p.tables e below (T230.setTop (mkF m 129 #[It p1, It p2, It p3, It p4, It u1, It v11_t0, It (2 : Int32), It u14, It u16, Rf b18, Rf b25, Rf b222, Rf b227, It (1 : Int32), .unset, .unset, .unset] [(.int (1 : Int32)), (.int u1)])) (T230.setTop (mkF m 126 #[It p1, It p2, It p3, It p4, It u1, It v11_t0, It (2 : Int32), It u14, It u16, Rf b18, Rf b25, Rf b222, Rf b227, It (1 : Int32), .unset, .unset, .unset] [])) := by
            intro target kt
            show Steps _ _ _ (T230.setTop (mkF m 126 #[It p1, It p2, It p3, It p4, It u1, It v11_t0, It (2 : Int32), It u14, It u16, Rf b18, Rf b25, Rf b222, Rf b227, It (1 : Int32), .unset, .unset, .unset] [])) _
            refine XS.iload X230.here hx rfl (hb hby at_126) rfl ?_
            refine XS.iconst X230.here hx rfl (hb hby at_128) ?_
            exact kt
          by_cases hc234 : u1 < (1 : Int32)
          · have sg235 : SG p.tables e below (T230.setTop (mkF m 154 #[It p1, It p2, It p3, It p4, It u1, It v11_t0, It (2 : Int32), It u14, It u16, Rf b18, Rf b25, Rf b222, Rf b227, It (1 : Int32), .unset, .unset, .unset] [])) (T230.setTop (mkF m 129 #[It p1, It p2, It p3, It p4, It u1, It v11_t0, It (2 : Int32), It u14, It u16, Rf b18, Rf b25, Rf b222, Rf b227, It (1 : Int32), .unset, .unset, .unset] [(.int (1 : Int32)), (.int u1)])) := by
              intro target kt
              show Steps _ _ _ (T230.setTop (mkF m 129 #[It p1, It p2, It p3, It p4, It u1, It v11_t0, It (2 : Int32), It u14, It u16, Rf b18, Rf b25, Rf b222, Rf b227, It (1 : Int32), .unset, .unset, .unset] [(.int (1 : Int32)), (.int u1)])) _
              refine XS.icmpYes X230.here hx rfl (pc0 := 129) (pc' := 154) rfl (hb hby at_129) rfl (tlt hc234).1 (by decide) (by decide) ?_
              exact kt
            exact ⟨T230, _, T230.heap, s.vm, _, (0 : Int32), X230.mono (by decide) (by decide), rfl, N230, O230, (Keep.refl T230.heap [b227]), K230, Y0, (Nat.le_trans (Nat.le_trans (Nat.le_trans (Nat.le_trans (Nat.le_trans (Nat.le_trans (Nat.le_trans (Nat.le_trans (Nat.le_trans Yk0 E18.1) (Keep.of_wr W22).1) E25.1) (Keep.of_wr W29).1) (Keep.of_wr W33).1) E222.1) K225q.1) E227.1) K230q.1), hZ, hown, CR231, (CHr.refl CR231.1), f230_1, f230_0, (if_pos hc234).symm, fun target kt => sg233 _ (sg235 _ (kt))⟩
          · obtain ⟨cq236, kq236, q236a, q236b, q236c⟩ := isOf hZ rfl (A227.keep K230q)
            obtain ⟨_, _, ⟨T236, L236, k236, n236⟩, -, X236, ⟨Lc236, hQ236, l236, y236, z236⟩, st236⟩ := X230.virtualBack hx (y := m_12) (z := m_12) hown (mvT hZ (tw hw 216 rfl)) (mvT hZ (tw hw 217 rfl)) (notFace_of_selects (args := #[]) (mvT hZ (tw hw 219 rfl))) (mvT hZ (tw hw 219 rfl)) (mvT hZ (tw hw 218 rfl)) (by decide) (backOf (W := 0) (rm42 l Z a0 hw [] b227 (0 : Int32) sb_230 T230.heap n0 O230 (A227.keep K230q) f230_1 f230_0 ge_b227) hZ (tw hw 220 rfl) (tw hw 32 rfl) (by decide) (by decide)) q236a q236c (g := (mkF m 139 #[It p1, It p2, It p3, It p4, It u1, It v11_t0, It (2 : Int32), It u14, It u16, Rf b18, Rf b25, Rf b222, Rf b227, It (1 : Int32), .unset, .unset, .unset] [(.ref b227)])) rfl (by rw [hml]; rfl) (Steps.refl _) (argsL := []) (rest := []) (lenOf pd_26 rfl) rfl (w0 rfl) (hb hby at_139) (fun _ _ => ⟨rfl, rfl, (by decide : 7 + 0 ≤ _), (by decide : 31 + 0 ≤ _)⟩)
            dsimp only [Pt.U, Pt.locs, Pt.cells, Pt.slots] at X236 l236 y236 z236 st236 hQ236
            subst l236 y236 z236
            obtain ⟨rfl, N236q, K236q, O236, f236_0, f236_1⟩ := hQ236
            have N236 := Fr.app N230 N236q
            have CR237 := CR231.trans (CHr.keep K236q (allS (Safe.exa hZ.alike (A227.keep K230q) (by decide) (by decide)) all0) CR231.1)
            have K236 := K230.trans K236q (allS (Or.inr sz_b227) all0)
            have sg238 : SG p.tables e below (T236.setTop (mkF m 154 #[It p1, It p2, It p3, It p4, It u1, It v11_t0, It (2 : Int32), It u14, It u16, Rf b18, Rf b25, Rf b222, Rf b227, It (1 : Int32), .unset, .unset, .unset] [])) (T230.setTop (mkF m 129 #[It p1, It p2, It p3, It p4, It u1, It v11_t0, It (2 : Int32), It u14, It u16, Rf b18, Rf b25, Rf b222, Rf b227, It (1 : Int32), .unset, .unset, .unset] [(.int (1 : Int32)), (.int u1)])) := by
              intro target kt
              show Steps _ _ _ (T230.setTop (mkF m 129 #[It p1, It p2, It p3, It p4, It u1, It v11_t0, It (2 : Int32), It u14, It u16, Rf b18, Rf b25, Rf b222, Rf b227, It (1 : Int32), .unset, .unset, .unset] [(.int (1 : Int32)), (.int u1)])) _
              refine XS.icmpNo X230.here hx rfl (hb hby at_129) rfl (flt hc234).1 ?_
              refine XS.iload X230.here hx rfl (hb hby at_132) rfl ?_
              refine XS.ifNo X230.here hx rfl (hb hby at_134) rfl ((if0 _ _).trans (feq (by decide : ¬ ((1 : Int32) = (0 : Int32)))).1) ?_
              refine XS.aload X230.here hx rfl (hb hby at_137) rfl rfl ?_
              refine st236.trans ?_
              refine XS.aload X236.here hx rfl (hb hby at_142) rfl rfl ?_
              refine Jvm.RoadKit.acmp (g := (mkF m 144 #[It p1, It p2, It p3, It p4, It u1, It v11_t0, It (2 : Int32), It u14, It u16, Rf b18, Rf b25, Rf b222, Rf b227, It (1 : Int32), .unset, .unset, .unset] [(.ref b227), (.ref b227)])) X236 hx rfl rfl rfl (pc0 := 144) (pc' := 147) (same := true) rfl (hb hby at_144) rfl (decide_eq_true rfl) (by decide) (by decide) ?_
              refine XS.iconst X236.here hx rfl (hb hby at_147) ?_
              refine XS.goto X236.here hx rfl (pc0 := 148) (pc' := 152) rfl (hb hby at_148) (by decide) (by decide) ?_
              refine XS.istore X236.here hx rfl (hb hby at_152) rfl (l' := #[It p1, It p2, It p3, It p4, It u1, It v11_t0, It (2 : Int32), It u14, It u16, Rf b18, Rf b25, Rf b222, Rf b227, It (1 : Int32), .unset, .unset, .unset]) rfl ?_
              exact kt
            exact ⟨T236, _, T236.heap, s.vm, _, ((0 : Int32) + (1 : Int32)), X236.mono (by decide) (by decide), rfl, N236, O236, ((Keep.refl T230.heap [b227]).trans K236q (allS (Or.inl (List.mem_of_getElem? (i := 0) rfl)) all0)), K236, Y0, (Nat.le_trans (Nat.le_trans (Nat.le_trans (Nat.le_trans (Nat.le_trans (Nat.le_trans (Nat.le_trans (Nat.le_trans (Nat.le_trans (Nat.le_trans Yk0 E18.1) (Keep.of_wr W22).1) E25.1) (Keep.of_wr W29).1) (Keep.of_wr W33).1) E222.1) K225q.1) E227.1) K230q.1) K236q.1), hZ, hown, CR237, ((CHr.refl CR231.1).trans (CHr.keep K236q (allS (Safe.exa hZ.alike (A227.keep K230q) (by decide) (by decide)) all0) CR231.1)), f236_0, f236_1, (if_neg hc234).symm, fun target kt => sg233 _ (sg238 _ (kt))⟩
        have Rn240 := (CQ239.safe f230_6.lt (Safe.keep K230q (allS (Safe.exa hZ.alike A227 (by decide) (by decide)) all0) CR229.1 (Safe.new f230_10)))
        have Rn241 := (CQ239.safe f230_2.lt (Safe.keep K230q (allS (Safe.exa hZ.alike A227 (by decide) (by decide)) all0) CR229.1 (Safe.new f230_8)))
        have Rn242 := (f230_6.keep K239 (ninS (Ne.symm (Nat.ne_of_lt (Nat.lt_of_lt_of_le A227.lt f230_10))) nin0))
        have Rn243 := (f230_2.keep K239)
        have Rn244 := (f230_4.keep K239 (ninS (Ne.symm (Nat.ne_of_lt (Nat.lt_of_lt_of_le A227.lt f230_8))) nin0))
        have Rn245 := (f230_5.keep K239 (ninS (Ne.symm (Nat.ne_of_lt (Nat.lt_of_lt_of_le A227.lt f230_8))) nin0))
        have Rn246 := (f230_3.keep K239 (ninS (Ne.symm (Nat.ne_of_lt (Nat.lt_of_lt_of_le A227.lt f230_8))) nin0))
        obtain ⟨T253, L253, h253, vm253, kk253, dv253, X253, e253, N253, O253, K253, KK253, Y253, Yk253, hZ253, hown253, CR_253, CQ253, FD253, FT253, ed253, sg253⟩ : ∃ (T' : State) (L' : List Loc) (h' : Heap) (vm' : Vm) (k' : Nat) (dv253 : Int32), Stand p l e room_1 (s.setVm vm') m #[(.int p1), (.int p2), (.int p3), (.int p4)] below meth c T' L' 7 31 ∧ T'.heap = h' ∧ Fr n0 L' ∧ Old Z n0 h' ∧ Keep h239 h' [b227] ∧ Keep h0 h' [] ∧ s.Since vm' k' ∧ k' ≤ h'.size ∧ Z.Warmed39 (s.setVm vm').vm ∧ (s.setVm vm').vm.findClass "com/example/tetrad/tetrad/generate/SourceTextIndentPinLaw" = some m.cls ∧ CHr Z own_EL s.vm h0 vm' h' ∧ CHr Z own_EL vm239 h239 vm' h' ∧ Fld Z h' b227 "com/example/tetrad/tetrad/generate/SourceText" "depth" "I" (.int dv253) ∧ Fld Z h' b227 "com/example/tetrad/tetrad/generate/SourceText" "text" "Ljava/lang/StringBuilder;" (.ref sb_230) ∧ dv253 = (if u1 < (2 : Int32) then dv239 else (dv239 + (1 : Int32))) ∧ ∀ target, Steps p.tables e below (T'.setTop (mkF m 182 #[It p1, It p2, It p3, It p4, It u1, It v11_t0, It (2 : Int32), It u14, It u16, Rf b18, Rf b25, Rf b222, Rf b227, It (1 : Int32), .unset, .unset, .unset] [])) target → Steps p.tables e below (T239.setTop (mkF m 154 #[It p1, It p2, It p3, It p4, It u1, It v11_t0, It (2 : Int32), It u14, It u16, Rf b18, Rf b25, Rf b222, Rf b227, It (1 : Int32), .unset, .unset, .unset] [])) target := by
          have sg247 : SG p.tables e below (T239.setTop (mkF m 157 #[It p1, It p2, It p3, It p4, It u1, It v11_t0, It (2 : Int32), It u14, It u16, Rf b18, Rf b25, Rf b222, Rf b227, It (1 : Int32), .unset, .unset, .unset] [(.int (2 : Int32)), (.int u1)])) (T239.setTop (mkF m 154 #[It p1, It p2, It p3, It p4, It u1, It v11_t0, It (2 : Int32), It u14, It u16, Rf b18, Rf b25, Rf b222, Rf b227, It (1 : Int32), .unset, .unset, .unset] [])) := by
            intro target kt
            show Steps _ _ _ (T239.setTop (mkF m 154 #[It p1, It p2, It p3, It p4, It u1, It v11_t0, It (2 : Int32), It u14, It u16, Rf b18, Rf b25, Rf b222, Rf b227, It (1 : Int32), .unset, .unset, .unset] [])) _
            refine XS.iload X239.here hx rfl (hb hby at_154) rfl ?_
            refine XS.iconst X239.here hx rfl (hb hby at_156) ?_
            exact kt
          by_cases hc248 : u1 < (2 : Int32)
          · have sg249 : SG p.tables e below (T239.setTop (mkF m 182 #[It p1, It p2, It p3, It p4, It u1, It v11_t0, It (2 : Int32), It u14, It u16, Rf b18, Rf b25, Rf b222, Rf b227, It (1 : Int32), .unset, .unset, .unset] [])) (T239.setTop (mkF m 157 #[It p1, It p2, It p3, It p4, It u1, It v11_t0, It (2 : Int32), It u14, It u16, Rf b18, Rf b25, Rf b222, Rf b227, It (1 : Int32), .unset, .unset, .unset] [(.int (2 : Int32)), (.int u1)])) := by
              intro target kt
              show Steps _ _ _ (T239.setTop (mkF m 157 #[It p1, It p2, It p3, It p4, It u1, It v11_t0, It (2 : Int32), It u14, It u16, Rf b18, Rf b25, Rf b222, Rf b227, It (1 : Int32), .unset, .unset, .unset] [(.int (2 : Int32)), (.int u1)])) _
              refine XS.icmpYes X239.here hx rfl (pc0 := 157) (pc' := 182) rfl (hb hby at_157) rfl (tlt hc248).1 (by decide) (by decide) ?_
              exact kt
            exact ⟨T239, _, h239, vm239, _, dv239, X239.mono (by decide) (by decide), e239, N239, O239, (Keep.refl h239 [b227]), KK239, Y239, Yk239, hZ239, hown239, CR_239, (CHr.refl CR_239.1), FD239, FT239, (if_pos hc248).symm, fun target kt => sg247 _ (sg249 _ (kt))⟩
          · obtain ⟨cq250, kq250, q250a, q250b, q250c⟩ := isOf hZ239 e239 ((A227.keep K230q).keep K239)
            obtain ⟨_, _, ⟨T250, L250, k250, n250⟩, -, X250, ⟨Lc250, hQ250, l250, y250, z250⟩, st250⟩ := X239.virtualBack hx (y := m_12) (z := m_12) hown239 (mvT hZ239 (tw hw 216 rfl)) (mvT hZ239 (tw hw 217 rfl)) (notFace_of_selects (args := #[]) (mvT hZ239 (tw hw 219 rfl))) (mvT hZ239 (tw hw 219 rfl)) (mvT hZ239 (tw hw 218 rfl)) (by decide) (backOf (W := 0) (rm42 l Z a0 hw [] b227 dv239 sb_230 h239 n0 O239 ((A227.keep K230q).keep K239) FD239 FT239 ge_b227) hZ239 (tw hw 220 rfl) (tw hw 32 rfl) (by decide) (by decide)) q250a q250c (g := (mkF m 167 #[It p1, It p2, It p3, It p4, It u1, It v11_t0, It (2 : Int32), It u14, It u16, Rf b18, Rf b25, Rf b222, Rf b227, It (1 : Int32), .unset, .unset, .unset] [(.ref b227)])) rfl (by rw [hml]; rfl) (Steps.refl _) (argsL := []) (rest := []) (lenOf pd_26 rfl) rfl (w0 rfl) (hb hby at_167) (fun _ _ => ⟨rfl, e239, (by decide : 7 + 0 ≤ _), (by decide : 31 + 0 ≤ _)⟩)
            dsimp only [Pt.U, Pt.locs, Pt.cells, Pt.slots] at X250 l250 y250 z250 st250 hQ250
            subst l250 y250 z250
            obtain ⟨rfl, N250q, K250q, O250, f250_0, f250_1⟩ := hQ250
            have N250 := Fr.app N239 N250q
            have CR251 := CR_239.trans (CHr.keep K250q (allS (Safe.exa hZ239.alike ((A227.keep K230q).keep K239) (by decide) (by decide)) all0) CR_239.1)
            have K250 := KK239.trans K250q (allS (Or.inr sz_b227) all0)
            have sg252 : SG p.tables e below (T250.setTop (mkF m 182 #[It p1, It p2, It p3, It p4, It u1, It v11_t0, It (2 : Int32), It u14, It u16, Rf b18, Rf b25, Rf b222, Rf b227, It (1 : Int32), .unset, .unset, .unset] [])) (T239.setTop (mkF m 157 #[It p1, It p2, It p3, It p4, It u1, It v11_t0, It (2 : Int32), It u14, It u16, Rf b18, Rf b25, Rf b222, Rf b227, It (1 : Int32), .unset, .unset, .unset] [(.int (2 : Int32)), (.int u1)])) := by
              intro target kt
              show Steps _ _ _ (T239.setTop (mkF m 157 #[It p1, It p2, It p3, It p4, It u1, It v11_t0, It (2 : Int32), It u14, It u16, Rf b18, Rf b25, Rf b222, Rf b227, It (1 : Int32), .unset, .unset, .unset] [(.int (2 : Int32)), (.int u1)])) _
              refine XS.icmpNo X239.here hx rfl (hb hby at_157) rfl (flt hc248).1 ?_
              refine XS.iload X239.here hx rfl (hb hby at_160) rfl ?_
              refine XS.ifNo X239.here hx rfl (hb hby at_162) rfl ((if0 _ _).trans (feq (by decide : ¬ ((1 : Int32) = (0 : Int32)))).1) ?_
              refine XS.aload X239.here hx rfl (hb hby at_165) rfl rfl ?_
              refine st250.trans ?_
              refine XS.aload X250.here hx rfl (hb hby at_170) rfl rfl ?_
              refine Jvm.RoadKit.acmp (g := (mkF m 172 #[It p1, It p2, It p3, It p4, It u1, It v11_t0, It (2 : Int32), It u14, It u16, Rf b18, Rf b25, Rf b222, Rf b227, It (1 : Int32), .unset, .unset, .unset] [(.ref b227), (.ref b227)])) X250 hx rfl rfl rfl (pc0 := 172) (pc' := 175) (same := true) rfl (hb hby at_172) rfl (decide_eq_true rfl) (by decide) (by decide) ?_
              refine XS.iconst X250.here hx rfl (hb hby at_175) ?_
              refine XS.goto X250.here hx rfl (pc0 := 176) (pc' := 180) rfl (hb hby at_176) (by decide) (by decide) ?_
              refine XS.istore X250.here hx rfl (hb hby at_180) rfl (l' := #[It p1, It p2, It p3, It p4, It u1, It v11_t0, It (2 : Int32), It u14, It u16, Rf b18, Rf b25, Rf b222, Rf b227, It (1 : Int32), .unset, .unset, .unset]) rfl ?_
              exact kt
            exact ⟨T250, _, T250.heap, vm239, _, (dv239 + (1 : Int32)), X250.mono (by decide) (by decide), rfl, N250, O250, ((Keep.refl h239 [b227]).trans K250q (allS (Or.inl (List.mem_of_getElem? (i := 0) rfl)) all0)), K250, Y239, (Nat.le_trans Yk239 K250q.1), hZ239, hown239, CR251, ((CHr.refl CR_239.1).trans (CHr.keep K250q (allS (Safe.exa hZ239.alike ((A227.keep K230q).keep K239) (by decide) (by decide)) all0) CR_239.1)), f250_0, f250_1, (if_neg hc248).symm, fun target kt => sg247 _ (sg252 _ (kt))⟩
        have Rn254 := (CQ253.safe Rn242.lt Rn240)
        have Rn255 := (CQ253.safe Rn243.lt Rn241)
        have Rn256 := (Rn242.keep K253 (ninS (Ne.symm (Nat.ne_of_lt (Nat.lt_of_lt_of_le A227.lt f230_10))) nin0))
        have Rn257 := (Rn243.keep K253)
        have Rn258 := (Rn244.keep K253 (ninS (Ne.symm (Nat.ne_of_lt (Nat.lt_of_lt_of_le A227.lt f230_8))) nin0))
        have Rn259 := (Rn245.keep K253 (ninS (Ne.symm (Nat.ne_of_lt (Nat.lt_of_lt_of_le A227.lt f230_8))) nin0))
        have Rn260 := (Rn246.keep K253 (ninS (Ne.symm (Nat.ne_of_lt (Nat.lt_of_lt_of_le A227.lt f230_8))) nin0))
        obtain ⟨T267, L267, h267, vm267, kk267, dv267, X267, e267, N267, O267, K267, KK267, Y267, Yk267, hZ267, hown267, CR_267, CQ267, FD267, FT267, ed267, sg267⟩ : ∃ (T' : State) (L' : List Loc) (h' : Heap) (vm' : Vm) (k' : Nat) (dv267 : Int32), Stand p l e room_1 (s.setVm vm') m #[(.int p1), (.int p2), (.int p3), (.int p4)] below meth c T' L' 7 31 ∧ T'.heap = h' ∧ Fr n0 L' ∧ Old Z n0 h' ∧ Keep h253 h' [b227] ∧ Keep h0 h' [] ∧ s.Since vm' k' ∧ k' ≤ h'.size ∧ Z.Warmed39 (s.setVm vm').vm ∧ (s.setVm vm').vm.findClass "com/example/tetrad/tetrad/generate/SourceTextIndentPinLaw" = some m.cls ∧ CHr Z own_EL s.vm h0 vm' h' ∧ CHr Z own_EL vm253 h253 vm' h' ∧ Fld Z h' b227 "com/example/tetrad/tetrad/generate/SourceText" "depth" "I" (.int dv267) ∧ Fld Z h' b227 "com/example/tetrad/tetrad/generate/SourceText" "text" "Ljava/lang/StringBuilder;" (.ref sb_230) ∧ dv267 = (if u1 < (3 : Int32) then dv253 else (dv253 + (1 : Int32))) ∧ ∀ target, Steps p.tables e below (T'.setTop (mkF m 210 #[It p1, It p2, It p3, It p4, It u1, It v11_t0, It (2 : Int32), It u14, It u16, Rf b18, Rf b25, Rf b222, Rf b227, It (1 : Int32), .unset, .unset, .unset] [])) target → Steps p.tables e below (T253.setTop (mkF m 182 #[It p1, It p2, It p3, It p4, It u1, It v11_t0, It (2 : Int32), It u14, It u16, Rf b18, Rf b25, Rf b222, Rf b227, It (1 : Int32), .unset, .unset, .unset] [])) target := by
          have sg261 : SG p.tables e below (T253.setTop (mkF m 185 #[It p1, It p2, It p3, It p4, It u1, It v11_t0, It (2 : Int32), It u14, It u16, Rf b18, Rf b25, Rf b222, Rf b227, It (1 : Int32), .unset, .unset, .unset] [(.int (3 : Int32)), (.int u1)])) (T253.setTop (mkF m 182 #[It p1, It p2, It p3, It p4, It u1, It v11_t0, It (2 : Int32), It u14, It u16, Rf b18, Rf b25, Rf b222, Rf b227, It (1 : Int32), .unset, .unset, .unset] [])) := by
            intro target kt
            show Steps _ _ _ (T253.setTop (mkF m 182 #[It p1, It p2, It p3, It p4, It u1, It v11_t0, It (2 : Int32), It u14, It u16, Rf b18, Rf b25, Rf b222, Rf b227, It (1 : Int32), .unset, .unset, .unset] [])) _
            refine XS.iload X253.here hx rfl (hb hby at_182) rfl ?_
            refine XS.iconst X253.here hx rfl (hb hby at_184) ?_
            exact kt
          by_cases hc262 : u1 < (3 : Int32)
          · have sg263 : SG p.tables e below (T253.setTop (mkF m 210 #[It p1, It p2, It p3, It p4, It u1, It v11_t0, It (2 : Int32), It u14, It u16, Rf b18, Rf b25, Rf b222, Rf b227, It (1 : Int32), .unset, .unset, .unset] [])) (T253.setTop (mkF m 185 #[It p1, It p2, It p3, It p4, It u1, It v11_t0, It (2 : Int32), It u14, It u16, Rf b18, Rf b25, Rf b222, Rf b227, It (1 : Int32), .unset, .unset, .unset] [(.int (3 : Int32)), (.int u1)])) := by
              intro target kt
              show Steps _ _ _ (T253.setTop (mkF m 185 #[It p1, It p2, It p3, It p4, It u1, It v11_t0, It (2 : Int32), It u14, It u16, Rf b18, Rf b25, Rf b222, Rf b227, It (1 : Int32), .unset, .unset, .unset] [(.int (3 : Int32)), (.int u1)])) _
              refine XS.icmpYes X253.here hx rfl (pc0 := 185) (pc' := 210) rfl (hb hby at_185) rfl (tlt hc262).1 (by decide) (by decide) ?_
              exact kt
            exact ⟨T253, _, h253, vm253, _, dv253, X253.mono (by decide) (by decide), e253, N253, O253, (Keep.refl h253 [b227]), KK253, Y253, Yk253, hZ253, hown253, CR_253, (CHr.refl CR_253.1), FD253, FT253, (if_pos hc262).symm, fun target kt => sg261 _ (sg263 _ (kt))⟩
          · obtain ⟨cq264, kq264, q264a, q264b, q264c⟩ := isOf hZ253 e253 (((A227.keep K230q).keep K239).keep K253)
            obtain ⟨_, _, ⟨T264, L264, k264, n264⟩, -, X264, ⟨Lc264, hQ264, l264, y264, z264⟩, st264⟩ := X253.virtualBack hx (y := m_12) (z := m_12) hown253 (mvT hZ253 (tw hw 216 rfl)) (mvT hZ253 (tw hw 217 rfl)) (notFace_of_selects (args := #[]) (mvT hZ253 (tw hw 219 rfl))) (mvT hZ253 (tw hw 219 rfl)) (mvT hZ253 (tw hw 218 rfl)) (by decide) (backOf (W := 0) (rm42 l Z a0 hw [] b227 dv253 sb_230 h253 n0 O253 (((A227.keep K230q).keep K239).keep K253) FD253 FT253 ge_b227) hZ253 (tw hw 220 rfl) (tw hw 32 rfl) (by decide) (by decide)) q264a q264c (g := (mkF m 195 #[It p1, It p2, It p3, It p4, It u1, It v11_t0, It (2 : Int32), It u14, It u16, Rf b18, Rf b25, Rf b222, Rf b227, It (1 : Int32), .unset, .unset, .unset] [(.ref b227)])) rfl (by rw [hml]; rfl) (Steps.refl _) (argsL := []) (rest := []) (lenOf pd_26 rfl) rfl (w0 rfl) (hb hby at_195) (fun _ _ => ⟨rfl, e253, (by decide : 7 + 0 ≤ _), (by decide : 31 + 0 ≤ _)⟩)
            dsimp only [Pt.U, Pt.locs, Pt.cells, Pt.slots] at X264 l264 y264 z264 st264 hQ264
            subst l264 y264 z264
            obtain ⟨rfl, N264q, K264q, O264, f264_0, f264_1⟩ := hQ264
            have N264 := Fr.app N253 N264q
            have CR265 := CR_253.trans (CHr.keep K264q (allS (Safe.exa hZ253.alike (((A227.keep K230q).keep K239).keep K253) (by decide) (by decide)) all0) CR_253.1)
            have K264 := KK253.trans K264q (allS (Or.inr sz_b227) all0)
            have sg266 : SG p.tables e below (T264.setTop (mkF m 210 #[It p1, It p2, It p3, It p4, It u1, It v11_t0, It (2 : Int32), It u14, It u16, Rf b18, Rf b25, Rf b222, Rf b227, It (1 : Int32), .unset, .unset, .unset] [])) (T253.setTop (mkF m 185 #[It p1, It p2, It p3, It p4, It u1, It v11_t0, It (2 : Int32), It u14, It u16, Rf b18, Rf b25, Rf b222, Rf b227, It (1 : Int32), .unset, .unset, .unset] [(.int (3 : Int32)), (.int u1)])) := by
              intro target kt
              show Steps _ _ _ (T253.setTop (mkF m 185 #[It p1, It p2, It p3, It p4, It u1, It v11_t0, It (2 : Int32), It u14, It u16, Rf b18, Rf b25, Rf b222, Rf b227, It (1 : Int32), .unset, .unset, .unset] [(.int (3 : Int32)), (.int u1)])) _
              refine XS.icmpNo X253.here hx rfl (hb hby at_185) rfl (flt hc262).1 ?_
              refine XS.iload X253.here hx rfl (hb hby at_188) rfl ?_
              refine XS.ifNo X253.here hx rfl (hb hby at_190) rfl ((if0 _ _).trans (feq (by decide : ¬ ((1 : Int32) = (0 : Int32)))).1) ?_
              refine XS.aload X253.here hx rfl (hb hby at_193) rfl rfl ?_
              refine st264.trans ?_
              refine XS.aload X264.here hx rfl (hb hby at_198) rfl rfl ?_
              refine Jvm.RoadKit.acmp (g := (mkF m 200 #[It p1, It p2, It p3, It p4, It u1, It v11_t0, It (2 : Int32), It u14, It u16, Rf b18, Rf b25, Rf b222, Rf b227, It (1 : Int32), .unset, .unset, .unset] [(.ref b227), (.ref b227)])) X264 hx rfl rfl rfl (pc0 := 200) (pc' := 203) (same := true) rfl (hb hby at_200) rfl (decide_eq_true rfl) (by decide) (by decide) ?_
              refine XS.iconst X264.here hx rfl (hb hby at_203) ?_
              refine XS.goto X264.here hx rfl (pc0 := 204) (pc' := 208) rfl (hb hby at_204) (by decide) (by decide) ?_
              refine XS.istore X264.here hx rfl (hb hby at_208) rfl (l' := #[It p1, It p2, It p3, It p4, It u1, It v11_t0, It (2 : Int32), It u14, It u16, Rf b18, Rf b25, Rf b222, Rf b227, It (1 : Int32), .unset, .unset, .unset]) rfl ?_
              exact kt
            exact ⟨T264, _, T264.heap, vm253, _, (dv253 + (1 : Int32)), X264.mono (by decide) (by decide), rfl, N264, O264, ((Keep.refl h253 [b227]).trans K264q (allS (Or.inl (List.mem_of_getElem? (i := 0) rfl)) all0)), K264, Y253, (Nat.le_trans Yk253 K264q.1), hZ253, hown253, CR265, ((CHr.refl CR_253.1).trans (CHr.keep K264q (allS (Safe.exa hZ253.alike (((A227.keep K230q).keep K239).keep K253) (by decide) (by decide)) all0) CR_253.1)), f264_0, f264_1, (if_neg hc262).symm, fun target kt => sg261 _ (sg266 _ (kt))⟩
        have Rn268 := (CQ267.safe Rn256.lt Rn254)
        have Rn269 := (CQ267.safe Rn257.lt Rn255)
        have Rn270 := (Rn256.keep K267 (ninS (Ne.symm (Nat.ne_of_lt (Nat.lt_of_lt_of_le A227.lt f230_10))) nin0))
        have Rn271 := (Rn257.keep K267)
        have Rn272 := (Rn258.keep K267 (ninS (Ne.symm (Nat.ne_of_lt (Nat.lt_of_lt_of_le A227.lt f230_8))) nin0))
        have Rn273 := (Rn259.keep K267 (ninS (Ne.symm (Nat.ne_of_lt (Nat.lt_of_lt_of_le A227.lt f230_8))) nin0))
        have Rn274 := (Rn260.keep K267 (ninS (Ne.symm (Nat.ne_of_lt (Nat.lt_of_lt_of_le A227.lt f230_8))) nin0))
        have sg275 : SG p.tables e below (T267.setTop (mkF m 214 #[It p1, It p2, It p3, It p4, It u1, It v11_t0, It (2 : Int32), It u14, It u16, Rf b18, Rf b25, Rf b222, Rf b227, It (1 : Int32), It u1, .unset, .unset] [])) (T267.setTop (mkF m 210 #[It p1, It p2, It p3, It p4, It u1, It v11_t0, It (2 : Int32), It u14, It u16, Rf b18, Rf b25, Rf b222, Rf b227, It (1 : Int32), .unset, .unset, .unset] [])) := by
          intro target kt
          show Steps _ _ _ (T267.setTop (mkF m 210 #[It p1, It p2, It p3, It p4, It u1, It v11_t0, It (2 : Int32), It u14, It u16, Rf b18, Rf b25, Rf b222, Rf b227, It (1 : Int32), .unset, .unset, .unset] [])) _
          refine XS.iload X267.here hx rfl (hb hby at_210) rfl ?_
          refine XS.istore X267.here hx rfl (hb hby at_212) rfl (l' := #[It p1, It p2, It p3, It p4, It u1, It v11_t0, It (2 : Int32), It u14, It u16, Rf b18, Rf b25, Rf b222, Rf b227, It (1 : Int32), It u1, .unset, .unset]) rfl ?_
          exact kt
        obtain ⟨T282, L282, v282_l14, h282, vm282, kk282, dv282, X282, e282, N282, hv282_l14, O282, K282, KK282, Y282, Yk282, hZ282, hown282, CR_282, CQ282, FD282, FT282, ed282, sg282⟩ : ∃ (T' : State) (L' : List Loc) (v282_l14 : Int32) (h' : Heap) (vm' : Vm) (k' : Nat) (dv282 : Int32), Stand p l e room_1 (s.setVm vm') m #[(.int p1), (.int p2), (.int p3), (.int p4)] below meth c T' L' 7 31 ∧ T'.heap = h' ∧ Fr n0 L' ∧ v282_l14 = (if v11_t0 = (0 : Int32) then u1 else (u1 - (1 : Int32))) ∧ Old Z n0 h' ∧ Keep h267 h' [b227] ∧ Keep h0 h' [] ∧ s.Since vm' k' ∧ k' ≤ h'.size ∧ Z.Warmed39 (s.setVm vm').vm ∧ (s.setVm vm').vm.findClass "com/example/tetrad/tetrad/generate/SourceTextIndentPinLaw" = some m.cls ∧ CHr Z own_EL s.vm h0 vm' h' ∧ CHr Z own_EL vm267 h267 vm' h' ∧ Fld Z h' b227 "com/example/tetrad/tetrad/generate/SourceText" "depth" "I" (.int dv282) ∧ Fld Z h' b227 "com/example/tetrad/tetrad/generate/SourceText" "text" "Ljava/lang/StringBuilder;" (.ref sb_230) ∧ dv282 = (if v11_t0 = (0 : Int32) then dv267 else (dv267 - (1 : Int32))) ∧ ∀ target, Steps p.tables e below (T'.setTop (mkF m 231 #[It p1, It p2, It p3, It p4, It u1, It v11_t0, It (2 : Int32), It u14, It u16, Rf b18, Rf b25, Rf b222, Rf b227, It (1 : Int32), It v282_l14, .unset, .unset] [])) target → Steps p.tables e below (T267.setTop (mkF m 214 #[It p1, It p2, It p3, It p4, It u1, It v11_t0, It (2 : Int32), It u14, It u16, Rf b18, Rf b25, Rf b222, Rf b227, It (1 : Int32), It u1, .unset, .unset] [])) target := by
          have sg276 : SG p.tables e below (T267.setTop (mkF m 216 #[It p1, It p2, It p3, It p4, It u1, It v11_t0, It (2 : Int32), It u14, It u16, Rf b18, Rf b25, Rf b222, Rf b227, It (1 : Int32), It u1, .unset, .unset] [(.int v11_t0)])) (T267.setTop (mkF m 214 #[It p1, It p2, It p3, It p4, It u1, It v11_t0, It (2 : Int32), It u14, It u16, Rf b18, Rf b25, Rf b222, Rf b227, It (1 : Int32), It u1, .unset, .unset] [])) := by
            intro target kt
            show Steps _ _ _ (T267.setTop (mkF m 214 #[It p1, It p2, It p3, It p4, It u1, It v11_t0, It (2 : Int32), It u14, It u16, Rf b18, Rf b25, Rf b222, Rf b227, It (1 : Int32), It u1, .unset, .unset] [])) _
            refine XS.iload X267.here hx rfl (hb hby at_214) rfl ?_
            exact kt
          by_cases hc277 : v11_t0 = (0 : Int32)
          · have sg278 : SG p.tables e below (T267.setTop (mkF m 231 #[It p1, It p2, It p3, It p4, It u1, It v11_t0, It (2 : Int32), It u14, It u16, Rf b18, Rf b25, Rf b222, Rf b227, It (1 : Int32), It u1, .unset, .unset] [])) (T267.setTop (mkF m 216 #[It p1, It p2, It p3, It p4, It u1, It v11_t0, It (2 : Int32), It u14, It u16, Rf b18, Rf b25, Rf b222, Rf b227, It (1 : Int32), It u1, .unset, .unset] [(.int v11_t0)])) := by
              intro target kt
              show Steps _ _ _ (T267.setTop (mkF m 216 #[It p1, It p2, It p3, It p4, It u1, It v11_t0, It (2 : Int32), It u14, It u16, Rf b18, Rf b25, Rf b222, Rf b227, It (1 : Int32), It u1, .unset, .unset] [(.int v11_t0)])) _
              refine XS.ifYes X267.here hx rfl (pc0 := 216) (pc' := 231) rfl (hb hby at_216) rfl ((if0 _ _).trans (teq hc277).1) (by decide) (by decide) ?_
              exact kt
            exact ⟨T267, _, u1, h267, vm267, _, dv267, X267.mono (by decide) (by decide), e267, N267, (by rw [if_pos hc277]), O267, (Keep.refl h267 [b227]), KK267, Y267, Yk267, hZ267, hown267, CR_267, (CHr.refl CR_267.1), FD267, FT267, (if_pos hc277).symm, fun target kt => sg276 _ (sg278 _ (kt))⟩
          · obtain ⟨cq279, kq279, q279a, q279b, q279c⟩ := isOf hZ267 e267 ((((A227.keep K230q).keep K239).keep K253).keep K267)
            obtain ⟨_, _, ⟨T279, L279, k279, n279⟩, -, X279, ⟨Lc279, hQ279, l279, y279, z279⟩, st279⟩ := X267.virtualBack hx (y := m_13) (z := m_13) hown267 (mvT hZ267 (tw hw 221 rfl)) (mvT hZ267 (tw hw 222 rfl)) (notFace_of_selects (args := #[]) (mvT hZ267 (tw hw 224 rfl))) (mvT hZ267 (tw hw 224 rfl)) (mvT hZ267 (tw hw 223 rfl)) (by decide) (backOf (W := 0) (rm43 l Z a0 hw [] b227 dv267 sb_230 h267 n0 O267 ((((A227.keep K230q).keep K239).keep K253).keep K267) FD267 FT267 ge_b227) hZ267 (tw hw 225 rfl) (tw hw 32 rfl) (by decide) (by decide)) q279a q279c (g := (mkF m 221 #[It p1, It p2, It p3, It p4, It u1, It v11_t0, It (2 : Int32), It u14, It u16, Rf b18, Rf b25, Rf b222, Rf b227, It (1 : Int32), It u1, .unset, .unset] [(.ref b227)])) rfl (by rw [hml]; rfl) (Steps.refl _) (argsL := []) (rest := []) (lenOf pd_26 rfl) rfl (w0 rfl) (hb hby at_221) (fun _ _ => ⟨rfl, e267, (by decide : 7 + 0 ≤ _), (by decide : 31 + 0 ≤ _)⟩)
            dsimp only [Pt.U, Pt.locs, Pt.cells, Pt.slots] at X279 l279 y279 z279 st279 hQ279
            subst l279 y279 z279
            obtain ⟨rfl, N279q, K279q, O279, f279_0, f279_1⟩ := hQ279
            have N279 := Fr.app N267 N279q
            have CR280 := CR_267.trans (CHr.keep K279q (allS (Safe.exa hZ267.alike ((((A227.keep K230q).keep K239).keep K253).keep K267) (by decide) (by decide)) all0) CR_267.1)
            have K279 := KK267.trans K279q (allS (Or.inr sz_b227) all0)
            have sg281 : SG p.tables e below (T279.setTop (mkF m 231 #[It p1, It p2, It p3, It p4, It u1, It v11_t0, It (2 : Int32), It u14, It u16, Rf b18, Rf b25, Rf b222, Rf b227, It (1 : Int32), .val (.int (u1 - (1 : Int32))), .unset, .unset] [])) (T267.setTop (mkF m 216 #[It p1, It p2, It p3, It p4, It u1, It v11_t0, It (2 : Int32), It u14, It u16, Rf b18, Rf b25, Rf b222, Rf b227, It (1 : Int32), It u1, .unset, .unset] [(.int v11_t0)])) := by
              intro target kt
              show Steps _ _ _ (T267.setTop (mkF m 216 #[It p1, It p2, It p3, It p4, It u1, It v11_t0, It (2 : Int32), It u14, It u16, Rf b18, Rf b25, Rf b222, Rf b227, It (1 : Int32), It u1, .unset, .unset] [(.int v11_t0)])) _
              refine XS.ifNo X267.here hx rfl (hb hby at_216) rfl ((if0 _ _).trans (feq hc277).1) ?_
              refine XS.aload X267.here hx rfl (hb hby at_219) rfl rfl ?_
              refine st279.trans ?_
              refine XS.pop X279.here hx rfl (hb hby at_224) rfl rfl ?_
              refine XS.iload X279.here hx rfl (hb hby at_225) rfl ?_
              refine XS.iconst X279.here hx rfl (hb hby at_227) ?_
              refine XS.isub X279.here hx rfl (hb hby at_228) rfl ?_
              refine XS.istore X279.here hx rfl (hb hby at_229) rfl (l' := #[It p1, It p2, It p3, It p4, It u1, It v11_t0, It (2 : Int32), It u14, It u16, Rf b18, Rf b25, Rf b222, Rf b227, It (1 : Int32), .val (.int (u1 - (1 : Int32))), .unset, .unset]) rfl ?_
              exact kt
            exact ⟨T279, _, (u1 - (1 : Int32)), T279.heap, vm267, _, (dv267 - (1 : Int32)), X279.mono (by decide) (by decide), rfl, N279, (by rw [if_neg hc277]), O279, ((Keep.refl h267 [b227]).trans K279q (allS (Or.inl (List.mem_of_getElem? (i := 0) rfl)) all0)), K279, Y267, (Nat.le_trans Yk267 K279q.1), hZ267, hown267, CR280, ((CHr.refl CR_267.1).trans (CHr.keep K279q (allS (Safe.exa hZ267.alike ((((A227.keep K230q).keep K239).keep K253).keep K267) (by decide) (by decide)) all0) CR_267.1)), f279_0, f279_1, (if_neg hc277).symm, fun target kt => sg276 _ (sg281 _ (kt))⟩
        have Rn283 := (CQ282.safe Rn270.lt Rn268)
        have Rn284 := (CQ282.safe Rn271.lt Rn269)
        have Rn285 := (Rn270.keep K282 (ninS (Ne.symm (Nat.ne_of_lt (Nat.lt_of_lt_of_le A227.lt f230_10))) nin0))
        have Rn286 := (Rn271.keep K282)
        have Rn287 := (Rn272.keep K282 (ninS (Ne.symm (Nat.ne_of_lt (Nat.lt_of_lt_of_le A227.lt f230_8))) nin0))
        have Rn288 := (Rn273.keep K282 (ninS (Ne.symm (Nat.ne_of_lt (Nat.lt_of_lt_of_le A227.lt f230_8))) nin0))
        have Rn289 := (Rn274.keep K282 (ninS (Ne.symm (Nat.ne_of_lt (Nat.lt_of_lt_of_le A227.lt f230_8))) nin0))
        have hdep : dv282 = v282_l14 := own_dep hu1 hv282_l14 ed239 ed253 ed267 ed282
        have FDz := own_fi hdep FD282
        have hdr := own_dr hu1 hv11_t0 hv282_l14
        have sg290 : SG p.tables e below (T282.setTop (mkF m 235 #[It p1, It p2, It p3, It p4, It u1, It v11_t0, It (2 : Int32), It u14, It u16, Rf b18, Rf b25, Rf b222, Rf b227, It (1 : Int32), It v282_l14, .unset, .unset] [(.ref b222), (.ref b227)])) (T282.setTop (mkF m 231 #[It p1, It p2, It p3, It p4, It u1, It v11_t0, It (2 : Int32), It u14, It u16, Rf b18, Rf b25, Rf b222, Rf b227, It (1 : Int32), It v282_l14, .unset, .unset] [])) := by
          intro target kt
          show Steps _ _ _ (T282.setTop (mkF m 231 #[It p1, It p2, It p3, It p4, It u1, It v11_t0, It (2 : Int32), It u14, It u16, Rf b18, Rf b25, Rf b222, Rf b227, It (1 : Int32), It v282_l14, .unset, .unset] [])) _
          refine XS.aload X282.here hx rfl (hb hby at_231) rfl rfl ?_
          refine XS.aload X282.here hx rfl (hb hby at_233) rfl rfl ?_
          exact kt
        by_cases hc291 : v282_l14 = (0 : Int32)
        · subst hc291
          have VL292 : Arv Z h282 t225 kb225 .byte (2 : Int32) [.int (StrChars.lo8 (nar .char u14)), .int (StrChars.lo8 (nar .char u16))] (.int (0 : Int32)) := ((((((V225.ext E227).keep K230q (ninS (Nat.ne_of_lt (Nat.lt_of_lt_of_le V225.lt (Nat.le_of_eq g227.symm))) nin0)).keep K239 (ninS (Nat.ne_of_lt (Nat.lt_of_lt_of_le V225.lt (Nat.le_of_eq g227.symm))) nin0)).keep K253 (ninS (Nat.ne_of_lt (Nat.lt_of_lt_of_le V225.lt (Nat.le_of_eq g227.symm))) nin0)).keep K267 (ninS (Nat.ne_of_lt (Nat.lt_of_lt_of_le V225.lt (Nat.le_of_eq g227.symm))) nin0)).keep K282 (ninS (Nat.ne_of_lt (Nat.lt_of_lt_of_le V225.lt (Nat.le_of_eq g227.symm))) nin0))
          obtain ⟨cq293, kq293, q293a, q293b, q293c⟩ := isOf hZ282 e282 (((((A227.keep K230q).keep K239).keep K253).keep K267).keep K282)
          obtain ⟨_, _, ⟨T293, L293, k293, n293⟩, -, X293, Y293, G293, ⟨Lc293, hQ293, l293, y293, z293, C293⟩, st293⟩ := X282.virtualBackS hx (y := m_33) (z := m_33) hown282 (mvT hZ282 (tw hw 57 rfl)) (mvT hZ282 (tw hw 58 rfl)) (notFace_of_selects (args := #[]) (mvT hZ282 (tw hw 60 rfl))) (mvT hZ282 (tw hw 60 rfl)) (mvT hZ282 (tw hw 59 rfl)) (by decide) (own_backSH (W := 0) (rm10_02 l Z a0 hw [] b227 b222 sb_230 ro_230 t225 ([.int (StrChars.lo8 (nar .char u14)), .int (StrChars.lo8 (nar .char u16))]) zC ko_230 kb225 h282 n0 O282 sC (((((A227.keep K230q).keep K239).keep K253).keep K267).keep K282) FT282 FDz Rn286 Rn289 Rn287 Rn288 Rn285 ((((((A225.ext E227).keep K230q).keep K239).keep K253).keep K267).keep K282) ((((((Fc225.ext E227).keep K230q (ninS (Nat.ne_of_lt (Nat.lt_of_lt_of_le A225.lt (Nat.le_of_eq g227.symm))) nin0)).keep K239 (ninS (Nat.ne_of_lt (Nat.lt_of_lt_of_le A225.lt (Nat.le_of_eq g227.symm))) nin0)).keep K253 (ninS (Nat.ne_of_lt (Nat.lt_of_lt_of_le A225.lt (Nat.le_of_eq g227.symm))) nin0)).keep K267 (ninS (Nat.ne_of_lt (Nat.lt_of_lt_of_le A225.lt (Nat.le_of_eq g227.symm))) nin0)).keep K282 (ninS (Nat.ne_of_lt (Nat.lt_of_lt_of_le A225.lt (Nat.le_of_eq g227.symm))) nin0)) ((((((Fv225.ext E227).keep K230q (ninS (Nat.ne_of_lt (Nat.lt_of_lt_of_le A225.lt (Nat.le_of_eq g227.symm))) nin0)).keep K239 (ninS (Nat.ne_of_lt (Nat.lt_of_lt_of_le A225.lt (Nat.le_of_eq g227.symm))) nin0)).keep K253 (ninS (Nat.ne_of_lt (Nat.lt_of_lt_of_le A225.lt (Nat.le_of_eq g227.symm))) nin0)).keep K267 (ninS (Nat.ne_of_lt (Nat.lt_of_lt_of_le A225.lt (Nat.le_of_eq g227.symm))) nin0)).keep K282 (ninS (Nat.ne_of_lt (Nat.lt_of_lt_of_le A225.lt (Nat.le_of_eq g227.symm))) nin0)) VL292 f230_7 f230_9 (Nat.ne_of_lt (Nat.lt_of_lt_of_le (V225.ext E227).lt f230_10)) hCS) hZ282 (tw hw 61 rfl) (tw hw 32 rfl) (by decide) (by decide) hEL CR_282.1 Rn285.lt Rn283) q293a q293c (g := (mkF m 235 #[It p1, It p2, It p3, It p4, It u1, It v11_t0, It (2 : Int32), It u14, It u16, Rf b18, Rf b25, Rf b222, Rf b227, It (1 : Int32), It (0 : Int32), .unset, .unset] [(.ref b222), (.ref b227)])) rfl (by rw [hml]; rfl) (Steps.refl _) (argsL := [(.ref b222)]) (rest := []) (lenOf pd_27 rfl) rfl (w0 rfl) (hb hby at_235) (fun _ _ => ⟨rfl, e282, (by decide : 7 + 4 ≤ _), (by decide : 31 + 24 ≤ _)⟩)
          dsimp only [Pt.U, Pt.locs, Pt.cells, Pt.slots] at X293 l293 y293 z293 st293 hQ293 Y293 G293 C293
          subst l293 y293 z293
          obtain ⟨rfl, N293q, K293q, O293, f293_0, f293_1, f293_2, f293_3⟩ := hQ293
          have N293 := Fr.app N282 N293q
          obtain ⟨X293, Y293, hZ293, hown293⟩ := rebS Y282 (by rw [e282]; exact Yk282) X293 Y293 G293 hZ282 hown282
          have CR294 := CR_282.trans (C293)
          have Sf293_sb_230 := (C293.safe Rn286.lt Rn284)
          have Sf293_ro_230 := (C293.safe Rn285.lt Rn283)
          have K293 := KK282.trans K293q (allS (Or.inr (Nat.le_trans K227.1 f230_8)) (allS (Or.inr (Nat.le_trans K227.1 f230_10)) all0))
          obtain ⟨cq295, kq295, q295a, q295b, q295c⟩ := isOf hZ293 rfl ((((((A227.keep K230q).keep K239).keep K253).keep K267).keep K282).keep K293q)
          obtain ⟨_, _, ⟨T295, L295, k295, n295⟩, -, X295, ⟨Lc295, hQ295, l295, y295, z295⟩, st295⟩ := X293.virtualBack hx (y := m_29) (z := m_29) hown293 (mvT hZ293 (tw hw 143 rfl)) (mvT hZ293 (tw hw 144 rfl)) (notFace_of_selects (args := #[]) (mvT hZ293 (tw hw 146 rfl))) (mvT hZ293 (tw hw 146 rfl)) (mvT hZ293 (tw hw 145 rfl)) (by decide) (backOf (W := 0) (rm25 l Z a0 hw [] b227 ro_230 (3 : Int32) 3 ((cpy (cpy z16 0 ([] : List Value) 0 0) 0 [.int (StrChars.lo8 (nar .char u14)), .int (StrChars.lo8 (nar .char u16))] 0 2).set 2 (.int ((10 : Int32).toInt8.toInt32.toInt8.toInt32))) sb_230 zC ko_230 T293.heap n0 O293 hCS sC (FT282.keep K293q (ninS (Nat.ne_of_lt (Nat.lt_of_lt_of_le A227.lt f230_8)) (ninS (Nat.ne_of_lt (Nat.lt_of_lt_of_le A227.lt f230_10)) nin0))) (Rn286.keep K293q) f293_0 f293_1 f293_2 f293_3 (Sm.lit (x := (3 : Int32)) (n := 3) (by decide)) (by decide)) hZ293 (tw hw 147 rfl) (tw hw 32 rfl) (by decide) (by decide)) q295a q295c (g := (mkF m 241 #[It p1, It p2, It p3, It p4, It u1, It v11_t0, It (2 : Int32), It u14, It u16, Rf b18, Rf b25, Rf b222, Rf b227, It (1 : Int32), It (0 : Int32), .unset, .unset] [(.ref b227)])) rfl (by rw [hml]; rfl) (Steps.refl _) (argsL := []) (rest := []) (lenOf pd_17 rfl) rfl (w0 rfl) (hb hby at_241) (fun _ _ => ⟨rfl, rfl, (by decide : 11 + 2 ≤ _), (by decide : 55 + 20 ≤ _)⟩)
          dsimp only [Pt.U, Pt.locs, Pt.cells, Pt.slots] at X295 l295 y295 z295 st295 hQ295
          subst l295 y295 z295
          obtain ⟨rs_295, ro_295, ko_295, rfl, N295q, K295q, O295, f295_0, f295_1, f295_2, f295_3, f295_4, f295_5, f295_6, f295_7⟩ := hQ295
          have N295 := Fr.app N293 N295q
          have CR296 := CR294.trans (CHr.keep K295q all0 CR294.1)
          have K295 := K293.trans K295q all0
          have VO295 : Arv Z T295.heap ro_295 ko_295 .byte (3 : Int32) [.int (StrChars.lo8 (nar .char u14)), .int (StrChars.lo8 (nar .char u16)), .int (10 : Int32), .int (0 : Int32), .int (0 : Int32), .int (0 : Int32), .int (0 : Int32), .int (0 : Int32), .int (0 : Int32), .int (0 : Int32), .int (0 : Int32), .int (0 : Int32), .int (0 : Int32), .int (0 : Int32), .int (0 : Int32), .int (0 : Int32)] (.int (0 : Int32)) := f295_5
          obtain ⟨u297, hu297⟩ : ∃ z, z = ((4 : Int32) * (0 : Int32)) := ⟨_, rfl⟩
          have sg298 : SG p.tables e below (T295.setTop (mkF m 266 #[It p1, It p2, It p3, It p4, It u1, It v11_t0, It (2 : Int32), It u14, It u16, Rf b18, Rf b25, Rf b222, Rf b227, It (1 : Int32), It (0 : Int32), Rf rs_295, .unset] [(.int u297)])) (T282.setTop (mkF m 235 #[It p1, It p2, It p3, It p4, It u1, It v11_t0, It (2 : Int32), It u14, It u16, Rf b18, Rf b25, Rf b222, Rf b227, It (1 : Int32), It (0 : Int32), .unset, .unset] [(.ref b222), (.ref b227)])) := by
            intro target kt
            subst hu297
            show Steps _ _ _ (T282.setTop (mkF m 235 #[It p1, It p2, It p3, It p4, It u1, It v11_t0, It (2 : Int32), It u14, It u16, Rf b18, Rf b25, Rf b222, Rf b227, It (1 : Int32), It (0 : Int32), .unset, .unset] [(.ref b222), (.ref b227)])) _
            refine st293.trans ?_
            refine XS.pop X293.here hx rfl (hb hby at_238) rfl rfl ?_
            refine XS.aload X293.here hx rfl (hb hby at_239) rfl rfl ?_
            refine st295.trans ?_
            refine XS.astore X295.here hx rfl (hb hby at_244) rfl rfl (l' := #[It p1, It p2, It p3, It p4, It u1, It v11_t0, It (2 : Int32), It u14, It u16, Rf b18, Rf b25, Rf b222, Rf b227, It (1 : Int32), It (0 : Int32), Rf rs_295, .unset]) rfl ?_
            refine XS.iload X295.here hx rfl (hb hby at_246) rfl ?_
            refine XS.ifYes X295.here hx rfl (pc0 := 248) (pc' := 253) rfl (hb hby at_248) rfl ((if0 _ _).trans (feq (by decide : ¬ ((1 : Int32) = (0 : Int32)))).2) (by decide) (by decide) ?_
            refine XS.iload X295.here hx rfl (hb hby at_253) rfl ?_
            refine XS.ifYes X295.here hx rfl (pc0 := 255) (pc' := 262) rfl (hb hby at_255) rfl ((if0 _ _).trans (feq (by decide : ¬ ((2 : Int32) = (0 : Int32)))).2) (by decide) (by decide) ?_
            refine XS.iconst X295.here hx rfl (hb hby at_262) ?_
            refine XS.iload X295.here hx rfl (hb hby at_263) rfl ?_
            refine XS.imul X295.here hx rfl (hb hby at_265) rfl ?_
            exact kt
          have hk_u297 : u297 = (0 : Int32) := hu297.trans (by decide)
          subst hk_u297
          obtain ⟨cq299, kq299, q299a, q299b, q299c⟩ := isOf hZ293 rfl f295_0
          obtain ⟨_, _, ⟨T299, L299, k299, n299⟩, -, X299, ⟨Lc299, hQ299, l299, y299, z299⟩, st299⟩ := X295.virtualBack hx (y := m_2) (z := m_2) hown293 (mvT hZ293 (tw hw 189 rfl)) (mvT hZ293 (tw hw 89 rfl)) (notFace_of_selects (args := #[]) (mvT hZ293 (tw hw 91 rfl))) (mvT hZ293 (tw hw 91 rfl)) (mvT hZ293 (tw hw 90 rfl)) (by decide) (backOf (W := 0) (rm15 l Z a0 hw [] rs_295 ro_295 (3 : Int32) ([.int (StrChars.lo8 (nar .char u14)), .int (StrChars.lo8 (nar .char u16)), .int (10 : Int32), .int (0 : Int32), .int (0 : Int32), .int (0 : Int32), .int (0 : Int32), .int (0 : Int32), .int (0 : Int32), .int (0 : Int32), .int (0 : Int32), .int (0 : Int32), .int (0 : Int32), .int (0 : Int32), .int (0 : Int32), .int (0 : Int32)]) zC ko_295 T295.heap n0 O295 hCS sC f295_0 f295_3 f295_4 VO295) hZ293 (tw hw 92 rfl) (tw hw 3 rfl) (by decide) (by decide)) q299a q299c (g := (mkF m 270 #[It p1, It p2, It p3, It p4, It u1, It v11_t0, It (2 : Int32), It u14, It u16, Rf b18, Rf b25, Rf b222, Rf b227, It (1 : Int32), It (0 : Int32), Rf rs_295, It (0 : Int32)] [(.ref rs_295)])) rfl (by rw [hml]; rfl) (Steps.refl _) (argsL := []) (rest := []) (lenOf pd_1 rfl) rfl (w0 rfl) (hb hby at_270) (fun _ _ => ⟨rfl, rfl, (by decide : 13 + 0 ≤ _), (by decide : 75 + 0 ≤ _)⟩)
          dsimp only [Pt.U, Pt.locs, Pt.cells, Pt.slots] at X299 l299 y299 z299 st299 hQ299
          subst l299 y299 z299
          obtain ⟨rfl, N299q, e299⟩ := hQ299
          have N299 := Fr.app N295 N299q
          have sg300 : SG p.tables e below (T299.setTop (mkF m 285 #[It p1, It p2, It p3, It p4, It u1, It v11_t0, It (2 : Int32), It u14, It u16, Rf b18, Rf b25, Rf b222, Rf b227, It (1 : Int32), It (0 : Int32), Rf rs_295, It (0 : Int32)] [])) (T295.setTop (mkF m 266 #[It p1, It p2, It p3, It p4, It u1, It v11_t0, It (2 : Int32), It u14, It u16, Rf b18, Rf b25, Rf b222, Rf b227, It (1 : Int32), It (0 : Int32), Rf rs_295, .unset] [(.int (0 : Int32))])) := by
            intro target kt
            show Steps _ _ _ (T295.setTop (mkF m 266 #[It p1, It p2, It p3, It p4, It u1, It v11_t0, It (2 : Int32), It u14, It u16, Rf b18, Rf b25, Rf b222, Rf b227, It (1 : Int32), It (0 : Int32), Rf rs_295, .unset] [(.int (0 : Int32))])) _
            refine XS.istore X295.here hx rfl (hb hby at_266) rfl (l' := #[It p1, It p2, It p3, It p4, It u1, It v11_t0, It (2 : Int32), It u14, It u16, Rf b18, Rf b25, Rf b222, Rf b227, It (1 : Int32), It (0 : Int32), Rf rs_295, It (0 : Int32)]) rfl ?_
            refine XS.aload X295.here hx rfl (hb hby at_268) rfl rfl ?_
            refine st299.trans ?_
            refine XS.iload X299.here hx rfl (hb hby at_273) rfl ?_
            refine XS.iload X299.here hx rfl (hb hby at_275) rfl ?_
            refine XS.iadd X299.here hx rfl (hb hby at_277) rfl ?_
            refine XS.iconst X299.here hx rfl (hb hby at_278) ?_
            refine XS.iadd X299.here hx rfl (hb hby at_279) rfl ?_
            refine XS.icmpYes X299.here hx rfl (pc0 := 280) (pc' := 285) rfl (hb hby at_280) rfl (teq (by decide : (3 : Int32) = (((0 : Int32) + (2 : Int32)) + (1 : Int32)))).1 (by decide) (by decide) ?_
            exact kt
          exact ⟨T299, _, (2 : Int32), b222, b227, (0 : Int32), rs_295, (0 : Int32), T295.heap, T293.vm, _, ro_295, ko_295, (3 : Int32), [.int (StrChars.lo8 (nar .char u14)), .int (StrChars.lo8 (nar .char u16)), .int (10 : Int32), .int (0 : Int32), .int (0 : Int32), .int (0 : Int32), .int (0 : Int32), .int (0 : Int32), .int (0 : Int32), .int (0 : Int32), .int (0 : Int32), .int (0 : Int32), .int (0 : Int32), .int (0 : Int32), .int (0 : Int32), .int (0 : Int32)], X299.mono (by decide) (by decide), e299, N299, O295, (((((((((((Keep.refl h33 []).ext E222).trans K225q (allS (Or.inr (Nat.le_trans (Nat.le_refl _) (Nat.le_of_eq g222.symm))) all0)).ext E227).trans K230q (allS (Or.inr (Nat.le_trans (Nat.le_trans (Nat.le_trans (Nat.le_refl _) E222.1) K225q.1) (Nat.le_of_eq g227.symm))) all0)).trans K239 (allS (Or.inr (Nat.le_trans (Nat.le_trans (Nat.le_trans (Nat.le_refl _) E222.1) K225q.1) (Nat.le_of_eq g227.symm))) all0)).trans K253 (allS (Or.inr (Nat.le_trans (Nat.le_trans (Nat.le_trans (Nat.le_refl _) E222.1) K225q.1) (Nat.le_of_eq g227.symm))) all0)).trans K267 (allS (Or.inr (Nat.le_trans (Nat.le_trans (Nat.le_trans (Nat.le_refl _) E222.1) K225q.1) (Nat.le_of_eq g227.symm))) all0)).trans K282 (allS (Or.inr (Nat.le_trans (Nat.le_trans (Nat.le_trans (Nat.le_refl _) E222.1) K225q.1) (Nat.le_of_eq g227.symm))) all0)).trans K293q (allS (Or.inr (Nat.le_trans (Nat.le_trans (Nat.le_trans (Nat.le_trans (Nat.le_refl _) E222.1) K225q.1) E227.1) f230_8)) (allS (Or.inr (Nat.le_trans (Nat.le_trans (Nat.le_trans (Nat.le_trans (Nat.le_refl _) E222.1) K225q.1) E227.1) f230_10)) all0))).trans K295q all0), K295, Y293, (Nat.le_trans (Nat.le_refl _) K295q.1), hZ293, hown293, CR296, (((((((((((CHr.refl CR35.1).trans (CHr.ext E222 CR35.1)).trans (CHr.keep K225q (allS (Safe.ext E222 CR35.1 (Safe.new (Nat.le_of_eq g222.symm))) all0) CR224.1)).trans (CHr.ext E227 CR226.1)).trans (CHr.keep K230q (allS (Safe.exa hZ.alike A227 (by decide) (by decide)) all0) CR229.1)).trans (CQ239)).trans (CQ253)).trans (CQ267)).trans (CQ282)).trans (C293)).trans (CHr.keep K295q all0 CR294.1)), f295_0, f295_3, f295_4, VO295, own_at02 rg_u14 rg_u16, fun target kt => sg232 _ (sg239 _ (sg253 _ (sg267 _ (sg275 _ (sg282 _ (sg290 _ (sg298 _ (sg300 _ (kt)))))))))⟩
        · by_cases hc301 : v282_l14 = (1 : Int32)
          · subst hc301
            have VL302 : Arv Z h282 t225 kb225 .byte (2 : Int32) [.int (StrChars.lo8 (nar .char u14)), .int (StrChars.lo8 (nar .char u16))] (.int (0 : Int32)) := ((((((V225.ext E227).keep K230q (ninS (Nat.ne_of_lt (Nat.lt_of_lt_of_le V225.lt (Nat.le_of_eq g227.symm))) nin0)).keep K239 (ninS (Nat.ne_of_lt (Nat.lt_of_lt_of_le V225.lt (Nat.le_of_eq g227.symm))) nin0)).keep K253 (ninS (Nat.ne_of_lt (Nat.lt_of_lt_of_le V225.lt (Nat.le_of_eq g227.symm))) nin0)).keep K267 (ninS (Nat.ne_of_lt (Nat.lt_of_lt_of_le V225.lt (Nat.le_of_eq g227.symm))) nin0)).keep K282 (ninS (Nat.ne_of_lt (Nat.lt_of_lt_of_le V225.lt (Nat.le_of_eq g227.symm))) nin0))
            obtain ⟨cq303, kq303, q303a, q303b, q303c⟩ := isOf hZ282 e282 (((((A227.keep K230q).keep K239).keep K253).keep K267).keep K282)
            obtain ⟨_, _, ⟨T303, L303, k303, n303⟩, -, X303, Y303, G303, ⟨Lc303, hQ303, l303, y303, z303, C303⟩, st303⟩ := X282.virtualBackS hx (y := m_33) (z := m_33) hown282 (mvT hZ282 (tw hw 57 rfl)) (mvT hZ282 (tw hw 58 rfl)) (notFace_of_selects (args := #[]) (mvT hZ282 (tw hw 60 rfl))) (mvT hZ282 (tw hw 60 rfl)) (mvT hZ282 (tw hw 59 rfl)) (by decide) (own_backSH (W := 0) (rm10_12 l Z a0 hw [] b227 b222 sb_230 ro_230 t225 ([.int (StrChars.lo8 (nar .char u14)), .int (StrChars.lo8 (nar .char u16))]) zC ko_230 kb225 h282 n0 O282 sC (((((A227.keep K230q).keep K239).keep K253).keep K267).keep K282) FT282 FDz Rn286 Rn289 Rn287 Rn288 Rn285 ((((((A225.ext E227).keep K230q).keep K239).keep K253).keep K267).keep K282) ((((((Fc225.ext E227).keep K230q (ninS (Nat.ne_of_lt (Nat.lt_of_lt_of_le A225.lt (Nat.le_of_eq g227.symm))) nin0)).keep K239 (ninS (Nat.ne_of_lt (Nat.lt_of_lt_of_le A225.lt (Nat.le_of_eq g227.symm))) nin0)).keep K253 (ninS (Nat.ne_of_lt (Nat.lt_of_lt_of_le A225.lt (Nat.le_of_eq g227.symm))) nin0)).keep K267 (ninS (Nat.ne_of_lt (Nat.lt_of_lt_of_le A225.lt (Nat.le_of_eq g227.symm))) nin0)).keep K282 (ninS (Nat.ne_of_lt (Nat.lt_of_lt_of_le A225.lt (Nat.le_of_eq g227.symm))) nin0)) ((((((Fv225.ext E227).keep K230q (ninS (Nat.ne_of_lt (Nat.lt_of_lt_of_le A225.lt (Nat.le_of_eq g227.symm))) nin0)).keep K239 (ninS (Nat.ne_of_lt (Nat.lt_of_lt_of_le A225.lt (Nat.le_of_eq g227.symm))) nin0)).keep K253 (ninS (Nat.ne_of_lt (Nat.lt_of_lt_of_le A225.lt (Nat.le_of_eq g227.symm))) nin0)).keep K267 (ninS (Nat.ne_of_lt (Nat.lt_of_lt_of_le A225.lt (Nat.le_of_eq g227.symm))) nin0)).keep K282 (ninS (Nat.ne_of_lt (Nat.lt_of_lt_of_le A225.lt (Nat.le_of_eq g227.symm))) nin0)) VL302 f230_7 f230_9 (Nat.ne_of_lt (Nat.lt_of_lt_of_le (V225.ext E227).lt f230_10)) hCS) hZ282 (tw hw 61 rfl) (tw hw 32 rfl) (by decide) (by decide) hEL CR_282.1 Rn285.lt Rn283) q303a q303c (g := (mkF m 235 #[It p1, It p2, It p3, It p4, It u1, It v11_t0, It (2 : Int32), It u14, It u16, Rf b18, Rf b25, Rf b222, Rf b227, It (1 : Int32), It (1 : Int32), .unset, .unset] [(.ref b222), (.ref b227)])) rfl (by rw [hml]; rfl) (Steps.refl _) (argsL := [(.ref b222)]) (rest := []) (lenOf pd_27 rfl) rfl (w0 rfl) (hb hby at_235) (fun _ _ => ⟨rfl, e282, (by decide : 7 + 2 ≤ _), (by decide : 31 + 20 ≤ _)⟩)
            dsimp only [Pt.U, Pt.locs, Pt.cells, Pt.slots] at X303 l303 y303 z303 st303 hQ303 Y303 G303 C303
            subst l303 y303 z303
            obtain ⟨rfl, N303q, K303q, O303, f303_0, f303_1, f303_2, f303_3⟩ := hQ303
            have N303 := Fr.app N282 N303q
            obtain ⟨X303, Y303, hZ303, hown303⟩ := rebS Y282 (by rw [e282]; exact Yk282) X303 Y303 G303 hZ282 hown282
            have CR304 := CR_282.trans (C303)
            have Sf303_sb_230 := (C303.safe Rn286.lt Rn284)
            have Sf303_ro_230 := (C303.safe Rn285.lt Rn283)
            have K303 := KK282.trans K303q (allS (Or.inr (Nat.le_trans K227.1 f230_8)) (allS (Or.inr (Nat.le_trans K227.1 f230_10)) all0))
            obtain ⟨cq305, kq305, q305a, q305b, q305c⟩ := isOf hZ303 rfl ((((((A227.keep K230q).keep K239).keep K253).keep K267).keep K282).keep K303q)
            obtain ⟨_, _, ⟨T305, L305, k305, n305⟩, -, X305, ⟨Lc305, hQ305, l305, y305, z305⟩, st305⟩ := X303.virtualBack hx (y := m_29) (z := m_29) hown303 (mvT hZ303 (tw hw 143 rfl)) (mvT hZ303 (tw hw 144 rfl)) (notFace_of_selects (args := #[]) (mvT hZ303 (tw hw 146 rfl))) (mvT hZ303 (tw hw 146 rfl)) (mvT hZ303 (tw hw 145 rfl)) (by decide) (backOf (W := 0) (rm25 l Z a0 hw [] b227 ro_230 (7 : Int32) 7 ((cpy (cpy z16 0 s4 0 4) 4 [.int (StrChars.lo8 (nar .char u14)), .int (StrChars.lo8 (nar .char u16))] 0 2).set 6 (.int ((10 : Int32).toInt8.toInt32.toInt8.toInt32))) sb_230 zC ko_230 T303.heap n0 O303 hCS sC (FT282.keep K303q (ninS (Nat.ne_of_lt (Nat.lt_of_lt_of_le A227.lt f230_8)) (ninS (Nat.ne_of_lt (Nat.lt_of_lt_of_le A227.lt f230_10)) nin0))) (Rn286.keep K303q) f303_0 f303_1 f303_2 f303_3 (Sm.lit (x := (7 : Int32)) (n := 7) (by decide)) (by decide)) hZ303 (tw hw 147 rfl) (tw hw 32 rfl) (by decide) (by decide)) q305a q305c (g := (mkF m 241 #[It p1, It p2, It p3, It p4, It u1, It v11_t0, It (2 : Int32), It u14, It u16, Rf b18, Rf b25, Rf b222, Rf b227, It (1 : Int32), It (1 : Int32), .unset, .unset] [(.ref b227)])) rfl (by rw [hml]; rfl) (Steps.refl _) (argsL := []) (rest := []) (lenOf pd_17 rfl) rfl (w0 rfl) (hb hby at_241) (fun _ _ => ⟨rfl, rfl, (by decide : 9 + 2 ≤ _), (by decide : 51 + 20 ≤ _)⟩)
            dsimp only [Pt.U, Pt.locs, Pt.cells, Pt.slots] at X305 l305 y305 z305 st305 hQ305
            subst l305 y305 z305
            obtain ⟨rs_305, ro_305, ko_305, rfl, N305q, K305q, O305, f305_0, f305_1, f305_2, f305_3, f305_4, f305_5, f305_6, f305_7⟩ := hQ305
            have N305 := Fr.app N303 N305q
            have CR306 := CR304.trans (CHr.keep K305q all0 CR304.1)
            have K305 := K303.trans K305q all0
            have VO305 : Arv Z T305.heap ro_305 ko_305 .byte (7 : Int32) [.int (32 : Int32), .int (32 : Int32), .int (32 : Int32), .int (32 : Int32), .int (StrChars.lo8 (nar .char u14)), .int (StrChars.lo8 (nar .char u16)), .int (10 : Int32), .int (0 : Int32), .int (0 : Int32), .int (0 : Int32), .int (0 : Int32), .int (0 : Int32), .int (0 : Int32), .int (0 : Int32), .int (0 : Int32), .int (0 : Int32)] (.int (0 : Int32)) := f305_5
            obtain ⟨u307, hu307⟩ : ∃ z, z = ((4 : Int32) * (1 : Int32)) := ⟨_, rfl⟩
            have sg308 : SG p.tables e below (T305.setTop (mkF m 266 #[It p1, It p2, It p3, It p4, It u1, It v11_t0, It (2 : Int32), It u14, It u16, Rf b18, Rf b25, Rf b222, Rf b227, It (1 : Int32), It (1 : Int32), Rf rs_305, .unset] [(.int u307)])) (T282.setTop (mkF m 235 #[It p1, It p2, It p3, It p4, It u1, It v11_t0, It (2 : Int32), It u14, It u16, Rf b18, Rf b25, Rf b222, Rf b227, It (1 : Int32), It (1 : Int32), .unset, .unset] [(.ref b222), (.ref b227)])) := by
              intro target kt
              subst hu307
              show Steps _ _ _ (T282.setTop (mkF m 235 #[It p1, It p2, It p3, It p4, It u1, It v11_t0, It (2 : Int32), It u14, It u16, Rf b18, Rf b25, Rf b222, Rf b227, It (1 : Int32), It (1 : Int32), .unset, .unset] [(.ref b222), (.ref b227)])) _
              refine st303.trans ?_
              refine XS.pop X303.here hx rfl (hb hby at_238) rfl rfl ?_
              refine XS.aload X303.here hx rfl (hb hby at_239) rfl rfl ?_
              refine st305.trans ?_
              refine XS.astore X305.here hx rfl (hb hby at_244) rfl rfl (l' := #[It p1, It p2, It p3, It p4, It u1, It v11_t0, It (2 : Int32), It u14, It u16, Rf b18, Rf b25, Rf b222, Rf b227, It (1 : Int32), It (1 : Int32), Rf rs_305, .unset]) rfl ?_
              refine XS.iload X305.here hx rfl (hb hby at_246) rfl ?_
              refine XS.ifYes X305.here hx rfl (pc0 := 248) (pc' := 253) rfl (hb hby at_248) rfl ((if0 _ _).trans (feq (by decide : ¬ ((1 : Int32) = (0 : Int32)))).2) (by decide) (by decide) ?_
              refine XS.iload X305.here hx rfl (hb hby at_253) rfl ?_
              refine XS.ifYes X305.here hx rfl (pc0 := 255) (pc' := 262) rfl (hb hby at_255) rfl ((if0 _ _).trans (feq (by decide : ¬ ((2 : Int32) = (0 : Int32)))).2) (by decide) (by decide) ?_
              refine XS.iconst X305.here hx rfl (hb hby at_262) ?_
              refine XS.iload X305.here hx rfl (hb hby at_263) rfl ?_
              refine XS.imul X305.here hx rfl (hb hby at_265) rfl ?_
              exact kt
            have hk_u307 : u307 = (4 : Int32) := hu307.trans (by decide)
            subst hk_u307
            obtain ⟨cq309, kq309, q309a, q309b, q309c⟩ := isOf hZ303 rfl f305_0
            obtain ⟨_, _, ⟨T309, L309, k309, n309⟩, -, X309, ⟨Lc309, hQ309, l309, y309, z309⟩, st309⟩ := X305.virtualBack hx (y := m_2) (z := m_2) hown303 (mvT hZ303 (tw hw 189 rfl)) (mvT hZ303 (tw hw 89 rfl)) (notFace_of_selects (args := #[]) (mvT hZ303 (tw hw 91 rfl))) (mvT hZ303 (tw hw 91 rfl)) (mvT hZ303 (tw hw 90 rfl)) (by decide) (backOf (W := 0) (rm15 l Z a0 hw [] rs_305 ro_305 (7 : Int32) ([.int (32 : Int32), .int (32 : Int32), .int (32 : Int32), .int (32 : Int32), .int (StrChars.lo8 (nar .char u14)), .int (StrChars.lo8 (nar .char u16)), .int (10 : Int32), .int (0 : Int32), .int (0 : Int32), .int (0 : Int32), .int (0 : Int32), .int (0 : Int32), .int (0 : Int32), .int (0 : Int32), .int (0 : Int32), .int (0 : Int32)]) zC ko_305 T305.heap n0 O305 hCS sC f305_0 f305_3 f305_4 VO305) hZ303 (tw hw 92 rfl) (tw hw 3 rfl) (by decide) (by decide)) q309a q309c (g := (mkF m 270 #[It p1, It p2, It p3, It p4, It u1, It v11_t0, It (2 : Int32), It u14, It u16, Rf b18, Rf b25, Rf b222, Rf b227, It (1 : Int32), It (1 : Int32), Rf rs_305, It (4 : Int32)] [(.ref rs_305)])) rfl (by rw [hml]; rfl) (Steps.refl _) (argsL := []) (rest := []) (lenOf pd_1 rfl) rfl (w0 rfl) (hb hby at_270) (fun _ _ => ⟨rfl, rfl, (by decide : 11 + 0 ≤ _), (by decide : 71 + 0 ≤ _)⟩)
            dsimp only [Pt.U, Pt.locs, Pt.cells, Pt.slots] at X309 l309 y309 z309 st309 hQ309
            subst l309 y309 z309
            obtain ⟨rfl, N309q, e309⟩ := hQ309
            have N309 := Fr.app N305 N309q
            have sg310 : SG p.tables e below (T309.setTop (mkF m 285 #[It p1, It p2, It p3, It p4, It u1, It v11_t0, It (2 : Int32), It u14, It u16, Rf b18, Rf b25, Rf b222, Rf b227, It (1 : Int32), It (1 : Int32), Rf rs_305, It (4 : Int32)] [])) (T305.setTop (mkF m 266 #[It p1, It p2, It p3, It p4, It u1, It v11_t0, It (2 : Int32), It u14, It u16, Rf b18, Rf b25, Rf b222, Rf b227, It (1 : Int32), It (1 : Int32), Rf rs_305, .unset] [(.int (4 : Int32))])) := by
              intro target kt
              show Steps _ _ _ (T305.setTop (mkF m 266 #[It p1, It p2, It p3, It p4, It u1, It v11_t0, It (2 : Int32), It u14, It u16, Rf b18, Rf b25, Rf b222, Rf b227, It (1 : Int32), It (1 : Int32), Rf rs_305, .unset] [(.int (4 : Int32))])) _
              refine XS.istore X305.here hx rfl (hb hby at_266) rfl (l' := #[It p1, It p2, It p3, It p4, It u1, It v11_t0, It (2 : Int32), It u14, It u16, Rf b18, Rf b25, Rf b222, Rf b227, It (1 : Int32), It (1 : Int32), Rf rs_305, It (4 : Int32)]) rfl ?_
              refine XS.aload X305.here hx rfl (hb hby at_268) rfl rfl ?_
              refine st309.trans ?_
              refine XS.iload X309.here hx rfl (hb hby at_273) rfl ?_
              refine XS.iload X309.here hx rfl (hb hby at_275) rfl ?_
              refine XS.iadd X309.here hx rfl (hb hby at_277) rfl ?_
              refine XS.iconst X309.here hx rfl (hb hby at_278) ?_
              refine XS.iadd X309.here hx rfl (hb hby at_279) rfl ?_
              refine XS.icmpYes X309.here hx rfl (pc0 := 280) (pc' := 285) rfl (hb hby at_280) rfl (teq (by decide : (7 : Int32) = (((4 : Int32) + (2 : Int32)) + (1 : Int32)))).1 (by decide) (by decide) ?_
              exact kt
            exact ⟨T309, _, (2 : Int32), b222, b227, (1 : Int32), rs_305, (4 : Int32), T305.heap, T303.vm, _, ro_305, ko_305, (7 : Int32), [.int (32 : Int32), .int (32 : Int32), .int (32 : Int32), .int (32 : Int32), .int (StrChars.lo8 (nar .char u14)), .int (StrChars.lo8 (nar .char u16)), .int (10 : Int32), .int (0 : Int32), .int (0 : Int32), .int (0 : Int32), .int (0 : Int32), .int (0 : Int32), .int (0 : Int32), .int (0 : Int32), .int (0 : Int32), .int (0 : Int32)], X309.mono (by decide) (by decide), e309, N309, O305, (((((((((((Keep.refl h33 []).ext E222).trans K225q (allS (Or.inr (Nat.le_trans (Nat.le_refl _) (Nat.le_of_eq g222.symm))) all0)).ext E227).trans K230q (allS (Or.inr (Nat.le_trans (Nat.le_trans (Nat.le_trans (Nat.le_refl _) E222.1) K225q.1) (Nat.le_of_eq g227.symm))) all0)).trans K239 (allS (Or.inr (Nat.le_trans (Nat.le_trans (Nat.le_trans (Nat.le_refl _) E222.1) K225q.1) (Nat.le_of_eq g227.symm))) all0)).trans K253 (allS (Or.inr (Nat.le_trans (Nat.le_trans (Nat.le_trans (Nat.le_refl _) E222.1) K225q.1) (Nat.le_of_eq g227.symm))) all0)).trans K267 (allS (Or.inr (Nat.le_trans (Nat.le_trans (Nat.le_trans (Nat.le_refl _) E222.1) K225q.1) (Nat.le_of_eq g227.symm))) all0)).trans K282 (allS (Or.inr (Nat.le_trans (Nat.le_trans (Nat.le_trans (Nat.le_refl _) E222.1) K225q.1) (Nat.le_of_eq g227.symm))) all0)).trans K303q (allS (Or.inr (Nat.le_trans (Nat.le_trans (Nat.le_trans (Nat.le_trans (Nat.le_refl _) E222.1) K225q.1) E227.1) f230_8)) (allS (Or.inr (Nat.le_trans (Nat.le_trans (Nat.le_trans (Nat.le_trans (Nat.le_refl _) E222.1) K225q.1) E227.1) f230_10)) all0))).trans K305q all0), K305, Y303, (Nat.le_trans (Nat.le_refl _) K305q.1), hZ303, hown303, CR306, (((((((((((CHr.refl CR35.1).trans (CHr.ext E222 CR35.1)).trans (CHr.keep K225q (allS (Safe.ext E222 CR35.1 (Safe.new (Nat.le_of_eq g222.symm))) all0) CR224.1)).trans (CHr.ext E227 CR226.1)).trans (CHr.keep K230q (allS (Safe.exa hZ.alike A227 (by decide) (by decide)) all0) CR229.1)).trans (CQ239)).trans (CQ253)).trans (CQ267)).trans (CQ282)).trans (C303)).trans (CHr.keep K305q all0 CR304.1)), f305_0, f305_3, f305_4, VO305, own_at12 rg_u14 rg_u16, fun target kt => sg232 _ (sg239 _ (sg253 _ (sg267 _ (sg275 _ (sg282 _ (sg290 _ (sg308 _ (sg310 _ (kt)))))))))⟩
          · by_cases hc311 : v282_l14 = (2 : Int32)
            · subst hc311
              have VL312 : Arv Z h282 t225 kb225 .byte (2 : Int32) [.int (StrChars.lo8 (nar .char u14)), .int (StrChars.lo8 (nar .char u16))] (.int (0 : Int32)) := ((((((V225.ext E227).keep K230q (ninS (Nat.ne_of_lt (Nat.lt_of_lt_of_le V225.lt (Nat.le_of_eq g227.symm))) nin0)).keep K239 (ninS (Nat.ne_of_lt (Nat.lt_of_lt_of_le V225.lt (Nat.le_of_eq g227.symm))) nin0)).keep K253 (ninS (Nat.ne_of_lt (Nat.lt_of_lt_of_le V225.lt (Nat.le_of_eq g227.symm))) nin0)).keep K267 (ninS (Nat.ne_of_lt (Nat.lt_of_lt_of_le V225.lt (Nat.le_of_eq g227.symm))) nin0)).keep K282 (ninS (Nat.ne_of_lt (Nat.lt_of_lt_of_le V225.lt (Nat.le_of_eq g227.symm))) nin0))
              obtain ⟨cq313, kq313, q313a, q313b, q313c⟩ := isOf hZ282 e282 (((((A227.keep K230q).keep K239).keep K253).keep K267).keep K282)
              obtain ⟨_, _, ⟨T313, L313, k313, n313⟩, -, X313, Y313, G313, ⟨Lc313, hQ313, l313, y313, z313, C313⟩, st313⟩ := X282.virtualBackS hx (y := m_33) (z := m_33) hown282 (mvT hZ282 (tw hw 57 rfl)) (mvT hZ282 (tw hw 58 rfl)) (notFace_of_selects (args := #[]) (mvT hZ282 (tw hw 60 rfl))) (mvT hZ282 (tw hw 60 rfl)) (mvT hZ282 (tw hw 59 rfl)) (by decide) (own_backSH (W := 0) (rm10_22 l Z a0 hw [] b227 b222 sb_230 ro_230 t225 ([.int (StrChars.lo8 (nar .char u14)), .int (StrChars.lo8 (nar .char u16))]) zC ko_230 kb225 h282 n0 O282 sC (((((A227.keep K230q).keep K239).keep K253).keep K267).keep K282) FT282 FDz Rn286 Rn289 Rn287 Rn288 Rn285 ((((((A225.ext E227).keep K230q).keep K239).keep K253).keep K267).keep K282) ((((((Fc225.ext E227).keep K230q (ninS (Nat.ne_of_lt (Nat.lt_of_lt_of_le A225.lt (Nat.le_of_eq g227.symm))) nin0)).keep K239 (ninS (Nat.ne_of_lt (Nat.lt_of_lt_of_le A225.lt (Nat.le_of_eq g227.symm))) nin0)).keep K253 (ninS (Nat.ne_of_lt (Nat.lt_of_lt_of_le A225.lt (Nat.le_of_eq g227.symm))) nin0)).keep K267 (ninS (Nat.ne_of_lt (Nat.lt_of_lt_of_le A225.lt (Nat.le_of_eq g227.symm))) nin0)).keep K282 (ninS (Nat.ne_of_lt (Nat.lt_of_lt_of_le A225.lt (Nat.le_of_eq g227.symm))) nin0)) ((((((Fv225.ext E227).keep K230q (ninS (Nat.ne_of_lt (Nat.lt_of_lt_of_le A225.lt (Nat.le_of_eq g227.symm))) nin0)).keep K239 (ninS (Nat.ne_of_lt (Nat.lt_of_lt_of_le A225.lt (Nat.le_of_eq g227.symm))) nin0)).keep K253 (ninS (Nat.ne_of_lt (Nat.lt_of_lt_of_le A225.lt (Nat.le_of_eq g227.symm))) nin0)).keep K267 (ninS (Nat.ne_of_lt (Nat.lt_of_lt_of_le A225.lt (Nat.le_of_eq g227.symm))) nin0)).keep K282 (ninS (Nat.ne_of_lt (Nat.lt_of_lt_of_le A225.lt (Nat.le_of_eq g227.symm))) nin0)) VL312 f230_7 f230_9 (Nat.ne_of_lt (Nat.lt_of_lt_of_le (V225.ext E227).lt f230_10)) hCS) hZ282 (tw hw 61 rfl) (tw hw 32 rfl) (by decide) (by decide) hEL CR_282.1 Rn285.lt Rn283) q313a q313c (g := (mkF m 235 #[It p1, It p2, It p3, It p4, It u1, It v11_t0, It (2 : Int32), It u14, It u16, Rf b18, Rf b25, Rf b222, Rf b227, It (1 : Int32), It (2 : Int32), .unset, .unset] [(.ref b222), (.ref b227)])) rfl (by rw [hml]; rfl) (Steps.refl _) (argsL := [(.ref b222)]) (rest := []) (lenOf pd_27 rfl) rfl (w0 rfl) (hb hby at_235) (fun _ _ => ⟨rfl, e282, (by decide : 7 + 4 ≤ _), (by decide : 31 + 32 ≤ _)⟩)
              dsimp only [Pt.U, Pt.locs, Pt.cells, Pt.slots] at X313 l313 y313 z313 st313 hQ313 Y313 G313 C313
              subst l313 y313 z313
              obtain ⟨rfl, N313q, K313q, O313, f313_0, f313_1, f313_2, f313_3⟩ := hQ313
              have N313 := Fr.app N282 N313q
              obtain ⟨X313, Y313, hZ313, hown313⟩ := rebS Y282 (by rw [e282]; exact Yk282) X313 Y313 G313 hZ282 hown282
              have CR314 := CR_282.trans (C313)
              have Sf313_sb_230 := (C313.safe Rn286.lt Rn284)
              have Sf313_ro_230 := (C313.safe Rn285.lt Rn283)
              have K313 := KK282.trans K313q (allS (Or.inr (Nat.le_trans K227.1 f230_8)) (allS (Or.inr (Nat.le_trans K227.1 f230_10)) all0))
              obtain ⟨cq315, kq315, q315a, q315b, q315c⟩ := isOf hZ313 rfl ((((((A227.keep K230q).keep K239).keep K253).keep K267).keep K282).keep K313q)
              obtain ⟨_, _, ⟨T315, L315, k315, n315⟩, -, X315, ⟨Lc315, hQ315, l315, y315, z315⟩, st315⟩ := X313.virtualBack hx (y := m_29) (z := m_29) hown313 (mvT hZ313 (tw hw 143 rfl)) (mvT hZ313 (tw hw 144 rfl)) (notFace_of_selects (args := #[]) (mvT hZ313 (tw hw 146 rfl))) (mvT hZ313 (tw hw 146 rfl)) (mvT hZ313 (tw hw 145 rfl)) (by decide) (backOf (W := 0) (rm25 l Z a0 hw [] b227 ro_230 (11 : Int32) 11 ((cpy (cpy z16 0 (cpy (cpy z16 0 s4 0 4) 4 (cpy z16 0 s4 0 4) 0 4) 0 8) 8 [.int (StrChars.lo8 (nar .char u14)), .int (StrChars.lo8 (nar .char u16))] 0 2).set 10 (.int ((10 : Int32).toInt8.toInt32.toInt8.toInt32))) sb_230 zC ko_230 T313.heap n0 O313 hCS sC (FT282.keep K313q (ninS (Nat.ne_of_lt (Nat.lt_of_lt_of_le A227.lt f230_8)) (ninS (Nat.ne_of_lt (Nat.lt_of_lt_of_le A227.lt f230_10)) nin0))) (Rn286.keep K313q) f313_0 f313_1 f313_2 f313_3 (Sm.lit (x := (11 : Int32)) (n := 11) (by decide)) (by decide)) hZ313 (tw hw 147 rfl) (tw hw 32 rfl) (by decide) (by decide)) q315a q315c (g := (mkF m 241 #[It p1, It p2, It p3, It p4, It u1, It v11_t0, It (2 : Int32), It u14, It u16, Rf b18, Rf b25, Rf b222, Rf b227, It (1 : Int32), It (2 : Int32), .unset, .unset] [(.ref b227)])) rfl (by rw [hml]; rfl) (Steps.refl _) (argsL := []) (rest := []) (lenOf pd_17 rfl) rfl (w0 rfl) (hb hby at_241) (fun _ _ => ⟨rfl, rfl, (by decide : 11 + 2 ≤ _), (by decide : 63 + 20 ≤ _)⟩)
              dsimp only [Pt.U, Pt.locs, Pt.cells, Pt.slots] at X315 l315 y315 z315 st315 hQ315
              subst l315 y315 z315
              obtain ⟨rs_315, ro_315, ko_315, rfl, N315q, K315q, O315, f315_0, f315_1, f315_2, f315_3, f315_4, f315_5, f315_6, f315_7⟩ := hQ315
              have N315 := Fr.app N313 N315q
              have CR316 := CR314.trans (CHr.keep K315q all0 CR314.1)
              have K315 := K313.trans K315q all0
              have VO315 : Arv Z T315.heap ro_315 ko_315 .byte (11 : Int32) [.int (32 : Int32), .int (32 : Int32), .int (32 : Int32), .int (32 : Int32), .int (32 : Int32), .int (32 : Int32), .int (32 : Int32), .int (32 : Int32), .int (StrChars.lo8 (nar .char u14)), .int (StrChars.lo8 (nar .char u16)), .int (10 : Int32), .int (0 : Int32), .int (0 : Int32), .int (0 : Int32), .int (0 : Int32), .int (0 : Int32)] (.int (0 : Int32)) := f315_5
              obtain ⟨u317, hu317⟩ : ∃ z, z = ((4 : Int32) * (2 : Int32)) := ⟨_, rfl⟩
              have sg318 : SG p.tables e below (T315.setTop (mkF m 266 #[It p1, It p2, It p3, It p4, It u1, It v11_t0, It (2 : Int32), It u14, It u16, Rf b18, Rf b25, Rf b222, Rf b227, It (1 : Int32), It (2 : Int32), Rf rs_315, .unset] [(.int u317)])) (T282.setTop (mkF m 235 #[It p1, It p2, It p3, It p4, It u1, It v11_t0, It (2 : Int32), It u14, It u16, Rf b18, Rf b25, Rf b222, Rf b227, It (1 : Int32), It (2 : Int32), .unset, .unset] [(.ref b222), (.ref b227)])) := by
                intro target kt
                subst hu317
                show Steps _ _ _ (T282.setTop (mkF m 235 #[It p1, It p2, It p3, It p4, It u1, It v11_t0, It (2 : Int32), It u14, It u16, Rf b18, Rf b25, Rf b222, Rf b227, It (1 : Int32), It (2 : Int32), .unset, .unset] [(.ref b222), (.ref b227)])) _
                refine st313.trans ?_
                refine XS.pop X313.here hx rfl (hb hby at_238) rfl rfl ?_
                refine XS.aload X313.here hx rfl (hb hby at_239) rfl rfl ?_
                refine st315.trans ?_
                refine XS.astore X315.here hx rfl (hb hby at_244) rfl rfl (l' := #[It p1, It p2, It p3, It p4, It u1, It v11_t0, It (2 : Int32), It u14, It u16, Rf b18, Rf b25, Rf b222, Rf b227, It (1 : Int32), It (2 : Int32), Rf rs_315, .unset]) rfl ?_
                refine XS.iload X315.here hx rfl (hb hby at_246) rfl ?_
                refine XS.ifYes X315.here hx rfl (pc0 := 248) (pc' := 253) rfl (hb hby at_248) rfl ((if0 _ _).trans (feq (by decide : ¬ ((1 : Int32) = (0 : Int32)))).2) (by decide) (by decide) ?_
                refine XS.iload X315.here hx rfl (hb hby at_253) rfl ?_
                refine XS.ifYes X315.here hx rfl (pc0 := 255) (pc' := 262) rfl (hb hby at_255) rfl ((if0 _ _).trans (feq (by decide : ¬ ((2 : Int32) = (0 : Int32)))).2) (by decide) (by decide) ?_
                refine XS.iconst X315.here hx rfl (hb hby at_262) ?_
                refine XS.iload X315.here hx rfl (hb hby at_263) rfl ?_
                refine XS.imul X315.here hx rfl (hb hby at_265) rfl ?_
                exact kt
              have hk_u317 : u317 = (8 : Int32) := hu317.trans (by decide)
              subst hk_u317
              obtain ⟨cq319, kq319, q319a, q319b, q319c⟩ := isOf hZ313 rfl f315_0
              obtain ⟨_, _, ⟨T319, L319, k319, n319⟩, -, X319, ⟨Lc319, hQ319, l319, y319, z319⟩, st319⟩ := X315.virtualBack hx (y := m_2) (z := m_2) hown313 (mvT hZ313 (tw hw 189 rfl)) (mvT hZ313 (tw hw 89 rfl)) (notFace_of_selects (args := #[]) (mvT hZ313 (tw hw 91 rfl))) (mvT hZ313 (tw hw 91 rfl)) (mvT hZ313 (tw hw 90 rfl)) (by decide) (backOf (W := 0) (rm15 l Z a0 hw [] rs_315 ro_315 (11 : Int32) ([.int (32 : Int32), .int (32 : Int32), .int (32 : Int32), .int (32 : Int32), .int (32 : Int32), .int (32 : Int32), .int (32 : Int32), .int (32 : Int32), .int (StrChars.lo8 (nar .char u14)), .int (StrChars.lo8 (nar .char u16)), .int (10 : Int32), .int (0 : Int32), .int (0 : Int32), .int (0 : Int32), .int (0 : Int32), .int (0 : Int32)]) zC ko_315 T315.heap n0 O315 hCS sC f315_0 f315_3 f315_4 VO315) hZ313 (tw hw 92 rfl) (tw hw 3 rfl) (by decide) (by decide)) q319a q319c (g := (mkF m 270 #[It p1, It p2, It p3, It p4, It u1, It v11_t0, It (2 : Int32), It u14, It u16, Rf b18, Rf b25, Rf b222, Rf b227, It (1 : Int32), It (2 : Int32), Rf rs_315, It (8 : Int32)] [(.ref rs_315)])) rfl (by rw [hml]; rfl) (Steps.refl _) (argsL := []) (rest := []) (lenOf pd_1 rfl) rfl (w0 rfl) (hb hby at_270) (fun _ _ => ⟨rfl, rfl, (by decide : 13 + 0 ≤ _), (by decide : 83 + 0 ≤ _)⟩)
              dsimp only [Pt.U, Pt.locs, Pt.cells, Pt.slots] at X319 l319 y319 z319 st319 hQ319
              subst l319 y319 z319
              obtain ⟨rfl, N319q, e319⟩ := hQ319
              have N319 := Fr.app N315 N319q
              have sg320 : SG p.tables e below (T319.setTop (mkF m 285 #[It p1, It p2, It p3, It p4, It u1, It v11_t0, It (2 : Int32), It u14, It u16, Rf b18, Rf b25, Rf b222, Rf b227, It (1 : Int32), It (2 : Int32), Rf rs_315, It (8 : Int32)] [])) (T315.setTop (mkF m 266 #[It p1, It p2, It p3, It p4, It u1, It v11_t0, It (2 : Int32), It u14, It u16, Rf b18, Rf b25, Rf b222, Rf b227, It (1 : Int32), It (2 : Int32), Rf rs_315, .unset] [(.int (8 : Int32))])) := by
                intro target kt
                show Steps _ _ _ (T315.setTop (mkF m 266 #[It p1, It p2, It p3, It p4, It u1, It v11_t0, It (2 : Int32), It u14, It u16, Rf b18, Rf b25, Rf b222, Rf b227, It (1 : Int32), It (2 : Int32), Rf rs_315, .unset] [(.int (8 : Int32))])) _
                refine XS.istore X315.here hx rfl (hb hby at_266) rfl (l' := #[It p1, It p2, It p3, It p4, It u1, It v11_t0, It (2 : Int32), It u14, It u16, Rf b18, Rf b25, Rf b222, Rf b227, It (1 : Int32), It (2 : Int32), Rf rs_315, It (8 : Int32)]) rfl ?_
                refine XS.aload X315.here hx rfl (hb hby at_268) rfl rfl ?_
                refine st319.trans ?_
                refine XS.iload X319.here hx rfl (hb hby at_273) rfl ?_
                refine XS.iload X319.here hx rfl (hb hby at_275) rfl ?_
                refine XS.iadd X319.here hx rfl (hb hby at_277) rfl ?_
                refine XS.iconst X319.here hx rfl (hb hby at_278) ?_
                refine XS.iadd X319.here hx rfl (hb hby at_279) rfl ?_
                refine XS.icmpYes X319.here hx rfl (pc0 := 280) (pc' := 285) rfl (hb hby at_280) rfl (teq (by decide : (11 : Int32) = (((8 : Int32) + (2 : Int32)) + (1 : Int32)))).1 (by decide) (by decide) ?_
                exact kt
              exact ⟨T319, _, (2 : Int32), b222, b227, (2 : Int32), rs_315, (8 : Int32), T315.heap, T313.vm, _, ro_315, ko_315, (11 : Int32), [.int (32 : Int32), .int (32 : Int32), .int (32 : Int32), .int (32 : Int32), .int (32 : Int32), .int (32 : Int32), .int (32 : Int32), .int (32 : Int32), .int (StrChars.lo8 (nar .char u14)), .int (StrChars.lo8 (nar .char u16)), .int (10 : Int32), .int (0 : Int32), .int (0 : Int32), .int (0 : Int32), .int (0 : Int32), .int (0 : Int32)], X319.mono (by decide) (by decide), e319, N319, O315, (((((((((((Keep.refl h33 []).ext E222).trans K225q (allS (Or.inr (Nat.le_trans (Nat.le_refl _) (Nat.le_of_eq g222.symm))) all0)).ext E227).trans K230q (allS (Or.inr (Nat.le_trans (Nat.le_trans (Nat.le_trans (Nat.le_refl _) E222.1) K225q.1) (Nat.le_of_eq g227.symm))) all0)).trans K239 (allS (Or.inr (Nat.le_trans (Nat.le_trans (Nat.le_trans (Nat.le_refl _) E222.1) K225q.1) (Nat.le_of_eq g227.symm))) all0)).trans K253 (allS (Or.inr (Nat.le_trans (Nat.le_trans (Nat.le_trans (Nat.le_refl _) E222.1) K225q.1) (Nat.le_of_eq g227.symm))) all0)).trans K267 (allS (Or.inr (Nat.le_trans (Nat.le_trans (Nat.le_trans (Nat.le_refl _) E222.1) K225q.1) (Nat.le_of_eq g227.symm))) all0)).trans K282 (allS (Or.inr (Nat.le_trans (Nat.le_trans (Nat.le_trans (Nat.le_refl _) E222.1) K225q.1) (Nat.le_of_eq g227.symm))) all0)).trans K313q (allS (Or.inr (Nat.le_trans (Nat.le_trans (Nat.le_trans (Nat.le_trans (Nat.le_refl _) E222.1) K225q.1) E227.1) f230_8)) (allS (Or.inr (Nat.le_trans (Nat.le_trans (Nat.le_trans (Nat.le_trans (Nat.le_refl _) E222.1) K225q.1) E227.1) f230_10)) all0))).trans K315q all0), K315, Y313, (Nat.le_trans (Nat.le_refl _) K315q.1), hZ313, hown313, CR316, (((((((((((CHr.refl CR35.1).trans (CHr.ext E222 CR35.1)).trans (CHr.keep K225q (allS (Safe.ext E222 CR35.1 (Safe.new (Nat.le_of_eq g222.symm))) all0) CR224.1)).trans (CHr.ext E227 CR226.1)).trans (CHr.keep K230q (allS (Safe.exa hZ.alike A227 (by decide) (by decide)) all0) CR229.1)).trans (CQ239)).trans (CQ253)).trans (CQ267)).trans (CQ282)).trans (C313)).trans (CHr.keep K315q all0 CR314.1)), f315_0, f315_3, f315_4, VO315, own_at22 rg_u14 rg_u16, fun target kt => sg232 _ (sg239 _ (sg253 _ (sg267 _ (sg275 _ (sg282 _ (sg290 _ (sg318 _ (sg320 _ (kt)))))))))⟩
            · have hl_v282_l14 : v282_l14 = (3 : Int32) := own_or3 hdr hc291 hc301 hc311
              subst hl_v282_l14
              have VL321 : Arv Z h282 t225 kb225 .byte (2 : Int32) [.int (StrChars.lo8 (nar .char u14)), .int (StrChars.lo8 (nar .char u16))] (.int (0 : Int32)) := ((((((V225.ext E227).keep K230q (ninS (Nat.ne_of_lt (Nat.lt_of_lt_of_le V225.lt (Nat.le_of_eq g227.symm))) nin0)).keep K239 (ninS (Nat.ne_of_lt (Nat.lt_of_lt_of_le V225.lt (Nat.le_of_eq g227.symm))) nin0)).keep K253 (ninS (Nat.ne_of_lt (Nat.lt_of_lt_of_le V225.lt (Nat.le_of_eq g227.symm))) nin0)).keep K267 (ninS (Nat.ne_of_lt (Nat.lt_of_lt_of_le V225.lt (Nat.le_of_eq g227.symm))) nin0)).keep K282 (ninS (Nat.ne_of_lt (Nat.lt_of_lt_of_le V225.lt (Nat.le_of_eq g227.symm))) nin0))
              obtain ⟨cq322, kq322, q322a, q322b, q322c⟩ := isOf hZ282 e282 (((((A227.keep K230q).keep K239).keep K253).keep K267).keep K282)
              obtain ⟨_, _, ⟨T322, L322, k322, n322⟩, -, X322, Y322, G322, ⟨Lc322, hQ322, l322, y322, z322, C322⟩, st322⟩ := X282.virtualBackS hx (y := m_33) (z := m_33) hown282 (mvT hZ282 (tw hw 57 rfl)) (mvT hZ282 (tw hw 58 rfl)) (notFace_of_selects (args := #[]) (mvT hZ282 (tw hw 60 rfl))) (mvT hZ282 (tw hw 60 rfl)) (mvT hZ282 (tw hw 59 rfl)) (by decide) (own_backSH (W := 0) (rm10_32 l Z a0 hw [] b227 b222 sb_230 ro_230 t225 ([.int (StrChars.lo8 (nar .char u14)), .int (StrChars.lo8 (nar .char u16))]) zC ko_230 kb225 h282 n0 O282 sC (((((A227.keep K230q).keep K239).keep K253).keep K267).keep K282) FT282 FDz Rn286 Rn289 Rn287 Rn288 Rn285 ((((((A225.ext E227).keep K230q).keep K239).keep K253).keep K267).keep K282) ((((((Fc225.ext E227).keep K230q (ninS (Nat.ne_of_lt (Nat.lt_of_lt_of_le A225.lt (Nat.le_of_eq g227.symm))) nin0)).keep K239 (ninS (Nat.ne_of_lt (Nat.lt_of_lt_of_le A225.lt (Nat.le_of_eq g227.symm))) nin0)).keep K253 (ninS (Nat.ne_of_lt (Nat.lt_of_lt_of_le A225.lt (Nat.le_of_eq g227.symm))) nin0)).keep K267 (ninS (Nat.ne_of_lt (Nat.lt_of_lt_of_le A225.lt (Nat.le_of_eq g227.symm))) nin0)).keep K282 (ninS (Nat.ne_of_lt (Nat.lt_of_lt_of_le A225.lt (Nat.le_of_eq g227.symm))) nin0)) ((((((Fv225.ext E227).keep K230q (ninS (Nat.ne_of_lt (Nat.lt_of_lt_of_le A225.lt (Nat.le_of_eq g227.symm))) nin0)).keep K239 (ninS (Nat.ne_of_lt (Nat.lt_of_lt_of_le A225.lt (Nat.le_of_eq g227.symm))) nin0)).keep K253 (ninS (Nat.ne_of_lt (Nat.lt_of_lt_of_le A225.lt (Nat.le_of_eq g227.symm))) nin0)).keep K267 (ninS (Nat.ne_of_lt (Nat.lt_of_lt_of_le A225.lt (Nat.le_of_eq g227.symm))) nin0)).keep K282 (ninS (Nat.ne_of_lt (Nat.lt_of_lt_of_le A225.lt (Nat.le_of_eq g227.symm))) nin0)) VL321 f230_7 f230_9 (Nat.ne_of_lt (Nat.lt_of_lt_of_le (V225.ext E227).lt f230_10)) hCS) hZ282 (tw hw 61 rfl) (tw hw 32 rfl) (by decide) (by decide) hEL CR_282.1 Rn285.lt Rn283) q322a q322c (g := (mkF m 235 #[It p1, It p2, It p3, It p4, It u1, It v11_t0, It (2 : Int32), It u14, It u16, Rf b18, Rf b25, Rf b222, Rf b227, It (1 : Int32), It (3 : Int32), .unset, .unset] [(.ref b222), (.ref b227)])) rfl (by rw [hml]; rfl) (Steps.refl _) (argsL := [(.ref b222)]) (rest := []) (lenOf pd_27 rfl) rfl (w0 rfl) (hb hby at_235) (fun _ _ => ⟨rfl, e282, (by decide : 7 + 4 ≤ _), (by decide : 31 + 36 ≤ _)⟩)
              dsimp only [Pt.U, Pt.locs, Pt.cells, Pt.slots] at X322 l322 y322 z322 st322 hQ322 Y322 G322 C322
              subst l322 y322 z322
              obtain ⟨rfl, N322q, K322q, O322, f322_0, f322_1, f322_2, f322_3⟩ := hQ322
              have N322 := Fr.app N282 N322q
              obtain ⟨X322, Y322, hZ322, hown322⟩ := rebS Y282 (by rw [e282]; exact Yk282) X322 Y322 G322 hZ282 hown282
              have CR323 := CR_282.trans (C322)
              have Sf322_sb_230 := (C322.safe Rn286.lt Rn284)
              have Sf322_ro_230 := (C322.safe Rn285.lt Rn283)
              have K322 := KK282.trans K322q (allS (Or.inr (Nat.le_trans K227.1 f230_8)) (allS (Or.inr (Nat.le_trans K227.1 f230_10)) all0))
              obtain ⟨cq324, kq324, q324a, q324b, q324c⟩ := isOf hZ322 rfl ((((((A227.keep K230q).keep K239).keep K253).keep K267).keep K282).keep K322q)
              obtain ⟨_, _, ⟨T324, L324, k324, n324⟩, -, X324, ⟨Lc324, hQ324, l324, y324, z324⟩, st324⟩ := X322.virtualBack hx (y := m_29) (z := m_29) hown322 (mvT hZ322 (tw hw 143 rfl)) (mvT hZ322 (tw hw 144 rfl)) (notFace_of_selects (args := #[]) (mvT hZ322 (tw hw 146 rfl))) (mvT hZ322 (tw hw 146 rfl)) (mvT hZ322 (tw hw 145 rfl)) (by decide) (backOf (W := 0) (rm25 l Z a0 hw [] b227 ro_230 (15 : Int32) 15 ((cpy (cpy z16 0 (cpy (cpy (cpy z16 0 s4 0 4) 4 (cpy z16 0 s4 0 4) 0 4) 8 (cpy (cpy z16 0 s4 0 4) 4 (cpy z16 0 s4 0 4) 0 4) 0 4) 0 12) 12 [.int (StrChars.lo8 (nar .char u14)), .int (StrChars.lo8 (nar .char u16))] 0 2).set 14 (.int ((10 : Int32).toInt8.toInt32.toInt8.toInt32))) sb_230 zC ko_230 T322.heap n0 O322 hCS sC (FT282.keep K322q (ninS (Nat.ne_of_lt (Nat.lt_of_lt_of_le A227.lt f230_8)) (ninS (Nat.ne_of_lt (Nat.lt_of_lt_of_le A227.lt f230_10)) nin0))) (Rn286.keep K322q) f322_0 f322_1 f322_2 f322_3 (Sm.lit (x := (15 : Int32)) (n := 15) (by decide)) (by decide)) hZ322 (tw hw 147 rfl) (tw hw 32 rfl) (by decide) (by decide)) q324a q324c (g := (mkF m 241 #[It p1, It p2, It p3, It p4, It u1, It v11_t0, It (2 : Int32), It u14, It u16, Rf b18, Rf b25, Rf b222, Rf b227, It (1 : Int32), It (3 : Int32), .unset, .unset] [(.ref b227)])) rfl (by rw [hml]; rfl) (Steps.refl _) (argsL := []) (rest := []) (lenOf pd_17 rfl) rfl (w0 rfl) (hb hby at_241) (fun _ _ => ⟨rfl, rfl, (by decide : 11 + 2 ≤ _), (by decide : 67 + 20 ≤ _)⟩)
              dsimp only [Pt.U, Pt.locs, Pt.cells, Pt.slots] at X324 l324 y324 z324 st324 hQ324
              subst l324 y324 z324
              obtain ⟨rs_324, ro_324, ko_324, rfl, N324q, K324q, O324, f324_0, f324_1, f324_2, f324_3, f324_4, f324_5, f324_6, f324_7⟩ := hQ324
              have N324 := Fr.app N322 N324q
              have CR325 := CR323.trans (CHr.keep K324q all0 CR323.1)
              have K324 := K322.trans K324q all0
              have VO324 : Arv Z T324.heap ro_324 ko_324 .byte (15 : Int32) [.int (32 : Int32), .int (32 : Int32), .int (32 : Int32), .int (32 : Int32), .int (32 : Int32), .int (32 : Int32), .int (32 : Int32), .int (32 : Int32), .int (32 : Int32), .int (32 : Int32), .int (32 : Int32), .int (32 : Int32), .int (StrChars.lo8 (nar .char u14)), .int (StrChars.lo8 (nar .char u16)), .int (10 : Int32), .int (0 : Int32)] (.int (0 : Int32)) := f324_5
              obtain ⟨u326, hu326⟩ : ∃ z, z = ((4 : Int32) * (3 : Int32)) := ⟨_, rfl⟩
              have sg327 : SG p.tables e below (T324.setTop (mkF m 266 #[It p1, It p2, It p3, It p4, It u1, It v11_t0, It (2 : Int32), It u14, It u16, Rf b18, Rf b25, Rf b222, Rf b227, It (1 : Int32), It (3 : Int32), Rf rs_324, .unset] [(.int u326)])) (T282.setTop (mkF m 235 #[It p1, It p2, It p3, It p4, It u1, It v11_t0, It (2 : Int32), It u14, It u16, Rf b18, Rf b25, Rf b222, Rf b227, It (1 : Int32), It (3 : Int32), .unset, .unset] [(.ref b222), (.ref b227)])) := by
                intro target kt
                subst hu326
                show Steps _ _ _ (T282.setTop (mkF m 235 #[It p1, It p2, It p3, It p4, It u1, It v11_t0, It (2 : Int32), It u14, It u16, Rf b18, Rf b25, Rf b222, Rf b227, It (1 : Int32), It (3 : Int32), .unset, .unset] [(.ref b222), (.ref b227)])) _
                refine st322.trans ?_
                refine XS.pop X322.here hx rfl (hb hby at_238) rfl rfl ?_
                refine XS.aload X322.here hx rfl (hb hby at_239) rfl rfl ?_
                refine st324.trans ?_
                refine XS.astore X324.here hx rfl (hb hby at_244) rfl rfl (l' := #[It p1, It p2, It p3, It p4, It u1, It v11_t0, It (2 : Int32), It u14, It u16, Rf b18, Rf b25, Rf b222, Rf b227, It (1 : Int32), It (3 : Int32), Rf rs_324, .unset]) rfl ?_
                refine XS.iload X324.here hx rfl (hb hby at_246) rfl ?_
                refine XS.ifYes X324.here hx rfl (pc0 := 248) (pc' := 253) rfl (hb hby at_248) rfl ((if0 _ _).trans (feq (by decide : ¬ ((1 : Int32) = (0 : Int32)))).2) (by decide) (by decide) ?_
                refine XS.iload X324.here hx rfl (hb hby at_253) rfl ?_
                refine XS.ifYes X324.here hx rfl (pc0 := 255) (pc' := 262) rfl (hb hby at_255) rfl ((if0 _ _).trans (feq (by decide : ¬ ((2 : Int32) = (0 : Int32)))).2) (by decide) (by decide) ?_
                refine XS.iconst X324.here hx rfl (hb hby at_262) ?_
                refine XS.iload X324.here hx rfl (hb hby at_263) rfl ?_
                refine XS.imul X324.here hx rfl (hb hby at_265) rfl ?_
                exact kt
              have hk_u326 : u326 = (12 : Int32) := hu326.trans (by decide)
              subst hk_u326
              obtain ⟨cq328, kq328, q328a, q328b, q328c⟩ := isOf hZ322 rfl f324_0
              obtain ⟨_, _, ⟨T328, L328, k328, n328⟩, -, X328, ⟨Lc328, hQ328, l328, y328, z328⟩, st328⟩ := X324.virtualBack hx (y := m_2) (z := m_2) hown322 (mvT hZ322 (tw hw 189 rfl)) (mvT hZ322 (tw hw 89 rfl)) (notFace_of_selects (args := #[]) (mvT hZ322 (tw hw 91 rfl))) (mvT hZ322 (tw hw 91 rfl)) (mvT hZ322 (tw hw 90 rfl)) (by decide) (backOf (W := 0) (rm15 l Z a0 hw [] rs_324 ro_324 (15 : Int32) ([.int (32 : Int32), .int (32 : Int32), .int (32 : Int32), .int (32 : Int32), .int (32 : Int32), .int (32 : Int32), .int (32 : Int32), .int (32 : Int32), .int (32 : Int32), .int (32 : Int32), .int (32 : Int32), .int (32 : Int32), .int (StrChars.lo8 (nar .char u14)), .int (StrChars.lo8 (nar .char u16)), .int (10 : Int32), .int (0 : Int32)]) zC ko_324 T324.heap n0 O324 hCS sC f324_0 f324_3 f324_4 VO324) hZ322 (tw hw 92 rfl) (tw hw 3 rfl) (by decide) (by decide)) q328a q328c (g := (mkF m 270 #[It p1, It p2, It p3, It p4, It u1, It v11_t0, It (2 : Int32), It u14, It u16, Rf b18, Rf b25, Rf b222, Rf b227, It (1 : Int32), It (3 : Int32), Rf rs_324, It (12 : Int32)] [(.ref rs_324)])) rfl (by rw [hml]; rfl) (Steps.refl _) (argsL := []) (rest := []) (lenOf pd_1 rfl) rfl (w0 rfl) (hb hby at_270) (fun _ _ => ⟨rfl, rfl, (by decide : 13 + 0 ≤ _), (by decide : 87 + 0 ≤ _)⟩)
              dsimp only [Pt.U, Pt.locs, Pt.cells, Pt.slots] at X328 l328 y328 z328 st328 hQ328
              subst l328 y328 z328
              obtain ⟨rfl, N328q, e328⟩ := hQ328
              have N328 := Fr.app N324 N328q
              have sg329 : SG p.tables e below (T328.setTop (mkF m 285 #[It p1, It p2, It p3, It p4, It u1, It v11_t0, It (2 : Int32), It u14, It u16, Rf b18, Rf b25, Rf b222, Rf b227, It (1 : Int32), It (3 : Int32), Rf rs_324, It (12 : Int32)] [])) (T324.setTop (mkF m 266 #[It p1, It p2, It p3, It p4, It u1, It v11_t0, It (2 : Int32), It u14, It u16, Rf b18, Rf b25, Rf b222, Rf b227, It (1 : Int32), It (3 : Int32), Rf rs_324, .unset] [(.int (12 : Int32))])) := by
                intro target kt
                show Steps _ _ _ (T324.setTop (mkF m 266 #[It p1, It p2, It p3, It p4, It u1, It v11_t0, It (2 : Int32), It u14, It u16, Rf b18, Rf b25, Rf b222, Rf b227, It (1 : Int32), It (3 : Int32), Rf rs_324, .unset] [(.int (12 : Int32))])) _
                refine XS.istore X324.here hx rfl (hb hby at_266) rfl (l' := #[It p1, It p2, It p3, It p4, It u1, It v11_t0, It (2 : Int32), It u14, It u16, Rf b18, Rf b25, Rf b222, Rf b227, It (1 : Int32), It (3 : Int32), Rf rs_324, It (12 : Int32)]) rfl ?_
                refine XS.aload X324.here hx rfl (hb hby at_268) rfl rfl ?_
                refine st328.trans ?_
                refine XS.iload X328.here hx rfl (hb hby at_273) rfl ?_
                refine XS.iload X328.here hx rfl (hb hby at_275) rfl ?_
                refine XS.iadd X328.here hx rfl (hb hby at_277) rfl ?_
                refine XS.iconst X328.here hx rfl (hb hby at_278) ?_
                refine XS.iadd X328.here hx rfl (hb hby at_279) rfl ?_
                refine XS.icmpYes X328.here hx rfl (pc0 := 280) (pc' := 285) rfl (hb hby at_280) rfl (teq (by decide : (15 : Int32) = (((12 : Int32) + (2 : Int32)) + (1 : Int32)))).1 (by decide) (by decide) ?_
                exact kt
              exact ⟨T328, _, (2 : Int32), b222, b227, (3 : Int32), rs_324, (12 : Int32), T324.heap, T322.vm, _, ro_324, ko_324, (15 : Int32), [.int (32 : Int32), .int (32 : Int32), .int (32 : Int32), .int (32 : Int32), .int (32 : Int32), .int (32 : Int32), .int (32 : Int32), .int (32 : Int32), .int (32 : Int32), .int (32 : Int32), .int (32 : Int32), .int (32 : Int32), .int (StrChars.lo8 (nar .char u14)), .int (StrChars.lo8 (nar .char u16)), .int (10 : Int32), .int (0 : Int32)], X328.mono (by decide) (by decide), e328, N328, O324, (((((((((((Keep.refl h33 []).ext E222).trans K225q (allS (Or.inr (Nat.le_trans (Nat.le_refl _) (Nat.le_of_eq g222.symm))) all0)).ext E227).trans K230q (allS (Or.inr (Nat.le_trans (Nat.le_trans (Nat.le_trans (Nat.le_refl _) E222.1) K225q.1) (Nat.le_of_eq g227.symm))) all0)).trans K239 (allS (Or.inr (Nat.le_trans (Nat.le_trans (Nat.le_trans (Nat.le_refl _) E222.1) K225q.1) (Nat.le_of_eq g227.symm))) all0)).trans K253 (allS (Or.inr (Nat.le_trans (Nat.le_trans (Nat.le_trans (Nat.le_refl _) E222.1) K225q.1) (Nat.le_of_eq g227.symm))) all0)).trans K267 (allS (Or.inr (Nat.le_trans (Nat.le_trans (Nat.le_trans (Nat.le_refl _) E222.1) K225q.1) (Nat.le_of_eq g227.symm))) all0)).trans K282 (allS (Or.inr (Nat.le_trans (Nat.le_trans (Nat.le_trans (Nat.le_refl _) E222.1) K225q.1) (Nat.le_of_eq g227.symm))) all0)).trans K322q (allS (Or.inr (Nat.le_trans (Nat.le_trans (Nat.le_trans (Nat.le_trans (Nat.le_refl _) E222.1) K225q.1) E227.1) f230_8)) (allS (Or.inr (Nat.le_trans (Nat.le_trans (Nat.le_trans (Nat.le_trans (Nat.le_refl _) E222.1) K225q.1) E227.1) f230_10)) all0))).trans K324q all0), K324, Y322, (Nat.le_trans (Nat.le_refl _) K324q.1), hZ322, hown322, CR325, (((((((((((CHr.refl CR35.1).trans (CHr.ext E222 CR35.1)).trans (CHr.keep K225q (allS (Safe.ext E222 CR35.1 (Safe.new (Nat.le_of_eq g222.symm))) all0) CR224.1)).trans (CHr.ext E227 CR226.1)).trans (CHr.keep K230q (allS (Safe.exa hZ.alike A227 (by decide) (by decide)) all0) CR229.1)).trans (CQ239)).trans (CQ253)).trans (CQ267)).trans (CQ282)).trans (C322)).trans (CHr.keep K324q all0 CR323.1)), f324_0, f324_3, f324_4, VO324, own_at32 rg_u14 rg_u16, fun target kt => sg232 _ (sg239 _ (sg253 _ (sg267 _ (sg275 _ (sg282 _ (sg290 _ (sg327 _ (sg329 _ (kt)))))))))⟩
  obtain ⟨_, _, ⟨T331, L331, k331, n331⟩, -, X331, ⟨Lc331, hQ331, l331, y331, z331⟩, st331⟩ := Jvm.LawKit.callS X330 hx (y := m_38) hown330 (mvT hZ330 (tw hw 190 rfl)) (mvT hZ330 (tw hw 191 rfl)) (mvT hZ330 (tw hw 192 rfl)) (mvT hZ330 (tw hw 193 rfl)) (by decide) (backOf (W := 0) (rm36 l Z a0 hw [] v330_l15 (0 : Int32) v330_l16 v330_l6 u14 u16 ot330 oz330 ol330 vFM zC ok330 h330 n0 O330 hCS hFM hAT.1 sC sF EO330 CO330 VO330 AO330) hZ330 (tw hw 193 rfl) (tw hw 192 rfl) (by decide) (by decide)) (g := (mkF m 296 #[It p1, It p2, It p3, It p4, It u1, It v11_t0, It v330_l6, It u14, It u16, Rf b18, Rf b25, Rf v330_l11, Rf v330_l12, It (1 : Int32), It v330_l14, Rf v330_l15, It v330_l16] [(.int u16), (.int u14), (.int v330_l6), (.int v330_l16), (.int (0 : Int32)), (.ref v330_l15)])) rfl (by rw [hml]; rfl) (argsL := [(.ref v330_l15), (.int (0 : Int32)), (.int v330_l16), (.int v330_l6), (.int u14), (.int u16)]) (rest := []) (lenOf pd_29 rfl) rfl (w0 rfl) (hb hby at_296) (fun _ _ => ⟨rfl, e330, (by decide : 13 + 0 ≤ _), (by decide : 87 + 0 ≤ _)⟩)
  dsimp only [Pt.U, Pt.locs, Pt.cells, Pt.slots] at X331 l331 y331 z331 st331 hQ331
  subst l331 y331 z331
  obtain ⟨rfl, N331q, e331⟩ := hQ331
  have N331 := Fr.app N330 N331q
  obtain ⟨_, _, ⟨T332, L332, k332, n332⟩, -, X332, ⟨Lc332, hQ332, l332, y332, z332⟩, st332⟩ := Jvm.LawKit.callS X331 hx (y := m_38) hown330 (mvT hZ330 (tw hw 190 rfl)) (mvT hZ330 (tw hw 191 rfl)) (mvT hZ330 (tw hw 192 rfl)) (mvT hZ330 (tw hw 193 rfl)) (by decide) (backOf (W := 0) (rm36 l Z a0 hw [] v330_l15 (1 : Int32) v330_l16 v330_l6 u14 u16 ot330 oz330 ol330 vFM zC ok330 h330 n0 O330 hCS hFM hAT.2.1 sC sF EO330 CO330 VO330 AO330) hZ330 (tw hw 193 rfl) (tw hw 192 rfl) (by decide) (by decide)) (g := (mkF m 313 #[It p1, It p2, It p3, It p4, It u1, It v11_t0, It v330_l6, It u14, It u16, Rf b18, Rf b25, Rf v330_l11, Rf v330_l12, It (1 : Int32), It v330_l14, Rf v330_l15, It v330_l16] [(.int u16), (.int u14), (.int v330_l6), (.int v330_l16), (.int (1 : Int32)), (.ref v330_l15)])) rfl (by rw [hml]; rfl) (argsL := [(.ref v330_l15), (.int (1 : Int32)), (.int v330_l16), (.int v330_l6), (.int u14), (.int u16)]) (rest := []) (lenOf pd_29 rfl) rfl (w0 rfl) (hb hby at_313) (fun _ _ => ⟨rfl, e331, (by decide : 13 + 0 ≤ _), (by decide : 87 + 0 ≤ _)⟩)
  dsimp only [Pt.U, Pt.locs, Pt.cells, Pt.slots] at X332 l332 y332 z332 st332 hQ332
  subst l332 y332 z332
  obtain ⟨rfl, N332q, e332⟩ := hQ332
  have N332 := Fr.app N331 N332q
  obtain ⟨_, _, ⟨T333, L333, k333, n333⟩, -, X333, ⟨Lc333, hQ333, l333, y333, z333⟩, st333⟩ := Jvm.LawKit.callS X332 hx (y := m_38) hown330 (mvT hZ330 (tw hw 190 rfl)) (mvT hZ330 (tw hw 191 rfl)) (mvT hZ330 (tw hw 192 rfl)) (mvT hZ330 (tw hw 193 rfl)) (by decide) (backOf (W := 0) (rm36 l Z a0 hw [] v330_l15 (2 : Int32) v330_l16 v330_l6 u14 u16 ot330 oz330 ol330 vFM zC ok330 h330 n0 O330 hCS hFM hAT.2.2.1 sC sF EO330 CO330 VO330 AO330) hZ330 (tw hw 193 rfl) (tw hw 192 rfl) (by decide) (by decide)) (g := (mkF m 330 #[It p1, It p2, It p3, It p4, It u1, It v11_t0, It v330_l6, It u14, It u16, Rf b18, Rf b25, Rf v330_l11, Rf v330_l12, It (1 : Int32), It v330_l14, Rf v330_l15, It v330_l16] [(.int u16), (.int u14), (.int v330_l6), (.int v330_l16), (.int (2 : Int32)), (.ref v330_l15)])) rfl (by rw [hml]; rfl) (argsL := [(.ref v330_l15), (.int (2 : Int32)), (.int v330_l16), (.int v330_l6), (.int u14), (.int u16)]) (rest := []) (lenOf pd_29 rfl) rfl (w0 rfl) (hb hby at_330) (fun _ _ => ⟨rfl, e332, (by decide : 13 + 0 ≤ _), (by decide : 87 + 0 ≤ _)⟩)
  dsimp only [Pt.U, Pt.locs, Pt.cells, Pt.slots] at X333 l333 y333 z333 st333 hQ333
  subst l333 y333 z333
  obtain ⟨rfl, N333q, e333⟩ := hQ333
  have N333 := Fr.app N332 N333q
  obtain ⟨_, _, ⟨T334, L334, k334, n334⟩, -, X334, ⟨Lc334, hQ334, l334, y334, z334⟩, st334⟩ := Jvm.LawKit.callS X333 hx (y := m_38) hown330 (mvT hZ330 (tw hw 190 rfl)) (mvT hZ330 (tw hw 191 rfl)) (mvT hZ330 (tw hw 192 rfl)) (mvT hZ330 (tw hw 193 rfl)) (by decide) (backOf (W := 0) (rm36 l Z a0 hw [] v330_l15 (3 : Int32) v330_l16 v330_l6 u14 u16 ot330 oz330 ol330 vFM zC ok330 h330 n0 O330 hCS hFM hAT.2.2.2.1 sC sF EO330 CO330 VO330 AO330) hZ330 (tw hw 193 rfl) (tw hw 192 rfl) (by decide) (by decide)) (g := (mkF m 347 #[It p1, It p2, It p3, It p4, It u1, It v11_t0, It v330_l6, It u14, It u16, Rf b18, Rf b25, Rf v330_l11, Rf v330_l12, It (1 : Int32), It v330_l14, Rf v330_l15, It v330_l16] [(.int u16), (.int u14), (.int v330_l6), (.int v330_l16), (.int (3 : Int32)), (.ref v330_l15)])) rfl (by rw [hml]; rfl) (argsL := [(.ref v330_l15), (.int (3 : Int32)), (.int v330_l16), (.int v330_l6), (.int u14), (.int u16)]) (rest := []) (lenOf pd_29 rfl) rfl (w0 rfl) (hb hby at_347) (fun _ _ => ⟨rfl, e333, (by decide : 13 + 0 ≤ _), (by decide : 87 + 0 ≤ _)⟩)
  dsimp only [Pt.U, Pt.locs, Pt.cells, Pt.slots] at X334 l334 y334 z334 st334 hQ334
  subst l334 y334 z334
  obtain ⟨rfl, N334q, e334⟩ := hQ334
  have N334 := Fr.app N333 N334q
  obtain ⟨_, _, ⟨T335, L335, k335, n335⟩, -, X335, ⟨Lc335, hQ335, l335, y335, z335⟩, st335⟩ := Jvm.LawKit.callS X334 hx (y := m_38) hown330 (mvT hZ330 (tw hw 190 rfl)) (mvT hZ330 (tw hw 191 rfl)) (mvT hZ330 (tw hw 192 rfl)) (mvT hZ330 (tw hw 193 rfl)) (by decide) (backOf (W := 0) (rm36 l Z a0 hw [] v330_l15 (4 : Int32) v330_l16 v330_l6 u14 u16 ot330 oz330 ol330 vFM zC ok330 h330 n0 O330 hCS hFM hAT.2.2.2.2.1 sC sF EO330 CO330 VO330 AO330) hZ330 (tw hw 193 rfl) (tw hw 192 rfl) (by decide) (by decide)) (g := (mkF m 364 #[It p1, It p2, It p3, It p4, It u1, It v11_t0, It v330_l6, It u14, It u16, Rf b18, Rf b25, Rf v330_l11, Rf v330_l12, It (1 : Int32), It v330_l14, Rf v330_l15, It v330_l16] [(.int u16), (.int u14), (.int v330_l6), (.int v330_l16), (.int (4 : Int32)), (.ref v330_l15)])) rfl (by rw [hml]; rfl) (argsL := [(.ref v330_l15), (.int (4 : Int32)), (.int v330_l16), (.int v330_l6), (.int u14), (.int u16)]) (rest := []) (lenOf pd_29 rfl) rfl (w0 rfl) (hb hby at_364) (fun _ _ => ⟨rfl, e334, (by decide : 13 + 0 ≤ _), (by decide : 87 + 0 ≤ _)⟩)
  dsimp only [Pt.U, Pt.locs, Pt.cells, Pt.slots] at X335 l335 y335 z335 st335 hQ335
  subst l335 y335 z335
  obtain ⟨rfl, N335q, e335⟩ := hQ335
  have N335 := Fr.app N334 N335q
  obtain ⟨_, _, ⟨T336, L336, k336, n336⟩, -, X336, ⟨Lc336, hQ336, l336, y336, z336⟩, st336⟩ := Jvm.LawKit.callS X335 hx (y := m_38) hown330 (mvT hZ330 (tw hw 190 rfl)) (mvT hZ330 (tw hw 191 rfl)) (mvT hZ330 (tw hw 192 rfl)) (mvT hZ330 (tw hw 193 rfl)) (by decide) (backOf (W := 0) (rm36 l Z a0 hw [] v330_l15 (5 : Int32) v330_l16 v330_l6 u14 u16 ot330 oz330 ol330 vFM zC ok330 h330 n0 O330 hCS hFM hAT.2.2.2.2.2.1 sC sF EO330 CO330 VO330 AO330) hZ330 (tw hw 193 rfl) (tw hw 192 rfl) (by decide) (by decide)) (g := (mkF m 381 #[It p1, It p2, It p3, It p4, It u1, It v11_t0, It v330_l6, It u14, It u16, Rf b18, Rf b25, Rf v330_l11, Rf v330_l12, It (1 : Int32), It v330_l14, Rf v330_l15, It v330_l16] [(.int u16), (.int u14), (.int v330_l6), (.int v330_l16), (.int (5 : Int32)), (.ref v330_l15)])) rfl (by rw [hml]; rfl) (argsL := [(.ref v330_l15), (.int (5 : Int32)), (.int v330_l16), (.int v330_l6), (.int u14), (.int u16)]) (rest := []) (lenOf pd_29 rfl) rfl (w0 rfl) (hb hby at_381) (fun _ _ => ⟨rfl, e335, (by decide : 13 + 0 ≤ _), (by decide : 87 + 0 ≤ _)⟩)
  dsimp only [Pt.U, Pt.locs, Pt.cells, Pt.slots] at X336 l336 y336 z336 st336 hQ336
  subst l336 y336 z336
  obtain ⟨rfl, N336q, e336⟩ := hQ336
  have N336 := Fr.app N335 N336q
  obtain ⟨_, _, ⟨T337, L337, k337, n337⟩, -, X337, ⟨Lc337, hQ337, l337, y337, z337⟩, st337⟩ := Jvm.LawKit.callS X336 hx (y := m_38) hown330 (mvT hZ330 (tw hw 190 rfl)) (mvT hZ330 (tw hw 191 rfl)) (mvT hZ330 (tw hw 192 rfl)) (mvT hZ330 (tw hw 193 rfl)) (by decide) (backOf (W := 0) (rm36 l Z a0 hw [] v330_l15 (6 : Int32) v330_l16 v330_l6 u14 u16 ot330 oz330 ol330 vFM zC ok330 h330 n0 O330 hCS hFM hAT.2.2.2.2.2.2.1 sC sF EO330 CO330 VO330 AO330) hZ330 (tw hw 193 rfl) (tw hw 192 rfl) (by decide) (by decide)) (g := (mkF m 399 #[It p1, It p2, It p3, It p4, It u1, It v11_t0, It v330_l6, It u14, It u16, Rf b18, Rf b25, Rf v330_l11, Rf v330_l12, It (1 : Int32), It v330_l14, Rf v330_l15, It v330_l16] [(.int u16), (.int u14), (.int v330_l6), (.int v330_l16), (.int (6 : Int32)), (.ref v330_l15)])) rfl (by rw [hml]; rfl) (argsL := [(.ref v330_l15), (.int (6 : Int32)), (.int v330_l16), (.int v330_l6), (.int u14), (.int u16)]) (rest := []) (lenOf pd_29 rfl) rfl (w0 rfl) (hb hby at_399) (fun _ _ => ⟨rfl, e336, (by decide : 13 + 0 ≤ _), (by decide : 87 + 0 ≤ _)⟩)
  dsimp only [Pt.U, Pt.locs, Pt.cells, Pt.slots] at X337 l337 y337 z337 st337 hQ337
  subst l337 y337 z337
  obtain ⟨rfl, N337q, e337⟩ := hQ337
  have N337 := Fr.app N336 N337q
  obtain ⟨_, _, ⟨T338, L338, k338, n338⟩, -, X338, ⟨Lc338, hQ338, l338, y338, z338⟩, st338⟩ := Jvm.LawKit.callS X337 hx (y := m_38) hown330 (mvT hZ330 (tw hw 190 rfl)) (mvT hZ330 (tw hw 191 rfl)) (mvT hZ330 (tw hw 192 rfl)) (mvT hZ330 (tw hw 193 rfl)) (by decide) (backOf (W := 0) (rm36 l Z a0 hw [] v330_l15 (7 : Int32) v330_l16 v330_l6 u14 u16 ot330 oz330 ol330 vFM zC ok330 h330 n0 O330 hCS hFM hAT.2.2.2.2.2.2.2.1 sC sF EO330 CO330 VO330 AO330) hZ330 (tw hw 193 rfl) (tw hw 192 rfl) (by decide) (by decide)) (g := (mkF m 417 #[It p1, It p2, It p3, It p4, It u1, It v11_t0, It v330_l6, It u14, It u16, Rf b18, Rf b25, Rf v330_l11, Rf v330_l12, It (1 : Int32), It v330_l14, Rf v330_l15, It v330_l16] [(.int u16), (.int u14), (.int v330_l6), (.int v330_l16), (.int (7 : Int32)), (.ref v330_l15)])) rfl (by rw [hml]; rfl) (argsL := [(.ref v330_l15), (.int (7 : Int32)), (.int v330_l16), (.int v330_l6), (.int u14), (.int u16)]) (rest := []) (lenOf pd_29 rfl) rfl (w0 rfl) (hb hby at_417) (fun _ _ => ⟨rfl, e337, (by decide : 13 + 0 ≤ _), (by decide : 87 + 0 ≤ _)⟩)
  dsimp only [Pt.U, Pt.locs, Pt.cells, Pt.slots] at X338 l338 y338 z338 st338 hQ338
  subst l338 y338 z338
  obtain ⟨rfl, N338q, e338⟩ := hQ338
  have N338 := Fr.app N337 N338q
  obtain ⟨_, _, ⟨T339, L339, k339, n339⟩, -, X339, ⟨Lc339, hQ339, l339, y339, z339⟩, st339⟩ := Jvm.LawKit.callS X338 hx (y := m_38) hown330 (mvT hZ330 (tw hw 190 rfl)) (mvT hZ330 (tw hw 191 rfl)) (mvT hZ330 (tw hw 192 rfl)) (mvT hZ330 (tw hw 193 rfl)) (by decide) (backOf (W := 0) (rm36 l Z a0 hw [] v330_l15 (8 : Int32) v330_l16 v330_l6 u14 u16 ot330 oz330 ol330 vFM zC ok330 h330 n0 O330 hCS hFM hAT.2.2.2.2.2.2.2.2.1 sC sF EO330 CO330 VO330 AO330) hZ330 (tw hw 193 rfl) (tw hw 192 rfl) (by decide) (by decide)) (g := (mkF m 435 #[It p1, It p2, It p3, It p4, It u1, It v11_t0, It v330_l6, It u14, It u16, Rf b18, Rf b25, Rf v330_l11, Rf v330_l12, It (1 : Int32), It v330_l14, Rf v330_l15, It v330_l16] [(.int u16), (.int u14), (.int v330_l6), (.int v330_l16), (.int (8 : Int32)), (.ref v330_l15)])) rfl (by rw [hml]; rfl) (argsL := [(.ref v330_l15), (.int (8 : Int32)), (.int v330_l16), (.int v330_l6), (.int u14), (.int u16)]) (rest := []) (lenOf pd_29 rfl) rfl (w0 rfl) (hb hby at_435) (fun _ _ => ⟨rfl, e338, (by decide : 13 + 0 ≤ _), (by decide : 87 + 0 ≤ _)⟩)
  dsimp only [Pt.U, Pt.locs, Pt.cells, Pt.slots] at X339 l339 y339 z339 st339 hQ339
  subst l339 y339 z339
  obtain ⟨rfl, N339q, e339⟩ := hQ339
  have N339 := Fr.app N338 N339q
  obtain ⟨_, _, ⟨T340, L340, k340, n340⟩, -, X340, ⟨Lc340, hQ340, l340, y340, z340⟩, st340⟩ := Jvm.LawKit.callS X339 hx (y := m_38) hown330 (mvT hZ330 (tw hw 190 rfl)) (mvT hZ330 (tw hw 191 rfl)) (mvT hZ330 (tw hw 192 rfl)) (mvT hZ330 (tw hw 193 rfl)) (by decide) (backOf (W := 0) (rm36 l Z a0 hw [] v330_l15 (9 : Int32) v330_l16 v330_l6 u14 u16 ot330 oz330 ol330 vFM zC ok330 h330 n0 O330 hCS hFM hAT.2.2.2.2.2.2.2.2.2.1 sC sF EO330 CO330 VO330 AO330) hZ330 (tw hw 193 rfl) (tw hw 192 rfl) (by decide) (by decide)) (g := (mkF m 453 #[It p1, It p2, It p3, It p4, It u1, It v11_t0, It v330_l6, It u14, It u16, Rf b18, Rf b25, Rf v330_l11, Rf v330_l12, It (1 : Int32), It v330_l14, Rf v330_l15, It v330_l16] [(.int u16), (.int u14), (.int v330_l6), (.int v330_l16), (.int (9 : Int32)), (.ref v330_l15)])) rfl (by rw [hml]; rfl) (argsL := [(.ref v330_l15), (.int (9 : Int32)), (.int v330_l16), (.int v330_l6), (.int u14), (.int u16)]) (rest := []) (lenOf pd_29 rfl) rfl (w0 rfl) (hb hby at_453) (fun _ _ => ⟨rfl, e339, (by decide : 13 + 0 ≤ _), (by decide : 87 + 0 ≤ _)⟩)
  dsimp only [Pt.U, Pt.locs, Pt.cells, Pt.slots] at X340 l340 y340 z340 st340 hQ340
  subst l340 y340 z340
  obtain ⟨rfl, N340q, e340⟩ := hQ340
  have N340 := Fr.app N339 N340q
  obtain ⟨_, _, ⟨T341, L341, k341, n341⟩, -, X341, ⟨Lc341, hQ341, l341, y341, z341⟩, st341⟩ := Jvm.LawKit.callS X340 hx (y := m_38) hown330 (mvT hZ330 (tw hw 190 rfl)) (mvT hZ330 (tw hw 191 rfl)) (mvT hZ330 (tw hw 192 rfl)) (mvT hZ330 (tw hw 193 rfl)) (by decide) (backOf (W := 0) (rm36 l Z a0 hw [] v330_l15 (10 : Int32) v330_l16 v330_l6 u14 u16 ot330 oz330 ol330 vFM zC ok330 h330 n0 O330 hCS hFM hAT.2.2.2.2.2.2.2.2.2.2.1 sC sF EO330 CO330 VO330 AO330) hZ330 (tw hw 193 rfl) (tw hw 192 rfl) (by decide) (by decide)) (g := (mkF m 471 #[It p1, It p2, It p3, It p4, It u1, It v11_t0, It v330_l6, It u14, It u16, Rf b18, Rf b25, Rf v330_l11, Rf v330_l12, It (1 : Int32), It v330_l14, Rf v330_l15, It v330_l16] [(.int u16), (.int u14), (.int v330_l6), (.int v330_l16), (.int (10 : Int32)), (.ref v330_l15)])) rfl (by rw [hml]; rfl) (argsL := [(.ref v330_l15), (.int (10 : Int32)), (.int v330_l16), (.int v330_l6), (.int u14), (.int u16)]) (rest := []) (lenOf pd_29 rfl) rfl (w0 rfl) (hb hby at_471) (fun _ _ => ⟨rfl, e340, (by decide : 13 + 0 ≤ _), (by decide : 87 + 0 ≤ _)⟩)
  dsimp only [Pt.U, Pt.locs, Pt.cells, Pt.slots] at X341 l341 y341 z341 st341 hQ341
  subst l341 y341 z341
  obtain ⟨rfl, N341q, e341⟩ := hQ341
  have N341 := Fr.app N340 N341q
  obtain ⟨_, _, ⟨T342, L342, k342, n342⟩, -, X342, ⟨Lc342, hQ342, l342, y342, z342⟩, st342⟩ := Jvm.LawKit.callS X341 hx (y := m_38) hown330 (mvT hZ330 (tw hw 190 rfl)) (mvT hZ330 (tw hw 191 rfl)) (mvT hZ330 (tw hw 192 rfl)) (mvT hZ330 (tw hw 193 rfl)) (by decide) (backOf (W := 0) (rm36 l Z a0 hw [] v330_l15 (11 : Int32) v330_l16 v330_l6 u14 u16 ot330 oz330 ol330 vFM zC ok330 h330 n0 O330 hCS hFM hAT.2.2.2.2.2.2.2.2.2.2.2.1 sC sF EO330 CO330 VO330 AO330) hZ330 (tw hw 193 rfl) (tw hw 192 rfl) (by decide) (by decide)) (g := (mkF m 489 #[It p1, It p2, It p3, It p4, It u1, It v11_t0, It v330_l6, It u14, It u16, Rf b18, Rf b25, Rf v330_l11, Rf v330_l12, It (1 : Int32), It v330_l14, Rf v330_l15, It v330_l16] [(.int u16), (.int u14), (.int v330_l6), (.int v330_l16), (.int (11 : Int32)), (.ref v330_l15)])) rfl (by rw [hml]; rfl) (argsL := [(.ref v330_l15), (.int (11 : Int32)), (.int v330_l16), (.int v330_l6), (.int u14), (.int u16)]) (rest := []) (lenOf pd_29 rfl) rfl (w0 rfl) (hb hby at_489) (fun _ _ => ⟨rfl, e341, (by decide : 13 + 0 ≤ _), (by decide : 87 + 0 ≤ _)⟩)
  dsimp only [Pt.U, Pt.locs, Pt.cells, Pt.slots] at X342 l342 y342 z342 st342 hQ342
  subst l342 y342 z342
  obtain ⟨rfl, N342q, e342⟩ := hQ342
  have N342 := Fr.app N341 N342q
  obtain ⟨_, _, ⟨T343, L343, k343, n343⟩, -, X343, ⟨Lc343, hQ343, l343, y343, z343⟩, st343⟩ := Jvm.LawKit.callS X342 hx (y := m_38) hown330 (mvT hZ330 (tw hw 190 rfl)) (mvT hZ330 (tw hw 191 rfl)) (mvT hZ330 (tw hw 192 rfl)) (mvT hZ330 (tw hw 193 rfl)) (by decide) (backOf (W := 0) (rm36 l Z a0 hw [] v330_l15 (12 : Int32) v330_l16 v330_l6 u14 u16 ot330 oz330 ol330 vFM zC ok330 h330 n0 O330 hCS hFM hAT.2.2.2.2.2.2.2.2.2.2.2.2.1 sC sF EO330 CO330 VO330 AO330) hZ330 (tw hw 193 rfl) (tw hw 192 rfl) (by decide) (by decide)) (g := (mkF m 507 #[It p1, It p2, It p3, It p4, It u1, It v11_t0, It v330_l6, It u14, It u16, Rf b18, Rf b25, Rf v330_l11, Rf v330_l12, It (1 : Int32), It v330_l14, Rf v330_l15, It v330_l16] [(.int u16), (.int u14), (.int v330_l6), (.int v330_l16), (.int (12 : Int32)), (.ref v330_l15)])) rfl (by rw [hml]; rfl) (argsL := [(.ref v330_l15), (.int (12 : Int32)), (.int v330_l16), (.int v330_l6), (.int u14), (.int u16)]) (rest := []) (lenOf pd_29 rfl) rfl (w0 rfl) (hb hby at_507) (fun _ _ => ⟨rfl, e342, (by decide : 13 + 0 ≤ _), (by decide : 87 + 0 ≤ _)⟩)
  dsimp only [Pt.U, Pt.locs, Pt.cells, Pt.slots] at X343 l343 y343 z343 st343 hQ343
  subst l343 y343 z343
  obtain ⟨rfl, N343q, e343⟩ := hQ343
  have N343 := Fr.app N342 N343q
  obtain ⟨_, _, ⟨T344, L344, k344, n344⟩, -, X344, ⟨Lc344, hQ344, l344, y344, z344⟩, st344⟩ := Jvm.LawKit.callS X343 hx (y := m_38) hown330 (mvT hZ330 (tw hw 190 rfl)) (mvT hZ330 (tw hw 191 rfl)) (mvT hZ330 (tw hw 192 rfl)) (mvT hZ330 (tw hw 193 rfl)) (by decide) (backOf (W := 0) (rm36 l Z a0 hw [] v330_l15 (13 : Int32) v330_l16 v330_l6 u14 u16 ot330 oz330 ol330 vFM zC ok330 h330 n0 O330 hCS hFM hAT.2.2.2.2.2.2.2.2.2.2.2.2.2.1 sC sF EO330 CO330 VO330 AO330) hZ330 (tw hw 193 rfl) (tw hw 192 rfl) (by decide) (by decide)) (g := (mkF m 525 #[It p1, It p2, It p3, It p4, It u1, It v11_t0, It v330_l6, It u14, It u16, Rf b18, Rf b25, Rf v330_l11, Rf v330_l12, It (1 : Int32), It v330_l14, Rf v330_l15, It v330_l16] [(.int u16), (.int u14), (.int v330_l6), (.int v330_l16), (.int (13 : Int32)), (.ref v330_l15)])) rfl (by rw [hml]; rfl) (argsL := [(.ref v330_l15), (.int (13 : Int32)), (.int v330_l16), (.int v330_l6), (.int u14), (.int u16)]) (rest := []) (lenOf pd_29 rfl) rfl (w0 rfl) (hb hby at_525) (fun _ _ => ⟨rfl, e343, (by decide : 13 + 0 ≤ _), (by decide : 87 + 0 ≤ _)⟩)
  dsimp only [Pt.U, Pt.locs, Pt.cells, Pt.slots] at X344 l344 y344 z344 st344 hQ344
  subst l344 y344 z344
  obtain ⟨rfl, N344q, e344⟩ := hQ344
  have N344 := Fr.app N343 N344q
  obtain ⟨_, _, ⟨T345, L345, k345, n345⟩, -, X345, ⟨Lc345, hQ345, l345, y345, z345⟩, st345⟩ := Jvm.LawKit.callS X344 hx (y := m_38) hown330 (mvT hZ330 (tw hw 190 rfl)) (mvT hZ330 (tw hw 191 rfl)) (mvT hZ330 (tw hw 192 rfl)) (mvT hZ330 (tw hw 193 rfl)) (by decide) (backOf (W := 0) (rm36 l Z a0 hw [] v330_l15 (14 : Int32) v330_l16 v330_l6 u14 u16 ot330 oz330 ol330 vFM zC ok330 h330 n0 O330 hCS hFM hAT.2.2.2.2.2.2.2.2.2.2.2.2.2.2 sC sF EO330 CO330 VO330 AO330) hZ330 (tw hw 193 rfl) (tw hw 192 rfl) (by decide) (by decide)) (g := (mkF m 543 #[It p1, It p2, It p3, It p4, It u1, It v11_t0, It v330_l6, It u14, It u16, Rf b18, Rf b25, Rf v330_l11, Rf v330_l12, It (1 : Int32), It v330_l14, Rf v330_l15, It v330_l16] [(.int u16), (.int u14), (.int v330_l6), (.int v330_l16), (.int (14 : Int32)), (.ref v330_l15)])) rfl (by rw [hml]; rfl) (argsL := [(.ref v330_l15), (.int (14 : Int32)), (.int v330_l16), (.int v330_l6), (.int u14), (.int u16)]) (rest := []) (lenOf pd_29 rfl) rfl (w0 rfl) (hb hby at_543) (fun _ _ => ⟨rfl, e344, (by decide : 13 + 0 ≤ _), (by decide : 87 + 0 ≤ _)⟩)
  dsimp only [Pt.U, Pt.locs, Pt.cells, Pt.slots] at X345 l345 y345 z345 st345 hQ345
  subst l345 y345 z345
  obtain ⟨rfl, N345q, e345⟩ := hQ345
  have N345 := Fr.app N344 N345q
  have sg346 : SG p.tables e below (T345.setTop (mkF m 554 #[It p1, It p2, It p3, It p4, It u1, It v11_t0, It v330_l6, It u14, It u16, Rf b18, Rf b25, Rf v330_l11, Rf v330_l12, It (1 : Int32), It v330_l14, Rf v330_l15, It v330_l16] [(.int (1 : Int32))])) (T330.setTop (mkF m 285 #[It p1, It p2, It p3, It p4, It u1, It v11_t0, It v330_l6, It u14, It u16, Rf b18, Rf b25, Rf v330_l11, Rf v330_l12, It (1 : Int32), It v330_l14, Rf v330_l15, It v330_l16] [])) := by
    intro target kt
    show Steps _ _ _ (T330.setTop (mkF m 285 #[It p1, It p2, It p3, It p4, It u1, It v11_t0, It v330_l6, It u14, It u16, Rf b18, Rf b25, Rf v330_l11, Rf v330_l12, It (1 : Int32), It v330_l14, Rf v330_l15, It v330_l16] [])) _
    refine XS.aload X330.here hx rfl (hb hby at_285) rfl rfl ?_
    refine XS.iconst X330.here hx rfl (hb hby at_287) ?_
    refine XS.iload X330.here hx rfl (hb hby at_288) rfl ?_
    refine XS.iload X330.here hx rfl (hb hby at_290) rfl ?_
    refine XS.iload X330.here hx rfl (hb hby at_292) rfl ?_
    refine XS.iload X330.here hx rfl (hb hby at_294) rfl ?_
    refine st331 _ ?_
    refine XS.ifNo X331.here hx rfl (hb hby at_299) rfl ((if0 _ _).trans (feq (by decide : ¬ ((1 : Int32) = (0 : Int32)))).1) ?_
    refine XS.aload X331.here hx rfl (hb hby at_302) rfl rfl ?_
    refine XS.iconst X331.here hx rfl (hb hby at_304) ?_
    refine XS.iload X331.here hx rfl (hb hby at_305) rfl ?_
    refine XS.iload X331.here hx rfl (hb hby at_307) rfl ?_
    refine XS.iload X331.here hx rfl (hb hby at_309) rfl ?_
    refine XS.iload X331.here hx rfl (hb hby at_311) rfl ?_
    refine st332 _ ?_
    refine XS.ifNo X332.here hx rfl (hb hby at_316) rfl ((if0 _ _).trans (feq (by decide : ¬ ((1 : Int32) = (0 : Int32)))).1) ?_
    refine XS.aload X332.here hx rfl (hb hby at_319) rfl rfl ?_
    refine XS.iconst X332.here hx rfl (hb hby at_321) ?_
    refine XS.iload X332.here hx rfl (hb hby at_322) rfl ?_
    refine XS.iload X332.here hx rfl (hb hby at_324) rfl ?_
    refine XS.iload X332.here hx rfl (hb hby at_326) rfl ?_
    refine XS.iload X332.here hx rfl (hb hby at_328) rfl ?_
    refine st333 _ ?_
    refine XS.ifNo X333.here hx rfl (hb hby at_333) rfl ((if0 _ _).trans (feq (by decide : ¬ ((1 : Int32) = (0 : Int32)))).1) ?_
    refine XS.aload X333.here hx rfl (hb hby at_336) rfl rfl ?_
    refine XS.iconst X333.here hx rfl (hb hby at_338) ?_
    refine XS.iload X333.here hx rfl (hb hby at_339) rfl ?_
    refine XS.iload X333.here hx rfl (hb hby at_341) rfl ?_
    refine XS.iload X333.here hx rfl (hb hby at_343) rfl ?_
    refine XS.iload X333.here hx rfl (hb hby at_345) rfl ?_
    show Steps _ _ _ (T333.setTop (mkF m 347 #[It p1, It p2, It p3, It p4, It u1, It v11_t0, It v330_l6, It u14, It u16, Rf b18, Rf b25, Rf v330_l11, Rf v330_l12, It (1 : Int32), It v330_l14, Rf v330_l15, It v330_l16] [(.int u16), (.int u14), (.int v330_l6), (.int v330_l16), (.int (3 : Int32)), (.ref v330_l15)])) _
    refine st334 _ ?_
    refine XS.ifNo X334.here hx rfl (hb hby at_350) rfl ((if0 _ _).trans (feq (by decide : ¬ ((1 : Int32) = (0 : Int32)))).1) ?_
    refine XS.aload X334.here hx rfl (hb hby at_353) rfl rfl ?_
    refine XS.iconst X334.here hx rfl (hb hby at_355) ?_
    refine XS.iload X334.here hx rfl (hb hby at_356) rfl ?_
    refine XS.iload X334.here hx rfl (hb hby at_358) rfl ?_
    refine XS.iload X334.here hx rfl (hb hby at_360) rfl ?_
    refine XS.iload X334.here hx rfl (hb hby at_362) rfl ?_
    refine st335 _ ?_
    refine XS.ifNo X335.here hx rfl (hb hby at_367) rfl ((if0 _ _).trans (feq (by decide : ¬ ((1 : Int32) = (0 : Int32)))).1) ?_
    refine XS.aload X335.here hx rfl (hb hby at_370) rfl rfl ?_
    refine XS.iconst X335.here hx rfl (hb hby at_372) ?_
    refine XS.iload X335.here hx rfl (hb hby at_373) rfl ?_
    refine XS.iload X335.here hx rfl (hb hby at_375) rfl ?_
    refine XS.iload X335.here hx rfl (hb hby at_377) rfl ?_
    refine XS.iload X335.here hx rfl (hb hby at_379) rfl ?_
    refine st336 _ ?_
    refine XS.ifNo X336.here hx rfl (hb hby at_384) rfl ((if0 _ _).trans (feq (by decide : ¬ ((1 : Int32) = (0 : Int32)))).1) ?_
    refine XS.aload X336.here hx rfl (hb hby at_387) rfl rfl ?_
    refine XS.bipush X336.here hx rfl (hb hby at_389) ?_
    refine XS.iload X336.here hx rfl (hb hby at_391) rfl ?_
    refine XS.iload X336.here hx rfl (hb hby at_393) rfl ?_
    refine XS.iload X336.here hx rfl (hb hby at_395) rfl ?_
    refine XS.iload X336.here hx rfl (hb hby at_397) rfl ?_
    refine st337 _ ?_
    refine XS.ifNo X337.here hx rfl (hb hby at_402) rfl ((if0 _ _).trans (feq (by decide : ¬ ((1 : Int32) = (0 : Int32)))).1) ?_
    refine XS.aload X337.here hx rfl (hb hby at_405) rfl rfl ?_
    refine XS.bipush X337.here hx rfl (hb hby at_407) ?_
    refine XS.iload X337.here hx rfl (hb hby at_409) rfl ?_
    refine XS.iload X337.here hx rfl (hb hby at_411) rfl ?_
    show Steps _ _ _ (T337.setTop (mkF m 413 #[It p1, It p2, It p3, It p4, It u1, It v11_t0, It v330_l6, It u14, It u16, Rf b18, Rf b25, Rf v330_l11, Rf v330_l12, It (1 : Int32), It v330_l14, Rf v330_l15, It v330_l16] [(.int v330_l6), (.int v330_l16), (.int (7 : Int32)), (.ref v330_l15)])) _
    refine XS.iload X337.here hx rfl (hb hby at_413) rfl ?_
    refine XS.iload X337.here hx rfl (hb hby at_415) rfl ?_
    refine st338 _ ?_
    refine XS.ifNo X338.here hx rfl (hb hby at_420) rfl ((if0 _ _).trans (feq (by decide : ¬ ((1 : Int32) = (0 : Int32)))).1) ?_
    refine XS.aload X338.here hx rfl (hb hby at_423) rfl rfl ?_
    refine XS.bipush X338.here hx rfl (hb hby at_425) ?_
    refine XS.iload X338.here hx rfl (hb hby at_427) rfl ?_
    refine XS.iload X338.here hx rfl (hb hby at_429) rfl ?_
    refine XS.iload X338.here hx rfl (hb hby at_431) rfl ?_
    refine XS.iload X338.here hx rfl (hb hby at_433) rfl ?_
    refine st339 _ ?_
    refine XS.ifNo X339.here hx rfl (hb hby at_438) rfl ((if0 _ _).trans (feq (by decide : ¬ ((1 : Int32) = (0 : Int32)))).1) ?_
    refine XS.aload X339.here hx rfl (hb hby at_441) rfl rfl ?_
    refine XS.bipush X339.here hx rfl (hb hby at_443) ?_
    refine XS.iload X339.here hx rfl (hb hby at_445) rfl ?_
    refine XS.iload X339.here hx rfl (hb hby at_447) rfl ?_
    refine XS.iload X339.here hx rfl (hb hby at_449) rfl ?_
    refine XS.iload X339.here hx rfl (hb hby at_451) rfl ?_
    refine st340 _ ?_
    refine XS.ifNo X340.here hx rfl (hb hby at_456) rfl ((if0 _ _).trans (feq (by decide : ¬ ((1 : Int32) = (0 : Int32)))).1) ?_
    refine XS.aload X340.here hx rfl (hb hby at_459) rfl rfl ?_
    refine XS.bipush X340.here hx rfl (hb hby at_461) ?_
    refine XS.iload X340.here hx rfl (hb hby at_463) rfl ?_
    refine XS.iload X340.here hx rfl (hb hby at_465) rfl ?_
    refine XS.iload X340.here hx rfl (hb hby at_467) rfl ?_
    refine XS.iload X340.here hx rfl (hb hby at_469) rfl ?_
    refine st341 _ ?_
    refine XS.ifNo X341.here hx rfl (hb hby at_474) rfl ((if0 _ _).trans (feq (by decide : ¬ ((1 : Int32) = (0 : Int32)))).1) ?_
    refine XS.aload X341.here hx rfl (hb hby at_477) rfl rfl ?_
    refine XS.bipush X341.here hx rfl (hb hby at_479) ?_
    show Steps _ _ _ (T341.setTop (mkF m 481 #[It p1, It p2, It p3, It p4, It u1, It v11_t0, It v330_l6, It u14, It u16, Rf b18, Rf b25, Rf v330_l11, Rf v330_l12, It (1 : Int32), It v330_l14, Rf v330_l15, It v330_l16] [(.int (11 : Int32)), (.ref v330_l15)])) _
    refine XS.iload X341.here hx rfl (hb hby at_481) rfl ?_
    refine XS.iload X341.here hx rfl (hb hby at_483) rfl ?_
    refine XS.iload X341.here hx rfl (hb hby at_485) rfl ?_
    refine XS.iload X341.here hx rfl (hb hby at_487) rfl ?_
    refine st342 _ ?_
    refine XS.ifNo X342.here hx rfl (hb hby at_492) rfl ((if0 _ _).trans (feq (by decide : ¬ ((1 : Int32) = (0 : Int32)))).1) ?_
    refine XS.aload X342.here hx rfl (hb hby at_495) rfl rfl ?_
    refine XS.bipush X342.here hx rfl (hb hby at_497) ?_
    refine XS.iload X342.here hx rfl (hb hby at_499) rfl ?_
    refine XS.iload X342.here hx rfl (hb hby at_501) rfl ?_
    refine XS.iload X342.here hx rfl (hb hby at_503) rfl ?_
    refine XS.iload X342.here hx rfl (hb hby at_505) rfl ?_
    refine st343 _ ?_
    refine XS.ifNo X343.here hx rfl (hb hby at_510) rfl ((if0 _ _).trans (feq (by decide : ¬ ((1 : Int32) = (0 : Int32)))).1) ?_
    refine XS.aload X343.here hx rfl (hb hby at_513) rfl rfl ?_
    refine XS.bipush X343.here hx rfl (hb hby at_515) ?_
    refine XS.iload X343.here hx rfl (hb hby at_517) rfl ?_
    refine XS.iload X343.here hx rfl (hb hby at_519) rfl ?_
    refine XS.iload X343.here hx rfl (hb hby at_521) rfl ?_
    refine XS.iload X343.here hx rfl (hb hby at_523) rfl ?_
    refine st344 _ ?_
    refine XS.ifNo X344.here hx rfl (hb hby at_528) rfl ((if0 _ _).trans (feq (by decide : ¬ ((1 : Int32) = (0 : Int32)))).1) ?_
    refine XS.aload X344.here hx rfl (hb hby at_531) rfl rfl ?_
    refine XS.bipush X344.here hx rfl (hb hby at_533) ?_
    refine XS.iload X344.here hx rfl (hb hby at_535) rfl ?_
    refine XS.iload X344.here hx rfl (hb hby at_537) rfl ?_
    refine XS.iload X344.here hx rfl (hb hby at_539) rfl ?_
    refine XS.iload X344.here hx rfl (hb hby at_541) rfl ?_
    refine st345 _ ?_
    refine XS.ifNo X345.here hx rfl (hb hby at_546) rfl ((if0 _ _).trans (feq (by decide : ¬ ((1 : Int32) = (0 : Int32)))).1) ?_
    show Steps _ _ _ (T345.setTop (mkF m 549 #[It p1, It p2, It p3, It p4, It u1, It v11_t0, It v330_l6, It u14, It u16, Rf b18, Rf b25, Rf v330_l11, Rf v330_l12, It (1 : Int32), It v330_l14, Rf v330_l15, It v330_l16] [])) _
    refine XS.iconst X345.here hx rfl (hb hby at_549) ?_
    refine XS.goto X345.here hx rfl (pc0 := 550) (pc' := 554) rfl (hb hby at_550) (by decide) (by decide) ?_
    exact kt
  obtain ⟨fs, hr, hrun, hended, hRW⟩ := X345.leaveW Y330 (show _ ≤ T345.heap.size by rw [e345]; exact Yk330) (v := some (.int (1 : Int32))) (fun h => by rw [Bd.returns] at h; cases h)
  refine ⟨_, _, pre0 _ (sg2 _ (sg3 _ (sg11 _ (sg13 _ (sg15 _ (sg17 _ (sg36 _ (sg330 _ (sg346 _ (?_)))))))))), hrun, hended, _, _, rfl, ?_, (by rw [hh]; show CHr Z own_EL s.vm h0 T345.vm T345.heap; rw [e345]; exact CR_330.trans (CHv.at X345 hZ330 hEL CR_330.1)), hRW.1, hRW.2.1, hRW.2.2.1, hRW.2.2.2.mono (by decide) (by decide)⟩
  · show Steps _ _ _ (T345.setTop (mkF m 554 #[It p1, It p2, It p3, It p4, It u1, It v11_t0, It v330_l6, It u14, It u16, Rf b18, Rf b25, Rf v330_l11, Rf v330_l12, It (1 : Int32), It v330_l14, Rf v330_l15, It v330_l16] [(.int (1 : Int32))])) _
    exact retN X345 hx (t := .boolean) Bd.returns (by simp) (hb hby at_554) hr
  · show Q0 Z p1 p2 p3 p4 vFM zC h0 n0 _ T345.heap _
    rw [e345]
    exact ⟨rfl, N345, KK330, O330⟩
set_option maxRecDepth 65536 in
set_option maxHeartbeats 40000000 in
theorem comes_1 {Post : Tables → Env → Array Value → State → Outcome → State → Prop} (hpost : ∀ tb e args s v u, (limb_1_1.after args s (.returned v) u = true ∧ limb_1_2.after args s (.returned v) u = true ∧ True) → FramedW s (.returned v) u (Jvm.fieldLocs frame_1_writes args s ++ Jvm.arrayLocs frame_1_arrays args s ++ Jvm.staticLocs frame_1_statics s) 40 3328 → Post tb e args s (.returned v) u) :
    ArmFor flags0 classFile x code maxLocals ret World_1 tables_1 room_1 Calls_1 rest_1 Pre_1 Post := by
  intro l hfl _ _ p e ha hc hk s m args below hf hA hF happ hP
  obtain ⟨hcalls, hrest, hpre⟩ := hP
  obtain ⟨-, -, -, hnamed, -, -, -, hat⟩ := (Spec.applies_iff hf).mp happ
  obtain ⟨hg, hn⟩ := and_e (Cond.before_iff.mp (show (Jvm.Cond.and given_1 narrow_1).before args s = true from hpre))
  obtain ⟨g1, g2⟩ := and_e hg
  obtain ⟨g3, g4⟩ := and_e g2
  obtain ⟨g5, g6⟩ := and_e g4
  obtain ⟨g7, g8⟩ := and_e g6
  obtain ⟨w0, w1, w2, w3, rfl⟩ : ∃ w0 w1 w2 w3 : Value, args = #[w0, w1, w2, w3] := by
    have hs : args.size = 4 := by simpa [Cond.value, given_1] using g1
    obtain ⟨L⟩ := args
    match L, hs with
    | [w0, w1, w2, w3], _ => exact ⟨w0, w1, w2, w3, rfl⟩
  have hw := fun d (hd : d ∈ tables_1) => atoms_spec (ws := Jvm.Cond.code x code maxLocals ret :: tables_1) hat d (List.mem_cons_of_mem _ hd)
  have hfit : Fit s := fun {y c} hc i hi => by
    obtain ⟨ha, rfl⟩ := Array.getElem?_eq_some_iff.mp hc
    have q := List.all_eq_true.mp ((Array.all_eq_true_iff_forall_mem.mp hF) _ (Array.getElem_mem ha)) i (List.mem_range.mpr hi)
    simpa [Array.getElem?_eq_getElem hi] using q
  obtain ⟨hsets, hown0⟩ := atoms_of _ (rest_1_c_eq ▸ (show rest_1_c.before _ s = true from hrest))
  have hr0 := Cond.before_iff.mp hown0
  obtain ⟨i0, ei0⟩ := is_v g3
  obtain rfl : w0 = (.int i0) := Option.some.inj ei0
  obtain ⟨i1, ei1⟩ := is_v g5
  obtain rfl : w1 = (.int i1) := Option.some.inj ei1
  obtain ⟨i2, ei2⟩ := is_v g7
  obtain rfl : w2 = (.int i2) := Option.some.inj ei2
  obtain ⟨i3, ei3⟩ := is_v g8
  obtain rfl : w3 = (.int i3) := Option.some.inj ei3
  obtain ⟨zC, evC⟩ := is_v (Cond.before_iff.mp (hsets _ (List.mem_of_getElem? (i := 1) rfl)))
  have SS_COMPACT_STRINGS := Sta.start evC (Or.inl (hsets _ (List.mem_of_getElem? (i := 0) rfl)))
  have hCW := (hsets _ (List.mem_of_getElem? (i := 2) rfl))
  have hCS : ¬ zC = 0 := gotF (P := zC = 0) (by simp [Cond.value, evC, Term.int_eval]) (not_v (Cond.before_iff.mp hCW))
  obtain ⟨vFM, evF, hFM⟩ := isR_v (Cond.before_iff.mp (hsets _ (List.mem_of_getElem? (i := 8) rfl)))
  have SS_SIOOBE_FORMATTER := Sta.start evF (Or.inl (hsets _ (List.mem_of_getElem? (i := 7) rfl)))
  have hCH : CHv s own_EL s.vm s.heap := CHv.start (own_EW hw) (fun p hp => hcalls.1 p ((by decide +kernel : ∀ p ∈ own_EL, p ∈ consts_1) p hp)) hCW (hw _ (List.mem_of_getElem? (i := 19) rfl)) (hw _ (List.mem_of_getElem? (i := 2) rfl))
  obtain ⟨n, o, h1, h2, h3, _, L, rfl, ⟨rfl, N, -⟩, -, hq⟩ := rm0 l s _ hw tables_1 i0 i1 i2 i3 vFM zC s.heap s.heap.size (Old.start s) hCS hFM SS_COMPACT_STRINGS SS_SIOOBE_FORMATTER p e ha hc hk s m _ below hf ((Spec.applies_iff_loose hf).mp happ).1 ⟨rfl, State.Warmed39.refl s, rfl, hCH⟩ trivial
  refine ⟨n, _, h1, h2, h3, hpost _ _ _ _ _ _ ⟨Cond.after_iff.mpr rfl, Cond.after_iff.mpr (eq_i res_at (Term.int_eval (1)) rfl), trivial⟩ ?_⟩
  exact ⟨hq.1, hq.2.1, hq.2.2.1, (hq.2.2.2.sift fun y hy => Or.inr (N y hy)).mono (by decide) (by decide)⟩
theorem main_1_1 : Claimed_1_1 := comes_1 fun _ _ _ _ _ _ h hF => ⟨h.1, hF⟩
theorem main_1_2 : Claimed_1_2 := comes_1 fun _ _ _ _ _ _ h hF => ⟨h.2.1, hF⟩
end Jvm.Pilot.@@N@@
namespace Jvm.Pilot.@@N@@
open Jvm Jvm.ClassFile Sem Op Lib Jvm.Free Jvm.Stand Jvm.Pilot.@@N@@.Jvm.D
/-! MADE BY PROGRAM (witnessworld.py) out of the Statement's table words and the real class files: 26 classes; the members and pool entries that the words name. The judged class is class 1, her method 2. -/
namespace start1
open Jvm.ClassFile
def u (s : String) : CpInfo := .utf8 (stringToUtf16 s)
/-- a pool by its gaps: so many unusable entries, then the entry; so many at the end -/
def gap : Nat → List CpInfo → List CpInfo
  | 0, r => r
  | n + 1, r => .unusable :: gap n r
def poolList (es : List (Nat × CpInfo)) (last : Nat) : List CpInfo := es.foldr (fun e r => gap e.1 (e.2 :: r)) (gap last [])
def pool (es : List (Nat × CpInfo)) (last : Nat) : Array CpInfo := ⟨poolList es last⟩
def fileOf (pool : Array CpInfo) (this : Nat) (attrs : Array Attribute := #[]) (ms : Array MethodInfo := #[]) (fl : Nat := 33) (sup : Nat := 0) (ifs : Array Nat := #[]) (fds : Array FieldInfo := #[]) : ClassFile where
  minorVersion := 0
  majorVersion := 65
  constantPool := pool
  accessFlags := fl
  thisClass := this
  superClass := sup
  interfaces := ifs
  fields := fds
  methods := ms
  attributes := attrs
def plain (name : String) (sup : Option ClassId) : Class where
  name := name
  kind := .ordinary
  loader := none
  accessFlags := 33
  super := sup
  interfaces := #[]
  cf := none
  fields := #[]
  methods := #[]
  instanceTypes := #[]
  staticTypes := #[]
  resolved := #[]
  callSites := []
  init := .initialized
  statics := none
  mirror := none

def pool0 : Array CpInfo := pool [(5, u "<init>"), (0, u "()V"), (1, .class_ 10), (1, u "java/lang/Object")] 113

def k0c0 : Code := { maxStack := 0, maxLocals := 1, code := object_method_1_code, exceptionTable := #[], attributes := #[] }
def k0m0 : Method := { name := "<init>", desc := "()V", sig := { parameters := [], returnType := none }, accessFlags := 1, code := some k0c0 }
/-- java/lang/Object -/
def k0 : Class := { plain "java/lang/Object" none with
  accessFlags := 33
  interfaces := #[]
  cf := some (fileOf pool0 8 #[] #[{ accessFlags := 1, nameIndex := 5, descriptorIndex := 6, attributes := #[] }] 33 0 #[] #[])
  fields := #[]
  methods := #[k0m0]
  instanceTypes := #[]
  staticTypes := #[]
  resolved := Array.replicate 124 none
  statics := none }

def pool1 : Array CpInfo := pool [(2, .class_ 4), (0, .nameAndType 5 6), (0, u "java/lang/Object"), (0, u "<init>"), (0, u "()V"), (0, .methodref 8 9), (0, .class_ 10), (0, .nameAndType 11 12), (0, u "java/lang/String"), (0, u "length"), (0, u "()I"), (0, .methodref 8 14), (0, .nameAndType 15 16), (0, u "charAt"), (0, u "(I)C"), (0, .string 18), (0, u ""), (0, .methodref 8 20), (0, .nameAndType 5 21), (0, u "([C)V"), (0, .class_ 23), (0, u "com/example/tetrad/tetrad/generate/SourceText"), (0, .methodref 22 3), (0, .methodref 22 26), (0, .nameAndType 27 28), (0, u "indent"), (0, u "()Lcom/example/tetrad/tetrad/generate/SourceText;"), (0, .methodref 22 30), (0, .nameAndType 31 28), (0, u "dedent"), (0, .methodref 22 33), (0, .nameAndType 34 35), (0, u "line"), (0, u "(Ljava/lang/String;)Lcom/example/tetrad/tetrad/generate/SourceText;"), (0, .methodref 22 37), (0, .nameAndType 38 39), (0, u "toString"), (0, u "()Ljava/lang/String;"), (0, .methodref 41 42), (0, .class_ 43), (0, .nameAndType 44 45), (0, u "com/example/tetrad/tetrad/generate/SourceTextIndentPinLaw"), (0, u "at"), (0, u "(Ljava/lang/String;IIICC)Z"), (3, u "law"), (0, u "(IIII)Z")] 4

def k1m0 : Method := { name := "<init>", desc := "()V", sig := { parameters := [], returnType := none }, accessFlags := 2, code := none }
def k1c1 : Code := { maxStack := 2, maxLocals := 8, code := method_2_code, exceptionTable := #[], attributes := #[] }
def k1m1 : Method := { name := "at", desc := "(Ljava/lang/String;IIICC)Z", sig := { parameters := [(.object "java/lang/String"), .int, .int, .int, .char, .char], returnType := some .boolean }, accessFlags := 10, code := some k1c1 }
def k1c2 : Code := { maxStack := 6, maxLocals := 17, code := code, exceptionTable := #[], attributes := #[] }
def k1m2 : Method := { name := "law", desc := "(IIII)Z", sig := { parameters := [.int, .int, .int, .int], returnType := some .boolean }, accessFlags := 9, code := some k1c2 }
/-- com/example/tetrad/tetrad/generate/SourceTextIndentPinLaw -/
def k1 : Class := { plain "com/example/tetrad/tetrad/generate/SourceTextIndentPinLaw" (some 0) with
  accessFlags := 49
  interfaces := #[]
  cf := some (fileOf pool1 41 #[] #[{ accessFlags := 2, nameIndex := 5, descriptorIndex := 6, attributes := #[] }, { accessFlags := 10, nameIndex := 44, descriptorIndex := 45, attributes := #[] }, { accessFlags := 9, nameIndex := 49, descriptorIndex := 50, attributes := #[] }] 49 2 #[] #[])
  fields := #[]
  methods := #[k1m0, k1m1, k1m2]
  instanceTypes := #[]
  staticTypes := #[]
  resolved := Array.replicate 55 none
  statics := none }

def pool2 : Array CpInfo := pool [(1, .class_ 2), (0, u "java/io/Serializable"), (0, .class_ 4), (0, u "java/lang/Object")] 2

/-- java/io/Serializable -/
def k2 : Class := { plain "java/io/Serializable" (some 0) with
  accessFlags := 1537
  interfaces := #[]
  cf := some (fileOf pool2 1 #[] #[] 1537 3 #[] #[])
  fields := #[]
  methods := #[]
  instanceTypes := #[]
  staticTypes := #[]
  resolved := Array.replicate 7 none
  statics := none }

def pool3 : Array CpInfo := pool [(1, .class_ 2), (0, u "java/lang/Comparable"), (0, .class_ 4), (0, u "java/lang/Object")] 7

/-- java/lang/Comparable -/
def k3 : Class := { plain "java/lang/Comparable" (some 0) with
  accessFlags := 1537
  interfaces := #[]
  cf := some (fileOf pool3 1 #[] #[] 1537 3 #[] #[])
  fields := #[]
  methods := #[]
  instanceTypes := #[]
  staticTypes := #[]
  resolved := Array.replicate 12 none
  statics := none }

def pool4 : Array CpInfo := pool [(2, .class_ 4), (1, u "java/lang/CharSequence"), (42, .class_ 48), (0, u "java/lang/CharSequence$1CodePointIterator"), (10, .class_ 60), (0, u "java/lang/CharSequence$1CharIterator"), (5, .class_ 67), (0, u "java/lang/Object")] 63

/-- java/lang/CharSequence -/
def k4 : Class := { plain "java/lang/CharSequence" (some 0) with
  accessFlags := 1537
  interfaces := #[]
  cf := some (fileOf pool4 2 #[.nestMembers #[47, 59]] #[] 1537 66 #[] #[])
  fields := #[]
  methods := #[]
  instanceTypes := #[]
  staticTypes := #[]
  resolved := Array.replicate 131 none
  statics := none }

def pool5 : Array CpInfo := pool [(1, .class_ 2), (0, u "java/lang/constant/Constable"), (0, .class_ 4), (0, u "java/lang/Object")] 6

/-- java/lang/constant/Constable -/
def k5 : Class := { plain "java/lang/constant/Constable" (some 0) with
  accessFlags := 1537
  interfaces := #[]
  cf := some (fileOf pool5 1 #[] #[] 1537 3 #[] #[])
  fields := #[]
  methods := #[]
  instanceTypes := #[]
  staticTypes := #[]
  resolved := Array.replicate 11 none
  statics := none }

def pool6 : Array CpInfo := pool [(1, .class_ 2), (0, u "java/lang/constant/ConstantDesc"), (0, .class_ 4), (0, u "java/lang/Object")] 32

/-- java/lang/constant/ConstantDesc -/
def k6 : Class := { plain "java/lang/constant/ConstantDesc" (some 0) with
  accessFlags := 1537
  interfaces := #[]
  cf := some (fileOf pool6 1 #[] #[] 1537 3 #[] #[])
  fields := #[]
  methods := #[]
  instanceTypes := #[]
  staticTypes := #[]
  resolved := Array.replicate 37 none
  statics := none }

def pool7 : Array CpInfo := pool [(1, .methodref 2 3), (0, .class_ 4), (0, .nameAndType 5 6), (0, u "java/lang/Object"), (0, u "<init>"), (0, u "()V"), (0, .string 8), (0, u ""), (0, .fieldref 10 11), (0, .class_ 12), (0, .nameAndType 13 14), (0, u "java/lang/String"), (0, u "value"), (0, u "[B"), (0, .fieldref 10 16), (0, .nameAndType 17 18), (0, u "coder"), (0, u "B"), (2, u "hash"), (0, u "I"), (2, u "hashIsZero"), (0, u "Z"), (0, .methodref 10 28), (0, .nameAndType 5 29), (0, u "([CIILjava/lang/Void;)V"), (8, .fieldref 10 39), (0, .nameAndType 40 26), (0, u "COMPACT_STRINGS"), (1, .class_ 44), (1, u "java/lang/StringUTF16"), (0, u "compress"), (1, .methodref 42 48), (0, .nameAndType 49 50), (0, u "coderFromArrayLen"), (0, u "([BI)B"), (3, .methodref 55 56), (0, .class_ 57), (0, .nameAndType 58 59), (0, u "java/util/Arrays"), (0, u "copyOfRange"), (0, u "([BII)[B"), (10, u "([BIII)V"), (36, .class_ 109), (1, u "java/lang/StringLatin1"), (32, u "()Z"), (34, .methodref 42 178), (0, .nameAndType 45 179), (0, u "([CII)[B"), (13, .class_ 195), (1, u "java/lang/System"), (13, .methodref 10 210), (0, .nameAndType 5 211), (0, u "([BB)V"), (0, .methodref 193 213), (0, .nameAndType 214 215), (0, u "arraycopy"), (0, u "(Ljava/lang/Object;ILjava/lang/Object;II)V"), (118, u "()I"), (0, .methodref 10 336), (0, .nameAndType 17 337), (0, u "()B"), (2, u "()[B"), (22, u "([BI)C"), (27, u "(II)V"), (35, u "(I)C"), (61, .methodref 10 490), (0, .nameAndType 5 491), (0, u "(Ljava/lang/AbstractStringBuilder;Ljava/lang/Void;)V"), (0, .methodref 10 493), (0, .nameAndType 494 142), (0, u "isLatin1"), (0, .methodref 107 496), (0, .nameAndType 497 363), (0, u "charAt"), (3, u "checkIndex"), (4, .nameAndType 507 334), (0, u "length"), (24, u "getBytes"), (16, .methodref 550 506), (0, .class_ 551), (0, u "java/lang/AbstractStringBuilder"), (0, .methodref 550 553), (0, .nameAndType 554 340), (0, u "getValue"), (20, .class_ 576), (0, u "java/lang/CharSequence"), (22, u "CASE_INSENSITIVE_ORDER"), (0, u "Ljava/util/Comparator;"), (91, u "isEmpty"), (128, u "([BIB)V"), (69, u "repeat"), (0, u "(I)Ljava/lang/String;"), (50, .integer 2147483647), (66, u "([C)V"), (33, .methodref 10 1045), (0, .nameAndType 1046 70), (0, u "repeatCopyRest"), (0, .methodref 550 493), (5, .fieldref 1054 1055), (0, .class_ 1056), (0, .nameAndType 1057 1058), (0, u "jdk/internal/util/Preconditions"), (0, u "SIOOBE_FORMATTER"), (0, u "Ljava/util/function/BiFunction;"), (0, .methodref 1054 1060), (0, .nameAndType 501 1061), (0, u "(IILjava/util/function/BiFunction;)I"), (39, u "serialPersistentFields"), (0, u "[Ljava/io/ObjectStreamField;"), (0, .class_ 1104), (0, u "java/lang/String$CaseInsensitiveComparator"), (1, .class_ 1107), (0, u "java/io/Serializable"), (0, .class_ 1109), (0, u "java/lang/Comparable"), (0, .class_ 1111), (0, u "java/lang/constant/Constable"), (0, .class_ 1113), (0, u "java/lang/constant/ConstantDesc"), (2, u "serialVersionUID"), (0, u "J"), (3, u "REPL"), (0, u "C"), (2, u "LATIN1"), (1, u "UTF16"), (105, u "(Ljava/lang/StringBuilder;)V")] 217

def k7m0 : Method := { name := "<init>", desc := "()V", sig := { parameters := [], returnType := none }, accessFlags := 1, code := none }
def k7c1 : Code := { maxStack := 5, maxLocals := 2, code := jdk_42_method_3_code, exceptionTable := #[], attributes := #[] }
def k7m1 : Method := { name := "<init>", desc := "([C)V", sig := { parameters := [(.array .char)], returnType := none }, accessFlags := 1, code := some k7c1 }
def k7c2 : Code := { maxStack := 3, maxLocals := 2, code := jdk_42_method_53_code, exceptionTable := #[], attributes := #[] }
def k7m2 : Method := { name := "<init>", desc := "(Ljava/lang/StringBuilder;)V", sig := { parameters := [(.object "java/lang/StringBuilder")], returnType := none }, accessFlags := 1, code := some k7c2 }
def k7c3 : Code := { maxStack := 2, maxLocals := 1, code := jdk_42_method_54_code, exceptionTable := #[], attributes := #[] }
def k7m3 : Method := { name := "length", desc := "()I", sig := { parameters := [], returnType := some .int }, accessFlags := 1, code := some k7c3 }
def k7c4 : Code := { maxStack := 1, maxLocals := 1, code := jdk_42_method_55_code, exceptionTable := #[], attributes := #[] }
def k7m4 : Method := { name := "isEmpty", desc := "()Z", sig := { parameters := [], returnType := some .boolean }, accessFlags := 1, code := some k7c4 }
def k7c5 : Code := { maxStack := 2, maxLocals := 2, code := jdk_42_method_56_code, exceptionTable := #[], attributes := #[] }
def k7m5 : Method := { name := "charAt", desc := "(I)C", sig := { parameters := [.int], returnType := some .char }, accessFlags := 1, code := some k7c5 }
def k7c6 : Code := { maxStack := 5, maxLocals := 5, code := jdk_42_method_145_code, exceptionTable := #[], attributes := #[] }
def k7m6 : Method := { name := "repeat", desc := "(I)Ljava/lang/String;", sig := { parameters := [.int], returnType := some (.object "java/lang/String") }, accessFlags := 1, code := some k7c6 }
def k7c7 : Code := { maxStack := 6, maxLocals := 4, code := jdk_42_method_146_code, exceptionTable := #[], attributes := #[] }
def k7m7 : Method := { name := "repeatCopyRest", desc := "([BIII)V", sig := { parameters := [(.array .byte), .int, .int, .int], returnType := none }, accessFlags := 8, code := some k7c7 }
def k7c8 : Code := { maxStack := 5, maxLocals := 4, code := jdk_42_method_147_code, exceptionTable := #[], attributes := #[] }
def k7m8 : Method := { name := "getBytes", desc := "([BIB)V", sig := { parameters := [(.array .byte), .int, .byte], returnType := none }, accessFlags := 0, code := some k7c8 }
def k7c9 : Code := { maxStack := 4, maxLocals := 6, code := jdk_42_method_149_code, exceptionTable := #[], attributes := #[] }
def k7m9 : Method := { name := "<init>", desc := "([CIILjava/lang/Void;)V", sig := { parameters := [(.array .char), .int, .int, (.object "java/lang/Void")], returnType := none }, accessFlags := 2, code := some k7c9 }
def k7c10 : Code := { maxStack := 5, maxLocals := 5, code := jdk_42_method_150_code, exceptionTable := #[], attributes := #[] }
def k7m10 : Method := { name := "<init>", desc := "(Ljava/lang/AbstractStringBuilder;Ljava/lang/Void;)V", sig := { parameters := [(.object "java/lang/AbstractStringBuilder"), (.object "java/lang/Void")], returnType := none }, accessFlags := 0, code := some k7c10 }
def k7c11 : Code := { maxStack := 2, maxLocals := 3, code := jdk_42_method_151_code, exceptionTable := #[], attributes := #[] }
def k7m11 : Method := { name := "<init>", desc := "([BB)V", sig := { parameters := [(.array .byte), .byte], returnType := none }, accessFlags := 0, code := some k7c11 }
def k7c12 : Code := { maxStack := 1, maxLocals := 1, code := jdk_42_method_152_code, exceptionTable := #[], attributes := #[] }
def k7m12 : Method := { name := "coder", desc := "()B", sig := { parameters := [], returnType := some .byte }, accessFlags := 0, code := some k7c12 }
def k7c13 : Code := { maxStack := 1, maxLocals := 1, code := jdk_42_method_154_code, exceptionTable := #[], attributes := #[] }
def k7m13 : Method := { name := "isLatin1", desc := "()Z", sig := { parameters := [], returnType := some .boolean }, accessFlags := 0, code := some k7c13 }
def k7c14 : Code := { maxStack := 3, maxLocals := 2, code := jdk_42_method_155_code, exceptionTable := #[], attributes := #[] }
def k7m14 : Method := { name := "checkIndex", desc := "(II)V", sig := { parameters := [.int, .int], returnType := none }, accessFlags := 8, code := some k7c14 }
/-- java/lang/String -/
def k7 : Class := { plain "java/lang/String" (some 0) with
  accessFlags := 49
  interfaces := #[2, 3, 4, 5, 6]
  cf := some (fileOf pool7 10 #[.nestMembers #[1103]] #[{ accessFlags := 1, nameIndex := 5, descriptorIndex := 6, attributes := #[] }, { accessFlags := 1, nameIndex := 5, descriptorIndex := 1010, attributes := #[] }, { accessFlags := 1, nameIndex := 5, descriptorIndex := 1233, attributes := #[] }, { accessFlags := 1, nameIndex := 507, descriptorIndex := 334, attributes := #[] }, { accessFlags := 1, nameIndex := 692, descriptorIndex := 142, attributes := #[] }, { accessFlags := 1, nameIndex := 497, descriptorIndex := 427, attributes := #[] }, { accessFlags := 1, nameIndex := 891, descriptorIndex := 892, attributes := #[] }, { accessFlags := 8, nameIndex := 1046, descriptorIndex := 70, attributes := #[] }, { accessFlags := 0, nameIndex := 532, descriptorIndex := 821, attributes := #[] }, { accessFlags := 2, nameIndex := 5, descriptorIndex := 29, attributes := #[] }, { accessFlags := 0, nameIndex := 5, descriptorIndex := 491, attributes := #[] }, { accessFlags := 0, nameIndex := 5, descriptorIndex := 211, attributes := #[] }, { accessFlags := 0, nameIndex := 17, descriptorIndex := 337, attributes := #[] }, { accessFlags := 0, nameIndex := 494, descriptorIndex := 142, attributes := #[] }, { accessFlags := 8, nameIndex := 501, descriptorIndex := 391, attributes := #[] }] 49 2 #[1106, 1108, 575, 1110, 1112] #[{ accessFlags := 18, nameIndex := 13, descriptorIndex := 14, attributes := #[] }, { accessFlags := 18, nameIndex := 17, descriptorIndex := 18, attributes := #[] }, { accessFlags := 2, nameIndex := 21, descriptorIndex := 22, attributes := #[] }, { accessFlags := 2, nameIndex := 25, descriptorIndex := 26, attributes := #[] }, { accessFlags := 26, nameIndex := 1116, descriptorIndex := 1117, attributes := #[] }, { accessFlags := 24, nameIndex := 40, descriptorIndex := 26, attributes := #[] }, { accessFlags := 26, nameIndex := 1101, descriptorIndex := 1102, attributes := #[] }, { accessFlags := 26, nameIndex := 1121, descriptorIndex := 1122, attributes := #[] }, { accessFlags := 25, nameIndex := 599, descriptorIndex := 600, attributes := #[] }, { accessFlags := 24, nameIndex := 1125, descriptorIndex := 18, attributes := #[] }, { accessFlags := 24, nameIndex := 1127, descriptorIndex := 18, attributes := #[] }])
  fields := #[{ name := "value", type := (.array .byte), accessFlags := 18, slot := 0, constantValue := 0 }, { name := "coder", type := .byte, accessFlags := 18, slot := 1, constantValue := 0 }, { name := "hash", type := .int, accessFlags := 2, slot := 2, constantValue := 0 }, { name := "hashIsZero", type := .boolean, accessFlags := 2, slot := 3, constantValue := 0 }, { name := "serialVersionUID", type := .long, accessFlags := 26, slot := 0, constantValue := 0 }, { name := "COMPACT_STRINGS", type := .boolean, accessFlags := 24, slot := 1, constantValue := 0 }, { name := "serialPersistentFields", type := (.array (.object "java/io/ObjectStreamField")), accessFlags := 26, slot := 2, constantValue := 0 }, { name := "REPL", type := .char, accessFlags := 26, slot := 3, constantValue := 0 }, { name := "CASE_INSENSITIVE_ORDER", type := (.object "java/util/Comparator"), accessFlags := 25, slot := 4, constantValue := 0 }, { name := "LATIN1", type := .byte, accessFlags := 24, slot := 5, constantValue := 0 }, { name := "UTF16", type := .byte, accessFlags := 24, slot := 6, constantValue := 0 }]
  methods := #[k7m0, k7m1, k7m2, k7m3, k7m4, k7m5, k7m6, k7m7, k7m8, k7m9, k7m10, k7m11, k7m12, k7m13, k7m14]
  instanceTypes := #[(.array .byte), .byte, .int, .boolean]
  staticTypes := #[.long, .boolean, (.array (.object "java/io/ObjectStreamField")), .char, (.object "java/util/Comparator"), .byte, .byte]
  resolved := Array.replicate 1451 none
  statics := some 0 }

def pool8 : Array CpInfo := pool [(6, .class_ 8), (1, u "java/lang/Object"), (0, u "<init>"), (0, u "()V"), (1, .class_ 14), (1, u "java/lang/StringUTF16"), (31, u "$assertionsDisabled"), (0, u "Z"), (13, u "HI_BYTE_SHIFT"), (0, u "I"), (2, u "LO_BYTE_SHIFT"), (49, .methodref 12 116), (0, .nameAndType 117 118), (0, u "compress"), (0, u "([CI[BII)I"), (3, u "([CII)[B"), (138, u "coderFromArrayLen"), (0, u "([BI)B"), (106, .class_ 371), (1, u "java/lang/StringUTF16$LinesSpliterator"), (58, u "MAX_LENGTH"), (196, .class_ 628), (0, u "java/lang/StringUTF16$CodePointsSpliterator"), (0, .class_ 630), (0, u "java/lang/StringUTF16$CharsSpliterator")] 4

def k8m0 : Method := { name := "<init>", desc := "()V", sig := { parameters := [], returnType := none }, accessFlags := 0, code := none }
def k8c1 : Code := { maxStack := 2, maxLocals := 2, code := jdk_52_method_15_code, exceptionTable := #[], attributes := #[] }
def k8m1 : Method := { name := "coderFromArrayLen", desc := "([BI)B", sig := { parameters := [(.array .byte), .int], returnType := some .byte }, accessFlags := 8, code := some k8c1 }
def k8c2 : Code := { maxStack := 5, maxLocals := 6, code := jdk_52_method_16_code, exceptionTable := #[], attributes := #[] }
def k8m2 : Method := { name := "compress", desc := "([CII)[B", sig := { parameters := [(.array .char), .int, .int], returnType := some (.array .byte) }, accessFlags := 9, code := some k8c2 }
def k8c3 : Code := { maxStack := 3, maxLocals := 7, code := jdk_52_method_21_code, exceptionTable := #[], attributes := #[] }
def k8m3 : Method := { name := "compress", desc := "([CI[BII)I", sig := { parameters := [(.array .char), .int, (.array .byte), .int, .int], returnType := some .int }, accessFlags := 9, code := some k8c3 }
/-- java/lang/StringUTF16 -/
def k8 : Class := { plain "java/lang/StringUTF16" (some 0) with
  accessFlags := 48
  interfaces := #[]
  cf := some (fileOf pool8 12 #[.nestMembers #[627, 629, 369]] #[{ accessFlags := 0, nameIndex := 9, descriptorIndex := 10, attributes := #[] }, { accessFlags := 8, nameIndex := 261, descriptorIndex := 262, attributes := #[] }, { accessFlags := 9, nameIndex := 117, descriptorIndex := 122, attributes := #[] }, { accessFlags := 9, nameIndex := 117, descriptorIndex := 118, attributes := #[] }] 48 6 #[] #[{ accessFlags := 26, nameIndex := 61, descriptorIndex := 62, attributes := #[] }, { accessFlags := 26, nameIndex := 65, descriptorIndex := 62, attributes := #[] }, { accessFlags := 24, nameIndex := 430, descriptorIndex := 62, attributes := #[] }, { accessFlags := 4120, nameIndex := 46, descriptorIndex := 47, attributes := #[] }])
  fields := #[{ name := "HI_BYTE_SHIFT", type := .int, accessFlags := 26, slot := 0, constantValue := 0 }, { name := "LO_BYTE_SHIFT", type := .int, accessFlags := 26, slot := 1, constantValue := 0 }, { name := "MAX_LENGTH", type := .int, accessFlags := 24, slot := 2, constantValue := 0 }, { name := "$assertionsDisabled", type := .boolean, accessFlags := 4120, slot := 3, constantValue := 0 }]
  methods := #[k8m0, k8m1, k8m2, k8m3]
  instanceTypes := #[]
  staticTypes := #[.int, .int, .int, .boolean]
  resolved := Array.replicate 635 none
  statics := none }

def pool9 : Array CpInfo := pool [(1, .methodref 2 3), (0, .class_ 4), (0, .nameAndType 5 6), (0, u "java/lang/Object"), (0, u "<init>"), (0, u "()V"), (0, .class_ 8), (0, u "java/lang/StringBuilder"), (0, .methodref 7 3), (0, .fieldref 11 12), (0, .class_ 13), (0, .nameAndType 14 15), (0, u "com/example/tetrad/tetrad/generate/SourceText"), (0, u "text"), (0, u "Ljava/lang/StringBuilder;"), (0, .methodref 17 18), (0, .class_ 19), (0, .nameAndType 20 21), (0, u "java/lang/String"), (0, u "isEmpty"), (0, u "()Z"), (0, .string 23), (0, u "    "), (0, .fieldref 11 25), (0, .nameAndType 26 27), (0, u "depth"), (0, u "I"), (0, .methodref 17 29), (0, .nameAndType 30 31), (0, u "repeat"), (0, u "(I)Ljava/lang/String;"), (0, .methodref 7 33), (0, .nameAndType 34 35), (0, u "append"), (0, u "(Ljava/lang/String;)Ljava/lang/StringBuilder;"), (0, .methodref 7 37), (0, .nameAndType 34 38), (0, u "(C)Ljava/lang/StringBuilder;"), (6, u "line"), (0, u "(Ljava/lang/String;)Lcom/example/tetrad/tetrad/generate/SourceText;"), (9, .methodref 7 57), (0, .nameAndType 58 59), (0, u "toString"), (0, u "()Ljava/lang/String;"), (0, u "INDENT"), (0, u "Ljava/lang/String;"), (6, u "indent"), (0, u "()Lcom/example/tetrad/tetrad/generate/SourceText;"), (0, u "dedent")] 21

def k9c0 : Code := { maxStack := 3, maxLocals := 1, code := prog_51_method_1_code, exceptionTable := #[], attributes := #[] }
def k9m0 : Method := { name := "<init>", desc := "()V", sig := { parameters := [], returnType := none }, accessFlags := 0, code := some k9c0 }
def k9c1 : Code := { maxStack := 3, maxLocals := 2, code := prog_51_method_2_code, exceptionTable := #[], attributes := #[] }
def k9m1 : Method := { name := "line", desc := "(Ljava/lang/String;)Lcom/example/tetrad/tetrad/generate/SourceText;", sig := { parameters := [(.object "java/lang/String")], returnType := some (.object "com/example/tetrad/tetrad/generate/SourceText") }, accessFlags := 0, code := some k9c1 }
def k9c2 : Code := { maxStack := 3, maxLocals := 1, code := prog_51_method_5_code, exceptionTable := #[], attributes := #[] }
def k9m2 : Method := { name := "indent", desc := "()Lcom/example/tetrad/tetrad/generate/SourceText;", sig := { parameters := [], returnType := some (.object "com/example/tetrad/tetrad/generate/SourceText") }, accessFlags := 0, code := some k9c2 }
def k9c3 : Code := { maxStack := 3, maxLocals := 1, code := prog_51_method_6_code, exceptionTable := #[], attributes := #[] }
def k9m3 : Method := { name := "dedent", desc := "()Lcom/example/tetrad/tetrad/generate/SourceText;", sig := { parameters := [], returnType := some (.object "com/example/tetrad/tetrad/generate/SourceText") }, accessFlags := 0, code := some k9c3 }
def k9c4 : Code := { maxStack := 1, maxLocals := 1, code := prog_51_method_9_code, exceptionTable := #[], attributes := #[] }
def k9m4 : Method := { name := "toString", desc := "()Ljava/lang/String;", sig := { parameters := [], returnType := some (.object "java/lang/String") }, accessFlags := 1, code := some k9c4 }
/-- com/example/tetrad/tetrad/generate/SourceText -/
def k9 : Class := { plain "com/example/tetrad/tetrad/generate/SourceText" (some 0) with
  accessFlags := 48
  interfaces := #[]
  cf := some (fileOf pool9 11 #[] #[{ accessFlags := 0, nameIndex := 5, descriptorIndex := 6, attributes := #[] }, { accessFlags := 0, nameIndex := 45, descriptorIndex := 46, attributes := #[] }, { accessFlags := 0, nameIndex := 68, descriptorIndex := 69, attributes := #[] }, { accessFlags := 0, nameIndex := 70, descriptorIndex := 69, attributes := #[] }, { accessFlags := 1, nameIndex := 58, descriptorIndex := 59, attributes := #[] }] 48 2 #[] #[{ accessFlags := 26, nameIndex := 60, descriptorIndex := 61, attributes := #[] }, { accessFlags := 18, nameIndex := 14, descriptorIndex := 15, attributes := #[] }, { accessFlags := 2, nameIndex := 26, descriptorIndex := 27, attributes := #[] }])
  fields := #[{ name := "INDENT", type := (.object "java/lang/String"), accessFlags := 26, slot := 0, constantValue := 0 }, { name := "text", type := (.object "java/lang/StringBuilder"), accessFlags := 18, slot := 0, constantValue := 0 }, { name := "depth", type := .int, accessFlags := 2, slot := 1, constantValue := 0 }]
  methods := #[k9m0, k9m1, k9m2, k9m3, k9m4]
  instanceTypes := #[(.object "java/lang/StringBuilder"), .int]
  staticTypes := #[(.object "java/lang/String")]
  resolved := Array.replicate 92 none
  statics := none }

def pool10 : Array CpInfo := pool [(1, .class_ 2), (0, u "java/lang/Appendable"), (0, .class_ 4), (0, u "java/lang/Object")] 9

/-- java/lang/Appendable -/
def k10 : Class := { plain "java/lang/Appendable" (some 0) with
  accessFlags := 1537
  interfaces := #[]
  cf := some (fileOf pool10 1 #[] #[] 1537 3 #[] #[])
  fields := #[]
  methods := #[]
  instanceTypes := #[]
  staticTypes := #[]
  resolved := Array.replicate 14 none
  statics := none }

def pool11 : Array CpInfo := pool [(1, .class_ 2), (0, u "java/lang/String"), (0, .methodref 4 5), (0, .class_ 6), (0, .nameAndType 7 8), (0, u "java/lang/Object"), (0, u "<init>"), (0, u "()V"), (1, .class_ 12), (1, u "java/lang/AbstractStringBuilder"), (0, u "EMPTYVALUE"), (0, u "[B"), (0, .fieldref 10 16), (0, .nameAndType 17 14), (0, u "value"), (0, .fieldref 1 19), (0, .nameAndType 20 21), (0, u "COMPACT_STRINGS"), (0, u "Z"), (0, .fieldref 10 23), (0, .nameAndType 24 25), (0, u "coder"), (0, u "B"), (6, .methodref 1 33), (0, .nameAndType 34 35), (0, u "length"), (0, u "()I"), (4, .methodref 1 41), (0, .nameAndType 24 42), (0, u "()B"), (2, u "append"), (0, u "(Ljava/lang/String;)Ljava/lang/AbstractStringBuilder;"), (1, .class_ 49), (0, u "java/lang/CharSequence"), (19, u "(Ljava/lang/String;)V"), (5, u "maybeLatin1"), (3, .fieldref 10 80), (0, .nameAndType 81 82), (0, u "count"), (0, u "I"), (0, .methodref 10 84), (0, .nameAndType 85 86), (0, u "isLatin1"), (0, u "()Z"), (1, .class_ 90), (1, u "java/lang/StringLatin1"), (9, .methodref 10 101), (0, .nameAndType 102 103), (0, u "ensureCapacityInternal"), (0, u "(I)V"), (87, .methodref 88 192), (0, .nameAndType 193 194), (0, u "canEncode"), (0, u "(C)Z"), (13, .methodref 10 209), (0, .nameAndType 210 211), (0, u "putStringAt"), (0, u "(ILjava/lang/String;)V"), (5, u "inflateIfNeededFor"), (2, .nameAndType 221 222), (0, u "getBytes"), (0, u "([BIB)V"), (69, u "(C)Ljava/lang/AbstractStringBuilder;"), (104, .methodref 10 398), (0, .nameAndType 217 69), (0, .methodref 1 220), (3, u "()[B"), (40, .class_ 445), (0, u "java/lang/Appendable"), (106, u "getValue")] 56

def k11m0 : Method := { name := "<init>", desc := "()V", sig := { parameters := [], returnType := none }, accessFlags := 0, code := none }
def k11c1 : Code := { maxStack := 2, maxLocals := 2, code := jdk_68_method_2_code, exceptionTable := #[], attributes := #[] }
def k11m1 : Method := { name := "<init>", desc := "(I)V", sig := { parameters := [.int], returnType := none }, accessFlags := 0, code := some k11c1 }
def k11c2 : Code := { maxStack := 1, maxLocals := 1, code := jdk_68_method_6_code, exceptionTable := #[], attributes := #[] }
def k11m2 : Method := { name := "length", desc := "()I", sig := { parameters := [], returnType := some .int }, accessFlags := 1, code := some k11c2 }
def k11c3 : Code := { maxStack := 4, maxLocals := 3, code := jdk_68_method_9_code, exceptionTable := #[], attributes := #[] }
def k11m3 : Method := { name := "ensureCapacityInternal", desc := "(I)V", sig := { parameters := [.int], returnType := none }, accessFlags := 2, code := some k11c3 }
def k11c4 : Code := { maxStack := 3, maxLocals := 3, code := jdk_68_method_22_code, exceptionTable := #[], attributes := #[] }
def k11m4 : Method := { name := "append", desc := "(Ljava/lang/String;)Ljava/lang/AbstractStringBuilder;", sig := { parameters := [(.object "java/lang/String")], returnType := some (.object "java/lang/AbstractStringBuilder") }, accessFlags := 1, code := some k11c4 }
def k11c5 : Code := { maxStack := 5, maxLocals := 2, code := jdk_68_method_31_code, exceptionTable := #[], attributes := #[] }
def k11m5 : Method := { name := "append", desc := "(C)Ljava/lang/AbstractStringBuilder;", sig := { parameters := [.char], returnType := some (.object "java/lang/AbstractStringBuilder") }, accessFlags := 1, code := some k11c5 }
def k11c6 : Code := { maxStack := 1, maxLocals := 1, code := jdk_68_method_64_code, exceptionTable := #[], attributes := #[] }
def k11m6 : Method := { name := "getValue", desc := "()[B", sig := { parameters := [], returnType := some (.array .byte) }, accessFlags := 16, code := some k11c6 }
def k11c7 : Code := { maxStack := 1, maxLocals := 1, code := jdk_68_method_68_code, exceptionTable := #[], attributes := #[] }
def k11m7 : Method := { name := "isLatin1", desc := "()Z", sig := { parameters := [], returnType := some .boolean }, accessFlags := 16, code := some k11c7 }
def k11c8 : Code := { maxStack := 2, maxLocals := 2, code := jdk_68_method_71_code, exceptionTable := #[], attributes := #[] }
def k11m8 : Method := { name := "inflateIfNeededFor", desc := "(Ljava/lang/String;)V", sig := { parameters := [(.object "java/lang/String")], returnType := none }, accessFlags := 2, code := some k11c8 }
def k11c9 : Code := { maxStack := 4, maxLocals := 3, code := jdk_68_method_73_code, exceptionTable := #[], attributes := #[] }
def k11m9 : Method := { name := "putStringAt", desc := "(ILjava/lang/String;)V", sig := { parameters := [.int, (.object "java/lang/String")], returnType := none }, accessFlags := 2, code := some k11c9 }
/-- java/lang/AbstractStringBuilder -/
def k11 : Class := { plain "java/lang/AbstractStringBuilder" (some 0) with
  accessFlags := 1056
  interfaces := #[10, 4]
  cf := some (fileOf pool11 10 #[] #[{ accessFlags := 0, nameIndex := 7, descriptorIndex := 8, attributes := #[] }, { accessFlags := 0, nameIndex := 7, descriptorIndex := 103, attributes := #[] }, { accessFlags := 1, nameIndex := 34, descriptorIndex := 35, attributes := #[] }, { accessFlags := 2, nameIndex := 102, descriptorIndex := 103, attributes := #[] }, { accessFlags := 1, nameIndex := 45, descriptorIndex := 46, attributes := #[] }, { accessFlags := 1, nameIndex := 45, descriptorIndex := 292, attributes := #[] }, { accessFlags := 16, nameIndex := 552, descriptorIndex := 403, attributes := #[] }, { accessFlags := 16, nameIndex := 85, descriptorIndex := 86, attributes := #[] }, { accessFlags := 2, nameIndex := 217, descriptorIndex := 69, attributes := #[] }, { accessFlags := 2, nameIndex := 210, descriptorIndex := 211, attributes := #[] }] 1056 4 #[444, 48] #[{ accessFlags := 0, nameIndex := 17, descriptorIndex := 14, attributes := #[] }, { accessFlags := 0, nameIndex := 24, descriptorIndex := 25, attributes := #[] }, { accessFlags := 0, nameIndex := 75, descriptorIndex := 21, attributes := #[] }, { accessFlags := 0, nameIndex := 81, descriptorIndex := 82, attributes := #[] }, { accessFlags := 26, nameIndex := 13, descriptorIndex := 14, attributes := #[] }])
  fields := #[{ name := "value", type := (.array .byte), accessFlags := 0, slot := 0, constantValue := 0 }, { name := "coder", type := .byte, accessFlags := 0, slot := 1, constantValue := 0 }, { name := "maybeLatin1", type := .boolean, accessFlags := 0, slot := 2, constantValue := 0 }, { name := "count", type := .int, accessFlags := 0, slot := 3, constantValue := 0 }, { name := "EMPTYVALUE", type := (.array .byte), accessFlags := 26, slot := 0, constantValue := 0 }]
  methods := #[k11m0, k11m1, k11m2, k11m3, k11m4, k11m5, k11m6, k11m7, k11m8, k11m9]
  instanceTypes := #[(.array .byte), .byte, .boolean, .int]
  staticTypes := #[(.array .byte)]
  resolved := Array.replicate 609 none
  statics := none }

def pool12 : Array CpInfo := pool [(1, .methodref 2 3), (0, .class_ 4), (0, .nameAndType 5 6), (0, u "java/lang/AbstractStringBuilder"), (0, u "<init>"), (0, u "(I)V"), (11, .class_ 20), (1, u "java/lang/String"), (3, .class_ 26), (1, u "java/lang/StringBuilder"), (0, u "append"), (0, u "(Ljava/lang/String;)Ljava/lang/StringBuilder;"), (0, .methodref 2 30), (0, .nameAndType 27 31), (0, u "(Ljava/lang/String;)Ljava/lang/AbstractStringBuilder;"), (18, .methodref 2 51), (0, .nameAndType 27 52), (0, u "(C)Ljava/lang/AbstractStringBuilder;"), (84, .methodref 18 138), (0, .nameAndType 5 139), (0, u "(Ljava/lang/StringBuilder;)V"), (5, u "()V"), (10, u "()I"), (129, u "(C)Ljava/lang/StringBuilder;"), (56, .methodref 2 344), (0, .nameAndType 345 156), (0, u "length"), (3, .class_ 350), (0, u "java/lang/Appendable"), (0, .class_ 352), (0, u "java/io/Serializable"), (0, .class_ 354), (0, u "java/lang/Comparable"), (0, .class_ 356), (0, u "java/lang/CharSequence"), (0, u "serialVersionUID"), (0, u "J"), (40, u "toString"), (0, u "()Ljava/lang/String;")] 21

def k12c0 : Code := { maxStack := 2, maxLocals := 1, code := jdk_67_method_1_code, exceptionTable := #[], attributes := #[] }
def k12m0 : Method := { name := "<init>", desc := "()V", sig := { parameters := [], returnType := none }, accessFlags := 1, code := some k12c0 }
def k12c1 : Code := { maxStack := 2, maxLocals := 2, code := jdk_67_method_7_code, exceptionTable := #[], attributes := #[] }
def k12m1 : Method := { name := "append", desc := "(Ljava/lang/String;)Ljava/lang/StringBuilder;", sig := { parameters := [(.object "java/lang/String")], returnType := some (.object "java/lang/StringBuilder") }, accessFlags := 1, code := some k12c1 }
def k12c2 : Code := { maxStack := 2, maxLocals := 2, code := jdk_67_method_14_code, exceptionTable := #[], attributes := #[] }
def k12m2 : Method := { name := "append", desc := "(C)Ljava/lang/StringBuilder;", sig := { parameters := [.char], returnType := some (.object "java/lang/StringBuilder") }, accessFlags := 1, code := some k12c2 }
def k12c3 : Code := { maxStack := 3, maxLocals := 1, code := jdk_67_method_42_code, exceptionTable := #[], attributes := #[] }
def k12m3 : Method := { name := "toString", desc := "()Ljava/lang/String;", sig := { parameters := [], returnType := some (.object "java/lang/String") }, accessFlags := 1, code := some k12c3 }
def k12c4 : Code := { maxStack := 1, maxLocals := 1, code := jdk_67_method_93_code, exceptionTable := #[], attributes := #[] }
def k12m4 : Method := { name := "length", desc := "()I", sig := { parameters := [], returnType := some .int }, accessFlags := 4161, code := some k12c4 }
/-- java/lang/StringBuilder -/
def k12 : Class := { plain "java/lang/StringBuilder" (some 11) with
  accessFlags := 49
  interfaces := #[10, 2, 3, 4]
  cf := some (fileOf pool12 24 #[] #[{ accessFlags := 1, nameIndex := 5, descriptorIndex := 145, attributes := #[] }, { accessFlags := 1, nameIndex := 27, descriptorIndex := 28, attributes := #[] }, { accessFlags := 1, nameIndex := 27, descriptorIndex := 286, attributes := #[] }, { accessFlags := 1, nameIndex := 399, descriptorIndex := 400, attributes := #[] }, { accessFlags := 4161, nameIndex := 345, descriptorIndex := 156, attributes := #[] }] 49 2 #[349, 351, 353, 355] #[{ accessFlags := 24, nameIndex := 357, descriptorIndex := 358, attributes := #[] }])
  fields := #[{ name := "serialVersionUID", type := .long, accessFlags := 24, slot := 0, constantValue := 0 }]
  methods := #[k12m0, k12m1, k12m2, k12m3, k12m4]
  instanceTypes := #[(.array .byte), .byte, .boolean, .int]
  staticTypes := #[.long]
  resolved := Array.replicate 422 none
  statics := none }

def pool13 : Array CpInfo := pool [(2, .class_ 4), (1, u "java/lang/Object"), (0, u "<init>"), (0, u "()V"), (1, .class_ 10), (1, u "java/lang/System"), (0, u "allowSecurityManager"), (0, u "I"), (16, u "cons"), (0, u "Ljava/io/Console;"), (77, .class_ 110), (1, u "java/lang/System$CallersHolder"), (43, u "initialErrStream"), (0, u "Ljava/io/PrintStream;"), (19, u "security"), (0, u "Ljava/lang/SecurityManager;"), (31, .class_ 209), (0, u "java/lang/System$1"), (7, u "props"), (0, u "Ljava/util/Properties;"), (2, u "lineSeparator"), (0, u "Ljava/lang/String;"), (96, .class_ 321), (1, u "java/lang/System$LoggerFinder"), (5, .class_ 328), (0, u "java/lang/System$Logger"), (67, u "err"), (2, u "out"), (91, u "notSupportedJnuEncoding"), (15, u "in"), (17, u "initialIn"), (0, u "Ljava/io/InputStream;"), (35, u "bootLayer"), (0, u "Ljava/lang/ModuleLayer;"), (99, .class_ 664), (0, u "java/lang/System$2"), (9, u "NEVER"), (2, u "MAYBE"), (49, u "arraycopy"), (0, u "(Ljava/lang/Object;ILjava/lang/Object;II)V"), (72, .class_ 802), (0, u "java/lang/System$Logger$Level")] 31

def k13m0 : Method := { name := "<init>", desc := "()V", sig := { parameters := [], returnType := none }, accessFlags := 2, code := none }
def k13m1 : Method := { name := "arraycopy", desc := "(Ljava/lang/Object;ILjava/lang/Object;II)V", sig := { parameters := [(.object "java/lang/Object"), .int, (.object "java/lang/Object"), .int, .int], returnType := none }, accessFlags := 265, code := none }
/-- java/lang/System -/
def k13 : Class := { plain "java/lang/System" (some 0) with
  accessFlags := 49
  interfaces := #[]
  cf := some (fileOf pool13 8 #[.nestMembers #[319, 327, 801, 108, 663, 208]] #[{ accessFlags := 2, nameIndex := 5, descriptorIndex := 6, attributes := #[] }, { accessFlags := 265, nameIndex := 727, descriptorIndex := 728, attributes := #[] }] 49 2 #[] #[{ accessFlags := 25, nameIndex := 507, descriptorIndex := 526, attributes := #[] }, { accessFlags := 25, nameIndex := 399, descriptorIndex := 155, attributes := #[] }, { accessFlags := 25, nameIndex := 396, descriptorIndex := 155, attributes := #[] }, { accessFlags := 10, nameIndex := 525, descriptorIndex := 526, attributes := #[] }, { accessFlags := 26, nameIndex := 674, descriptorIndex := 12, attributes := #[] }, { accessFlags := 26, nameIndex := 677, descriptorIndex := 12, attributes := #[] }, { accessFlags := 10, nameIndex := 11, descriptorIndex := 12, attributes := #[] }, { accessFlags := 74, nameIndex := 175, descriptorIndex := 176, attributes := #[] }, { accessFlags := 10, nameIndex := 491, descriptorIndex := 222, attributes := #[] }, { accessFlags := 74, nameIndex := 29, descriptorIndex := 30, attributes := #[] }, { accessFlags := 74, nameIndex := 154, descriptorIndex := 155, attributes := #[] }, { accessFlags := 10, nameIndex := 217, descriptorIndex := 218, attributes := #[] }, { accessFlags := 10, nameIndex := 221, descriptorIndex := 222, attributes := #[] }, { accessFlags := 8, nameIndex := 562, descriptorIndex := 563, attributes := #[] }])
  fields := #[{ name := "in", type := (.object "java/io/InputStream"), accessFlags := 25, slot := 0, constantValue := 0 }, { name := "out", type := (.object "java/io/PrintStream"), accessFlags := 25, slot := 1, constantValue := 0 }, { name := "err", type := (.object "java/io/PrintStream"), accessFlags := 25, slot := 2, constantValue := 0 }, { name := "initialIn", type := (.object "java/io/InputStream"), accessFlags := 10, slot := 3, constantValue := 0 }, { name := "NEVER", type := .int, accessFlags := 26, slot := 4, constantValue := 0 }, { name := "MAYBE", type := .int, accessFlags := 26, slot := 5, constantValue := 0 }, { name := "allowSecurityManager", type := .int, accessFlags := 10, slot := 6, constantValue := 0 }, { name := "security", type := (.object "java/lang/SecurityManager"), accessFlags := 74, slot := 7, constantValue := 0 }, { name := "notSupportedJnuEncoding", type := (.object "java/lang/String"), accessFlags := 10, slot := 8, constantValue := 0 }, { name := "cons", type := (.object "java/io/Console"), accessFlags := 74, slot := 9, constantValue := 0 }, { name := "initialErrStream", type := (.object "java/io/PrintStream"), accessFlags := 74, slot := 10, constantValue := 0 }, { name := "props", type := (.object "java/util/Properties"), accessFlags := 10, slot := 11, constantValue := 0 }, { name := "lineSeparator", type := (.object "java/lang/String"), accessFlags := 10, slot := 12, constantValue := 0 }, { name := "bootLayer", type := (.object "java/lang/ModuleLayer"), accessFlags := 8, slot := 13, constantValue := 0 }]
  methods := #[k13m0, k13m1]
  instanceTypes := #[]
  staticTypes := #[(.object "java/io/InputStream"), (.object "java/io/PrintStream"), (.object "java/io/PrintStream"), (.object "java/io/InputStream"), .int, .int, .int, (.object "java/lang/SecurityManager"), (.object "java/lang/String"), (.object "java/io/Console"), (.object "java/io/PrintStream"), (.object "java/util/Properties"), (.object "java/lang/String"), (.object "java/lang/ModuleLayer")]
  resolved := Array.replicate 834 none
  statics := none }

def pool14 : Array CpInfo := pool [(1, .class_ 2), (0, u "java/lang/String"), (1, .class_ 6), (1, u "java/lang/Object"), (0, u "<init>"), (0, u "()V"), (0, .methodref 1 10), (0, .nameAndType 11 12), (0, u "checkIndex"), (0, u "(II)V"), (1, .class_ 16), (1, u "java/lang/StringLatin1"), (36, u "([BI)C"), (36, u "canEncode"), (14, u "(C)Z"), (15, u "$assertionsDisabled"), (0, u "Z"), (98, .class_ 223), (1, u "java/lang/StringLatin1$LinesSpliterator"), (28, u "charAt"), (137, .class_ 391), (0, u "java/lang/StringLatin1$CharsSpliterator")] 3

def k14m0 : Method := { name := "<init>", desc := "()V", sig := { parameters := [], returnType := none }, accessFlags := 0, code := none }
def k14c1 : Code := { maxStack := 2, maxLocals := 2, code := jdk_43_method_2_code, exceptionTable := #[], attributes := #[] }
def k14m1 : Method := { name := "charAt", desc := "([BI)C", sig := { parameters := [(.array .byte), .int], returnType := some .char }, accessFlags := 9, code := some k14c1 }
def k14c2 : Code := { maxStack := 2, maxLocals := 1, code := jdk_43_method_3_code, exceptionTable := #[], attributes := #[] }
def k14m2 : Method := { name := "canEncode", desc := "(C)Z", sig := { parameters := [.char], returnType := some .boolean }, accessFlags := 9, code := some k14c2 }
/-- java/lang/StringLatin1 -/
def k14 : Class := { plain "java/lang/StringLatin1" (some 0) with
  accessFlags := 48
  interfaces := #[]
  cf := some (fileOf pool14 14 #[.nestMembers #[390, 221]] #[{ accessFlags := 0, nameIndex := 7, descriptorIndex := 8, attributes := #[] }, { accessFlags := 9, nameIndex := 252, descriptorIndex := 53, attributes := #[] }, { accessFlags := 9, nameIndex := 90, descriptorIndex := 105, attributes := #[] }] 48 4 #[] #[{ accessFlags := 4120, nameIndex := 121, descriptorIndex := 122, attributes := #[] }])
  fields := #[{ name := "$assertionsDisabled", type := .boolean, accessFlags := 4120, slot := 0, constantValue := 0 }]
  methods := #[k14m0, k14m1, k14m2]
  instanceTypes := #[]
  staticTypes := #[.boolean]
  resolved := Array.replicate 395 none
  statics := none }

def pool15 : Array CpInfo := pool [(2, .class_ 4), (1, u "java/lang/Object"), (0, u "<init>"), (0, u "()V"), (7, .class_ 16), (1, u "java/util/Arrays"), (57, .class_ 76), (1, u "java/util/Arrays$NaturalOrder"), (36, .class_ 115), (1, u "java/util/Arrays$LegacyMergeSort"), (1, u "Z"), (21, u "copyOfRange"), (10, .methodref 151 152), (0, .class_ 153), (0, .nameAndType 154 155), (0, u "java/lang/System"), (0, u "arraycopy"), (0, u "(Ljava/lang/Object;ILjava/lang/Object;II)V"), (148, .methodref 305 306), (0, .class_ 307), (0, .nameAndType 308 309), (0, u "java/lang/Math"), (0, u "min"), (0, u "(II)I"), (29, .methodref 14 340), (0, .nameAndType 341 342), (0, u "copyOfRangeByte"), (0, u "([BII)[B"), (0, .methodref 14 344), (0, .nameAndType 345 346), (0, u "checkLength"), (0, u "(II)V"), (28, .class_ 376), (0, u "java/util/Arrays$ArrayList"), (68, u "$assertionsDisabled"), (269, u "MIN_ARRAY_SORT_GRAN"), (0, u "I"), (2, u "INSERTIONSORT_THRESHOLD"), (255, .class_ 976), (0, u "java/util/Arrays$ArrayItr")] 52

def k15m0 : Method := { name := "<init>", desc := "()V", sig := { parameters := [], returnType := none }, accessFlags := 2, code := none }
def k15c1 : Code := { maxStack := 4, maxLocals := 2, code := jdk_65_method_131_code, exceptionTable := #[], attributes := #[] }
def k15m1 : Method := { name := "checkLength", desc := "(II)V", sig := { parameters := [.int, .int], returnType := none }, accessFlags := 10, code := some k15c1 }
def k15c2 : Code := { maxStack := 3, maxLocals := 3, code := jdk_65_method_132_code, exceptionTable := #[], attributes := #[] }
def k15m2 : Method := { name := "copyOfRange", desc := "([BII)[B", sig := { parameters := [(.array .byte), .int, .int], returnType := some (.array .byte) }, accessFlags := 9, code := some k15c2 }
def k15c3 : Code := { maxStack := 6, maxLocals := 5, code := jdk_65_method_133_code, exceptionTable := #[], attributes := #[] }
def k15m3 : Method := { name := "copyOfRangeByte", desc := "([BII)[B", sig := { parameters := [(.array .byte), .int, .int], returnType := some (.array .byte) }, accessFlags := 10, code := some k15c3 }
/-- java/util/Arrays -/
def k15 : Class := { plain "java/util/Arrays" (some 0) with
  accessFlags := 49
  interfaces := #[]
  cf := some (fileOf pool15 14 #[.nestMembers #[975, 375, 113, 74]] #[{ accessFlags := 2, nameIndex := 5, descriptorIndex := 6, attributes := #[] }, { accessFlags := 10, nameIndex := 345, descriptorIndex := 346, attributes := #[] }, { accessFlags := 9, nameIndex := 139, descriptorIndex := 342, attributes := #[] }, { accessFlags := 10, nameIndex := 341, descriptorIndex := 342, attributes := #[] }] 49 2 #[] #[{ accessFlags := 26, nameIndex := 715, descriptorIndex := 716, attributes := #[] }, { accessFlags := 26, nameIndex := 719, descriptorIndex := 716, attributes := #[] }, { accessFlags := 4120, nameIndex := 445, descriptorIndex := 117, attributes := #[] }])
  fields := #[{ name := "MIN_ARRAY_SORT_GRAN", type := .int, accessFlags := 26, slot := 0, constantValue := 0 }, { name := "INSERTIONSORT_THRESHOLD", type := .int, accessFlags := 26, slot := 1, constantValue := 0 }, { name := "$assertionsDisabled", type := .boolean, accessFlags := 4120, slot := 2, constantValue := 0 }]
  methods := #[k15m0, k15m1, k15m2, k15m3]
  instanceTypes := #[]
  staticTypes := #[.int, .int, .boolean]
  resolved := Array.replicate 1029 none
  statics := none }

def pool16 : Array CpInfo := pool [(1, .class_ 2), (0, u "java/lang/Math"), (1, .class_ 6), (1, u "java/lang/Object"), (0, u "<init>"), (0, u "()V"), (89, .class_ 100), (1, u "java/lang/Math$RandomNumberGeneratorHolder"), (71, u "negativeZeroFloatBits"), (0, u "J"), (2, u "negativeZeroDoubleBits"), (24, u "min"), (43, u "$assertionsDisabled"), (0, u "Z"), (88, u "(II)I"), (2, u "twoToTheDoubleScaleDown"), (0, u "D"), (4, u "twoToTheDoubleScaleUp"), (9, u "E"), (3, u "PI"), (2, u "TAU"), (2, u "DEGREES_TO_RADIANS"), (0, u "RADIANS_TO_DEGREES")] 94

def k16m0 : Method := { name := "<init>", desc := "()V", sig := { parameters := [], returnType := none }, accessFlags := 2, code := none }
def k16c1 : Code := { maxStack := 2, maxLocals := 2, code := jdk_29_method_69_code, exceptionTable := #[], attributes := #[] }
def k16m1 : Method := { name := "min", desc := "(II)I", sig := { parameters := [.int, .int], returnType := some .int }, accessFlags := 9, code := some k16c1 }
/-- java/lang/Math -/
def k16 : Class := { plain "java/lang/Math" (some 0) with
  accessFlags := 49
  interfaces := #[]
  cf := some (fileOf pool16 1 #[.nestMembers #[98]] #[{ accessFlags := 2, nameIndex := 7, descriptorIndex := 8, attributes := #[] }, { accessFlags := 9, nameIndex := 201, descriptorIndex := 335, attributes := #[] }] 49 4 #[] #[{ accessFlags := 25, nameIndex := 354, descriptorIndex := 339, attributes := #[] }, { accessFlags := 25, nameIndex := 358, descriptorIndex := 339, attributes := #[] }, { accessFlags := 25, nameIndex := 361, descriptorIndex := 339, attributes := #[] }, { accessFlags := 26, nameIndex := 364, descriptorIndex := 339, attributes := #[] }, { accessFlags := 26, nameIndex := 365, descriptorIndex := 339, attributes := #[] }, { accessFlags := 26, nameIndex := 172, descriptorIndex := 173, attributes := #[] }, { accessFlags := 26, nameIndex := 176, descriptorIndex := 173, attributes := #[] }, { accessFlags := 8, nameIndex := 344, descriptorIndex := 339, attributes := #[] }, { accessFlags := 8, nameIndex := 338, descriptorIndex := 339, attributes := #[] }, { accessFlags := 4120, nameIndex := 245, descriptorIndex := 246, attributes := #[] }])
  fields := #[{ name := "E", type := .double, accessFlags := 25, slot := 0, constantValue := 0 }, { name := "PI", type := .double, accessFlags := 25, slot := 1, constantValue := 0 }, { name := "TAU", type := .double, accessFlags := 25, slot := 2, constantValue := 0 }, { name := "DEGREES_TO_RADIANS", type := .double, accessFlags := 26, slot := 3, constantValue := 0 }, { name := "RADIANS_TO_DEGREES", type := .double, accessFlags := 26, slot := 4, constantValue := 0 }, { name := "negativeZeroFloatBits", type := .long, accessFlags := 26, slot := 5, constantValue := 0 }, { name := "negativeZeroDoubleBits", type := .long, accessFlags := 26, slot := 6, constantValue := 0 }, { name := "twoToTheDoubleScaleUp", type := .double, accessFlags := 8, slot := 7, constantValue := 0 }, { name := "twoToTheDoubleScaleDown", type := .double, accessFlags := 8, slot := 8, constantValue := 0 }, { name := "$assertionsDisabled", type := .boolean, accessFlags := 4120, slot := 9, constantValue := 0 }]
  methods := #[k16m0, k16m1]
  instanceTypes := #[]
  staticTypes := #[.double, .double, .double, .double, .double, .long, .long, .double, .double, .boolean]
  resolved := Array.replicate 460 none
  statics := none }

def pool17 : Array CpInfo := pool [(2, .class_ 4), (1, u "java/lang/Object"), (0, u "<init>"), (0, u "()V"), (17, .class_ 26), (1, u "jdk/internal/util/Preconditions"), (6, u "checkIndex"), (21, .class_ 56), (0, u "jdk/internal/util/Preconditions$4"), (57, .class_ 115), (0, u "jdk/internal/util/Preconditions$1"), (7, u "SIOOBE_FORMATTER"), (0, u "Ljava/util/function/BiFunction;"), (0, .class_ 126), (0, u "jdk/internal/util/Preconditions$2"), (3, u "AIOOBE_FORMATTER"), (0, .class_ 132), (0, u "jdk/internal/util/Preconditions$3"), (3, u "IOOBE_FORMATTER"), (41, u "(IILjava/util/function/BiFunction;)I")] 15

def k17m0 : Method := { name := "<init>", desc := "()V", sig := { parameters := [], returnType := none }, accessFlags := 1, code := none }
def k17c1 : Code := { maxStack := 3, maxLocals := 3, code := jdk_41_method_11_code, exceptionTable := #[], attributes := #[] }
def k17m1 : Method := { name := "checkIndex", desc := "(IILjava/util/function/BiFunction;)I", sig := { parameters := [.int, .int, (.object "java/util/function/BiFunction")], returnType := some .int }, accessFlags := 9, code := some k17c1 }
/-- jdk/internal/util/Preconditions -/
def k17 : Class := { plain "jdk/internal/util/Preconditions" (some 0) with
  accessFlags := 33
  interfaces := #[]
  cf := some (fileOf pool17 24 #[.nestMembers #[55, 131, 125, 114]] #[{ accessFlags := 1, nameIndex := 5, descriptorIndex := 6, attributes := #[] }, { accessFlags := 9, nameIndex := 33, descriptorIndex := 178, attributes := #[] }] 33 2 #[] #[{ accessFlags := 25, nameIndex := 123, descriptorIndex := 124, attributes := #[] }, { accessFlags := 25, nameIndex := 130, descriptorIndex := 124, attributes := #[] }, { accessFlags := 25, nameIndex := 136, descriptorIndex := 124, attributes := #[] }])
  fields := #[{ name := "SIOOBE_FORMATTER", type := (.object "java/util/function/BiFunction"), accessFlags := 25, slot := 0, constantValue := 0 }, { name := "AIOOBE_FORMATTER", type := (.object "java/util/function/BiFunction"), accessFlags := 25, slot := 1, constantValue := 0 }, { name := "IOOBE_FORMATTER", type := (.object "java/util/function/BiFunction"), accessFlags := 25, slot := 2, constantValue := 0 }]
  methods := #[k17m0, k17m1]
  instanceTypes := #[]
  staticTypes := #[(.object "java/util/function/BiFunction"), (.object "java/util/function/BiFunction"), (.object "java/util/function/BiFunction")]
  resolved := Array.replicate 194 none
  statics := some 1 }

def pool18 : Array CpInfo := pool [(9, u "<init>"), (6, .class_ 18), (1, u "java/lang/Object"), (0, u "()V"), (1, .class_ 23), (1, u "jdk/internal/util/ArraysSupport"), (0, u "LOG2_ARRAY_LONG_INDEX_SCALE"), (0, u "I"), (2, u "U"), (0, u "Ljdk/internal/misc/Unsafe;"), (8, u "BIG_ENDIAN"), (0, u "Z"), (8, u "LOG2_BYTE_BIT_SIZE"), (4, u "LOG2_ARRAY_INT_INDEX_SCALE"), (54, u "JLA"), (0, u "Ljdk/internal/access/JavaLangAccess;"), (11, u "LOG2_ARRAY_BOOLEAN_INDEX_SCALE"), (9, u "LOG2_ARRAY_BYTE_INDEX_SCALE"), (5, u "LOG2_ARRAY_CHAR_INDEX_SCALE"), (5, u "LOG2_ARRAY_SHORT_INDEX_SCALE"), (18, u "LOG2_ARRAY_FLOAT_INDEX_SCALE"), (24, u "LOG2_ARRAY_DOUBLE_INDEX_SCALE"), (89, u "T_BOOLEAN"), (2, u "T_CHAR"), (1, u "T_FLOAT"), (1, u "T_DOUBLE"), (1, u "T_BYTE"), (1, u "T_SHORT"), (1, u "T_INT"), (1, u "T_LONG"), (1, u "SOFT_MAX_ARRAY_LENGTH")] 83

def k18m0 : Method := { name := "<init>", desc := "()V", sig := { parameters := [], returnType := none }, accessFlags := 2, code := none }
/-- jdk/internal/util/ArraysSupport -/
def k18 : Class := { plain "jdk/internal/util/ArraysSupport" (some 0) with
  accessFlags := 33
  interfaces := #[]
  cf := some (fileOf pool18 21 #[] #[{ accessFlags := 2, nameIndex := 9, descriptorIndex := 19, attributes := #[] }] 33 16 #[] #[{ accessFlags := 24, nameIndex := 28, descriptorIndex := 29, attributes := #[] }, { accessFlags := 26, nameIndex := 38, descriptorIndex := 39, attributes := #[] }, { accessFlags := 25, nameIndex := 121, descriptorIndex := 25, attributes := #[] }, { accessFlags := 25, nameIndex := 131, descriptorIndex := 25, attributes := #[] }, { accessFlags := 25, nameIndex := 137, descriptorIndex := 25, attributes := #[] }, { accessFlags := 25, nameIndex := 143, descriptorIndex := 25, attributes := #[] }, { accessFlags := 25, nameIndex := 53, descriptorIndex := 25, attributes := #[] }, { accessFlags := 25, nameIndex := 24, descriptorIndex := 25, attributes := #[] }, { accessFlags := 25, nameIndex := 162, descriptorIndex := 25, attributes := #[] }, { accessFlags := 25, nameIndex := 187, descriptorIndex := 25, attributes := #[] }, { accessFlags := 26, nameIndex := 48, descriptorIndex := 25, attributes := #[] }, { accessFlags := 25, nameIndex := 277, descriptorIndex := 25, attributes := #[] }, { accessFlags := 25, nameIndex := 280, descriptorIndex := 25, attributes := #[] }, { accessFlags := 25, nameIndex := 282, descriptorIndex := 25, attributes := #[] }, { accessFlags := 25, nameIndex := 284, descriptorIndex := 25, attributes := #[] }, { accessFlags := 25, nameIndex := 286, descriptorIndex := 25, attributes := #[] }, { accessFlags := 25, nameIndex := 288, descriptorIndex := 25, attributes := #[] }, { accessFlags := 25, nameIndex := 290, descriptorIndex := 25, attributes := #[] }, { accessFlags := 25, nameIndex := 292, descriptorIndex := 25, attributes := #[] }, { accessFlags := 26, nameIndex := 108, descriptorIndex := 109, attributes := #[] }, { accessFlags := 25, nameIndex := 294, descriptorIndex := 25, attributes := #[] }])
  fields := #[{ name := "U", type := (.object "jdk/internal/misc/Unsafe"), accessFlags := 24, slot := 0, constantValue := 0 }, { name := "BIG_ENDIAN", type := .boolean, accessFlags := 26, slot := 1, constantValue := 0 }, { name := "LOG2_ARRAY_BOOLEAN_INDEX_SCALE", type := .int, accessFlags := 25, slot := 2, constantValue := 0 }, { name := "LOG2_ARRAY_BYTE_INDEX_SCALE", type := .int, accessFlags := 25, slot := 3, constantValue := 0 }, { name := "LOG2_ARRAY_CHAR_INDEX_SCALE", type := .int, accessFlags := 25, slot := 4, constantValue := 0 }, { name := "LOG2_ARRAY_SHORT_INDEX_SCALE", type := .int, accessFlags := 25, slot := 5, constantValue := 0 }, { name := "LOG2_ARRAY_INT_INDEX_SCALE", type := .int, accessFlags := 25, slot := 6, constantValue := 0 }, { name := "LOG2_ARRAY_LONG_INDEX_SCALE", type := .int, accessFlags := 25, slot := 7, constantValue := 0 }, { name := "LOG2_ARRAY_FLOAT_INDEX_SCALE", type := .int, accessFlags := 25, slot := 8, constantValue := 0 }, { name := "LOG2_ARRAY_DOUBLE_INDEX_SCALE", type := .int, accessFlags := 25, slot := 9, constantValue := 0 }, { name := "LOG2_BYTE_BIT_SIZE", type := .int, accessFlags := 26, slot := 10, constantValue := 0 }, { name := "T_BOOLEAN", type := .int, accessFlags := 25, slot := 11, constantValue := 0 }, { name := "T_CHAR", type := .int, accessFlags := 25, slot := 12, constantValue := 0 }, { name := "T_FLOAT", type := .int, accessFlags := 25, slot := 13, constantValue := 0 }, { name := "T_DOUBLE", type := .int, accessFlags := 25, slot := 14, constantValue := 0 }, { name := "T_BYTE", type := .int, accessFlags := 25, slot := 15, constantValue := 0 }, { name := "T_SHORT", type := .int, accessFlags := 25, slot := 16, constantValue := 0 }, { name := "T_INT", type := .int, accessFlags := 25, slot := 17, constantValue := 0 }, { name := "T_LONG", type := .int, accessFlags := 25, slot := 18, constantValue := 0 }, { name := "JLA", type := (.object "jdk/internal/access/JavaLangAccess"), accessFlags := 26, slot := 19, constantValue := 0 }, { name := "SOFT_MAX_ARRAY_LENGTH", type := .int, accessFlags := 25, slot := 20, constantValue := 0 }]
  methods := #[k18m0]
  instanceTypes := #[]
  staticTypes := #[(.object "jdk/internal/misc/Unsafe"), .boolean, .int, .int, .int, .int, .int, .int, .int, .int, .int, .int, .int, .int, .int, .int, .int, .int, .int, (.object "jdk/internal/access/JavaLangAccess"), .int]
  resolved := Array.replicate 378 none
  statics := none }

def pool19 : Array CpInfo := pool [(1, u "java/lang/Cloneable"), (0, .class_ 1), (0, u "java/lang/Object"), (0, .class_ 3)] 3

/-- java/lang/Cloneable -/
def k19 : Class := { plain "java/lang/Cloneable" (some 0) with
  accessFlags := 1537
  interfaces := #[]
  cf := some (fileOf pool19 2 #[] #[] 1537 4 #[] #[])
  fields := #[]
  methods := #[]
  instanceTypes := #[]
  staticTypes := #[]
  resolved := Array.replicate 8 none
  statics := none }

/-- the primitive byte -/
def k20 : Class := { plain "byte" none with kind := .primitive 'B', accessFlags := 0x411 }
/-- [B -/
def k21 : Class := { plain "[B" (some 0) with kind := .array 20 .byte, interfaces := #[19, 2], accessFlags := 1041 }

/-- the primitive char -/
def k22 : Class := { plain "char" none with kind := .primitive 'C', accessFlags := 0x411 }
/-- [C -/
def k23 : Class := { plain "[C" (some 0) with kind := .array 22 .char, interfaces := #[19, 2], accessFlags := 1041 }

/-- the primitive int -/
def k24 : Class := { plain "int" none with kind := .primitive 'I', accessFlags := 0x411 }
/-- [I -/
def k25 : Class := { plain "[I" (some 0) with kind := .array 24 .int, interfaces := #[19, 2], accessFlags := 1041 }

def heap : Heap := #[{ cls := 7, slots := #[.long 0, .int 1, .null, .int 0, .null, .int 0, .int 0], vm := .statics 7 },
  { cls := 17, slots := #[.null, .null, .null], vm := .statics 17 }]
def classes : Array Class := #[k0, k1, k2, k3, k4, k5, k6, k7, k8, k9, k10, k11, k12, k13, k14, k15, k16, k17, k18, k19, k20, k21, k22, k23, k24, k25]
def interned : List (Array UInt16 × Addr) := []
def slotsUsed : Nat := 10
def theMethod : MethodId := ⟨1, 2⟩
def args0 : Array Value := #[.int 5, .int 7, .int 1, .int 3]
def aboutOver (below : List Frame) : State where
  vm := { classes := classes, interned := interned.toArray }
  heap := heap
  slotsUsed := slotsUsed
  threads := #[{ frames := .invoking theMethod args0 :: below }]
def below0 : List Frame := [.native { method := ⟨0, 0⟩, args := #[] }]
def about1 : State := aboutOver below0
def p0 : Program := .bare "" "" ""
def e0 : Env := launch0.env 0 0 0
theorem w_frames : about1.frames = Frame.invoking theMethod args0 :: below0 := rfl
set_option maxRecDepth 65536 in
theorem w_args : argsFit about1.vm theMethod args0 = true := by decide +kernel
set_option maxRecDepth 65536 in
theorem w_heap : heapFits about1 = true := by decide +kernel
set_option maxRecDepth 65536 in
theorem w_runnable : about1.curStatus? = some .runnable := by decide +kernel
set_option maxRecDepth 65536 in
theorem w_alone : about1.alone = true := by decide +kernel
set_option maxRecDepth 65536 in
theorem w_named : about1.methodNamed? x = some theMethod := by decide +kernel
set_option maxRecDepth 65536 in
theorem w_hears : about1.hears theMethod below0 = true := by decide +kernel
set_option maxRecDepth 65536 in
theorem w_ripe : about1.ripe theMethod args0 below0 = true := by decide +kernel
theorem w_running : about1.status = .running := rfl
set_option maxRecDepth 65536 in
theorem w_room : about1.hasRoom e0.platform room_1 = true :=
  launch0.hasRoom_least _ room_1 (by decide +kernel) (by decide +kernel) (by decide +kernel) (by decide +kernel) (by decide +kernel) (by decide +kernel)
theorem allAtoms_all (ts : List Jvm.Cond) (a : Array Jvm.Value) (st : Jvm.State) : (allAtoms ts).before a st = ts.all (fun c => c.before a st) := by
  induction ts with
  | nil => rfl
  | cons c t ih =>
    show (Jvm.Cond.and c (allAtoms t)).before a st = _
    rw [Jvm.Cond.before_and, ih, List.all_cons]
def words1 : List Jvm.Cond := Jvm.Cond.code x code maxLocals ret :: tables_1
/-- a 'code' word, met by the world's own term for the bytes: nothing is compared byte by byte -/
theorem code_word {y : MethodName} {bytes : ByteArray} {mx : Nat} {rt : Option FieldType} {a : Array Value} {s : State} {m : MethodId} {meth : Method} {c : Code} (h1 : s.methodNamed? y = some m) (h2 : s.vm.method? m = some meth) (h3 : meth.code = some c) (h4 : c.code = bytes)
    (h5 : (c.maxLocals == mx && c.exceptionTable.isEmpty && decide (c.maxStack ≤ mostOperands) && decide (meth.sig.returnType = rt) && !meth.locks && decide (parseMethodDescriptor y.desc = some meth.sig)) = true) : (Jvm.Cond.code y bytes mx rt).before a s = true := by
  simp only [Bool.and_eq_true, beq_iff_eq, Bool.not_eq_true', decide_eq_true_eq] at h5
  obtain ⟨⟨⟨⟨⟨g1, g2⟩, g3⟩, g4⟩, g5⟩, g6⟩ := h5
  simp [Cond.before, Cond.holds, Cond.value, h1, h2, h3, h4, g1, g2, g3, g4, g5, g6]
def isCode : Jvm.Cond → Bool
  | .code _ _ _ _ => true
  | _ => false
theorem all_split {L : List Jvm.Cond} {P : Jvm.Cond → Bool} (h1 : L.all (fun c => isCode c || P c) = true) (h2 : ∀ c ∈ L.filter isCode, P c = true) : L.all P = true := by
  refine List.all_eq_true.mpr fun c hc => ?_
  have h := List.all_eq_true.mp h1 c hc
  rcases Bool.eq_false_or_eq_true (isCode c) with hi | hi
  · exact h2 c (List.mem_filter.mpr ⟨hc, hi⟩)
  · simpa [hi] using h
set_option maxRecDepth 65536 in
theorem w_c0 : (Jvm.Cond.code x code maxLocals ret).before args0 about1 = true := code_word (m := ⟨1, 2⟩) (meth := k1m2) (c := k1c2) (by decide +kernel) rfl rfl rfl (by decide +kernel)
set_option maxRecDepth 65536 in
theorem w_c1 : (Jvm.Cond.code ({ cls := "java/lang/String", name := "<init>", desc := "([C)V" } : Jvm.MethodName) jdk_42_method_3_code (2 : Nat) (Option.none : Option Jvm.ClassFile.FieldType)).before args0 about1 = true := code_word (m := ⟨7, 1⟩) (meth := k7m1) (c := k7c1) (by decide +kernel) rfl rfl rfl (by decide +kernel)
set_option maxRecDepth 65536 in
theorem w_c2 : (Jvm.Cond.code ({ cls := "java/lang/String", name := "<init>", desc := "([CIILjava/lang/Void;)V" } : Jvm.MethodName) jdk_42_method_149_code (6 : Nat) (Option.none : Option Jvm.ClassFile.FieldType)).before args0 about1 = true := code_word (m := ⟨7, 9⟩) (meth := k7m9) (c := k7c9) (by decide +kernel) rfl rfl rfl (by decide +kernel)
set_option maxRecDepth 65536 in
theorem w_c3 : (Jvm.Cond.code ({ cls := "java/lang/Object", name := "<init>", desc := "()V" } : Jvm.MethodName) object_method_1_code (1 : Nat) (Option.none : Option Jvm.ClassFile.FieldType)).before args0 about1 = true := code_word (m := ⟨0, 0⟩) (meth := k0m0) (c := k0c0) (by decide +kernel) rfl rfl rfl (by decide +kernel)
set_option maxRecDepth 65536 in
theorem w_c4 : (Jvm.Cond.code ({ cls := "java/lang/StringUTF16", name := "compress", desc := "([CII)[B" } : Jvm.MethodName) jdk_52_method_16_code (6 : Nat) (Option.some (Jvm.ClassFile.FieldType.array Jvm.ClassFile.FieldType.byte))).before args0 about1 = true := code_word (m := ⟨8, 2⟩) (meth := k8m2) (c := k8c2) (by decide +kernel) rfl rfl rfl (by decide +kernel)
set_option maxRecDepth 65536 in
theorem w_c5 : (Jvm.Cond.code ({ cls := "java/lang/StringUTF16", name := "compress", desc := "([CI[BII)I" } : Jvm.MethodName) jdk_52_method_21_code (7 : Nat) (Option.some Jvm.ClassFile.FieldType.int)).before args0 about1 = true := code_word (m := ⟨8, 3⟩) (meth := k8m3) (c := k8c3) (by decide +kernel) rfl rfl rfl (by decide +kernel)
set_option maxRecDepth 65536 in
theorem w_c6 : (Jvm.Cond.code ({ cls := "java/lang/StringUTF16", name := "coderFromArrayLen", desc := "([BI)B" } : Jvm.MethodName) jdk_52_method_15_code (2 : Nat) (Option.some Jvm.ClassFile.FieldType.byte)).before args0 about1 = true := code_word (m := ⟨8, 1⟩) (meth := k8m1) (c := k8c1) (by decide +kernel) rfl rfl rfl (by decide +kernel)
set_option maxRecDepth 65536 in
theorem w_c7 : (Jvm.Cond.code ({ cls := "com/example/tetrad/tetrad/generate/SourceText", name := "<init>", desc := "()V" } : Jvm.MethodName) prog_51_method_1_code (1 : Nat) (Option.none : Option Jvm.ClassFile.FieldType)).before args0 about1 = true := code_word (m := ⟨9, 0⟩) (meth := k9m0) (c := k9c0) (by decide +kernel) rfl rfl rfl (by decide +kernel)
set_option maxRecDepth 65536 in
theorem w_c8 : (Jvm.Cond.code ({ cls := "java/lang/StringBuilder", name := "<init>", desc := "()V" } : Jvm.MethodName) jdk_67_method_1_code (1 : Nat) (Option.none : Option Jvm.ClassFile.FieldType)).before args0 about1 = true := code_word (m := ⟨12, 0⟩) (meth := k12m0) (c := k12c0) (by decide +kernel) rfl rfl rfl (by decide +kernel)
set_option maxRecDepth 65536 in
theorem w_c9 : (Jvm.Cond.code ({ cls := "java/lang/AbstractStringBuilder", name := "<init>", desc := "(I)V" } : Jvm.MethodName) jdk_68_method_2_code (2 : Nat) (Option.none : Option Jvm.ClassFile.FieldType)).before args0 about1 = true := code_word (m := ⟨11, 1⟩) (meth := k11m1) (c := k11c1) (by decide +kernel) rfl rfl rfl (by decide +kernel)
set_option maxRecDepth 65536 in
theorem w_c10 : (Jvm.Cond.code ({ cls := "com/example/tetrad/tetrad/generate/SourceText", name := "line", desc := "(Ljava/lang/String;)Lcom/example/tetrad/tetrad/generate/SourceText;" } : Jvm.MethodName) prog_51_method_2_code (2 : Nat) (Option.some (Jvm.ClassFile.FieldType.object "com/example/tetrad/tetrad/generate/SourceText"))).before args0 about1 = true := code_word (m := ⟨9, 1⟩) (meth := k9m1) (c := k9c1) (by decide +kernel) rfl rfl rfl (by decide +kernel)
set_option maxRecDepth 65536 in
theorem w_c11 : (Jvm.Cond.code ({ cls := "java/lang/String", name := "isEmpty", desc := "()Z" } : Jvm.MethodName) jdk_42_method_55_code (1 : Nat) (Option.some Jvm.ClassFile.FieldType.boolean)).before args0 about1 = true := code_word (m := ⟨7, 4⟩) (meth := k7m4) (c := k7c4) (by decide +kernel) rfl rfl rfl (by decide +kernel)
set_option maxRecDepth 65536 in
theorem w_c12 : (Jvm.Cond.code ({ cls := "java/lang/String", name := "repeat", desc := "(I)Ljava/lang/String;" } : Jvm.MethodName) jdk_42_method_145_code (5 : Nat) (Option.some (Jvm.ClassFile.FieldType.object "java/lang/String"))).before args0 about1 = true := code_word (m := ⟨7, 6⟩) (meth := k7m6) (c := k7c6) (by decide +kernel) rfl rfl rfl (by decide +kernel)
set_option maxRecDepth 65536 in
theorem w_c13 : (Jvm.Cond.code ({ cls := "java/lang/StringBuilder", name := "append", desc := "(Ljava/lang/String;)Ljava/lang/StringBuilder;" } : Jvm.MethodName) jdk_67_method_7_code (2 : Nat) (Option.some (Jvm.ClassFile.FieldType.object "java/lang/StringBuilder"))).before args0 about1 = true := code_word (m := ⟨12, 1⟩) (meth := k12m1) (c := k12c1) (by decide +kernel) rfl rfl rfl (by decide +kernel)
set_option maxRecDepth 65536 in
theorem w_c14 : (Jvm.Cond.code ({ cls := "java/lang/AbstractStringBuilder", name := "append", desc := "(Ljava/lang/String;)Ljava/lang/AbstractStringBuilder;" } : Jvm.MethodName) jdk_68_method_22_code (3 : Nat) (Option.some (Jvm.ClassFile.FieldType.object "java/lang/AbstractStringBuilder"))).before args0 about1 = true := code_word (m := ⟨11, 4⟩) (meth := k11m4) (c := k11c4) (by decide +kernel) rfl rfl rfl (by decide +kernel)
set_option maxRecDepth 65536 in
theorem w_c15 : (Jvm.Cond.code ({ cls := "java/lang/String", name := "length", desc := "()I" } : Jvm.MethodName) jdk_42_method_54_code (1 : Nat) (Option.some Jvm.ClassFile.FieldType.int)).before args0 about1 = true := code_word (m := ⟨7, 3⟩) (meth := k7m3) (c := k7c3) (by decide +kernel) rfl rfl rfl (by decide +kernel)
set_option maxRecDepth 65536 in
theorem w_c16 : (Jvm.Cond.code ({ cls := "java/lang/String", name := "coder", desc := "()B" } : Jvm.MethodName) jdk_42_method_152_code (1 : Nat) (Option.some Jvm.ClassFile.FieldType.byte)).before args0 about1 = true := code_word (m := ⟨7, 12⟩) (meth := k7m12) (c := k7c12) (by decide +kernel) rfl rfl rfl (by decide +kernel)
set_option maxRecDepth 65536 in
theorem w_c17 : (Jvm.Cond.code ({ cls := "java/lang/AbstractStringBuilder", name := "ensureCapacityInternal", desc := "(I)V" } : Jvm.MethodName) jdk_68_method_9_code (3 : Nat) (Option.none : Option Jvm.ClassFile.FieldType)).before args0 about1 = true := code_word (m := ⟨11, 3⟩) (meth := k11m3) (c := k11c3) (by decide +kernel) rfl rfl rfl (by decide +kernel)
set_option maxRecDepth 65536 in
theorem w_c18 : (Jvm.Cond.code ({ cls := "java/lang/AbstractStringBuilder", name := "putStringAt", desc := "(ILjava/lang/String;)V" } : Jvm.MethodName) jdk_68_method_73_code (3 : Nat) (Option.none : Option Jvm.ClassFile.FieldType)).before args0 about1 = true := code_word (m := ⟨11, 9⟩) (meth := k11m9) (c := k11c9) (by decide +kernel) rfl rfl rfl (by decide +kernel)
set_option maxRecDepth 65536 in
theorem w_c19 : (Jvm.Cond.code ({ cls := "java/lang/AbstractStringBuilder", name := "inflateIfNeededFor", desc := "(Ljava/lang/String;)V" } : Jvm.MethodName) jdk_68_method_71_code (2 : Nat) (Option.none : Option Jvm.ClassFile.FieldType)).before args0 about1 = true := code_word (m := ⟨11, 8⟩) (meth := k11m8) (c := k11c8) (by decide +kernel) rfl rfl rfl (by decide +kernel)
set_option maxRecDepth 65536 in
theorem w_c20 : (Jvm.Cond.code ({ cls := "java/lang/String", name := "getBytes", desc := "([BIB)V" } : Jvm.MethodName) jdk_42_method_147_code (4 : Nat) (Option.none : Option Jvm.ClassFile.FieldType)).before args0 about1 = true := code_word (m := ⟨7, 8⟩) (meth := k7m8) (c := k7c8) (by decide +kernel) rfl rfl rfl (by decide +kernel)
set_option maxRecDepth 65536 in
theorem w_c21 : (Jvm.Cond.code ({ cls := "java/lang/StringBuilder", name := "append", desc := "(C)Ljava/lang/StringBuilder;" } : Jvm.MethodName) jdk_67_method_14_code (2 : Nat) (Option.some (Jvm.ClassFile.FieldType.object "java/lang/StringBuilder"))).before args0 about1 = true := code_word (m := ⟨12, 2⟩) (meth := k12m2) (c := k12c2) (by decide +kernel) rfl rfl rfl (by decide +kernel)
set_option maxRecDepth 65536 in
theorem w_c22 : (Jvm.Cond.code ({ cls := "java/lang/AbstractStringBuilder", name := "append", desc := "(C)Ljava/lang/AbstractStringBuilder;" } : Jvm.MethodName) jdk_68_method_31_code (2 : Nat) (Option.some (Jvm.ClassFile.FieldType.object "java/lang/AbstractStringBuilder"))).before args0 about1 = true := code_word (m := ⟨11, 5⟩) (meth := k11m5) (c := k11c5) (by decide +kernel) rfl rfl rfl (by decide +kernel)
set_option maxRecDepth 65536 in
theorem w_c23 : (Jvm.Cond.code ({ cls := "java/lang/AbstractStringBuilder", name := "isLatin1", desc := "()Z" } : Jvm.MethodName) jdk_68_method_68_code (1 : Nat) (Option.some Jvm.ClassFile.FieldType.boolean)).before args0 about1 = true := code_word (m := ⟨11, 7⟩) (meth := k11m7) (c := k11c7) (by decide +kernel) rfl rfl rfl (by decide +kernel)
set_option maxRecDepth 65536 in
theorem w_c24 : (Jvm.Cond.code ({ cls := "java/lang/StringLatin1", name := "canEncode", desc := "(C)Z" } : Jvm.MethodName) jdk_43_method_3_code (1 : Nat) (Option.some Jvm.ClassFile.FieldType.boolean)).before args0 about1 = true := code_word (m := ⟨14, 2⟩) (meth := k14m2) (c := k14c2) (by decide +kernel) rfl rfl rfl (by decide +kernel)
set_option maxRecDepth 65536 in
theorem w_c25 : (Jvm.Cond.code ({ cls := "com/example/tetrad/tetrad/generate/SourceText", name := "toString", desc := "()Ljava/lang/String;" } : Jvm.MethodName) prog_51_method_9_code (1 : Nat) (Option.some (Jvm.ClassFile.FieldType.object "java/lang/String"))).before args0 about1 = true := code_word (m := ⟨9, 4⟩) (meth := k9m4) (c := k9c4) (by decide +kernel) rfl rfl rfl (by decide +kernel)
set_option maxRecDepth 65536 in
theorem w_c26 : (Jvm.Cond.code ({ cls := "java/lang/StringBuilder", name := "toString", desc := "()Ljava/lang/String;" } : Jvm.MethodName) jdk_67_method_42_code (1 : Nat) (Option.some (Jvm.ClassFile.FieldType.object "java/lang/String"))).before args0 about1 = true := code_word (m := ⟨12, 3⟩) (meth := k12m3) (c := k12c3) (by decide +kernel) rfl rfl rfl (by decide +kernel)
set_option maxRecDepth 65536 in
theorem w_c27 : (Jvm.Cond.code ({ cls := "java/lang/String", name := "<init>", desc := "(Ljava/lang/StringBuilder;)V" } : Jvm.MethodName) jdk_42_method_53_code (2 : Nat) (Option.none : Option Jvm.ClassFile.FieldType)).before args0 about1 = true := code_word (m := ⟨7, 2⟩) (meth := k7m2) (c := k7c2) (by decide +kernel) rfl rfl rfl (by decide +kernel)
set_option maxRecDepth 65536 in
theorem w_c28 : (Jvm.Cond.code ({ cls := "java/lang/String", name := "<init>", desc := "(Ljava/lang/AbstractStringBuilder;Ljava/lang/Void;)V" } : Jvm.MethodName) jdk_42_method_150_code (5 : Nat) (Option.none : Option Jvm.ClassFile.FieldType)).before args0 about1 = true := code_word (m := ⟨7, 10⟩) (meth := k7m10) (c := k7c10) (by decide +kernel) rfl rfl rfl (by decide +kernel)
set_option maxRecDepth 65536 in
theorem w_c29 : (Jvm.Cond.code ({ cls := "java/lang/AbstractStringBuilder", name := "getValue", desc := "()[B" } : Jvm.MethodName) jdk_68_method_64_code (1 : Nat) (Option.some (Jvm.ClassFile.FieldType.array Jvm.ClassFile.FieldType.byte))).before args0 about1 = true := code_word (m := ⟨11, 6⟩) (meth := k11m6) (c := k11c6) (by decide +kernel) rfl rfl rfl (by decide +kernel)
set_option maxRecDepth 65536 in
theorem w_c30 : (Jvm.Cond.code ({ cls := "java/lang/StringBuilder", name := "length", desc := "()I" } : Jvm.MethodName) jdk_67_method_93_code (1 : Nat) (Option.some Jvm.ClassFile.FieldType.int)).before args0 about1 = true := code_word (m := ⟨12, 4⟩) (meth := k12m4) (c := k12c4) (by decide +kernel) rfl rfl rfl (by decide +kernel)
set_option maxRecDepth 65536 in
theorem w_c31 : (Jvm.Cond.code ({ cls := "java/lang/AbstractStringBuilder", name := "length", desc := "()I" } : Jvm.MethodName) jdk_68_method_6_code (1 : Nat) (Option.some Jvm.ClassFile.FieldType.int)).before args0 about1 = true := code_word (m := ⟨11, 2⟩) (meth := k11m2) (c := k11c2) (by decide +kernel) rfl rfl rfl (by decide +kernel)
set_option maxRecDepth 65536 in
theorem w_c32 : (Jvm.Cond.code ({ cls := "java/util/Arrays", name := "copyOfRange", desc := "([BII)[B" } : Jvm.MethodName) jdk_65_method_132_code (3 : Nat) (Option.some (Jvm.ClassFile.FieldType.array Jvm.ClassFile.FieldType.byte))).before args0 about1 = true := code_word (m := ⟨15, 2⟩) (meth := k15m2) (c := k15c2) (by decide +kernel) rfl rfl rfl (by decide +kernel)
set_option maxRecDepth 65536 in
theorem w_c33 : (Jvm.Cond.code ({ cls := "java/util/Arrays", name := "copyOfRangeByte", desc := "([BII)[B" } : Jvm.MethodName) jdk_65_method_133_code (5 : Nat) (Option.some (Jvm.ClassFile.FieldType.array Jvm.ClassFile.FieldType.byte))).before args0 about1 = true := code_word (m := ⟨15, 3⟩) (meth := k15m3) (c := k15c3) (by decide +kernel) rfl rfl rfl (by decide +kernel)
set_option maxRecDepth 65536 in
theorem w_c34 : (Jvm.Cond.code ({ cls := "java/util/Arrays", name := "checkLength", desc := "(II)V" } : Jvm.MethodName) jdk_65_method_131_code (2 : Nat) (Option.none : Option Jvm.ClassFile.FieldType)).before args0 about1 = true := code_word (m := ⟨15, 1⟩) (meth := k15m1) (c := k15c1) (by decide +kernel) rfl rfl rfl (by decide +kernel)
set_option maxRecDepth 65536 in
theorem w_c35 : (Jvm.Cond.code ({ cls := "java/lang/Math", name := "min", desc := "(II)I" } : Jvm.MethodName) jdk_29_method_69_code (2 : Nat) (Option.some Jvm.ClassFile.FieldType.int)).before args0 about1 = true := code_word (m := ⟨16, 1⟩) (meth := k16m1) (c := k16c1) (by decide +kernel) rfl rfl rfl (by decide +kernel)
set_option maxRecDepth 65536 in
theorem w_c36 : (Jvm.Cond.code ({ cls := "com/example/tetrad/tetrad/generate/SourceTextIndentPinLaw", name := "at", desc := "(Ljava/lang/String;IIICC)Z" } : Jvm.MethodName) method_2_code (8 : Nat) (Option.some Jvm.ClassFile.FieldType.boolean)).before args0 about1 = true := code_word (m := ⟨1, 1⟩) (meth := k1m1) (c := k1c1) (by decide +kernel) rfl rfl rfl (by decide +kernel)
set_option maxRecDepth 65536 in
theorem w_c37 : (Jvm.Cond.code ({ cls := "java/lang/String", name := "charAt", desc := "(I)C" } : Jvm.MethodName) jdk_42_method_56_code (2 : Nat) (Option.some Jvm.ClassFile.FieldType.char)).before args0 about1 = true := code_word (m := ⟨7, 5⟩) (meth := k7m5) (c := k7c5) (by decide +kernel) rfl rfl rfl (by decide +kernel)
set_option maxRecDepth 65536 in
theorem w_c38 : (Jvm.Cond.code ({ cls := "java/lang/String", name := "isLatin1", desc := "()Z" } : Jvm.MethodName) jdk_42_method_154_code (1 : Nat) (Option.some Jvm.ClassFile.FieldType.boolean)).before args0 about1 = true := code_word (m := ⟨7, 13⟩) (meth := k7m13) (c := k7c13) (by decide +kernel) rfl rfl rfl (by decide +kernel)
set_option maxRecDepth 65536 in
theorem w_c39 : (Jvm.Cond.code ({ cls := "java/lang/StringLatin1", name := "charAt", desc := "([BI)C" } : Jvm.MethodName) jdk_43_method_2_code (2 : Nat) (Option.some Jvm.ClassFile.FieldType.char)).before args0 about1 = true := code_word (m := ⟨14, 1⟩) (meth := k14m1) (c := k14c1) (by decide +kernel) rfl rfl rfl (by decide +kernel)
set_option maxRecDepth 65536 in
theorem w_c40 : (Jvm.Cond.code ({ cls := "java/lang/String", name := "checkIndex", desc := "(II)V" } : Jvm.MethodName) jdk_42_method_155_code (2 : Nat) (Option.none : Option Jvm.ClassFile.FieldType)).before args0 about1 = true := code_word (m := ⟨7, 14⟩) (meth := k7m14) (c := k7c14) (by decide +kernel) rfl rfl rfl (by decide +kernel)
set_option maxRecDepth 65536 in
theorem w_c41 : (Jvm.Cond.code ({ cls := "jdk/internal/util/Preconditions", name := "checkIndex", desc := "(IILjava/util/function/BiFunction;)I" } : Jvm.MethodName) jdk_41_method_11_code (3 : Nat) (Option.some Jvm.ClassFile.FieldType.int)).before args0 about1 = true := code_word (m := ⟨17, 1⟩) (meth := k17m1) (c := k17c1) (by decide +kernel) rfl rfl rfl (by decide +kernel)
set_option maxRecDepth 65536 in
theorem w_c42 : (Jvm.Cond.code ({ cls := "com/example/tetrad/tetrad/generate/SourceText", name := "indent", desc := "()Lcom/example/tetrad/tetrad/generate/SourceText;" } : Jvm.MethodName) prog_51_method_5_code (1 : Nat) (Option.some (Jvm.ClassFile.FieldType.object "com/example/tetrad/tetrad/generate/SourceText"))).before args0 about1 = true := code_word (m := ⟨9, 2⟩) (meth := k9m2) (c := k9c2) (by decide +kernel) rfl rfl rfl (by decide +kernel)
set_option maxRecDepth 65536 in
theorem w_c43 : (Jvm.Cond.code ({ cls := "com/example/tetrad/tetrad/generate/SourceText", name := "dedent", desc := "()Lcom/example/tetrad/tetrad/generate/SourceText;" } : Jvm.MethodName) prog_51_method_6_code (1 : Nat) (Option.some (Jvm.ClassFile.FieldType.object "com/example/tetrad/tetrad/generate/SourceText"))).before args0 about1 = true := code_word (m := ⟨9, 3⟩) (meth := k9m3) (c := k9c3) (by decide +kernel) rfl rfl rfl (by decide +kernel)
set_option maxRecDepth 65536 in
theorem w_c44 : (Jvm.Cond.code ({ cls := "java/lang/String", name := "repeatCopyRest", desc := "([BIII)V" } : Jvm.MethodName) jdk_42_method_146_code (4 : Nat) (Option.none : Option Jvm.ClassFile.FieldType)).before args0 about1 = true := code_word (m := ⟨7, 7⟩) (meth := k7m7) (c := k7c7) (by decide +kernel) rfl rfl rfl (by decide +kernel)
set_option maxRecDepth 65536 in
theorem w_c45 : (Jvm.Cond.code ({ cls := "java/lang/String", name := "<init>", desc := "([BB)V" } : Jvm.MethodName) jdk_42_method_151_code (3 : Nat) (Option.none : Option Jvm.ClassFile.FieldType)).before args0 about1 = true := code_word (m := ⟨7, 11⟩) (meth := k7m11) (c := k7c11) (by decide +kernel) rfl rfl rfl (by decide +kernel)
def codes1 : List Jvm.Cond := [Jvm.Cond.code x code maxLocals ret, Jvm.Cond.code ({ cls := "java/lang/String", name := "<init>", desc := "([C)V" } : Jvm.MethodName) jdk_42_method_3_code (2 : Nat) (Option.none : Option Jvm.ClassFile.FieldType), Jvm.Cond.code ({ cls := "java/lang/String", name := "<init>", desc := "([CIILjava/lang/Void;)V" } : Jvm.MethodName) jdk_42_method_149_code (6 : Nat) (Option.none : Option Jvm.ClassFile.FieldType), Jvm.Cond.code ({ cls := "java/lang/Object", name := "<init>", desc := "()V" } : Jvm.MethodName) object_method_1_code (1 : Nat) (Option.none : Option Jvm.ClassFile.FieldType), Jvm.Cond.code ({ cls := "java/lang/StringUTF16", name := "compress", desc := "([CII)[B" } : Jvm.MethodName) jdk_52_method_16_code (6 : Nat) (Option.some (Jvm.ClassFile.FieldType.array Jvm.ClassFile.FieldType.byte)), Jvm.Cond.code ({ cls := "java/lang/StringUTF16", name := "compress", desc := "([CI[BII)I" } : Jvm.MethodName) jdk_52_method_21_code (7 : Nat) (Option.some Jvm.ClassFile.FieldType.int), Jvm.Cond.code ({ cls := "java/lang/StringUTF16", name := "coderFromArrayLen", desc := "([BI)B" } : Jvm.MethodName) jdk_52_method_15_code (2 : Nat) (Option.some Jvm.ClassFile.FieldType.byte), Jvm.Cond.code ({ cls := "com/example/tetrad/tetrad/generate/SourceText", name := "<init>", desc := "()V" } : Jvm.MethodName) prog_51_method_1_code (1 : Nat) (Option.none : Option Jvm.ClassFile.FieldType), Jvm.Cond.code ({ cls := "java/lang/StringBuilder", name := "<init>", desc := "()V" } : Jvm.MethodName) jdk_67_method_1_code (1 : Nat) (Option.none : Option Jvm.ClassFile.FieldType), Jvm.Cond.code ({ cls := "java/lang/AbstractStringBuilder", name := "<init>", desc := "(I)V" } : Jvm.MethodName) jdk_68_method_2_code (2 : Nat) (Option.none : Option Jvm.ClassFile.FieldType), Jvm.Cond.code ({ cls := "com/example/tetrad/tetrad/generate/SourceText", name := "line", desc := "(Ljava/lang/String;)Lcom/example/tetrad/tetrad/generate/SourceText;" } : Jvm.MethodName) prog_51_method_2_code (2 : Nat) (Option.some (Jvm.ClassFile.FieldType.object "com/example/tetrad/tetrad/generate/SourceText")), Jvm.Cond.code ({ cls := "java/lang/String", name := "isEmpty", desc := "()Z" } : Jvm.MethodName) jdk_42_method_55_code (1 : Nat) (Option.some Jvm.ClassFile.FieldType.boolean), Jvm.Cond.code ({ cls := "java/lang/String", name := "repeat", desc := "(I)Ljava/lang/String;" } : Jvm.MethodName) jdk_42_method_145_code (5 : Nat) (Option.some (Jvm.ClassFile.FieldType.object "java/lang/String")), Jvm.Cond.code ({ cls := "java/lang/StringBuilder", name := "append", desc := "(Ljava/lang/String;)Ljava/lang/StringBuilder;" } : Jvm.MethodName) jdk_67_method_7_code (2 : Nat) (Option.some (Jvm.ClassFile.FieldType.object "java/lang/StringBuilder")), Jvm.Cond.code ({ cls := "java/lang/AbstractStringBuilder", name := "append", desc := "(Ljava/lang/String;)Ljava/lang/AbstractStringBuilder;" } : Jvm.MethodName) jdk_68_method_22_code (3 : Nat) (Option.some (Jvm.ClassFile.FieldType.object "java/lang/AbstractStringBuilder")), Jvm.Cond.code ({ cls := "java/lang/String", name := "length", desc := "()I" } : Jvm.MethodName) jdk_42_method_54_code (1 : Nat) (Option.some Jvm.ClassFile.FieldType.int), Jvm.Cond.code ({ cls := "java/lang/String", name := "coder", desc := "()B" } : Jvm.MethodName) jdk_42_method_152_code (1 : Nat) (Option.some Jvm.ClassFile.FieldType.byte), Jvm.Cond.code ({ cls := "java/lang/AbstractStringBuilder", name := "ensureCapacityInternal", desc := "(I)V" } : Jvm.MethodName) jdk_68_method_9_code (3 : Nat) (Option.none : Option Jvm.ClassFile.FieldType), Jvm.Cond.code ({ cls := "java/lang/AbstractStringBuilder", name := "putStringAt", desc := "(ILjava/lang/String;)V" } : Jvm.MethodName) jdk_68_method_73_code (3 : Nat) (Option.none : Option Jvm.ClassFile.FieldType), Jvm.Cond.code ({ cls := "java/lang/AbstractStringBuilder", name := "inflateIfNeededFor", desc := "(Ljava/lang/String;)V" } : Jvm.MethodName) jdk_68_method_71_code (2 : Nat) (Option.none : Option Jvm.ClassFile.FieldType), Jvm.Cond.code ({ cls := "java/lang/String", name := "getBytes", desc := "([BIB)V" } : Jvm.MethodName) jdk_42_method_147_code (4 : Nat) (Option.none : Option Jvm.ClassFile.FieldType), Jvm.Cond.code ({ cls := "java/lang/StringBuilder", name := "append", desc := "(C)Ljava/lang/StringBuilder;" } : Jvm.MethodName) jdk_67_method_14_code (2 : Nat) (Option.some (Jvm.ClassFile.FieldType.object "java/lang/StringBuilder")), Jvm.Cond.code ({ cls := "java/lang/AbstractStringBuilder", name := "append", desc := "(C)Ljava/lang/AbstractStringBuilder;" } : Jvm.MethodName) jdk_68_method_31_code (2 : Nat) (Option.some (Jvm.ClassFile.FieldType.object "java/lang/AbstractStringBuilder")), Jvm.Cond.code ({ cls := "java/lang/AbstractStringBuilder", name := "isLatin1", desc := "()Z" } : Jvm.MethodName) jdk_68_method_68_code (1 : Nat) (Option.some Jvm.ClassFile.FieldType.boolean), Jvm.Cond.code ({ cls := "java/lang/StringLatin1", name := "canEncode", desc := "(C)Z" } : Jvm.MethodName) jdk_43_method_3_code (1 : Nat) (Option.some Jvm.ClassFile.FieldType.boolean), Jvm.Cond.code ({ cls := "com/example/tetrad/tetrad/generate/SourceText", name := "toString", desc := "()Ljava/lang/String;" } : Jvm.MethodName) prog_51_method_9_code (1 : Nat) (Option.some (Jvm.ClassFile.FieldType.object "java/lang/String")), Jvm.Cond.code ({ cls := "java/lang/StringBuilder", name := "toString", desc := "()Ljava/lang/String;" } : Jvm.MethodName) jdk_67_method_42_code (1 : Nat) (Option.some (Jvm.ClassFile.FieldType.object "java/lang/String")), Jvm.Cond.code ({ cls := "java/lang/String", name := "<init>", desc := "(Ljava/lang/StringBuilder;)V" } : Jvm.MethodName) jdk_42_method_53_code (2 : Nat) (Option.none : Option Jvm.ClassFile.FieldType), Jvm.Cond.code ({ cls := "java/lang/String", name := "<init>", desc := "(Ljava/lang/AbstractStringBuilder;Ljava/lang/Void;)V" } : Jvm.MethodName) jdk_42_method_150_code (5 : Nat) (Option.none : Option Jvm.ClassFile.FieldType), Jvm.Cond.code ({ cls := "java/lang/AbstractStringBuilder", name := "getValue", desc := "()[B" } : Jvm.MethodName) jdk_68_method_64_code (1 : Nat) (Option.some (Jvm.ClassFile.FieldType.array Jvm.ClassFile.FieldType.byte)), Jvm.Cond.code ({ cls := "java/lang/StringBuilder", name := "length", desc := "()I" } : Jvm.MethodName) jdk_67_method_93_code (1 : Nat) (Option.some Jvm.ClassFile.FieldType.int), Jvm.Cond.code ({ cls := "java/lang/AbstractStringBuilder", name := "length", desc := "()I" } : Jvm.MethodName) jdk_68_method_6_code (1 : Nat) (Option.some Jvm.ClassFile.FieldType.int), Jvm.Cond.code ({ cls := "java/util/Arrays", name := "copyOfRange", desc := "([BII)[B" } : Jvm.MethodName) jdk_65_method_132_code (3 : Nat) (Option.some (Jvm.ClassFile.FieldType.array Jvm.ClassFile.FieldType.byte)), Jvm.Cond.code ({ cls := "java/util/Arrays", name := "copyOfRangeByte", desc := "([BII)[B" } : Jvm.MethodName) jdk_65_method_133_code (5 : Nat) (Option.some (Jvm.ClassFile.FieldType.array Jvm.ClassFile.FieldType.byte)), Jvm.Cond.code ({ cls := "java/util/Arrays", name := "checkLength", desc := "(II)V" } : Jvm.MethodName) jdk_65_method_131_code (2 : Nat) (Option.none : Option Jvm.ClassFile.FieldType), Jvm.Cond.code ({ cls := "java/lang/Math", name := "min", desc := "(II)I" } : Jvm.MethodName) jdk_29_method_69_code (2 : Nat) (Option.some Jvm.ClassFile.FieldType.int), Jvm.Cond.code ({ cls := "com/example/tetrad/tetrad/generate/SourceTextIndentPinLaw", name := "at", desc := "(Ljava/lang/String;IIICC)Z" } : Jvm.MethodName) method_2_code (8 : Nat) (Option.some Jvm.ClassFile.FieldType.boolean), Jvm.Cond.code ({ cls := "java/lang/String", name := "charAt", desc := "(I)C" } : Jvm.MethodName) jdk_42_method_56_code (2 : Nat) (Option.some Jvm.ClassFile.FieldType.char), Jvm.Cond.code ({ cls := "java/lang/String", name := "isLatin1", desc := "()Z" } : Jvm.MethodName) jdk_42_method_154_code (1 : Nat) (Option.some Jvm.ClassFile.FieldType.boolean), Jvm.Cond.code ({ cls := "java/lang/StringLatin1", name := "charAt", desc := "([BI)C" } : Jvm.MethodName) jdk_43_method_2_code (2 : Nat) (Option.some Jvm.ClassFile.FieldType.char), Jvm.Cond.code ({ cls := "java/lang/String", name := "checkIndex", desc := "(II)V" } : Jvm.MethodName) jdk_42_method_155_code (2 : Nat) (Option.none : Option Jvm.ClassFile.FieldType), Jvm.Cond.code ({ cls := "jdk/internal/util/Preconditions", name := "checkIndex", desc := "(IILjava/util/function/BiFunction;)I" } : Jvm.MethodName) jdk_41_method_11_code (3 : Nat) (Option.some Jvm.ClassFile.FieldType.int), Jvm.Cond.code ({ cls := "com/example/tetrad/tetrad/generate/SourceText", name := "indent", desc := "()Lcom/example/tetrad/tetrad/generate/SourceText;" } : Jvm.MethodName) prog_51_method_5_code (1 : Nat) (Option.some (Jvm.ClassFile.FieldType.object "com/example/tetrad/tetrad/generate/SourceText")), Jvm.Cond.code ({ cls := "com/example/tetrad/tetrad/generate/SourceText", name := "dedent", desc := "()Lcom/example/tetrad/tetrad/generate/SourceText;" } : Jvm.MethodName) prog_51_method_6_code (1 : Nat) (Option.some (Jvm.ClassFile.FieldType.object "com/example/tetrad/tetrad/generate/SourceText")), Jvm.Cond.code ({ cls := "java/lang/String", name := "repeatCopyRest", desc := "([BIII)V" } : Jvm.MethodName) jdk_42_method_146_code (4 : Nat) (Option.none : Option Jvm.ClassFile.FieldType), Jvm.Cond.code ({ cls := "java/lang/String", name := "<init>", desc := "([BB)V" } : Jvm.MethodName) jdk_42_method_151_code (3 : Nat) (Option.none : Option Jvm.ClassFile.FieldType)]
set_option maxRecDepth 65536 in
theorem codes_eq : words1.filter isCode = codes1 := rfl
theorem w_codes : ∀ c ∈ words1.filter isCode, c.before args0 about1 = true := by
  rw [codes_eq]
  intro c hc
  simp only [codes1, List.mem_cons, List.not_mem_nil, or_false] at hc
  rcases hc with rfl | rfl | rfl | rfl | rfl | rfl | rfl | rfl | rfl | rfl | rfl | rfl | rfl | rfl | rfl | rfl | rfl | rfl | rfl | rfl | rfl | rfl | rfl | rfl | rfl | rfl | rfl | rfl | rfl | rfl | rfl | rfl | rfl | rfl | rfl | rfl | rfl | rfl | rfl | rfl | rfl | rfl | rfl | rfl | rfl | rfl
  · exact w_c0
  · exact w_c1
  · exact w_c2
  · exact w_c3
  · exact w_c4
  · exact w_c5
  · exact w_c6
  · exact w_c7
  · exact w_c8
  · exact w_c9
  · exact w_c10
  · exact w_c11
  · exact w_c12
  · exact w_c13
  · exact w_c14
  · exact w_c15
  · exact w_c16
  · exact w_c17
  · exact w_c18
  · exact w_c19
  · exact w_c20
  · exact w_c21
  · exact w_c22
  · exact w_c23
  · exact w_c24
  · exact w_c25
  · exact w_c26
  · exact w_c27
  · exact w_c28
  · exact w_c29
  · exact w_c30
  · exact w_c31
  · exact w_c32
  · exact w_c33
  · exact w_c34
  · exact w_c35
  · exact w_c36
  · exact w_c37
  · exact w_c38
  · exact w_c39
  · exact w_c40
  · exact w_c41
  · exact w_c42
  · exact w_c43
  · exact w_c44
  · exact w_c45
set_option maxRecDepth 65536 in
theorem w_t1 : (words1.take 24).all (fun c => isCode c || c.before args0 about1) = true := by decide +kernel
set_option maxRecDepth 65536 in
theorem w_t2 : ((words1.drop 24).take 24).all (fun c => isCode c || c.before args0 about1) = true := by decide +kernel
set_option maxRecDepth 65536 in
theorem w_t3 : (((words1.drop 24).drop 24).take 24).all (fun c => isCode c || c.before args0 about1) = true := by decide +kernel
set_option maxRecDepth 65536 in
theorem w_t4 : ((((words1.drop 24).drop 24).drop 24).take 24).all (fun c => isCode c || c.before args0 about1) = true := by decide +kernel
set_option maxRecDepth 65536 in
theorem w_t5 : (((((words1.drop 24).drop 24).drop 24).drop 24).take 24).all (fun c => isCode c || c.before args0 about1) = true := by decide +kernel
set_option maxRecDepth 65536 in
theorem w_t6 : ((((((words1.drop 24).drop 24).drop 24).drop 24).drop 24).take 24).all (fun c => isCode c || c.before args0 about1) = true := by decide +kernel
set_option maxRecDepth 65536 in
theorem w_t7 : (((((((words1.drop 24).drop 24).drop 24).drop 24).drop 24).drop 24).take 24).all (fun c => isCode c || c.before args0 about1) = true := by decide +kernel
set_option maxRecDepth 65536 in
theorem w_t8 : ((((((((words1.drop 24).drop 24).drop 24).drop 24).drop 24).drop 24).drop 24).take 24).all (fun c => isCode c || c.before args0 about1) = true := by decide +kernel
set_option maxRecDepth 65536 in
theorem w_t9 : (((((((((words1.drop 24).drop 24).drop 24).drop 24).drop 24).drop 24).drop 24).drop 24).take 24).all (fun c => isCode c || c.before args0 about1) = true := by decide +kernel
set_option maxRecDepth 65536 in
theorem w_t10 : (((((((((words1.drop 24).drop 24).drop 24).drop 24).drop 24).drop 24).drop 24).drop 24).drop 24).all (fun c => isCode c || c.before args0 about1) = true := by decide +kernel
theorem w_tables : (allAtoms (Jvm.Cond.code x code maxLocals ret :: tables_1)).before args0 about1 = true := by
  rw [allAtoms_all]
  show words1.all (fun c => c.before args0 about1) = true
  refine all_split ?_ w_codes
  rw [← List.take_append_drop 24 words1, List.all_append, w_t1, ← List.take_append_drop 24 (words1.drop 24), List.all_append, w_t2, ← List.take_append_drop 24 ((words1.drop 24).drop 24), List.all_append, w_t3, ← List.take_append_drop 24 (((words1.drop 24).drop 24).drop 24), List.all_append, w_t4, ← List.take_append_drop 24 ((((words1.drop 24).drop 24).drop 24).drop 24), List.all_append, w_t5, ← List.take_append_drop 24 (((((words1.drop 24).drop 24).drop 24).drop 24).drop 24), List.all_append, w_t6, ← List.take_append_drop 24 ((((((words1.drop 24).drop 24).drop 24).drop 24).drop 24).drop 24), List.all_append, w_t7, ← List.take_append_drop 24 (((((((words1.drop 24).drop 24).drop 24).drop 24).drop 24).drop 24).drop 24), List.all_append, w_t8, ← List.take_append_drop 24 ((((((((words1.drop 24).drop 24).drop 24).drop 24).drop 24).drop 24).drop 24).drop 24), List.all_append, w_t9, w_t10]
  rfl
set_option maxRecDepth 65536 in
theorem w_rest : rest_1_c.before args0 about1 = true := by decide +kernel
set_option maxRecDepth 65536 in
theorem w_case : (Jvm.Cond.and given_1 narrow_1).before args0 about1 = true := by decide +kernel
set_option maxRecDepth 65536 in
theorem w_consts : constsHeld consts_1 about1 := Jvm.Lit.constsHeldB_iff.mp (by decide +kernel)
theorem w_applies : (headSpec (Jvm.Cond.code x code maxLocals ret :: tables_1) room_1).applies x e0.platform about1 = true :=
  (Spec.applies_iff w_frames).mpr ⟨w_running, w_runnable, w_alone, w_named, w_hears, w_ripe, w_room, w_tables⟩
theorem atStart : AtStart classFile x code maxLocals ret World_1 tables_1 room_1 Calls_1 rest_1 Pre_1 launch0 p0 e0 about1 theMethod args0 below0 :=
  ⟨lists_1, trivial, launch0.admits_env _ _ _, launch0.least_env, fairChoices_fair.cas, fairChoices_fair.clock, w_frames, w_args, w_heap, w_applies, ⟨w_consts, trivial⟩, w_rest, w_case⟩
end start1
theorem witness_1 : WitnessClaimed_1 := ⟨start1.p0, start1.e0, start1.about1, start1.theMethod, start1.args0, start1.below0, start1.atStart⟩
end Jvm.Pilot.@@N@@
