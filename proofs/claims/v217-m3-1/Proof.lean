import JvmDerived
import JvmDerived.Pilot.@@N@@Statement
import JvmDerived.Pilot.@@N@@Code
set_option linter.unusedVariables false
set_option linter.unusedSimpArgs false
@@BLOCK:NumsL.lean.txt@@
namespace Jvm.RoadKit
open Sem ClassFile Op Lib Jvm.Stand Jvm.Free Jvm.LawKit
theorem retI {p : Program} {l : Launch} {e : Env} {R : Room} {s : State} {m : MethodId} {args : Array Value} {below : List Frame} {meth : Method} {c : Code} {T : State} {locs : List Loc} {cells slots : Nat} (X : Stand p l e R s m args below meth c T locs cells slots) (hx : p.tables.exec = Jvm.exec) {pc : Nat} {Ls : Array Slot} {z : Int32} {rest : List Value} (hret : meth.sig.returnType = some .int) (hd : decode c.code pc = .ok (.ireturn, 1)) {fs : List Frame}
    (hl : ∀ (f : JFrame) (acts : List Action), f.method = m → f.locked = none → f.entered = [] → (doReturn e (T.setTop f) acts (some (.int z))).1 = T.setFrames fs) : Steps p.tables e below (T.setTop (mkF m pc Ls (.int z :: rest))) (T.setFrames fs) :=
  retOut X hx hret rfl (Or.inl ⟨rfl, Or.inl rfl, z, rfl⟩) hd hl
end Jvm.RoadKit
/- laws to paste: Road.backV, Road.eqW, Road.codOf (cut by pick.py; bodies as the Statement names them) -/
namespace Jvm.Pilot.@@N@@
namespace StrChars
open Jvm Sem ClassFile Op Lib Jvm.Stand Jvm.Free.XT Jvm.Free.ALB Jvm.Free.JM Jvm.Free
open Jvm.Lib.Cold (StaticIs)
/-- a char array whose places are chars -/
def Ch (a : Addr) (A : Cell) (U : State) : Prop := Arr .char a A U ∧ Typed .char A
theorem Ch.mv {a : Addr} {A : Cell} {U U' : State} (h : Ch a A U) (hal : U.vm.Alike U'.vm) (hh : U'.heap = U.heap) : Ch a A U' := ⟨h.1.mv hal hh, h.2⟩
theorem Ch.keep {a : Addr} {A : Cell} {U U' : State} (h : Ch a A U) (hal : U.vm.Alike U'.vm) (hk : U'.heap[a]? = some A) : Ch a A U' := ⟨h.1.keep hal hk, h.2⟩
/-- what place i of a char[]'s cell holds -/
def cv (A : Cell) (i : Nat) : Int32 := match A.slots[i]? with | some (.int x) => x | _ => 0
theorem Ch.get {a : Addr} {A : Cell} {U : State} (h : Ch a A U) {i : Nat} (hi : i < A.slots.size) : A.slots[i]? = some (.int (cv A i)) := by
  have e := Array.getElem?_eq_getElem hi
  have f := h.2 i _ e
  unfold cv; rw [e]
  generalize A.slots[i] = v at f
  cases v <;> simp [fits] at f ⊢
/-- the byte that i2b leaves of a char -/
def lo8 (x : Int32) : Int32 := x.toInt8.toInt32
theorem fits_lo8 (y : Int32) : fits .byte (.int (lo8 y)) = true := by
  have h1 := y.toInt8.le_toInt
  have h2 := y.toInt8.toInt_lt
  simp only [lo8, fits, Bool.and_eq_true, decide_eq_true_eq, Int32.le_iff_toInt_le, Int8.toInt_toInt32, show (-128 : Int32).toInt = -128 from by decide, show (127 : Int32).toInt = 127 from by decide]
  omega
/-- A' is A but that each place j of lo .. hi - 1 holds f j -/
def Laid (A A' : Cell) (lo hi : Nat) (f : Nat → Value) : Prop := A'.cls = A.cls ∧ A'.vm = A.vm ∧ A'.slots.size = A.slots.size ∧ ∀ i, A'.slots[i]? = if lo ≤ i ∧ i < hi then some (f i) else A.slots[i]?
theorem Laid.zero (A : Cell) (lo : Nat) (f : Nat → Value) : Laid A A lo (lo + 0) f := ⟨rfl, rfl, rfl, fun i => by rw [if_neg (by omega)]⟩
theorem Laid.step {A Ak : Cell} {lo k : Nat} {f : Nat → Value} {v : Value} (h : Laid A Ak lo k f) (hlo : lo ≤ k) (hk : k < Ak.slots.size) (hv : v = f k) : Laid A (Ak.setSlot k v) lo (k + 1) f := by
  refine ⟨h.1, h.2.1, by simpa [Cell.setSlot] using h.2.2.1, fun i => ?_⟩
  by_cases e : k = i
  · subst e; rw [Cell.slots_setSlot_self v hk, if_pos (by omega), hv]
  · rw [Cell.slots_setSlot_ne v e, h.2.2.2 i]
    by_cases q : lo ≤ i ∧ i < k
    · rw [if_pos q, if_pos (by omega)]
    · rw [if_neg q, if_neg (by omega)]
def U16 : String := "java/lang/StringUTF16"
namespace Cmp5
def yN : MethodName := ⟨"java/lang/StringUTF16", "compress", "([CI[BII)I"⟩
abbrev yB : ByteArray := jdk_52_method_21_code
theorem d0 : decode yB 0 = .ok (.iconst 0, 1) := by decide +kernel
theorem d1 : decode yB 1 = .ok (.istore 5, 2) := by decide +kernel
theorem d3 : decode yB 3 = .ok (.iload 5, 2) := by decide +kernel
theorem d5 : decode yB 5 = .ok (.iload 4, 2) := by decide +kernel
theorem d7 : decode yB 7 = .ok (.if_icmp (.ge) 37, 3) := by decide +kernel
theorem d10 : decode yB 10 = .ok (.aload_n 0, 1) := by decide +kernel
theorem d11 : decode yB 11 = .ok (.iload_n 1, 1) := by decide +kernel
theorem d12 : decode yB 12 = .ok (.caload, 1) := by decide +kernel
theorem d13 : decode yB 13 = .ok (.istore 6, 2) := by decide +kernel
theorem d15 : decode yB 15 = .ok (.iload 6, 2) := by decide +kernel
theorem d17 : decode yB 17 = .ok (.sipush 255, 3) := by decide +kernel
theorem d20 : decode yB 20 = .ok (.if_icmp (.le) 6, 3) := by decide +kernel
theorem d26 : decode yB 26 = .ok (.aload_n 2, 1) := by decide +kernel
theorem d27 : decode yB 27 = .ok (.iload_n 3, 1) := by decide +kernel
theorem d28 : decode yB 28 = .ok (.iload 6, 2) := by decide +kernel
theorem d30 : decode yB 30 = .ok (.i2b, 1) := by decide +kernel
theorem d31 : decode yB 31 = .ok (.bastore, 1) := by decide +kernel
theorem d32 : decode yB 32 = .ok (.iinc 1 1, 3) := by decide +kernel
theorem d35 : decode yB 35 = .ok (.iinc 3 1, 3) := by decide +kernel
theorem d38 : decode yB 38 = .ok (.iinc 5 1, 3) := by decide +kernel
theorem d41 : decode yB 41 = .ok (.goto (-38), 3) := by decide +kernel
theorem d44 : decode yB 44 = .ok (.iload 4, 2) := by decide +kernel
theorem d46 : decode yB 46 = .ok (.ireturn, 1) := by decide +kernel
def site : List Cond := []
def tab : Cond := tabOf yN yB 7 (some .int) site
def P (b : Addr) (A : Cell) (d : Addr) (B : Cell) (o q len : Nat) (args : Array Value) (s : State) : Prop := args = #[.ref b, .int (Int32.ofNat o), .ref d, .int (Int32.ofNat q), .int (Int32.ofNat len)] ∧ Ch b A s ∧ Arr .byte d B s ∧ b ≠ d ∧ o + len ≤ A.slots.size ∧ q + len ≤ B.slots.size ∧ ∀ i, i < len → ¬ 255 < cv A (o + i)
def E (b : Addr) (A : Cell) (d : Addr) (B : Cell) (o q len : Nat) (r : Option Value) (s u : State) : Prop := r = some (.int (Int32.ofNat len)) ∧ ∃ B', Put d B' s u ∧ Laid B B' q (q + len) (fun j => Value.int (lo8 (cv A (o + (j - q)))))
/-- no char of the range above 255: len; the places written hold each char's low byte -/
theorem law (l : Launch) (b : Addr) (A : Cell) (d : Addr) (B : Cell) (o q len : Nat) : Law l yN 5 5 0 0 yB 7 (some .int) site (P b A d B o q len) (E b A d B o q len) (copyLocs d q len) 0 0 := by
  refine Law.of_walk (plainFor_of_name (by decide +kernel)) (by decide +kernel) (by decide +kernel) (by decide) (fun _ _ h => by rw [h.1]; rfl) (fun _ U U' hal hh h => ⟨h.1, h.2.1.mv hal hh, h.2.2.1.mv hal hh, h.2.2.2⟩) (fun r U U' V V' h1 hal h2 h => ⟨h.1, h.2.elim fun B' q => ⟨B', q.1.mv h1 h2, q.2⟩⟩) ?_
  intro p e s m args below meth c s₁ X0 hexec hbytes hml hret hlk hnm hown hh0 W hP
  obtain ⟨rfl, hA, hB, hne, l1, l2, hp⟩ := hP
  have c1 : Steps p.tables e below (s₁.setTop (entryFrame m #[.ref b, .int (Int32.ofNat o), .ref d, .int (Int32.ofNat q), .int (Int32.ofNat len)] 7)) (s₁.setTop (mkF m 0 #[.val (.ref b), .val (.int (Int32.ofNat o)), .val (.ref d), .val (.int (Int32.ofNat q)), .val (.int (Int32.ofNat len)), .unset, .unset] [])) := entry rfl
  have hA0 := hA.1.mv X0.warmed.alike hh0
  have hB0 := hB.mv X0.warmed.alike hh0
  have a31 := hA.1.2.2.2
  have c2 : Steps p.tables e below (s₁.setTop (entryFrame m #[.ref b, .int (Int32.ofNat o), .ref d, .int (Int32.ofNat q), .int (Int32.ofNat len)] 7)) (s₁.setTop (mkF m 3 #[.val (.ref b), .val (.int (Int32.ofNat o)), .val (.ref d), .val (.int (Int32.ofNat q)), .val (.int (Int32.ofNat len)), .val (.int 0), .unset] [])) := c1.trans (by
    refine iconstV X0.here hexec rfl 0 (hb hbytes d0) (by decide) ?_
    refine XS.istore X0.here hexec rfl (hb hbytes d1) rfl rfl ?_
    exact Steps.refl _)
  have loop : ∀ (r i : Nat), i + r = len → ∀ (z : Slot), (z = .unset ∨ ∃ w, z = .val w ∧ w.category = 1) → ∀ (Tl : State) (Bk : Cell), Stand p l e { frames := 0, locals := 0, cells := 0, slots := 0 } s m #[.ref b, .int (Int32.ofNat o), .ref d, .int (Int32.ofNat q), .int (Int32.ofNat len)] below meth c Tl ([] ++ copyLocs d q i) 0 0 → Put d Bk s₁ Tl → Laid B Bk q (q + i) (fun j => Value.int (lo8 (cv A (o + (j - q))))) →
      Steps p.tables e below (s₁.setTop (entryFrame m #[.ref b, .int (Int32.ofNat o), .ref d, .int (Int32.ofNat q), .int (Int32.ofNat len)] 7)) (Tl.setTop (mkF m 3 #[.val (.ref b), .val (.int (Int32.ofNat (o + i))), .val (.ref d), .val (.int (Int32.ofNat (q + i))), .val (.int (Int32.ofNat len)), .val (.int (Int32.ofNat i)), z] [])) → ∃ (T' : State) (B' : Cell) (z' : Slot), Stand p l e { frames := 0, locals := 0, cells := 0, slots := 0 } s m #[.ref b, .int (Int32.ofNat o), .ref d, .int (Int32.ofNat q), .int (Int32.ofNat len)] below meth c T' ([] ++ copyLocs d q len) 0 0 ∧ Put d B' s₁ T' ∧ Laid B B' q (q + len) (fun j => Value.int (lo8 (cv A (o + (j - q))))) ∧
      Steps p.tables e below (s₁.setTop (entryFrame m #[.ref b, .int (Int32.ofNat o), .ref d, .int (Int32.ofNat q), .int (Int32.ofNat len)] 7)) (T'.setTop (mkF m 3 #[.val (.ref b), .val (.int (Int32.ofNat (o + len))), .val (.ref d), .val (.int (Int32.ofNat (q + len))), .val (.int (Int32.ofNat len)), .val (.int (Int32.ofNat len)), z'] [])) := by
    intro r
    induction r with
    | zero =>
      intro i hi z hz Tl Bk Xl pl fl cl
      have hil : i = len := by omega
      rw [hil] at Xl fl cl
      exact ⟨Tl, Bk, z, Xl, pl, fl, cl⟩
    | succ r ih =>
      intro i hi z hz Tl Bk Xl pl fl cl
      have all := X0.warmed.alike.symm.trans Xl.warmed.alike
      have hAl := hA0.keep all (pl.other hne hA0.1)
      have hBk := hB0.like all pl.1 fl.1 fl.2.1 fl.2.2.1
      have hlt : q + i < Bk.slots.size := by rw [fl.2.2.1]; omega
      have c3 : Steps p.tables e below (s₁.setTop (entryFrame m #[.ref b, .int (Int32.ofNat o), .ref d, .int (Int32.ofNat q), .int (Int32.ofNat len)] 7)) (Tl.setTop (mkF m 12 #[.val (.ref b), .val (.int (Int32.ofNat (o + i))), .val (.ref d), .val (.int (Int32.ofNat (q + i))), .val (.int (Int32.ofNat len)), .val (.int (Int32.ofNat i)), z] [.int (Int32.ofNat (o + i)), .ref b])) := cl.trans (by
        refine XS.iload Xl.here hexec rfl (hb hbytes d3) rfl ?_
        refine XS.iload Xl.here hexec rfl (hb hbytes d5) rfl ?_
        refine XS.icmpNo Xl.here hexec rfl (hb hbytes d7) rfl (ii_ge_f (lt32 (by omega) (by omega))) ?_
        refine XS.aloadN Xl.here hexec rfl (hb hbytes d10) rfl rfl ?_
        refine XS.iloadN Xl.here hexec rfl (hb hbytes d11) rfl ?_
        exact Steps.refl _)
      have c4 : Steps p.tables e below (s₁.setTop (entryFrame m #[.ref b, .int (Int32.ofNat o), .ref d, .int (Int32.ofNat q), .int (Int32.ofNat len)] 7)) (Tl.setTop (mkF m 13 #[.val (.ref b), .val (.int (Int32.ofNat (o + i))), .val (.ref d), .val (.int (Int32.ofNat (q + i))), .val (.int (Int32.ofNat len)), .val (.int (Int32.ofNat i)), z] [.int (cv A (o + i))])) := c3.trans (by
        refine Xl.aget hexec hAl rfl (hA.get (i := o + i) (by omega)) rfl rfl (hb hbytes d12) ?_
        exact Steps.refl _)
      have c5 : Steps p.tables e below (s₁.setTop (entryFrame m #[.ref b, .int (Int32.ofNat o), .ref d, .int (Int32.ofNat q), .int (Int32.ofNat len)] 7)) (Tl.setTop (mkF m 15 #[.val (.ref b), .val (.int (Int32.ofNat (o + i))), .val (.ref d), .val (.int (Int32.ofNat (q + i))), .val (.int (Int32.ofNat len)), .val (.int (Int32.ofNat i)), .val (.int (cv A (o + i)))] [])) := c4.trans (by
        refine XS.istoreS Xl.here hexec rfl (hb hbytes d13) rfl rfl hz ?_
        exact Steps.refl _)
      have c6 : Steps p.tables e below (s₁.setTop (entryFrame m #[.ref b, .int (Int32.ofNat o), .ref d, .int (Int32.ofNat q), .int (Int32.ofNat len)] 7)) (Tl.setTop (mkF m 31 #[.val (.ref b), .val (.int (Int32.ofNat (o + i))), .val (.ref d), .val (.int (Int32.ofNat (q + i))), .val (.int (Int32.ofNat len)), .val (.int (Int32.ofNat i)), .val (.int (cv A (o + i)))] [.int (lo8 (cv A (o + i))), .int (Int32.ofNat (q + i)), .ref d])) := c5.trans (by
        refine XS.iload Xl.here hexec rfl (hb hbytes d15) rfl ?_
        refine sipushV Xl.here hexec rfl 255 (hb hbytes d17) (by decide) ?_
        refine XS.icmpYes Xl.here hexec rfl (pc0 := 20) rfl (hb hbytes d20) rfl (ii_le_t (hp i (by omega))) (by decide) rfl ?_
        refine XS.aloadN Xl.here hexec rfl (hb hbytes d26) rfl rfl ?_
        refine XS.iloadN Xl.here hexec rfl (hb hbytes d27) rfl ?_
        refine XS.iload Xl.here hexec rfl (hb hbytes d28) rfl ?_
        refine i2b Xl.here hexec rfl (hb hbytes d30) rfl ?_
        exact Steps.refl _)
      obtain ⟨T7, X7, p7, st7⟩ := Xl.aput hexec hBk rfl hlt rfl (fits_lo8 (cv A (o + i))) (g := (mkF m 31 #[.val (.ref b), .val (.int (Int32.ofNat (o + i))), .val (.ref d), .val (.int (Int32.ofNat (q + i))), .val (.int (Int32.ofNat len)), .val (.int (Int32.ofNat i)), .val (.int (cv A (o + i)))] [.int (lo8 (cv A (o + i))), .int (Int32.ofNat (q + i)), .ref d])) rfl (rest := []) rfl (hb hbytes d31)
      have c8 : Steps p.tables e below (s₁.setTop (entryFrame m #[.ref b, .int (Int32.ofNat o), .ref d, .int (Int32.ofNat q), .int (Int32.ofNat len)] 7)) (T7.setTop (mkF m 32 #[.val (.ref b), .val (.int (Int32.ofNat (o + i))), .val (.ref d), .val (.int (Int32.ofNat (q + i))), .val (.int (Int32.ofNat len)), .val (.int (Int32.ofNat i)), .val (.int (cv A (o + i)))] [])) := c6.trans (st7 _ (Steps.refl _))
      have c9 : Steps p.tables e below (s₁.setTop (entryFrame m #[.ref b, .int (Int32.ofNat o), .ref d, .int (Int32.ofNat q), .int (Int32.ofNat len)] 7)) (T7.setTop (mkF m 3 #[.val (.ref b), .val (.int (Int32.ofNat (o + i) + 1)), .val (.ref d), .val (.int (Int32.ofNat (q + i) + 1)), .val (.int (Int32.ofNat len)), .val (.int (Int32.ofNat i + 1)), .val (.int (cv A (o + i)))] [])) := c8.trans (by
        refine iincV X7.here hexec rfl 1 (hb hbytes d32) (by decide) rfl rfl ?_
        refine iincV X7.here hexec rfl 1 (hb hbytes d35) (by decide) rfl rfl ?_
        refine iincV X7.here hexec rfl 1 (hb hbytes d38) (by decide) rfl rfl ?_
        refine XS.goto X7.here hexec rfl (pc0 := 41) rfl (hb hbytes d41) (by decide) rfl ?_
        exact Steps.refl _)
      have c10 : Steps p.tables e below (s₁.setTop (entryFrame m #[.ref b, .int (Int32.ofNat o), .ref d, .int (Int32.ofNat q), .int (Int32.ofNat len)] 7)) (T7.setTop (mkF m 3 #[.val (.ref b), .val (.int (Int32.ofNat (o + (i + 1)))), .val (.ref d), .val (.int (Int32.ofNat (q + (i + 1)))), .val (.int (Int32.ofNat len)), .val (.int (Int32.ofNat (i + 1))), .val (.int (cv A (o + i)))] [])) := by
        have := c9
        rw [succ32, succ32, succ32] at this
        exact this
      exact ih (i + 1) (by omega) _ (Or.inr ⟨_, rfl, rfl⟩) T7 _ (by rw [copyLocs_step, ← List.append_assoc]; exact X7) (pl.trans p7) (fl.step (by omega) hlt (by simp)) c10
  obtain ⟨T9, B9, z9, X9, p9, f9, g9⟩ := loop len 0 (by omega) .unset (Or.inl rfl) s₁ B (by simpa [copyLocs] using X0) ⟨hB0.1, fun _ _ => rfl, rfl⟩ (Laid.zero _ _ _) c2
  have c11 : Steps p.tables e below (s₁.setTop (entryFrame m #[.ref b, .int (Int32.ofNat o), .ref d, .int (Int32.ofNat q), .int (Int32.ofNat len)] 7)) (T9.setTop (mkF m 46 #[.val (.ref b), .val (.int (Int32.ofNat (o + len))), .val (.ref d), .val (.int (Int32.ofNat (q + len))), .val (.int (Int32.ofNat len)), .val (.int (Int32.ofNat len)), z9] [.int (Int32.ofNat len)])) := g9.trans (by
    refine XS.iload X9.here hexec rfl (hb hbytes d3) rfl ?_
    refine XS.iload X9.here hexec rfl (hb hbytes d5) rfl ?_
    refine XS.icmpYes X9.here hexec rfl (pc0 := 7) rfl (hb hbytes d7) rfl (ii_ge_t (nlt32 (by omega) (Nat.le_refl _))) (by decide) rfl ?_
    refine XS.iload X9.here hexec rfl (hb hbytes d44) rfl ?_
    exact Steps.refl _)
  exact ⟨T9, some (.int (Int32.ofNat len)), _, _, _, X9, by simp, rfl, rfl, (fun h => by cases h), ⟨rfl, B9, p9.from hh0, f9⟩, fun fs hl => c11.trans (X9.ireturnOut hexec hret rfl (Or.inl rfl) (hb hbytes d46) hl)⟩
end Cmp5
namespace Cmp3
def yN : MethodName := ⟨"java/lang/StringUTF16", "compress", "([CII)[B"⟩
abbrev yB : ByteArray := jdk_52_method_16_code
theorem d0 : decode yB 0 = .ok (.iload_n 2, 1) := by decide +kernel
theorem d1 : decode yB 1 = .ok (.newarray .byte, 2) := by decide +kernel
theorem d3 : decode yB 3 = .ok (.astore_n 3, 1) := by decide +kernel
theorem d4 : decode yB 4 = .ok (.aload_n 0, 1) := by decide +kernel
theorem d5 : decode yB 5 = .ok (.iload_n 1, 1) := by decide +kernel
theorem d6 : decode yB 6 = .ok (.aload_n 3, 1) := by decide +kernel
theorem d7 : decode yB 7 = .ok (.iconst 0, 1) := by decide +kernel
theorem d8 : decode yB 8 = .ok (.iload_n 2, 1) := by decide +kernel
theorem d9 : decode yB 9 = .ok (.invokestatic 115, 3) := by decide +kernel
theorem d12 : decode yB 12 = .ok (.istore 4, 2) := by decide +kernel
theorem d14 : decode yB 14 = .ok (.iload 4, 2) := by decide +kernel
theorem d16 : decode yB 16 = .ok (.iload_n 2, 1) := by decide +kernel
theorem d17 : decode yB 17 = .ok (.if_icmp (.eq) 40, 3) := by decide +kernel
theorem d57 : decode yB 57 = .ok (.aload_n 3, 1) := by decide +kernel
theorem d58 : decode yB 58 = .ok (.areturn, 1) := by decide +kernel
def site : List Cond := [.arrayClass .byte, Cmp5.tab] ++ staticW U16 115 Cmp5.yN
def tab : Cond := tabOf yN yB 6 (some (.array .byte)) site
def P (b : Addr) (A : Cell) (o len : Nat) (args : Array Value) (s : State) : Prop := args = #[.ref b, .int (Int32.ofNat o), .int (Int32.ofNat len)] ∧ Ch b A s ∧ o + len ≤ A.slots.size ∧ len ≤ 536870912 ∧ ∀ i, i < len → ¬ 255 < cv A (o + i)
def E (b : Addr) (A : Cell) (o len : Nat) (r : Option Value) (s u : State) : Prop := NewArr .byte "[B" len (fun j => .int (lo8 (cv A (o + j)))) r s u ∧ u.heap.size = s.heap.size + 1
/-- no char of the range above 255: a new byte[] of their low bytes -/
theorem law (l : Launch) (b : Addr) (A : Cell) (o len : Nat) : Law l yN 3 3 1 18 yB 6 (some (.array .byte)) site (P b A o len) (E b A o len) [] 1 len := by
  refine Law.of_walk (plainFor_of_name (by decide +kernel)) (by decide +kernel) (by decide +kernel) (by decide) (fun _ _ h => by rw [h.1]; rfl) (fun _ U U' hal hh h => ⟨h.1, h.2.1.mv hal hh, h.2.2⟩) (fun r U U' V V' h1 hal h2 h => ⟨NewArr.mv r U U' V V' h1 hal h2 h.1, by rw [h1, h2]; exact h.2⟩) ?_
  intro p e s m args below meth c s₁ X0 hexec hbytes hml hret hlk hnm hown hh0 W hP
  obtain ⟨rfl, hA, l1, l2, hp⟩ := hP
  have a31 := hA.1.2.2.2
  have c1 : Steps p.tables e below (s₁.setTop (entryFrame m #[.ref b, .int (Int32.ofNat o), .int (Int32.ofNat len)] 6)) (s₁.setTop (mkF m 0 #[.val (.ref b), .val (.int (Int32.ofNat o)), .val (.int (Int32.ofNat len)), .unset, .unset, .unset] [])) := entry rfl
  have c2 : Steps p.tables e below (s₁.setTop (entryFrame m #[.ref b, .int (Int32.ofNat o), .int (Int32.ofNat len)] 6)) (s₁.setTop (mkF m 1 #[.val (.ref b), .val (.int (Int32.ofNat o)), .val (.int (Int32.ofNat len)), .unset, .unset, .unset] [.int (Int32.ofNat len)])) := c1.trans (by
    refine XS.iloadN X0.here hexec rfl (hb hbytes d0) rfl ?_
    exact Steps.refl _)
  obtain ⟨T3, B3, X3, ba3, bs3, bv3, bh3, bf3, st3⟩ := X0.anew hexec (atype := .byte) (wk W (.arrayClass .byte)) rfl (by show len * 1 ≤ _; omega) (by omega) (g := (mkF m 1 #[.val (.ref b), .val (.int (Int32.ofNat o)), .val (.int (Int32.ofNat len)), .unset, .unset, .unset] [.int (Int32.ofNat len)])) rfl (hb hbytes d1) (rest := []) rfl (Nat.le_refl _) (by show 0 + len ≤ len; omega)
  rw [hh0] at ba3 st3
  have kp3 : XT.Kept s T3 := (XT.Kept.of_eq hh0).push bh3
  have hA3 := hA.keep X3.warmed.alike (kp3 _ _ hA.1.1)
  have hne : b ≠ s.heap.size := hA.1.ne
  have c4 : Steps p.tables e below (s₁.setTop (entryFrame m #[.ref b, .int (Int32.ofNat o), .int (Int32.ofNat len)] 6)) (T3.setTop (mkF m 3 #[.val (.ref b), .val (.int (Int32.ofNat o)), .val (.int (Int32.ofNat len)), .unset, .unset, .unset] [.ref s.heap.size])) := c2.trans (st3 _ (Steps.refl _))
  have c5 : Steps p.tables e below (s₁.setTop (entryFrame m #[.ref b, .int (Int32.ofNat o), .int (Int32.ofNat len)] 6)) (T3.setTop (mkF m 9 #[.val (.ref b), .val (.int (Int32.ofNat o)), .val (.int (Int32.ofNat len)), .val (.ref s.heap.size), .unset, .unset] [.int (Int32.ofNat len), .int 0, .ref s.heap.size, .int (Int32.ofNat o), .ref b])) := c4.trans (by
    refine XS.astoreN X3.here hexec rfl (hb hbytes d3) rfl rfl rfl ?_
    refine XS.aloadN X3.here hexec rfl (hb hbytes d4) rfl rfl ?_
    refine XS.iloadN X3.here hexec rfl (hb hbytes d5) rfl ?_
    refine XS.aloadN X3.here hexec rfl (hb hbytes d6) rfl rfl ?_
    refine iconstV X3.here hexec rfl 0 (hb hbytes d7) (by decide) ?_
    refine XS.iloadN X3.here hexec rfl (hb hbytes d8) rfl ?_
    exact Steps.refl _)
  obtain ⟨v6, T6, X6, E6, g6⟩ := X3.callS hexec (Cmp5.law l b A s.heap.size B3 o 0 len) hown (wks W (staticW U16 115 Cmp5.yN)) (wk W Cmp5.tab) (W := 0) (Nat.le_of_ble_eq_true rfl) (Nat.le_of_ble_eq_true rfl) (Nat.le_refl _) (by show 0 + len + 0 ≤ len; omega) (g := (mkF m 9 #[.val (.ref b), .val (.int (Int32.ofNat o)), .val (.int (Int32.ofNat len)), .val (.ref s.heap.size), .unset, .unset] [.int (Int32.ofNat len), .int (Int32.ofNat 0), .ref s.heap.size, .int (Int32.ofNat o), .ref b])) rfl (by rw [hml]; rfl) c5 (argsL := [.ref b, .int (Int32.ofNat o), .ref s.heap.size, .int (Int32.ofNat 0), .int (Int32.ofNat len)]) (rest := []) rfl rfl (by show 2 * 0 + 0 ≤ _; decide) (hb hbytes d9) (⟨rfl, hA3, ba3, hne, l1, by rw [bs3]; simp, hp⟩)
  obtain ⟨rfl, B6, p6, f6⟩ := E6
  have c7 : Steps p.tables e below (s₁.setTop (entryFrame m #[.ref b, .int (Int32.ofNat o), .int (Int32.ofNat len)] 6)) (T6.setTop (mkF m 12 #[.val (.ref b), .val (.int (Int32.ofNat o)), .val (.int (Int32.ofNat len)), .val (.ref s.heap.size), .unset, .unset] [.int (Int32.ofNat len)])) := g6
  have c8 : Steps p.tables e below (s₁.setTop (entryFrame m #[.ref b, .int (Int32.ofNat o), .int (Int32.ofNat len)] 6)) (T6.setTop (mkF m 58 #[.val (.ref b), .val (.int (Int32.ofNat o)), .val (.int (Int32.ofNat len)), .val (.ref s.heap.size), .val (.int (Int32.ofNat len)), .unset] [.ref s.heap.size])) := c7.trans (by
    refine XS.istore X6.here hexec rfl (hb hbytes d12) rfl rfl ?_
    refine XS.iload X6.here hexec rfl (hb hbytes d14) rfl ?_
    refine XS.iloadN X6.here hexec rfl (hb hbytes d16) rfl ?_
    refine XS.icmpYes X6.here hexec rfl (pc0 := 17) rfl (hb hbytes d17) rfl (ii_eq_t rfl) (by decide) rfl ?_
    refine XS.aloadN X6.here hexec rfl (hb hbytes d57) rfl rfl ?_
    exact Steps.refl _)
  have X8 := X6.wide (L' := []) (cells' := 1) (slots' := len) (fun x hx hlt => by
    simp only [List.nil_append, copyLocs, List.mem_map, List.mem_range] at hx
    obtain ⟨i, -, rfl⟩ := hx
    exact absurd hlt (Nat.lt_irrefl _)) (Nat.le_refl _) (by omega)
  exact ⟨T6, some (.ref s.heap.size), _, _, _, X8, rfl, rfl, rfl, (fun h => by cases h), ⟨⟨rfl, B6, ba3.like (X3.warmed.alike.symm.trans X6.warmed.alike) p6.1 f6.1 f6.2.1 f6.2.2.1, f6.2.1.trans bv3, by rw [X6.warmed.alike.findClass, f6.1]; exact bf3, by rw [f6.2.2.1, bs3]; simp, fun j hj => by rw [f6.2.2.2 j, if_pos (by omega)]; rfl, kp3.put p6 (Nat.le_refl _)⟩, by rw [p6.2.2, bh3, hh0]; simp⟩, fun fs hl => c8.trans (X8.areturnOut hexec rfl hret rfl (hb hbytes d58) hl)⟩
end Cmp3
namespace CodL
def yN : MethodName := ⟨"java/lang/StringUTF16", "coderFromArrayLen", "([BI)B"⟩
abbrev yB : ByteArray := jdk_52_method_15_code
theorem d0 : decode yB 0 = .ok (.iload_n 1, 1) := by decide +kernel
theorem d1 : decode yB 1 = .ok (.aload_n 0, 1) := by decide +kernel
theorem d2 : decode yB 2 = .ok (.arraylength, 1) := by decide +kernel
theorem d3 : decode yB 3 = .ok (.isub, 1) := by decide +kernel
theorem d4 : decode yB 4 = .ok (.bipush 31, 2) := by decide +kernel
theorem d6 : decode yB 6 = .ok (.iushr, 1) := by decide +kernel
theorem d7 : decode yB 7 = .ok (.i2b, 1) := by decide +kernel
theorem d8 : decode yB 8 = .ok (.ireturn, 1) := by decide +kernel
def site : List Cond := []
def tab : Cond := tabOf yN yB 2 (some .byte) site
def P (d : Addr) (B : Cell) (args : Array Value) (s : State) : Prop := args = #[.ref d, .int (Int32.ofNat B.slots.size)] ∧ Arr .byte d B s
def E (r : Option Value) (s u : State) : Prop := XT.PureE (some (.int 0)) r s u
/-- an array as long as the number of chars: LATIN1 -/
theorem law (l : Launch) (d : Addr) (B : Cell) : Law l yN 2 2 0 0 yB 2 (some .byte) site (P d B) E [] 0 0 := by
  refine Law.of_walk (plainFor_of_name (by decide +kernel)) (by decide +kernel) (by decide +kernel) (by decide) (fun _ _ h => by rw [h.1]; rfl) (fun _ U U' hal hh h => ⟨h.1, h.2.mv hal hh⟩) (fun r U U' V V' h1 hal h2 h => XT.PureE.mv r U U' V V' h1 hal h2 h) ?_
  intro p e s m args below meth c s₁ X0 hexec hbytes hml hret hlk hnm hown hh0 W hP
  obtain ⟨rfl, hB⟩ := hP
  have hB0 := hB.mv X0.warmed.alike hh0
  have c1 : Steps p.tables e below (s₁.setTop (entryFrame m #[.ref d, .int (Int32.ofNat B.slots.size)] 2)) (s₁.setTop (mkF m 0 #[.val (.ref d), .val (.int (Int32.ofNat B.slots.size))] [])) := entry rfl
  have c2 : Steps p.tables e below (s₁.setTop (entryFrame m #[.ref d, .int (Int32.ofNat B.slots.size)] 2)) (s₁.setTop (mkF m 2 #[.val (.ref d), .val (.int (Int32.ofNat B.slots.size))] [.ref d, .int (Int32.ofNat B.slots.size)])) := c1.trans (by
    refine XS.iloadN X0.here hexec rfl (hb hbytes d0) rfl ?_
    refine XS.aloadN X0.here hexec rfl (hb hbytes d1) rfl rfl ?_
    exact Steps.refl _)
  have c3 : Steps p.tables e below (s₁.setTop (entryFrame m #[.ref d, .int (Int32.ofNat B.slots.size)] 2)) (s₁.setTop (mkF m 8 #[.val (.ref d), .val (.int (Int32.ofNat B.slots.size))] [.int (lo8 (ushr (Int32.ofNat B.slots.size - Int32.ofNat B.slots.size) 31))])) := c2.trans (by
    refine X0.alen hexec hB0 rfl rfl (hb hbytes d2) ?_
    refine XS.isub X0.here hexec rfl (hb hbytes d3) rfl ?_
    refine bipushV X0.here hexec rfl 31 (hb hbytes d4) (by decide) ?_
    refine iushr X0.here hexec rfl (hb hbytes d6) rfl ?_
    refine i2b X0.here hexec rfl (hb hbytes d7) rfl ?_
    exact Steps.refl _)
  have e0 : lo8 (ushr (Int32.ofNat B.slots.size - Int32.ofNat B.slots.size) 31) = 0 := by rw [Int32.sub_self]; decide
  rw [e0] at c3
  exact ⟨s₁, some (.int 0), _, _, _, X0, rfl, rfl, rfl, (fun h => by cases h), ⟨rfl, hh0⟩, fun fs hl => c3.trans (X0.ireturnOut hexec hret rfl (Or.inr (Or.inr (Or.inl rfl))) (hb hbytes d8) hl)⟩
end CodL
/-- the String at a is Latin-1 over a new byte[] (the heap's one new cell): the low bytes of the len chars of A from o on; every cell but a is kept -/
def Got (a : Addr) (D : Cell) (fV fC : Field) (A : Cell) (o len : Nat) (r : Option Value) (s u : State) : Prop := r = none ∧ ∃ D' V : Cell, Blank "java/lang/String" a D' u ∧ Same D D' [fV.slot, fC.slot] ∧ D'.slots[fV.slot]? = some (.ref s.heap.size) ∧ D'.slots[fC.slot]? = some (.int 0) ∧ Arr .byte s.heap.size V u ∧ V.vm = .none ∧ u.vm.findClass "[B" = some V.cls ∧ V.slots.size = len ∧ (∀ j, j < len → V.slots[j]? = some (.int (lo8 (cv A (o + j))))) ∧ (∀ (y : Addr) (c : Cell), y ≠ a → s.heap[y]? = some c → u.heap[y]? = some c) ∧ u.heap.size = s.heap.size + 1
theorem Got.mv {a : Addr} {D A : Cell} {fV fC : Field} {o len : Nat} : ∀ r (U U' V V' : State), U'.heap = U.heap → V.vm.Alike V'.vm → V'.heap = V.heap → Got a D fV fC A o len r U V → Got a D fV fC A o len r U' V' :=
  fun r U U' V V' h1 hal h2 ⟨e0, D', X, a1, a2, a3, a4, a5, a6, a7, a8, a9, a10, a11⟩ => ⟨e0, D', X, a1.mv hal h2, a2, by rw [h1]; exact a3, a4, by rw [h1]; exact a5.mv hal h2, a6, by rw [hal.findClass]; exact a7, a8, a9, by rw [h1, h2]; exact a10, by rw [h1, h2]; exact a11⟩
namespace New4
def yN : MethodName := ⟨"java/lang/String", "<init>", "([CIILjava/lang/Void;)V"⟩
abbrev yB : ByteArray := jdk_42_method_149_code
theorem d0 : decode yB 0 = .ok (.aload_n 0, 1) := by decide +kernel
theorem d1 : decode yB 1 = .ok (.invokespecial 1, 3) := by decide +kernel
theorem d4 : decode yB 4 = .ok (.iload_n 3, 1) := by decide +kernel
theorem d5 : decode yB 5 = .ok (.ifCond (.ne) 22, 3) := by decide +kernel
theorem d27 : decode yB 27 = .ok (.getstatic 38, 3) := by decide +kernel
theorem d30 : decode yB 30 = .ok (.ifCond (.eq) 28, 3) := by decide +kernel
theorem d33 : decode yB 33 = .ok (.aload_n 1, 1) := by decide +kernel
theorem d34 : decode yB 34 = .ok (.iload_n 2, 1) := by decide +kernel
theorem d35 : decode yB 35 = .ok (.iload_n 3, 1) := by decide +kernel
theorem d36 : decode yB 36 = .ok (.invokestatic 177, 3) := by decide +kernel
theorem d39 : decode yB 39 = .ok (.astore 5, 2) := by decide +kernel
theorem d41 : decode yB 41 = .ok (.aload_n 0, 1) := by decide +kernel
theorem d42 : decode yB 42 = .ok (.aload 5, 2) := by decide +kernel
theorem d44 : decode yB 44 = .ok (.iload_n 3, 1) := by decide +kernel
theorem d45 : decode yB 45 = .ok (.invokestatic 47, 3) := by decide +kernel
theorem d48 : decode yB 48 = .ok (.putfield 15, 3) := by decide +kernel
theorem d51 : decode yB 51 = .ok (.aload_n 0, 1) := by decide +kernel
theorem d52 : decode yB 52 = .ok (.aload 5, 2) := by decide +kernel
theorem d54 : decode yB 54 = .ok (.putfield 9, 3) := by decide +kernel
theorem d57 : decode yB 57 = .ok (.return_, 1) := by decide +kernel
def site : List Cond := [.fieldLink "java/lang/String" 38 "java/lang/String" "COMPACT_STRINGS" "Z", Cmp3.tab, CodL.tab, .laysFinal "java/lang/String" "java/lang/String" "value" "[B", .fieldLink "java/lang/String" 9 "java/lang/String" "value" "[B", .laysFinal "java/lang/String" "java/lang/String" "coder" "B", .fieldLink "java/lang/String" 15 "java/lang/String" "coder" "B"] ++ objW "java/lang/String" 1 ++ staticW "java/lang/String" 177 Cmp3.yN ++ staticW "java/lang/String" 47 CodL.yN
def tab : Cond := tabOf yN yB 6 none site
def P (a : Addr) (D : Cell) (fV fC : Field) (b : Addr) (A : Cell) (z : Int32) (o len : Nat) (args : Array Value) (s : State) : Prop := args = #[.ref a, .ref b, .int (Int32.ofNat o), .int (Int32.ofNat len), .null] ∧ Blank "java/lang/String" a D s ∧ Found "java/lang/String" "value" "[B" fV s ∧ Found "java/lang/String" "coder" "B" fC s ∧ Ch b A s ∧ StaticIs s "java/lang/String" "COMPACT_STRINGS" "Z" (.int z) ∧ ¬ z = 0 ∧ 0 < len ∧ o + len ≤ A.slots.size ∧ len ≤ 536870912 ∧ ∀ i, i < len → ¬ 255 < cv A (o + i)
def E (a : Addr) (D : Cell) (fV fC : Field) (A : Cell) (o len : Nat) (r : Option Value) (s u : State) : Prop := Got a D fV fC A o len r s u
/-- len > 0, no char of the range above 255: a Latin-1 String of their low bytes -/
theorem law (l : Launch) (a : Addr) (D : Cell) (fV fC : Field) (b : Addr) (A : Cell) (z : Int32) (o len : Nat) : Law l yN 5 4 2 35 yB 6 none site (P a D fV fC b A z o len) (E a D fV fC A o len) [⟨a, fC.slot⟩, ⟨a, fV.slot⟩] 1 len := by
  refine Law.of_walk (plainFor_of_name (by decide +kernel)) (by decide +kernel) (by decide +kernel) (by decide) (fun _ _ h => by rw [h.1]; rfl) (fun _ U U' hal hh h => ⟨h.1, h.2.1.mv hal hh, h.2.2.1.al hal, h.2.2.2.1.al hal, h.2.2.2.2.1.mv hal hh, h.2.2.2.2.2.1.there hal hh, h.2.2.2.2.2.2⟩) (fun r U U' V V' h1 hal h2 h => Got.mv r U U' V V' h1 hal h2 h) ?_
  intro p e s m args below meth c s₁ X0 hexec hbytes hml hret hlk hnm hown hh0 W hP
  obtain ⟨rfl, hB, f1, f2, hA, s1, hz, l0, l1, l2, hp⟩ := hP
  have a31 := hA.1.2.2.2
  have c1 : Steps p.tables e below (s₁.setTop (entryFrame m #[.ref a, .ref b, .int (Int32.ofNat o), .int (Int32.ofNat len), .null] 6)) (s₁.setTop (mkF m 0 #[.val (.ref a), .val (.ref b), .val (.int (Int32.ofNat o)), .val (.int (Int32.ofNat len)), .val .null, .unset] [])) := entry rfl
  have c2 : Steps p.tables e below (s₁.setTop (entryFrame m #[.ref a, .ref b, .int (Int32.ofNat o), .int (Int32.ofNat len), .null] 6)) (s₁.setTop (mkF m 1 #[.val (.ref a), .val (.ref b), .val (.int (Int32.ofNat o)), .val (.int (Int32.ofNat len)), .val .null, .unset] [.ref a])) := c1.trans (by
    refine XS.aloadN X0.here hexec rfl (hb hbytes d0) rfl rfl ?_
    exact Steps.refl _)
  obtain ⟨T3, X3, q3, st3⟩ := X0.oinit hexec hown (wks W (objW "java/lang/String" 1)) (g := (mkF m 1 #[.val (.ref a), .val (.ref b), .val (.int (Int32.ofNat o)), .val (.int (Int32.ofNat len)), .val .null, .unset] [.ref a])) rfl (by rw [hml]; rfl) (rest := []) rfl (hb hbytes d1) (W := 0) (by show 2 * 0 + 0 ≤ _; decide) (Nat.le_of_ble_eq_true rfl) (Nat.le_of_ble_eq_true rfl)
  have hh3 := q3.trans hh0
  have c4 : Steps p.tables e below (s₁.setTop (entryFrame m #[.ref a, .ref b, .int (Int32.ofNat o), .int (Int32.ofNat len), .null] 6)) (T3.setTop (mkF m 27 #[.val (.ref a), .val (.ref b), .val (.int (Int32.ofNat o)), .val (.int (Int32.ofNat len)), .val .null, .unset] [])) := (c2.trans (st3 _ (Steps.refl _))).trans (by
    refine XS.iloadN X3.here hexec rfl (hb hbytes d4) rfl ?_
    refine XS.ifYes X3.here hexec rfl (pc0 := 5) rfl (hb hbytes d5) rfl (i0_ne_t (nz32 (by omega) l0)) (by decide) rfl ?_
    exact Steps.refl _)
  obtain ⟨T5, X5, q5, st5⟩ := X3.sget hexec hown (wk W (.fieldLink "java/lang/String" 38 "java/lang/String" "COMPACT_STRINGS" "Z")) s1 (fun _ _ h => by rw [hh3]; exact h) (g := (mkF m 27 #[.val (.ref a), .val (.ref b), .val (.int (Int32.ofNat o)), .val (.int (Int32.ofNat len)), .val .null, .unset] [])) rfl (hb hbytes d27)
  have hh5 := q5.trans hh3
  have c6 : Steps p.tables e below (s₁.setTop (entryFrame m #[.ref a, .ref b, .int (Int32.ofNat o), .int (Int32.ofNat len), .null] 6)) (T5.setTop (mkF m 30 #[.val (.ref a), .val (.ref b), .val (.int (Int32.ofNat o)), .val (.int (Int32.ofNat len)), .val .null, .unset] [.int z])) := c4.trans (st5 _ (Steps.refl _))
  have c7 : Steps p.tables e below (s₁.setTop (entryFrame m #[.ref a, .ref b, .int (Int32.ofNat o), .int (Int32.ofNat len), .null] 6)) (T5.setTop (mkF m 36 #[.val (.ref a), .val (.ref b), .val (.int (Int32.ofNat o)), .val (.int (Int32.ofNat len)), .val .null, .unset] [.int (Int32.ofNat len), .int (Int32.ofNat o), .ref b])) := c6.trans (by
    refine XS.ifNo X5.here hexec rfl (hb hbytes d30) rfl (i0_eq_f hz) ?_
    refine XS.aloadN X5.here hexec rfl (hb hbytes d33) rfl rfl ?_
    refine XS.iloadN X5.here hexec rfl (hb hbytes d34) rfl ?_
    refine XS.iloadN X5.here hexec rfl (hb hbytes d35) rfl ?_
    exact Steps.refl _)
  obtain ⟨v8, T8, X8, E8, g8⟩ := X5.callS hexec (Cmp3.law l b A o len) hown (wks W (staticW "java/lang/String" 177 Cmp3.yN)) (wk W Cmp3.tab) (W := 0) (Nat.le_of_ble_eq_true rfl) (Nat.le_of_ble_eq_true rfl) (Nat.le_refl _) (by show 0 + len ≤ len; omega) (g := (mkF m 36 #[.val (.ref a), .val (.ref b), .val (.int (Int32.ofNat o)), .val (.int (Int32.ofNat len)), .val .null, .unset] [.int (Int32.ofNat len), .int (Int32.ofNat o), .ref b])) rfl (by rw [hml]; rfl) c7 (argsL := [.ref b, .int (Int32.ofNat o), .int (Int32.ofNat len)]) (rest := []) rfl rfl (by show 2 * 0 + 0 ≤ _; decide) (hb hbytes d36) (⟨rfl, hA.mv X5.warmed.alike hh5, l1, l2, hp⟩)
  obtain ⟨e8, z8⟩ := E8
  obtain ⟨rfl, N, n1, n2, n3, n4, n5, n6⟩ := NewArr.mv _ T5 s _ _ hh5.symm (Vm.Alike.refl _) rfl e8
  rw [hh5] at z8
  have hB1 := hB.keep X8.warmed.alike (n6 _ _ hB.1)
  have hne : s.heap.size ≠ a := (Nat.ne_of_lt (Array.getElem?_eq_some_iff.mp hB.1).1).symm
  have c9 : Steps p.tables e below (s₁.setTop (entryFrame m #[.ref a, .ref b, .int (Int32.ofNat o), .int (Int32.ofNat len), .null] 6)) (T8.setTop (mkF m 39 #[.val (.ref a), .val (.ref b), .val (.int (Int32.ofNat o)), .val (.int (Int32.ofNat len)), .val .null, .unset] [.ref s.heap.size])) := g8
  have c10 : Steps p.tables e below (s₁.setTop (entryFrame m #[.ref a, .ref b, .int (Int32.ofNat o), .int (Int32.ofNat len), .null] 6)) (T8.setTop (mkF m 45 #[.val (.ref a), .val (.ref b), .val (.int (Int32.ofNat o)), .val (.int (Int32.ofNat len)), .val .null, .val (.ref s.heap.size)] [.int (Int32.ofNat N.slots.size), .ref s.heap.size, .ref a])) := by
    have hc : Steps p.tables e below (s₁.setTop (entryFrame m #[.ref a, .ref b, .int (Int32.ofNat o), .int (Int32.ofNat len), .null] 6)) (T8.setTop (mkF m 45 #[.val (.ref a), .val (.ref b), .val (.int (Int32.ofNat o)), .val (.int (Int32.ofNat len)), .val .null, .val (.ref s.heap.size)] [.int (Int32.ofNat len), .ref s.heap.size, .ref a])) := c9.trans (by
      refine XS.astore X8.here hexec rfl (hb hbytes d39) rfl rfl rfl ?_
      refine XS.aloadN X8.here hexec rfl (hb hbytes d41) rfl rfl ?_
      refine XS.aload X8.here hexec rfl (hb hbytes d42) rfl rfl ?_
      refine XS.iloadN X8.here hexec rfl (hb hbytes d44) rfl ?_
      exact Steps.refl _)
    rw [n4]; exact hc
  obtain ⟨v11, T11, X11, E11, g11⟩ := X8.callS hexec (CodL.law l s.heap.size N) hown (wks W (staticW "java/lang/String" 47 CodL.yN)) (wk W CodL.tab) (W := 1) (Nat.le_of_ble_eq_true rfl) (Nat.le_of_ble_eq_true rfl) (Nat.le_refl _) (by show 0 + len + 0 ≤ len; omega) (g := (mkF m 45 #[.val (.ref a), .val (.ref b), .val (.int (Int32.ofNat o)), .val (.int (Int32.ofNat len)), .val .null, .val (.ref s.heap.size)] [.int (Int32.ofNat N.slots.size), .ref s.heap.size, .ref a])) rfl (by rw [hml]; rfl) c10 (argsL := [.ref s.heap.size, .int (Int32.ofNat N.slots.size)]) (rest := [.ref a]) rfl rfl (by show 2 * 0 + (1 + 0) ≤ _; decide) (hb hbytes d45) (⟨rfl, n1⟩)
  obtain ⟨rfl, q11⟩ := E11
  have hB11 := hB1.mv (X8.warmed.alike.symm.trans X11.warmed.alike) q11
  have c12 : Steps p.tables e below (s₁.setTop (entryFrame m #[.ref a, .ref b, .int (Int32.ofNat o), .int (Int32.ofNat len), .null] 6)) (T11.setTop (mkF m 48 #[.val (.ref a), .val (.ref b), .val (.int (Int32.ofNat o)), .val (.int (Int32.ofNat len)), .val .null, .val (.ref s.heap.size)] [.int 0, .ref a])) := g11
  obtain ⟨T13, X13, p13, bl13, sl13, st13⟩ := X11.finit hexec hown (wk W (.fieldLink "java/lang/String" 15 "java/lang/String" "coder" "B")) (Or.inr ⟨_, (wk W (.laysFinal "java/lang/String" "java/lang/String" "coder" "B"))⟩) (Or.inl ⟨rfl, hnm⟩) f2 (Or.inl rfl) hB11 (t := .byte) (by decide +kernel) rfl (g := (mkF m 48 #[.val (.ref a), .val (.ref b), .val (.int (Int32.ofNat o)), .val (.int (Int32.ofNat len)), .val .null, .val (.ref s.heap.size)] [.int 0, .ref a])) rfl (rest := []) rfl (hb hbytes d48)
  have c14 : Steps p.tables e below (s₁.setTop (entryFrame m #[.ref a, .ref b, .int (Int32.ofNat o), .int (Int32.ofNat len), .null] 6)) (T13.setTop (mkF m 54 #[.val (.ref a), .val (.ref b), .val (.int (Int32.ofNat o)), .val (.int (Int32.ofNat len)), .val .null, .val (.ref s.heap.size)] [.ref s.heap.size, .ref a])) := (c12.trans (st13 _ (Steps.refl _))).trans (by
    refine XS.aloadN X13.here hexec rfl (hb hbytes d51) rfl rfl ?_
    refine XS.aload X13.here hexec rfl (hb hbytes d52) rfl rfl ?_
    exact Steps.refl _)
  obtain ⟨T15, X15, p15, bl15, sl15, st15⟩ := X13.finit hexec hown (wk W (.fieldLink "java/lang/String" 9 "java/lang/String" "value" "[B")) (Or.inr ⟨_, (wk W (.laysFinal "java/lang/String" "java/lang/String" "value" "[B"))⟩) (Or.inl ⟨rfl, hnm⟩) f1 (Or.inl rfl) bl13 (t := (.array .byte)) (by decide +kernel) rfl (g := (mkF m 54 #[.val (.ref a), .val (.ref b), .val (.int (Int32.ofNat o)), .val (.int (Int32.ofNat len)), .val .null, .val (.ref s.heap.size)] [.ref s.heap.size, .ref a])) rfl (rest := []) rfl (hb hbytes d54)
  have c16 : Steps p.tables e below (s₁.setTop (entryFrame m #[.ref a, .ref b, .int (Int32.ofNat o), .int (Int32.ofNat len), .null] 6)) (T15.setTop (mkF m 57 #[.val (.ref a), .val (.ref b), .val (.int (Int32.ofNat o)), .val (.int (Int32.ofNat len)), .val .null, .val (.ref s.heap.size)] [])) := c14.trans (st15 _ (Steps.refl _))
  have ap := apart (Or.inr ⟨_, (wk W (.laysFinal "java/lang/String" "java/lang/String" "value" "[B"))⟩) (Or.inr ⟨_, (wk W (.laysFinal "java/lang/String" "java/lang/String" "coder" "B"))⟩) f1 f2 (t₁ := .array .byte) (t₂ := .byte) (by decide +kernel) (by decide +kernel) (by decide)
  have al := X8.warmed.alike.symm.trans X15.warmed.alike
  have n7 : T11.heap[s.heap.size]? = some N := by rw [q11]; exact n1.1
  exact ⟨T15, none, _, _, _, X15, by simp, rfl, by omega, (fun _ => rfl), ⟨rfl, _, N, bl15, ((Same.refl D _).set _ (by simp)).set _ (by simp), sl15, (Cell.slots_setSlot_ne _ ap).trans sl13, n1.keep al (p15.other hne (p13.other hne n7)), n2, by rw [al.findClass]; exact n3, n4, n5, fun y c h1 h2 => p15.other h1 (p13.other h1 (by rw [q11]; exact n6 y c h2)), by rw [p15.2.2, p13.2.2, q11]; exact z8⟩, fun fs hl => c16.trans (X15.returnOut hexec hret (hb hbytes d57) hl)⟩
end New4
namespace New1
def yN : MethodName := ⟨"java/lang/String", "<init>", "([C)V"⟩
abbrev yB : ByteArray := jdk_42_method_3_code
theorem d0 : decode yB 0 = .ok (.aload_n 0, 1) := by decide +kernel
theorem d1 : decode yB 1 = .ok (.aload_n 1, 1) := by decide +kernel
theorem d2 : decode yB 2 = .ok (.iconst 0, 1) := by decide +kernel
theorem d3 : decode yB 3 = .ok (.aload_n 1, 1) := by decide +kernel
theorem d4 : decode yB 4 = .ok (.arraylength, 1) := by decide +kernel
theorem d5 : decode yB 5 = .ok (.aconst_null, 1) := by decide +kernel
theorem d6 : decode yB 6 = .ok (.invokespecial 27, 3) := by decide +kernel
theorem d9 : decode yB 9 = .ok (.return_, 1) := by decide +kernel
def site : List Cond := [New4.tab] ++ initW "java/lang/String" 27 New4.yN
def tab : Cond := tabOf yN yB 2 none site
def P (a : Addr) (D : Cell) (fV fC : Field) (b : Addr) (A : Cell) (z : Int32) (args : Array Value) (s : State) : Prop := args = #[.ref a, .ref b] ∧ Blank "java/lang/String" a D s ∧ Found "java/lang/String" "value" "[B" fV s ∧ Found "java/lang/String" "coder" "B" fC s ∧ Ch b A s ∧ StaticIs s "java/lang/String" "COMPACT_STRINGS" "Z" (.int z) ∧ ¬ z = 0 ∧ 0 < A.slots.size ∧ A.slots.size ≤ 536870912 ∧ ∀ i, i < A.slots.size → ¬ 255 < cv A i
def E (a : Addr) (D : Cell) (fV fC : Field) (A : Cell) (r : Option Value) (s u : State) : Prop := Got a D fV fC A 0 A.slots.size r s u
/-- new String(chars), not empty, no char above 255: a Latin-1 String of their low bytes -/
theorem law (l : Launch) (a : Addr) (D : Cell) (fV fC : Field) (b : Addr) (A : Cell) (z : Int32) : Law l yN 2 1 3 52 yB 2 none site (P a D fV fC b A z) (E a D fV fC A) [⟨a, fC.slot⟩, ⟨a, fV.slot⟩] 1 A.slots.size := by
  refine Law.of_walk (plainFor_of_name (by decide +kernel)) (by decide +kernel) (by decide +kernel) (by decide) (fun _ _ h => by rw [h.1]; rfl) (fun _ U U' hal hh h => ⟨h.1, h.2.1.mv hal hh, h.2.2.1.al hal, h.2.2.2.1.al hal, h.2.2.2.2.1.mv hal hh, h.2.2.2.2.2.1.there hal hh, h.2.2.2.2.2.2⟩) (fun r U U' V V' h1 hal h2 h => Got.mv r U U' V V' h1 hal h2 h) ?_
  intro p e s m args below meth c s₁ X0 hexec hbytes hml hret hlk hnm hown hh0 W hP
  obtain ⟨rfl, hB, f1, f2, hA, s1, hz, l0, l2, hp⟩ := hP
  have c1 : Steps p.tables e below (s₁.setTop (entryFrame m #[.ref a, .ref b] 2)) (s₁.setTop (mkF m 0 #[.val (.ref a), .val (.ref b)] [])) := entry rfl
  have c2 : Steps p.tables e below (s₁.setTop (entryFrame m #[.ref a, .ref b] 2)) (s₁.setTop (mkF m 6 #[.val (.ref a), .val (.ref b)] [.null, .int (Int32.ofNat A.slots.size), .int 0, .ref b, .ref a])) := c1.trans (by
    refine XS.aloadN X0.here hexec rfl (hb hbytes d0) rfl rfl ?_
    refine XS.aloadN X0.here hexec rfl (hb hbytes d1) rfl rfl ?_
    refine iconstV X0.here hexec rfl 0 (hb hbytes d2) (by decide) ?_
    refine XS.aloadN X0.here hexec rfl (hb hbytes d3) rfl rfl ?_
    refine X0.alen hexec (hA.1.mv X0.warmed.alike hh0) rfl rfl (hb hbytes d4) ?_
    refine XS.aconstNull X0.here hexec rfl (hb hbytes d5) ?_
    exact Steps.refl _)
  obtain ⟨v3, T3, X3, E3, g3⟩ := X0.callN hexec (New4.law l a D fV fC b A z 0 A.slots.size) rfl hown (wks W (initW "java/lang/String" 27 New4.yN)) (W New4.tab (by simp only [site, List.mem_cons, List.mem_append, true_or, or_true])) (W := 0) (Nat.le_of_ble_eq_true rfl) (Nat.le_of_ble_eq_true rfl) (Nat.le_refl _) (by show 0 + A.slots.size ≤ A.slots.size; omega) (g := (mkF m 6 #[.val (.ref a), .val (.ref b)] [.null, .int (Int32.ofNat A.slots.size), .int (Int32.ofNat 0), .ref b, .ref a])) rfl (by rw [hml]; rfl) c2 (argsL := [.ref b, .int (Int32.ofNat 0), .int (Int32.ofNat A.slots.size), .null]) (rest := []) rfl rfl (by show 2 * 0 + 0 ≤ _; decide) (hb hbytes d6) (⟨rfl, hB.mv X0.warmed.alike hh0, f1.al X0.warmed.alike, f2.al X0.warmed.alike, hA.mv X0.warmed.alike hh0, s1.there X0.warmed.alike hh0, hz, l0, by omega, l2, fun i hi => by rw [Nat.zero_add]; exact hp i hi⟩)
  have e0 := Got.mv _ s₁ s _ _ hh0.symm (Vm.Alike.refl _) rfl E3
  obtain rfl := e0.1
  have c4 : Steps p.tables e below (s₁.setTop (entryFrame m #[.ref a, .ref b] 2)) (T3.setTop (mkF m 9 #[.val (.ref a), .val (.ref b)] [])) := g3
  exact ⟨T3, none, _, _, _, X3, by simp, rfl, by omega, (fun _ => rfl), e0, fun fs hl => c4.trans (X3.returnOut hexec hret (hb hbytes d9) hl)⟩
theorem pays {l : Launch} {R : Room} {p : Program} {e : Env} {below : List Frame} {s : State} {sargs : Array Value} {len W : Nat} (a : Addr) (D : Cell) (fV fC : Field) (b : Addr) (A : Cell) (z : Int32) (htab : tab.before sargs s = true) (hfr : 4 ≤ R.frames) (hlo : W + 65 ≤ R.locals) :
    Back l R p e below s sargs yN len W (fun A₁ a₁ => A₁.cells + 1 ≤ R.cells ∧ A₁.slots + A.slots.size ≤ R.slots ∧ P a D fV fC b A z a₁ A₁.U) (fun A₁ _ v₁ B₁ => E a D fV fC A v₁ A₁.U B₁.U ∧ B₁.locs = A₁.locs ++ [⟨a, fC.slot⟩, ⟨a, fV.slot⟩] ∧ B₁.cells = A₁.cells + 1 ∧ B₁.slots = A₁.slots + A.slots.size) :=
  (law l a D fV fC b A z).pays htab hfr (by omega)
end New1
/-- the byte, read back as charAt reads it, is the char -/
theorem lo8_mask {x : Int32} (h0 : ¬ x < 0) (h1 : ¬ 255 < x) : lo8 x &&& 255 = x := by
  have t : ∀ k : Fin 256, lo8 (Int32.ofNat k.val) &&& 255 = Int32.ofNat k.val := by decide +kernel
  rw [Int32.lt_iff_toInt_lt] at h0 h1
  have e0 : (0 : Int32).toInt = 0 := rfl
  have e1 : (255 : Int32).toInt = 255 := rfl
  obtain ⟨k, hk⟩ : ∃ k : Nat, x.toInt = k := ⟨x.toInt.toNat, by omega⟩
  have hx : x = Int32.ofNat k := Int32.toInt_inj.mp (by rw [hk, Int32.toInt_ofNat_small (by omega)])
  rw [hx]
  exact t ⟨k, by omega⟩
end StrChars
namespace StrChars.Road
open Jvm Sem ClassFile Op Lib Jvm.Stand Jvm.Free Jvm.Free.XT
open Jvm.Lib.Cold (StaticIs)
abbrev ST : String := "java/lang/String"
/-- every table word that New1's law asks, flat -/
abbrev words : List Jvm.Cond := [.code New1.yN New1.yB 2 none, .initialized ST, .methodLink ST 27 New4.yN, .instanceMethod New4.yN,
  .code New4.yN New4.yB 6 none, .fieldLink ST 38 ST "COMPACT_STRINGS" "Z", .laysFinal ST ST "value" "[B", .fieldLink ST 9 ST "value" "[B", .laysFinal ST ST "coder" "B", .fieldLink ST 15 ST "coder" "B",
  .methodLink ST 1 Lib.objectInit, .instanceMethod Lib.objectInit, .code Lib.objectInit ⟨#[0xb1]⟩ 1 none, .methodLink ST 177 Cmp3.yN, .static Cmp3.yN, .methodLink ST 47 CodL.yN, .static CodL.yN,
  .code Cmp3.yN Cmp3.yB 6 (some (.array .byte)), .initialized U16, .arrayClass .byte, .methodLink U16 115 Cmp5.yN, .static Cmp5.yN, .code Cmp5.yN Cmp5.yB 7 (some .int), .code CodL.yN CodL.yB 2 (some .byte)]
theorem tab_of {a : Array Value} {s : State} (h : ∀ w ∈ words, w.before a s = true) : New1.tab.before a s = true := by
  have h5 : Cmp5.tab.before a s = true := unparts (wk h (.code Cmp5.yN Cmp5.yB 7 (some .int))) (wks h (.initialized Cmp5.yN.cls :: Cmp5.site))
  have hc : CodL.tab.before a s = true := unparts (wk h (.code CodL.yN CodL.yB 2 (some .byte))) (wks h (.initialized CodL.yN.cls :: CodL.site))
  have q5 : ∀ w ∈ Cmp5.tab :: words, w.before a s = true := fun w hw => (List.mem_cons.mp hw).elim (fun e => e ▸ h5) (h w)
  have h3 : Cmp3.tab.before a s = true := unparts (wk q5 (.code Cmp3.yN Cmp3.yB 6 (some (.array .byte)))) (wks q5 (.initialized Cmp3.yN.cls :: Cmp3.site))
  have q3 : ∀ w ∈ Cmp3.tab :: CodL.tab :: words, w.before a s = true := fun w hw => (List.mem_cons.mp hw).elim (fun e => e ▸ h3) fun hw => (List.mem_cons.mp hw).elim (fun e => e ▸ hc) (h w)
  have h4 : New4.tab.before a s = true := unparts (wk q3 (.code New4.yN New4.yB 6 none)) (wks q3 (.initialized New4.yN.cls :: New4.site))
  have q4 : ∀ w ∈ New4.tab :: words, w.before a s = true := fun w hw => (List.mem_cons.mp hw).elim (fun e => e ▸ h4) (h w)
  exact unparts (wk q4 (.code New1.yN New1.yB 2 none)) (wks q4 (.initialized New1.yN.cls :: New1.site))
/-- the words ride from the start Z to the walk's own state -/
theorem moved {Z s : State} {a0 args : Array Value} (hZ : Z.Warmed39 s.vm) (hw : ∀ d ∈ words, d.before a0 Z = true) : ∀ d ∈ words, d.before args s = true := fun d hd => by
  have q := hw d hd
  have t : ∀ d ∈ words, d = .arrayClass .byte ∨ (d.onTables && d.keepsFace) = true := by decide +kernel
  rcases t d hd with rfl | t
  · exact RoadKit.mvA hZ q
  · exact RoadKit.mv hZ q t
/-- WHAT COMES BACK, over the tables of the start Z: h the heap at the call, h' behind it -/
def Q (Z : State) (x : Addr) (A : Cell) (h : Heap) (v : Option Value) (h' : Heap) (L : List Loc) : Prop := v = none ∧ (∀ y ∈ L, y.base = x) ∧ RoadKit.Keep h h' [x] ∧ h'.size = h.size + 1 ∧ RoadKit.Exa Z h' x ST ∧ RoadKit.Fld Z h' x ST "value" "[B" (.ref h.size) ∧ RoadKit.Fld Z h' x ST "coder" "B" (.int 0) ∧
  (∃ V : Cell, RoadKit.Arr Z h' h.size V .byte ∧ V.vm = .none ∧ Z.vm.findClass "[B" = some V.cls ∧ V.slots.size = A.slots.size ∧ ∀ j, j < A.slots.size → V.slots[j]? = some (.int (lo8 (cv A j)))) ∧
  ∀ (O n d : String) (w : Value), RoadKit.Fld Z h x O n d w → RoadKit.slotOf Z O n d ≠ RoadKit.slotOf Z ST "value" "[B" → RoadKit.slotOf Z O n d ≠ RoadKit.slotOf Z ST "coder" "B" → RoadKit.Fld Z h' x O n d w
/-- **new String(chars) AT A CALL, IN THE ROAD'S FORM**: for specialBack behind newO: x the fresh String, b the char[] with the cell A -/
theorem back {p : Program} {l : Launch} {e : Env} {R : Room} {s : State} {args : Array Value} {below : List Frame} {len W : Nat} {Z : State} {a0 : Array Value} {h : Heap} (hZ : Z.Warmed39 s.vm) (hw : ∀ d ∈ words, d.before a0 Z = true) {kI : Nat} (wi : (Jvm.Cond.instantiable ST kI).before a0 Z = true)
    {x b : Addr} {A : Cell} {z : Int32} {v0 c0 : Value} (E : RoadKit.Exa Z h x ST) (V : RoadKit.Fld Z h x ST "value" "[B" v0) (C : RoadKit.Fld Z h x ST "coder" "B" c0) (K : RoadKit.Arr Z h b A .char) (hty : Typed .char A) (S : RoadKit.Sta Z h ST "COMPACT_STRINGS" "Z" (.int z)) (hz : ¬ z = 0)
    (l0 : 0 < A.slots.size) (l2 : A.slots.size ≤ 536870912) (hp : ∀ i, i < A.slots.size → ¬ 255 < cv A i) (hfr : 4 ≤ R.frames) (hlo : W + 65 ≤ R.locals) :
    Back l R p e below s args New1.yN len W (fun P a => a = #[.ref x, .ref b] ∧ P.U.heap = h ∧ P.cells + 1 ≤ R.cells ∧ P.slots + A.slots.size ≤ R.slots)
      (fun P _ v B => ∃ L, Q Z x A h v B.U.heap L ∧ B.locs = P.locs ++ L ∧ B.cells = P.cells + 1 ∧ B.slots = P.slots + A.slots.size) := by
  intro m meth c P g ig mk a X hg hsize hdg hW hn hp'
  obtain ⟨rfl, rfl, r1, r2⟩ := hp'
  have al : Z.vm.Alike P.U.vm := hZ.alike.trans X.warmed.alike
  obtain ⟨D, cfV, kV, iV, fV, hD, gV, stV, knV, obV, asV, slV⟩ := id V
  obtain ⟨D', cfC, kC, iC, fC, hD', gC, stC, -, -, asC, slC⟩ := id C
  cases hD.symm.trans hD'
  obtain ⟨D2, kD, e1, e2, e3, e4, e5⟩ := id E
  cases hD.symm.trans e1
  obtain ⟨c2, k2, i1, i2, i3, -⟩ := Cond.instantiable_spec wi
  cases e2.symm.trans i1
  cases e3.symm.trans i2
  obtain ⟨kU, u1, u2⟩ := al.2.2 _ _ e3
  have hB : Blank ST x D P.U := ⟨hD, ⟨knV, fun q hq => by rw [hq] at obV; cases obV⟩, by rw [al.findClass]; exact e2, kU, u1, by rw [u2]; exact i3, by rw [u2]; exact e5 i3⟩
  have F1 : Found ST "value" "[B" fV P.U := ⟨SBG.found_only al ⟨cfV, kV, iV, gV⟩, stV⟩
  have F2 : Found ST "coder" "B" fC P.U := ⟨SBG.found_only al ⟨cfC, kC, iC, gC⟩, stC⟩
  have hA : Ch b A P.U := ⟨⟨K.1, State.isArrayOf_alike al K.2.1, K.2.2, by omega⟩, hty⟩
  have hS : StaticIs P.U ST "COMPACT_STRINGS" "Z" (.int z) := by
    obtain ⟨cfS, iS, kS, fS, st, cS, t1, t2, t3, t4, t5, t6, t7⟩ := S
    exact StaticIs.there (s := { Z with heap := P.U.heap }) ⟨cfS, iS, kS, fS, st, cS, t1, t2, t3, t4, t5, (fun q => by rw [q] at t6; cases t6), t7⟩ al rfl
  obtain ⟨v, B, X', ⟨⟨hv, E', V', q1, q2, q3, q4, q5, q6, q7, q8, q9, q10, q11⟩, hl, hc, hs⟩, st⟩ := New1.pays x D fV fC b A z (tab_of (moved hZ hw)) hfr hlo m meth c P g ig mk _ X hg hsize hdg hW hn ⟨r1, r2, rfl, hB, F1, F2, hA, hS, hz, l0, l2, hp⟩
  have al' : Z.vm.Alike B.U.vm := hZ.alike.trans X'.warmed.alike
  have hsz : E'.slots.size = D.slots.size := by
    obtain ⟨-, -, -, kB, w1, w2, w3⟩ := q1
    obtain ⟨kB', y1, y2⟩ := al'.2.2 _ _ e3
    rw [q2.2.1] at w1
    cases w1.symm.trans y1
    rw [w3, e5 i3, y2]
  refine ⟨v, B, X', ⟨_, ⟨hv, ?_, ⟨by omega, fun y cy hy hn' => q10 y cy (by simpa using hn') hy, fun y cy hy => ?_⟩, q11, ⟨E', _, q1.1, by rw [q2.2.1]; exact e2, by rw [q2.2.1]; exact e3, by rw [q2.1]; exact obV, fun _ => by rw [hsz]; exact e5 i3⟩,
    ⟨E', cfV, kV, iV, fV, q1.1, gV, stV, by rw [q2.1]; exact knV, by rw [q2.1]; exact obV, by rw [q2.2.1]; exact asV, q3⟩, ⟨E', cfC, kC, iC, fC, q1.1, gC, stC, by rw [q2.1]; exact knV, by rw [q2.1]; exact obV, by rw [q2.2.1]; exact asC, q4⟩,
    ⟨V', ⟨q5.1, State.isArrayOf_alike al'.symm q5.2.1, q5.2.2.1⟩, q6, by rw [← al'.findClass]; exact q7, q8, fun j hj => by have := q9 j hj; rwa [Nat.zero_add] at this⟩, fun O n d w F n1 n2 => ?_⟩, hl, hc, hs⟩, st⟩
  · intro y hy
    simp only [List.mem_cons, List.not_mem_nil, or_false] at hy
    rcases hy with rfl | rfl <;> rfl
  · by_cases q : y = x
    · subst q
      cases hD.symm.trans hy
      exact ⟨E', q1.1, q2.2.1, q2.1, hsz⟩
    · exact ⟨cy, q10 y cy q hy, rfl, rfl, rfl⟩
  · obtain ⟨D3, cf, k, i, f, g1, g2, g3, g4, g5, g6, g7⟩ := F
    cases hD.symm.trans g1
    simp only [RoadKit.slotOf, g2, gV, gC, Option.map_some, Option.getD_some] at n1 n2
    exact ⟨E', cf, k, i, f, q1.1, g2, g3, by rw [q2.1]; exact g4, by rw [q2.1]; exact g5, by rw [q2.2.1]; exact g6, by rw [q2.2.2 f.slot (by simp [n1, n2])]; exact g7⟩
end StrChars.Road
namespace StrChars.Road
open Jvm Sem ClassFile Op Lib Jvm.Stand Jvm.Free Jvm.Free.XT
/-- WHAT COMES BACK, the byte[] as a list of values -/
def QA (Z : State) (x : Addr) (zn : Int32) (cs : List Int32) (h : Heap) (v : Option Value) (h' : Heap) (L : List Loc) : Prop := v = none ∧ (∀ y ∈ L, y.base = x) ∧ RoadKit.Keep h h' [x] ∧ h'.size = h.size + 1 ∧ RoadKit.Exa Z h' x ST ∧ RoadKit.Fld Z h' x ST "value" "[B" (.ref h.size) ∧ RoadKit.Fld Z h' x ST "coder" "B" (.int 0) ∧
  (∃ kb, Z.vm.findClass "[B" = some kb ∧ RoadKit.Arv Z h' h.size kb .byte zn (cs.map fun c => .int (lo8 c)) (.int 0)) ∧
  ∀ (O n d : String) (w : Value), RoadKit.Fld Z h x O n d w → RoadKit.slotOf Z O n d ≠ RoadKit.slotOf Z ST "value" "[B" → RoadKit.slotOf Z O n d ≠ RoadKit.slotOf Z ST "coder" "B" → RoadKit.Fld Z h' x O n d w
/-- **new String(chars) AT A CALL, THE ARRAYS AS LISTS**: the char[] at b holds cs, not empty, no char above 255 -/
theorem backArv {p : Program} {l : Launch} {e : Env} {R : Room} {s : State} {args : Array Value} {below : List Frame} {len W : Nat} {Z : State} {a0 : Array Value} {h : Heap} (hZ : Z.Warmed39 s.vm) (hw : ∀ d ∈ words, d.before a0 Z = true) {kI : Nat} (wi : (Jvm.Cond.instantiable ST kI).before a0 Z = true)
    {x b : Addr} {k : ClassId} {zn z : Int32} {cs : List Int32} {dv v0 c0 : Value} (E : RoadKit.Exa Z h x ST) (V : RoadKit.Fld Z h x ST "value" "[B" v0) (C : RoadKit.Fld Z h x ST "coder" "B" c0) (K : RoadKit.Arv Z h b k .char zn (cs.map Value.int) dv) (S : RoadKit.Sta Z h ST "COMPACT_STRINGS" "Z" (.int z)) (hz : ¬ z = 0)
    (hlen : zn.toNatClampNeg = cs.length) (h0 : 0 < cs.length) (hbig : cs.length ≤ 536870912) (hall : ∀ c ∈ cs, ¬ 255 < c) (hfr : 4 ≤ R.frames) (hlo : W + 65 ≤ R.locals) :
    Back l R p e below s args New1.yN len W (fun P a => a = #[.ref x, .ref b] ∧ P.U.heap = h ∧ P.cells + 1 ≤ R.cells ∧ P.slots + cs.length ≤ R.slots)
      (fun P _ v B => ∃ L, QA Z x zn cs h v B.U.heap L ∧ B.locs = P.locs ++ L ∧ B.cells = P.cells + 1 ∧ B.slots = P.slots + cs.length) := by
  obtain ⟨A, K1, K2, K3, K4, K5, K6⟩ := K
  have e : A.slots.size = cs.length := K3.trans hlen
  have hat : ∀ (i : Nat) (hi : i < cs.length), A.slots[i]? = some (.int cs[i]) := fun i hi => by rw [K5 i (by omega)]; simp [List.getD_eq_getElem?_getD, hi]
  have hcv : ∀ (i : Nat) (hi : i < cs.length), cv A i = cs[i] := fun i hi => by unfold cv; rw [hat i hi]
  have hty : Typed .char A := fun i v hv => by
    have hi : i < A.slots.size := (Array.getElem?_eq_some_iff.mp hv).1
    have q := K5 i hi
    rw [hv] at q
    rw [Option.some.inj q]
    exact K6 i hi
  refine Back.mono (back hZ hw wi E V C K1 hty S hz (by omega) (by omega) (fun i hi => by rw [hcv i (by omega)]; exact hall _ (List.getElem_mem _)) hfr hlo) (fun P a hp => ⟨hp.1, hp.2.1, hp.2.2.1, by rw [e]; exact hp.2.2.2⟩) (fun P a v B hp hq => ?_)
  obtain ⟨L, ⟨q1, q2, q3, q4, q5, q6, q7, ⟨V', v1, v2, v3, v4, v5⟩, q9⟩, hl, hc, hs⟩ := hq
  refine ⟨L, ⟨q1, q2, q3, q4, q5, q6, q7, ⟨V'.cls, v3, V', v1, rfl, by rw [v4, e, hlen], K4, fun i hi => ?_, fun i hi => ?_⟩, q9⟩, hl, hc, by rw [hs, e]⟩
  · have hi' : i < cs.length := by omega
    rw [v5 i (by omega), hcv i hi']; simp [List.getD_eq_getElem?_getD, hi']
  · have hi' : i < cs.length := by omega
    simp only [List.getD_eq_getElem?_getD, List.getElem?_map, List.getElem?_eq_getElem hi', Option.map_some, Option.getD_some]
    exact fits_lo8 _
end StrChars.Road
namespace StrChars.Road
open Jvm Sem ClassFile Op Lib Jvm.Stand Jvm.Free Jvm.Free.XT
/-- WHAT COMES BACK, in the writer's own shape -/
def QV (Z : State) (x : Addr) (N : Int32) (bs : List Int32) (h : Heap) (n0 : Nat) (v : Option Value) (h' : Heap) (L : List Loc) : Prop := v = none ∧ RoadKit.Fr n0 L ∧ RoadKit.Keep h h' [x] ∧ RoadKit.Exa Z h' x ST ∧ RoadKit.Fld Z h' x ST "coder" "B" (.int 0) ∧
  ∃ (t : Addr) (kb : ClassId), n0 ≤ t ∧ h.size ≤ t ∧ ¬ t = x ∧ RoadKit.Fld Z h' x ST "value" "[B" (.ref t) ∧ RoadKit.Arv Z h' t kb .byte N (bs.map Value.int) (.int 0)
/-- **new String(chars) AT A CALL, FOR THE WRITER**: a char[] of n known ints, each 0 to 255 -/
theorem backV {p : Program} {l : Launch} {e : Env} {R : Room} {s : State} {args : Array Value} {below : List Frame} {len W : Nat} {Z : State} {a0 : Array Value} {h : Heap} (hZ : Z.Warmed39 s.vm) (hw : ∀ d ∈ words, d.before a0 Z = true) {kI : Nat} (wi : (Jvm.Cond.instantiable ST kI).before a0 Z = true)
    {x b : Addr} {kC : ClassId} {cs bs : List Int32} {d v0 c0 : Value} {z N : Int32} {n n0 : Nat} (hx0 : n0 ≤ x) (hh0 : n0 ≤ h.size) (E : RoadKit.Exa Z h x ST) (V : RoadKit.Fld Z h x ST "value" "[B" v0) (C : RoadKit.Fld Z h x ST "coder" "B" c0) (K : RoadKit.Arv Z h b kC .char N (cs.map Value.int) d) (S : RoadKit.Sta Z h ST "COMPACT_STRINGS" "Z" (.int z)) (hz : ¬ z = 0)
    (hn : cs.length = n) (hN : N = Int32.ofNat n) (l0 : 0 < n) (l2 : n ≤ 4000) (hp : ∀ c ∈ cs, ¬ c < 0 ∧ ¬ (255 : Int32) < c) (hb : bs = cs.map (fun c => c.toInt8.toInt32)) (hfr : 4 ≤ R.frames) (hlo : W + 65 ≤ R.locals) :
    Back l R p e below s args (⟨"java/lang/String", "<init>", "([C)V"⟩ : MethodName) len W (fun P a => a = #[.ref x, .ref b] ∧ P.U.heap = h ∧ P.cells + 1 ≤ R.cells ∧ P.slots + n ≤ R.slots)
      (fun P _ v B => ∃ L, QV Z x N bs h n0 v B.U.heap L ∧ B.locs = P.locs ++ L ∧ B.cells = P.cells + 1 ∧ B.slots = P.slots + n) := by
  subst hn hN hb
  refine Back.mono (backArv hZ hw wi E V C K S hz (n32 (by omega)) l0 (by omega) (fun c hc => (hp c hc).2) hfr hlo) (fun P a hp => hp) (fun P a v B hp hq => ?_)
  obtain ⟨L, ⟨q1, q2, q3, q4, q5, q6, q7, ⟨kb, v1, v2⟩, q9⟩, hl, hc, hs⟩ := hq
  exact ⟨L, ⟨q1, fun y hy => by rw [q2 y hy]; exact hx0, q3, q5, q7, h.size, kb, hh0, Nat.le_refl _, Nat.ne_of_gt E.lt, q6, by rw [List.map_map]; exact v2⟩, hl, hc, hs⟩
end StrChars.Road
namespace StrChars
open Jvm Sem ClassFile Op Lib Jvm.Stand Jvm.Free.XT Jvm.Free.ALB Jvm.Free.JM Jvm.Free
open Jvm.Lib.Cold (StaticIs)
def hi8 (x : Int32) : Int32 := lo8 (x >>> ((8 : Int32) &&& 31))
/-- what StringUTF16.getChar makes of two bytes -/
def pairCh (u v : Int32) : Int32 := (((u &&& 255) <<< ((0 : Int32) &&& 31)) ||| ((v &&& 255) <<< ((8 : Int32) &&& 31))).toUInt32.toUInt16.toUInt32.toInt32
theorem lo8_and (x : Int32) : (lo8 x &&& 255).toBitVec.toNat = x.toBitVec.toNat % 256 := by
  have h : (lo8 x).toBitVec = (x.toBitVec.signExtend 8).signExtend 32 := by rw [lo8, Int8.toBitVec_toInt32, Int32.toBitVec_toInt8]
  rw [Int32.toBitVec_and, BitVec.toNat_and, h]
  have e : ((x.toBitVec.signExtend 8).signExtend 32).toNat % 256 = x.toBitVec.toNat % 256 := by
    rw [BitVec.toNat_signExtend]
    have hlt := x.toBitVec.isLt
    simp only [BitVec.toNat_setWidth, BitVec.toNat_signExtend]
    split <;> split <;> omega
  rw [← e]
  exact Nat.and_two_pow_sub_one_eq_mod _ 8
theorem pair_says {c : Int32} (h0 : ¬ c < 0) (h1 : ¬ 65535 < c) : pairCh (lo8 c) (hi8 c) = c := by
  rw [Int32.lt_iff_toInt_lt] at h0 h1
  have e0 : (0 : Int32).toInt = 0 := rfl
  have e1 : (65535 : Int32).toInt = 65535 := rfl
  have hc : c.toInt = c.toBitVec.toNat := by
    have := c.toBitVec.isLt
    have e : c.toInt = c.toBitVec.toInt := rfl
    rw [e] at h0 h1
    rw [e]
    rw [BitVec.toInt_eq_toNat_cond] at h0 h1 ⊢
    split at h0 <;> split <;> omega
  have hn : c.toBitVec.toNat < 65536 := by omega
  have a1 := lo8_and c
  have a2 : (hi8 c &&& 255).toBitVec.toNat = c.toBitVec.toNat / 256 := by
    rw [hi8, lo8_and]
    have e : ((8 : Int32) &&& 31) = 8 := by decide
    rw [e, Int32.toBitVec_shiftRight]
    have e2 : ((8 : Int32).toBitVec.smod 32) = 8#32 := by decide
    rw [e2, BitVec.sshiftRight_eq', BitVec.toNat_sshiftRight_of_msb_false (by rw [BitVec.msb_eq_false_iff_two_mul_lt]; omega)]
    show c.toBitVec.toNat >>> 8 % 256 = _
    rw [Nat.shiftRight_eq_div_pow]
    omega
  unfold pairCh
  apply Int32.toBitVec_inj.mp
  apply BitVec.eq_of_toNat_eq
  have f0 : ((0 : Int32) &&& 31) = 0 := by decide
  have f8 : ((8 : Int32) &&& 31) = 8 := by decide
  rw [f0, f8]
  have g : (((lo8 c &&& 255) <<< (0 : Int32)) ||| ((hi8 c &&& 255) <<< (8 : Int32))).toBitVec.toNat = c.toBitVec.toNat := by
    rw [Int32.toBitVec_or, Int32.toBitVec_shiftLeft, Int32.toBitVec_shiftLeft]
    have s0 : ((0 : Int32).toBitVec.smod 32) = 0#32 := by decide
    have s8 : ((8 : Int32).toBitVec.smod 32) = 8#32 := by decide
    rw [s0, s8, BitVec.toNat_or]
    simp only [BitVec.shiftLeft_eq', BitVec.toNat_shiftLeft, a1, a2]
    show (c.toBitVec.toNat % 256) <<< 0 % 2 ^ 32 ||| (c.toBitVec.toNat / 256) <<< 8 % 2 ^ 32 = _
    rw [Nat.shiftLeft_zero, Nat.mod_eq_of_lt (show c.toBitVec.toNat % 256 < 2 ^ 32 by omega), Nat.mod_eq_of_lt (show (c.toBitVec.toNat / 256) <<< 8 < 2 ^ 32 by rw [Nat.shiftLeft_eq]; omega), Nat.or_comm, ← Nat.shiftLeft_add_eq_or_of_lt (by omega), Nat.shiftLeft_eq]
    omega
  show BitVec.toNat (((((lo8 c &&& 255) <<< (0 : Int32)) ||| ((hi8 c &&& 255) <<< (8 : Int32))).toBitVec.setWidth 16).setWidth 32) = _
  rw [BitVec.toNat_setWidth, BitVec.toNat_setWidth, g]
  omega
end StrChars
namespace StrChars
open Jvm Sem ClassFile Op Lib Jvm.Stand Jvm.Free.XT Jvm.Free.ALB Jvm.Free.JM Jvm.Free
open Jvm.Lib.Cold (StaticIs)
/-- the array's cell V codes the n chars f 0 .. f (n - 1) by the coder cd, as the JDK does: coder 1 just where some char is above 255 -/
def Cod (cd : Int32) (n : Nat) (f : Nat → Int32) (V : Cell) : Prop := (cd = 0 ∧ V.slots.size = n ∧ ∀ j, j < n → V.slots[j]? = some (.int (lo8 (f j))) ∧ ¬ 255 < f j) ∨ (cd = 1 ∧ V.slots.size = 2 * n ∧ (∀ j, j < n → V.slots[2 * j]? = some (.int (lo8 (f j))) ∧ V.slots[2 * j + 1]? = some (.int (hi8 (f j)))) ∧ ∃ j, j < n ∧ 255 < f j)
/-- **x is a String of the n chars f 0 .. f (n - 1)**, Latin-1 or UTF-16; its array at t has the cell V -/
def Txt (x t : Addr) (V : Cell) (cd : Int32) (n : Nat) (f : Nat → Int32) (U : State) : Prop := Exact "java/lang/String" x U ∧ Has x "java/lang/String" "value" "[B" (.ref t) U ∧ Has x "java/lang/String" "coder" "B" (.int cd) U ∧ XT.Arr .byte t V U ∧ Cod cd n f V ∧ ∀ j, j < n → ¬ f j < 0 ∧ ¬ 65535 < f j
theorem Txt.mv {x t : Addr} {V : Cell} {cd : Int32} {n : Nat} {f : Nat → Int32} {U U' : State} (h : Txt x t V cd n f U) (hal : U.vm.Alike U'.vm) (hh : U'.heap = U.heap) : Txt x t V cd n f U' := ⟨h.1.mv hal hh, h.2.1.mv hal hh, h.2.2.1.mv hal hh, h.2.2.2.1.mv hal hh, h.2.2.2.2⟩
end StrChars
namespace StrChars.Road
open Jvm Sem ClassFile Op Lib Jvm.Stand Jvm.Free Jvm.Free.XT
open Jvm.Lib.Cold (StaticIs)
theorem consq {a : Array Value} {s : State} {c : Jvm.Cond} {L : List Jvm.Cond} (h0 : c.before a s = true) (h : ∀ w ∈ L, w.before a s = true) : ∀ w ∈ c :: L, w.before a s = true := fun w hw => (List.mem_cons.mp hw).elim (fun e => e ▸ h0) (h w)
/-- the bytes of the chars cs, low before high -/
def wideBytes : List Int32 → List Value
  | [] => []
  | c :: cs => .int (lo8 c) :: .int (hi8 c) :: wideBytes cs
theorem wide_lo (d : Value) : ∀ (cs : List Int32) (j : Nat), j < cs.length → (wideBytes cs).getD (2 * j) d = .int (lo8 (cs.getD j 0))
  | [], j, h => absurd h (Nat.not_lt_zero j)
  | c :: cs, 0, _ => rfl
  | c :: cs, j + 1, h => by
    have q := wide_lo d cs j (by simpa using h)
    rw [show 2 * (j + 1) = 2 * j + 1 + 1 from by omega]
    simpa [wideBytes] using q
theorem wide_hi (d : Value) : ∀ (cs : List Int32) (j : Nat), j < cs.length → (wideBytes cs).getD (2 * j + 1) d = .int (hi8 (cs.getD j 0))
  | [], j, h => absurd h (Nat.not_lt_zero j)
  | c :: cs, 0, _ => rfl
  | c :: cs, j + 1, h => by
    have q := wide_hi d cs j (by simpa using h)
    rw [show 2 * (j + 1) + 1 = 2 * j + 1 + 1 + 1 from by omega]
    simpa [wideBytes] using q
theorem low_at (d : Value) (cs : List Int32) (j : Nat) (h : j < cs.length) : (cs.map fun c => Value.int (lo8 c)).getD j d = .int (lo8 (cs.getD j 0)) := by
  simp [List.getD_eq_getElem?_getD, h]
/-- an array of N2 bytes vs codes the chars cs by the coder cd -/
def CodA (cs : List Int32) (cd N2 : Int32) (vs : List Value) : Prop := (cd = 0 ∧ N2 = Int32.ofNat cs.length ∧ vs = (cs.map fun c => Value.int (lo8 c)) ∧ ∀ c ∈ cs, ¬ 255 < c) ∨ (cd = 1 ∧ N2 = Int32.ofNat (2 * cs.length) ∧ vs = wideBytes cs ∧ ∃ c ∈ cs, 255 < c)
theorem CodA.cod {cs : List Int32} {cd N2 : Int32} {vs : List Value} {V : Cell} (h : CodA cs cd N2 vs) (hn : 2 * cs.length < 2 ^ 31) (hs : V.slots.size = N2.toNatClampNeg) (hv : RoadKit.Has V vs (.int 0)) : Cod cd cs.length (fun j => cs.getD j 0) V := by
  rcases h with ⟨rfl, rfl, rfl, h⟩ | ⟨rfl, rfl, rfl, c, hc, hw⟩
  · rw [n32 (by omega)] at hs
    exact Or.inl ⟨rfl, hs, fun j hj => ⟨by rw [hv j (by omega), low_at _ _ _ hj], by
      have e : cs.getD j 0 = cs[j] := by simp [List.getD_eq_getElem?_getD, hj]
      show ¬ 255 < cs.getD j 0
      rw [e]; exact h _ (List.getElem_mem _)⟩⟩
  · rw [n32 (by omega)] at hs
    obtain ⟨j, hj, rfl⟩ := List.getElem_of_mem hc
    exact Or.inr ⟨rfl, hs, fun j hj => ⟨by rw [hv _ (by omega), wide_lo _ _ _ hj], by rw [hv _ (by omega), wide_hi _ _ _ hj]⟩, j, hj, by
      have e : cs.getD j 0 = cs[j] := by simp [List.getD_eq_getElem?_getD, hj]
      show 255 < cs.getD j 0
      rw [e]; exact hw⟩
/-- an object of exactly java/lang/String, its two fields found: as the laws ask it -/
theorem strObj {Z U : State} {a0 : Array Value} {kI : Nat} (wi : (Jvm.Cond.instantiable ST kI).before a0 Z = true) (al : Z.vm.Alike U.vm) {x : Addr} {v0 c0 : Value} (E : RoadKit.Exa Z U.heap x ST) (V : RoadKit.Fld Z U.heap x ST "value" "[B" v0) (C : RoadKit.Fld Z U.heap x ST "coder" "B" c0) :
    ∃ (D : Cell) (fV fC : Field), Blank ST x D U ∧ Found ST "value" "[B" fV U ∧ Found ST "coder" "B" fC U ∧ D.slots[fV.slot]? = some v0 ∧ D.slots[fC.slot]? = some c0 ∧ RoadKit.slotOf Z ST "value" "[B" = fV.slot ∧ RoadKit.slotOf Z ST "coder" "B" = fC.slot := by
  obtain ⟨D, cfV, kV, iV, fV, hD, gV, stV, knV, obV, asV, slV⟩ := V
  obtain ⟨D', cfC, kC, iC, fC, hD', gC, stC, -, -, asC, slC⟩ := C
  cases hD.symm.trans hD'
  obtain ⟨D2, kD, e1, e2, e3, e4, e5⟩ := E
  cases hD.symm.trans e1
  obtain ⟨c2, k2, i1, i2, i3, -⟩ := Cond.instantiable_spec wi
  cases e2.symm.trans i1
  cases e3.symm.trans i2
  obtain ⟨kU, u1, u2⟩ := al.2.2 _ _ e3
  exact ⟨D, fV, fC, ⟨hD, ⟨knV, fun q hq => by rw [hq] at obV; cases obV⟩, by rw [al.findClass]; exact e2, kU, u1, by rw [u2]; exact i3, by rw [u2]; exact e5 i3⟩, ⟨SBG.found_only al ⟨cfV, kV, iV, gV⟩, stV⟩, ⟨SBG.found_only al ⟨cfC, kC, iC, gC⟩, stC⟩, slV, slC, by simp [RoadKit.slotOf, gV], by simp [RoadKit.slotOf, gC]⟩
theorem sta_is {Z U : State} (al : Z.vm.Alike U.vm) {C n d : String} {v : Value} (S : RoadKit.Sta Z U.heap C n d v) : StaticIs U C n d v := by
  obtain ⟨cfS, iS, kS, fS, st, cS, t1, t2, t3, t4, t5, t6, t7⟩ := S
  exact StaticIs.there (s := { Z with heap := U.heap }) ⟨cfS, iS, kS, fS, st, cS, t1, t2, t3, t4, t5, (fun q => by rw [q] at t6; cases t6), t7⟩ al rfl
end StrChars.Road
namespace StrChars
open Jvm Sem ClassFile Op Lib Jvm.Stand Jvm.Free.XT Jvm.Free.ALB Jvm.Free.JM Jvm.Free
open Jvm.Lib.Cold (StaticIs)
/-- what place i of a byte[]'s cell holds -/
def yv (A : Cell) (i : Nat) : Int32 := match A.slots[i]? with | some (.int x) => x | _ => 0
theorem yv_get {a : Addr} {A : Cell} {U : State} (h : XT.Arr .byte a A U) (ht : Typed .byte A) {i : Nat} (hi : i < A.slots.size) : A.slots[i]? = some (.int (yv A i)) := by
  have e := Array.getElem?_eq_getElem hi
  have f := ht i _ e
  unfold yv; rw [e]
  generalize A.slots[i] = v at f
  cases v <;> simp [fits] at f ⊢
/-- the two arrays are equal, place for place -/
def EqC (A B : Cell) : Prop := A.slots.size = B.slots.size ∧ ∀ i, i < A.slots.size → yv A i = yv B i
/-- a boolean that says whether p -/
def Says01 (q : Prop) (r : Option Value) (s u : State) : Prop := ∃ v : Int32, r = some (.int v) ∧ u.heap = s.heap ∧ ((v = 1 ∧ q) ∨ (v = 0 ∧ ¬ q))
theorem Says01.mv {q : Prop} : ∀ r (U U' V V' : State), U'.heap = U.heap → V.vm.Alike V'.vm → V'.heap = V.heap → Says01 q r U V → Says01 q r U' V' :=
  fun r U U' V V' h1 _ h2 ⟨v, a, b, c⟩ => ⟨v, a, by rw [h1, h2]; exact b, c⟩
namespace LEq
def yN : MethodName := ⟨"java/lang/StringLatin1", "equals", "([B[B)Z"⟩
abbrev yB : ByteArray := jdk_43_method_13_code
theorem d0 : decode yB 0 = .ok (.aload_n 0, 1) := by decide +kernel
theorem d1 : decode yB 1 = .ok (.arraylength, 1) := by decide +kernel
theorem d2 : decode yB 2 = .ok (.aload_n 1, 1) := by decide +kernel
theorem d3 : decode yB 3 = .ok (.arraylength, 1) := by decide +kernel
theorem d4 : decode yB 4 = .ok (.if_icmp (.ne) 30, 3) := by decide +kernel
theorem d7 : decode yB 7 = .ok (.iconst 0, 1) := by decide +kernel
theorem d8 : decode yB 8 = .ok (.istore_n 2, 1) := by decide +kernel
theorem d9 : decode yB 9 = .ok (.iload_n 2, 1) := by decide +kernel
theorem d10 : decode yB 10 = .ok (.aload_n 0, 1) := by decide +kernel
theorem d11 : decode yB 11 = .ok (.arraylength, 1) := by decide +kernel
theorem d12 : decode yB 12 = .ok (.if_icmp (.ge) 20, 3) := by decide +kernel
theorem d15 : decode yB 15 = .ok (.aload_n 0, 1) := by decide +kernel
theorem d16 : decode yB 16 = .ok (.iload_n 2, 1) := by decide +kernel
theorem d17 : decode yB 17 = .ok (.baload, 1) := by decide +kernel
theorem d18 : decode yB 18 = .ok (.aload_n 1, 1) := by decide +kernel
theorem d19 : decode yB 19 = .ok (.iload_n 2, 1) := by decide +kernel
theorem d20 : decode yB 20 = .ok (.baload, 1) := by decide +kernel
theorem d21 : decode yB 21 = .ok (.if_icmp (.eq) 5, 3) := by decide +kernel
theorem d24 : decode yB 24 = .ok (.iconst 0, 1) := by decide +kernel
theorem d25 : decode yB 25 = .ok (.ireturn, 1) := by decide +kernel
theorem d26 : decode yB 26 = .ok (.iinc 2 1, 3) := by decide +kernel
theorem d29 : decode yB 29 = .ok (.goto (-20), 3) := by decide +kernel
theorem d32 : decode yB 32 = .ok (.iconst 1, 1) := by decide +kernel
theorem d33 : decode yB 33 = .ok (.ireturn, 1) := by decide +kernel
theorem d34 : decode yB 34 = .ok (.iconst 0, 1) := by decide +kernel
theorem d35 : decode yB 35 = .ok (.ireturn, 1) := by decide +kernel
def site : List Cond := []
def tab : Cond := tabOf yN yB 3 (some .boolean) site
def P (a : Addr) (A : Cell) (b : Addr) (B : Cell) (args : Array Value) (s : State) : Prop := args = #[.ref a, .ref b] ∧ XT.Arr .byte a A s ∧ Typed .byte A ∧ XT.Arr .byte b B s ∧ Typed .byte B
/-- whether two byte[] are equal, place for place -/
theorem law (l : Launch) (a : Addr) (A : Cell) (b : Addr) (B : Cell) : Law l yN 2 2 0 0 yB 3 (some .boolean) site (P a A b B) (Says01 (EqC A B)) [] 0 0 := by
  refine Law.of_walk (plainFor_of_name (by decide +kernel)) (by decide +kernel) (by decide +kernel) (by decide) (fun _ _ h => by rw [h.1]; rfl) (fun _ U U' hal hh h => ⟨h.1, h.2.1.mv hal hh, h.2.2.1, h.2.2.2.1.mv hal hh, h.2.2.2.2⟩) (fun r U U' V V' h1 hal h2 h => Says01.mv r U U' V V' h1 hal h2 h) ?_
  intro p e s m args below meth c s₁ X0 hexec hbytes hml hret hlk hnm hown hh0 W hP
  obtain ⟨rfl, hA, tA, hB, tB⟩ := hP
  have a31 := hA.2.2.2
  have b31 := hB.2.2.2
  have hA0 := hA.mv X0.warmed.alike hh0
  have hB0 := hB.mv X0.warmed.alike hh0
  have c1 : Steps p.tables e below (s₁.setTop (entryFrame m #[.ref a, .ref b] 3)) (s₁.setTop (mkF m 0 #[.val (.ref a), .val (.ref b), .unset] [])) := entry rfl
  have c2 : Steps p.tables e below (s₁.setTop (entryFrame m #[.ref a, .ref b] 3)) (s₁.setTop (mkF m 4 #[.val (.ref a), .val (.ref b), .unset] [.int (Int32.ofNat B.slots.size), .int (Int32.ofNat A.slots.size)])) := c1.trans (by
    refine XS.aloadN X0.here hexec rfl (hb hbytes d0) rfl rfl ?_
    refine X0.alen hexec hA0 rfl rfl (hb hbytes d1) ?_
    refine XS.aloadN X0.here hexec rfl (hb hbytes d2) rfl rfl ?_
    refine X0.alen hexec hB0 rfl rfl (hb hbytes d3) ?_
    exact Steps.refl _)
  by_cases hs : A.slots.size = B.slots.size
  · have c3 : Steps p.tables e below (s₁.setTop (entryFrame m #[.ref a, .ref b] 3)) (s₁.setTop (mkF m 9 #[.val (.ref a), .val (.ref b), .val (.int 0)] [])) := c2.trans (by
      refine XS.icmpNo X0.here hexec rfl (hb hbytes d4) rfl (ii_ne_f (by rw [hs])) ?_
      refine iconstV X0.here hexec rfl 0 (hb hbytes d7) (by decide) ?_
      refine XS.istoreN X0.here hexec rfl (hb hbytes d8) rfl rfl ?_
      exact Steps.refl _)
    have loop : ∀ (r i : Nat), i + r = A.slots.size → (∀ j, j < i → yv A j = yv B j) → Steps p.tables e below (s₁.setTop (entryFrame m #[.ref a, .ref b] 3)) (s₁.setTop (mkF m 9 #[.val (.ref a), .val (.ref b), .val (.int (Int32.ofNat i))] [])) → ∃ (pc : Nat) (Ls : Array Slot) (v : Int32), (pc = 25 ∨ pc = 33) ∧ ((v = 1 ∧ EqC A B) ∨ (v = 0 ∧ ¬ EqC A B)) ∧ Steps p.tables e below (s₁.setTop (entryFrame m #[.ref a, .ref b] 3)) (s₁.setTop (mkF m pc Ls [.int v])) := by
      intro r
      induction r with
      | zero =>
        intro i hi he cl
        exact ⟨33, _, 1, Or.inr rfl, Or.inl ⟨rfl, hs, fun j hj => he j (by omega)⟩, cl.trans (by
          refine XS.iloadN X0.here hexec rfl (hb hbytes d9) rfl ?_
          refine XS.aloadN X0.here hexec rfl (hb hbytes d10) rfl rfl ?_
          refine X0.alen hexec hA0 rfl rfl (hb hbytes d11) ?_
          refine XS.icmpYes X0.here hexec rfl (pc0 := 12) rfl (hb hbytes d12) rfl (ii_ge_t (nlt32 (by omega) (by omega))) (by decide) rfl ?_
          refine iconstV X0.here hexec rfl 1 (hb hbytes d32) (by decide) ?_
          exact Steps.refl _)⟩
      | succ r ih =>
        intro i hi he cl
        have c4 : Steps p.tables e below (s₁.setTop (entryFrame m #[.ref a, .ref b] 3)) (s₁.setTop (mkF m 21 #[.val (.ref a), .val (.ref b), .val (.int (Int32.ofNat i))] [.int (yv B i), .int (yv A i)])) := cl.trans (by
          refine XS.iloadN X0.here hexec rfl (hb hbytes d9) rfl ?_
          refine XS.aloadN X0.here hexec rfl (hb hbytes d10) rfl rfl ?_
          refine X0.alen hexec hA0 rfl rfl (hb hbytes d11) ?_
          refine XS.icmpNo X0.here hexec rfl (hb hbytes d12) rfl (ii_ge_f (lt32 (by omega) (by omega))) ?_
          refine XS.aloadN X0.here hexec rfl (hb hbytes d15) rfl rfl ?_
          refine XS.iloadN X0.here hexec rfl (hb hbytes d16) rfl ?_
          refine X0.aget hexec hA0 rfl (yv_get hA tA (i := i) (by omega)) rfl rfl (hb hbytes d17) ?_
          refine XS.aloadN X0.here hexec rfl (hb hbytes d18) rfl rfl ?_
          refine XS.iloadN X0.here hexec rfl (hb hbytes d19) rfl ?_
          refine X0.aget hexec hB0 rfl (yv_get hB tB (i := i) (by omega)) rfl rfl (hb hbytes d20) ?_
          exact Steps.refl _)
        by_cases hv : yv A i = yv B i
        · have c5 : Steps p.tables e below (s₁.setTop (entryFrame m #[.ref a, .ref b] 3)) (s₁.setTop (mkF m 9 #[.val (.ref a), .val (.ref b), .val (.int (Int32.ofNat i + 1))] [])) := c4.trans (by
            refine XS.icmpYes X0.here hexec rfl (pc0 := 21) rfl (hb hbytes d21) rfl (ii_eq_t hv) (by decide) rfl ?_
            refine iincV X0.here hexec rfl 1 (hb hbytes d26) (by decide) rfl rfl ?_
            refine XS.goto X0.here hexec rfl (pc0 := 29) rfl (hb hbytes d29) (by decide) rfl ?_
            exact Steps.refl _)
          rw [succ32] at c5
          exact ih (i + 1) (by omega) (fun j hj => by
            by_cases e : j = i
            · rw [e]; exact hv
            · exact he j (by omega)) c5
        · exact ⟨25, _, 0, Or.inl rfl, Or.inr ⟨rfl, fun q => hv (q.2 i (by omega))⟩, c4.trans (by
            refine XS.icmpNo X0.here hexec rfl (hb hbytes d21) rfl (ii_eq_f hv) ?_
            refine iconstV X0.here hexec rfl 0 (hb hbytes d24) (by decide) ?_
            exact Steps.refl _)⟩
    obtain ⟨pc, Ls, v, hpc, hv, cz⟩ := loop A.slots.size 0 (by omega) (fun j hj => absurd hj (Nat.not_lt_zero j)) c3
    have nv : narrow .boolean (.int v) = .int v := by rcases hv with ⟨rfl, -⟩ | ⟨rfl, -⟩ <;> rfl
    rcases hpc with rfl | rfl
    · exact ⟨s₁, some (.int v), _, _, _, X0, rfl, rfl, rfl, (fun h => by cases h), ⟨v, rfl, hh0, hv⟩, fun fs hl => cz.trans (X0.ireturnOut hexec hret nv (Or.inr (Or.inl rfl)) (hb hbytes d25) hl)⟩
    · exact ⟨s₁, some (.int v), _, _, _, X0, rfl, rfl, rfl, (fun h => by cases h), ⟨v, rfl, hh0, hv⟩, fun fs hl => cz.trans (X0.ireturnOut hexec hret nv (Or.inr (Or.inl rfl)) (hb hbytes d33) hl)⟩
  · have c3 : Steps p.tables e below (s₁.setTop (entryFrame m #[.ref a, .ref b] 3)) (s₁.setTop (mkF m 35 #[.val (.ref a), .val (.ref b), .unset] [.int 0])) := c2.trans (by
      refine XS.icmpYes X0.here hexec rfl (pc0 := 4) rfl (hb hbytes d4) rfl (ii_ne_t (ne32 a31 b31 hs)) (by decide) rfl ?_
      refine iconstV X0.here hexec rfl 0 (hb hbytes d34) (by decide) ?_
      exact Steps.refl _)
    exact ⟨s₁, some (.int 0), _, _, _, X0, rfl, rfl, rfl, (fun h => by cases h), ⟨0, rfl, hh0, Or.inr ⟨rfl, fun q => hs q.1⟩⟩, fun fs hl => c3.trans (X0.ireturnOut hexec hret rfl (Or.inr (Or.inl rfl)) (hb hbytes d35) hl)⟩
end LEq
theorem Cod.ty {cd : Int32} {n : Nat} {f : Nat → Int32} {V : Cell} (h : Cod cd n f V) : Typed .byte V := fun i v hv => by
  have hi : i < V.slots.size := (Array.getElem?_eq_some_iff.mp hv).1
  rcases h with ⟨-, k1, k2⟩ | ⟨-, k1, k2, -⟩
  · rw [(k2 i (by omega)).1] at hv; cases hv; exact fits_lo8 _
  · rcases Nat.mod_two_eq_zero_or_one i with e | e
    · obtain ⟨j, rfl⟩ : ∃ j, i = 2 * j := ⟨i / 2, by omega⟩
      rw [(k2 j (by omega)).1] at hv; cases hv; exact fits_lo8 _
    · obtain ⟨j, rfl⟩ : ∃ j, i = 2 * j + 1 := ⟨i / 2, by omega⟩
      rw [(k2 j (by omega)).2] at hv; cases hv; exact fits_lo8 _
/-- the same text -/
def SameT (n : Nat) (f : Nat → Int32) (k : Nat) (g : Nat → Int32) : Prop := n = k ∧ ∀ j, j < n → f j = g j
theorem lo8_inj {x y : Int32} (h0 : ¬ x < 0) (h1 : ¬ 255 < x) (k0 : ¬ y < 0) (k1 : ¬ 255 < y) (h : lo8 x = lo8 y) : x = y := by
  rw [← lo8_mask h0 h1, ← lo8_mask k0 k1, h]
/-- arrays coded by one coder are equal just where the texts are -/
theorem Cod.eqv {cd : Int32} {n k : Nat} {f g : Nat → Int32} {V V' : Cell} (h : Cod cd n f V) (h' : Cod cd k g V') (hf : ∀ j, j < n → ¬ f j < 0 ∧ ¬ 65535 < f j) (hg : ∀ j, j < k → ¬ g j < 0 ∧ ¬ 65535 < g j) : EqC V V' ↔ SameT n f k g := by
  have yvv : ∀ {W : Cell} {i : Nat} {x : Int32}, W.slots[i]? = some (.int x) → yv W i = x := fun q => by unfold yv; rw [q]
  rcases h with ⟨rfl, k1, k2⟩ | ⟨rfl, k1, k2, -⟩
  · rcases h' with ⟨-, m1, m2⟩ | ⟨e, -⟩
    · constructor
      · rintro ⟨e1, e2⟩
        refine ⟨by omega, fun j hj => ?_⟩
        have q := e2 j (by omega)
        rw [yvv (k2 j hj).1, yvv (m2 j (by omega)).1] at q
        exact lo8_inj (hf j hj).1 (k2 j hj).2 (hg j (by omega)).1 (m2 j (by omega)).2 q
      · rintro ⟨rfl, e2⟩
        refine ⟨by omega, fun j hj => ?_⟩
        rw [yvv (k2 j (by omega)).1, yvv (m2 j (by omega)).1, e2 j (by omega)]
    · exact absurd e (by decide)
  · rcases h' with ⟨e, -⟩ | ⟨-, m1, m2, -⟩
    · exact absurd e (by decide)
    · constructor
      · rintro ⟨e1, e2⟩
        refine ⟨by omega, fun j hj => ?_⟩
        have q1 := e2 (2 * j) (by omega)
        have q2 := e2 (2 * j + 1) (by omega)
        rw [yvv (k2 j hj).1, yvv (m2 j (by omega)).1] at q1
        rw [yvv (k2 j hj).2, yvv (m2 j (by omega)).2] at q2
        rw [← pair_says (hf j hj).1 (hf j hj).2, ← pair_says (hg j (by omega)).1 (hg j (by omega)).2, q1, q2]
      · rintro ⟨rfl, e2⟩
        refine ⟨by omega, fun i hi => ?_⟩
        rcases Nat.mod_two_eq_zero_or_one i with e | e
        · obtain ⟨j, rfl⟩ : ∃ j, i = 2 * j := ⟨i / 2, by omega⟩
          rw [yvv (k2 j (by omega)).1, yvv (m2 j (by omega)).1, e2 j (by omega)]
        · obtain ⟨j, rfl⟩ : ∃ j, i = 2 * j + 1 := ⟨i / 2, by omega⟩
          rw [yvv (k2 j (by omega)).2, yvv (m2 j (by omega)).2, e2 j (by omega)]
/-- two codings differ: so do the texts -/
theorem Cod.dif {cd cd' : Int32} {n k : Nat} {f g : Nat → Int32} {V V' : Cell} (h : Cod cd n f V) (h' : Cod cd' k g V') (hne : ¬ cd = cd') : ¬ SameT n f k g := by
  rintro ⟨rfl, e⟩
  rcases h with ⟨rfl, -, k2⟩ | ⟨rfl, -, -, j, hj, hw⟩
  · rcases h' with ⟨rfl, -⟩ | ⟨-, -, -, j, hj, hw⟩
    · exact hne rfl
    · exact (k2 j hj).2 (by rw [e j hj]; exact hw)
  · rcases h' with ⟨-, -, m2⟩ | ⟨rfl, -⟩
    · exact (m2 j hj).2 (by rw [← e j hj]; exact hw)
    · exact hne rfl
/-- an object of exactly C is an instance of C -/
theorem cinst {p : Program} {l : Launch} {e : Env} {R : Room} {s : State} {m : MethodId} {args : Array Value} {below : List Frame} {meth : Method} {c : Code} {T : State} {locs : List Loc} {cells slots : Nat} (X : Stand p l e R s m args below meth c T locs cells slots) (hexec : p.tables.exec = Jvm.exec) {own C : String} {index : Nat} (hown : s.vm.findClass own = some m.cls) (hlink : (Cond.classLink own index C).before args s = true) {a : Addr} (hE : Exact C a T)
    {g : JFrame} (hg : g.method = m) {rest : List Value} (hstack : g.stack = .ref a :: rest) (hdg : decode c.code g.pc = .ok (.instanceof index, 3)) :
    ∃ T', Stand p l e R s m args below meth c T' locs cells slots ∧ T'.heap = T.heap ∧ ∀ target, Steps p.tables e below (T'.setTop { g with pc := g.pc + 3, stack := .int 1 :: rest }) target → Steps p.tables e below (T.setTop g) target := by
  obtain ⟨cB, h1, D, h2, h3, h4⟩ := hE
  have h1' : s.vm.findClass C = some cB := by rw [← X.warmed.alike.findClass]; exact h1
  obtain ⟨vm', X', st⟩ := X.instanceofYes hexec hown hlink h2 h4 h1' (by rw [h3]; exact Jvm.Free.SB.assignable_self _ _) hg hstack hdg
  exact ⟨_, X', rfl, st⟩
theorem cself {p : Program} {l : Launch} {e : Env} {R : Room} {s : State} {m : MethodId} {args : Array Value} {below : List Frame} {meth : Method} {c : Code} {T : State} {locs : List Loc} {cells slots : Nat} (X : Stand p l e R s m args below meth c T locs cells slots) (hexec : p.tables.exec = Jvm.exec) {own C : String} {index : Nat} (hown : s.vm.findClass own = some m.cls) (hlink : (Cond.classLink own index C).before args s = true) {a : Addr} (hE : Exact C a T)
    {g : JFrame} (hg : g.method = m) {rest : List Value} (hstack : g.stack = .ref a :: rest) (hdg : decode c.code g.pc = .ok (.checkcast index, 3)) :
    ∃ T', Stand p l e R s m args below meth c T' locs cells slots ∧ T'.heap = T.heap ∧ ∀ target, Steps p.tables e below (T'.setTop { g with pc := g.pc + 3, stack := .ref a :: rest }) target → Steps p.tables e below (T.setTop g) target := by
  obtain ⟨cB, h1, D, h2, h3, h4⟩ := hE
  have h1' : s.vm.findClass C = some cB := by rw [← X.warmed.alike.findClass]; exact h1
  obtain ⟨vm', X', st⟩ := X.checkcastYes hexec hown hlink h2 h4 h1' (by rw [h3]; exact Jvm.Free.SB.assignable_self _ _) hg hstack hdg
  exact ⟨_, X', rfl, fun t h => st t (by rw [← hstack] at h; exact h)⟩
namespace SEq
def yN : MethodName := ⟨"java/lang/String", "equals", "(Ljava/lang/Object;)Z"⟩
abbrev yB : ByteArray := jdk_42_method_66_code
theorem d0 : decode yB 0 = .ok (.aload_n 0, 1) := by decide +kernel
theorem d1 : decode yB 1 = .ok (.aload_n 1, 1) := by decide +kernel
theorem d2 : decode yB 2 = .ok (.if_acmp (.ne) 5, 3) := by decide +kernel
theorem d5 : decode yB 5 = .ok (.iconst 1, 1) := by decide +kernel
theorem d6 : decode yB 6 = .ok (.ireturn, 1) := by decide +kernel
theorem d7 : decode yB 7 = .ok (.aload_n 1, 1) := by decide +kernel
theorem d8 : decode yB 8 = .ok (.instanceof 10, 3) := by decide +kernel
theorem d11 : decode yB 11 = .ok (.ifCond (.eq) 43, 3) := by decide +kernel
theorem d14 : decode yB 14 = .ok (.aload_n 1, 1) := by decide +kernel
theorem d15 : decode yB 15 = .ok (.checkcast 10, 3) := by decide +kernel
theorem d18 : decode yB 18 = .ok (.astore_n 2, 1) := by decide +kernel
theorem d19 : decode yB 19 = .ok (.getstatic 38, 3) := by decide +kernel
theorem d22 : decode yB 22 = .ok (.ifCond (.eq) 14, 3) := by decide +kernel
theorem d25 : decode yB 25 = .ok (.aload_n 0, 1) := by decide +kernel
theorem d26 : decode yB 26 = .ok (.getfield 15, 3) := by decide +kernel
theorem d29 : decode yB 29 = .ok (.aload_n 2, 1) := by decide +kernel
theorem d30 : decode yB 30 = .ok (.getfield 15, 3) := by decide +kernel
theorem d33 : decode yB 33 = .ok (.if_icmp (.ne) 21, 3) := by decide +kernel
theorem d36 : decode yB 36 = .ok (.aload_n 0, 1) := by decide +kernel
theorem d37 : decode yB 37 = .ok (.getfield 9, 3) := by decide +kernel
theorem d40 : decode yB 40 = .ok (.aload_n 2, 1) := by decide +kernel
theorem d41 : decode yB 41 = .ok (.getfield 9, 3) := by decide +kernel
theorem d44 : decode yB 44 = .ok (.invokestatic 541, 3) := by decide +kernel
theorem d47 : decode yB 47 = .ok (.ifCond (.eq) 7, 3) := by decide +kernel
theorem d50 : decode yB 50 = .ok (.iconst 1, 1) := by decide +kernel
theorem d51 : decode yB 51 = .ok (.goto 4, 3) := by decide +kernel
theorem d54 : decode yB 54 = .ok (.iconst 0, 1) := by decide +kernel
theorem d55 : decode yB 55 = .ok (.ireturn, 1) := by decide +kernel
def site : List Cond := [.classLink "java/lang/String" 10 "java/lang/String", .fieldLink "java/lang/String" 38 "java/lang/String" "COMPACT_STRINGS" "Z", .fieldLink "java/lang/String" 15 "java/lang/String" "coder" "B", .fieldLink "java/lang/String" 9 "java/lang/String" "value" "[B", LEq.tab] ++ staticW "java/lang/String" 541 LEq.yN
def tab : Cond := tabOf yN yB 3 (some .boolean) site
def P (x t : Addr) (V : Cell) (cd : Int32) (n : Nat) (f : Nat → Int32) (y t' : Addr) (V' : Cell) (cd' : Int32) (k : Nat) (g : Nat → Int32) (z : Int32) (args : Array Value) (s : State) : Prop := args = #[.ref x, .ref y] ∧ Txt x t V cd n f s ∧ Txt y t' V' cd' k g s ∧ StaticIs s "java/lang/String" "COMPACT_STRINGS" "Z" (.int z) ∧ ¬ z = 0
/-- equals(Object) of two Strings: whether the texts are the same -/
theorem law (l : Launch) (x t : Addr) (V : Cell) (cd : Int32) (n : Nat) (f : Nat → Int32) (y t' : Addr) (V' : Cell) (cd' : Int32) (k : Nat) (g : Nat → Int32) (z : Int32) : Law l yN 2 1 1 14 yB 3 (some .boolean) site (P x t V cd n f y t' V' cd' k g z) (Says01 (SameT n f k g)) [] 0 0 := by
  refine Law.of_walk (plainFor_of_name (by decide +kernel)) (by decide +kernel) (by decide +kernel) (by decide) (fun _ _ h => by rw [h.1]; rfl) (fun _ U U' hal hh h => ⟨h.1, h.2.1.mv hal hh, h.2.2.1.mv hal hh, h.2.2.2.1.there hal hh, h.2.2.2.2⟩) (fun r U U' V V' h1 hal h2 h => Says01.mv r U U' V V' h1 hal h2 h) ?_
  intro p e s m args below meth c s₁ X0 hexec hbytes hml hret hlk hnm hown hh0 W hP
  obtain ⟨rfl, hx, hy, s1, hz⟩ := hP
  have c1 : Steps p.tables e below (s₁.setTop (entryFrame m #[.ref x, .ref y] 3)) (s₁.setTop (mkF m 2 #[.val (.ref x), .val (.ref y), .unset] [.ref y, .ref x])) := Steps.trans (entry rfl) (by
    show Steps p.tables e below (s₁.setTop (mkF m 0 #[.val (.ref x), .val (.ref y), .unset] [])) _
    refine XS.aloadN X0.here hexec rfl (hb hbytes d0) rfl rfl ?_
    refine XS.aloadN X0.here hexec rfl (hb hbytes d1) rfl rfl ?_
    exact Steps.refl _)
  by_cases hxy : x = y
  · have c2 : Steps p.tables e below (s₁.setTop (entryFrame m #[.ref x, .ref y] 3)) (s₁.setTop (mkF m 6 #[.val (.ref x), .val (.ref y), .unset] [.int 1])) := c1.trans (by
      refine acmpNo X0.here hexec rfl (hb hbytes d2) rfl rfl rfl (by simp [acmp, hxy]) ?_
      refine iconstV X0.here hexec rfl 1 (hb hbytes d5) (by decide) ?_
      exact Steps.refl _)
    subst hxy
    have ec : cd = cd' := by
      obtain ⟨D, fd, a1, a2, a3⟩ := hx.2.2.1
      obtain ⟨D', fd', b1, b2, b3⟩ := hy.2.2.1
      cases a1.symm.trans b1
      obtain ⟨q1, q2, q3, q4⟩ := a2.1
      obtain ⟨r1, r2, r3, r4⟩ := b2.1
      cases q4.symm.trans r4
      cases a3.symm.trans b3; rfl
    have et : t = t' := by
      obtain ⟨D, fd, a1, a2, a3⟩ := hx.2.1
      obtain ⟨D', fd', b1, b2, b3⟩ := hy.2.1
      cases a1.symm.trans b1
      obtain ⟨q1, q2, q3, q4⟩ := a2.1
      obtain ⟨r1, r2, r3, r4⟩ := b2.1
      cases q4.symm.trans r4
      cases a3.symm.trans b3; rfl
    subst ec et
    have ev : V = V' := by cases hx.2.2.2.1.1.symm.trans hy.2.2.2.1.1; rfl
    subst ev
    have hs : SameT n f k g := (Cod.eqv hx.2.2.2.2.1 hy.2.2.2.2.1 hx.2.2.2.2.2 hy.2.2.2.2.2).mp ⟨rfl, fun _ _ => rfl⟩
    exact ⟨s₁, some (.int 1), _, _, _, X0, rfl, rfl, rfl, (fun h => by cases h), ⟨1, rfl, hh0, Or.inl ⟨rfl, hs⟩⟩, fun fs hl => c2.trans (X0.ireturnOut hexec hret rfl (Or.inr (Or.inl rfl)) (hb hbytes d6) hl)⟩
  · have c2 : Steps p.tables e below (s₁.setTop (entryFrame m #[.ref x, .ref y] 3)) (s₁.setTop (mkF m 8 #[.val (.ref x), .val (.ref y), .unset] [.ref y])) := c1.trans (by
      refine acmpYes X0.here hexec rfl (pc0 := 2) rfl (hb hbytes d2) rfl rfl rfl (by simp [acmp, hxy]) (by decide) rfl ?_
      refine XS.aloadN X0.here hexec rfl (hb hbytes d7) rfl rfl ?_
      exact Steps.refl _)
    obtain ⟨T3, X3, q3, st3⟩ := cinst X0 hexec hown (wk W (.classLink "java/lang/String" 10 "java/lang/String")) (hy.mv X0.warmed.alike hh0).1 (g := (mkF m 8 #[.val (.ref x), .val (.ref y), .unset] [.ref y])) rfl (rest := []) rfl (hb hbytes d8)
    have hh3 := q3.trans hh0
    have c4 : Steps p.tables e below (s₁.setTop (entryFrame m #[.ref x, .ref y] 3)) (T3.setTop (mkF m 15 #[.val (.ref x), .val (.ref y), .unset] [.ref y])) := (c2.trans (st3 _ (Steps.refl _))).trans (by
      refine XS.ifNo X3.here hexec rfl (hb hbytes d11) rfl (i0_eq_f (by decide)) ?_
      refine XS.aloadN X3.here hexec rfl (hb hbytes d14) rfl rfl ?_
      exact Steps.refl _)
    obtain ⟨T5, X5, q5, st5⟩ := cself X3 hexec hown (wk W (.classLink "java/lang/String" 10 "java/lang/String")) (hy.mv X3.warmed.alike hh3).1 (g := (mkF m 15 #[.val (.ref x), .val (.ref y), .unset] [.ref y])) rfl (rest := []) rfl (hb hbytes d15)
    have hh5 := q5.trans hh3
    have c6 : Steps p.tables e below (s₁.setTop (entryFrame m #[.ref x, .ref y] 3)) (T5.setTop (mkF m 19 #[.val (.ref x), .val (.ref y), .val (.ref y)] [])) := (c4.trans (st5 _ (Steps.refl _))).trans (by
      refine XS.astoreN X5.here hexec rfl (hb hbytes d18) rfl rfl rfl ?_
      exact Steps.refl _)
    obtain ⟨T7, X7, q7, st7⟩ := X5.sget hexec hown (wk W (.fieldLink "java/lang/String" 38 "java/lang/String" "COMPACT_STRINGS" "Z")) s1 (fun _ _ h => by rw [hh5]; exact h) (g := (mkF m 19 #[.val (.ref x), .val (.ref y), .val (.ref y)] [])) rfl (hb hbytes d19)
    have hh7 := q7.trans hh5
    have c8 : Steps p.tables e below (s₁.setTop (entryFrame m #[.ref x, .ref y] 3)) (T7.setTop (mkF m 26 #[.val (.ref x), .val (.ref y), .val (.ref y)] [.ref x])) := (c6.trans (st7 _ (Steps.refl _))).trans (by
      refine XS.ifNo X7.here hexec rfl (hb hbytes d22) rfl (i0_eq_f hz) ?_
      refine XS.aloadN X7.here hexec rfl (hb hbytes d25) rfl rfl ?_
      exact Steps.refl _)
    obtain ⟨T9, X9, q9, st9⟩ := X7.hget hexec hown (wk W (.fieldLink "java/lang/String" 15 "java/lang/String" "coder" "B")) (hx.mv X7.warmed.alike hh7).2.2.1 (g := (mkF m 26 #[.val (.ref x), .val (.ref y), .val (.ref y)] [.ref x])) rfl (rest := []) rfl (hb hbytes d26)
    have hh9 := q9.trans hh7
    have c10 : Steps p.tables e below (s₁.setTop (entryFrame m #[.ref x, .ref y] 3)) (T9.setTop (mkF m 30 #[.val (.ref x), .val (.ref y), .val (.ref y)] [.ref y, .int cd])) := (c8.trans (st9 _ (Steps.refl _))).trans (by
      refine XS.aloadN X9.here hexec rfl (hb hbytes d29) rfl rfl ?_
      exact Steps.refl _)
    obtain ⟨T11, X11, q11, st11⟩ := X9.hget hexec hown (wk W (.fieldLink "java/lang/String" 15 "java/lang/String" "coder" "B")) (hy.mv X9.warmed.alike hh9).2.2.1 (g := (mkF m 30 #[.val (.ref x), .val (.ref y), .val (.ref y)] [.ref y, .int cd])) rfl (rest := [.int cd]) rfl (hb hbytes d30)
    have hh11 := q11.trans hh9
    have c12 : Steps p.tables e below (s₁.setTop (entryFrame m #[.ref x, .ref y] 3)) (T11.setTop (mkF m 33 #[.val (.ref x), .val (.ref y), .val (.ref y)] [.int cd', .int cd])) := c10.trans (st11 _ (Steps.refl _))
    by_cases hcd : cd = cd'
    · subst hcd
      have c13 : Steps p.tables e below (s₁.setTop (entryFrame m #[.ref x, .ref y] 3)) (T11.setTop (mkF m 37 #[.val (.ref x), .val (.ref y), .val (.ref y)] [.ref x])) := c12.trans (by
        refine XS.icmpNo X11.here hexec rfl (hb hbytes d33) rfl (ii_ne_f rfl) ?_
        refine XS.aloadN X11.here hexec rfl (hb hbytes d36) rfl rfl ?_
        exact Steps.refl _)
      obtain ⟨T14, X14, q14, st14⟩ := X11.hget hexec hown (wk W (.fieldLink "java/lang/String" 9 "java/lang/String" "value" "[B")) (hx.mv X11.warmed.alike hh11).2.1 (g := (mkF m 37 #[.val (.ref x), .val (.ref y), .val (.ref y)] [.ref x])) rfl (rest := []) rfl (hb hbytes d37)
      have hh14 := q14.trans hh11
      have c15 : Steps p.tables e below (s₁.setTop (entryFrame m #[.ref x, .ref y] 3)) (T14.setTop (mkF m 41 #[.val (.ref x), .val (.ref y), .val (.ref y)] [.ref y, .ref t])) := (c13.trans (st14 _ (Steps.refl _))).trans (by
        refine XS.aloadN X14.here hexec rfl (hb hbytes d40) rfl rfl ?_
        exact Steps.refl _)
      obtain ⟨T16, X16, q16, st16⟩ := X14.hget hexec hown (wk W (.fieldLink "java/lang/String" 9 "java/lang/String" "value" "[B")) (hy.mv X14.warmed.alike hh14).2.1 (g := (mkF m 41 #[.val (.ref x), .val (.ref y), .val (.ref y)] [.ref y, .ref t])) rfl (rest := [.ref t]) rfl (hb hbytes d41)
      have hh16 := q16.trans hh14
      have c17 : Steps p.tables e below (s₁.setTop (entryFrame m #[.ref x, .ref y] 3)) (T16.setTop (mkF m 44 #[.val (.ref x), .val (.ref y), .val (.ref y)] [.ref t', .ref t])) := c15.trans (st16 _ (Steps.refl _))
      obtain ⟨v18, T18, X18, E18, g18⟩ := X16.callS hexec (LEq.law l t V t' V') hown (wks W (staticW "java/lang/String" 541 LEq.yN)) (wk W LEq.tab) (W := 0) (Nat.le_of_ble_eq_true rfl) (Nat.le_of_ble_eq_true rfl) (Nat.le_refl _) (Nat.le_refl _) (g := (mkF m 44 #[.val (.ref x), .val (.ref y), .val (.ref y)] [.ref t', .ref t])) rfl (by rw [hml]; rfl) c17 (argsL := [.ref t, .ref t']) (rest := []) rfl rfl (by show 2 * 0 + 0 ≤ _; decide) (hb hbytes d44) (⟨rfl, hx.2.2.2.1.mv X16.warmed.alike hh16, hx.2.2.2.2.1.ty, hy.2.2.2.1.mv X16.warmed.alike hh16, hy.2.2.2.2.1.ty⟩)
      obtain ⟨v, rfl, q18, hv⟩ := E18
      have iff := Cod.eqv hx.2.2.2.2.1 hy.2.2.2.2.1 hx.2.2.2.2.2 hy.2.2.2.2.2
      rcases hv with ⟨rfl, he⟩ | ⟨rfl, he⟩
      · have c19 : Steps p.tables e below (s₁.setTop (entryFrame m #[.ref x, .ref y] 3)) (T18.setTop (mkF m 55 #[.val (.ref x), .val (.ref y), .val (.ref y)] [.int 1])) := Steps.trans g18 (by
          refine XS.ifNo X18.here hexec rfl (hb hbytes d47) rfl (i0_eq_f (by decide)) ?_
          refine iconstV X18.here hexec rfl 1 (hb hbytes d50) (by decide) ?_
          refine XS.goto X18.here hexec rfl (pc0 := 51) rfl (hb hbytes d51) (by decide) rfl ?_
          exact Steps.refl _)
        exact ⟨T18, some (.int 1), _, _, _, X18, rfl, rfl, rfl, (fun h => by cases h), ⟨1, rfl, q18.trans hh16, Or.inl ⟨rfl, iff.mp he⟩⟩, fun fs hl => c19.trans (X18.ireturnOut hexec hret rfl (Or.inr (Or.inl rfl)) (hb hbytes d55) hl)⟩
      · have c19 : Steps p.tables e below (s₁.setTop (entryFrame m #[.ref x, .ref y] 3)) (T18.setTop (mkF m 55 #[.val (.ref x), .val (.ref y), .val (.ref y)] [.int 0])) := Steps.trans g18 (by
          refine XS.ifYes X18.here hexec rfl (pc0 := 47) rfl (hb hbytes d47) rfl (i0_eq_t rfl) (by decide) rfl ?_
          refine iconstV X18.here hexec rfl 0 (hb hbytes d54) (by decide) ?_
          exact Steps.refl _)
        exact ⟨T18, some (.int 0), _, _, _, X18, rfl, rfl, rfl, (fun h => by cases h), ⟨0, rfl, q18.trans hh16, Or.inr ⟨rfl, fun q => he (iff.mpr q)⟩⟩, fun fs hl => c19.trans (X18.ireturnOut hexec hret rfl (Or.inr (Or.inl rfl)) (hb hbytes d55) hl)⟩
    · have c13 : Steps p.tables e below (s₁.setTop (entryFrame m #[.ref x, .ref y] 3)) (T11.setTop (mkF m 55 #[.val (.ref x), .val (.ref y), .val (.ref y)] [.int 0])) := c12.trans (by
        refine XS.icmpYes X11.here hexec rfl (pc0 := 33) rfl (hb hbytes d33) rfl (ii_ne_t hcd) (by decide) rfl ?_
        refine iconstV X11.here hexec rfl 0 (hb hbytes d54) (by decide) ?_
        exact Steps.refl _)
      exact ⟨T11, some (.int 0), _, _, _, X11, rfl, rfl, rfl, (fun h => by cases h), ⟨0, rfl, hh11, Or.inr ⟨rfl, Cod.dif hx.2.2.2.2.1 hy.2.2.2.2.1 hcd⟩⟩, fun fs hl => c13.trans (X11.ireturnOut hexec hret rfl (Or.inr (Or.inl rfl)) (hb hbytes d55) hl)⟩
theorem pays {l : Launch} {R : Room} {p : Program} {e : Env} {below : List Frame} {s : State} {sargs : Array Value} {len W : Nat} (x t : Addr) (V : Cell) (cd : Int32) (n : Nat) (f : Nat → Int32) (y t' : Addr) (V' : Cell) (cd' : Int32) (k : Nat) (g : Nat → Int32) (z : Int32) (htab : tab.before sargs s = true) (hfr : 2 ≤ R.frames) (hlo : W + 28 ≤ R.locals) :
    Back l R p e below s sargs yN len W (fun A₁ a₁ => A₁.cells + 0 ≤ R.cells ∧ A₁.slots + 0 ≤ R.slots ∧ P x t V cd n f y t' V' cd' k g z a₁ A₁.U) (fun A₁ _ v₁ B₁ => Says01 (SameT n f k g) v₁ A₁.U B₁.U ∧ B₁.locs = A₁.locs ++ [] ∧ B₁.cells = A₁.cells + 0 ∧ B₁.slots = A₁.slots + 0) :=
  (law l x t V cd n f y t' V' cd' k g z).pays htab hfr (by omega)
end SEq
end StrChars
namespace StrChars.Road
open Jvm Sem ClassFile Op Lib Jvm.Stand Jvm.Free Jvm.Free.XT
open Jvm.Lib.Cold (StaticIs)
/-- the words of String.equals(Object) -/
abbrev wordsEq : List Jvm.Cond := [.code SEq.yN SEq.yB 3 (some .boolean), .initialized ST, .classLink ST 10 ST, .fieldLink ST 38 ST "COMPACT_STRINGS" "Z", .fieldLink ST 15 ST "coder" "B", .fieldLink ST 9 ST "value" "[B", .methodLink ST 541 LEq.yN, .static LEq.yN, .code LEq.yN LEq.yB 3 (some .boolean), .initialized "java/lang/StringLatin1"]
theorem tabEq_of {a : Array Value} {s : State} (h : ∀ w ∈ wordsEq, w.before a s = true) : SEq.tab.before a s = true := by
  have hl : LEq.tab.before a s = true := unparts (wk h (.code LEq.yN LEq.yB 3 (some .boolean))) (wks h (.initialized LEq.yN.cls :: LEq.site))
  have q := consq hl h
  exact unparts (wk q (.code SEq.yN SEq.yB 3 (some .boolean))) (wks q (.initialized SEq.yN.cls :: SEq.site))
theorem movedEq {Z s : State} {a0 args : Array Value} (hZ : Z.Warmed39 s.vm) (hw : ∀ d ∈ wordsEq, d.before a0 Z = true) : ∀ d ∈ wordsEq, d.before args s = true := fun d hd => by
  have t : ∀ d ∈ wordsEq, (d.onTables && d.keepsFace) = true := by decide +kernel
  exact RoadKit.mv hZ (hw d hd) (t d hd)
/-- the road's facts of a String, as the laws ask it -/
theorem txt_of {Z U : State} {a0 : Array Value} {kI : Nat} (wi : (Jvm.Cond.instantiable ST kI).before a0 Z = true) (al : Z.vm.Alike U.vm) {x t : Addr} {kb : ClassId} {cs : List Int32} {cd N2 : Int32} {vs : List Value} (E : RoadKit.Exa Z U.heap x ST) (V : RoadKit.Fld Z U.heap x ST "value" "[B" (.ref t)) (C : RoadKit.Fld Z U.heap x ST "coder" "B" (.int cd)) (K : RoadKit.Arv Z U.heap t kb .byte N2 vs (.int 0)) (hc : CodA cs cd N2 vs) (hb : ∀ c ∈ cs, ¬ c < 0 ∧ ¬ (65535 : Int32) < c) (l2 : cs.length ≤ 4000) :
    ∃ A, Txt x t A cd cs.length (fun j => cs.getD j 0) U := by
  obtain ⟨A, K1, K2, K3, K4, K5, K6⟩ := K
  have hcod := hc.cod (by omega) K3 K5
  obtain ⟨D, fV, fC, hB, F1, F2, g1, g2, -, -⟩ := strObj wi al E V C
  exact ⟨A, ⟨_, hB.2.2.1, D, hB.1, rfl, by cases q : D.vm <;> first | rfl | exact absurd q (hB.2.1.2 _)⟩, Has.of hB F1 g1, Has.of hB F2 g2, ⟨K1.1, State.isArrayOf_alike al K1.2.1, K1.2.2, by rcases hcod with ⟨-, q, -⟩ | ⟨-, q, -⟩ <;> omega⟩, hcod, fun j hj => by
    have e : cs.getD j 0 = cs[j] := by simp [List.getD_eq_getElem?_getD, hj]
    show ¬ cs.getD j 0 < 0 ∧ ¬ 65535 < cs.getD j 0
    rw [e]; exact hb _ (List.getElem_mem _)⟩
theorem same_list (cs ds : List Int32) : SameT cs.length (fun j => cs.getD j 0) ds.length (fun j => ds.getD j 0) ↔ cs = ds := by
  constructor
  · rintro ⟨e, q⟩
    refine List.ext_getElem e fun j h1 h2 => ?_
    have := q j h1
    simpa [List.getD_eq_getElem?_getD, h1, h2] using this
  · rintro rfl
    exact ⟨rfl, fun _ _ => rfl⟩
/-- **equals(Object) OF TWO SUCH STRINGS**: 1 just where the chars are the same -/
theorem eqW {p : Program} {l : Launch} {e : Env} {R : Room} {s : State} {args : Array Value} {below : List Frame} {len W : Nat} {Z : State} {a0 : Array Value} {h : Heap} (hZ : Z.Warmed39 s.vm) (hw : ∀ d ∈ wordsEq, d.before a0 Z = true) {kI : Nat} (wi : (Jvm.Cond.instantiable ST kI).before a0 Z = true)
    {x t : Addr} {kb : ClassId} {cs : List Int32} {cd N2 : Int32} {vs : List Value} (E : RoadKit.Exa Z h x ST) (V : RoadKit.Fld Z h x ST "value" "[B" (.ref t)) (C : RoadKit.Fld Z h x ST "coder" "B" (.int cd)) (K : RoadKit.Arv Z h t kb .byte N2 vs (.int 0)) (hc : CodA cs cd N2 vs) (hb : ∀ c ∈ cs, ¬ c < 0 ∧ ¬ (65535 : Int32) < c) (l2 : cs.length ≤ 4000)
    {y t' : Addr} {kb' : ClassId} {ds : List Int32} {cd' N2' : Int32} {vs' : List Value} (E' : RoadKit.Exa Z h y ST) (V' : RoadKit.Fld Z h y ST "value" "[B" (.ref t')) (C' : RoadKit.Fld Z h y ST "coder" "B" (.int cd')) (K' : RoadKit.Arv Z h t' kb' .byte N2' vs' (.int 0)) (hc' : CodA ds cd' N2' vs') (hb' : ∀ c ∈ ds, ¬ c < 0 ∧ ¬ (65535 : Int32) < c) (l2' : ds.length ≤ 4000)
    {z : Int32} (S : RoadKit.Sta Z h ST "COMPACT_STRINGS" "Z" (.int z)) (hz : ¬ z = 0) (hfr : 2 ≤ R.frames) (hlo : W + 28 ≤ R.locals) :
    Back l R p e below s args (⟨"java/lang/String", "equals", "(Ljava/lang/Object;)Z"⟩ : MethodName) len W (fun P a => a = #[.ref x, .ref y] ∧ P.U.heap = h ∧ P.cells + 0 ≤ R.cells ∧ P.slots + 0 ≤ R.slots)
      (fun P _ v B => ∃ L, (((v = some (.int 1) ∧ cs = ds) ∨ (v = some (.int 0) ∧ ¬ cs = ds)) ∧ L = [] ∧ B.U.heap = h) ∧ B.locs = P.locs ++ L ∧ B.cells = P.cells + 0 ∧ B.slots = P.slots + 0) := by
  intro m meth c P g ig mk a X hg hsize hdg hW hn hp'
  obtain ⟨rfl, rfl, r1, r2⟩ := hp'
  have al : Z.vm.Alike P.U.vm := hZ.alike.trans X.warmed.alike
  obtain ⟨A, hx⟩ := txt_of wi al E V C K hc hb l2
  obtain ⟨A', hy⟩ := txt_of wi al E' V' C' K' hc' hb' l2'
  obtain ⟨v, B, X', ⟨⟨w, hv, hh, hq⟩, hl, hk, hs⟩, st⟩ := SEq.pays x t A cd cs.length (fun j => cs.getD j 0) y t' A' cd' ds.length (fun j => ds.getD j 0) z (tabEq_of (movedEq hZ hw)) hfr hlo m meth c P g ig mk _ X hg hsize hdg hW hn ⟨r1, r2, rfl, hx, hy, sta_is al S, hz⟩
  refine ⟨v, B, X', ⟨[], ⟨?_, rfl, hh⟩, hl, hk, hs⟩, st⟩
  rcases hq with ⟨rfl, q⟩ | ⟨rfl, q⟩
  · exact Or.inl ⟨hv, (same_list cs ds).mp q⟩
  · exact Or.inr ⟨hv, fun e => q ((same_list cs ds).mpr e)⟩
end StrChars.Road
namespace StrChars.Road
open Jvm Sem ClassFile Op Lib Jvm.Stand Jvm.Free Jvm.Free.XT
open Jvm.Lib.Cold (StaticIs)
/-- what backV says of its String, as the contracts of this text ask it: cs's low bytes, coder 0 -/
theorem codOf {cs : List Int32} {n : Nat} (hn : cs.length = n) (hb : ∀ c ∈ cs, ¬ 255 < c) : CodA cs 0 (Int32.ofNat n) ((cs.map lo8).map Value.int) := Or.inl ⟨rfl, by rw [hn], by simp [List.map_map, Function.comp_def], hb⟩
end StrChars.Road
end Jvm.Pilot.@@N@@

namespace Jvm.Pilot.@@N@@
open Jvm Jvm.ClassFile Sem Op Lib Jvm.Free Jvm.Stand Jvm.LawKit Jvm.RoadKit Bundle Jvm.Pilot.@@N@@.Jvm.D
theorem d1_0 : decode jdk_42_method_139_code 0 = .ok (.getstatic 38, 3) := by decide +kernel
theorem d1_3 : decode jdk_42_method_139_code 3 = .ok (.ifCond .eq 23, 3) := by decide +kernel
theorem d1_6 : decode jdk_42_method_139_code 6 = .ok (.iload_n 0, 1) := by decide +kernel
theorem d1_7 : decode jdk_42_method_139_code 7 = .ok (.invokestatic 1015, 3) := by decide +kernel
theorem d1_10 : decode jdk_42_method_139_code 10 = .ok (.ifCond .eq 16, 3) := by decide +kernel
theorem d1_13 : decode jdk_42_method_139_code 13 = .ok (.new 10, 3) := by decide +kernel
theorem d1_16 : decode jdk_42_method_139_code 16 = .ok (.dup, 1) := by decide +kernel
theorem d1_17 : decode jdk_42_method_139_code 17 = .ok (.iload_n 0, 1) := by decide +kernel
theorem d1_18 : decode jdk_42_method_139_code 18 = .ok (.invokestatic 1018, 3) := by decide +kernel
theorem d1_21 : decode jdk_42_method_139_code 21 = .ok (.iconst 0, 1) := by decide +kernel
theorem d1_22 : decode jdk_42_method_139_code 22 = .ok (.invokespecial 209, 3) := by decide +kernel
theorem d1_25 : decode jdk_42_method_139_code 25 = .ok (.areturn, 1) := by decide +kernel
theorem d2_0 : decode jdk_43_method_3_code 0 = .ok (.iload_n 0, 1) := by decide +kernel
theorem d2_1 : decode jdk_43_method_3_code 1 = .ok (.sipush 255, 3) := by decide +kernel
theorem d2_4 : decode jdk_43_method_3_code 4 = .ok (.if_icmp .gt 7, 3) := by decide +kernel
theorem d2_7 : decode jdk_43_method_3_code 7 = .ok (.iconst 1, 1) := by decide +kernel
theorem d2_8 : decode jdk_43_method_3_code 8 = .ok (.goto 4, 3) := by decide +kernel
theorem d2_12 : decode jdk_43_method_3_code 12 = .ok (.ireturn, 1) := by decide +kernel
theorem d3_0 : decode jdk_43_method_46_code 0 = .ok (.iconst 1, 1) := by decide +kernel
theorem d3_1 : decode jdk_43_method_46_code 1 = .ok (.newarray .byte, 2) := by decide +kernel
theorem d3_3 : decode jdk_43_method_46_code 3 = .ok (.dup, 1) := by decide +kernel
theorem d3_4 : decode jdk_43_method_46_code 4 = .ok (.iconst 0, 1) := by decide +kernel
theorem d3_5 : decode jdk_43_method_46_code 5 = .ok (.iload_n 0, 1) := by decide +kernel
theorem d3_6 : decode jdk_43_method_46_code 6 = .ok (.i2b, 1) := by decide +kernel
theorem d3_7 : decode jdk_43_method_46_code 7 = .ok (.bastore, 1) := by decide +kernel
theorem d3_8 : decode jdk_43_method_46_code 8 = .ok (.areturn, 1) := by decide +kernel
theorem d4_0 : decode jdk_42_method_151_code 0 = .ok (.aload_n 0, 1) := by decide +kernel
theorem d4_1 : decode jdk_42_method_151_code 1 = .ok (.invokespecial 1, 3) := by decide +kernel
theorem d4_4 : decode jdk_42_method_151_code 4 = .ok (.aload_n 0, 1) := by decide +kernel
theorem d4_5 : decode jdk_42_method_151_code 5 = .ok (.aload_n 1, 1) := by decide +kernel
theorem d4_6 : decode jdk_42_method_151_code 6 = .ok (.putfield 9, 3) := by decide +kernel
theorem d4_9 : decode jdk_42_method_151_code 9 = .ok (.aload_n 0, 1) := by decide +kernel
theorem d4_10 : decode jdk_42_method_151_code 10 = .ok (.iload_n 2, 1) := by decide +kernel
theorem d4_11 : decode jdk_42_method_151_code 11 = .ok (.putfield 15, 3) := by decide +kernel
theorem d4_14 : decode jdk_42_method_151_code 14 = .ok (.return_, 1) := by decide +kernel
theorem d6_0 : decode jdk_32_method_1_code 0 = .ok (.getstatic 1, 3) := by decide +kernel
theorem d6_3 : decode jdk_32_method_1_code 3 = .ok (.astore_n 0, 1) := by decide +kernel
theorem d6_4 : decode jdk_32_method_1_code 4 = .ok (.aload_n 0, 1) := by decide +kernel
theorem d6_5 : decode jdk_32_method_1_code 5 = .ok (.areturn, 1) := by decide +kernel
theorem d7_0 : decode jdk_72_method_26_code 0 = .ok (.getstatic 81, 3) := by decide +kernel
theorem d7_3 : decode jdk_72_method_26_code 3 = .ok (.areturn, 1) := by decide +kernel
theorem d8_0 : decode jdk_38_method_2_code 0 = .ok (.aload_n 0, 1) := by decide +kernel
theorem d8_1 : decode jdk_38_method_2_code 1 = .ok (.invokespecial 1, 3) := by decide +kernel
theorem d8_4 : decode jdk_38_method_2_code 4 = .ok (.aload_n 0, 1) := by decide +kernel
theorem d8_5 : decode jdk_38_method_2_code 5 = .ok (.getstatic 39, 3) := by decide +kernel
theorem d8_8 : decode jdk_38_method_2_code 8 = .ok (.putfield 9, 3) := by decide +kernel
theorem d8_11 : decode jdk_38_method_2_code 11 = .ok (.return_, 1) := by decide +kernel
theorem d9_0 : decode jdk_39_method_1_code 0 = .ok (.aload_n 0, 1) := by decide +kernel
theorem d9_1 : decode jdk_39_method_1_code 1 = .ok (.invokespecial 1, 3) := by decide +kernel
theorem d9_4 : decode jdk_39_method_1_code 4 = .ok (.aload_n 0, 1) := by decide +kernel
theorem d9_5 : decode jdk_39_method_1_code 5 = .ok (.iconst 0, 1) := by decide +kernel
theorem d9_6 : decode jdk_39_method_1_code 6 = .ok (.putfield 7, 3) := by decide +kernel
theorem d9_9 : decode jdk_39_method_1_code 9 = .ok (.return_, 1) := by decide +kernel
theorem d10_0 : decode jdk_22_method_1_code 0 = .ok (.aload_n 0, 1) := by decide +kernel
theorem d10_1 : decode jdk_22_method_1_code 1 = .ok (.invokespecial 1, 3) := by decide +kernel
theorem d10_4 : decode jdk_22_method_1_code 4 = .ok (.return_, 1) := by decide +kernel
theorem d11_0 : decode prog_6_method_1_code 0 = .ok (.aload_n 0, 1) := by decide +kernel
theorem d11_1 : decode prog_6_method_1_code 1 = .ok (.invokespecial 1, 3) := by decide +kernel
theorem d11_4 : decode prog_6_method_1_code 4 = .ok (.aload_n 0, 1) := by decide +kernel
theorem d11_5 : decode prog_6_method_1_code 5 = .ok (.new 7, 3) := by decide +kernel
theorem d11_8 : decode prog_6_method_1_code 8 = .ok (.dup, 1) := by decide +kernel
theorem d11_9 : decode prog_6_method_1_code 9 = .ok (.invokespecial 9, 3) := by decide +kernel
theorem d11_12 : decode prog_6_method_1_code 12 = .ok (.putfield 10, 3) := by decide +kernel
theorem d11_15 : decode prog_6_method_1_code 15 = .ok (.aload_n 0, 1) := by decide +kernel
theorem d11_16 : decode prog_6_method_1_code 16 = .ok (.aload_n 1, 1) := by decide +kernel
theorem d11_17 : decode prog_6_method_1_code 17 = .ok (.ldc 16, 2) := by decide +kernel
theorem d11_19 : decode prog_6_method_1_code 19 = .ok (.invokestatic 18, 3) := by decide +kernel
theorem d11_22 : decode prog_6_method_1_code 22 = .ok (.checkcast 24, 3) := by decide +kernel
theorem d11_25 : decode prog_6_method_1_code 25 = .ok (.putfield 26, 3) := by decide +kernel
theorem d11_28 : decode prog_6_method_1_code 28 = .ok (.aload_n 0, 1) := by decide +kernel
theorem d11_29 : decode prog_6_method_1_code 29 = .ok (.aload_n 2, 1) := by decide +kernel
theorem d11_30 : decode prog_6_method_1_code 30 = .ok (.aconst_null, 1) := by decide +kernel
theorem d11_31 : decode prog_6_method_1_code 31 = .ok (.invokevirtual 29, 3) := by decide +kernel
theorem d11_34 : decode prog_6_method_1_code 34 = .ok (.checkcast 35, 3) := by decide +kernel
theorem d11_37 : decode prog_6_method_1_code 37 = .ok (.putfield 37, 3) := by decide +kernel
theorem d11_40 : decode prog_6_method_1_code 40 = .ok (.aload_n 0, 1) := by decide +kernel
theorem d11_41 : decode prog_6_method_1_code 41 = .ok (.aload_n 3, 1) := by decide +kernel
theorem d11_42 : decode prog_6_method_1_code 42 = .ok (.aconst_null, 1) := by decide +kernel
theorem d11_43 : decode prog_6_method_1_code 43 = .ok (.invokevirtual 29, 3) := by decide +kernel
theorem d11_46 : decode prog_6_method_1_code 46 = .ok (.checkcast 24, 3) := by decide +kernel
theorem d11_49 : decode prog_6_method_1_code 49 = .ok (.putfield 41, 3) := by decide +kernel
theorem d11_52 : decode prog_6_method_1_code 52 = .ok (.aload_n 0, 1) := by decide +kernel
theorem d11_53 : decode prog_6_method_1_code 53 = .ok (.iload 4, 2) := by decide +kernel
theorem d11_55 : decode prog_6_method_1_code 55 = .ok (.putfield 44, 3) := by decide +kernel
theorem d11_58 : decode prog_6_method_1_code 58 = .ok (.aload_n 0, 1) := by decide +kernel
theorem d11_59 : decode prog_6_method_1_code 59 = .ok (.aload 5, 2) := by decide +kernel
theorem d11_61 : decode prog_6_method_1_code 61 = .ok (.ldc 48, 2) := by decide +kernel
theorem d11_63 : decode prog_6_method_1_code 63 = .ok (.invokestatic 18, 3) := by decide +kernel
theorem d11_66 : decode prog_6_method_1_code 66 = .ok (.checkcast 24, 3) := by decide +kernel
theorem d11_69 : decode prog_6_method_1_code 69 = .ok (.putfield 50, 3) := by decide +kernel
theorem d11_72 : decode prog_6_method_1_code 72 = .ok (.aload_n 0, 1) := by decide +kernel
theorem d11_73 : decode prog_6_method_1_code 73 = .ok (.aload 6, 2) := by decide +kernel
theorem d11_75 : decode prog_6_method_1_code 75 = .ok (.ldc 52, 2) := by decide +kernel
theorem d11_77 : decode prog_6_method_1_code 77 = .ok (.invokestatic 18, 3) := by decide +kernel
theorem d11_80 : decode prog_6_method_1_code 80 = .ok (.checkcast 24, 3) := by decide +kernel
theorem d11_83 : decode prog_6_method_1_code 83 = .ok (.putfield 54, 3) := by decide +kernel
theorem d11_86 : decode prog_6_method_1_code 86 = .ok (.aload_n 0, 1) := by decide +kernel
theorem d11_87 : decode prog_6_method_1_code 87 = .ok (.aload 7, 2) := by decide +kernel
theorem d11_89 : decode prog_6_method_1_code 89 = .ok (.ldc 56, 2) := by decide +kernel
theorem d11_91 : decode prog_6_method_1_code 91 = .ok (.invokestatic 18, 3) := by decide +kernel
theorem d11_94 : decode prog_6_method_1_code 94 = .ok (.checkcast 24, 3) := by decide +kernel
theorem d11_97 : decode prog_6_method_1_code 97 = .ok (.putfield 58, 3) := by decide +kernel
theorem d11_100 : decode prog_6_method_1_code 100 = .ok (.aload 8, 2) := by decide +kernel
theorem d11_102 : decode prog_6_method_1_code 102 = .ok (.invokeinterface 60 1, 5) := by decide +kernel
theorem d11_107 : decode prog_6_method_1_code 107 = .ok (.astore 11, 2) := by decide +kernel
theorem d11_109 : decode prog_6_method_1_code 109 = .ok (.aload 11, 2) := by decide +kernel
theorem d11_111 : decode prog_6_method_1_code 111 = .ok (.invokeinterface 66 1, 5) := by decide +kernel
theorem d11_116 : decode prog_6_method_1_code 116 = .ok (.ifCond .eq 48, 3) := by decide +kernel
theorem d11_164 : decode prog_6_method_1_code 164 = .ok (.aload_n 0, 1) := by decide +kernel
theorem d11_165 : decode prog_6_method_1_code 165 = .ok (.aload 9, 2) := by decide +kernel
theorem d11_167 : decode prog_6_method_1_code 167 = .ok (.invokestatic 96, 3) := by decide +kernel
theorem d11_170 : decode prog_6_method_1_code 170 = .ok (.putfield 100, 3) := by decide +kernel
theorem d11_173 : decode prog_6_method_1_code 173 = .ok (.aload_n 0, 1) := by decide +kernel
theorem d11_174 : decode prog_6_method_1_code 174 = .ok (.aload 10, 2) := by decide +kernel
theorem d11_176 : decode prog_6_method_1_code 176 = .ok (.aconst_null, 1) := by decide +kernel
theorem d11_177 : decode prog_6_method_1_code 177 = .ok (.invokevirtual 29, 3) := by decide +kernel
theorem d11_180 : decode prog_6_method_1_code 180 = .ok (.checkcast 24, 3) := by decide +kernel
theorem d11_183 : decode prog_6_method_1_code 183 = .ok (.putfield 103, 3) := by decide +kernel
theorem d11_186 : decode prog_6_method_1_code 186 = .ok (.return_, 1) := by decide +kernel
theorem d12_0 : decode jdk_94_method_16_code 0 = .ok (.aload_n 0, 1) := by decide +kernel
theorem d12_1 : decode jdk_94_method_16_code 1 = .ok (.invokespecial 87, 3) := by decide +kernel
theorem d12_4 : decode jdk_94_method_16_code 4 = .ok (.aload_n 0, 1) := by decide +kernel
theorem d12_5 : decode jdk_94_method_16_code 5 = .ok (.iconst 0, 1) := by decide +kernel
theorem d12_6 : decode jdk_94_method_16_code 6 = .ok (.putfield 1, 3) := by decide +kernel
theorem d12_9 : decode jdk_94_method_16_code 9 = .ok (.aload_n 0, 1) := by decide +kernel
theorem d12_10 : decode jdk_94_method_16_code 10 = .ok (.iconst 0, 1) := by decide +kernel
theorem d12_11 : decode jdk_94_method_16_code 11 = .ok (.putfield 64, 3) := by decide +kernel
theorem d12_14 : decode jdk_94_method_16_code 14 = .ok (.return_, 1) := by decide +kernel
theorem d13_0 : decode jdk_69_method_7_code 0 = .ok (.aload_n 0, 1) := by decide +kernel
theorem d13_1 : decode jdk_69_method_7_code 1 = .ok (.invokespecial 43, 3) := by decide +kernel
theorem d13_4 : decode jdk_69_method_7_code 4 = .ok (.aload_n 0, 1) := by decide +kernel
theorem d13_5 : decode jdk_69_method_7_code 5 = .ok (.ldc 92, 2) := by decide +kernel
theorem d13_7 : decode jdk_69_method_7_code 7 = .ok (.putfield 81, 3) := by decide +kernel
theorem d13_10 : decode jdk_69_method_7_code 10 = .ok (.return_, 1) := by decide +kernel
theorem d14_0 : decode jdk_71_method_1_code 0 = .ok (.aload_n 0, 1) := by decide +kernel
theorem d14_1 : decode jdk_71_method_1_code 1 = .ok (.invokespecial 1, 3) := by decide +kernel
theorem d14_4 : decode jdk_71_method_1_code 4 = .ok (.return_, 1) := by decide +kernel
theorem d15_0 : decode jdk_31_method_11_code 0 = .ok (.aload_n 0, 1) := by decide +kernel
theorem d15_1 : decode jdk_31_method_11_code 1 = .ok (.ifnonnull 12, 3) := by decide +kernel
theorem d15_13 : decode jdk_31_method_11_code 13 = .ok (.aload_n 0, 1) := by decide +kernel
theorem d15_14 : decode jdk_31_method_11_code 14 = .ok (.areturn, 1) := by decide +kernel
theorem d16_0 : decode jdk_32_method_15_code 0 = .ok (.aload_n 0, 1) := by decide +kernel
theorem d16_1 : decode jdk_32_method_15_code 1 = .ok (.getfield 13, 3) := by decide +kernel
theorem d16_4 : decode jdk_32_method_15_code 4 = .ok (.ifnull 10, 3) := by decide +kernel
theorem d16_7 : decode jdk_32_method_15_code 7 = .ok (.aload_n 0, 1) := by decide +kernel
theorem d16_8 : decode jdk_32_method_15_code 8 = .ok (.getfield 13, 3) := by decide +kernel
theorem d16_11 : decode jdk_32_method_15_code 11 = .ok (.goto 4, 3) := by decide +kernel
theorem d16_14 : decode jdk_32_method_15_code 14 = .ok (.aload_n 1, 1) := by decide +kernel
theorem d16_15 : decode jdk_32_method_15_code 15 = .ok (.areturn, 1) := by decide +kernel
theorem d17_0 : decode jdk_38_method_55_code 0 = .ok (.new 267, 3) := by decide +kernel
theorem d17_3 : decode jdk_38_method_55_code 3 = .ok (.dup, 1) := by decide +kernel
theorem d17_4 : decode jdk_38_method_55_code 4 = .ok (.aload_n 0, 1) := by decide +kernel
theorem d17_5 : decode jdk_38_method_55_code 5 = .ok (.invokespecial 269, 3) := by decide +kernel
theorem d17_8 : decode jdk_38_method_55_code 8 = .ok (.areturn, 1) := by decide +kernel
theorem d18_0 : decode jdk_49_method_1_code 0 = .ok (.aload_n 0, 1) := by decide +kernel
theorem d18_1 : decode jdk_49_method_1_code 1 = .ok (.aload_n 1, 1) := by decide +kernel
theorem d18_2 : decode jdk_49_method_1_code 2 = .ok (.putfield 1, 3) := by decide +kernel
theorem d18_5 : decode jdk_49_method_1_code 5 = .ok (.aload_n 0, 1) := by decide +kernel
theorem d18_6 : decode jdk_49_method_1_code 6 = .ok (.invokespecial 7, 3) := by decide +kernel
theorem d18_9 : decode jdk_49_method_1_code 9 = .ok (.aload_n 0, 1) := by decide +kernel
theorem d18_10 : decode jdk_49_method_1_code 10 = .ok (.iconst (-1), 1) := by decide +kernel
theorem d18_11 : decode jdk_49_method_1_code 11 = .ok (.putfield 13, 3) := by decide +kernel
theorem d18_14 : decode jdk_49_method_1_code 14 = .ok (.aload_n 0, 1) := by decide +kernel
theorem d18_15 : decode jdk_49_method_1_code 15 = .ok (.aload_n 0, 1) := by decide +kernel
theorem d18_16 : decode jdk_49_method_1_code 16 = .ok (.getfield 1, 3) := by decide +kernel
theorem d18_19 : decode jdk_49_method_1_code 19 = .ok (.getfield 17, 3) := by decide +kernel
theorem d18_22 : decode jdk_49_method_1_code 22 = .ok (.putfield 22, 3) := by decide +kernel
theorem d18_25 : decode jdk_49_method_1_code 25 = .ok (.return_, 1) := by decide +kernel
theorem d19_0 : decode jdk_49_method_2_code 0 = .ok (.aload_n 0, 1) := by decide +kernel
theorem d19_1 : decode jdk_49_method_2_code 1 = .ok (.getfield 25, 3) := by decide +kernel
theorem d19_4 : decode jdk_49_method_2_code 4 = .ok (.aload_n 0, 1) := by decide +kernel
theorem d19_5 : decode jdk_49_method_2_code 5 = .ok (.getfield 1, 3) := by decide +kernel
theorem d19_8 : decode jdk_49_method_2_code 8 = .ok (.getfield 28, 3) := by decide +kernel
theorem d19_11 : decode jdk_49_method_2_code 11 = .ok (.if_icmp .eq 7, 3) := by decide +kernel
theorem d19_18 : decode jdk_49_method_2_code 18 = .ok (.iconst 0, 1) := by decide +kernel
theorem d19_19 : decode jdk_49_method_2_code 19 = .ok (.ireturn, 1) := by decide +kernel
theorem d20_0 : decode jdk_72_method_39_code 0 = .ok (.aload_n 0, 1) := by decide +kernel
theorem d20_1 : decode jdk_72_method_39_code 1 = .ok (.instanceof 101, 3) := by decide +kernel
theorem d20_4 : decode jdk_72_method_39_code 4 = .ok (.ifCond .eq 5, 3) := by decide +kernel
theorem d20_7 : decode jdk_72_method_39_code 7 = .ok (.aload_n 0, 1) := by decide +kernel
theorem d20_8 : decode jdk_72_method_39_code 8 = .ok (.areturn, 1) := by decide +kernel
theorem d21_0 : decode prog_6_method_7_code 0 = .ok (.invokestatic 113, 3) := by decide +kernel
theorem d21_3 : decode prog_6_method_7_code 3 = .ok (.astore_n 1, 1) := by decide +kernel
theorem d21_4 : decode prog_6_method_7_code 4 = .ok (.aload_n 0, 1) := by decide +kernel
theorem d21_5 : decode prog_6_method_7_code 5 = .ok (.getfield 41, 3) := by decide +kernel
theorem d21_8 : decode prog_6_method_7_code 8 = .ok (.ifnull 21, 3) := by decide +kernel
theorem d21_11 : decode prog_6_method_7_code 11 = .ok (.aload_n 0, 1) := by decide +kernel
theorem d21_12 : decode prog_6_method_7_code 12 = .ok (.getfield 37, 3) := by decide +kernel
theorem d21_15 : decode prog_6_method_7_code 15 = .ok (.ifnull 14, 3) := by decide +kernel
theorem d21_18 : decode prog_6_method_7_code 18 = .ok (.aload_n 0, 1) := by decide +kernel
theorem d21_19 : decode prog_6_method_7_code 19 = .ok (.getfield 37, 3) := by decide +kernel
theorem d21_22 : decode prog_6_method_7_code 22 = .ok (.invokevirtual 117, 3) := by decide +kernel
theorem d21_25 : decode prog_6_method_7_code 25 = .ok (.invokestatic 120, 3) := by decide +kernel
theorem d21_28 : decode prog_6_method_7_code 28 = .ok (.astore_n 1, 1) := by decide +kernel
theorem d21_29 : decode prog_6_method_7_code 29 = .ok (.aload_n 1, 1) := by decide +kernel
theorem d21_30 : decode prog_6_method_7_code 30 = .ok (.areturn, 1) := by decide +kernel
theorem d22_0 : decode jdk_32_method_7_code 0 = .ok (.aload_n 0, 1) := by decide +kernel
theorem d22_1 : decode jdk_32_method_7_code 1 = .ok (.getfield 13, 3) := by decide +kernel
theorem d22_4 : decode jdk_32_method_7_code 4 = .ok (.ifnonnull 7, 3) := by decide +kernel
theorem d22_7 : decode jdk_32_method_7_code 7 = .ok (.iconst 1, 1) := by decide +kernel
theorem d22_8 : decode jdk_32_method_7_code 8 = .ok (.goto 4, 3) := by decide +kernel
theorem d22_11 : decode jdk_32_method_7_code 11 = .ok (.iconst 0, 1) := by decide +kernel
theorem d22_12 : decode jdk_32_method_7_code 12 = .ok (.ireturn, 1) := by decide +kernel
theorem d23_0 : decode jdk_32_method_3_code 0 = .ok (.new 2, 3) := by decide +kernel
theorem d23_3 : decode jdk_32_method_3_code 3 = .ok (.dup, 1) := by decide +kernel
theorem d23_4 : decode jdk_32_method_3_code 4 = .ok (.aload_n 0, 1) := by decide +kernel
theorem d23_5 : decode jdk_32_method_3_code 5 = .ok (.invokestatic 17, 3) := by decide +kernel
theorem d23_8 : decode jdk_32_method_3_code 8 = .ok (.invokespecial 23, 3) := by decide +kernel
theorem d23_11 : decode jdk_32_method_3_code 11 = .ok (.areturn, 1) := by decide +kernel
theorem d24_0 : decode jdk_31_method_10_code 0 = .ok (.aload_n 0, 1) := by decide +kernel
theorem d24_1 : decode jdk_31_method_10_code 1 = .ok (.ifnonnull 11, 3) := by decide +kernel
theorem d24_12 : decode jdk_31_method_10_code 12 = .ok (.aload_n 0, 1) := by decide +kernel
theorem d24_13 : decode jdk_31_method_10_code 13 = .ok (.areturn, 1) := by decide +kernel
theorem d25_0 : decode jdk_32_method_2_code 0 = .ok (.aload_n 0, 1) := by decide +kernel
theorem d25_1 : decode jdk_32_method_2_code 1 = .ok (.invokespecial 7, 3) := by decide +kernel
theorem d25_4 : decode jdk_32_method_2_code 4 = .ok (.aload_n 0, 1) := by decide +kernel
theorem d25_5 : decode jdk_32_method_2_code 5 = .ok (.aload_n 1, 1) := by decide +kernel
theorem d25_6 : decode jdk_32_method_2_code 6 = .ok (.putfield 13, 3) := by decide +kernel
theorem d25_9 : decode jdk_32_method_2_code 9 = .ok (.return_, 1) := by decide +kernel
theorem d31_0 : decode prog_7_method_4_code 0 = .ok (.aload_n 0, 1) := by decide +kernel
theorem d31_1 : decode prog_7_method_4_code 1 = .ok (.getfield 29, 3) := by decide +kernel
theorem d31_4 : decode prog_7_method_4_code 4 = .ok (.areturn, 1) := by decide +kernel
theorem d32_0 : decode jdk_32_method_6_code 0 = .ok (.aload_n 0, 1) := by decide +kernel
theorem d32_1 : decode jdk_32_method_6_code 1 = .ok (.getfield 13, 3) := by decide +kernel
theorem d32_4 : decode jdk_32_method_6_code 4 = .ok (.ifnull 7, 3) := by decide +kernel
theorem d32_7 : decode jdk_32_method_6_code 7 = .ok (.iconst 1, 1) := by decide +kernel
theorem d32_8 : decode jdk_32_method_6_code 8 = .ok (.goto 4, 3) := by decide +kernel
theorem d32_11 : decode jdk_32_method_6_code 11 = .ok (.iconst 0, 1) := by decide +kernel
theorem d32_12 : decode jdk_32_method_6_code 12 = .ok (.ireturn, 1) := by decide +kernel
theorem d33_0 : decode jdk_32_method_5_code 0 = .ok (.aload_n 0, 1) := by decide +kernel
theorem d33_1 : decode jdk_32_method_5_code 1 = .ok (.getfield 13, 3) := by decide +kernel
theorem d33_4 : decode jdk_32_method_5_code 4 = .ok (.ifnonnull 13, 3) := by decide +kernel
theorem d33_17 : decode jdk_32_method_5_code 17 = .ok (.aload_n 0, 1) := by decide +kernel
theorem d33_18 : decode jdk_32_method_5_code 18 = .ok (.getfield 13, 3) := by decide +kernel
theorem d33_21 : decode jdk_32_method_5_code 21 = .ok (.areturn, 1) := by decide +kernel
theorem pn_0 : plainName "java/lang/StringLatin1" = true := by first | (simp [plainName, overriddenIn]; done) | decide +kernel
theorem pn_1 : plainName "java/lang/String" = true := by first | (simp [plainName, overriddenIn]; done) | decide +kernel
theorem pn_2 : plainName "java/util/Objects" = true := by first | (simp [plainName, overriddenIn]; done) | decide +kernel
theorem pn_3 : plainName "java/util/Optional" = true := by first | (simp [plainName, overriddenIn]; done) | decide +kernel
theorem pn_4 : plainName "java/util/AbstractCollection" = true := by first | (simp [plainName, overriddenIn]; done) | decide +kernel
theorem pn_5 : plainName "java/util/AbstractList" = true := by first | (simp [plainName, overriddenIn]; done) | decide +kernel
theorem pn_6 : plainName "java/util/ArrayList" = true := by first | (simp [plainName, overriddenIn]; done) | decide +kernel
theorem pn_7 : plainName "java/util/Map" = true := by first | (simp [plainName, overriddenIn]; done) | decide +kernel
theorem pn_8 : plainName "java/util/AbstractMap" = true := by first | (simp [plainName, overriddenIn]; done) | decide +kernel
theorem pn_9 : plainName "java/util/HashMap" = true := by first | (simp [plainName, overriddenIn]; done) | decide +kernel
theorem pn_10 : plainName "java/util/LinkedHashMap" = true := by first | (simp [plainName, overriddenIn]; done) | decide +kernel
theorem pn_11 : plainName "java/util/ArrayList$Itr" = true := by first | (simp [plainName, overriddenIn]; done) | decide +kernel
theorem pn_12 : plainName "com/example/legacy_to_latest/legacytolatest/EntityClass" = true := by first | (simp [plainName, overriddenIn]; done) | decide +kernel
theorem pn_13 : plainName "com/example/legacy_to_latest/legacytolatest/EntityClass$Morphia" = true := by first | (simp [plainName, overriddenIn]; done) | decide +kernel
theorem pn_14 : plainName "com/example/legacy_to_latest/legacytolatest/EntityClassGetDiscriminatorKeyPinLaw" = true := by first | (simp [plainName, overriddenIn]; done) | decide +kernel
theorem pd_0 : parseMethodDescriptor "(C)Z" = some ⟨[.char], some .boolean⟩ := by decide +kernel
theorem pd_1 : parseMethodDescriptor "(C)[B" = some ⟨[.char], some (.array .byte)⟩ := by decide +kernel
theorem pd_2 : parseMethodDescriptor "([BB)V" = some ⟨[(.array .byte), .byte], none⟩ := by decide +kernel
theorem pd_3 : parseMethodDescriptor "(Ljava/lang/Object;)Ljava/lang/Object;" = some ⟨[(.object "java/lang/Object")], some (.object "java/lang/Object")⟩ := by decide +kernel
theorem pd_4 : parseMethodDescriptor "(Ljava/lang/Object;)V" = some ⟨[(.object "java/lang/Object")], none⟩ := by decide +kernel
theorem pd_5 : parseMethodDescriptor "()V" = some ⟨[], none⟩ := by decide +kernel
theorem pd_6 : parseMethodDescriptor "(Ljava/util/ArrayList;)V" = some ⟨[(.object "java/util/ArrayList")], none⟩ := by decide +kernel
theorem pd_7 : parseMethodDescriptor "(Ljava/lang/Object;Ljava/lang/String;)Ljava/lang/Object;" = some ⟨[(.object "java/lang/Object"), (.object "java/lang/String")], some (.object "java/lang/Object")⟩ := by decide +kernel
theorem pd_8 : parseMethodDescriptor "()Ljava/util/Iterator;" = some ⟨[], some (.object "java/util/Iterator")⟩ := by decide +kernel
theorem pd_9 : parseMethodDescriptor "()Z" = some ⟨[], some .boolean⟩ := by decide +kernel
theorem pd_10 : parseMethodDescriptor "(Ljava/util/Map;)Ljava/util/Map;" = some ⟨[(.object "java/util/Map")], some (.object "java/util/Map")⟩ := by decide +kernel
theorem pd_11 : parseMethodDescriptor "()Ljava/util/Optional;" = some ⟨[], some (.object "java/util/Optional")⟩ := by decide +kernel
theorem pd_12 : parseMethodDescriptor "()Ljava/lang/String;" = some ⟨[], some (.object "java/lang/String")⟩ := by decide +kernel
theorem pd_13 : parseMethodDescriptor "(Ljava/lang/Object;)Ljava/util/Optional;" = some ⟨[(.object "java/lang/Object")], some (.object "java/util/Optional")⟩ := by decide +kernel
theorem pd_14 : parseMethodDescriptor "(C)Ljava/lang/String;" = some ⟨[.char], some (.object "java/lang/String")⟩ := by decide +kernel
theorem pd_15 : parseMethodDescriptor "([C)V" = some ⟨[(.array .char)], none⟩ := by decide +kernel
theorem pd_16 : parseMethodDescriptor "()Ljava/util/Map;" = some ⟨[], some (.object "java/util/Map")⟩ := by decide +kernel
theorem pd_17 : parseMethodDescriptor "(Ljava/lang/String;Ljava/util/Optional;Ljava/util/Optional;ZLjava/lang/String;Ljava/lang/String;Ljava/lang/String;Ljava/util/List;Ljava/util/Map;Ljava/util/Optional;)V" = some ⟨[(.object "java/lang/String"), (.object "java/util/Optional"), (.object "java/util/Optional"), .boolean, (.object "java/lang/String"), (.object "java/lang/String"), (.object "java/lang/String"), (.object "java/util/List"), (.object "java/util/Map"), (.object "java/util/Optional")], none⟩ := by decide +kernel
theorem pd_18 : parseMethodDescriptor "()Ljava/lang/Object;" = some ⟨[], some (.object "java/lang/Object")⟩ := by decide +kernel
theorem pd_19 : parseMethodDescriptor "(Ljava/lang/Object;)Z" = some ⟨[(.object "java/lang/Object")], some .boolean⟩ := by decide +kernel
theorem own_osz {Z : State} {n0 : Nat} {h : Heap} (O : Old Z n0 h) : n0 ≤ h.size := O.1 ▸ O.2.1

def Lat (cs : List Int32) : Prop := (∀ c ∈ cs, ¬ c < 0 ∧ ¬ (255 : Int32) < c) ∧ cs.length ≤ 4000
theorem own_up {cs : List Int32} (h : Lat cs) : ∀ c ∈ cs, ¬ c < 0 ∧ ¬ (65535 : Int32) < c := fun c hc => ⟨(h.1 c hc).1, fun q => (h.1 c hc).2 (by rw [Int32.lt_iff_toInt_lt] at q ⊢; have e1 : (65535 : Int32).toInt = 65535 := rfl; have e2 : (255 : Int32).toInt = 255 := rfl; omega)⟩
theorem own_cod {cs : List Int32} (h : Lat cs) : StrChars.Road.CodA cs 0 (Int32.ofNat cs.length) ((cs.map StrChars.lo8).map Value.int) := StrChars.Road.codOf rfl (fun c hc => (h.1 c hc).2)
abbrev strV (cs : List Int32) : List Value := (cs.map StrChars.lo8).map Value.int
theorem own_lat0 : Lat [] := ⟨fun c hc => (nomatch hc), by decide⟩
theorem own_latC {c : Int32} {cs : List Int32} (h1 : ¬ c < 0 ∧ ¬ (255 : Int32) < c) (h : Lat cs) (hl : cs.length < 4000) : Lat (c :: cs) := ⟨fun d hd => by
  rcases List.mem_cons.mp hd with rfl | q
  · exact h1
  · exact h.1 d q, by simp only [List.length_cons]; omega⟩
theorem own_latD {cs : List Int32} (h1 : ∀ c ∈ cs, ¬ c < 0 ∧ ¬ (255 : Int32) < c) (h2 : cs.length ≤ 4000) : Lat cs := ⟨h1, h2⟩
theorem own_range {x : Int32} (h1 : 0 ≤ x.toInt) (h2 : x.toInt ≤ 255) : ¬ x < 0 ∧ ¬ (255 : Int32) < x := by
  have e0 : (0 : Int32).toInt = 0 := rfl
  have e2 : (255 : Int32).toInt = 255 := rfl
  constructor <;> rw [Int32.lt_iff_toInt_lt] <;> omega


theorem own_safe0 {Z : State} {vm : Vm} {h : Heap} {x : Addr} : Safe Z [] vm h x := fun B => by obtain ⟨p, hp, -⟩ := B; cases hp
theorem own_safearr {Z : State} {EL : List (String × Nat)} {vm : Vm} {h : Heap} {a : Addr} {k : ClassId} {ty : FieldType} {z : Int32} {vs : List Value} {d : Value} (hal : Z.vm.Alike vm) (V : Arv Z h a k ty z vs d) (ht : ty ≠ .byte) : Safe Z EL vm h a := by
  obtain ⟨c, A, -⟩ := V
  exact Safe.arr hal A ht


theorem own_lo8i (x : Int32) : (x.toInt8.toInt32).toInt8.toInt32 = StrChars.lo8 x := by
  show (x.toInt8.toInt32).toInt8.toInt32 = x.toInt8.toInt32
  rw [Int8.toInt8_toInt32]


theorem own_eqint {s : State} {args : Array Value} {a : Term} {k : Int32} (h : (Cond.eq a (Term.int k)).value args s none s [] = some true) : a.eval args s none [] s = some (.int k) := by
  obtain ⟨x, y, h1, h2, h3, h4⟩ := cmp_v (Or.inl h)
  have hy : y = .int k := by simpa [Term.eval] using h2.symm
  subst hy
  obtain ⟨z, rfl⟩ := h4
  have : (Cond.eq a (Term.int k)).value args s none s [] = some (decide (z = k)) := by simp [Cond.value, h1, Term.int_eval]
  rw [h1, gotT this h]
theorem own_len {s : State} {args : Array Value} {V : Term} {t : Addr} {cl : Cell} {z : Int32} (h : (Term.length V).eval args s none [] s = some (.int z)) (hV : V.eval args s none [] s = some (.ref t)) (hc : s.heap[t]? = some cl) : cl.slots.size < 2 ^ 31 ∧ cl.slots.size.toInt32 = z := by
  simp only [Term.eval, hV, Option.bind_eq_bind, Option.bind_some] at h
  cases ha : s.arrayAt? t with
  | none => simp [ha] at h
  | some c' =>
    have e : c' = cl := by
      obtain ⟨q, -⟩ := State.arrayAt?_spec ha
      exact Option.some.inj (q.symm.trans hc)
    subst e
    simp [ha] at h
    exact ⟨h.1, h.2⟩
theorem own_elem {s : State} {args : Array Value} {V : Term} {t : Addr} {cl : Cell} {i v : Int32} {j : Nat} (h : (Cond.eq (Term.elem V (Term.int i)) (Term.int v)).value args s none s [] = some true) (hV : V.eval args s none [] s = some (.ref t)) (hc : s.heap[t]? = some cl) (hj : i.toNatClampNeg = j) : cl.slots[j]? = some (.int v) := by
  have q := (elem_in (own_eqint h) hV (Term.int_eval i) hc).2
  rw [hj] at q; exact q

def own_EL : List (String × Nat) := [("com/example/legacy_to_latest/legacytolatest/EntityClassGetDiscriminatorKeyPinLaw", 42), ("com/example/legacy_to_latest/legacytolatest/EntityClassGetDiscriminatorKeyPinLaw", 44), ("com/example/legacy_to_latest/legacytolatest/EntityClassGetDiscriminatorKeyPinLaw", 46), ("com/example/legacy_to_latest/legacytolatest/EntityClassGetDiscriminatorKeyPinLaw", 65), ("com/example/legacy_to_latest/legacytolatest/EntityClassGetDiscriminatorKeyPinLaw", 71)]
theorem own_EW {Z : State} {a0 : Array Value} (hw : ∀ d ∈ tables_1, d.before a0 Z = true) : EW Z a0 own_EL := (EW.cons (hw _ (List.mem_of_getElem? (i := 41) rfl)) (by decide) (EW.cons (hw _ (List.mem_of_getElem? (i := 44) rfl)) (by decide) (EW.cons (hw _ (List.mem_of_getElem? (i := 45) rfl)) (by decide) (EW.cons (hw _ (List.mem_of_getElem? (i := 245) rfl)) (by decide) (EW.cons (hw _ (List.mem_of_getElem? (i := 254) rfl)) (by decide) EW.nil)))))
theorem own_SA {Z : State} {a0 : Array Value} (hw : ∀ d ∈ tables_1, d.before a0 Z = true) : ∀ a ∈ Bundle.stringAtoms, a.before a0 Z = true := fun d hd => hw d ((by decide +kernel : ∀ d ∈ Bundle.stringAtoms, d ∈ tables_1) d hd)
theorem own_mem {p : String × Nat} (h : p ∈ own_EL) : p ∈ own_EL := h
theorem own_wn {Z : State} {a0 : Array Value} (hw : ∀ d ∈ tables_1, d.before a0 Z = true) : ∀ d ∈ StrChars.Road.words, d.before a0 Z = true := fun d hd => hw d ((by decide +kernel : ∀ d ∈ StrChars.Road.words, d ∈ tables_1) d hd)
theorem own_we {Z : State} {a0 : Array Value} (hw : ∀ d ∈ tables_1, d.before a0 Z = true) : ∀ d ∈ StrChars.Road.wordsEq, d.before a0 Z = true := fun d hd => hw d ((by decide +kernel : ∀ d ∈ StrChars.Road.wordsEq, d ∈ tables_1) d hd)

theorem own_narC {x : Int32} (h : ¬ x < 0 ∧ ¬ (255 : Int32) < x) : nar .char x = x := by
  have t : ∀ k : Fin 256, nar .char (Int32.ofNat k.val) = Int32.ofNat k.val := by decide +kernel
  have e0 : (0 : Int32).toInt = 0 := rfl
  have e2 : (255 : Int32).toInt = 255 := rfl
  have h1 := h.1; have h2 := h.2
  rw [Int32.lt_iff_toInt_lt] at h1 h2
  have e : x = Int32.ofNat x.toInt.toNat := by
    apply Int32.toInt_inj.mp
    rw [Int32.toInt_ofNat_small (by omega)]; omega
  rw [e]
  exact t ⟨x.toInt.toNat, by omega⟩
theorem own_narR {x : Int32} (h : ¬ x < 0 ∧ ¬ (255 : Int32) < x) : ¬ (255 : Int32) < nar .char x := by rw [own_narC h]; exact h.2
theorem own_lat2 {x y : Int32} (h : ¬ x < 0 ∧ ¬ (255 : Int32) < x) (h' : ¬ y < 0 ∧ ¬ (255 : Int32) < y) : Lat [nar .char x, nar .char y] := own_latC (by rw [own_narC h]; exact h) (own_latC (by rw [own_narC h']; exact h') own_lat0 (by simp)) (by simp)
theorem own_and255 (x : Int32) : ¬ ((x &&& (255 : Int32)).toUInt32.toUInt16.toUInt32.toInt32) < 0 ∧ ¬ (255 : Int32) < ((x &&& (255 : Int32)).toUInt32.toUInt16.toUInt32.toInt32) := by
  have t : ∀ k : Fin 256, ¬ ((Int32.ofNat k.val).toUInt32.toUInt16.toUInt32.toInt32) < 0 ∧ ¬ (255 : Int32) < ((Int32.ofNat k.val).toUInt32.toUInt16.toUInt32.toInt32) := by decide +kernel
  have m : (x &&& (255 : Int32)).toInt = x.toInt % 2 ^ 8 := Jvm.Kit.i32_mask _ _ (by decide) (by decide)
  have e : (x &&& 255) = Int32.ofNat (x &&& 255).toInt.toNat := by
    apply Int32.toInt_inj.mp
    rw [Int32.toInt_ofNat_small (by omega)]; omega
  rw [e]
  exact t ⟨(x &&& 255).toInt.toNat, by omega⟩
theorem own_chr {x u : Int32} (h : u = ((x &&& (255 : Int32)).toUInt32.toUInt16.toUInt32.toInt32)) : ¬ u < 0 ∧ ¬ (255 : Int32) < u := by rw [h]; exact own_and255 x

theorem tw {a0 : Array Value} {Z : State} (hw : ∀ d ∈ tables_1, d.before a0 Z = true) (i : Nat) {d : Jvm.Cond} (e : tables_1[i]? = some d) : d.before a0 Z = true := hw d (List.mem_of_getElem? e)
theorem sn {a0 : Array Value} {Z : State} {C O n d O' n' d' : String} {p : Prop} (t t' : FieldType) (L : Laid Z a0 C O n d) (L' : Laid Z a0 C O' n' d') (hn : n ≠ n' := by decide) (ht : parseFieldDescriptor d = some t := by decide) (ht' : parseFieldDescriptor d' = some t' := by decide) : p ∨ Jvm.RoadKit.slotOf Z O n d ≠ Jvm.RoadKit.slotOf Z O' n' d' := Or.inr (slot_ne L L' hn ht ht')
abbrev Rf (a : Addr) : Slot := .val (.ref a)
abbrev It (z : Int32) : Slot := .val (.int z)
def Q2 (Z : State) (p1 : Int32) (h0 : Heap) (n0 : Nat) (v : Option Value) (h : Heap) (L : List Loc) : Prop := v = some (.int (1 : Int32)) ∧ Fr n0 L ∧ h = h0
theorem ef_2 (m : MethodId) (x0 : Int32) : entryFrame m #[(.int x0)] 1 = mkF m 0 #[.val (.int x0)] [] := by first | (simp [entryFrame, mkF, argsToLocals, Value.category]; done) | rfl
set_option maxRecDepth 65536 in
set_option maxHeartbeats 40000000 in
theorem rm2 (l : Launch) (Z : State) (a0 : Array Value) (hw : ∀ d ∈ tables_1, d.before a0 Z = true) (ws : List Jvm.Cond) (p1 : Int32) (h0 : Heap) (n0 : Nat) (O0 : Old Z n0 h0) (hlx : ¬ (255 : Int32) < p1) :
    MetFree l (⟨"java/lang/StringLatin1", "canEncode", "(C)Z"⟩ : MethodName) (head1 (Jvm.Cond.code (⟨"java/lang/StringLatin1", "canEncode", "(C)Z"⟩ : MethodName) jdk_43_method_3_code 1 (some .boolean) :: ws) ({ frames := 0, cells := 0, slots := 0, locals := 0 } : Room)) (fun a U => a = #[(.int p1)] ∧ Z.Warmed39 U.vm ∧ U.heap = h0) (fun _ _ _ _ _ => True) (fun _ U o U' => ∃ v L, o = .returned v ∧ Q2 Z p1 h0 n0 v U'.heap L ∧ FrameEnd U o U' L ({ frames := 0, cells := 0, slots := 0, locals := 0 } : Room).cells ({ frames := 0, cells := 0, slots := 0, locals := 0 } : Room).slots) := by
  refine MetFree.of_bodySF (plainFor_of_name pn_0) hisR ?_
  intro p e s m args below meth c s₁ Bd hml0 hP hK
  obtain ⟨rfl, hZ, hh⟩ := hP
  have hx := Bd.exec
  have hby := Bd.bytes
  have hml : c.maxLocals = 1 := hml0
  have hown : s.vm.findClass "java/lang/StringLatin1" = some m.cls := findClass_of_methodNamed Bd.named
  have hnm := (name_of_methodNamed Bd.named Bd.method).1
  have X0 : Stand p l e ({ frames := 0, cells := 0, slots := 0, locals := 0 } : Room) s m #[(.int p1)] below meth c s₁ [] 0 0 := Stand.of_body Bd
  have e0 : s₁.heap = h0 := by rw [← hh, Bd.state]; rfl
  have N0 := Fr.nil n0
  have pre0 : ∀ t, Steps p.tables e below (s₁.setTop (mkF m 0 #[.val (.int p1)] [])) t → Steps p.tables e below (s₁.setTop (entryFrame m #[(.int p1)] 1)) t := fun t k => castTop (ef_2 m p1) k
  have sg1 : ∀ target, Steps p.tables e below (s₁.setTop (mkF m 12 #[It p1] [(.int (1 : Int32))])) target → Steps p.tables e below (s₁.setTop (mkF m 0 #[It p1] [])) target := by
    intro target kt
    show Steps p.tables e below (s₁.setTop (mkF m 0 #[It p1] [])) _
    refine XS.iloadN X0.here hx rfl (hb hby d2_0) rfl ?_
    show Steps p.tables e below (s₁.setTop (mkF m 1 #[It p1] [(.int p1)])) _
    refine XS.sipush X0.here hx rfl (hb hby d2_1) ?_
    show Steps p.tables e below (s₁.setTop (mkF m 4 #[It p1] [(.int (255 : Int32)), (.int p1)])) _
    refine XS.icmpNo X0.here hx rfl (hb hby d2_4) rfl (flt hlx).2.2.1 ?_
    show Steps p.tables e below (s₁.setTop (mkF m 7 #[It p1] [])) _
    refine XS.iconst X0.here hx rfl (hb hby d2_7) ?_
    show Steps p.tables e below (s₁.setTop (mkF m 8 #[It p1] [(.int (1 : Int32))])) _
    refine XS.goto X0.here hx rfl (pc0 := 8) (pc' := 12) rfl (hb hby d2_8) (by decide) (by decide) ?_
    exact kt
  obtain ⟨fs, hr, hrun, hended, hW, hsame⟩ := X0.leave (v := some (.int (1 : Int32))) (fun h => by rw [Bd.returns] at h; cases h)
  refine ⟨_, _, pre0 _ (sg1 _ (?_)), hrun, hended, _, _, rfl, ?_, ⟨_, rfl⟩, hW, hsame.mono (by decide) (by decide)⟩
  · show Steps p.tables e below (s₁.setTop (mkF m 12 #[It p1] [(.int (1 : Int32))])) _
    exact retN X0 hx (t := .boolean) Bd.returns (by simp) (hb hby d2_12) hr
  · show Q2 Z p1 h0 n0 _ s₁.heap _
    rw [e0]
    exact ⟨rfl, N0, rfl⟩
def Q3 (Z : State) (p1 : Int32) (h0 : Heap) (n0 : Nat) (v : Option Value) (h : Heap) (L : List Loc) : Prop := ∃ r : Addr, ∃ kb : ClassId, v = some (.ref r) ∧ Fr n0 L ∧ Keep h0 h [] ∧ Old Z n0 h ∧ n0 ≤ r ∧ h0.size ≤ r ∧ Arv Z h r kb .byte (1 : Int32) (strV [p1]) (.int 0)
theorem ef_3 (m : MethodId) (x0 : Int32) : entryFrame m #[(.int x0)] 1 = mkF m 0 #[.val (.int x0)] [] := by first | (simp [entryFrame, mkF, argsToLocals, Value.category]; done) | rfl
set_option maxRecDepth 65536 in
set_option maxHeartbeats 40000000 in
theorem rm3 (l : Launch) (Z : State) (a0 : Array Value) (hw : ∀ d ∈ tables_1, d.before a0 Z = true) (ws : List Jvm.Cond) (p1 : Int32) (h0 : Heap) (n0 : Nat) (O0 : Old Z n0 h0) :
    MetFree l (⟨"java/lang/StringLatin1", "toBytes", "(C)[B"⟩ : MethodName) (head1 (Jvm.Cond.code (⟨"java/lang/StringLatin1", "toBytes", "(C)[B"⟩ : MethodName) jdk_43_method_46_code 1 (some (.array .byte)) :: ws) ({ frames := 0, cells := 1, slots := 1, locals := 0 } : Room)) (fun a U => a = #[(.int p1)] ∧ Z.Warmed39 U.vm ∧ U.heap = h0) (fun _ _ _ _ _ => True) (fun _ U o U' => ∃ v L, o = .returned v ∧ Q3 Z p1 h0 n0 v U'.heap L ∧ FrameEnd U o U' L ({ frames := 0, cells := 1, slots := 1, locals := 0 } : Room).cells ({ frames := 0, cells := 1, slots := 1, locals := 0 } : Room).slots) := by
  refine MetFree.of_bodySF (plainFor_of_name pn_0) hisR ?_
  intro p e s m args below meth c s₁ Bd hml0 hP hK
  obtain ⟨rfl, hZ, hh⟩ := hP
  have hx := Bd.exec
  have hby := Bd.bytes
  have hml : c.maxLocals = 1 := hml0
  have hown : s.vm.findClass "java/lang/StringLatin1" = some m.cls := findClass_of_methodNamed Bd.named
  have hnm := (name_of_methodNamed Bd.named Bd.method).1
  have X0 : Stand p l e ({ frames := 0, cells := 1, slots := 1, locals := 0 } : Room) s m #[(.int p1)] below meth c s₁ [] 0 0 := Stand.of_body Bd
  have e0 : s₁.heap = h0 := by rw [← hh, Bd.state]; rfl
  have N0 := Fr.nil n0
  have pre0 : ∀ t, Steps p.tables e below (s₁.setTop (mkF m 0 #[.val (.int p1)] [])) t → Steps p.tables e below (s₁.setTop (entryFrame m #[(.int p1)] 1)) t := fun t k => castTop (ef_3 m p1) k
  have K0 := Keep.refl h0 []
  obtain ⟨T1, h1, k1, X1, e1, E1, A1, st1⟩ := newP X0 hx hZ (tw hw 15 rfl) e0 (g := (mkF m 1 #[It p1] [(.int (1 : Int32))])) rfl (hb hby d3_1) rfl (by decide) (cap := 1) (by decide) (by decide) (by decide) (by decide)
  obtain ⟨b1, g1⟩ : ∃ z, z = h0.size := ⟨_, rfl⟩
  rw [← g1] at A1 st1
  have ge_b1 : n0 ≤ b1 := Nat.le_trans (own_osz O0) (Nat.le_of_eq g1.symm)
  have sz_b1 : h0.size ≤ b1 := Nat.le_trans K0.1 (Nat.le_of_eq g1.symm)
  have O2 := O0.ext E1
  have K1 := K0.ext E1
  have V_b1 : Arv Z h1 b1 k1 .byte (1 : Int32) [(.int (0 : Int32))] (.int (0 : Int32)) := (Arv.new A1 (by decide)).pad (pad_rep [] (.int (0 : Int32)) 1)
  obtain ⟨cl3, Ar3, q3, Sz3, Nn3, Hh3, Gg3⟩ := id V_b1
  have hin3 : ¬ ((0 : Int32) < 0 ∨ cl3.slots.size ≤ ((0 : Int32)).toNatClampNeg) := inb_of Sz3 ⟨by decide, by decide⟩
  obtain ⟨T4, h4, X4, e4, W4, st4⟩ := stB X1 hx hZ e1 Ar3 (j := (0 : Int32)) hin3 (g := (mkF m 7 #[It p1] [(.int (p1.toInt8.toInt32)), (.int (0 : Int32)), (.ref b1), (.ref b1)])) rfl rfl (hb hby d3_7)
  have V4 : Arv Z h4 b1 k1 .byte (1 : Int32) [(.int ((p1.toInt8.toInt32).toInt8.toInt32))] (.int (0 : Int32)) := Arv.set Ar3 q3 Sz3 Nn3 Hh3 Gg3 (fits_nar_byte _) W4 0 rfl (Nat.le_of_ble_eq_true rfl)
  have N4 := Fr.snoc X4 N0 ge_b1
  have O5 := O2.wr W4 ge_b1
  have K4 := K1.wr W4 (Or.inr sz_b1)
  have sg6 : ∀ target, Steps p.tables e below (T4.setTop (mkF m 8 #[It p1] [(.ref b1)])) target → Steps p.tables e below (s₁.setTop (mkF m 0 #[It p1] [])) target := by
    intro target kt
    show Steps p.tables e below (s₁.setTop (mkF m 0 #[It p1] [])) _
    refine XS.iconst X0.here hx rfl (hb hby d3_0) ?_
    show Steps p.tables e below (s₁.setTop (mkF m 1 #[It p1] [(.int (1 : Int32))])) _
    refine st1 _ ?_
    show Steps p.tables e below (T1.setTop (mkF m 3 #[It p1] [(.ref b1)])) _
    refine XS.dup X1.here hx rfl (hb hby d3_3) rfl rfl ?_
    show Steps p.tables e below (T1.setTop (mkF m 4 #[It p1] [(.ref b1), (.ref b1)])) _
    refine XS.iconst X1.here hx rfl (hb hby d3_4) ?_
    show Steps p.tables e below (T1.setTop (mkF m 5 #[It p1] [(.int (0 : Int32)), (.ref b1), (.ref b1)])) _
    refine XS.iloadN X1.here hx rfl (hb hby d3_5) rfl ?_
    show Steps p.tables e below (T1.setTop (mkF m 6 #[It p1] [(.int p1), (.int (0 : Int32)), (.ref b1), (.ref b1)])) _
    refine XS.i2b X1.here hx rfl (hb hby d3_6) rfl ?_
    show Steps p.tables e below (T1.setTop (mkF m 7 #[It p1] [(.int (p1.toInt8.toInt32)), (.int (0 : Int32)), (.ref b1), (.ref b1)])) _
    refine st4 _ ?_
    exact kt
  obtain ⟨fs, hr, hrun, hended, hW, hsame⟩ := X4.leave (v := some (.ref b1)) (fun h => by rw [Bd.returns] at h; cases h)
  refine ⟨_, _, pre0 _ (sg6 _ (?_)), hrun, hended, _, _, rfl, ?_, ⟨_, rfl⟩, hW, hsame.mono (by decide) (by decide)⟩
  · show Steps p.tables e below (T4.setTop (mkF m 8 #[It p1] [(.ref b1)])) _
    jvm_step X4.here [X4.here.top, hx, (hb hby d3_8), X4.method', Bd.returns, Value.isRef, FieldType.isReference]
    first | (intro acts; rw [hr _ acts rfl rfl rfl]) | rw [hr _ _ rfl rfl rfl]
    exact Steps.refl _
  · show Q3 Z p1 h0 n0 _ T4.heap _
    rw [e4]
    exact ⟨b1, k1, rfl, N4, K4, O5, ge_b1, sz_b1, (by have q := V4; rw [own_lo8i] at q; exact q)⟩
def Q4 (Z : State) (a1 : Addr) (a2 : Addr) (h0 : Heap) (n0 : Nat) (v : Option Value) (h : Heap) (L : List Loc) : Prop := v = none ∧ Fr n0 L ∧ Keep h0 h [a1] ∧ Old Z n0 h ∧ Fld Z h a1 "java/lang/String" "coder" "B" (.int (0 : Int32)) ∧ Fld Z h a1 "java/lang/String" "value" "[B" (.ref a2)
theorem ef_4 (m : MethodId) (x0 : Addr) (x1 : Addr) (x2 : Int32) : entryFrame m #[(.ref x0), (.ref x1), (.int x2)] 3 = mkF m 0 #[.val (.ref x0), .val (.ref x1), .val (.int x2)] [] := by first | (simp [entryFrame, mkF, argsToLocals, Value.category]; done) | rfl
set_option maxRecDepth 65536 in
set_option maxHeartbeats 40000000 in
theorem rm4 (l : Launch) (Z : State) (a0 : Array Value) (hw : ∀ d ∈ tables_1, d.before a0 Z = true) (ws : List Jvm.Cond) (a1 : Addr) (a2 : Addr) (h0 : Heap) (n0 : Nat) (O0 : Old Z n0 h0) (E_a1 : Exa Z h0 a1 "java/lang/String") (F_value_a1 : Fld Z h0 a1 "java/lang/String" "value" "[B" .null) (F_coder_a1 : Fld Z h0 a1 "java/lang/String" "coder" "B" (.int (0 : Int32))) (ge_a1 : n0 ≤ a1) :
    MetFree l (⟨"java/lang/String", "<init>", "([BB)V"⟩ : MethodName) (head1 (Jvm.Cond.code (⟨"java/lang/String", "<init>", "([BB)V"⟩ : MethodName) jdk_42_method_151_code 3 none :: ws) ({ frames := 1, cells := 0, slots := 0, locals := 12 } : Room)) (fun a U => a = #[(.ref a1), (.ref a2), (.int (0 : Int32))] ∧ Z.Warmed39 U.vm ∧ U.heap = h0) (fun _ _ _ _ _ => True) (fun _ U o U' => ∃ v L, o = .returned v ∧ Q4 Z a1 a2 h0 n0 v U'.heap L ∧ FrameEnd U o U' L ({ frames := 1, cells := 0, slots := 0, locals := 12 } : Room).cells ({ frames := 1, cells := 0, slots := 0, locals := 12 } : Room).slots) := by
  refine MetFree.of_bodySF (plainFor_of_name pn_1) hisR ?_
  intro p e s m args below meth c s₁ Bd hml0 hP hK
  obtain ⟨rfl, hZ, hh⟩ := hP
  have hx := Bd.exec
  have hby := Bd.bytes
  have hml : c.maxLocals = 3 := hml0
  have hown : s.vm.findClass "java/lang/String" = some m.cls := findClass_of_methodNamed Bd.named
  have hnm := (name_of_methodNamed Bd.named Bd.method).1
  have X0 : Stand p l e ({ frames := 1, cells := 0, slots := 0, locals := 12 } : Room) s m #[(.ref a1), (.ref a2), (.int (0 : Int32))] below meth c s₁ [] 0 0 := Stand.of_body Bd
  have e0 : s₁.heap = h0 := by rw [← hh, Bd.state]; rfl
  have N0 := Fr.nil n0
  have pre0 : ∀ t, Steps p.tables e below (s₁.setTop (mkF m 0 #[.val (.ref a1), .val (.ref a2), .val (.int (0 : Int32))] [])) t → Steps p.tables e below (s₁.setTop (entryFrame m #[(.ref a1), (.ref a2), (.int (0 : Int32))] 3)) t := fun t k => castTop (ef_4 m a1 a2 (0 : Int32)) k
  have K0 := Keep.refl h0 [a1]
  obtain ⟨T1, X1, e1, st1⟩ := initO X0 hx hZ hown (tw hw 20 rfl) (tw hw 21 rfl) (tw hw 22 rfl) e0 (g := (mkF m 1 #[Rf a1, Rf a2, It (0 : Int32)] [(.ref a1)])) rfl (by rw [hml]; rfl) rfl (hb hby d4_1) (by decide) (W := 0) (by show 2 * 0 + _ ≤ _; exact Nat.le_of_eq rfl) (by decide)
  obtain ⟨T2, h2, X2, e2, W2, st2⟩ := putF X1 hx hZ hown (host := "") (Or.inl (tw hw 23 rfl)) Via.refl e1 F_value_a1 E_a1 (Or.inr ⟨(tw hw 24 rfl), rfl, hnm⟩) (tw hw 11 rfl) (ty := (.array .byte)) (by decide) rfl rfl (g := (mkF m 6 #[Rf a1, Rf a2, It (0 : Int32)] [(.ref a2), (.ref a1)])) rfl rfl (hb hby d4_6)
  have Fw2 := F_value_a1.same W2
  have N2 := Fr.snoc X2 N0 ge_a1
  have O3 := O0.wr W2 ge_a1
  have K2 := K0.wr W2 (Or.inl (List.mem_of_getElem? (i := 0) rfl))
  obtain ⟨T4, h4, X4, e4, W4, st4⟩ := putFN X2 hx hZ hown (tw hw 25 rfl) Via.refl e2 (F_coder_a1.other W2 (sn .byte (.array .byte) (Or.inr (tw hw 26 rfl)) (Or.inr (tw hw 24 rfl)))) (E_a1.wr W2) (Or.inr ⟨(tw hw 26 rfl), rfl, hnm⟩) (tw hw 11 rfl) (ty := .byte) (v' := .int ((0 : Int32).toInt8.toInt32)) (by decide) rfl (fits_nar_byte _) (g := (mkF m 11 #[Rf a1, Rf a2, It (0 : Int32)] [(.int (0 : Int32)), (.ref a1)])) rfl rfl (hb hby d4_11)
  have Fw4 := (F_coder_a1.other W2 (sn .byte (.array .byte) (Or.inr (tw hw 26 rfl)) (Or.inr (tw hw 24 rfl)))).same W4
  have N4 := Fr.snoc X4 N2 ge_a1
  have O5 := O3.wr W4 ge_a1
  have K4 := K2.wr W4 (Or.inl (List.mem_of_getElem? (i := 0) rfl))
  have sg6 : ∀ target, Steps p.tables e below (T4.setTop (mkF m 14 #[Rf a1, Rf a2, It (0 : Int32)] [])) target → Steps p.tables e below (s₁.setTop (mkF m 0 #[Rf a1, Rf a2, It (0 : Int32)] [])) target := by
    intro target kt
    show Steps p.tables e below (s₁.setTop (mkF m 0 #[Rf a1, Rf a2, It (0 : Int32)] [])) _
    refine XS.aloadN X0.here hx rfl (hb hby d4_0) rfl rfl ?_
    show Steps p.tables e below (s₁.setTop (mkF m 1 #[Rf a1, Rf a2, It (0 : Int32)] [(.ref a1)])) _
    refine st1 _ ?_
    show Steps p.tables e below (T1.setTop (mkF m 4 #[Rf a1, Rf a2, It (0 : Int32)] [])) _
    refine XS.aloadN X1.here hx rfl (hb hby d4_4) rfl rfl ?_
    show Steps p.tables e below (T1.setTop (mkF m 5 #[Rf a1, Rf a2, It (0 : Int32)] [(.ref a1)])) _
    refine XS.aloadN X1.here hx rfl (hb hby d4_5) rfl rfl ?_
    show Steps p.tables e below (T1.setTop (mkF m 6 #[Rf a1, Rf a2, It (0 : Int32)] [(.ref a2), (.ref a1)])) _
    refine st2 _ ?_
    show Steps p.tables e below (T2.setTop (mkF m 9 #[Rf a1, Rf a2, It (0 : Int32)] [])) _
    refine XS.aloadN X2.here hx rfl (hb hby d4_9) rfl rfl ?_
    show Steps p.tables e below (T2.setTop (mkF m 10 #[Rf a1, Rf a2, It (0 : Int32)] [(.ref a1)])) _
    refine XS.iloadN X2.here hx rfl (hb hby d4_10) rfl ?_
    show Steps p.tables e below (T2.setTop (mkF m 11 #[Rf a1, Rf a2, It (0 : Int32)] [(.int (0 : Int32)), (.ref a1)])) _
    refine st4 _ ?_
    exact kt
  obtain ⟨fs, hr, hrun, hended, hW, hsame⟩ := X4.leave (v := none) (fun _ => rfl)
  refine ⟨_, _, pre0 _ (sg6 _ (?_)), hrun, hended, _, _, rfl, ?_, ⟨_, rfl⟩, hW, hsame.mono (by decide) (by decide)⟩
  · show Steps p.tables e below (T4.setTop (mkF m 14 #[Rf a1, Rf a2, It (0 : Int32)] [])) _
    exact X4.returnOut hx Bd.returns (hb hby d4_14) hr
  · show Q4 Z a1 a2 h0 n0 _ T4.heap _
    rw [e4]
    exact ⟨rfl, N4, K4, O5, Fw4, (Fw2.other W4 (sn (.array .byte) .byte (Or.inr (tw hw 24 rfl)) (Or.inr (tw hw 26 rfl))))⟩
def Q1 (Z : State) (p1 : Int32) (zC : Int32) (h0 : Heap) (n0 : Nat) (v : Option Value) (h : Heap) (L : List Loc) : Prop := ∃ r : Addr, ∃ t : Addr, ∃ kb : ClassId, v = some (.ref r) ∧ Fr n0 L ∧ Keep h0 h [] ∧ Old Z n0 h ∧ n0 ≤ r ∧ h0.size ≤ r ∧ n0 ≤ t ∧ h0.size ≤ t ∧ Exa Z h r "java/lang/String" ∧ Fld Z h r "java/lang/String" "coder" "B" (.int (0 : Int32)) ∧ Fld Z h r "java/lang/String" "value" "[B" (.ref t) ∧ Arv Z h t kb .byte (Int32.ofNat (([p1] : List Int32)).length) (strV ([p1] : List Int32)) (.int 0)
theorem ef_1 (m : MethodId) (x0 : Int32) : entryFrame m #[(.int x0)] 1 = mkF m 0 #[.val (.int x0)] [] := by first | (simp [entryFrame, mkF, argsToLocals, Value.category]; done) | rfl
set_option maxRecDepth 65536 in
set_option maxHeartbeats 40000000 in
theorem rm1 (l : Launch) (Z : State) (a0 : Array Value) (hw : ∀ d ∈ tables_1, d.before a0 Z = true) (ws : List Jvm.Cond) (p1 : Int32) (zC : Int32) (h0 : Heap) (n0 : Nat) (O0 : Old Z n0 h0) (S_COMPACT_STRINGS : Sta Z Z.heap "java/lang/String" "COMPACT_STRINGS" "Z" (.int zC)) (hCS : ¬ zC = 0) (hlx : ¬ (255 : Int32) < p1) :
    MetFree l (⟨"java/lang/String", "valueOf", "(C)Ljava/lang/String;"⟩ : MethodName) (head1 (Jvm.Cond.code (⟨"java/lang/String", "valueOf", "(C)Ljava/lang/String;"⟩ : MethodName) jdk_42_method_139_code 1 (some (.object "java/lang/String")) :: ws) ({ frames := 2, cells := 2, slots := 5, locals := 27 } : Room)) (fun a U => a = #[(.int p1)] ∧ Z.Warmed39 U.vm ∧ U.heap = h0) (fun _ _ _ _ _ => True) (fun _ U o U' => ∃ v L, o = .returned v ∧ Q1 Z p1 zC h0 n0 v U'.heap L ∧ FrameEnd U o U' L ({ frames := 2, cells := 2, slots := 5, locals := 27 } : Room).cells ({ frames := 2, cells := 2, slots := 5, locals := 27 } : Room).slots) := by
  refine MetFree.of_bodySF (plainFor_of_name pn_1) hisR ?_
  intro p e s m args below meth c s₁ Bd hml0 hP hK
  obtain ⟨rfl, hZ, hh⟩ := hP
  have hx := Bd.exec
  have hby := Bd.bytes
  have hml : c.maxLocals = 1 := hml0
  have hown : s.vm.findClass "java/lang/String" = some m.cls := findClass_of_methodNamed Bd.named
  have hnm := (name_of_methodNamed Bd.named Bd.method).1
  have X0 : Stand p l e ({ frames := 2, cells := 2, slots := 5, locals := 27 } : Room) s m #[(.int p1)] below meth c s₁ [] 0 0 := Stand.of_body Bd
  have e0 : s₁.heap = h0 := by rw [← hh, Bd.state]; rfl
  have N0 := Fr.nil n0
  have pre0 : ∀ t, Steps p.tables e below (s₁.setTop (mkF m 0 #[.val (.int p1)] [])) t → Steps p.tables e below (s₁.setTop (entryFrame m #[(.int p1)] 1)) t := fun t k => castTop (ef_1 m p1) k
  have K0 := Keep.refl h0 []
  obtain ⟨T1, X1, e1, st1⟩ := getS2 X0 hx hZ hown (host := "") (Or.inl (tw hw 5 rfl)) Via.refl e0 (S_COMPACT_STRINGS.ext O0.2) (g := (mkF m 0 #[It p1] [])) rfl (hb hby d1_0)
  obtain ⟨_, _, ⟨T2, L2, k2, n2⟩, -, X2, ⟨Lc2, hQ2, l2, y2, z2⟩, st2⟩ := Jvm.LawKit.callS X1 hx (y := (⟨"java/lang/StringLatin1", "canEncode", "(C)Z"⟩ : MethodName)) hown (mvT hZ (tw hw 6 rfl)) (mvT hZ (tw hw 7 rfl)) (mvT hZ (tw hw 8 rfl)) (mvT hZ (tw hw 9 rfl)) (by decide) (backOf (W := 0) (rm2 l Z a0 hw [] p1 h0 n0 O0 hlx) hZ (tw hw 9 rfl) (tw hw 8 rfl) (by decide) (by decide)) (g := (mkF m 7 #[It p1] [(.int p1)])) rfl (by rw [hml]; rfl) (argsL := [(.int p1)]) (rest := []) (lenOf pd_0 rfl) rfl (by show 2 * 0 + _ ≤ _; exact Nat.le_of_eq rfl) (hb hby d1_7) (fun _ _ => ⟨rfl, e1, (by decide : 0 + 0 ≤ _), (by decide : 0 + 0 ≤ _)⟩)
  dsimp only [Pt.U, Pt.locs, Pt.cells, Pt.slots] at X2 l2 y2 z2 st2 hQ2
  subst l2 y2 z2
  obtain ⟨rfl, N2q, e2⟩ := hQ2
  have N2 := Fr.app N0 N2q
  obtain ⟨T3, h3, X3, e3, E3, A3, D3, -, st3⟩ := newO X2 hx hZ hown (tw hw 10 rfl) (tw hw 11 rfl) (tw hw 3 rfl) e2 (g := (mkF m 13 #[It p1] [])) rfl (hb hby d1_13) (by decide) (by decide)
  obtain ⟨b3, g3⟩ : ∃ z, z = h0.size := ⟨_, rfl⟩
  rw [← g3] at A3 D3 st3
  have ge_b3 : n0 ≤ b3 := Nat.le_trans (own_osz O0) (Nat.le_of_eq g3.symm)
  have sz_b3 : h0.size ≤ b3 := Nat.le_trans K0.1 (Nat.le_of_eq g3.symm)
  have O4 := O0.ext E3
  have K3 := K0.ext E3
  have F_value_b3 : Fld Z h3 b3 "java/lang/String" "value" "[B" .null := D3 (Or.inr (tw hw 24 rfl)) (ty := (.array .byte)) (by decide)
  have F_coder_b3 : Fld Z h3 b3 "java/lang/String" "coder" "B" (.int (0 : Int32)) := D3 (Or.inr (tw hw 26 rfl)) (ty := .byte) (by decide)
  obtain ⟨_, _, ⟨T5, L5, k5, n5⟩, -, X5, ⟨Lc5, hQ5, l5, y5, z5⟩, st5⟩ := Jvm.LawKit.callS X3 hx (y := (⟨"java/lang/StringLatin1", "toBytes", "(C)[B"⟩ : MethodName)) hown (mvT hZ (tw hw 12 rfl)) (mvT hZ (tw hw 13 rfl)) (mvT hZ (tw hw 8 rfl)) (mvT hZ (tw hw 14 rfl)) (by decide) (backOf (W := 2) (rm3 l Z a0 hw [] p1 h3 n0 O4 ) hZ (tw hw 14 rfl) (tw hw 8 rfl) (by decide) (by decide)) (g := (mkF m 18 #[It p1] [(.int p1), (.ref b3), (.ref b3)])) rfl (by rw [hml]; rfl) (argsL := [(.int p1)]) (rest := [(.ref b3), (.ref b3)]) (lenOf pd_1 rfl) rfl (by show 2 * 0 + _ ≤ _; exact Nat.le_of_eq rfl) (hb hby d1_18) (fun _ _ => ⟨rfl, e3, (by decide : 1 + 1 ≤ _), (by decide : 4 + 1 ≤ _)⟩)
  dsimp only [Pt.U, Pt.locs, Pt.cells, Pt.slots] at X5 l5 y5 z5 st5 hQ5
  subst l5 y5 z5
  obtain ⟨r_5, kb_5, rfl, N5q, K5q, O5, f5_0, f5_1, f5_2⟩ := hQ5
  have N5 := Fr.app N2 N5q
  have K5 := K3.trans K5q all0
  obtain ⟨_, _, ⟨T6, L6, k6, n6⟩, -, X6, ⟨Lc6, hQ6, l6, y6, z6⟩, st6⟩ := X5.specialBack hx (y := (⟨"java/lang/String", "<init>", "([BB)V"⟩ : MethodName)) rfl hown (mvT hZ (tw hw 16 rfl)) (mvT hZ (tw hw 17 rfl)) (mvT hZ (tw hw 19 rfl)) (by decide) (backOf (W := 1) (rm4 l Z a0 hw [] b3 r_5 T5.heap n0 O5 (A3.keep K5q) (F_value_b3.keep K5q nin0) (F_coder_b3.keep K5q nin0) ge_b3) hZ (tw hw 19 rfl) (tw hw 3 rfl) (by decide) (by decide)) (g := (mkF m 22 #[It p1] [(.int (0 : Int32)), (.ref r_5), (.ref b3), (.ref b3)])) rfl (by rw [hml]; rfl) (Steps.refl _) (a := b3) (argsL := [(.ref r_5), (.int (0 : Int32))]) (rest := [(.ref b3)]) (lenOf pd_2 rfl) rfl (by show 2 * 0 + _ ≤ _; exact Nat.le_of_eq rfl) (hb hby d1_22) (fun _ _ => ⟨rfl, rfl, (by decide : 2 + 0 ≤ _), (by decide : 5 + 0 ≤ _)⟩)
  dsimp only [Pt.U, Pt.locs, Pt.cells, Pt.slots] at X6 l6 y6 z6 st6 hQ6
  subst l6 y6 z6
  obtain ⟨rfl, N6q, K6q, O6, f6_0, f6_1⟩ := hQ6
  have N6 := Fr.app N5 N6q
  have K6 := K5.trans K6q (allS (Or.inr sz_b3) all0)
  have sg7 : ∀ target, Steps p.tables e below (T6.setTop (mkF m 25 #[It p1] [(.ref b3)])) target → Steps p.tables e below (s₁.setTop (mkF m 0 #[It p1] [])) target := by
    intro target kt
    show Steps p.tables e below (s₁.setTop (mkF m 0 #[It p1] [])) _
    refine st1 _ ?_
    show Steps p.tables e below (T1.setTop (mkF m 3 #[It p1] [(.int zC)])) _
    refine XS.ifNo X1.here hx rfl (hb hby d1_3) rfl ((if0 _ _).trans (feq hCS).1) ?_
    show Steps p.tables e below (T1.setTop (mkF m 6 #[It p1] [])) _
    refine XS.iloadN X1.here hx rfl (hb hby d1_6) rfl ?_
    show Steps p.tables e below (T1.setTop (mkF m 7 #[It p1] [(.int p1)])) _
    refine st2 _ ?_
    show Steps p.tables e below (T2.setTop (mkF m 10 #[It p1] [(.int (1 : Int32))])) _
    refine XS.ifNo X2.here hx rfl (hb hby d1_10) rfl ((if0 _ _).trans (feq (by decide : ¬ ((1 : Int32) = (0 : Int32)))).1) ?_
    show Steps p.tables e below (T2.setTop (mkF m 13 #[It p1] [])) _
    refine st3 _ ?_
    show Steps p.tables e below (T3.setTop (mkF m 16 #[It p1] [(.ref b3)])) _
    refine XS.dup X3.here hx rfl (hb hby d1_16) rfl rfl ?_
    show Steps p.tables e below (T3.setTop (mkF m 17 #[It p1] [(.ref b3), (.ref b3)])) _
    refine XS.iloadN X3.here hx rfl (hb hby d1_17) rfl ?_
    show Steps p.tables e below (T3.setTop (mkF m 18 #[It p1] [(.int p1), (.ref b3), (.ref b3)])) _
    refine st5 _ ?_
    show Steps p.tables e below (T5.setTop (mkF m 21 #[It p1] [(.ref r_5), (.ref b3), (.ref b3)])) _
    refine XS.iconst X5.here hx rfl (hb hby d1_21) ?_
    show Steps p.tables e below (T5.setTop (mkF m 22 #[It p1] [(.int (0 : Int32)), (.ref r_5), (.ref b3), (.ref b3)])) _
    refine st6.trans ?_
    exact kt
  obtain ⟨fs, hr, hrun, hended, hW, hsame⟩ := X6.leave (v := some (.ref b3)) (fun h => by rw [Bd.returns] at h; cases h)
  refine ⟨_, _, pre0 _ (sg7 _ (?_)), hrun, hended, _, _, rfl, ?_, ⟨_, rfl⟩, hW, hsame.mono (by decide) (by decide)⟩
  · show Steps p.tables e below (T6.setTop (mkF m 25 #[It p1] [(.ref b3)])) _
    jvm_step X6.here [X6.here.top, hx, (hb hby d1_25), X6.method', Bd.returns, Value.isRef, FieldType.isReference]
    first | (intro acts; rw [hr _ acts rfl rfl rfl]) | rw [hr _ _ rfl rfl rfl]
    exact Steps.refl _
  · show Q1 Z p1 zC h0 n0 _ T6.heap _
    exact ⟨b3, r_5, kb_5, rfl, N6, K6, O6, ge_b3, sz_b3, f5_0, (Nat.le_trans K3.1 f5_1), ((A3.keep K5q).keep K6q), f6_0, f6_1, (f5_2.keep K6q (ninS (Ne.symm (Nat.ne_of_lt (Nat.lt_of_lt_of_le A3.lt f5_1))) nin0))⟩
def Q24 (Z : State) (a1 : Addr) (h0 : Heap) (n0 : Nat) (v : Option Value) (h : Heap) (L : List Loc) : Prop := v = some (.ref a1) ∧ Fr n0 L ∧ h = h0
theorem ef_24 (m : MethodId) (x0 : Addr) : entryFrame m #[(.ref x0)] 1 = mkF m 0 #[.val (.ref x0)] [] := by first | (simp [entryFrame, mkF, argsToLocals, Value.category]; done) | rfl
set_option maxRecDepth 65536 in
set_option maxHeartbeats 40000000 in
theorem rm24 (l : Launch) (Z : State) (a0 : Array Value) (hw : ∀ d ∈ tables_1, d.before a0 Z = true) (ws : List Jvm.Cond) (a1 : Addr) (h0 : Heap) (n0 : Nat) (O0 : Old Z n0 h0) :
    MetFree l (⟨"java/util/Objects", "requireNonNull", "(Ljava/lang/Object;)Ljava/lang/Object;"⟩ : MethodName) (head1 (Jvm.Cond.code (⟨"java/util/Objects", "requireNonNull", "(Ljava/lang/Object;)Ljava/lang/Object;"⟩ : MethodName) jdk_31_method_10_code 1 (some (.object "java/lang/Object")) :: ws) ({ frames := 0, cells := 0, slots := 0, locals := 0 } : Room)) (fun a U => a = #[(.ref a1)] ∧ Z.Warmed39 U.vm ∧ U.heap = h0) (fun _ _ _ _ _ => True) (fun _ U o U' => ∃ v L, o = .returned v ∧ Q24 Z a1 h0 n0 v U'.heap L ∧ FrameEnd U o U' L ({ frames := 0, cells := 0, slots := 0, locals := 0 } : Room).cells ({ frames := 0, cells := 0, slots := 0, locals := 0 } : Room).slots) := by
  refine MetFree.of_bodySF (plainFor_of_name pn_2) hisR ?_
  intro p e s m args below meth c s₁ Bd hml0 hP hK
  obtain ⟨rfl, hZ, hh⟩ := hP
  have hx := Bd.exec
  have hby := Bd.bytes
  have hml : c.maxLocals = 1 := hml0
  have hown : s.vm.findClass "java/util/Objects" = some m.cls := findClass_of_methodNamed Bd.named
  have hnm := (name_of_methodNamed Bd.named Bd.method).1
  have X0 : Stand p l e ({ frames := 0, cells := 0, slots := 0, locals := 0 } : Room) s m #[(.ref a1)] below meth c s₁ [] 0 0 := Stand.of_body Bd
  have e0 : s₁.heap = h0 := by rw [← hh, Bd.state]; rfl
  have N0 := Fr.nil n0
  have pre0 : ∀ t, Steps p.tables e below (s₁.setTop (mkF m 0 #[.val (.ref a1)] [])) t → Steps p.tables e below (s₁.setTop (entryFrame m #[(.ref a1)] 1)) t := fun t k => castTop (ef_24 m a1) k
  have sg1 : ∀ target, Steps p.tables e below (s₁.setTop (mkF m 13 #[Rf a1] [(.ref a1)])) target → Steps p.tables e below (s₁.setTop (mkF m 0 #[Rf a1] [])) target := by
    intro target kt
    show Steps p.tables e below (s₁.setTop (mkF m 0 #[Rf a1] [])) _
    refine XS.aloadN X0.here hx rfl (hb hby d24_0) rfl rfl ?_
    show Steps p.tables e below (s₁.setTop (mkF m 1 #[Rf a1] [(.ref a1)])) _
    refine XS.ifnonnullYes X0.here hx rfl (pc0 := 1) (pc' := 12) rfl (hb hby d24_1) rfl (by decide) (by decide) ?_
    show Steps p.tables e below (s₁.setTop (mkF m 12 #[Rf a1] [])) _
    refine XS.aloadN X0.here hx rfl (hb hby d24_12) rfl rfl ?_
    exact kt
  obtain ⟨fs, hr, hrun, hended, hW, hsame⟩ := X0.leave (v := some (.ref a1)) (fun h => by rw [Bd.returns] at h; cases h)
  refine ⟨_, _, pre0 _ (sg1 _ (?_)), hrun, hended, _, _, rfl, ?_, ⟨_, rfl⟩, hW, hsame.mono (by decide) (by decide)⟩
  · show Steps p.tables e below (s₁.setTop (mkF m 13 #[Rf a1] [(.ref a1)])) _
    jvm_step X0.here [X0.here.top, hx, (hb hby d24_13), X0.method', Bd.returns, Value.isRef, FieldType.isReference]
    first | (intro acts; rw [hr _ acts rfl rfl rfl]) | rw [hr _ _ rfl rfl rfl]
    exact Steps.refl _
  · show Q24 Z a1 h0 n0 _ s₁.heap _
    rw [e0]
    exact ⟨rfl, N0, rfl⟩
def Q15 (Z : State) (a1 : Addr) (a2 : Addr) (h0 : Heap) (n0 : Nat) (v : Option Value) (h : Heap) (L : List Loc) : Prop := v = some (.ref a1) ∧ Fr n0 L ∧ h = h0
theorem ef_15 (m : MethodId) (x0 : Addr) (x1 : Addr) : entryFrame m #[(.ref x0), (.ref x1)] 2 = mkF m 0 #[.val (.ref x0), .val (.ref x1)] [] := by first | (simp [entryFrame, mkF, argsToLocals, Value.category]; done) | rfl
set_option maxRecDepth 65536 in
set_option maxHeartbeats 40000000 in
theorem rm15 (l : Launch) (Z : State) (a0 : Array Value) (hw : ∀ d ∈ tables_1, d.before a0 Z = true) (ws : List Jvm.Cond) (a1 : Addr) (a2 : Addr) (h0 : Heap) (n0 : Nat) (O0 : Old Z n0 h0) :
    MetFree l (⟨"java/util/Objects", "requireNonNull", "(Ljava/lang/Object;Ljava/lang/String;)Ljava/lang/Object;"⟩ : MethodName) (head1 (Jvm.Cond.code (⟨"java/util/Objects", "requireNonNull", "(Ljava/lang/Object;Ljava/lang/String;)Ljava/lang/Object;"⟩ : MethodName) jdk_31_method_11_code 2 (some (.object "java/lang/Object")) :: ws) ({ frames := 0, cells := 0, slots := 0, locals := 0 } : Room)) (fun a U => a = #[(.ref a1), (.ref a2)] ∧ Z.Warmed39 U.vm ∧ U.heap = h0) (fun _ _ _ _ _ => True) (fun _ U o U' => ∃ v L, o = .returned v ∧ Q15 Z a1 a2 h0 n0 v U'.heap L ∧ FrameEnd U o U' L ({ frames := 0, cells := 0, slots := 0, locals := 0 } : Room).cells ({ frames := 0, cells := 0, slots := 0, locals := 0 } : Room).slots) := by
  refine MetFree.of_bodySF (plainFor_of_name pn_2) hisR ?_
  intro p e s m args below meth c s₁ Bd hml0 hP hK
  obtain ⟨rfl, hZ, hh⟩ := hP
  have hx := Bd.exec
  have hby := Bd.bytes
  have hml : c.maxLocals = 2 := hml0
  have hown : s.vm.findClass "java/util/Objects" = some m.cls := findClass_of_methodNamed Bd.named
  have hnm := (name_of_methodNamed Bd.named Bd.method).1
  have X0 : Stand p l e ({ frames := 0, cells := 0, slots := 0, locals := 0 } : Room) s m #[(.ref a1), (.ref a2)] below meth c s₁ [] 0 0 := Stand.of_body Bd
  have e0 : s₁.heap = h0 := by rw [← hh, Bd.state]; rfl
  have N0 := Fr.nil n0
  have pre0 : ∀ t, Steps p.tables e below (s₁.setTop (mkF m 0 #[.val (.ref a1), .val (.ref a2)] [])) t → Steps p.tables e below (s₁.setTop (entryFrame m #[(.ref a1), (.ref a2)] 2)) t := fun t k => castTop (ef_15 m a1 a2) k
  have sg1 : ∀ target, Steps p.tables e below (s₁.setTop (mkF m 14 #[Rf a1, Rf a2] [(.ref a1)])) target → Steps p.tables e below (s₁.setTop (mkF m 0 #[Rf a1, Rf a2] [])) target := by
    intro target kt
    show Steps p.tables e below (s₁.setTop (mkF m 0 #[Rf a1, Rf a2] [])) _
    refine XS.aloadN X0.here hx rfl (hb hby d15_0) rfl rfl ?_
    show Steps p.tables e below (s₁.setTop (mkF m 1 #[Rf a1, Rf a2] [(.ref a1)])) _
    refine XS.ifnonnullYes X0.here hx rfl (pc0 := 1) (pc' := 13) rfl (hb hby d15_1) rfl (by decide) (by decide) ?_
    show Steps p.tables e below (s₁.setTop (mkF m 13 #[Rf a1, Rf a2] [])) _
    refine XS.aloadN X0.here hx rfl (hb hby d15_13) rfl rfl ?_
    exact kt
  obtain ⟨fs, hr, hrun, hended, hW, hsame⟩ := X0.leave (v := some (.ref a1)) (fun h => by rw [Bd.returns] at h; cases h)
  refine ⟨_, _, pre0 _ (sg1 _ (?_)), hrun, hended, _, _, rfl, ?_, ⟨_, rfl⟩, hW, hsame.mono (by decide) (by decide)⟩
  · show Steps p.tables e below (s₁.setTop (mkF m 14 #[Rf a1, Rf a2] [(.ref a1)])) _
    jvm_step X0.here [X0.here.top, hx, (hb hby d15_14), X0.method', Bd.returns, Value.isRef, FieldType.isReference]
    first | (intro acts; rw [hr _ acts rfl rfl rfl]) | rw [hr _ _ rfl rfl rfl]
    exact Steps.refl _
  · show Q15 Z a1 a2 h0 n0 _ s₁.heap _
    rw [e0]
    exact ⟨rfl, N0, rfl⟩
def Q25 (Z : State) (a1 : Addr) (a2 : Addr) (h0 : Heap) (n0 : Nat) (v : Option Value) (h : Heap) (L : List Loc) : Prop := v = none ∧ Fr n0 L ∧ Keep h0 h [a1] ∧ Old Z n0 h ∧ Fld Z h a1 "java/util/Optional" "value" "Ljava/lang/Object;" (.ref a2)
theorem ef_25 (m : MethodId) (x0 : Addr) (x1 : Addr) : entryFrame m #[(.ref x0), (.ref x1)] 2 = mkF m 0 #[.val (.ref x0), .val (.ref x1)] [] := by first | (simp [entryFrame, mkF, argsToLocals, Value.category]; done) | rfl
set_option maxRecDepth 65536 in
set_option maxHeartbeats 40000000 in
theorem rm25 (l : Launch) (Z : State) (a0 : Array Value) (hw : ∀ d ∈ tables_1, d.before a0 Z = true) (ws : List Jvm.Cond) (a1 : Addr) (a2 : Addr) (h0 : Heap) (n0 : Nat) (O0 : Old Z n0 h0) (E_a1 : Exa Z h0 a1 "java/util/Optional") (F_value_a1 : Fld Z h0 a1 "java/util/Optional" "value" "Ljava/lang/Object;" .null) (ge_a1 : n0 ≤ a1) :
    MetFree l (⟨"java/util/Optional", "<init>", "(Ljava/lang/Object;)V"⟩ : MethodName) (head1 (Jvm.Cond.code (⟨"java/util/Optional", "<init>", "(Ljava/lang/Object;)V"⟩ : MethodName) jdk_32_method_2_code 2 none :: ws) ({ frames := 1, cells := 0, slots := 0, locals := 12 } : Room)) (fun a U => a = #[(.ref a1), (.ref a2)] ∧ Z.Warmed39 U.vm ∧ U.heap = h0) (fun _ _ _ _ _ => True) (fun _ U o U' => ∃ v L, o = .returned v ∧ Q25 Z a1 a2 h0 n0 v U'.heap L ∧ FrameEnd U o U' L ({ frames := 1, cells := 0, slots := 0, locals := 12 } : Room).cells ({ frames := 1, cells := 0, slots := 0, locals := 12 } : Room).slots) := by
  refine MetFree.of_bodySF (plainFor_of_name pn_3) hisR ?_
  intro p e s m args below meth c s₁ Bd hml0 hP hK
  obtain ⟨rfl, hZ, hh⟩ := hP
  have hx := Bd.exec
  have hby := Bd.bytes
  have hml : c.maxLocals = 2 := hml0
  have hown : s.vm.findClass "java/util/Optional" = some m.cls := findClass_of_methodNamed Bd.named
  have hnm := (name_of_methodNamed Bd.named Bd.method).1
  have X0 : Stand p l e ({ frames := 1, cells := 0, slots := 0, locals := 12 } : Room) s m #[(.ref a1), (.ref a2)] below meth c s₁ [] 0 0 := Stand.of_body Bd
  have e0 : s₁.heap = h0 := by rw [← hh, Bd.state]; rfl
  have N0 := Fr.nil n0
  have pre0 : ∀ t, Steps p.tables e below (s₁.setTop (mkF m 0 #[.val (.ref a1), .val (.ref a2)] [])) t → Steps p.tables e below (s₁.setTop (entryFrame m #[(.ref a1), (.ref a2)] 2)) t := fun t k => castTop (ef_25 m a1 a2) k
  have K0 := Keep.refl h0 [a1]
  obtain ⟨T1, X1, e1, st1⟩ := initO X0 hx hZ hown (tw hw 205 rfl) (tw hw 21 rfl) (tw hw 22 rfl) e0 (g := (mkF m 1 #[Rf a1, Rf a2] [(.ref a1)])) rfl (by rw [hml]; rfl) rfl (hb hby d25_1) (by decide) (W := 0) (by show 2 * 0 + _ ≤ _; exact Nat.le_of_eq rfl) (by decide)
  obtain ⟨T2, h2, X2, e2, W2, st2⟩ := putF X1 hx hZ hown (host := "") (Or.inl (tw hw 115 rfl)) Via.refl e1 F_value_a1 E_a1 (Or.inr ⟨(tw hw 116 rfl), rfl, hnm⟩) (tw hw 197 rfl) (ty := (.object "java/lang/Object")) (by decide) rfl rfl (g := (mkF m 6 #[Rf a1, Rf a2] [(.ref a2), (.ref a1)])) rfl rfl (hb hby d25_6)
  have Fw2 := F_value_a1.same W2
  have N2 := Fr.snoc X2 N0 ge_a1
  have O3 := O0.wr W2 ge_a1
  have K2 := K0.wr W2 (Or.inl (List.mem_of_getElem? (i := 0) rfl))
  have sg4 : ∀ target, Steps p.tables e below (T2.setTop (mkF m 9 #[Rf a1, Rf a2] [])) target → Steps p.tables e below (s₁.setTop (mkF m 0 #[Rf a1, Rf a2] [])) target := by
    intro target kt
    show Steps p.tables e below (s₁.setTop (mkF m 0 #[Rf a1, Rf a2] [])) _
    refine XS.aloadN X0.here hx rfl (hb hby d25_0) rfl rfl ?_
    show Steps p.tables e below (s₁.setTop (mkF m 1 #[Rf a1, Rf a2] [(.ref a1)])) _
    refine st1 _ ?_
    show Steps p.tables e below (T1.setTop (mkF m 4 #[Rf a1, Rf a2] [])) _
    refine XS.aloadN X1.here hx rfl (hb hby d25_4) rfl rfl ?_
    show Steps p.tables e below (T1.setTop (mkF m 5 #[Rf a1, Rf a2] [(.ref a1)])) _
    refine XS.aloadN X1.here hx rfl (hb hby d25_5) rfl rfl ?_
    show Steps p.tables e below (T1.setTop (mkF m 6 #[Rf a1, Rf a2] [(.ref a2), (.ref a1)])) _
    refine st2 _ ?_
    exact kt
  obtain ⟨fs, hr, hrun, hended, hW, hsame⟩ := X2.leave (v := none) (fun _ => rfl)
  refine ⟨_, _, pre0 _ (sg4 _ (?_)), hrun, hended, _, _, rfl, ?_, ⟨_, rfl⟩, hW, hsame.mono (by decide) (by decide)⟩
  · show Steps p.tables e below (T2.setTop (mkF m 9 #[Rf a1, Rf a2] [])) _
    exact X2.returnOut hx Bd.returns (hb hby d25_9) hr
  · show Q25 Z a1 a2 h0 n0 _ T2.heap _
    rw [e2]
    exact ⟨rfl, N2, K2, O3, Fw2⟩
def Q23 (Z : State) (a1 : Addr) (h0 : Heap) (n0 : Nat) (v : Option Value) (h : Heap) (L : List Loc) : Prop := ∃ r : Addr, v = some (.ref r) ∧ Fr n0 L ∧ Keep h0 h [] ∧ Old Z n0 h ∧ n0 ≤ r ∧ h0.size ≤ r ∧ Exa Z h r "java/util/Optional" ∧ Fld Z h r "java/util/Optional" "value" "Ljava/lang/Object;" (.ref a1)
theorem ef_23 (m : MethodId) (x0 : Addr) : entryFrame m #[(.ref x0)] 1 = mkF m 0 #[.val (.ref x0)] [] := by first | (simp [entryFrame, mkF, argsToLocals, Value.category]; done) | rfl
set_option maxRecDepth 65536 in
set_option maxHeartbeats 40000000 in
theorem rm23 (l : Launch) (Z : State) (a0 : Array Value) (hw : ∀ d ∈ tables_1, d.before a0 Z = true) (ws : List Jvm.Cond) (a1 : Addr) (h0 : Heap) (n0 : Nat) (O0 : Old Z n0 h0) :
    MetFree l (⟨"java/util/Optional", "of", "(Ljava/lang/Object;)Ljava/util/Optional;"⟩ : MethodName) (head1 (Jvm.Cond.code (⟨"java/util/Optional", "of", "(Ljava/lang/Object;)Ljava/util/Optional;"⟩ : MethodName) jdk_32_method_3_code 1 (some (.object "java/util/Optional")) :: ws) ({ frames := 2, cells := 1, slots := 1, locals := 26 } : Room)) (fun a U => a = #[(.ref a1)] ∧ Z.Warmed39 U.vm ∧ U.heap = h0) (fun _ _ _ _ _ => True) (fun _ U o U' => ∃ v L, o = .returned v ∧ Q23 Z a1 h0 n0 v U'.heap L ∧ FrameEnd U o U' L ({ frames := 2, cells := 1, slots := 1, locals := 26 } : Room).cells ({ frames := 2, cells := 1, slots := 1, locals := 26 } : Room).slots) := by
  refine MetFree.of_bodySF (plainFor_of_name pn_3) hisR ?_
  intro p e s m args below meth c s₁ Bd hml0 hP hK
  obtain ⟨rfl, hZ, hh⟩ := hP
  have hx := Bd.exec
  have hby := Bd.bytes
  have hml : c.maxLocals = 1 := hml0
  have hown : s.vm.findClass "java/util/Optional" = some m.cls := findClass_of_methodNamed Bd.named
  have hnm := (name_of_methodNamed Bd.named Bd.method).1
  have X0 : Stand p l e ({ frames := 2, cells := 1, slots := 1, locals := 26 } : Room) s m #[(.ref a1)] below meth c s₁ [] 0 0 := Stand.of_body Bd
  have e0 : s₁.heap = h0 := by rw [← hh, Bd.state]; rfl
  have N0 := Fr.nil n0
  have pre0 : ∀ t, Steps p.tables e below (s₁.setTop (mkF m 0 #[.val (.ref a1)] [])) t → Steps p.tables e below (s₁.setTop (entryFrame m #[(.ref a1)] 1)) t := fun t k => castTop (ef_23 m a1) k
  have K0 := Keep.refl h0 []
  obtain ⟨T1, h1, X1, e1, E1, A1, D1, -, st1⟩ := newO X0 hx hZ hown (tw hw 196 rfl) (tw hw 197 rfl) (tw hw 29 rfl) e0 (g := (mkF m 0 #[Rf a1] [])) rfl (hb hby d23_0) (by decide) (by decide)
  obtain ⟨b1, g1⟩ : ∃ z, z = h0.size := ⟨_, rfl⟩
  rw [← g1] at A1 D1 st1
  have ge_b1 : n0 ≤ b1 := Nat.le_trans (own_osz O0) (Nat.le_of_eq g1.symm)
  have sz_b1 : h0.size ≤ b1 := Nat.le_trans K0.1 (Nat.le_of_eq g1.symm)
  have O2 := O0.ext E1
  have K1 := K0.ext E1
  have F_value_b1 : Fld Z h1 b1 "java/util/Optional" "value" "Ljava/lang/Object;" .null := D1 (Or.inr (tw hw 116 rfl)) (ty := (.object "java/lang/Object")) (by decide)
  obtain ⟨_, _, ⟨T3, L3, k3, n3⟩, -, X3, ⟨Lc3, hQ3, l3, y3, z3⟩, st3⟩ := Jvm.LawKit.callS X1 hx (y := (⟨"java/util/Objects", "requireNonNull", "(Ljava/lang/Object;)Ljava/lang/Object;"⟩ : MethodName)) hown (mvT hZ (tw hw 198 rfl)) (mvT hZ (tw hw 199 rfl)) (mvT hZ (tw hw 105 rfl)) (mvT hZ (tw hw 200 rfl)) (by decide) (backOf (W := 2) (rm24 l Z a0 hw [] a1 h1 n0 O2 ) hZ (tw hw 200 rfl) (tw hw 105 rfl) (by decide) (by decide)) (g := (mkF m 5 #[Rf a1] [(.ref a1), (.ref b1), (.ref b1)])) rfl (by rw [hml]; rfl) (argsL := [(.ref a1)]) (rest := [(.ref b1), (.ref b1)]) (lenOf pd_3 rfl) rfl (by show 2 * 0 + _ ≤ _; exact Nat.le_of_eq rfl) (hb hby d23_5) (fun _ _ => ⟨rfl, e1, (by decide : 1 + 0 ≤ _), (by decide : 1 + 0 ≤ _)⟩)
  dsimp only [Pt.U, Pt.locs, Pt.cells, Pt.slots] at X3 l3 y3 z3 st3 hQ3
  subst l3 y3 z3
  obtain ⟨rfl, N3q, e3⟩ := hQ3
  have N3 := Fr.app N0 N3q
  obtain ⟨_, _, ⟨T4, L4, k4, n4⟩, -, X4, ⟨Lc4, hQ4, l4, y4, z4⟩, st4⟩ := X3.specialBack hx (y := (⟨"java/util/Optional", "<init>", "(Ljava/lang/Object;)V"⟩ : MethodName)) rfl hown (mvT hZ (tw hw 201 rfl)) (mvT hZ (tw hw 202 rfl)) (mvT hZ (tw hw 204 rfl)) (by decide) (backOf (W := 1) (rm25 l Z a0 hw [] b1 a1 h1 n0 O2 A1 F_value_b1 ge_b1) hZ (tw hw 204 rfl) (tw hw 29 rfl) (by decide) (by decide)) (g := (mkF m 8 #[Rf a1] [(.ref a1), (.ref b1), (.ref b1)])) rfl (by rw [hml]; rfl) (Steps.refl _) (a := b1) (argsL := [(.ref a1)]) (rest := [(.ref b1)]) (lenOf pd_4 rfl) rfl (by show 2 * 0 + _ ≤ _; exact Nat.le_of_eq rfl) (hb hby d23_8) (fun _ _ => ⟨rfl, e3, (by decide : 1 + 0 ≤ _), (by decide : 1 + 0 ≤ _)⟩)
  dsimp only [Pt.U, Pt.locs, Pt.cells, Pt.slots] at X4 l4 y4 z4 st4 hQ4
  subst l4 y4 z4
  obtain ⟨rfl, N4q, K4q, O4, f4_0⟩ := hQ4
  have N4 := Fr.app N3 N4q
  have K4 := K1.trans K4q (allS (Or.inr sz_b1) all0)
  have sg5 : ∀ target, Steps p.tables e below (T4.setTop (mkF m 11 #[Rf a1] [(.ref b1)])) target → Steps p.tables e below (s₁.setTop (mkF m 0 #[Rf a1] [])) target := by
    intro target kt
    show Steps p.tables e below (s₁.setTop (mkF m 0 #[Rf a1] [])) _
    refine st1 _ ?_
    show Steps p.tables e below (T1.setTop (mkF m 3 #[Rf a1] [(.ref b1)])) _
    refine XS.dup X1.here hx rfl (hb hby d23_3) rfl rfl ?_
    show Steps p.tables e below (T1.setTop (mkF m 4 #[Rf a1] [(.ref b1), (.ref b1)])) _
    refine XS.aloadN X1.here hx rfl (hb hby d23_4) rfl rfl ?_
    show Steps p.tables e below (T1.setTop (mkF m 5 #[Rf a1] [(.ref a1), (.ref b1), (.ref b1)])) _
    refine st3 _ ?_
    show Steps p.tables e below (T3.setTop (mkF m 8 #[Rf a1] [(.ref a1), (.ref b1), (.ref b1)])) _
    refine st4.trans ?_
    exact kt
  obtain ⟨fs, hr, hrun, hended, hW, hsame⟩ := X4.leave (v := some (.ref b1)) (fun h => by rw [Bd.returns] at h; cases h)
  refine ⟨_, _, pre0 _ (sg5 _ (?_)), hrun, hended, _, _, rfl, ?_, ⟨_, rfl⟩, hW, hsame.mono (by decide) (by decide)⟩
  · show Steps p.tables e below (T4.setTop (mkF m 11 #[Rf a1] [(.ref b1)])) _
    jvm_step X4.here [X4.here.top, hx, (hb hby d23_11), X4.method', Bd.returns, Value.isRef, FieldType.isReference]
    first | (intro acts; rw [hr _ acts rfl rfl rfl]) | rw [hr _ _ rfl rfl rfl]
    exact Steps.refl _
  · show Q23 Z a1 h0 n0 _ T4.heap _
    exact ⟨b1, rfl, N4, K4, O4, ge_b1, sz_b1, (A1.keep K4q), f4_0⟩
def Q6 (Z : State) (wO : Addr) (h0 : Heap) (n0 : Nat) (v : Option Value) (h : Heap) (L : List Loc) : Prop := v = some (.ref wO) ∧ Fr n0 L ∧ h = h0
theorem ef_6 (m : MethodId)  : entryFrame m #[] 1 = mkF m 0 #[.unset] [] := by first | (simp [entryFrame, mkF, argsToLocals, Value.category]; done) | rfl
set_option maxRecDepth 65536 in
set_option maxHeartbeats 40000000 in
theorem rm6 (l : Launch) (Z : State) (a0 : Array Value) (hw : ∀ d ∈ tables_1, d.before a0 Z = true) (ws : List Jvm.Cond) (wO : Addr) (h0 : Heap) (n0 : Nat) (O0 : Old Z n0 h0) (S_EMPTY : Sta Z Z.heap "java/util/Optional" "EMPTY" "Ljava/util/Optional;" (.ref wO)) :
    MetFree l (⟨"java/util/Optional", "empty", "()Ljava/util/Optional;"⟩ : MethodName) (head1 (Jvm.Cond.code (⟨"java/util/Optional", "empty", "()Ljava/util/Optional;"⟩ : MethodName) jdk_32_method_1_code 1 (some (.object "java/util/Optional")) :: ws) ({ frames := 0, cells := 0, slots := 0, locals := 0 } : Room)) (fun a U => a = #[] ∧ Z.Warmed39 U.vm ∧ U.heap = h0) (fun _ _ _ _ _ => True) (fun _ U o U' => ∃ v L, o = .returned v ∧ Q6 Z wO h0 n0 v U'.heap L ∧ FrameEnd U o U' L ({ frames := 0, cells := 0, slots := 0, locals := 0 } : Room).cells ({ frames := 0, cells := 0, slots := 0, locals := 0 } : Room).slots) := by
  refine MetFree.of_bodySF (plainFor_of_name pn_3) hisR ?_
  intro p e s m args below meth c s₁ Bd hml0 hP hK
  obtain ⟨rfl, hZ, hh⟩ := hP
  have hx := Bd.exec
  have hby := Bd.bytes
  have hml : c.maxLocals = 1 := hml0
  have hown : s.vm.findClass "java/util/Optional" = some m.cls := findClass_of_methodNamed Bd.named
  have hnm := (name_of_methodNamed Bd.named Bd.method).1
  have X0 : Stand p l e ({ frames := 0, cells := 0, slots := 0, locals := 0 } : Room) s m #[] below meth c s₁ [] 0 0 := Stand.of_body Bd
  have e0 : s₁.heap = h0 := by rw [← hh, Bd.state]; rfl
  have N0 := Fr.nil n0
  have pre0 : ∀ t, Steps p.tables e below (s₁.setTop (mkF m 0 #[.unset] [])) t → Steps p.tables e below (s₁.setTop (entryFrame m #[] 1)) t := fun t k => castTop (ef_6 m ) k
  obtain ⟨T1, X1, e1, st1⟩ := getS2 X0 hx hZ hown (host := "") (Or.inl (tw hw 31 rfl)) Via.refl e0 (S_EMPTY.ext O0.2) (g := (mkF m 0 #[.unset] [])) rfl (hb hby d6_0)
  have sg2 : ∀ target, Steps p.tables e below (T1.setTop (mkF m 5 #[Rf wO] [(.ref wO)])) target → Steps p.tables e below (s₁.setTop (mkF m 0 #[.unset] [])) target := by
    intro target kt
    show Steps p.tables e below (s₁.setTop (mkF m 0 #[.unset] [])) _
    refine st1 _ ?_
    show Steps p.tables e below (T1.setTop (mkF m 3 #[.unset] [(.ref wO)])) _
    refine XS.astoreN X1.here hx rfl (hb hby d6_3) rfl rfl (l' := #[Rf wO]) rfl ?_
    show Steps p.tables e below (T1.setTop (mkF m 4 #[Rf wO] [])) _
    refine XS.aloadN X1.here hx rfl (hb hby d6_4) rfl rfl ?_
    exact kt
  obtain ⟨fs, hr, hrun, hended, hW, hsame⟩ := X1.leave (v := some (.ref wO)) (fun h => by rw [Bd.returns] at h; cases h)
  refine ⟨_, _, pre0 _ (sg2 _ (?_)), hrun, hended, _, _, rfl, ?_, ⟨_, rfl⟩, hW, hsame.mono (by decide) (by decide)⟩
  · show Steps p.tables e below (T1.setTop (mkF m 5 #[Rf wO] [(.ref wO)])) _
    jvm_step X1.here [X1.here.top, hx, (hb hby d6_5), X1.method', Bd.returns, Value.isRef, FieldType.isReference]
    first | (intro acts; rw [hr _ acts rfl rfl rfl]) | rw [hr _ _ rfl rfl rfl]
    exact Steps.refl _
  · show Q6 Z wO h0 n0 _ T1.heap _
    rw [e1]
    exact ⟨rfl, N0, rfl⟩
def Q16_0 (Z : State) (a1 : Addr) (h0 : Heap) (n0 : Nat) (v : Option Value) (h : Heap) (L : List Loc) : Prop := v = some .null ∧ Fr n0 L ∧ h = h0
theorem ef_16_0 (m : MethodId) (x0 : Addr) : entryFrame m #[(.ref x0), .null] 2 = mkF m 0 #[.val (.ref x0), .val .null] [] := by first | (simp [entryFrame, mkF, argsToLocals, Value.category]; done) | rfl
set_option maxRecDepth 65536 in
set_option maxHeartbeats 40000000 in
theorem rm16_0 (l : Launch) (Z : State) (a0 : Array Value) (hw : ∀ d ∈ tables_1, d.before a0 Z = true) (ws : List Jvm.Cond) (a1 : Addr) (h0 : Heap) (n0 : Nat) (O0 : Old Z n0 h0) (F_v : Fld Z h0 a1 "java/util/Optional" "value" "Ljava/lang/Object;" .null) :
    MetFree l (⟨"java/util/Optional", "orElse", "(Ljava/lang/Object;)Ljava/lang/Object;"⟩ : MethodName) (head1 (Jvm.Cond.code (⟨"java/util/Optional", "orElse", "(Ljava/lang/Object;)Ljava/lang/Object;"⟩ : MethodName) jdk_32_method_15_code 2 (some (.object "java/lang/Object")) :: ws) ({ frames := 0, cells := 0, slots := 0, locals := 0 } : Room)) (fun a U => a = #[(.ref a1), .null] ∧ Z.Warmed39 U.vm ∧ U.heap = h0) (fun _ _ _ _ _ => True) (fun _ U o U' => ∃ v L, o = .returned v ∧ Q16_0 Z a1 h0 n0 v U'.heap L ∧ FrameEnd U o U' L ({ frames := 0, cells := 0, slots := 0, locals := 0 } : Room).cells ({ frames := 0, cells := 0, slots := 0, locals := 0 } : Room).slots) := by
  refine MetFree.of_bodySF (plainFor_of_name pn_3) hisR ?_
  intro p e s m args below meth c s₁ Bd hml0 hP hK
  obtain ⟨rfl, hZ, hh⟩ := hP
  have hx := Bd.exec
  have hby := Bd.bytes
  have hml : c.maxLocals = 2 := hml0
  have hown : s.vm.findClass "java/util/Optional" = some m.cls := findClass_of_methodNamed Bd.named
  have hnm := (name_of_methodNamed Bd.named Bd.method).1
  have X0 : Stand p l e ({ frames := 0, cells := 0, slots := 0, locals := 0 } : Room) s m #[(.ref a1), .null] below meth c s₁ [] 0 0 := Stand.of_body Bd
  have e0 : s₁.heap = h0 := by rw [← hh, Bd.state]; rfl
  have N0 := Fr.nil n0
  have pre0 : ∀ t, Steps p.tables e below (s₁.setTop (mkF m 0 #[.val (.ref a1), .val .null] [])) t → Steps p.tables e below (s₁.setTop (entryFrame m #[(.ref a1), .null] 2)) t := fun t k => castTop (ef_16_0 m a1) k
  obtain ⟨T1, X1, e1, st1⟩ := getF X0 hx hZ hown (host := "") (Or.inl (tw hw 115 rfl)) Via.refl e0 F_v (g := (mkF m 1 #[Rf a1, .val .null] [(.ref a1)])) rfl rfl (hb hby d16_1)
  have sg2 : ∀ target, Steps p.tables e below (T1.setTop (mkF m 15 #[Rf a1, .val .null] [.null])) target → Steps p.tables e below (s₁.setTop (mkF m 0 #[Rf a1, .val .null] [])) target := by
    intro target kt
    show Steps p.tables e below (s₁.setTop (mkF m 0 #[Rf a1, .val .null] [])) _
    refine XS.aloadN X0.here hx rfl (hb hby d16_0) rfl rfl ?_
    show Steps p.tables e below (s₁.setTop (mkF m 1 #[Rf a1, .val .null] [(.ref a1)])) _
    refine st1 _ ?_
    show Steps p.tables e below (T1.setTop (mkF m 4 #[Rf a1, .val .null] [.null])) _
    refine XS.ifnullYes X1.here hx rfl (pc0 := 4) (pc' := 14) rfl (hb hby d16_4) rfl (by decide) (by decide) ?_
    show Steps p.tables e below (T1.setTop (mkF m 14 #[Rf a1, .val .null] [])) _
    refine XS.aloadN X1.here hx rfl (hb hby d16_14) rfl rfl ?_
    exact kt
  obtain ⟨fs, hr, hrun, hended, hW, hsame⟩ := X1.leave (v := some .null) (fun h => by rw [Bd.returns] at h; cases h)
  refine ⟨_, _, pre0 _ (sg2 _ (?_)), hrun, hended, _, _, rfl, ?_, ⟨_, rfl⟩, hW, hsame.mono (by decide) (by decide)⟩
  · show Steps p.tables e below (T1.setTop (mkF m 15 #[Rf a1, .val .null] [.null])) _
    jvm_step X1.here [X1.here.top, hx, (hb hby d16_15), X1.method', Bd.returns, Value.isRef, FieldType.isReference]
    first | (intro acts; rw [hr _ acts rfl rfl rfl]) | rw [hr _ _ rfl rfl rfl]
    exact Steps.refl _
  · show Q16_0 Z a1 h0 n0 _ T1.heap _
    rw [e1]
    exact ⟨rfl, N0, rfl⟩
def Q16_1 (Z : State) (a1 : Addr) (fv : Addr) (h0 : Heap) (n0 : Nat) (v : Option Value) (h : Heap) (L : List Loc) : Prop := v = some (.ref fv) ∧ Fr n0 L ∧ h = h0
theorem ef_16_1 (m : MethodId) (x0 : Addr) : entryFrame m #[(.ref x0), .null] 2 = mkF m 0 #[.val (.ref x0), .val .null] [] := by first | (simp [entryFrame, mkF, argsToLocals, Value.category]; done) | rfl
set_option maxRecDepth 65536 in
set_option maxHeartbeats 40000000 in
theorem rm16_1 (l : Launch) (Z : State) (a0 : Array Value) (hw : ∀ d ∈ tables_1, d.before a0 Z = true) (ws : List Jvm.Cond) (a1 : Addr) (fv : Addr) (h0 : Heap) (n0 : Nat) (O0 : Old Z n0 h0) (F_v : Fld Z h0 a1 "java/util/Optional" "value" "Ljava/lang/Object;" (.ref fv)) :
    MetFree l (⟨"java/util/Optional", "orElse", "(Ljava/lang/Object;)Ljava/lang/Object;"⟩ : MethodName) (head1 (Jvm.Cond.code (⟨"java/util/Optional", "orElse", "(Ljava/lang/Object;)Ljava/lang/Object;"⟩ : MethodName) jdk_32_method_15_code 2 (some (.object "java/lang/Object")) :: ws) ({ frames := 0, cells := 0, slots := 0, locals := 0 } : Room)) (fun a U => a = #[(.ref a1), .null] ∧ Z.Warmed39 U.vm ∧ U.heap = h0) (fun _ _ _ _ _ => True) (fun _ U o U' => ∃ v L, o = .returned v ∧ Q16_1 Z a1 fv h0 n0 v U'.heap L ∧ FrameEnd U o U' L ({ frames := 0, cells := 0, slots := 0, locals := 0 } : Room).cells ({ frames := 0, cells := 0, slots := 0, locals := 0 } : Room).slots) := by
  refine MetFree.of_bodySF (plainFor_of_name pn_3) hisR ?_
  intro p e s m args below meth c s₁ Bd hml0 hP hK
  obtain ⟨rfl, hZ, hh⟩ := hP
  have hx := Bd.exec
  have hby := Bd.bytes
  have hml : c.maxLocals = 2 := hml0
  have hown : s.vm.findClass "java/util/Optional" = some m.cls := findClass_of_methodNamed Bd.named
  have hnm := (name_of_methodNamed Bd.named Bd.method).1
  have X0 : Stand p l e ({ frames := 0, cells := 0, slots := 0, locals := 0 } : Room) s m #[(.ref a1), .null] below meth c s₁ [] 0 0 := Stand.of_body Bd
  have e0 : s₁.heap = h0 := by rw [← hh, Bd.state]; rfl
  have N0 := Fr.nil n0
  have pre0 : ∀ t, Steps p.tables e below (s₁.setTop (mkF m 0 #[.val (.ref a1), .val .null] [])) t → Steps p.tables e below (s₁.setTop (entryFrame m #[(.ref a1), .null] 2)) t := fun t k => castTop (ef_16_1 m a1) k
  obtain ⟨T1, X1, e1, st1⟩ := getF X0 hx hZ hown (host := "") (Or.inl (tw hw 115 rfl)) Via.refl e0 F_v (g := (mkF m 1 #[Rf a1, .val .null] [(.ref a1)])) rfl rfl (hb hby d16_1)
  obtain ⟨T2, X2, e2, st2⟩ := getF X1 hx hZ hown (host := "") (Or.inl (tw hw 115 rfl)) Via.refl e1 F_v (g := (mkF m 8 #[Rf a1, .val .null] [(.ref a1)])) rfl rfl (hb hby d16_8)
  have sg3 : ∀ target, Steps p.tables e below (T2.setTop (mkF m 15 #[Rf a1, .val .null] [(.ref fv)])) target → Steps p.tables e below (s₁.setTop (mkF m 0 #[Rf a1, .val .null] [])) target := by
    intro target kt
    show Steps p.tables e below (s₁.setTop (mkF m 0 #[Rf a1, .val .null] [])) _
    refine XS.aloadN X0.here hx rfl (hb hby d16_0) rfl rfl ?_
    show Steps p.tables e below (s₁.setTop (mkF m 1 #[Rf a1, .val .null] [(.ref a1)])) _
    refine st1 _ ?_
    show Steps p.tables e below (T1.setTop (mkF m 4 #[Rf a1, .val .null] [(.ref fv)])) _
    refine XS.ifnullNo X1.here hx rfl (hb hby d16_4) rfl ?_
    show Steps p.tables e below (T1.setTop (mkF m 7 #[Rf a1, .val .null] [])) _
    refine XS.aloadN X1.here hx rfl (hb hby d16_7) rfl rfl ?_
    show Steps p.tables e below (T1.setTop (mkF m 8 #[Rf a1, .val .null] [(.ref a1)])) _
    refine st2 _ ?_
    show Steps p.tables e below (T2.setTop (mkF m 11 #[Rf a1, .val .null] [(.ref fv)])) _
    refine XS.goto X2.here hx rfl (pc0 := 11) (pc' := 15) rfl (hb hby d16_11) (by decide) (by decide) ?_
    exact kt
  obtain ⟨fs, hr, hrun, hended, hW, hsame⟩ := X2.leave (v := some (.ref fv)) (fun h => by rw [Bd.returns] at h; cases h)
  refine ⟨_, _, pre0 _ (sg3 _ (?_)), hrun, hended, _, _, rfl, ?_, ⟨_, rfl⟩, hW, hsame.mono (by decide) (by decide)⟩
  · show Steps p.tables e below (T2.setTop (mkF m 15 #[Rf a1, .val .null] [(.ref fv)])) _
    jvm_step X2.here [X2.here.top, hx, (hb hby d16_15), X2.method', Bd.returns, Value.isRef, FieldType.isReference]
    first | (intro acts; rw [hr _ acts rfl rfl rfl]) | rw [hr _ _ rfl rfl rfl]
    exact Steps.refl _
  · show Q16_1 Z a1 fv h0 n0 _ T2.heap _
    rw [e2]
    exact ⟨rfl, N0, rfl⟩
def Q22_0 (Z : State) (a1 : Addr) (h0 : Heap) (n0 : Nat) (v : Option Value) (h : Heap) (L : List Loc) : Prop := v = some (.int (1 : Int32)) ∧ Fr n0 L ∧ h = h0
theorem ef_22_0 (m : MethodId) (x0 : Addr) : entryFrame m #[(.ref x0)] 1 = mkF m 0 #[.val (.ref x0)] [] := by first | (simp [entryFrame, mkF, argsToLocals, Value.category]; done) | rfl
set_option maxRecDepth 65536 in
set_option maxHeartbeats 40000000 in
theorem rm22_0 (l : Launch) (Z : State) (a0 : Array Value) (hw : ∀ d ∈ tables_1, d.before a0 Z = true) (ws : List Jvm.Cond) (a1 : Addr) (h0 : Heap) (n0 : Nat) (O0 : Old Z n0 h0) (F_v : Fld Z h0 a1 "java/util/Optional" "value" "Ljava/lang/Object;" .null) :
    MetFree l (⟨"java/util/Optional", "isEmpty", "()Z"⟩ : MethodName) (head1 (Jvm.Cond.code (⟨"java/util/Optional", "isEmpty", "()Z"⟩ : MethodName) jdk_32_method_7_code 1 (some .boolean) :: ws) ({ frames := 0, cells := 0, slots := 0, locals := 0 } : Room)) (fun a U => a = #[(.ref a1)] ∧ Z.Warmed39 U.vm ∧ U.heap = h0) (fun _ _ _ _ _ => True) (fun _ U o U' => ∃ v L, o = .returned v ∧ Q22_0 Z a1 h0 n0 v U'.heap L ∧ FrameEnd U o U' L ({ frames := 0, cells := 0, slots := 0, locals := 0 } : Room).cells ({ frames := 0, cells := 0, slots := 0, locals := 0 } : Room).slots) := by
  refine MetFree.of_bodySF (plainFor_of_name pn_3) hisR ?_
  intro p e s m args below meth c s₁ Bd hml0 hP hK
  obtain ⟨rfl, hZ, hh⟩ := hP
  have hx := Bd.exec
  have hby := Bd.bytes
  have hml : c.maxLocals = 1 := hml0
  have hown : s.vm.findClass "java/util/Optional" = some m.cls := findClass_of_methodNamed Bd.named
  have hnm := (name_of_methodNamed Bd.named Bd.method).1
  have X0 : Stand p l e ({ frames := 0, cells := 0, slots := 0, locals := 0 } : Room) s m #[(.ref a1)] below meth c s₁ [] 0 0 := Stand.of_body Bd
  have e0 : s₁.heap = h0 := by rw [← hh, Bd.state]; rfl
  have N0 := Fr.nil n0
  have pre0 : ∀ t, Steps p.tables e below (s₁.setTop (mkF m 0 #[.val (.ref a1)] [])) t → Steps p.tables e below (s₁.setTop (entryFrame m #[(.ref a1)] 1)) t := fun t k => castTop (ef_22_0 m a1) k
  obtain ⟨T1, X1, e1, st1⟩ := getF X0 hx hZ hown (host := "") (Or.inl (tw hw 115 rfl)) Via.refl e0 F_v (g := (mkF m 1 #[Rf a1] [(.ref a1)])) rfl rfl (hb hby d22_1)
  have sg2 : ∀ target, Steps p.tables e below (T1.setTop (mkF m 12 #[Rf a1] [(.int (1 : Int32))])) target → Steps p.tables e below (s₁.setTop (mkF m 0 #[Rf a1] [])) target := by
    intro target kt
    show Steps p.tables e below (s₁.setTop (mkF m 0 #[Rf a1] [])) _
    refine XS.aloadN X0.here hx rfl (hb hby d22_0) rfl rfl ?_
    show Steps p.tables e below (s₁.setTop (mkF m 1 #[Rf a1] [(.ref a1)])) _
    refine st1 _ ?_
    show Steps p.tables e below (T1.setTop (mkF m 4 #[Rf a1] [.null])) _
    refine XS.ifnonnullNo X1.here hx rfl (hb hby d22_4) rfl ?_
    show Steps p.tables e below (T1.setTop (mkF m 7 #[Rf a1] [])) _
    refine XS.iconst X1.here hx rfl (hb hby d22_7) ?_
    show Steps p.tables e below (T1.setTop (mkF m 8 #[Rf a1] [(.int (1 : Int32))])) _
    refine XS.goto X1.here hx rfl (pc0 := 8) (pc' := 12) rfl (hb hby d22_8) (by decide) (by decide) ?_
    exact kt
  obtain ⟨fs, hr, hrun, hended, hW, hsame⟩ := X1.leave (v := some (.int (1 : Int32))) (fun h => by rw [Bd.returns] at h; cases h)
  refine ⟨_, _, pre0 _ (sg2 _ (?_)), hrun, hended, _, _, rfl, ?_, ⟨_, rfl⟩, hW, hsame.mono (by decide) (by decide)⟩
  · show Steps p.tables e below (T1.setTop (mkF m 12 #[Rf a1] [(.int (1 : Int32))])) _
    exact retN X1 hx (t := .boolean) Bd.returns (by simp) (hb hby d22_12) hr
  · show Q22_0 Z a1 h0 n0 _ T1.heap _
    rw [e1]
    exact ⟨rfl, N0, rfl⟩
def Q22_1 (Z : State) (a1 : Addr) (fv : Addr) (h0 : Heap) (n0 : Nat) (v : Option Value) (h : Heap) (L : List Loc) : Prop := v = some (.int (0 : Int32)) ∧ Fr n0 L ∧ h = h0
theorem ef_22_1 (m : MethodId) (x0 : Addr) : entryFrame m #[(.ref x0)] 1 = mkF m 0 #[.val (.ref x0)] [] := by first | (simp [entryFrame, mkF, argsToLocals, Value.category]; done) | rfl
set_option maxRecDepth 65536 in
set_option maxHeartbeats 40000000 in
theorem rm22_1 (l : Launch) (Z : State) (a0 : Array Value) (hw : ∀ d ∈ tables_1, d.before a0 Z = true) (ws : List Jvm.Cond) (a1 : Addr) (fv : Addr) (h0 : Heap) (n0 : Nat) (O0 : Old Z n0 h0) (F_v : Fld Z h0 a1 "java/util/Optional" "value" "Ljava/lang/Object;" (.ref fv)) :
    MetFree l (⟨"java/util/Optional", "isEmpty", "()Z"⟩ : MethodName) (head1 (Jvm.Cond.code (⟨"java/util/Optional", "isEmpty", "()Z"⟩ : MethodName) jdk_32_method_7_code 1 (some .boolean) :: ws) ({ frames := 0, cells := 0, slots := 0, locals := 0 } : Room)) (fun a U => a = #[(.ref a1)] ∧ Z.Warmed39 U.vm ∧ U.heap = h0) (fun _ _ _ _ _ => True) (fun _ U o U' => ∃ v L, o = .returned v ∧ Q22_1 Z a1 fv h0 n0 v U'.heap L ∧ FrameEnd U o U' L ({ frames := 0, cells := 0, slots := 0, locals := 0 } : Room).cells ({ frames := 0, cells := 0, slots := 0, locals := 0 } : Room).slots) := by
  refine MetFree.of_bodySF (plainFor_of_name pn_3) hisR ?_
  intro p e s m args below meth c s₁ Bd hml0 hP hK
  obtain ⟨rfl, hZ, hh⟩ := hP
  have hx := Bd.exec
  have hby := Bd.bytes
  have hml : c.maxLocals = 1 := hml0
  have hown : s.vm.findClass "java/util/Optional" = some m.cls := findClass_of_methodNamed Bd.named
  have hnm := (name_of_methodNamed Bd.named Bd.method).1
  have X0 : Stand p l e ({ frames := 0, cells := 0, slots := 0, locals := 0 } : Room) s m #[(.ref a1)] below meth c s₁ [] 0 0 := Stand.of_body Bd
  have e0 : s₁.heap = h0 := by rw [← hh, Bd.state]; rfl
  have N0 := Fr.nil n0
  have pre0 : ∀ t, Steps p.tables e below (s₁.setTop (mkF m 0 #[.val (.ref a1)] [])) t → Steps p.tables e below (s₁.setTop (entryFrame m #[(.ref a1)] 1)) t := fun t k => castTop (ef_22_1 m a1) k
  obtain ⟨T1, X1, e1, st1⟩ := getF X0 hx hZ hown (host := "") (Or.inl (tw hw 115 rfl)) Via.refl e0 F_v (g := (mkF m 1 #[Rf a1] [(.ref a1)])) rfl rfl (hb hby d22_1)
  have sg2 : ∀ target, Steps p.tables e below (T1.setTop (mkF m 12 #[Rf a1] [(.int (0 : Int32))])) target → Steps p.tables e below (s₁.setTop (mkF m 0 #[Rf a1] [])) target := by
    intro target kt
    show Steps p.tables e below (s₁.setTop (mkF m 0 #[Rf a1] [])) _
    refine XS.aloadN X0.here hx rfl (hb hby d22_0) rfl rfl ?_
    show Steps p.tables e below (s₁.setTop (mkF m 1 #[Rf a1] [(.ref a1)])) _
    refine st1 _ ?_
    show Steps p.tables e below (T1.setTop (mkF m 4 #[Rf a1] [(.ref fv)])) _
    refine XS.ifnonnullYes X1.here hx rfl (pc0 := 4) (pc' := 11) rfl (hb hby d22_4) rfl (by decide) (by decide) ?_
    show Steps p.tables e below (T1.setTop (mkF m 11 #[Rf a1] [])) _
    refine XS.iconst X1.here hx rfl (hb hby d22_11) ?_
    exact kt
  obtain ⟨fs, hr, hrun, hended, hW, hsame⟩ := X1.leave (v := some (.int (0 : Int32))) (fun h => by rw [Bd.returns] at h; cases h)
  refine ⟨_, _, pre0 _ (sg2 _ (?_)), hrun, hended, _, _, rfl, ?_, ⟨_, rfl⟩, hW, hsame.mono (by decide) (by decide)⟩
  · show Steps p.tables e below (T1.setTop (mkF m 12 #[Rf a1] [(.int (0 : Int32))])) _
    exact retN X1 hx (t := .boolean) Bd.returns (by simp) (hb hby d22_12) hr
  · show Q22_1 Z a1 fv h0 n0 _ T1.heap _
    rw [e1]
    exact ⟨rfl, N0, rfl⟩
def Q32_0 (Z : State) (a1 : Addr) (h0 : Heap) (n0 : Nat) (v : Option Value) (h : Heap) (L : List Loc) : Prop := v = some (.int (0 : Int32)) ∧ Fr n0 L ∧ h = h0
theorem ef_32_0 (m : MethodId) (x0 : Addr) : entryFrame m #[(.ref x0)] 1 = mkF m 0 #[.val (.ref x0)] [] := by first | (simp [entryFrame, mkF, argsToLocals, Value.category]; done) | rfl
set_option maxRecDepth 65536 in
set_option maxHeartbeats 40000000 in
theorem rm32_0 (l : Launch) (Z : State) (a0 : Array Value) (hw : ∀ d ∈ tables_1, d.before a0 Z = true) (ws : List Jvm.Cond) (a1 : Addr) (h0 : Heap) (n0 : Nat) (O0 : Old Z n0 h0) (F_v : Fld Z h0 a1 "java/util/Optional" "value" "Ljava/lang/Object;" .null) :
    MetFree l (⟨"java/util/Optional", "isPresent", "()Z"⟩ : MethodName) (head1 (Jvm.Cond.code (⟨"java/util/Optional", "isPresent", "()Z"⟩ : MethodName) jdk_32_method_6_code 1 (some .boolean) :: ws) ({ frames := 0, cells := 0, slots := 0, locals := 0 } : Room)) (fun a U => a = #[(.ref a1)] ∧ Z.Warmed39 U.vm ∧ U.heap = h0) (fun _ _ _ _ _ => True) (fun _ U o U' => ∃ v L, o = .returned v ∧ Q32_0 Z a1 h0 n0 v U'.heap L ∧ FrameEnd U o U' L ({ frames := 0, cells := 0, slots := 0, locals := 0 } : Room).cells ({ frames := 0, cells := 0, slots := 0, locals := 0 } : Room).slots) := by
  refine MetFree.of_bodySF (plainFor_of_name pn_3) hisR ?_
  intro p e s m args below meth c s₁ Bd hml0 hP hK
  obtain ⟨rfl, hZ, hh⟩ := hP
  have hx := Bd.exec
  have hby := Bd.bytes
  have hml : c.maxLocals = 1 := hml0
  have hown : s.vm.findClass "java/util/Optional" = some m.cls := findClass_of_methodNamed Bd.named
  have hnm := (name_of_methodNamed Bd.named Bd.method).1
  have X0 : Stand p l e ({ frames := 0, cells := 0, slots := 0, locals := 0 } : Room) s m #[(.ref a1)] below meth c s₁ [] 0 0 := Stand.of_body Bd
  have e0 : s₁.heap = h0 := by rw [← hh, Bd.state]; rfl
  have N0 := Fr.nil n0
  have pre0 : ∀ t, Steps p.tables e below (s₁.setTop (mkF m 0 #[.val (.ref a1)] [])) t → Steps p.tables e below (s₁.setTop (entryFrame m #[(.ref a1)] 1)) t := fun t k => castTop (ef_32_0 m a1) k
  obtain ⟨T1, X1, e1, st1⟩ := getF X0 hx hZ hown (host := "") (Or.inl (tw hw 115 rfl)) Via.refl e0 F_v (g := (mkF m 1 #[Rf a1] [(.ref a1)])) rfl rfl (hb hby d32_1)
  have sg2 : ∀ target, Steps p.tables e below (T1.setTop (mkF m 12 #[Rf a1] [(.int (0 : Int32))])) target → Steps p.tables e below (s₁.setTop (mkF m 0 #[Rf a1] [])) target := by
    intro target kt
    show Steps p.tables e below (s₁.setTop (mkF m 0 #[Rf a1] [])) _
    refine XS.aloadN X0.here hx rfl (hb hby d32_0) rfl rfl ?_
    show Steps p.tables e below (s₁.setTop (mkF m 1 #[Rf a1] [(.ref a1)])) _
    refine st1 _ ?_
    show Steps p.tables e below (T1.setTop (mkF m 4 #[Rf a1] [.null])) _
    refine XS.ifnullYes X1.here hx rfl (pc0 := 4) (pc' := 11) rfl (hb hby d32_4) rfl (by decide) (by decide) ?_
    show Steps p.tables e below (T1.setTop (mkF m 11 #[Rf a1] [])) _
    refine XS.iconst X1.here hx rfl (hb hby d32_11) ?_
    exact kt
  obtain ⟨fs, hr, hrun, hended, hW, hsame⟩ := X1.leave (v := some (.int (0 : Int32))) (fun h => by rw [Bd.returns] at h; cases h)
  refine ⟨_, _, pre0 _ (sg2 _ (?_)), hrun, hended, _, _, rfl, ?_, ⟨_, rfl⟩, hW, hsame.mono (by decide) (by decide)⟩
  · show Steps p.tables e below (T1.setTop (mkF m 12 #[Rf a1] [(.int (0 : Int32))])) _
    exact retN X1 hx (t := .boolean) Bd.returns (by simp) (hb hby d32_12) hr
  · show Q32_0 Z a1 h0 n0 _ T1.heap _
    rw [e1]
    exact ⟨rfl, N0, rfl⟩
def Q32_1 (Z : State) (a1 : Addr) (fv : Addr) (h0 : Heap) (n0 : Nat) (v : Option Value) (h : Heap) (L : List Loc) : Prop := v = some (.int (1 : Int32)) ∧ Fr n0 L ∧ h = h0
theorem ef_32_1 (m : MethodId) (x0 : Addr) : entryFrame m #[(.ref x0)] 1 = mkF m 0 #[.val (.ref x0)] [] := by first | (simp [entryFrame, mkF, argsToLocals, Value.category]; done) | rfl
set_option maxRecDepth 65536 in
set_option maxHeartbeats 40000000 in
theorem rm32_1 (l : Launch) (Z : State) (a0 : Array Value) (hw : ∀ d ∈ tables_1, d.before a0 Z = true) (ws : List Jvm.Cond) (a1 : Addr) (fv : Addr) (h0 : Heap) (n0 : Nat) (O0 : Old Z n0 h0) (F_v : Fld Z h0 a1 "java/util/Optional" "value" "Ljava/lang/Object;" (.ref fv)) :
    MetFree l (⟨"java/util/Optional", "isPresent", "()Z"⟩ : MethodName) (head1 (Jvm.Cond.code (⟨"java/util/Optional", "isPresent", "()Z"⟩ : MethodName) jdk_32_method_6_code 1 (some .boolean) :: ws) ({ frames := 0, cells := 0, slots := 0, locals := 0 } : Room)) (fun a U => a = #[(.ref a1)] ∧ Z.Warmed39 U.vm ∧ U.heap = h0) (fun _ _ _ _ _ => True) (fun _ U o U' => ∃ v L, o = .returned v ∧ Q32_1 Z a1 fv h0 n0 v U'.heap L ∧ FrameEnd U o U' L ({ frames := 0, cells := 0, slots := 0, locals := 0 } : Room).cells ({ frames := 0, cells := 0, slots := 0, locals := 0 } : Room).slots) := by
  refine MetFree.of_bodySF (plainFor_of_name pn_3) hisR ?_
  intro p e s m args below meth c s₁ Bd hml0 hP hK
  obtain ⟨rfl, hZ, hh⟩ := hP
  have hx := Bd.exec
  have hby := Bd.bytes
  have hml : c.maxLocals = 1 := hml0
  have hown : s.vm.findClass "java/util/Optional" = some m.cls := findClass_of_methodNamed Bd.named
  have hnm := (name_of_methodNamed Bd.named Bd.method).1
  have X0 : Stand p l e ({ frames := 0, cells := 0, slots := 0, locals := 0 } : Room) s m #[(.ref a1)] below meth c s₁ [] 0 0 := Stand.of_body Bd
  have e0 : s₁.heap = h0 := by rw [← hh, Bd.state]; rfl
  have N0 := Fr.nil n0
  have pre0 : ∀ t, Steps p.tables e below (s₁.setTop (mkF m 0 #[.val (.ref a1)] [])) t → Steps p.tables e below (s₁.setTop (entryFrame m #[(.ref a1)] 1)) t := fun t k => castTop (ef_32_1 m a1) k
  obtain ⟨T1, X1, e1, st1⟩ := getF X0 hx hZ hown (host := "") (Or.inl (tw hw 115 rfl)) Via.refl e0 F_v (g := (mkF m 1 #[Rf a1] [(.ref a1)])) rfl rfl (hb hby d32_1)
  have sg2 : ∀ target, Steps p.tables e below (T1.setTop (mkF m 12 #[Rf a1] [(.int (1 : Int32))])) target → Steps p.tables e below (s₁.setTop (mkF m 0 #[Rf a1] [])) target := by
    intro target kt
    show Steps p.tables e below (s₁.setTop (mkF m 0 #[Rf a1] [])) _
    refine XS.aloadN X0.here hx rfl (hb hby d32_0) rfl rfl ?_
    show Steps p.tables e below (s₁.setTop (mkF m 1 #[Rf a1] [(.ref a1)])) _
    refine st1 _ ?_
    show Steps p.tables e below (T1.setTop (mkF m 4 #[Rf a1] [(.ref fv)])) _
    refine XS.ifnullNo X1.here hx rfl (hb hby d32_4) rfl ?_
    show Steps p.tables e below (T1.setTop (mkF m 7 #[Rf a1] [])) _
    refine XS.iconst X1.here hx rfl (hb hby d32_7) ?_
    show Steps p.tables e below (T1.setTop (mkF m 8 #[Rf a1] [(.int (1 : Int32))])) _
    refine XS.goto X1.here hx rfl (pc0 := 8) (pc' := 12) rfl (hb hby d32_8) (by decide) (by decide) ?_
    exact kt
  obtain ⟨fs, hr, hrun, hended, hW, hsame⟩ := X1.leave (v := some (.int (1 : Int32))) (fun h => by rw [Bd.returns] at h; cases h)
  refine ⟨_, _, pre0 _ (sg2 _ (?_)), hrun, hended, _, _, rfl, ?_, ⟨_, rfl⟩, hW, hsame.mono (by decide) (by decide)⟩
  · show Steps p.tables e below (T1.setTop (mkF m 12 #[Rf a1] [(.int (1 : Int32))])) _
    exact retN X1 hx (t := .boolean) Bd.returns (by simp) (hb hby d32_12) hr
  · show Q32_1 Z a1 fv h0 n0 _ T1.heap _
    rw [e1]
    exact ⟨rfl, N0, rfl⟩
def Q33_1 (Z : State) (a1 : Addr) (fv : Addr) (h0 : Heap) (n0 : Nat) (v : Option Value) (h : Heap) (L : List Loc) : Prop := v = some (.ref fv) ∧ Fr n0 L ∧ h = h0
theorem ef_33_1 (m : MethodId) (x0 : Addr) : entryFrame m #[(.ref x0)] 1 = mkF m 0 #[.val (.ref x0)] [] := by first | (simp [entryFrame, mkF, argsToLocals, Value.category]; done) | rfl
set_option maxRecDepth 65536 in
set_option maxHeartbeats 40000000 in
theorem rm33_1 (l : Launch) (Z : State) (a0 : Array Value) (hw : ∀ d ∈ tables_1, d.before a0 Z = true) (ws : List Jvm.Cond) (a1 : Addr) (fv : Addr) (h0 : Heap) (n0 : Nat) (O0 : Old Z n0 h0) (F_v : Fld Z h0 a1 "java/util/Optional" "value" "Ljava/lang/Object;" (.ref fv)) :
    MetFree l (⟨"java/util/Optional", "get", "()Ljava/lang/Object;"⟩ : MethodName) (head1 (Jvm.Cond.code (⟨"java/util/Optional", "get", "()Ljava/lang/Object;"⟩ : MethodName) jdk_32_method_5_code 1 (some (.object "java/lang/Object")) :: ws) ({ frames := 0, cells := 0, slots := 0, locals := 0 } : Room)) (fun a U => a = #[(.ref a1)] ∧ Z.Warmed39 U.vm ∧ U.heap = h0) (fun _ _ _ _ _ => True) (fun _ U o U' => ∃ v L, o = .returned v ∧ Q33_1 Z a1 fv h0 n0 v U'.heap L ∧ FrameEnd U o U' L ({ frames := 0, cells := 0, slots := 0, locals := 0 } : Room).cells ({ frames := 0, cells := 0, slots := 0, locals := 0 } : Room).slots) := by
  refine MetFree.of_bodySF (plainFor_of_name pn_3) hisR ?_
  intro p e s m args below meth c s₁ Bd hml0 hP hK
  obtain ⟨rfl, hZ, hh⟩ := hP
  have hx := Bd.exec
  have hby := Bd.bytes
  have hml : c.maxLocals = 1 := hml0
  have hown : s.vm.findClass "java/util/Optional" = some m.cls := findClass_of_methodNamed Bd.named
  have hnm := (name_of_methodNamed Bd.named Bd.method).1
  have X0 : Stand p l e ({ frames := 0, cells := 0, slots := 0, locals := 0 } : Room) s m #[(.ref a1)] below meth c s₁ [] 0 0 := Stand.of_body Bd
  have e0 : s₁.heap = h0 := by rw [← hh, Bd.state]; rfl
  have N0 := Fr.nil n0
  have pre0 : ∀ t, Steps p.tables e below (s₁.setTop (mkF m 0 #[.val (.ref a1)] [])) t → Steps p.tables e below (s₁.setTop (entryFrame m #[(.ref a1)] 1)) t := fun t k => castTop (ef_33_1 m a1) k
  obtain ⟨T1, X1, e1, st1⟩ := getF X0 hx hZ hown (host := "") (Or.inl (tw hw 115 rfl)) Via.refl e0 F_v (g := (mkF m 1 #[Rf a1] [(.ref a1)])) rfl rfl (hb hby d33_1)
  obtain ⟨T2, X2, e2, st2⟩ := getF X1 hx hZ hown (host := "") (Or.inl (tw hw 115 rfl)) Via.refl e1 F_v (g := (mkF m 18 #[Rf a1] [(.ref a1)])) rfl rfl (hb hby d33_18)
  have sg3 : ∀ target, Steps p.tables e below (T2.setTop (mkF m 21 #[Rf a1] [(.ref fv)])) target → Steps p.tables e below (s₁.setTop (mkF m 0 #[Rf a1] [])) target := by
    intro target kt
    show Steps p.tables e below (s₁.setTop (mkF m 0 #[Rf a1] [])) _
    refine XS.aloadN X0.here hx rfl (hb hby d33_0) rfl rfl ?_
    show Steps p.tables e below (s₁.setTop (mkF m 1 #[Rf a1] [(.ref a1)])) _
    refine st1 _ ?_
    show Steps p.tables e below (T1.setTop (mkF m 4 #[Rf a1] [(.ref fv)])) _
    refine XS.ifnonnullYes X1.here hx rfl (pc0 := 4) (pc' := 17) rfl (hb hby d33_4) rfl (by decide) (by decide) ?_
    show Steps p.tables e below (T1.setTop (mkF m 17 #[Rf a1] [])) _
    refine XS.aloadN X1.here hx rfl (hb hby d33_17) rfl rfl ?_
    show Steps p.tables e below (T1.setTop (mkF m 18 #[Rf a1] [(.ref a1)])) _
    refine st2 _ ?_
    exact kt
  obtain ⟨fs, hr, hrun, hended, hW, hsame⟩ := X2.leave (v := some (.ref fv)) (fun h => by rw [Bd.returns] at h; cases h)
  refine ⟨_, _, pre0 _ (sg3 _ (?_)), hrun, hended, _, _, rfl, ?_, ⟨_, rfl⟩, hW, hsame.mono (by decide) (by decide)⟩
  · show Steps p.tables e below (T2.setTop (mkF m 21 #[Rf a1] [(.ref fv)])) _
    jvm_step X2.here [X2.here.top, hx, (hb hby d33_21), X2.method', Bd.returns, Value.isRef, FieldType.isReference]
    first | (intro acts; rw [hr _ acts rfl rfl rfl]) | rw [hr _ _ rfl rfl rfl]
    exact Steps.refl _
  · show Q33_1 Z a1 fv h0 n0 _ T2.heap _
    rw [e2]
    exact ⟨rfl, N0, rfl⟩
def Q10 (Z : State) (a1 : Addr) (h0 : Heap) (n0 : Nat) (v : Option Value) (h : Heap) (L : List Loc) : Prop := v = none ∧ Fr n0 L ∧ h = h0
theorem ef_10 (m : MethodId) (x0 : Addr) : entryFrame m #[(.ref x0)] 1 = mkF m 0 #[.val (.ref x0)] [] := by first | (simp [entryFrame, mkF, argsToLocals, Value.category]; done) | rfl
set_option maxRecDepth 65536 in
set_option maxHeartbeats 40000000 in
theorem rm10 (l : Launch) (Z : State) (a0 : Array Value) (hw : ∀ d ∈ tables_1, d.before a0 Z = true) (ws : List Jvm.Cond) (a1 : Addr) (h0 : Heap) (n0 : Nat) (O0 : Old Z n0 h0) :
    MetFree l (⟨"java/util/AbstractCollection", "<init>", "()V"⟩ : MethodName) (head1 (Jvm.Cond.code (⟨"java/util/AbstractCollection", "<init>", "()V"⟩ : MethodName) jdk_22_method_1_code 1 none :: ws) ({ frames := 1, cells := 0, slots := 0, locals := 12 } : Room)) (fun a U => a = #[(.ref a1)] ∧ Z.Warmed39 U.vm ∧ U.heap = h0) (fun _ _ _ _ _ => True) (fun _ U o U' => ∃ v L, o = .returned v ∧ Q10 Z a1 h0 n0 v U'.heap L ∧ FrameEnd U o U' L ({ frames := 1, cells := 0, slots := 0, locals := 12 } : Room).cells ({ frames := 1, cells := 0, slots := 0, locals := 12 } : Room).slots) := by
  refine MetFree.of_bodySF (plainFor_of_name pn_4) hisR ?_
  intro p e s m args below meth c s₁ Bd hml0 hP hK
  obtain ⟨rfl, hZ, hh⟩ := hP
  have hx := Bd.exec
  have hby := Bd.bytes
  have hml : c.maxLocals = 1 := hml0
  have hown : s.vm.findClass "java/util/AbstractCollection" = some m.cls := findClass_of_methodNamed Bd.named
  have hnm := (name_of_methodNamed Bd.named Bd.method).1
  have X0 : Stand p l e ({ frames := 1, cells := 0, slots := 0, locals := 12 } : Room) s m #[(.ref a1)] below meth c s₁ [] 0 0 := Stand.of_body Bd
  have e0 : s₁.heap = h0 := by rw [← hh, Bd.state]; rfl
  have N0 := Fr.nil n0
  have pre0 : ∀ t, Steps p.tables e below (s₁.setTop (mkF m 0 #[.val (.ref a1)] [])) t → Steps p.tables e below (s₁.setTop (entryFrame m #[(.ref a1)] 1)) t := fun t k => castTop (ef_10 m a1) k
  obtain ⟨T1, X1, e1, st1⟩ := initO X0 hx hZ hown (tw hw 64 rfl) (tw hw 21 rfl) (tw hw 22 rfl) e0 (g := (mkF m 1 #[Rf a1] [(.ref a1)])) rfl (by rw [hml]; rfl) rfl (hb hby d10_1) (by decide) (W := 0) (by show 2 * 0 + _ ≤ _; exact Nat.le_of_eq rfl) (by decide)
  have sg2 : ∀ target, Steps p.tables e below (T1.setTop (mkF m 4 #[Rf a1] [])) target → Steps p.tables e below (s₁.setTop (mkF m 0 #[Rf a1] [])) target := by
    intro target kt
    show Steps p.tables e below (s₁.setTop (mkF m 0 #[Rf a1] [])) _
    refine XS.aloadN X0.here hx rfl (hb hby d10_0) rfl rfl ?_
    show Steps p.tables e below (s₁.setTop (mkF m 1 #[Rf a1] [(.ref a1)])) _
    refine st1 _ ?_
    exact kt
  obtain ⟨fs, hr, hrun, hended, hW, hsame⟩ := X1.leave (v := none) (fun _ => rfl)
  refine ⟨_, _, pre0 _ (sg2 _ (?_)), hrun, hended, _, _, rfl, ?_, ⟨_, rfl⟩, hW, hsame.mono (by decide) (by decide)⟩
  · show Steps p.tables e below (T1.setTop (mkF m 4 #[Rf a1] [])) _
    exact X1.returnOut hx Bd.returns (hb hby d10_4) hr
  · show Q10 Z a1 h0 n0 _ T1.heap _
    rw [e1]
    exact ⟨rfl, N0, rfl⟩
def Q9 (Z : State) (a1 : Addr) (h0 : Heap) (n0 : Nat) (v : Option Value) (h : Heap) (L : List Loc) : Prop := v = none ∧ Fr n0 L ∧ Keep h0 h [a1] ∧ Old Z n0 h ∧ Fld Z h a1 "java/util/AbstractList" "modCount" "I" (.int (0 : Int32))
theorem ef_9 (m : MethodId) (x0 : Addr) : entryFrame m #[(.ref x0)] 1 = mkF m 0 #[.val (.ref x0)] [] := by first | (simp [entryFrame, mkF, argsToLocals, Value.category]; done) | rfl
set_option maxRecDepth 65536 in
set_option maxHeartbeats 40000000 in
theorem rm9 (l : Launch) (Z : State) (a0 : Array Value) (hw : ∀ d ∈ tables_1, d.before a0 Z = true) (ws : List Jvm.Cond) (a1 : Addr) (h0 : Heap) (n0 : Nat) (O0 : Old Z n0 h0) (E_a1 : Exa Z h0 a1 "java/util/ArrayList") (F_modCount_a1 : Fld Z h0 a1 "java/util/AbstractList" "modCount" "I" (.int (0 : Int32))) (ge_a1 : n0 ≤ a1) :
    MetFree l (⟨"java/util/AbstractList", "<init>", "()V"⟩ : MethodName) (head1 (Jvm.Cond.code (⟨"java/util/AbstractList", "<init>", "()V"⟩ : MethodName) jdk_39_method_1_code 1 none :: ws) ({ frames := 2, cells := 0, slots := 0, locals := 24 } : Room)) (fun a U => a = #[(.ref a1)] ∧ Z.Warmed39 U.vm ∧ U.heap = h0) (fun _ _ _ _ _ => True) (fun _ U o U' => ∃ v L, o = .returned v ∧ Q9 Z a1 h0 n0 v U'.heap L ∧ FrameEnd U o U' L ({ frames := 2, cells := 0, slots := 0, locals := 24 } : Room).cells ({ frames := 2, cells := 0, slots := 0, locals := 24 } : Room).slots) := by
  refine MetFree.of_bodySF (plainFor_of_name pn_5) hisR ?_
  intro p e s m args below meth c s₁ Bd hml0 hP hK
  obtain ⟨rfl, hZ, hh⟩ := hP
  have hx := Bd.exec
  have hby := Bd.bytes
  have hml : c.maxLocals = 1 := hml0
  have hown : s.vm.findClass "java/util/AbstractList" = some m.cls := findClass_of_methodNamed Bd.named
  have hnm := (name_of_methodNamed Bd.named Bd.method).1
  have X0 : Stand p l e ({ frames := 2, cells := 0, slots := 0, locals := 24 } : Room) s m #[(.ref a1)] below meth c s₁ [] 0 0 := Stand.of_body Bd
  have e0 : s₁.heap = h0 := by rw [← hh, Bd.state]; rfl
  have N0 := Fr.nil n0
  have pre0 : ∀ t, Steps p.tables e below (s₁.setTop (mkF m 0 #[.val (.ref a1)] [])) t → Steps p.tables e below (s₁.setTop (entryFrame m #[(.ref a1)] 1)) t := fun t k => castTop (ef_9 m a1) k
  have K0 := Keep.refl h0 [a1]
  obtain ⟨_, _, ⟨T1, L1, k1, n1⟩, -, X1, ⟨Lc1, hQ1, l1, y1, z1⟩, st1⟩ := X0.specialBack hx (y := (⟨"java/util/AbstractCollection", "<init>", "()V"⟩ : MethodName)) rfl hown (mvT hZ (tw hw 58 rfl)) (mvT hZ (tw hw 59 rfl)) (mvT hZ (tw hw 63 rfl)) (by decide) (backOf (W := 0) (rm10 l Z a0 hw [] a1 h0 n0 O0 ) hZ (tw hw 63 rfl) (tw hw 62 rfl) (by decide) (by decide)) (g := (mkF m 1 #[Rf a1] [(.ref a1)])) rfl (by rw [hml]; rfl) (Steps.refl _) (a := a1) (argsL := []) (rest := []) (lenOf pd_5 rfl) rfl (by show 2 * 0 + _ ≤ _; exact Nat.le_of_eq rfl) (hb hby d9_1) (fun _ _ => ⟨rfl, e0, (by decide : 0 + 0 ≤ _), (by decide : 0 + 0 ≤ _)⟩)
  dsimp only [Pt.U, Pt.locs, Pt.cells, Pt.slots] at X1 l1 y1 z1 st1 hQ1
  subst l1 y1 z1
  obtain ⟨rfl, N1q, e1⟩ := hQ1
  have N1 := Fr.app N0 N1q
  obtain ⟨T2, h2, X2, e2, W2, st2⟩ := putF X1 hx hZ hown (host := "") (Or.inl (tw hw 65 rfl)) Via.refl e1 F_modCount_a1 E_a1 (Or.inl (tw hw 66 rfl)) (tw hw 47 rfl) (ty := .int) (by decide) rfl rfl (g := (mkF m 6 #[Rf a1] [(.int (0 : Int32)), (.ref a1)])) rfl rfl (hb hby d9_6)
  have Fw2 := F_modCount_a1.same W2
  have N2 := Fr.snoc X2 N1 ge_a1
  have O3 := O0.wr W2 ge_a1
  have K2 := K0.wr W2 (Or.inl (List.mem_of_getElem? (i := 0) rfl))
  have sg4 : ∀ target, Steps p.tables e below (T2.setTop (mkF m 9 #[Rf a1] [])) target → Steps p.tables e below (s₁.setTop (mkF m 0 #[Rf a1] [])) target := by
    intro target kt
    show Steps p.tables e below (s₁.setTop (mkF m 0 #[Rf a1] [])) _
    refine XS.aloadN X0.here hx rfl (hb hby d9_0) rfl rfl ?_
    show Steps p.tables e below (s₁.setTop (mkF m 1 #[Rf a1] [(.ref a1)])) _
    refine st1.trans ?_
    show Steps p.tables e below (T1.setTop (mkF m 4 #[Rf a1] [])) _
    refine XS.aloadN X1.here hx rfl (hb hby d9_4) rfl rfl ?_
    show Steps p.tables e below (T1.setTop (mkF m 5 #[Rf a1] [(.ref a1)])) _
    refine XS.iconst X1.here hx rfl (hb hby d9_5) ?_
    show Steps p.tables e below (T1.setTop (mkF m 6 #[Rf a1] [(.int (0 : Int32)), (.ref a1)])) _
    refine st2 _ ?_
    exact kt
  obtain ⟨fs, hr, hrun, hended, hW, hsame⟩ := X2.leave (v := none) (fun _ => rfl)
  refine ⟨_, _, pre0 _ (sg4 _ (?_)), hrun, hended, _, _, rfl, ?_, ⟨_, rfl⟩, hW, hsame.mono (by decide) (by decide)⟩
  · show Steps p.tables e below (T2.setTop (mkF m 9 #[Rf a1] [])) _
    exact X2.returnOut hx Bd.returns (hb hby d9_9) hr
  · show Q9 Z a1 h0 n0 _ T2.heap _
    rw [e2]
    exact ⟨rfl, N2, K2, O3, Fw2⟩
def Q9_s (Z : State) (a1 : Addr) (h0 : Heap) (n0 : Nat) (v : Option Value) (h : Heap) (L : List Loc) : Prop := v = none ∧ Fr n0 L ∧ Keep h0 h [a1] ∧ Old Z n0 h ∧ Fld Z h a1 "java/util/AbstractList" "modCount" "I" (.int (0 : Int32)) ∧ Fld Z h a1 "java/util/ArrayList" "size" "I" (.int (0 : Int32)) ∧ Fld Z h a1 "java/util/ArrayList" "elementData" "[Ljava/lang/Object;" .null
theorem ef_9_s (m : MethodId) (x0 : Addr) : entryFrame m #[(.ref x0)] 1 = mkF m 0 #[.val (.ref x0)] [] := by first | (simp [entryFrame, mkF, argsToLocals, Value.category]; done) | rfl
set_option maxRecDepth 65536 in
set_option maxHeartbeats 40000000 in
theorem rm9_s (l : Launch) (Z : State) (a0 : Array Value) (hw : ∀ d ∈ tables_1, d.before a0 Z = true) (ws : List Jvm.Cond) (a1 : Addr) (h0 : Heap) (n0 : Nat) (O0 : Old Z n0 h0) (E_a1 : Exa Z h0 a1 "java/util/ArrayList") (F_modCount_a1 : Fld Z h0 a1 "java/util/AbstractList" "modCount" "I" (.int (0 : Int32))) (F_elementData_a1 : Fld Z h0 a1 "java/util/ArrayList" "elementData" "[Ljava/lang/Object;" .null) (F_size_a1 : Fld Z h0 a1 "java/util/ArrayList" "size" "I" (.int (0 : Int32))) (ge_a1 : n0 ≤ a1) :
    MetFree l (⟨"java/util/AbstractList", "<init>", "()V"⟩ : MethodName) (head1 (Jvm.Cond.code (⟨"java/util/AbstractList", "<init>", "()V"⟩ : MethodName) jdk_39_method_1_code 1 none :: ws) ({ frames := 2, cells := 0, slots := 0, locals := 24 } : Room)) (fun a U => a = #[(.ref a1)] ∧ Z.Warmed39 U.vm ∧ U.heap = h0) (fun _ _ _ _ _ => True) (fun _ U o U' => ∃ v L, o = .returned v ∧ Q9_s Z a1 h0 n0 v U'.heap L ∧ FrameEnd U o U' L ({ frames := 2, cells := 0, slots := 0, locals := 24 } : Room).cells ({ frames := 2, cells := 0, slots := 0, locals := 24 } : Room).slots) := by
  refine MetFree.of_bodySF (plainFor_of_name pn_5) hisR ?_
  intro p e s m args below meth c s₁ Bd hml0 hP hK
  obtain ⟨rfl, hZ, hh⟩ := hP
  have hx := Bd.exec
  have hby := Bd.bytes
  have hml : c.maxLocals = 1 := hml0
  have hown : s.vm.findClass "java/util/AbstractList" = some m.cls := findClass_of_methodNamed Bd.named
  have hnm := (name_of_methodNamed Bd.named Bd.method).1
  have X0 : Stand p l e ({ frames := 2, cells := 0, slots := 0, locals := 24 } : Room) s m #[(.ref a1)] below meth c s₁ [] 0 0 := Stand.of_body Bd
  have e0 : s₁.heap = h0 := by rw [← hh, Bd.state]; rfl
  have N0 := Fr.nil n0
  have pre0 : ∀ t, Steps p.tables e below (s₁.setTop (mkF m 0 #[.val (.ref a1)] [])) t → Steps p.tables e below (s₁.setTop (entryFrame m #[(.ref a1)] 1)) t := fun t k => castTop (ef_9_s m a1) k
  have K0 := Keep.refl h0 [a1]
  obtain ⟨_, _, ⟨T1, L1, k1, n1⟩, -, X1, ⟨Lc1, hQ1, l1, y1, z1⟩, st1⟩ := X0.specialBack hx (y := (⟨"java/util/AbstractCollection", "<init>", "()V"⟩ : MethodName)) rfl hown (mvT hZ (tw hw 58 rfl)) (mvT hZ (tw hw 59 rfl)) (mvT hZ (tw hw 63 rfl)) (by decide) (backOf (W := 0) (rm10 l Z a0 hw [] a1 h0 n0 O0 ) hZ (tw hw 63 rfl) (tw hw 62 rfl) (by decide) (by decide)) (g := (mkF m 1 #[Rf a1] [(.ref a1)])) rfl (by rw [hml]; rfl) (Steps.refl _) (a := a1) (argsL := []) (rest := []) (lenOf pd_5 rfl) rfl (by show 2 * 0 + _ ≤ _; exact Nat.le_of_eq rfl) (hb hby d9_1) (fun _ _ => ⟨rfl, e0, (by decide : 0 + 0 ≤ _), (by decide : 0 + 0 ≤ _)⟩)
  dsimp only [Pt.U, Pt.locs, Pt.cells, Pt.slots] at X1 l1 y1 z1 st1 hQ1
  subst l1 y1 z1
  obtain ⟨rfl, N1q, e1⟩ := hQ1
  have N1 := Fr.app N0 N1q
  obtain ⟨T2, h2, X2, e2, W2, st2⟩ := putF X1 hx hZ hown (host := "") (Or.inl (tw hw 65 rfl)) Via.refl e1 F_modCount_a1 E_a1 (Or.inl (tw hw 66 rfl)) (tw hw 47 rfl) (ty := .int) (by decide) rfl rfl (g := (mkF m 6 #[Rf a1] [(.int (0 : Int32)), (.ref a1)])) rfl rfl (hb hby d9_6)
  have Fw2 := F_modCount_a1.same W2
  have N2 := Fr.snoc X2 N1 ge_a1
  have O3 := O0.wr W2 ge_a1
  have K2 := K0.wr W2 (Or.inl (List.mem_of_getElem? (i := 0) rfl))
  have sg4 : ∀ target, Steps p.tables e below (T2.setTop (mkF m 9 #[Rf a1] [])) target → Steps p.tables e below (s₁.setTop (mkF m 0 #[Rf a1] [])) target := by
    intro target kt
    show Steps p.tables e below (s₁.setTop (mkF m 0 #[Rf a1] [])) _
    refine XS.aloadN X0.here hx rfl (hb hby d9_0) rfl rfl ?_
    show Steps p.tables e below (s₁.setTop (mkF m 1 #[Rf a1] [(.ref a1)])) _
    refine st1.trans ?_
    show Steps p.tables e below (T1.setTop (mkF m 4 #[Rf a1] [])) _
    refine XS.aloadN X1.here hx rfl (hb hby d9_4) rfl rfl ?_
    show Steps p.tables e below (T1.setTop (mkF m 5 #[Rf a1] [(.ref a1)])) _
    refine XS.iconst X1.here hx rfl (hb hby d9_5) ?_
    show Steps p.tables e below (T1.setTop (mkF m 6 #[Rf a1] [(.int (0 : Int32)), (.ref a1)])) _
    refine st2 _ ?_
    exact kt
  obtain ⟨fs, hr, hrun, hended, hW, hsame⟩ := X2.leave (v := none) (fun _ => rfl)
  refine ⟨_, _, pre0 _ (sg4 _ (?_)), hrun, hended, _, _, rfl, ?_, ⟨_, rfl⟩, hW, hsame.mono (by decide) (by decide)⟩
  · show Steps p.tables e below (T2.setTop (mkF m 9 #[Rf a1] [])) _
    exact X2.returnOut hx Bd.returns (hb hby d9_9) hr
  · show Q9_s Z a1 h0 n0 _ T2.heap _
    rw [e2]
    exact ⟨rfl, N2, K2, O3, Fw2, (F_size_a1.other W2 (sn .int .int (Or.inl (tw hw 169 rfl)) (Or.inl (tw hw 66 rfl)))), (F_elementData_a1.other W2 (sn (.array (.object "java/lang/Object")) .int (Or.inl (tw hw 69 rfl)) (Or.inl (tw hw 66 rfl))))⟩
def Q8 (Z : State) (a1 : Addr) (wD : Addr) (h0 : Heap) (n0 : Nat) (v : Option Value) (h : Heap) (L : List Loc) : Prop := v = none ∧ Fr n0 L ∧ Keep h0 h [a1] ∧ Old Z n0 h ∧ Fld Z h a1 "java/util/AbstractList" "modCount" "I" (.int (0 : Int32)) ∧ Fld Z h a1 "java/util/ArrayList" "size" "I" (.int (0 : Int32))
theorem ef_8 (m : MethodId) (x0 : Addr) : entryFrame m #[(.ref x0)] 1 = mkF m 0 #[.val (.ref x0)] [] := by first | (simp [entryFrame, mkF, argsToLocals, Value.category]; done) | rfl
set_option maxRecDepth 65536 in
set_option maxHeartbeats 40000000 in
theorem rm8 (l : Launch) (Z : State) (a0 : Array Value) (hw : ∀ d ∈ tables_1, d.before a0 Z = true) (ws : List Jvm.Cond) (a1 : Addr) (wD : Addr) (h0 : Heap) (n0 : Nat) (O0 : Old Z n0 h0) (S_DEFAULTCAPACITY_EMPTY_ELEMENTDATA : Sta Z Z.heap "java/util/ArrayList" "DEFAULTCAPACITY_EMPTY_ELEMENTDATA" "[Ljava/lang/Object;" (.ref wD)) (E_a1 : Exa Z h0 a1 "java/util/ArrayList") (F_modCount_a1 : Fld Z h0 a1 "java/util/AbstractList" "modCount" "I" (.int (0 : Int32))) (F_elementData_a1 : Fld Z h0 a1 "java/util/ArrayList" "elementData" "[Ljava/lang/Object;" .null) (F_size_a1 : Fld Z h0 a1 "java/util/ArrayList" "size" "I" (.int (0 : Int32))) (ge_a1 : n0 ≤ a1) :
    MetFree l (⟨"java/util/ArrayList", "<init>", "()V"⟩ : MethodName) (head1 (Jvm.Cond.code (⟨"java/util/ArrayList", "<init>", "()V"⟩ : MethodName) jdk_38_method_2_code 1 none :: ws) ({ frames := 3, cells := 0, slots := 0, locals := 36 } : Room)) (fun a U => a = #[(.ref a1)] ∧ Z.Warmed39 U.vm ∧ U.heap = h0) (fun _ _ _ _ _ => True) (fun _ U o U' => ∃ v L, o = .returned v ∧ Q8 Z a1 wD h0 n0 v U'.heap L ∧ FrameEnd U o U' L ({ frames := 3, cells := 0, slots := 0, locals := 36 } : Room).cells ({ frames := 3, cells := 0, slots := 0, locals := 36 } : Room).slots) := by
  refine MetFree.of_bodySF (plainFor_of_name pn_6) hisR ?_
  intro p e s m args below meth c s₁ Bd hml0 hP hK
  obtain ⟨rfl, hZ, hh⟩ := hP
  have hx := Bd.exec
  have hby := Bd.bytes
  have hml : c.maxLocals = 1 := hml0
  have hown : s.vm.findClass "java/util/ArrayList" = some m.cls := findClass_of_methodNamed Bd.named
  have hnm := (name_of_methodNamed Bd.named Bd.method).1
  have X0 : Stand p l e ({ frames := 3, cells := 0, slots := 0, locals := 36 } : Room) s m #[(.ref a1)] below meth c s₁ [] 0 0 := Stand.of_body Bd
  have e0 : s₁.heap = h0 := by rw [← hh, Bd.state]; rfl
  have N0 := Fr.nil n0
  have pre0 : ∀ t, Steps p.tables e below (s₁.setTop (mkF m 0 #[.val (.ref a1)] [])) t → Steps p.tables e below (s₁.setTop (entryFrame m #[(.ref a1)] 1)) t := fun t k => castTop (ef_8 m a1) k
  have K0 := Keep.refl h0 [a1]
  obtain ⟨_, _, ⟨T1, L1, k1, n1⟩, -, X1, ⟨Lc1, hQ1, l1, y1, z1⟩, st1⟩ := X0.specialBack hx (y := (⟨"java/util/AbstractList", "<init>", "()V"⟩ : MethodName)) rfl hown (mvT hZ (tw hw 52 rfl)) (mvT hZ (tw hw 53 rfl)) (mvT hZ (tw hw 57 rfl)) (by decide) (backOf (W := 0) (rm9_s l Z a0 hw [] a1 h0 n0 O0 E_a1 F_modCount_a1 F_elementData_a1 F_size_a1 ge_a1) hZ (tw hw 57 rfl) (tw hw 56 rfl) (by decide) (by decide)) (g := (mkF m 1 #[Rf a1] [(.ref a1)])) rfl (by rw [hml]; rfl) (Steps.refl _) (a := a1) (argsL := []) (rest := []) (lenOf pd_5 rfl) rfl (by show 2 * 0 + _ ≤ _; exact Nat.le_of_eq rfl) (hb hby d8_1) (fun _ _ => ⟨rfl, e0, (by decide : 0 + 0 ≤ _), (by decide : 0 + 0 ≤ _)⟩)
  dsimp only [Pt.U, Pt.locs, Pt.cells, Pt.slots] at X1 l1 y1 z1 st1 hQ1
  subst l1 y1 z1
  obtain ⟨rfl, N1q, K1q, O1, f1_0, f1_1, f1_2⟩ := hQ1
  have N1 := Fr.app N0 N1q
  have K1 := K0.trans K1q (allS (Or.inl (List.mem_of_getElem? (i := 0) rfl)) all0)
  obtain ⟨T2, X2, e2, st2⟩ := getS2 X1 hx hZ hown (host := "") (Or.inl (tw hw 67 rfl)) Via.refl rfl (S_DEFAULTCAPACITY_EMPTY_ELEMENTDATA.ext O1.2) (g := (mkF m 5 #[Rf a1] [(.ref a1)])) rfl (hb hby d8_5)
  obtain ⟨T3, h3, X3, e3, W3, st3⟩ := putF X2 hx hZ hown (host := "") (Or.inl (tw hw 68 rfl)) Via.refl e2 f1_2 (E_a1.keep K1q) (Or.inl (tw hw 69 rfl)) (tw hw 47 rfl) (ty := (.array (.object "java/lang/Object"))) (by decide) rfl rfl (g := (mkF m 8 #[Rf a1] [(.ref wD), (.ref a1)])) rfl rfl (hb hby d8_8)
  have Fw3 := f1_2.same W3
  have N3 := Fr.snoc X3 N1 ge_a1
  have O4 := O1.wr W3 ge_a1
  have K3 := K1.wr W3 (Or.inl (List.mem_of_getElem? (i := 0) rfl))
  have sg5 : ∀ target, Steps p.tables e below (T3.setTop (mkF m 11 #[Rf a1] [])) target → Steps p.tables e below (s₁.setTop (mkF m 0 #[Rf a1] [])) target := by
    intro target kt
    show Steps p.tables e below (s₁.setTop (mkF m 0 #[Rf a1] [])) _
    refine XS.aloadN X0.here hx rfl (hb hby d8_0) rfl rfl ?_
    show Steps p.tables e below (s₁.setTop (mkF m 1 #[Rf a1] [(.ref a1)])) _
    refine st1.trans ?_
    show Steps p.tables e below (T1.setTop (mkF m 4 #[Rf a1] [])) _
    refine XS.aloadN X1.here hx rfl (hb hby d8_4) rfl rfl ?_
    show Steps p.tables e below (T1.setTop (mkF m 5 #[Rf a1] [(.ref a1)])) _
    refine st2 _ ?_
    show Steps p.tables e below (T2.setTop (mkF m 8 #[Rf a1] [(.ref wD), (.ref a1)])) _
    refine st3 _ ?_
    exact kt
  obtain ⟨fs, hr, hrun, hended, hW, hsame⟩ := X3.leave (v := none) (fun _ => rfl)
  refine ⟨_, _, pre0 _ (sg5 _ (?_)), hrun, hended, _, _, rfl, ?_, ⟨_, rfl⟩, hW, hsame.mono (by decide) (by decide)⟩
  · show Steps p.tables e below (T3.setTop (mkF m 11 #[Rf a1] [])) _
    exact X3.returnOut hx Bd.returns (hb hby d8_11) hr
  · show Q8 Z a1 wD h0 n0 _ T3.heap _
    rw [e3]
    exact ⟨rfl, N3, K3, O4, (f1_0.other W3 (sn .int (.array (.object "java/lang/Object")) (Or.inl (tw hw 66 rfl)) (Or.inl (tw hw 69 rfl)))), (f1_1.other W3 (sn .int (.array (.object "java/lang/Object")) (Or.inl (tw hw 169 rfl)) (Or.inl (tw hw 69 rfl))))⟩
def Q7 (Z : State) (wMap : Addr) (h0 : Heap) (n0 : Nat) (v : Option Value) (h : Heap) (L : List Loc) : Prop := v = some (.ref wMap) ∧ Fr n0 L ∧ h = h0
theorem ef_7 (m : MethodId)  : entryFrame m #[] 0 = mkF m 0 #[] [] := by first | (simp [entryFrame, mkF, argsToLocals, Value.category]; done) | rfl
set_option maxRecDepth 65536 in
set_option maxHeartbeats 40000000 in
theorem rm7 (l : Launch) (Z : State) (a0 : Array Value) (hw : ∀ d ∈ tables_1, d.before a0 Z = true) (ws : List Jvm.Cond) (wMap : Addr) (h0 : Heap) (n0 : Nat) (O0 : Old Z n0 h0) (S_EMPTY_MAP : Sta Z Z.heap "java/util/ImmutableCollections" "EMPTY_MAP" "Ljava/util/ImmutableCollections$MapN;" (.ref wMap)) :
    MetFree l (⟨"java/util/Map", "of", "()Ljava/util/Map;"⟩ : MethodName) (head1 (Jvm.Cond.code (⟨"java/util/Map", "of", "()Ljava/util/Map;"⟩ : MethodName) jdk_72_method_26_code 0 (some (.object "java/util/Map")) :: ws) ({ frames := 0, cells := 0, slots := 0, locals := 0 } : Room)) (fun a U => a = #[] ∧ Z.Warmed39 U.vm ∧ U.heap = h0) (fun _ _ _ _ _ => True) (fun _ U o U' => ∃ v L, o = .returned v ∧ Q7 Z wMap h0 n0 v U'.heap L ∧ FrameEnd U o U' L ({ frames := 0, cells := 0, slots := 0, locals := 0 } : Room).cells ({ frames := 0, cells := 0, slots := 0, locals := 0 } : Room).slots) := by
  refine MetFree.of_bodySF (plainFor_of_name pn_7) hisR ?_
  intro p e s m args below meth c s₁ Bd hml0 hP hK
  obtain ⟨rfl, hZ, hh⟩ := hP
  have hx := Bd.exec
  have hby := Bd.bytes
  have hml : c.maxLocals = 0 := hml0
  have hown : s.vm.findClass "java/util/Map" = some m.cls := findClass_of_methodNamed Bd.named
  have hnm := (name_of_methodNamed Bd.named Bd.method).1
  have X0 : Stand p l e ({ frames := 0, cells := 0, slots := 0, locals := 0 } : Room) s m #[] below meth c s₁ [] 0 0 := Stand.of_body Bd
  have e0 : s₁.heap = h0 := by rw [← hh, Bd.state]; rfl
  have N0 := Fr.nil n0
  have pre0 : ∀ t, Steps p.tables e below (s₁.setTop (mkF m 0 #[] [])) t → Steps p.tables e below (s₁.setTop (entryFrame m #[] 0)) t := fun t k => castTop (ef_7 m ) k
  obtain ⟨T1, X1, e1, st1⟩ := getS2 X0 hx hZ hown (host := "") (Or.inl (tw hw 36 rfl)) Via.refl e0 (S_EMPTY_MAP.ext O0.2) (g := (mkF m 0 #[] [])) rfl (hb hby d7_0)
  have sg2 : ∀ target, Steps p.tables e below (T1.setTop (mkF m 3 #[] [(.ref wMap)])) target → Steps p.tables e below (s₁.setTop (mkF m 0 #[] [])) target := by
    intro target kt
    show Steps p.tables e below (s₁.setTop (mkF m 0 #[] [])) _
    refine st1 _ ?_
    exact kt
  obtain ⟨fs, hr, hrun, hended, hW, hsame⟩ := X1.leave (v := some (.ref wMap)) (fun h => by rw [Bd.returns] at h; cases h)
  refine ⟨_, _, pre0 _ (sg2 _ (?_)), hrun, hended, _, _, rfl, ?_, ⟨_, rfl⟩, hW, hsame.mono (by decide) (by decide)⟩
  · show Steps p.tables e below (T1.setTop (mkF m 3 #[] [(.ref wMap)])) _
    jvm_step X1.here [X1.here.top, hx, (hb hby d7_3), X1.method', Bd.returns, Value.isRef, FieldType.isReference]
    first | (intro acts; rw [hr _ acts rfl rfl rfl]) | rw [hr _ _ rfl rfl rfl]
    exact Steps.refl _
  · show Q7 Z wMap h0 n0 _ T1.heap _
    rw [e1]
    exact ⟨rfl, N0, rfl⟩
def Q14 (Z : State) (a1 : Addr) (h0 : Heap) (n0 : Nat) (v : Option Value) (h : Heap) (L : List Loc) : Prop := v = none ∧ Fr n0 L ∧ h = h0
theorem ef_14 (m : MethodId) (x0 : Addr) : entryFrame m #[(.ref x0)] 1 = mkF m 0 #[.val (.ref x0)] [] := by first | (simp [entryFrame, mkF, argsToLocals, Value.category]; done) | rfl
set_option maxRecDepth 65536 in
set_option maxHeartbeats 40000000 in
theorem rm14 (l : Launch) (Z : State) (a0 : Array Value) (hw : ∀ d ∈ tables_1, d.before a0 Z = true) (ws : List Jvm.Cond) (a1 : Addr) (h0 : Heap) (n0 : Nat) (O0 : Old Z n0 h0) :
    MetFree l (⟨"java/util/AbstractMap", "<init>", "()V"⟩ : MethodName) (head1 (Jvm.Cond.code (⟨"java/util/AbstractMap", "<init>", "()V"⟩ : MethodName) jdk_71_method_1_code 1 none :: ws) ({ frames := 1, cells := 0, slots := 0, locals := 12 } : Room)) (fun a U => a = #[(.ref a1)] ∧ Z.Warmed39 U.vm ∧ U.heap = h0) (fun _ _ _ _ _ => True) (fun _ U o U' => ∃ v L, o = .returned v ∧ Q14 Z a1 h0 n0 v U'.heap L ∧ FrameEnd U o U' L ({ frames := 1, cells := 0, slots := 0, locals := 12 } : Room).cells ({ frames := 1, cells := 0, slots := 0, locals := 12 } : Room).slots) := by
  refine MetFree.of_bodySF (plainFor_of_name pn_8) hisR ?_
  intro p e s m args below meth c s₁ Bd hml0 hP hK
  obtain ⟨rfl, hZ, hh⟩ := hP
  have hx := Bd.exec
  have hby := Bd.bytes
  have hml : c.maxLocals = 1 := hml0
  have hown : s.vm.findClass "java/util/AbstractMap" = some m.cls := findClass_of_methodNamed Bd.named
  have hnm := (name_of_methodNamed Bd.named Bd.method).1
  have X0 : Stand p l e ({ frames := 1, cells := 0, slots := 0, locals := 12 } : Room) s m #[(.ref a1)] below meth c s₁ [] 0 0 := Stand.of_body Bd
  have e0 : s₁.heap = h0 := by rw [← hh, Bd.state]; rfl
  have N0 := Fr.nil n0
  have pre0 : ∀ t, Steps p.tables e below (s₁.setTop (mkF m 0 #[.val (.ref a1)] [])) t → Steps p.tables e below (s₁.setTop (entryFrame m #[(.ref a1)] 1)) t := fun t k => castTop (ef_14 m a1) k
  obtain ⟨T1, X1, e1, st1⟩ := initO X0 hx hZ hown (tw hw 92 rfl) (tw hw 21 rfl) (tw hw 22 rfl) e0 (g := (mkF m 1 #[Rf a1] [(.ref a1)])) rfl (by rw [hml]; rfl) rfl (hb hby d14_1) (by decide) (W := 0) (by show 2 * 0 + _ ≤ _; exact Nat.le_of_eq rfl) (by decide)
  have sg2 : ∀ target, Steps p.tables e below (T1.setTop (mkF m 4 #[Rf a1] [])) target → Steps p.tables e below (s₁.setTop (mkF m 0 #[Rf a1] [])) target := by
    intro target kt
    show Steps p.tables e below (s₁.setTop (mkF m 0 #[Rf a1] [])) _
    refine XS.aloadN X0.here hx rfl (hb hby d14_0) rfl rfl ?_
    show Steps p.tables e below (s₁.setTop (mkF m 1 #[Rf a1] [(.ref a1)])) _
    refine st1 _ ?_
    exact kt
  obtain ⟨fs, hr, hrun, hended, hW, hsame⟩ := X1.leave (v := none) (fun _ => rfl)
  refine ⟨_, _, pre0 _ (sg2 _ (?_)), hrun, hended, _, _, rfl, ?_, ⟨_, rfl⟩, hW, hsame.mono (by decide) (by decide)⟩
  · show Steps p.tables e below (T1.setTop (mkF m 4 #[Rf a1] [])) _
    exact X1.returnOut hx Bd.returns (hb hby d14_4) hr
  · show Q14 Z a1 h0 n0 _ T1.heap _
    rw [e1]
    exact ⟨rfl, N0, rfl⟩
def Q13 (Z : State) (a1 : Addr) (h0 : Heap) (n0 : Nat) (v : Option Value) (h : Heap) (L : List Loc) : Prop := v = none ∧ Fr n0 L ∧ Keep h0 h [a1] ∧ Old Z n0 h ∧ Fld Z h a1 "java/util/LinkedHashMap" "putMode" "I" (.int (0 : Int32)) ∧ Fld Z h a1 "java/util/LinkedHashMap" "accessOrder" "Z" (.int (0 : Int32))
theorem ef_13 (m : MethodId) (x0 : Addr) : entryFrame m #[(.ref x0)] 1 = mkF m 0 #[.val (.ref x0)] [] := by first | (simp [entryFrame, mkF, argsToLocals, Value.category]; done) | rfl
set_option maxRecDepth 65536 in
set_option maxHeartbeats 40000000 in
theorem rm13 (l : Launch) (Z : State) (a0 : Array Value) (hw : ∀ d ∈ tables_1, d.before a0 Z = true) (ws : List Jvm.Cond) (a1 : Addr) (h0 : Heap) (n0 : Nat) (O0 : Old Z n0 h0) (E_a1 : Exa Z h0 a1 "java/util/LinkedHashMap") (F_loadFactor_a1 : Fld Z h0 a1 "java/util/HashMap" "loadFactor" "F" (.float (0 : UInt32))) (F_putMode_a1 : Fld Z h0 a1 "java/util/LinkedHashMap" "putMode" "I" (.int (0 : Int32))) (F_accessOrder_a1 : Fld Z h0 a1 "java/util/LinkedHashMap" "accessOrder" "Z" (.int (0 : Int32))) (ge_a1 : n0 ≤ a1) :
    MetFree l (⟨"java/util/HashMap", "<init>", "()V"⟩ : MethodName) (head1 (Jvm.Cond.code (⟨"java/util/HashMap", "<init>", "()V"⟩ : MethodName) jdk_69_method_7_code 1 none :: ws) ({ frames := 2, cells := 0, slots := 0, locals := 24 } : Room)) (fun a U => a = #[(.ref a1)] ∧ Z.Warmed39 U.vm ∧ U.heap = h0) (fun _ _ _ _ _ => True) (fun _ U o U' => ∃ v L, o = .returned v ∧ Q13 Z a1 h0 n0 v U'.heap L ∧ FrameEnd U o U' L ({ frames := 2, cells := 0, slots := 0, locals := 24 } : Room).cells ({ frames := 2, cells := 0, slots := 0, locals := 24 } : Room).slots) := by
  refine MetFree.of_bodySF (plainFor_of_name pn_9) hisR ?_
  intro p e s m args below meth c s₁ Bd hml0 hP hK
  obtain ⟨rfl, hZ, hh⟩ := hP
  have hx := Bd.exec
  have hby := Bd.bytes
  have hml : c.maxLocals = 1 := hml0
  have hown : s.vm.findClass "java/util/HashMap" = some m.cls := findClass_of_methodNamed Bd.named
  have hnm := (name_of_methodNamed Bd.named Bd.method).1
  have X0 : Stand p l e ({ frames := 2, cells := 0, slots := 0, locals := 24 } : Room) s m #[(.ref a1)] below meth c s₁ [] 0 0 := Stand.of_body Bd
  have e0 : s₁.heap = h0 := by rw [← hh, Bd.state]; rfl
  have N0 := Fr.nil n0
  have pre0 : ∀ t, Steps p.tables e below (s₁.setTop (mkF m 0 #[.val (.ref a1)] [])) t → Steps p.tables e below (s₁.setTop (entryFrame m #[(.ref a1)] 1)) t := fun t k => castTop (ef_13 m a1) k
  have K0 := Keep.refl h0 [a1]
  obtain ⟨_, _, ⟨T1, L1, k1, n1⟩, -, X1, ⟨Lc1, hQ1, l1, y1, z1⟩, st1⟩ := X0.specialBack hx (y := (⟨"java/util/AbstractMap", "<init>", "()V"⟩ : MethodName)) rfl hown (mvT hZ (tw hw 86 rfl)) (mvT hZ (tw hw 87 rfl)) (mvT hZ (tw hw 91 rfl)) (by decide) (backOf (W := 0) (rm14 l Z a0 hw [] a1 h0 n0 O0 ) hZ (tw hw 91 rfl) (tw hw 90 rfl) (by decide) (by decide)) (g := (mkF m 1 #[Rf a1] [(.ref a1)])) rfl (by rw [hml]; rfl) (Steps.refl _) (a := a1) (argsL := []) (rest := []) (lenOf pd_5 rfl) rfl (by show 2 * 0 + _ ≤ _; exact Nat.le_of_eq rfl) (hb hby d13_1) (fun _ _ => ⟨rfl, e0, (by decide : 0 + 0 ≤ _), (by decide : 0 + 0 ≤ _)⟩)
  dsimp only [Pt.U, Pt.locs, Pt.cells, Pt.slots] at X1 l1 y1 z1 st1 hQ1
  subst l1 y1 z1
  obtain ⟨rfl, N1q, e1⟩ := hQ1
  have N1 := Fr.app N0 N1q
  obtain ⟨T2, h2, X2, e2, W2, st2⟩ := putF X1 hx hZ hown (host := "") (Or.inl (tw hw 94 rfl)) Via.refl e1 F_loadFactor_a1 E_a1 (Or.inr ⟨(tw hw 95 rfl), rfl, hnm⟩) (tw hw 75 rfl) (ty := .float) (by decide) rfl rfl (g := (mkF m 7 #[Rf a1] [(.float (1061158912 : UInt32)), (.ref a1)])) rfl rfl (hb hby d13_7)
  have Fw2 := F_loadFactor_a1.same W2
  have N2 := Fr.snoc X2 N1 ge_a1
  have O3 := O0.wr W2 ge_a1
  have K2 := K0.wr W2 (Or.inl (List.mem_of_getElem? (i := 0) rfl))
  have sg4 : ∀ target, Steps p.tables e below (T2.setTop (mkF m 10 #[Rf a1] [])) target → Steps p.tables e below (s₁.setTop (mkF m 0 #[Rf a1] [])) target := by
    intro target kt
    show Steps p.tables e below (s₁.setTop (mkF m 0 #[Rf a1] [])) _
    refine XS.aloadN X0.here hx rfl (hb hby d13_0) rfl rfl ?_
    show Steps p.tables e below (s₁.setTop (mkF m 1 #[Rf a1] [(.ref a1)])) _
    refine st1.trans ?_
    show Steps p.tables e below (T1.setTop (mkF m 4 #[Rf a1] [])) _
    refine XS.aloadN X1.here hx rfl (hb hby d13_4) rfl rfl ?_
    show Steps p.tables e below (T1.setTop (mkF m 5 #[Rf a1] [(.ref a1)])) _
    refine X1.ldcFloatC hx hown (mvT hZ (tw hw 93 rfl)) (g := (mkF m 5 #[Rf a1] [(.ref a1)])) rfl (hb hby d13_5) _ ?_
    show Steps p.tables e below (T1.setTop (mkF m 7 #[Rf a1] [(.float (1061158912 : UInt32)), (.ref a1)])) _
    refine st2 _ ?_
    exact kt
  obtain ⟨fs, hr, hrun, hended, hW, hsame⟩ := X2.leave (v := none) (fun _ => rfl)
  refine ⟨_, _, pre0 _ (sg4 _ (?_)), hrun, hended, _, _, rfl, ?_, ⟨_, rfl⟩, hW, hsame.mono (by decide) (by decide)⟩
  · show Steps p.tables e below (T2.setTop (mkF m 10 #[Rf a1] [])) _
    exact X2.returnOut hx Bd.returns (hb hby d13_10) hr
  · show Q13 Z a1 h0 n0 _ T2.heap _
    rw [e2]
    exact ⟨rfl, N2, K2, O3, (F_putMode_a1.other W2 (sn .int .float (Or.inl (tw hw 97 rfl)) (Or.inr (tw hw 95 rfl)))), (F_accessOrder_a1.other W2 (sn .boolean .float (Or.inr (tw hw 99 rfl)) (Or.inr (tw hw 95 rfl))))⟩
def Q12 (Z : State) (a1 : Addr) (h0 : Heap) (n0 : Nat) (v : Option Value) (h : Heap) (L : List Loc) : Prop := v = none ∧ Fr n0 L ∧ Keep h0 h [a1] ∧ Old Z n0 h
theorem ef_12 (m : MethodId) (x0 : Addr) : entryFrame m #[(.ref x0)] 1 = mkF m 0 #[.val (.ref x0)] [] := by first | (simp [entryFrame, mkF, argsToLocals, Value.category]; done) | rfl
set_option maxRecDepth 65536 in
set_option maxHeartbeats 40000000 in
theorem rm12 (l : Launch) (Z : State) (a0 : Array Value) (hw : ∀ d ∈ tables_1, d.before a0 Z = true) (ws : List Jvm.Cond) (a1 : Addr) (h0 : Heap) (n0 : Nat) (O0 : Old Z n0 h0) (E_a1 : Exa Z h0 a1 "java/util/LinkedHashMap") (F_loadFactor_a1 : Fld Z h0 a1 "java/util/HashMap" "loadFactor" "F" (.float (0 : UInt32))) (F_putMode_a1 : Fld Z h0 a1 "java/util/LinkedHashMap" "putMode" "I" (.int (0 : Int32))) (F_accessOrder_a1 : Fld Z h0 a1 "java/util/LinkedHashMap" "accessOrder" "Z" (.int (0 : Int32))) (ge_a1 : n0 ≤ a1) :
    MetFree l (⟨"java/util/LinkedHashMap", "<init>", "()V"⟩ : MethodName) (head1 (Jvm.Cond.code (⟨"java/util/LinkedHashMap", "<init>", "()V"⟩ : MethodName) jdk_94_method_16_code 1 none :: ws) ({ frames := 3, cells := 0, slots := 0, locals := 36 } : Room)) (fun a U => a = #[(.ref a1)] ∧ Z.Warmed39 U.vm ∧ U.heap = h0) (fun _ _ _ _ _ => True) (fun _ U o U' => ∃ v L, o = .returned v ∧ Q12 Z a1 h0 n0 v U'.heap L ∧ FrameEnd U o U' L ({ frames := 3, cells := 0, slots := 0, locals := 36 } : Room).cells ({ frames := 3, cells := 0, slots := 0, locals := 36 } : Room).slots) := by
  refine MetFree.of_bodySF (plainFor_of_name pn_10) hisR ?_
  intro p e s m args below meth c s₁ Bd hml0 hP hK
  obtain ⟨rfl, hZ, hh⟩ := hP
  have hx := Bd.exec
  have hby := Bd.bytes
  have hml : c.maxLocals = 1 := hml0
  have hown : s.vm.findClass "java/util/LinkedHashMap" = some m.cls := findClass_of_methodNamed Bd.named
  have hnm := (name_of_methodNamed Bd.named Bd.method).1
  have X0 : Stand p l e ({ frames := 3, cells := 0, slots := 0, locals := 36 } : Room) s m #[(.ref a1)] below meth c s₁ [] 0 0 := Stand.of_body Bd
  have e0 : s₁.heap = h0 := by rw [← hh, Bd.state]; rfl
  have N0 := Fr.nil n0
  have pre0 : ∀ t, Steps p.tables e below (s₁.setTop (mkF m 0 #[.val (.ref a1)] [])) t → Steps p.tables e below (s₁.setTop (entryFrame m #[(.ref a1)] 1)) t := fun t k => castTop (ef_12 m a1) k
  have K0 := Keep.refl h0 [a1]
  obtain ⟨_, _, ⟨T1, L1, k1, n1⟩, -, X1, ⟨Lc1, hQ1, l1, y1, z1⟩, st1⟩ := X0.specialBack hx (y := (⟨"java/util/HashMap", "<init>", "()V"⟩ : MethodName)) rfl hown (mvT hZ (tw hw 80 rfl)) (mvT hZ (tw hw 81 rfl)) (mvT hZ (tw hw 85 rfl)) (by decide) (backOf (W := 0) (rm13 l Z a0 hw [] a1 h0 n0 O0 E_a1 F_loadFactor_a1 F_putMode_a1 F_accessOrder_a1 ge_a1) hZ (tw hw 85 rfl) (tw hw 84 rfl) (by decide) (by decide)) (g := (mkF m 1 #[Rf a1] [(.ref a1)])) rfl (by rw [hml]; rfl) (Steps.refl _) (a := a1) (argsL := []) (rest := []) (lenOf pd_5 rfl) rfl (by show 2 * 0 + _ ≤ _; exact Nat.le_of_eq rfl) (hb hby d12_1) (fun _ _ => ⟨rfl, e0, (by decide : 0 + 0 ≤ _), (by decide : 0 + 0 ≤ _)⟩)
  dsimp only [Pt.U, Pt.locs, Pt.cells, Pt.slots] at X1 l1 y1 z1 st1 hQ1
  subst l1 y1 z1
  obtain ⟨rfl, N1q, K1q, O1, f1_0, f1_1⟩ := hQ1
  have N1 := Fr.app N0 N1q
  have K1 := K0.trans K1q (allS (Or.inl (List.mem_of_getElem? (i := 0) rfl)) all0)
  obtain ⟨T2, h2, X2, e2, W2, st2⟩ := putF X1 hx hZ hown (host := "") (Or.inl (tw hw 96 rfl)) Via.refl rfl f1_0 (E_a1.keep K1q) (Or.inl (tw hw 97 rfl)) (tw hw 75 rfl) (ty := .int) (by decide) rfl rfl (g := (mkF m 6 #[Rf a1] [(.int (0 : Int32)), (.ref a1)])) rfl rfl (hb hby d12_6)
  have Fw2 := f1_0.same W2
  have N2 := Fr.snoc X2 N1 ge_a1
  have O3 := O1.wr W2 ge_a1
  have K2 := K1.wr W2 (Or.inl (List.mem_of_getElem? (i := 0) rfl))
  obtain ⟨T4, h4, X4, e4, W4, st4⟩ := putFN X2 hx hZ hown (tw hw 98 rfl) Via.refl e2 (f1_1.other W2 (sn .boolean .int (Or.inr (tw hw 99 rfl)) (Or.inl (tw hw 97 rfl)))) ((E_a1.keep K1q).wr W2) (Or.inr ⟨(tw hw 99 rfl), rfl, hnm⟩) (tw hw 75 rfl) (ty := .boolean) (v' := .int (nar .boolean (0 : Int32))) (by decide) rfl (fits_nar_bool _) (g := (mkF m 11 #[Rf a1] [(.int (0 : Int32)), (.ref a1)])) rfl rfl (hb hby d12_11)
  have Fw4 := (f1_1.other W2 (sn .boolean .int (Or.inr (tw hw 99 rfl)) (Or.inl (tw hw 97 rfl)))).same W4
  have N4 := Fr.snoc X4 N2 ge_a1
  have O5 := O3.wr W4 ge_a1
  have K4 := K2.wr W4 (Or.inl (List.mem_of_getElem? (i := 0) rfl))
  have sg6 : ∀ target, Steps p.tables e below (T4.setTop (mkF m 14 #[Rf a1] [])) target → Steps p.tables e below (s₁.setTop (mkF m 0 #[Rf a1] [])) target := by
    intro target kt
    show Steps p.tables e below (s₁.setTop (mkF m 0 #[Rf a1] [])) _
    refine XS.aloadN X0.here hx rfl (hb hby d12_0) rfl rfl ?_
    show Steps p.tables e below (s₁.setTop (mkF m 1 #[Rf a1] [(.ref a1)])) _
    refine st1.trans ?_
    show Steps p.tables e below (T1.setTop (mkF m 4 #[Rf a1] [])) _
    refine XS.aloadN X1.here hx rfl (hb hby d12_4) rfl rfl ?_
    show Steps p.tables e below (T1.setTop (mkF m 5 #[Rf a1] [(.ref a1)])) _
    refine XS.iconst X1.here hx rfl (hb hby d12_5) ?_
    show Steps p.tables e below (T1.setTop (mkF m 6 #[Rf a1] [(.int (0 : Int32)), (.ref a1)])) _
    refine st2 _ ?_
    show Steps p.tables e below (T2.setTop (mkF m 9 #[Rf a1] [])) _
    refine XS.aloadN X2.here hx rfl (hb hby d12_9) rfl rfl ?_
    show Steps p.tables e below (T2.setTop (mkF m 10 #[Rf a1] [(.ref a1)])) _
    refine XS.iconst X2.here hx rfl (hb hby d12_10) ?_
    show Steps p.tables e below (T2.setTop (mkF m 11 #[Rf a1] [(.int (0 : Int32)), (.ref a1)])) _
    refine st4 _ ?_
    exact kt
  obtain ⟨fs, hr, hrun, hended, hW, hsame⟩ := X4.leave (v := none) (fun _ => rfl)
  refine ⟨_, _, pre0 _ (sg6 _ (?_)), hrun, hended, _, _, rfl, ?_, ⟨_, rfl⟩, hW, hsame.mono (by decide) (by decide)⟩
  · show Steps p.tables e below (T4.setTop (mkF m 14 #[Rf a1] [])) _
    exact X4.returnOut hx Bd.returns (hb hby d12_14) hr
  · show Q12 Z a1 h0 n0 _ T4.heap _
    rw [e4]
    exact ⟨rfl, N4, K4, O5⟩
def Q18 (Z : State) (a1 : Addr) (a2 : Addr) (h0 : Heap) (n0 : Nat) (v : Option Value) (h : Heap) (L : List Loc) : Prop := v = none ∧ Fr n0 L ∧ Keep h0 h [a1] ∧ Old Z n0 h ∧ Fld Z h a1 "java/util/ArrayList$Itr" "this$0" "Ljava/util/ArrayList;" (.ref a2) ∧ Fld Z h a1 "java/util/ArrayList$Itr" "cursor" "I" (.int (0 : Int32))
theorem ef_18 (m : MethodId) (x0 : Addr) (x1 : Addr) : entryFrame m #[(.ref x0), (.ref x1)] 2 = mkF m 0 #[.val (.ref x0), .val (.ref x1)] [] := by first | (simp [entryFrame, mkF, argsToLocals, Value.category]; done) | rfl
set_option maxRecDepth 65536 in
set_option maxHeartbeats 40000000 in
theorem rm18 (l : Launch) (Z : State) (a0 : Array Value) (hw : ∀ d ∈ tables_1, d.before a0 Z = true) (ws : List Jvm.Cond) (a1 : Addr) (a2 : Addr) (h0 : Heap) (n0 : Nat) (O0 : Old Z n0 h0) (E_a1 : Exa Z h0 a1 "java/util/ArrayList$Itr") (F_this_0_a1 : Fld Z h0 a1 "java/util/ArrayList$Itr" "this$0" "Ljava/util/ArrayList;" .null) (F_lastRet_a1 : Fld Z h0 a1 "java/util/ArrayList$Itr" "lastRet" "I" (.int (0 : Int32))) (F_expectedModCount_a1 : Fld Z h0 a1 "java/util/ArrayList$Itr" "expectedModCount" "I" (.int (0 : Int32))) (F_cursor_a1 : Fld Z h0 a1 "java/util/ArrayList$Itr" "cursor" "I" (.int (0 : Int32))) (ge_a1 : n0 ≤ a1) (E_a2 : Exa Z h0 a2 "java/util/ArrayList") (F_modCount_a2 : Fld Z h0 a2 "java/util/AbstractList" "modCount" "I" (.int (0 : Int32))) :
    MetFree l (⟨"java/util/ArrayList$Itr", "<init>", "(Ljava/util/ArrayList;)V"⟩ : MethodName) (head1 (Jvm.Cond.code (⟨"java/util/ArrayList$Itr", "<init>", "(Ljava/util/ArrayList;)V"⟩ : MethodName) jdk_49_method_1_code 2 none :: ws) ({ frames := 1, cells := 0, slots := 0, locals := 12 } : Room)) (fun a U => a = #[(.ref a1), (.ref a2)] ∧ Z.Warmed39 U.vm ∧ U.heap = h0) (fun _ _ _ _ _ => True) (fun _ U o U' => ∃ v L, o = .returned v ∧ Q18 Z a1 a2 h0 n0 v U'.heap L ∧ FrameEnd U o U' L ({ frames := 1, cells := 0, slots := 0, locals := 12 } : Room).cells ({ frames := 1, cells := 0, slots := 0, locals := 12 } : Room).slots) := by
  refine MetFree.of_bodySF (plainFor_of_name pn_11) hisR ?_
  intro p e s m args below meth c s₁ Bd hml0 hP hK
  obtain ⟨rfl, hZ, hh⟩ := hP
  have hx := Bd.exec
  have hby := Bd.bytes
  have hml : c.maxLocals = 2 := hml0
  have hown : s.vm.findClass "java/util/ArrayList$Itr" = some m.cls := findClass_of_methodNamed Bd.named
  have hnm := (name_of_methodNamed Bd.named Bd.method).1
  have X0 : Stand p l e ({ frames := 1, cells := 0, slots := 0, locals := 12 } : Room) s m #[(.ref a1), (.ref a2)] below meth c s₁ [] 0 0 := Stand.of_body Bd
  have e0 : s₁.heap = h0 := by rw [← hh, Bd.state]; rfl
  have N0 := Fr.nil n0
  have pre0 : ∀ t, Steps p.tables e below (s₁.setTop (mkF m 0 #[.val (.ref a1), .val (.ref a2)] [])) t → Steps p.tables e below (s₁.setTop (entryFrame m #[(.ref a1), (.ref a2)] 2)) t := fun t k => castTop (ef_18 m a1 a2) k
  have K0 := Keep.refl h0 [a1]
  obtain ⟨T1, h1, X1, e1, W1, st1⟩ := putF X0 hx hZ hown (host := "") (Or.inl (tw hw 148 rfl)) Via.refl e0 F_this_0_a1 E_a1 (Or.inr ⟨(tw hw 149 rfl), rfl, hnm⟩) (tw hw 142 rfl) (ty := (.object "java/util/ArrayList")) (by decide) rfl rfl (g := (mkF m 2 #[Rf a1, Rf a2] [(.ref a2), (.ref a1)])) rfl rfl (hb hby d18_2)
  have Fw1 := F_this_0_a1.same W1
  have N1 := Fr.snoc X1 N0 ge_a1
  have O2 := O0.wr W1 ge_a1
  have K1 := K0.wr W1 (Or.inl (List.mem_of_getElem? (i := 0) rfl))
  obtain ⟨T3, X3, e3, st3⟩ := initO X1 hx hZ hown (tw hw 150 rfl) (tw hw 21 rfl) (tw hw 22 rfl) e1 (g := (mkF m 6 #[Rf a1, Rf a2] [(.ref a1)])) rfl (by rw [hml]; rfl) rfl (hb hby d18_6) (by decide) (W := 0) (by show 2 * 0 + _ ≤ _; exact Nat.le_of_eq rfl) (by decide)
  obtain ⟨T4, h4, X4, e4, W4, st4⟩ := putF X3 hx hZ hown (host := "") (Or.inl (tw hw 151 rfl)) Via.refl e3 (F_lastRet_a1.other W1 (sn .int (.object "java/util/ArrayList") (Or.inl (tw hw 152 rfl)) (Or.inr (tw hw 149 rfl)))) (E_a1.wr W1) (Or.inl (tw hw 152 rfl)) (tw hw 142 rfl) (ty := .int) (by decide) rfl rfl (g := (mkF m 11 #[Rf a1, Rf a2] [(.int (-1 : Int32)), (.ref a1)])) rfl rfl (hb hby d18_11)
  have Fw4 := (F_lastRet_a1.other W1 (sn .int (.object "java/util/ArrayList") (Or.inl (tw hw 152 rfl)) (Or.inr (tw hw 149 rfl)))).same W4
  have N4 := Fr.snoc X4 N1 ge_a1
  have O5 := O2.wr W4 ge_a1
  have K4 := K1.wr W4 (Or.inl (List.mem_of_getElem? (i := 0) rfl))
  obtain ⟨T6, X6, e6, st6⟩ := getF X4 hx hZ hown (host := "") (Or.inl (tw hw 148 rfl)) Via.refl e4 (Fw1.other W4 (sn (.object "java/util/ArrayList") .int (Or.inr (tw hw 149 rfl)) (Or.inl (tw hw 152 rfl)))) (g := (mkF m 16 #[Rf a1, Rf a2] [(.ref a1), (.ref a1)])) rfl rfl (hb hby d18_16)
  obtain ⟨T7, X7, e7, st7⟩ := getF X6 hx hZ hown (host := "") (Or.inl (tw hw 153 rfl)) (Via.of (tw hw 154 rfl)) e6 ((F_modCount_a2.other W1 (Or.inl (Exa.ne E_a2 E_a1 (by decide)))).other W4 (Or.inl (Exa.ne E_a2 E_a1 (by decide)))) (g := (mkF m 19 #[Rf a1, Rf a2] [(.ref a2), (.ref a1)])) rfl rfl (hb hby d18_19)
  obtain ⟨T8, h8, X8, e8, W8, st8⟩ := putF X7 hx hZ hown (host := "") (Or.inl (tw hw 155 rfl)) Via.refl e7 ((F_expectedModCount_a1.other W1 (sn .int (.object "java/util/ArrayList") (Or.inl (tw hw 156 rfl)) (Or.inr (tw hw 149 rfl)))).other W4 (sn .int .int (Or.inl (tw hw 156 rfl)) (Or.inl (tw hw 152 rfl)))) ((E_a1.wr W1).wr W4) (Or.inl (tw hw 156 rfl)) (tw hw 142 rfl) (ty := .int) (by decide) rfl rfl (g := (mkF m 22 #[Rf a1, Rf a2] [(.int (0 : Int32)), (.ref a1)])) rfl rfl (hb hby d18_22)
  have Fw8 := ((F_expectedModCount_a1.other W1 (sn .int (.object "java/util/ArrayList") (Or.inl (tw hw 156 rfl)) (Or.inr (tw hw 149 rfl)))).other W4 (sn .int .int (Or.inl (tw hw 156 rfl)) (Or.inl (tw hw 152 rfl)))).same W8
  have N8 := Fr.snoc X8 N4 ge_a1
  have O9 := O5.wr W8 ge_a1
  have K8 := K4.wr W8 (Or.inl (List.mem_of_getElem? (i := 0) rfl))
  have sg10 : ∀ target, Steps p.tables e below (T8.setTop (mkF m 25 #[Rf a1, Rf a2] [])) target → Steps p.tables e below (s₁.setTop (mkF m 0 #[Rf a1, Rf a2] [])) target := by
    intro target kt
    show Steps p.tables e below (s₁.setTop (mkF m 0 #[Rf a1, Rf a2] [])) _
    refine XS.aloadN X0.here hx rfl (hb hby d18_0) rfl rfl ?_
    show Steps p.tables e below (s₁.setTop (mkF m 1 #[Rf a1, Rf a2] [(.ref a1)])) _
    refine XS.aloadN X0.here hx rfl (hb hby d18_1) rfl rfl ?_
    show Steps p.tables e below (s₁.setTop (mkF m 2 #[Rf a1, Rf a2] [(.ref a2), (.ref a1)])) _
    refine st1 _ ?_
    show Steps p.tables e below (T1.setTop (mkF m 5 #[Rf a1, Rf a2] [])) _
    refine XS.aloadN X1.here hx rfl (hb hby d18_5) rfl rfl ?_
    show Steps p.tables e below (T1.setTop (mkF m 6 #[Rf a1, Rf a2] [(.ref a1)])) _
    refine st3 _ ?_
    show Steps p.tables e below (T3.setTop (mkF m 9 #[Rf a1, Rf a2] [])) _
    refine XS.aloadN X3.here hx rfl (hb hby d18_9) rfl rfl ?_
    show Steps p.tables e below (T3.setTop (mkF m 10 #[Rf a1, Rf a2] [(.ref a1)])) _
    refine XS.iconst X3.here hx rfl (hb hby d18_10) ?_
    show Steps p.tables e below (T3.setTop (mkF m 11 #[Rf a1, Rf a2] [(.int (-1 : Int32)), (.ref a1)])) _
    refine st4 _ ?_
    show Steps p.tables e below (T4.setTop (mkF m 14 #[Rf a1, Rf a2] [])) _
    refine XS.aloadN X4.here hx rfl (hb hby d18_14) rfl rfl ?_
    show Steps p.tables e below (T4.setTop (mkF m 15 #[Rf a1, Rf a2] [(.ref a1)])) _
    refine XS.aloadN X4.here hx rfl (hb hby d18_15) rfl rfl ?_
    show Steps p.tables e below (T4.setTop (mkF m 16 #[Rf a1, Rf a2] [(.ref a1), (.ref a1)])) _
    refine st6 _ ?_
    show Steps p.tables e below (T6.setTop (mkF m 19 #[Rf a1, Rf a2] [(.ref a2), (.ref a1)])) _
    refine st7 _ ?_
    show Steps p.tables e below (T7.setTop (mkF m 22 #[Rf a1, Rf a2] [(.int (0 : Int32)), (.ref a1)])) _
    refine st8 _ ?_
    exact kt
  obtain ⟨fs, hr, hrun, hended, hW, hsame⟩ := X8.leave (v := none) (fun _ => rfl)
  refine ⟨_, _, pre0 _ (sg10 _ (?_)), hrun, hended, _, _, rfl, ?_, ⟨_, rfl⟩, hW, hsame.mono (by decide) (by decide)⟩
  · show Steps p.tables e below (T8.setTop (mkF m 25 #[Rf a1, Rf a2] [])) _
    exact X8.returnOut hx Bd.returns (hb hby d18_25) hr
  · show Q18 Z a1 a2 h0 n0 _ T8.heap _
    rw [e8]
    exact ⟨rfl, N8, K8, O9, ((Fw1.other W4 (sn (.object "java/util/ArrayList") .int (Or.inr (tw hw 149 rfl)) (Or.inl (tw hw 152 rfl)))).other W8 (sn (.object "java/util/ArrayList") .int (Or.inr (tw hw 149 rfl)) (Or.inl (tw hw 156 rfl)))), (((F_cursor_a1.other W1 (sn .int (.object "java/util/ArrayList") (Or.inl (tw hw 167 rfl)) (Or.inr (tw hw 149 rfl)))).other W4 (sn .int .int (Or.inl (tw hw 167 rfl)) (Or.inl (tw hw 152 rfl)))).other W8 (sn .int .int (Or.inl (tw hw 167 rfl)) (Or.inl (tw hw 156 rfl))))⟩
def Q17 (Z : State) (a1 : Addr) (h0 : Heap) (n0 : Nat) (v : Option Value) (h : Heap) (L : List Loc) : Prop := ∃ r : Addr, v = some (.ref r) ∧ Fr n0 L ∧ Keep h0 h [] ∧ Old Z n0 h ∧ n0 ≤ r ∧ h0.size ≤ r ∧ Exa Z h r "java/util/ArrayList$Itr" ∧ Fld Z h r "java/util/ArrayList$Itr" "this$0" "Ljava/util/ArrayList;" (.ref a1) ∧ Fld Z h r "java/util/ArrayList$Itr" "cursor" "I" (.int (0 : Int32))
theorem ef_17 (m : MethodId) (x0 : Addr) : entryFrame m #[(.ref x0)] 1 = mkF m 0 #[.val (.ref x0)] [] := by first | (simp [entryFrame, mkF, argsToLocals, Value.category]; done) | rfl
set_option maxRecDepth 65536 in
set_option maxHeartbeats 40000000 in
theorem rm17 (l : Launch) (Z : State) (a0 : Array Value) (hw : ∀ d ∈ tables_1, d.before a0 Z = true) (ws : List Jvm.Cond) (a1 : Addr) (h0 : Heap) (n0 : Nat) (O0 : Old Z n0 h0) (E_a1 : Exa Z h0 a1 "java/util/ArrayList") (F_modCount_a1 : Fld Z h0 a1 "java/util/AbstractList" "modCount" "I" (.int (0 : Int32))) :
    MetFree l (⟨"java/util/ArrayList", "iterator", "()Ljava/util/Iterator;"⟩ : MethodName) (head1 (Jvm.Cond.code (⟨"java/util/ArrayList", "iterator", "()Ljava/util/Iterator;"⟩ : MethodName) jdk_38_method_55_code 1 (some (.object "java/util/Iterator")) :: ws) ({ frames := 2, cells := 1, slots := 4, locals := 26 } : Room)) (fun a U => a = #[(.ref a1)] ∧ Z.Warmed39 U.vm ∧ U.heap = h0) (fun _ _ _ _ _ => True) (fun _ U o U' => ∃ v L, o = .returned v ∧ Q17 Z a1 h0 n0 v U'.heap L ∧ FrameEnd U o U' L ({ frames := 2, cells := 1, slots := 4, locals := 26 } : Room).cells ({ frames := 2, cells := 1, slots := 4, locals := 26 } : Room).slots) := by
  refine MetFree.of_bodySF (plainFor_of_name pn_6) hisR ?_
  intro p e s m args below meth c s₁ Bd hml0 hP hK
  obtain ⟨rfl, hZ, hh⟩ := hP
  have hx := Bd.exec
  have hby := Bd.bytes
  have hml : c.maxLocals = 1 := hml0
  have hown : s.vm.findClass "java/util/ArrayList" = some m.cls := findClass_of_methodNamed Bd.named
  have hnm := (name_of_methodNamed Bd.named Bd.method).1
  have X0 : Stand p l e ({ frames := 2, cells := 1, slots := 4, locals := 26 } : Room) s m #[(.ref a1)] below meth c s₁ [] 0 0 := Stand.of_body Bd
  have e0 : s₁.heap = h0 := by rw [← hh, Bd.state]; rfl
  have N0 := Fr.nil n0
  have pre0 : ∀ t, Steps p.tables e below (s₁.setTop (mkF m 0 #[.val (.ref a1)] [])) t → Steps p.tables e below (s₁.setTop (entryFrame m #[(.ref a1)] 1)) t := fun t k => castTop (ef_17 m a1) k
  have K0 := Keep.refl h0 []
  obtain ⟨T1, h1, X1, e1, E1, A1, D1, -, st1⟩ := newO X0 hx hZ hown (tw hw 141 rfl) (tw hw 142 rfl) (tw hw 143 rfl) e0 (g := (mkF m 0 #[Rf a1] [])) rfl (hb hby d17_0) (by decide) (by decide)
  obtain ⟨b1, g1⟩ : ∃ z, z = h0.size := ⟨_, rfl⟩
  rw [← g1] at A1 D1 st1
  have ge_b1 : n0 ≤ b1 := Nat.le_trans (own_osz O0) (Nat.le_of_eq g1.symm)
  have sz_b1 : h0.size ≤ b1 := Nat.le_trans K0.1 (Nat.le_of_eq g1.symm)
  have O2 := O0.ext E1
  have K1 := K0.ext E1
  have F_this_0_b1 : Fld Z h1 b1 "java/util/ArrayList$Itr" "this$0" "Ljava/util/ArrayList;" .null := D1 (Or.inr (tw hw 149 rfl)) (ty := (.object "java/util/ArrayList")) (by decide)
  have F_lastRet_b1 : Fld Z h1 b1 "java/util/ArrayList$Itr" "lastRet" "I" (.int (0 : Int32)) := D1 (Or.inl (tw hw 152 rfl)) (ty := .int) (by decide)
  have F_expectedModCount_b1 : Fld Z h1 b1 "java/util/ArrayList$Itr" "expectedModCount" "I" (.int (0 : Int32)) := D1 (Or.inl (tw hw 156 rfl)) (ty := .int) (by decide)
  have F_cursor_b1 : Fld Z h1 b1 "java/util/ArrayList$Itr" "cursor" "I" (.int (0 : Int32)) := D1 (Or.inl (tw hw 167 rfl)) (ty := .int) (by decide)
  obtain ⟨_, _, ⟨T3, L3, k3, n3⟩, -, X3, ⟨Lc3, hQ3, l3, y3, z3⟩, st3⟩ := X1.specialBack hx (y := (⟨"java/util/ArrayList$Itr", "<init>", "(Ljava/util/ArrayList;)V"⟩ : MethodName)) rfl hown (mvT hZ (tw hw 144 rfl)) (mvT hZ (tw hw 145 rfl)) (mvT hZ (tw hw 147 rfl)) (by decide) (backOf (W := 1) (rm18 l Z a0 hw [] b1 a1 h1 n0 O2 A1 F_this_0_b1 F_lastRet_b1 F_expectedModCount_b1 F_cursor_b1 ge_b1 (E_a1.ext E1) (F_modCount_a1.ext E1)) hZ (tw hw 147 rfl) (tw hw 143 rfl) (by decide) (by decide)) (g := (mkF m 5 #[Rf a1] [(.ref a1), (.ref b1), (.ref b1)])) rfl (by rw [hml]; rfl) (Steps.refl _) (a := b1) (argsL := [(.ref a1)]) (rest := [(.ref b1)]) (lenOf pd_6 rfl) rfl (by show 2 * 0 + _ ≤ _; exact Nat.le_of_eq rfl) (hb hby d17_5) (fun _ _ => ⟨rfl, e1, (by decide : 1 + 0 ≤ _), (by decide : 4 + 0 ≤ _)⟩)
  dsimp only [Pt.U, Pt.locs, Pt.cells, Pt.slots] at X3 l3 y3 z3 st3 hQ3
  subst l3 y3 z3
  obtain ⟨rfl, N3q, K3q, O3, f3_0, f3_1⟩ := hQ3
  have N3 := Fr.app N0 N3q
  have K3 := K1.trans K3q (allS (Or.inr sz_b1) all0)
  have sg4 : ∀ target, Steps p.tables e below (T3.setTop (mkF m 8 #[Rf a1] [(.ref b1)])) target → Steps p.tables e below (s₁.setTop (mkF m 0 #[Rf a1] [])) target := by
    intro target kt
    show Steps p.tables e below (s₁.setTop (mkF m 0 #[Rf a1] [])) _
    refine st1 _ ?_
    show Steps p.tables e below (T1.setTop (mkF m 3 #[Rf a1] [(.ref b1)])) _
    refine XS.dup X1.here hx rfl (hb hby d17_3) rfl rfl ?_
    show Steps p.tables e below (T1.setTop (mkF m 4 #[Rf a1] [(.ref b1), (.ref b1)])) _
    refine XS.aloadN X1.here hx rfl (hb hby d17_4) rfl rfl ?_
    show Steps p.tables e below (T1.setTop (mkF m 5 #[Rf a1] [(.ref a1), (.ref b1), (.ref b1)])) _
    refine st3.trans ?_
    exact kt
  obtain ⟨fs, hr, hrun, hended, hW, hsame⟩ := X3.leave (v := some (.ref b1)) (fun h => by rw [Bd.returns] at h; cases h)
  refine ⟨_, _, pre0 _ (sg4 _ (?_)), hrun, hended, _, _, rfl, ?_, ⟨_, rfl⟩, hW, hsame.mono (by decide) (by decide)⟩
  · show Steps p.tables e below (T3.setTop (mkF m 8 #[Rf a1] [(.ref b1)])) _
    jvm_step X3.here [X3.here.top, hx, (hb hby d17_8), X3.method', Bd.returns, Value.isRef, FieldType.isReference]
    first | (intro acts; rw [hr _ acts rfl rfl rfl]) | rw [hr _ _ rfl rfl rfl]
    exact Steps.refl _
  · show Q17 Z a1 h0 n0 _ T3.heap _
    exact ⟨b1, rfl, N3, K3, O3, ge_b1, sz_b1, (A1.keep K3q), f3_0, f3_1⟩
def Q19 (Z : State) (a1 : Addr) (lv : Addr) (h0 : Heap) (n0 : Nat) (v : Option Value) (h : Heap) (L : List Loc) : Prop := v = some (.int (0 : Int32)) ∧ Fr n0 L ∧ h = h0
theorem ef_19 (m : MethodId) (x0 : Addr) : entryFrame m #[(.ref x0)] 1 = mkF m 0 #[.val (.ref x0)] [] := by first | (simp [entryFrame, mkF, argsToLocals, Value.category]; done) | rfl
set_option maxRecDepth 65536 in
set_option maxHeartbeats 40000000 in
theorem rm19 (l : Launch) (Z : State) (a0 : Array Value) (hw : ∀ d ∈ tables_1, d.before a0 Z = true) (ws : List Jvm.Cond) (a1 : Addr) (lv : Addr) (h0 : Heap) (n0 : Nat) (O0 : Old Z n0 h0) (F_cursor_a1 : Fld Z h0 a1 "java/util/ArrayList$Itr" "cursor" "I" (.int (0 : Int32))) (F_this_0_a1 : Fld Z h0 a1 "java/util/ArrayList$Itr" "this$0" "Ljava/util/ArrayList;" (.ref lv)) (F_size_lv : Fld Z h0 lv "java/util/ArrayList" "size" "I" (.int (0 : Int32))) :
    MetFree l (⟨"java/util/ArrayList$Itr", "hasNext", "()Z"⟩ : MethodName) (head1 (Jvm.Cond.code (⟨"java/util/ArrayList$Itr", "hasNext", "()Z"⟩ : MethodName) jdk_49_method_2_code 1 (some .boolean) :: ws) ({ frames := 0, cells := 0, slots := 0, locals := 0 } : Room)) (fun a U => a = #[(.ref a1)] ∧ Z.Warmed39 U.vm ∧ U.heap = h0) (fun _ _ _ _ _ => True) (fun _ U o U' => ∃ v L, o = .returned v ∧ Q19 Z a1 lv h0 n0 v U'.heap L ∧ FrameEnd U o U' L ({ frames := 0, cells := 0, slots := 0, locals := 0 } : Room).cells ({ frames := 0, cells := 0, slots := 0, locals := 0 } : Room).slots) := by
  refine MetFree.of_bodySF (plainFor_of_name pn_11) hisR ?_
  intro p e s m args below meth c s₁ Bd hml0 hP hK
  obtain ⟨rfl, hZ, hh⟩ := hP
  have hx := Bd.exec
  have hby := Bd.bytes
  have hml : c.maxLocals = 1 := hml0
  have hown : s.vm.findClass "java/util/ArrayList$Itr" = some m.cls := findClass_of_methodNamed Bd.named
  have hnm := (name_of_methodNamed Bd.named Bd.method).1
  have X0 : Stand p l e ({ frames := 0, cells := 0, slots := 0, locals := 0 } : Room) s m #[(.ref a1)] below meth c s₁ [] 0 0 := Stand.of_body Bd
  have e0 : s₁.heap = h0 := by rw [← hh, Bd.state]; rfl
  have N0 := Fr.nil n0
  have pre0 : ∀ t, Steps p.tables e below (s₁.setTop (mkF m 0 #[.val (.ref a1)] [])) t → Steps p.tables e below (s₁.setTop (entryFrame m #[(.ref a1)] 1)) t := fun t k => castTop (ef_19 m a1) k
  obtain ⟨T1, X1, e1, st1⟩ := getF X0 hx hZ hown (host := "") (Or.inl (tw hw 166 rfl)) Via.refl e0 F_cursor_a1 (g := (mkF m 1 #[Rf a1] [(.ref a1)])) rfl rfl (hb hby d19_1)
  obtain ⟨T2, X2, e2, st2⟩ := getF X1 hx hZ hown (host := "") (Or.inl (tw hw 148 rfl)) Via.refl e1 F_this_0_a1 (g := (mkF m 5 #[Rf a1] [(.ref a1), (.int (0 : Int32))])) rfl rfl (hb hby d19_5)
  obtain ⟨T3, X3, e3, st3⟩ := getF X2 hx hZ hown (Or.inr (tw hw 168 rfl)) Via.refl e2 F_size_lv (g := (mkF m 8 #[Rf a1] [(.ref lv), (.int (0 : Int32))])) rfl rfl (hb hby d19_8)
  have sg4 : ∀ target, Steps p.tables e below (T3.setTop (mkF m 19 #[Rf a1] [(.int (0 : Int32))])) target → Steps p.tables e below (s₁.setTop (mkF m 0 #[Rf a1] [])) target := by
    intro target kt
    show Steps p.tables e below (s₁.setTop (mkF m 0 #[Rf a1] [])) _
    refine XS.aloadN X0.here hx rfl (hb hby d19_0) rfl rfl ?_
    show Steps p.tables e below (s₁.setTop (mkF m 1 #[Rf a1] [(.ref a1)])) _
    refine st1 _ ?_
    show Steps p.tables e below (T1.setTop (mkF m 4 #[Rf a1] [(.int (0 : Int32))])) _
    refine XS.aloadN X1.here hx rfl (hb hby d19_4) rfl rfl ?_
    show Steps p.tables e below (T1.setTop (mkF m 5 #[Rf a1] [(.ref a1), (.int (0 : Int32))])) _
    refine st2 _ ?_
    show Steps p.tables e below (T2.setTop (mkF m 8 #[Rf a1] [(.ref lv), (.int (0 : Int32))])) _
    refine st3 _ ?_
    show Steps p.tables e below (T3.setTop (mkF m 11 #[Rf a1] [(.int (0 : Int32)), (.int (0 : Int32))])) _
    refine XS.icmpYes X3.here hx rfl (pc0 := 11) (pc' := 18) rfl (hb hby d19_11) rfl (teq (by decide : (0 : Int32) = (0 : Int32))).1 (by decide) (by decide) ?_
    show Steps p.tables e below (T3.setTop (mkF m 18 #[Rf a1] [])) _
    refine XS.iconst X3.here hx rfl (hb hby d19_18) ?_
    exact kt
  obtain ⟨fs, hr, hrun, hended, hW, hsame⟩ := X3.leave (v := some (.int (0 : Int32))) (fun h => by rw [Bd.returns] at h; cases h)
  refine ⟨_, _, pre0 _ (sg4 _ (?_)), hrun, hended, _, _, rfl, ?_, ⟨_, rfl⟩, hW, hsame.mono (by decide) (by decide)⟩
  · show Steps p.tables e below (T3.setTop (mkF m 19 #[Rf a1] [(.int (0 : Int32))])) _
    exact retN X3 hx (t := .boolean) Bd.returns (by simp) (hb hby d19_19) hr
  · show Q19 Z a1 lv h0 n0 _ T3.heap _
    rw [e3]
    exact ⟨rfl, N0, rfl⟩
def Q20 (Z : State) (a1 : Addr) (h0 : Heap) (n0 : Nat) (v : Option Value) (h : Heap) (L : List Loc) : Prop := v = some (.ref a1) ∧ Fr n0 L ∧ h = h0
theorem ef_20 (m : MethodId) (x0 : Addr) : entryFrame m #[(.ref x0)] 1 = mkF m 0 #[.val (.ref x0)] [] := by first | (simp [entryFrame, mkF, argsToLocals, Value.category]; done) | rfl
set_option maxRecDepth 65536 in
set_option maxHeartbeats 40000000 in
theorem rm20 (l : Launch) (Z : State) (a0 : Array Value) (hw : ∀ d ∈ tables_1, d.before a0 Z = true) (ws : List Jvm.Cond) (a1 : Addr) (h0 : Heap) (n0 : Nat) (O0 : Old Z n0 h0) (E_a1 : Exa Z h0 a1 "java/util/ImmutableCollections$MapN") :
    MetFree l (⟨"java/util/Map", "copyOf", "(Ljava/util/Map;)Ljava/util/Map;"⟩ : MethodName) (head1 (Jvm.Cond.code (⟨"java/util/Map", "copyOf", "(Ljava/util/Map;)Ljava/util/Map;"⟩ : MethodName) jdk_72_method_39_code 1 (some (.object "java/util/Map")) :: ws) ({ frames := 0, cells := 0, slots := 0, locals := 0 } : Room)) (fun a U => a = #[(.ref a1)] ∧ Z.Warmed39 U.vm ∧ U.heap = h0) (fun _ _ _ _ _ => True) (fun _ U o U' => ∃ v L, o = .returned v ∧ Q20 Z a1 h0 n0 v U'.heap L ∧ FrameEnd U o U' L ({ frames := 0, cells := 0, slots := 0, locals := 0 } : Room).cells ({ frames := 0, cells := 0, slots := 0, locals := 0 } : Room).slots) := by
  refine MetFree.of_bodySF (plainFor_of_name pn_7) hisR ?_
  intro p e s m args below meth c s₁ Bd hml0 hP hK
  obtain ⟨rfl, hZ, hh⟩ := hP
  have hx := Bd.exec
  have hby := Bd.bytes
  have hml : c.maxLocals = 1 := hml0
  have hown : s.vm.findClass "java/util/Map" = some m.cls := findClass_of_methodNamed Bd.named
  have hnm := (name_of_methodNamed Bd.named Bd.method).1
  have X0 : Stand p l e ({ frames := 0, cells := 0, slots := 0, locals := 0 } : Room) s m #[(.ref a1)] below meth c s₁ [] 0 0 := Stand.of_body Bd
  have e0 : s₁.heap = h0 := by rw [← hh, Bd.state]; rfl
  have N0 := Fr.nil n0
  have pre0 : ∀ t, Steps p.tables e below (s₁.setTop (mkF m 0 #[.val (.ref a1)] [])) t → Steps p.tables e below (s₁.setTop (entryFrame m #[(.ref a1)] 1)) t := fun t k => castTop (ef_20 m a1) k
  obtain ⟨T1, X1, e1, st1⟩ := instY X0 hx hZ hown (tw hw 173 rfl) e0 (Ins.of_exa E_a1 (tw hw 174 rfl)) (g := (mkF m 1 #[Rf a1] [(.ref a1)])) rfl rfl (hb hby d20_1)
  have sg2 : ∀ target, Steps p.tables e below (T1.setTop (mkF m 8 #[Rf a1] [(.ref a1)])) target → Steps p.tables e below (s₁.setTop (mkF m 0 #[Rf a1] [])) target := by
    intro target kt
    show Steps p.tables e below (s₁.setTop (mkF m 0 #[Rf a1] [])) _
    refine XS.aloadN X0.here hx rfl (hb hby d20_0) rfl rfl ?_
    show Steps p.tables e below (s₁.setTop (mkF m 1 #[Rf a1] [(.ref a1)])) _
    refine st1 _ ?_
    show Steps p.tables e below (T1.setTop (mkF m 4 #[Rf a1] [(.int (1 : Int32))])) _
    refine XS.ifNo X1.here hx rfl (hb hby d20_4) rfl ((if0 _ _).trans (feq (by decide : ¬ ((1 : Int32) = (0 : Int32)))).1) ?_
    show Steps p.tables e below (T1.setTop (mkF m 7 #[Rf a1] [])) _
    refine XS.aloadN X1.here hx rfl (hb hby d20_7) rfl rfl ?_
    exact kt
  obtain ⟨fs, hr, hrun, hended, hW, hsame⟩ := X1.leave (v := some (.ref a1)) (fun h => by rw [Bd.returns] at h; cases h)
  refine ⟨_, _, pre0 _ (sg2 _ (?_)), hrun, hended, _, _, rfl, ?_, ⟨_, rfl⟩, hW, hsame.mono (by decide) (by decide)⟩
  · show Steps p.tables e below (T1.setTop (mkF m 8 #[Rf a1] [(.ref a1)])) _
    jvm_step X1.here [X1.here.top, hx, (hb hby d20_8), X1.method', Bd.returns, Value.isRef, FieldType.isReference]
    first | (intro acts; rw [hr _ acts rfl rfl rfl]) | rw [hr _ _ rfl rfl rfl]
    exact Steps.refl _
  · show Q20 Z a1 h0 n0 _ T1.heap _
    rw [e1]
    exact ⟨rfl, N0, rfl⟩
def Q11_00 (Z : State) (a1 : Addr) (a2 : Addr) (a3 : Addr) (a4 : Addr) (p5 : Int32) (a6 : Addr) (a7 : Addr) (a8 : Addr) (a9 : Addr) (a10 : Addr) (a11 : Addr) (h0 : Heap) (n0 : Nat) (v : Option Value) (h : Heap) (L : List Loc) : Prop := v = none ∧ Fr n0 L ∧ Keep h0 h [a1] ∧ Old Z n0 h ∧ Fld Z h a1 "com/example/legacy_to_latest/legacytolatest/EntityClass" "morphia" "Lcom/example/legacy_to_latest/legacytolatest/EntityClass$Morphia;" .null ∧ Fld Z h a1 "com/example/legacy_to_latest/legacytolatest/EntityClass" "discriminator" "Ljava/lang/String;" .null
theorem ef_11_00 (m : MethodId) (x0 : Addr) (x1 : Addr) (x2 : Addr) (x3 : Addr) (x4 : Int32) (x5 : Addr) (x6 : Addr) (x7 : Addr) (x8 : Addr) (x9 : Addr) (x10 : Addr) : entryFrame m #[(.ref x0), (.ref x1), (.ref x2), (.ref x3), (.int x4), (.ref x5), (.ref x6), (.ref x7), (.ref x8), (.ref x9), (.ref x10)] 13 = mkF m 0 #[.val (.ref x0), .val (.ref x1), .val (.ref x2), .val (.ref x3), .val (.int x4), .val (.ref x5), .val (.ref x6), .val (.ref x7), .val (.ref x8), .val (.ref x9), .val (.ref x10), .unset, .unset] [] := by first | (simp [entryFrame, mkF, argsToLocals, Value.category]; done) | rfl
set_option maxRecDepth 65536 in
set_option maxHeartbeats 40000000 in
theorem rm11_00 (l : Launch) (Z : State) (a0 : Array Value) (hw : ∀ d ∈ tables_1, d.before a0 Z = true) (ws : List Jvm.Cond) (a1 : Addr) (a2 : Addr) (a3 : Addr) (a4 : Addr) (p5 : Int32) (a6 : Addr) (a7 : Addr) (a8 : Addr) (a9 : Addr) (a10 : Addr) (a11 : Addr) (h0 : Heap) (n0 : Nat) (O0 : Old Z n0 h0) (E_a1 : Exa Z h0 a1 "com/example/legacy_to_latest/legacytolatest/EntityClass") (F_fields_a1 : Fld Z h0 a1 "com/example/legacy_to_latest/legacytolatest/EntityClass" "fields" "Ljava/util/Map;" .null) (F_kind_a1 : Fld Z h0 a1 "com/example/legacy_to_latest/legacytolatest/EntityClass" "kind" "Ljava/lang/String;" .null) (F_morphia_a1 : Fld Z h0 a1 "com/example/legacy_to_latest/legacytolatest/EntityClass" "morphia" "Lcom/example/legacy_to_latest/legacytolatest/EntityClass$Morphia;" .null) (F_discriminator_a1 : Fld Z h0 a1 "com/example/legacy_to_latest/legacytolatest/EntityClass" "discriminator" "Ljava/lang/String;" .null) (F_abstractClass_a1 : Fld Z h0 a1 "com/example/legacy_to_latest/legacytolatest/EntityClass" "abstractClass" "Z" (.int (0 : Int32))) (F_className_a1 : Fld Z h0 a1 "com/example/legacy_to_latest/legacytolatest/EntityClass" "className" "Ljava/lang/String;" .null) (F_binaryName_a1 : Fld Z h0 a1 "com/example/legacy_to_latest/legacytolatest/EntityClass" "binaryName" "Ljava/lang/String;" .null) (F_source_a1 : Fld Z h0 a1 "com/example/legacy_to_latest/legacytolatest/EntityClass" "source" "Ljava/lang/String;" .null) (F_keyParts_a1 : Fld Z h0 a1 "com/example/legacy_to_latest/legacytolatest/EntityClass" "keyParts" "Ljava/util/Map;" .null) (F_unreadSuperclass_a1 : Fld Z h0 a1 "com/example/legacy_to_latest/legacytolatest/EntityClass" "unreadSuperclass" "Ljava/lang/String;" .null) (ge_a1 : n0 ≤ a1) (E_a2 : Exa Z h0 a2 "java/lang/String") (E_a6 : Exa Z h0 a6 "java/lang/String") (E_a7 : Exa Z h0 a7 "java/lang/String") (E_a8 : Exa Z h0 a8 "java/lang/String") (E_a3 : Exa Z h0 a3 "java/util/Optional") (F_value_a3 : Fld Z h0 a3 "java/util/Optional" "value" "Ljava/lang/Object;" .null) (E_a4 : Exa Z h0 a4 "java/util/Optional") (F_value_a4 : Fld Z h0 a4 "java/util/Optional" "value" "Ljava/lang/Object;" .null) (E_a11 : Exa Z h0 a11 "java/util/Optional") (F_value_a11 : Fld Z h0 a11 "java/util/Optional" "value" "Ljava/lang/Object;" .null) (E_a9 : Exa Z h0 a9 "java/util/ArrayList") (F_modCount_a9 : Fld Z h0 a9 "java/util/AbstractList" "modCount" "I" (.int (0 : Int32))) (F_size_a9 : Fld Z h0 a9 "java/util/ArrayList" "size" "I" (.int (0 : Int32))) (E_a10 : Exa Z h0 a10 "java/util/ImmutableCollections$MapN") :
    MetFree l (⟨"com/example/legacy_to_latest/legacytolatest/EntityClass", "<init>", "(Ljava/lang/String;Ljava/util/Optional;Ljava/util/Optional;ZLjava/lang/String;Ljava/lang/String;Ljava/lang/String;Ljava/util/List;Ljava/util/Map;Ljava/util/Optional;)V"⟩ : MethodName) (head1 (Jvm.Cond.code (⟨"com/example/legacy_to_latest/legacytolatest/EntityClass", "<init>", "(Ljava/lang/String;Ljava/util/Optional;Ljava/util/Optional;ZLjava/lang/String;Ljava/lang/String;Ljava/lang/String;Ljava/util/List;Ljava/util/Map;Ljava/util/Optional;)V"⟩ : MethodName) prog_6_method_1_code 13 none :: ws) ({ frames := 4, cells := 10, slots := 148, locals := 50 } : Room)) (fun a U => a = #[(.ref a1), (.ref a2), (.ref a3), (.ref a4), (.int p5), (.ref a6), (.ref a7), (.ref a8), (.ref a9), (.ref a10), (.ref a11)] ∧ Z.Warmed39 U.vm ∧ U.heap = h0 ∧ CHv Z own_EL U.vm h0) (fun _ _ _ _ _ => True) (fun _ U o U' => ∃ v L, o = .returned v ∧ Q11_00 Z a1 a2 a3 a4 p5 a6 a7 a8 a9 a10 a11 h0 n0 v U'.heap L ∧ CHr Z own_EL U.vm U.heap U'.vm U'.heap ∧ ReturnedEndW U o U' L ({ frames := 4, cells := 10, slots := 148, locals := 50 } : Room).cells ({ frames := 4, cells := 10, slots := 148, locals := 50 } : Room).slots) := by
  refine MetFree.of_bodySF (plainFor_of_name pn_12) hisR ?_
  intro p e s m args below meth c s₁ Bd hml0 hP hK
  obtain ⟨rfl, hZ, hh, hCH⟩ := hP
  have hx := Bd.exec
  have hby := Bd.bytes
  have hml : c.maxLocals = 13 := hml0
  have hown : s.vm.findClass "com/example/legacy_to_latest/legacytolatest/EntityClass" = some m.cls := findClass_of_methodNamed Bd.named
  have hnm := (name_of_methodNamed Bd.named Bd.method).1
  have X0 : Stand p l e ({ frames := 4, cells := 10, slots := 148, locals := 50 } : Room) (s.setVm s.vm) m #[(.ref a1), (.ref a2), (.ref a3), (.ref a4), (.int p5), (.ref a6), (.ref a7), (.ref a8), (.ref a9), (.ref a10), (.ref a11)] below meth c s₁ [] 0 0 := Stand.of_body Bd
  have e0 : s₁.heap = h0 := by rw [← hh, Bd.state]; rfl
  have N0 := Fr.nil n0
  have pre0 : ∀ t, Steps p.tables e below (s₁.setTop (mkF m 0 #[.val (.ref a1), .val (.ref a2), .val (.ref a3), .val (.ref a4), .val (.int p5), .val (.ref a6), .val (.ref a7), .val (.ref a8), .val (.ref a9), .val (.ref a10), .val (.ref a11), .unset, .unset] [])) t → Steps p.tables e below (s₁.setTop (entryFrame m #[(.ref a1), (.ref a2), (.ref a3), (.ref a4), (.int p5), (.ref a6), (.ref a7), (.ref a8), (.ref a9), (.ref a10), (.ref a11)] 13)) t := fun t k => castTop (ef_11_00 m a1 a2 a3 a4 p5 a6 a7 a8 a9 a10 a11) k
  have Y0 : s.Since s.vm h0.size := (State.WarmedH.refl s).since h0.size
  have Yk0 : h0.size ≤ h0.size := Nat.le_refl _
  have CR0 : CHr Z own_EL s.vm h0 s.vm h0 := CHr.refl hCH
  have hEL := own_EW hw
  have hSA := own_SA hw
  have K0 := Keep.refl h0 [a1]
  obtain ⟨T1, X1, e1, st1⟩ := initO X0 hx hZ hown (tw hw 73 rfl) (tw hw 21 rfl) (tw hw 22 rfl) e0 (g := (mkF m 1 #[Rf a1, Rf a2, Rf a3, Rf a4, It p5, Rf a6, Rf a7, Rf a8, Rf a9, Rf a10, Rf a11, .unset, .unset] [(.ref a1)])) rfl (by rw [hml]; rfl) rfl (hb hby d11_1) (by decide) (W := 0) (by show 2 * 0 + _ ≤ _; exact Nat.le_of_eq rfl) (by decide)
  obtain ⟨T2, h2, X2, e2, E2, A2, D2, -, st2⟩ := newO X1 hx hZ hown (tw hw 74 rfl) (tw hw 75 rfl) (tw hw 76 rfl) e1 (g := (mkF m 5 #[Rf a1, Rf a2, Rf a3, Rf a4, It p5, Rf a6, Rf a7, Rf a8, Rf a9, Rf a10, Rf a11, .unset, .unset] [(.ref a1)])) rfl (hb hby d11_5) (by decide) (by decide)
  obtain ⟨b2, g2⟩ : ∃ z, z = h0.size := ⟨_, rfl⟩
  rw [← g2] at A2 D2 st2
  have ge_b2 : n0 ≤ b2 := Nat.le_trans (own_osz O0) (Nat.le_of_eq g2.symm)
  have sz_b2 : h0.size ≤ b2 := Nat.le_trans K0.1 (Nat.le_of_eq g2.symm)
  have O3 := O0.ext E2
  have K2 := K0.ext E2
  have CR4 := CR0.trans (CHr.ext E2 CR0.1)
  have F_loadFactor_b2 : Fld Z h2 b2 "java/util/HashMap" "loadFactor" "F" (.float (0 : UInt32)) := D2 (Or.inr (tw hw 95 rfl)) (ty := .float) (by decide)
  have F_putMode_b2 : Fld Z h2 b2 "java/util/LinkedHashMap" "putMode" "I" (.int (0 : Int32)) := D2 (Or.inl (tw hw 97 rfl)) (ty := .int) (by decide)
  have F_accessOrder_b2 : Fld Z h2 b2 "java/util/LinkedHashMap" "accessOrder" "Z" (.int (0 : Int32)) := D2 (Or.inr (tw hw 99 rfl)) (ty := .boolean) (by decide)
  obtain ⟨_, _, ⟨T5, L5, k5, n5⟩, -, X5, ⟨Lc5, hQ5, l5, y5, z5⟩, st5⟩ := X2.specialBack hx (y := (⟨"java/util/LinkedHashMap", "<init>", "()V"⟩ : MethodName)) rfl hown (mvT hZ (tw hw 77 rfl)) (mvT hZ (tw hw 78 rfl)) (mvT hZ (tw hw 79 rfl)) (by decide) (backOf (W := 2) (rm12 l Z a0 hw [] b2 h2 n0 O3 A2 F_loadFactor_b2 F_putMode_b2 F_accessOrder_b2 ge_b2) hZ (tw hw 79 rfl) (tw hw 76 rfl) (by decide) (by decide)) (g := (mkF m 9 #[Rf a1, Rf a2, Rf a3, Rf a4, It p5, Rf a6, Rf a7, Rf a8, Rf a9, Rf a10, Rf a11, .unset, .unset] [(.ref b2), (.ref b2), (.ref a1)])) rfl (by rw [hml]; rfl) (Steps.refl _) (a := b2) (argsL := []) (rest := [(.ref b2), (.ref a1)]) (lenOf pd_5 rfl) rfl (by show 2 * 0 + _ ≤ _; exact Nat.le_of_eq rfl) (hb hby d11_9) (fun _ _ => ⟨rfl, e2, (by decide : 1 + 0 ≤ _), (by decide : 12 + 0 ≤ _)⟩)
  dsimp only [Pt.U, Pt.locs, Pt.cells, Pt.slots] at X5 l5 y5 z5 st5 hQ5
  subst l5 y5 z5
  obtain ⟨rfl, N5q, K5q, O5⟩ := hQ5
  have N5 := Fr.app N0 N5q
  have CR6 := CR4.trans (CHr.keep K5q (allS (Safe.exa hZ.alike A2 (by decide) (by decide)) all0) CR4.1)
  have K5 := K2.trans K5q (allS (Or.inr sz_b2) all0)
  obtain ⟨T7, h7, X7, e7, W7, st7⟩ := putF X5 hx hZ hown (host := "") (Or.inl (tw hw 100 rfl)) Via.refl rfl ((F_fields_a1.ext E2).keep K5q (ninS (Nat.ne_of_lt (Nat.lt_of_lt_of_le E_a1.lt (Nat.le_of_eq g2.symm))) nin0)) ((E_a1.ext E2).keep K5q) (Or.inr ⟨(tw hw 101 rfl), rfl, hnm⟩) (tw hw 39 rfl) (ty := (.object "java/util/Map")) (by decide) rfl rfl (g := (mkF m 12 #[Rf a1, Rf a2, Rf a3, Rf a4, It p5, Rf a6, Rf a7, Rf a8, Rf a9, Rf a10, Rf a11, .unset, .unset] [(.ref b2), (.ref a1)])) rfl rfl (hb hby d11_12)
  have Fw7 := ((F_fields_a1.ext E2).keep K5q (ninS (Nat.ne_of_lt (Nat.lt_of_lt_of_le E_a1.lt (Nat.le_of_eq g2.symm))) nin0)).same W7
  have N7 := Fr.snoc X7 N5 ge_a1
  have O8 := O5.wr W7 ge_a1
  have K7 := K5.wr W7 (Or.inl (List.mem_of_getElem? (i := 0) rfl))
  have CR9 := CR6.trans (CHr.wr W7 (Safe.exa hZ.alike ((E_a1.ext E2).keep K5q) (by decide) (by decide)) CR6.1)
  obtain ⟨sa10, T10, h10, k10, X10, e10, E10, Y10, Yk10, hZ10, hown10, C10, Lt10, st10⟩ := ldcOH X7 hx hZ hown (tw hw 102 rfl) hSA e7 Y0 (Nat.le_trans (Nat.le_trans (Nat.le_trans Yk0 E2.1) K5q.1) (Keep.of_wr W7).1) hEL CR9.1 (g := (mkF m 17 #[Rf a1, Rf a2, Rf a3, Rf a4, It p5, Rf a6, Rf a7, Rf a8, Rf a9, Rf a10, Rf a11, .unset, .unset] [(.ref a2), (.ref a1)])) rfl (hb hby d11_17) (n := 16) (by decide) (by decide) (by decide) (by decide)
  have O11 := O8.ext E10
  have K10 := K7.ext E10
  have CR12 := CR9.trans (C10)
  obtain ⟨_, _, ⟨T13, L13, k13, n13⟩, -, X13, ⟨Lc13, hQ13, l13, y13, z13⟩, st13⟩ := Jvm.LawKit.callS X10 hx (y := (⟨"java/util/Objects", "requireNonNull", "(Ljava/lang/Object;Ljava/lang/String;)Ljava/lang/Object;"⟩ : MethodName)) hown10 (mvT hZ10 (tw hw 103 rfl)) (mvT hZ10 (tw hw 104 rfl)) (mvT hZ10 (tw hw 105 rfl)) (mvT hZ10 (tw hw 106 rfl)) (by decide) (backOf (W := 1) (rm15 l Z a0 hw [] a2 sa10 h10 n0 O11 ) hZ10 (tw hw 106 rfl) (tw hw 105 rfl) (by decide) (by decide)) (g := (mkF m 19 #[Rf a1, Rf a2, Rf a3, Rf a4, It p5, Rf a6, Rf a7, Rf a8, Rf a9, Rf a10, Rf a11, .unset, .unset] [(.ref sa10), (.ref a2), (.ref a1)])) rfl (by rw [hml]; rfl) (argsL := [(.ref a2), (.ref sa10)]) (rest := [(.ref a1)]) (lenOf pd_7 rfl) rfl (by show 2 * 0 + _ ≤ _; exact Nat.le_of_eq rfl) (hb hby d11_19) (fun _ _ => ⟨rfl, e10, (by decide : 3 + 0 ≤ _), (by decide : 32 + 0 ≤ _)⟩)
  dsimp only [Pt.U, Pt.locs, Pt.cells, Pt.slots] at X13 l13 y13 z13 st13 hQ13
  subst l13 y13 z13
  obtain ⟨rfl, N13q, e13⟩ := hQ13
  have N13 := Fr.app N7 N13q
  obtain ⟨T14, X14, e14, st14⟩ := castY X13 hx hZ10 hown10 (tw hw 107 rfl) e13 (Ins.self ((((E_a2.ext E2).keep K5q).wr W7).ext E10)) (g := (mkF m 22 #[Rf a1, Rf a2, Rf a3, Rf a4, It p5, Rf a6, Rf a7, Rf a8, Rf a9, Rf a10, Rf a11, .unset, .unset] [(.ref a2), (.ref a1)])) rfl rfl (hb hby d11_22)
  obtain ⟨T15, h15, X15, e15, W15, st15⟩ := putF X14 hx hZ10 hown10 (host := "") (Or.inl (tw hw 108 rfl)) Via.refl e14 ((((F_kind_a1.ext E2).keep K5q (ninS (Nat.ne_of_lt (Nat.lt_of_lt_of_le E_a1.lt (Nat.le_of_eq g2.symm))) nin0)).other W7 (sn (.object "java/lang/String") (.object "java/util/Map") (Or.inr (tw hw 109 rfl)) (Or.inr (tw hw 101 rfl)))).ext E10) ((((E_a1.ext E2).keep K5q).wr W7).ext E10) (Or.inr ⟨(tw hw 109 rfl), rfl, hnm⟩) (tw hw 39 rfl) (ty := (.object "java/lang/String")) (by decide) rfl rfl (g := (mkF m 25 #[Rf a1, Rf a2, Rf a3, Rf a4, It p5, Rf a6, Rf a7, Rf a8, Rf a9, Rf a10, Rf a11, .unset, .unset] [(.ref a2), (.ref a1)])) rfl rfl (hb hby d11_25)
  have Fw15 := ((((F_kind_a1.ext E2).keep K5q (ninS (Nat.ne_of_lt (Nat.lt_of_lt_of_le E_a1.lt (Nat.le_of_eq g2.symm))) nin0)).other W7 (sn (.object "java/lang/String") (.object "java/util/Map") (Or.inr (tw hw 109 rfl)) (Or.inr (tw hw 101 rfl)))).ext E10).same W15
  have N15 := Fr.snoc X15 N13 ge_a1
  have O16 := O11.wr W15 ge_a1
  have K15 := K10.wr W15 (Or.inl (List.mem_of_getElem? (i := 0) rfl))
  have CR17 := CR12.trans (CHr.wr W15 (Safe.exa hZ10.alike ((((E_a1.ext E2).keep K5q).wr W7).ext E10) (by decide) (by decide)) CR12.1)
  obtain ⟨cq18, kq18, q18a, q18b, q18c⟩ := isOf hZ10 e15 (((((E_a3.ext E2).keep K5q).wr W7).ext E10).wr W15)
  obtain ⟨_, _, ⟨T18, L18, k18, n18⟩, -, X18, ⟨Lc18, hQ18, l18, y18, z18⟩, st18⟩ := X15.virtualBack hx (y := (⟨"java/util/Optional", "orElse", "(Ljava/lang/Object;)Ljava/lang/Object;"⟩ : MethodName)) (z := (⟨"java/util/Optional", "orElse", "(Ljava/lang/Object;)Ljava/lang/Object;"⟩ : MethodName)) hown10 (mvT hZ10 (tw hw 110 rfl)) (mvT hZ10 (tw hw 111 rfl)) (notFace_of_selects (args := #[]) (mvT hZ10 (tw hw 113 rfl))) (mvT hZ10 (tw hw 113 rfl)) (mvT hZ10 (tw hw 112 rfl)) (by decide) (backOf (W := 1) (rm16_0 l Z a0 hw [] a3 h15 n0 O16 (((((F_value_a3.ext E2).keep K5q (ninS (Nat.ne_of_lt (Nat.lt_of_lt_of_le E_a3.lt (Nat.le_of_eq g2.symm))) nin0)).other W7 (Or.inl (Exa.ne E_a3 E_a1 (by decide)))).ext E10).other W15 (Or.inl (Exa.ne E_a3 E_a1 (by decide))))) hZ10 (tw hw 114 rfl) (tw hw 29 rfl) (by decide) (by decide)) q18a q18c (g := (mkF m 31 #[Rf a1, Rf a2, Rf a3, Rf a4, It p5, Rf a6, Rf a7, Rf a8, Rf a9, Rf a10, Rf a11, .unset, .unset] [.null, (.ref a3), (.ref a1)])) rfl (by rw [hml]; rfl) (Steps.refl _) (argsL := [.null]) (rest := [(.ref a1)]) (lenOf pd_3 rfl) rfl (by show 2 * 0 + _ ≤ _; exact Nat.le_of_eq rfl) (hb hby d11_31) (fun _ _ => ⟨rfl, e15, (by decide : 3 + 0 ≤ _), (by decide : 32 + 0 ≤ _)⟩)
  dsimp only [Pt.U, Pt.locs, Pt.cells, Pt.slots] at X18 l18 y18 z18 st18 hQ18
  subst l18 y18 z18
  obtain ⟨rfl, N18q, e18⟩ := hQ18
  have N18 := Fr.app N15 N18q
  obtain ⟨T19, h19, X19, e19, W19, st19⟩ := putF X18 hx hZ10 hown10 (host := "") (Or.inl (tw hw 117 rfl)) Via.refl e18 (((((F_morphia_a1.ext E2).keep K5q (ninS (Nat.ne_of_lt (Nat.lt_of_lt_of_le E_a1.lt (Nat.le_of_eq g2.symm))) nin0)).other W7 (sn (.object "com/example/legacy_to_latest/legacytolatest/EntityClass$Morphia") (.object "java/util/Map") (Or.inr (tw hw 118 rfl)) (Or.inr (tw hw 101 rfl)))).ext E10).other W15 (sn (.object "com/example/legacy_to_latest/legacytolatest/EntityClass$Morphia") (.object "java/lang/String") (Or.inr (tw hw 118 rfl)) (Or.inr (tw hw 109 rfl)))) (((((E_a1.ext E2).keep K5q).wr W7).ext E10).wr W15) (Or.inr ⟨(tw hw 118 rfl), rfl, hnm⟩) (tw hw 39 rfl) (ty := (.object "com/example/legacy_to_latest/legacytolatest/EntityClass$Morphia")) (by decide) rfl rfl (g := (mkF m 37 #[Rf a1, Rf a2, Rf a3, Rf a4, It p5, Rf a6, Rf a7, Rf a8, Rf a9, Rf a10, Rf a11, .unset, .unset] [.null, (.ref a1)])) rfl rfl (hb hby d11_37)
  have Fw19 := (((((F_morphia_a1.ext E2).keep K5q (ninS (Nat.ne_of_lt (Nat.lt_of_lt_of_le E_a1.lt (Nat.le_of_eq g2.symm))) nin0)).other W7 (sn (.object "com/example/legacy_to_latest/legacytolatest/EntityClass$Morphia") (.object "java/util/Map") (Or.inr (tw hw 118 rfl)) (Or.inr (tw hw 101 rfl)))).ext E10).other W15 (sn (.object "com/example/legacy_to_latest/legacytolatest/EntityClass$Morphia") (.object "java/lang/String") (Or.inr (tw hw 118 rfl)) (Or.inr (tw hw 109 rfl)))).same W19
  have N19 := Fr.snoc X19 N18 ge_a1
  have O20 := O16.wr W19 ge_a1
  have K19 := K15.wr W19 (Or.inl (List.mem_of_getElem? (i := 0) rfl))
  have CR21 := CR17.trans (CHr.wr W19 (Safe.exa hZ10.alike (((((E_a1.ext E2).keep K5q).wr W7).ext E10).wr W15) (by decide) (by decide)) CR17.1)
  obtain ⟨cq22, kq22, q22a, q22b, q22c⟩ := isOf hZ10 e19 ((((((E_a4.ext E2).keep K5q).wr W7).ext E10).wr W15).wr W19)
  obtain ⟨_, _, ⟨T22, L22, k22, n22⟩, -, X22, ⟨Lc22, hQ22, l22, y22, z22⟩, st22⟩ := X19.virtualBack hx (y := (⟨"java/util/Optional", "orElse", "(Ljava/lang/Object;)Ljava/lang/Object;"⟩ : MethodName)) (z := (⟨"java/util/Optional", "orElse", "(Ljava/lang/Object;)Ljava/lang/Object;"⟩ : MethodName)) hown10 (mvT hZ10 (tw hw 110 rfl)) (mvT hZ10 (tw hw 111 rfl)) (notFace_of_selects (args := #[]) (mvT hZ10 (tw hw 113 rfl))) (mvT hZ10 (tw hw 113 rfl)) (mvT hZ10 (tw hw 112 rfl)) (by decide) (backOf (W := 1) (rm16_0 l Z a0 hw [] a4 h19 n0 O20 ((((((F_value_a4.ext E2).keep K5q (ninS (Nat.ne_of_lt (Nat.lt_of_lt_of_le E_a4.lt (Nat.le_of_eq g2.symm))) nin0)).other W7 (Or.inl (Exa.ne E_a4 E_a1 (by decide)))).ext E10).other W15 (Or.inl (Exa.ne E_a4 E_a1 (by decide)))).other W19 (Or.inl (Exa.ne E_a4 E_a1 (by decide))))) hZ10 (tw hw 114 rfl) (tw hw 29 rfl) (by decide) (by decide)) q22a q22c (g := (mkF m 43 #[Rf a1, Rf a2, Rf a3, Rf a4, It p5, Rf a6, Rf a7, Rf a8, Rf a9, Rf a10, Rf a11, .unset, .unset] [.null, (.ref a4), (.ref a1)])) rfl (by rw [hml]; rfl) (Steps.refl _) (argsL := [.null]) (rest := [(.ref a1)]) (lenOf pd_3 rfl) rfl (by show 2 * 0 + _ ≤ _; exact Nat.le_of_eq rfl) (hb hby d11_43) (fun _ _ => ⟨rfl, e19, (by decide : 3 + 0 ≤ _), (by decide : 32 + 0 ≤ _)⟩)
  dsimp only [Pt.U, Pt.locs, Pt.cells, Pt.slots] at X22 l22 y22 z22 st22 hQ22
  subst l22 y22 z22
  obtain ⟨rfl, N22q, e22⟩ := hQ22
  have N22 := Fr.app N19 N22q
  obtain ⟨T23, h23, X23, e23, W23, st23⟩ := putF X22 hx hZ10 hown10 (host := "") (Or.inl (tw hw 119 rfl)) Via.refl e22 ((((((F_discriminator_a1.ext E2).keep K5q (ninS (Nat.ne_of_lt (Nat.lt_of_lt_of_le E_a1.lt (Nat.le_of_eq g2.symm))) nin0)).other W7 (sn (.object "java/lang/String") (.object "java/util/Map") (Or.inr (tw hw 120 rfl)) (Or.inr (tw hw 101 rfl)))).ext E10).other W15 (sn (.object "java/lang/String") (.object "java/lang/String") (Or.inr (tw hw 120 rfl)) (Or.inr (tw hw 109 rfl)))).other W19 (sn (.object "java/lang/String") (.object "com/example/legacy_to_latest/legacytolatest/EntityClass$Morphia") (Or.inr (tw hw 120 rfl)) (Or.inr (tw hw 118 rfl)))) ((((((E_a1.ext E2).keep K5q).wr W7).ext E10).wr W15).wr W19) (Or.inr ⟨(tw hw 120 rfl), rfl, hnm⟩) (tw hw 39 rfl) (ty := (.object "java/lang/String")) (by decide) rfl rfl (g := (mkF m 49 #[Rf a1, Rf a2, Rf a3, Rf a4, It p5, Rf a6, Rf a7, Rf a8, Rf a9, Rf a10, Rf a11, .unset, .unset] [.null, (.ref a1)])) rfl rfl (hb hby d11_49)
  have Fw23 := ((((((F_discriminator_a1.ext E2).keep K5q (ninS (Nat.ne_of_lt (Nat.lt_of_lt_of_le E_a1.lt (Nat.le_of_eq g2.symm))) nin0)).other W7 (sn (.object "java/lang/String") (.object "java/util/Map") (Or.inr (tw hw 120 rfl)) (Or.inr (tw hw 101 rfl)))).ext E10).other W15 (sn (.object "java/lang/String") (.object "java/lang/String") (Or.inr (tw hw 120 rfl)) (Or.inr (tw hw 109 rfl)))).other W19 (sn (.object "java/lang/String") (.object "com/example/legacy_to_latest/legacytolatest/EntityClass$Morphia") (Or.inr (tw hw 120 rfl)) (Or.inr (tw hw 118 rfl)))).same W23
  have N23 := Fr.snoc X23 N22 ge_a1
  have O24 := O20.wr W23 ge_a1
  have K23 := K19.wr W23 (Or.inl (List.mem_of_getElem? (i := 0) rfl))
  have CR25 := CR21.trans (CHr.wr W23 (Safe.exa hZ10.alike ((((((E_a1.ext E2).keep K5q).wr W7).ext E10).wr W15).wr W19) (by decide) (by decide)) CR21.1)
  obtain ⟨T26, h26, X26, e26, W26, st26⟩ := putFN X23 hx hZ10 hown10 (tw hw 121 rfl) Via.refl e23 (((((((F_abstractClass_a1.ext E2).keep K5q (ninS (Nat.ne_of_lt (Nat.lt_of_lt_of_le E_a1.lt (Nat.le_of_eq g2.symm))) nin0)).other W7 (sn .boolean (.object "java/util/Map") (Or.inr (tw hw 122 rfl)) (Or.inr (tw hw 101 rfl)))).ext E10).other W15 (sn .boolean (.object "java/lang/String") (Or.inr (tw hw 122 rfl)) (Or.inr (tw hw 109 rfl)))).other W19 (sn .boolean (.object "com/example/legacy_to_latest/legacytolatest/EntityClass$Morphia") (Or.inr (tw hw 122 rfl)) (Or.inr (tw hw 118 rfl)))).other W23 (sn .boolean (.object "java/lang/String") (Or.inr (tw hw 122 rfl)) (Or.inr (tw hw 120 rfl)))) (((((((E_a1.ext E2).keep K5q).wr W7).ext E10).wr W15).wr W19).wr W23) (Or.inr ⟨(tw hw 122 rfl), rfl, hnm⟩) (tw hw 39 rfl) (ty := .boolean) (v' := .int (nar .boolean p5)) (by decide) rfl (fits_nar_bool _) (g := (mkF m 55 #[Rf a1, Rf a2, Rf a3, Rf a4, It p5, Rf a6, Rf a7, Rf a8, Rf a9, Rf a10, Rf a11, .unset, .unset] [(.int p5), (.ref a1)])) rfl rfl (hb hby d11_55)
  have Fw26 := (((((((F_abstractClass_a1.ext E2).keep K5q (ninS (Nat.ne_of_lt (Nat.lt_of_lt_of_le E_a1.lt (Nat.le_of_eq g2.symm))) nin0)).other W7 (sn .boolean (.object "java/util/Map") (Or.inr (tw hw 122 rfl)) (Or.inr (tw hw 101 rfl)))).ext E10).other W15 (sn .boolean (.object "java/lang/String") (Or.inr (tw hw 122 rfl)) (Or.inr (tw hw 109 rfl)))).other W19 (sn .boolean (.object "com/example/legacy_to_latest/legacytolatest/EntityClass$Morphia") (Or.inr (tw hw 122 rfl)) (Or.inr (tw hw 118 rfl)))).other W23 (sn .boolean (.object "java/lang/String") (Or.inr (tw hw 122 rfl)) (Or.inr (tw hw 120 rfl)))).same W26
  have N26 := Fr.snoc X26 N23 ge_a1
  have O27 := O24.wr W26 ge_a1
  have K26 := K23.wr W26 (Or.inl (List.mem_of_getElem? (i := 0) rfl))
  have CR28 := CR25.trans (CHr.wr W26 (Safe.exa hZ10.alike (((((((E_a1.ext E2).keep K5q).wr W7).ext E10).wr W15).wr W19).wr W23) (by decide) (by decide)) CR25.1)
  obtain ⟨sa29, T29, h29, k29, X29, e29, E29, Y29, Yk29, hZ29, hown29, C29, Lt29, st29⟩ := ldcOH X26 hx hZ10 hown10 (tw hw 123 rfl) hSA e26 Y10 (Nat.le_trans (Nat.le_trans (Nat.le_trans (Nat.le_trans Yk10 (Keep.of_wr W15).1) (Keep.of_wr W19).1) (Keep.of_wr W23).1) (Keep.of_wr W26).1) hEL CR28.1 (g := (mkF m 61 #[Rf a1, Rf a2, Rf a3, Rf a4, It p5, Rf a6, Rf a7, Rf a8, Rf a9, Rf a10, Rf a11, .unset, .unset] [(.ref a6), (.ref a1)])) rfl (hb hby d11_61) (n := 36) (by decide) (by decide) (by decide) (by decide)
  have O30 := O27.ext E29
  have K29 := K26.ext E29
  have CR31 := CR28.trans (C29)
  obtain ⟨_, _, ⟨T32, L32, k32, n32⟩, -, X32, ⟨Lc32, hQ32, l32, y32, z32⟩, st32⟩ := Jvm.LawKit.callS X29 hx (y := (⟨"java/util/Objects", "requireNonNull", "(Ljava/lang/Object;Ljava/lang/String;)Ljava/lang/Object;"⟩ : MethodName)) hown29 (mvT hZ29 (tw hw 103 rfl)) (mvT hZ29 (tw hw 104 rfl)) (mvT hZ29 (tw hw 105 rfl)) (mvT hZ29 (tw hw 106 rfl)) (by decide) (backOf (W := 1) (rm15 l Z a0 hw [] a6 sa29 h29 n0 O30 ) hZ29 (tw hw 106 rfl) (tw hw 105 rfl) (by decide) (by decide)) (g := (mkF m 63 #[Rf a1, Rf a2, Rf a3, Rf a4, It p5, Rf a6, Rf a7, Rf a8, Rf a9, Rf a10, Rf a11, .unset, .unset] [(.ref sa29), (.ref a6), (.ref a1)])) rfl (by rw [hml]; rfl) (argsL := [(.ref a6), (.ref sa29)]) (rest := [(.ref a1)]) (lenOf pd_7 rfl) rfl (by show 2 * 0 + _ ≤ _; exact Nat.le_of_eq rfl) (hb hby d11_63) (fun _ _ => ⟨rfl, e29, (by decide : 5 + 0 ≤ _), (by decide : 72 + 0 ≤ _)⟩)
  dsimp only [Pt.U, Pt.locs, Pt.cells, Pt.slots] at X32 l32 y32 z32 st32 hQ32
  subst l32 y32 z32
  obtain ⟨rfl, N32q, e32⟩ := hQ32
  have N32 := Fr.app N26 N32q
  obtain ⟨T33, X33, e33, st33⟩ := castY X32 hx hZ29 hown29 (tw hw 107 rfl) e32 (Ins.self (((((((((E_a6.ext E2).keep K5q).wr W7).ext E10).wr W15).wr W19).wr W23).wr W26).ext E29)) (g := (mkF m 66 #[Rf a1, Rf a2, Rf a3, Rf a4, It p5, Rf a6, Rf a7, Rf a8, Rf a9, Rf a10, Rf a11, .unset, .unset] [(.ref a6), (.ref a1)])) rfl rfl (hb hby d11_66)
  obtain ⟨T34, h34, X34, e34, W34, st34⟩ := putF X33 hx hZ29 hown29 (host := "") (Or.inl (tw hw 124 rfl)) Via.refl e33 (((((((((F_className_a1.ext E2).keep K5q (ninS (Nat.ne_of_lt (Nat.lt_of_lt_of_le E_a1.lt (Nat.le_of_eq g2.symm))) nin0)).other W7 (sn (.object "java/lang/String") (.object "java/util/Map") (Or.inr (tw hw 125 rfl)) (Or.inr (tw hw 101 rfl)))).ext E10).other W15 (sn (.object "java/lang/String") (.object "java/lang/String") (Or.inr (tw hw 125 rfl)) (Or.inr (tw hw 109 rfl)))).other W19 (sn (.object "java/lang/String") (.object "com/example/legacy_to_latest/legacytolatest/EntityClass$Morphia") (Or.inr (tw hw 125 rfl)) (Or.inr (tw hw 118 rfl)))).other W23 (sn (.object "java/lang/String") (.object "java/lang/String") (Or.inr (tw hw 125 rfl)) (Or.inr (tw hw 120 rfl)))).other W26 (sn (.object "java/lang/String") .boolean (Or.inr (tw hw 125 rfl)) (Or.inr (tw hw 122 rfl)))).ext E29) (((((((((E_a1.ext E2).keep K5q).wr W7).ext E10).wr W15).wr W19).wr W23).wr W26).ext E29) (Or.inr ⟨(tw hw 125 rfl), rfl, hnm⟩) (tw hw 39 rfl) (ty := (.object "java/lang/String")) (by decide) rfl rfl (g := (mkF m 69 #[Rf a1, Rf a2, Rf a3, Rf a4, It p5, Rf a6, Rf a7, Rf a8, Rf a9, Rf a10, Rf a11, .unset, .unset] [(.ref a6), (.ref a1)])) rfl rfl (hb hby d11_69)
  have Fw34 := (((((((((F_className_a1.ext E2).keep K5q (ninS (Nat.ne_of_lt (Nat.lt_of_lt_of_le E_a1.lt (Nat.le_of_eq g2.symm))) nin0)).other W7 (sn (.object "java/lang/String") (.object "java/util/Map") (Or.inr (tw hw 125 rfl)) (Or.inr (tw hw 101 rfl)))).ext E10).other W15 (sn (.object "java/lang/String") (.object "java/lang/String") (Or.inr (tw hw 125 rfl)) (Or.inr (tw hw 109 rfl)))).other W19 (sn (.object "java/lang/String") (.object "com/example/legacy_to_latest/legacytolatest/EntityClass$Morphia") (Or.inr (tw hw 125 rfl)) (Or.inr (tw hw 118 rfl)))).other W23 (sn (.object "java/lang/String") (.object "java/lang/String") (Or.inr (tw hw 125 rfl)) (Or.inr (tw hw 120 rfl)))).other W26 (sn (.object "java/lang/String") .boolean (Or.inr (tw hw 125 rfl)) (Or.inr (tw hw 122 rfl)))).ext E29).same W34
  have N34 := Fr.snoc X34 N32 ge_a1
  have O35 := O30.wr W34 ge_a1
  have K34 := K29.wr W34 (Or.inl (List.mem_of_getElem? (i := 0) rfl))
  have CR36 := CR31.trans (CHr.wr W34 (Safe.exa hZ29.alike (((((((((E_a1.ext E2).keep K5q).wr W7).ext E10).wr W15).wr W19).wr W23).wr W26).ext E29) (by decide) (by decide)) CR31.1)
  obtain ⟨sa37, T37, h37, k37, X37, e37, E37, Y37, Yk37, hZ37, hown37, C37, Lt37, st37⟩ := ldcOH X34 hx hZ29 hown29 (tw hw 126 rfl) hSA e34 Y29 (Nat.le_trans Yk29 (Keep.of_wr W34).1) hEL CR36.1 (g := (mkF m 75 #[Rf a1, Rf a2, Rf a3, Rf a4, It p5, Rf a6, Rf a7, Rf a8, Rf a9, Rf a10, Rf a11, .unset, .unset] [(.ref a7), (.ref a1)])) rfl (hb hby d11_75) (n := 40) (by decide) (by decide) (by decide) (by decide)
  have O38 := O35.ext E37
  have K37 := K34.ext E37
  have CR39 := CR36.trans (C37)
  obtain ⟨_, _, ⟨T40, L40, k40, n40⟩, -, X40, ⟨Lc40, hQ40, l40, y40, z40⟩, st40⟩ := Jvm.LawKit.callS X37 hx (y := (⟨"java/util/Objects", "requireNonNull", "(Ljava/lang/Object;Ljava/lang/String;)Ljava/lang/Object;"⟩ : MethodName)) hown37 (mvT hZ37 (tw hw 103 rfl)) (mvT hZ37 (tw hw 104 rfl)) (mvT hZ37 (tw hw 105 rfl)) (mvT hZ37 (tw hw 106 rfl)) (by decide) (backOf (W := 1) (rm15 l Z a0 hw [] a7 sa37 h37 n0 O38 ) hZ37 (tw hw 106 rfl) (tw hw 105 rfl) (by decide) (by decide)) (g := (mkF m 77 #[Rf a1, Rf a2, Rf a3, Rf a4, It p5, Rf a6, Rf a7, Rf a8, Rf a9, Rf a10, Rf a11, .unset, .unset] [(.ref sa37), (.ref a7), (.ref a1)])) rfl (by rw [hml]; rfl) (argsL := [(.ref a7), (.ref sa37)]) (rest := [(.ref a1)]) (lenOf pd_7 rfl) rfl (by show 2 * 0 + _ ≤ _; exact Nat.le_of_eq rfl) (hb hby d11_77) (fun _ _ => ⟨rfl, e37, (by decide : 7 + 0 ≤ _), (by decide : 116 + 0 ≤ _)⟩)
  dsimp only [Pt.U, Pt.locs, Pt.cells, Pt.slots] at X40 l40 y40 z40 st40 hQ40
  subst l40 y40 z40
  obtain ⟨rfl, N40q, e40⟩ := hQ40
  have N40 := Fr.app N34 N40q
  obtain ⟨T41, X41, e41, st41⟩ := castY X40 hx hZ37 hown37 (tw hw 107 rfl) e40 (Ins.self (((((((((((E_a7.ext E2).keep K5q).wr W7).ext E10).wr W15).wr W19).wr W23).wr W26).ext E29).wr W34).ext E37)) (g := (mkF m 80 #[Rf a1, Rf a2, Rf a3, Rf a4, It p5, Rf a6, Rf a7, Rf a8, Rf a9, Rf a10, Rf a11, .unset, .unset] [(.ref a7), (.ref a1)])) rfl rfl (hb hby d11_80)
  obtain ⟨T42, h42, X42, e42, W42, st42⟩ := putF X41 hx hZ37 hown37 (host := "") (Or.inl (tw hw 127 rfl)) Via.refl e41 (((((((((((F_binaryName_a1.ext E2).keep K5q (ninS (Nat.ne_of_lt (Nat.lt_of_lt_of_le E_a1.lt (Nat.le_of_eq g2.symm))) nin0)).other W7 (sn (.object "java/lang/String") (.object "java/util/Map") (Or.inr (tw hw 128 rfl)) (Or.inr (tw hw 101 rfl)))).ext E10).other W15 (sn (.object "java/lang/String") (.object "java/lang/String") (Or.inr (tw hw 128 rfl)) (Or.inr (tw hw 109 rfl)))).other W19 (sn (.object "java/lang/String") (.object "com/example/legacy_to_latest/legacytolatest/EntityClass$Morphia") (Or.inr (tw hw 128 rfl)) (Or.inr (tw hw 118 rfl)))).other W23 (sn (.object "java/lang/String") (.object "java/lang/String") (Or.inr (tw hw 128 rfl)) (Or.inr (tw hw 120 rfl)))).other W26 (sn (.object "java/lang/String") .boolean (Or.inr (tw hw 128 rfl)) (Or.inr (tw hw 122 rfl)))).ext E29).other W34 (sn (.object "java/lang/String") (.object "java/lang/String") (Or.inr (tw hw 128 rfl)) (Or.inr (tw hw 125 rfl)))).ext E37) (((((((((((E_a1.ext E2).keep K5q).wr W7).ext E10).wr W15).wr W19).wr W23).wr W26).ext E29).wr W34).ext E37) (Or.inr ⟨(tw hw 128 rfl), rfl, hnm⟩) (tw hw 39 rfl) (ty := (.object "java/lang/String")) (by decide) rfl rfl (g := (mkF m 83 #[Rf a1, Rf a2, Rf a3, Rf a4, It p5, Rf a6, Rf a7, Rf a8, Rf a9, Rf a10, Rf a11, .unset, .unset] [(.ref a7), (.ref a1)])) rfl rfl (hb hby d11_83)
  have Fw42 := (((((((((((F_binaryName_a1.ext E2).keep K5q (ninS (Nat.ne_of_lt (Nat.lt_of_lt_of_le E_a1.lt (Nat.le_of_eq g2.symm))) nin0)).other W7 (sn (.object "java/lang/String") (.object "java/util/Map") (Or.inr (tw hw 128 rfl)) (Or.inr (tw hw 101 rfl)))).ext E10).other W15 (sn (.object "java/lang/String") (.object "java/lang/String") (Or.inr (tw hw 128 rfl)) (Or.inr (tw hw 109 rfl)))).other W19 (sn (.object "java/lang/String") (.object "com/example/legacy_to_latest/legacytolatest/EntityClass$Morphia") (Or.inr (tw hw 128 rfl)) (Or.inr (tw hw 118 rfl)))).other W23 (sn (.object "java/lang/String") (.object "java/lang/String") (Or.inr (tw hw 128 rfl)) (Or.inr (tw hw 120 rfl)))).other W26 (sn (.object "java/lang/String") .boolean (Or.inr (tw hw 128 rfl)) (Or.inr (tw hw 122 rfl)))).ext E29).other W34 (sn (.object "java/lang/String") (.object "java/lang/String") (Or.inr (tw hw 128 rfl)) (Or.inr (tw hw 125 rfl)))).ext E37).same W42
  have N42 := Fr.snoc X42 N40 ge_a1
  have O43 := O38.wr W42 ge_a1
  have K42 := K37.wr W42 (Or.inl (List.mem_of_getElem? (i := 0) rfl))
  have CR44 := CR39.trans (CHr.wr W42 (Safe.exa hZ37.alike (((((((((((E_a1.ext E2).keep K5q).wr W7).ext E10).wr W15).wr W19).wr W23).wr W26).ext E29).wr W34).ext E37) (by decide) (by decide)) CR39.1)
  obtain ⟨sa45, T45, h45, k45, X45, e45, E45, Y45, Yk45, hZ45, hown45, C45, Lt45, st45⟩ := ldcOH X42 hx hZ37 hown37 (tw hw 129 rfl) hSA e42 Y37 (Nat.le_trans Yk37 (Keep.of_wr W42).1) hEL CR44.1 (g := (mkF m 89 #[Rf a1, Rf a2, Rf a3, Rf a4, It p5, Rf a6, Rf a7, Rf a8, Rf a9, Rf a10, Rf a11, .unset, .unset] [(.ref a8), (.ref a1)])) rfl (hb hby d11_89) (n := 24) (by decide) (by decide) (by decide) (by decide)
  have O46 := O43.ext E45
  have K45 := K42.ext E45
  have CR47 := CR44.trans (C45)
  obtain ⟨_, _, ⟨T48, L48, k48, n48⟩, -, X48, ⟨Lc48, hQ48, l48, y48, z48⟩, st48⟩ := Jvm.LawKit.callS X45 hx (y := (⟨"java/util/Objects", "requireNonNull", "(Ljava/lang/Object;Ljava/lang/String;)Ljava/lang/Object;"⟩ : MethodName)) hown45 (mvT hZ45 (tw hw 103 rfl)) (mvT hZ45 (tw hw 104 rfl)) (mvT hZ45 (tw hw 105 rfl)) (mvT hZ45 (tw hw 106 rfl)) (by decide) (backOf (W := 1) (rm15 l Z a0 hw [] a8 sa45 h45 n0 O46 ) hZ45 (tw hw 106 rfl) (tw hw 105 rfl) (by decide) (by decide)) (g := (mkF m 91 #[Rf a1, Rf a2, Rf a3, Rf a4, It p5, Rf a6, Rf a7, Rf a8, Rf a9, Rf a10, Rf a11, .unset, .unset] [(.ref sa45), (.ref a8), (.ref a1)])) rfl (by rw [hml]; rfl) (argsL := [(.ref a8), (.ref sa45)]) (rest := [(.ref a1)]) (lenOf pd_7 rfl) rfl (by show 2 * 0 + _ ≤ _; exact Nat.le_of_eq rfl) (hb hby d11_91) (fun _ _ => ⟨rfl, e45, (by decide : 9 + 0 ≤ _), (by decide : 144 + 0 ≤ _)⟩)
  dsimp only [Pt.U, Pt.locs, Pt.cells, Pt.slots] at X48 l48 y48 z48 st48 hQ48
  subst l48 y48 z48
  obtain ⟨rfl, N48q, e48⟩ := hQ48
  have N48 := Fr.app N42 N48q
  obtain ⟨T49, X49, e49, st49⟩ := castY X48 hx hZ45 hown45 (tw hw 107 rfl) e48 (Ins.self (((((((((((((E_a8.ext E2).keep K5q).wr W7).ext E10).wr W15).wr W19).wr W23).wr W26).ext E29).wr W34).ext E37).wr W42).ext E45)) (g := (mkF m 94 #[Rf a1, Rf a2, Rf a3, Rf a4, It p5, Rf a6, Rf a7, Rf a8, Rf a9, Rf a10, Rf a11, .unset, .unset] [(.ref a8), (.ref a1)])) rfl rfl (hb hby d11_94)
  obtain ⟨T50, h50, X50, e50, W50, st50⟩ := putF X49 hx hZ45 hown45 (host := "") (Or.inl (tw hw 130 rfl)) Via.refl e49 (((((((((((((F_source_a1.ext E2).keep K5q (ninS (Nat.ne_of_lt (Nat.lt_of_lt_of_le E_a1.lt (Nat.le_of_eq g2.symm))) nin0)).other W7 (sn (.object "java/lang/String") (.object "java/util/Map") (Or.inr (tw hw 131 rfl)) (Or.inr (tw hw 101 rfl)))).ext E10).other W15 (sn (.object "java/lang/String") (.object "java/lang/String") (Or.inr (tw hw 131 rfl)) (Or.inr (tw hw 109 rfl)))).other W19 (sn (.object "java/lang/String") (.object "com/example/legacy_to_latest/legacytolatest/EntityClass$Morphia") (Or.inr (tw hw 131 rfl)) (Or.inr (tw hw 118 rfl)))).other W23 (sn (.object "java/lang/String") (.object "java/lang/String") (Or.inr (tw hw 131 rfl)) (Or.inr (tw hw 120 rfl)))).other W26 (sn (.object "java/lang/String") .boolean (Or.inr (tw hw 131 rfl)) (Or.inr (tw hw 122 rfl)))).ext E29).other W34 (sn (.object "java/lang/String") (.object "java/lang/String") (Or.inr (tw hw 131 rfl)) (Or.inr (tw hw 125 rfl)))).ext E37).other W42 (sn (.object "java/lang/String") (.object "java/lang/String") (Or.inr (tw hw 131 rfl)) (Or.inr (tw hw 128 rfl)))).ext E45) (((((((((((((E_a1.ext E2).keep K5q).wr W7).ext E10).wr W15).wr W19).wr W23).wr W26).ext E29).wr W34).ext E37).wr W42).ext E45) (Or.inr ⟨(tw hw 131 rfl), rfl, hnm⟩) (tw hw 39 rfl) (ty := (.object "java/lang/String")) (by decide) rfl rfl (g := (mkF m 97 #[Rf a1, Rf a2, Rf a3, Rf a4, It p5, Rf a6, Rf a7, Rf a8, Rf a9, Rf a10, Rf a11, .unset, .unset] [(.ref a8), (.ref a1)])) rfl rfl (hb hby d11_97)
  have Fw50 := (((((((((((((F_source_a1.ext E2).keep K5q (ninS (Nat.ne_of_lt (Nat.lt_of_lt_of_le E_a1.lt (Nat.le_of_eq g2.symm))) nin0)).other W7 (sn (.object "java/lang/String") (.object "java/util/Map") (Or.inr (tw hw 131 rfl)) (Or.inr (tw hw 101 rfl)))).ext E10).other W15 (sn (.object "java/lang/String") (.object "java/lang/String") (Or.inr (tw hw 131 rfl)) (Or.inr (tw hw 109 rfl)))).other W19 (sn (.object "java/lang/String") (.object "com/example/legacy_to_latest/legacytolatest/EntityClass$Morphia") (Or.inr (tw hw 131 rfl)) (Or.inr (tw hw 118 rfl)))).other W23 (sn (.object "java/lang/String") (.object "java/lang/String") (Or.inr (tw hw 131 rfl)) (Or.inr (tw hw 120 rfl)))).other W26 (sn (.object "java/lang/String") .boolean (Or.inr (tw hw 131 rfl)) (Or.inr (tw hw 122 rfl)))).ext E29).other W34 (sn (.object "java/lang/String") (.object "java/lang/String") (Or.inr (tw hw 131 rfl)) (Or.inr (tw hw 125 rfl)))).ext E37).other W42 (sn (.object "java/lang/String") (.object "java/lang/String") (Or.inr (tw hw 131 rfl)) (Or.inr (tw hw 128 rfl)))).ext E45).same W50
  have N50 := Fr.snoc X50 N48 ge_a1
  have O51 := O46.wr W50 ge_a1
  have K50 := K45.wr W50 (Or.inl (List.mem_of_getElem? (i := 0) rfl))
  have CR52 := CR47.trans (CHr.wr W50 (Safe.exa hZ45.alike (((((((((((((E_a1.ext E2).keep K5q).wr W7).ext E10).wr W15).wr W19).wr W23).wr W26).ext E29).wr W34).ext E37).wr W42).ext E45) (by decide) (by decide)) CR47.1)
  obtain ⟨cq53, kq53, q53a, q53b, q53c⟩ := isOf hZ45 e50 ((((((((((((((E_a9.ext E2).keep K5q).wr W7).ext E10).wr W15).wr W19).wr W23).wr W26).ext E29).wr W34).ext E37).wr W42).ext E45).wr W50)
  obtain ⟨_, _, ⟨T53, L53, k53, n53⟩, -, X53, ⟨Lc53, hQ53, l53, y53, z53⟩, st53⟩ := X50.interfaceBack hx (xi := (⟨"java/util/List", "iterator", "()Ljava/util/Iterator;"⟩ : MethodName)) (y := (⟨"java/util/ArrayList", "iterator", "()Ljava/util/Iterator;"⟩ : MethodName)) hown45 (mvT hZ45 (tw hw 132 rfl)) (mvT hZ45 (tw hw 133 rfl)) (mvT hZ45 (tw hw 134 rfl)) (mvT hZ45 (tw hw 135 rfl)) (mvT hZ45 (tw hw 136 rfl)) (mvT hZ45 (tw hw 137 rfl)) (mvT hZ45 (tw hw 138 rfl)) (mvT hZ45 (tw hw 139 rfl)) (by decide) (backOf (W := 0) (rm17 l Z a0 hw [] a9 h50 n0 O51 ((((((((((((((E_a9.ext E2).keep K5q).wr W7).ext E10).wr W15).wr W19).wr W23).wr W26).ext E29).wr W34).ext E37).wr W42).ext E45).wr W50) ((((((((((((((F_modCount_a9.ext E2).keep K5q (ninS (Nat.ne_of_lt (Nat.lt_of_lt_of_le E_a9.lt (Nat.le_of_eq g2.symm))) nin0)).other W7 (Or.inl (Exa.ne E_a9 E_a1 (by decide)))).ext E10).other W15 (Or.inl (Exa.ne E_a9 E_a1 (by decide)))).other W19 (Or.inl (Exa.ne E_a9 E_a1 (by decide)))).other W23 (Or.inl (Exa.ne E_a9 E_a1 (by decide)))).other W26 (Or.inl (Exa.ne E_a9 E_a1 (by decide)))).ext E29).other W34 (Or.inl (Exa.ne E_a9 E_a1 (by decide)))).ext E37).other W42 (Or.inl (Exa.ne E_a9 E_a1 (by decide)))).ext E45).other W50 (Or.inl (Exa.ne E_a9 E_a1 (by decide))))) hZ45 (tw hw 140 rfl) (tw hw 48 rfl) (by decide) (by decide)) q53a q53b q53c (g := (mkF m 102 #[Rf a1, Rf a2, Rf a3, Rf a4, It p5, Rf a6, Rf a7, Rf a8, Rf a9, Rf a10, Rf a11, .unset, .unset] [(.ref a9)])) rfl (by rw [hml]; rfl) (Steps.refl _) (argsL := []) (rest := []) (lenOf pd_8 rfl) rfl (by show 2 * 0 + _ ≤ _; exact Nat.le_of_eq rfl) (hb hby d11_102) (fun _ _ => ⟨rfl, e50, (by decide : 9 + 1 ≤ _), (by decide : 144 + 4 ≤ _)⟩)
  dsimp only [Pt.U, Pt.locs, Pt.cells, Pt.slots] at X53 l53 y53 z53 st53 hQ53
  subst l53 y53 z53
  obtain ⟨r_53, rfl, N53q, K53q, O53, f53_0, f53_1, f53_2, f53_3, f53_4⟩ := hQ53
  have N53 := Fr.app N50 N53q
  have CR54 := CR52.trans (CHr.keep K53q all0 CR52.1)
  have K53 := K50.trans K53q all0
  obtain ⟨cq55, kq55, q55a, q55b, q55c⟩ := isOf hZ45 rfl f53_2
  obtain ⟨_, _, ⟨T55, L55, k55, n55⟩, -, X55, ⟨Lc55, hQ55, l55, y55, z55⟩, st55⟩ := X53.interfaceBack hx (xi := (⟨"java/util/Iterator", "hasNext", "()Z"⟩ : MethodName)) (y := (⟨"java/util/ArrayList$Itr", "hasNext", "()Z"⟩ : MethodName)) hown45 (mvT hZ45 (tw hw 157 rfl)) (mvT hZ45 (tw hw 158 rfl)) (mvT hZ45 (tw hw 159 rfl)) (mvT hZ45 (tw hw 160 rfl)) (mvT hZ45 (tw hw 161 rfl)) (mvT hZ45 (tw hw 162 rfl)) (mvT hZ45 (tw hw 163 rfl)) (mvT hZ45 (tw hw 164 rfl)) (by decide) (backOf (W := 0) (rm19 l Z a0 hw [] r_53 a9 T53.heap n0 O53 f53_4 f53_3 (((((((((((((((F_size_a9.ext E2).keep K5q (ninS (Nat.ne_of_lt (Nat.lt_of_lt_of_le E_a9.lt (Nat.le_of_eq g2.symm))) nin0)).other W7 (Or.inl (Exa.ne E_a9 E_a1 (by decide)))).ext E10).other W15 (Or.inl (Exa.ne E_a9 E_a1 (by decide)))).other W19 (Or.inl (Exa.ne E_a9 E_a1 (by decide)))).other W23 (Or.inl (Exa.ne E_a9 E_a1 (by decide)))).other W26 (Or.inl (Exa.ne E_a9 E_a1 (by decide)))).ext E29).other W34 (Or.inl (Exa.ne E_a9 E_a1 (by decide)))).ext E37).other W42 (Or.inl (Exa.ne E_a9 E_a1 (by decide)))).ext E45).other W50 (Or.inl (Exa.ne E_a9 E_a1 (by decide)))).keep K53q nin0)) hZ45 (tw hw 165 rfl) (tw hw 143 rfl) (by decide) (by decide)) q55a q55b q55c (g := (mkF m 111 #[Rf a1, Rf a2, Rf a3, Rf a4, It p5, Rf a6, Rf a7, Rf a8, Rf a9, Rf a10, Rf a11, Rf r_53, .unset] [(.ref r_53)])) rfl (by rw [hml]; rfl) (Steps.refl _) (argsL := []) (rest := []) (lenOf pd_9 rfl) rfl (by show 2 * 0 + _ ≤ _; exact Nat.le_of_eq rfl) (hb hby d11_111) (fun _ _ => ⟨rfl, rfl, (by decide : 10 + 0 ≤ _), (by decide : 148 + 0 ≤ _)⟩)
  dsimp only [Pt.U, Pt.locs, Pt.cells, Pt.slots] at X55 l55 y55 z55 st55 hQ55
  subst l55 y55 z55
  obtain ⟨rfl, N55q, e55⟩ := hQ55
  have N55 := Fr.app N53 N55q
  obtain ⟨_, _, ⟨T56, L56, k56, n56⟩, -, X56, ⟨Lc56, hQ56, l56, y56, z56⟩, st56⟩ := Jvm.LawKit.callS X55 hx (y := (⟨"java/util/Map", "copyOf", "(Ljava/util/Map;)Ljava/util/Map;"⟩ : MethodName)) hown45 (mvT hZ45 (tw hw 170 rfl)) (mvT hZ45 (tw hw 171 rfl)) (mvT hZ45 (tw hw 34 rfl)) (mvT hZ45 (tw hw 172 rfl)) (by decide) (backOf (W := 1) (rm20 l Z a0 hw [] a10 T53.heap n0 O53 (((((((((((((((E_a10.ext E2).keep K5q).wr W7).ext E10).wr W15).wr W19).wr W23).wr W26).ext E29).wr W34).ext E37).wr W42).ext E45).wr W50).keep K53q)) hZ45 (tw hw 172 rfl) (tw hw 34 rfl) (by decide) (by decide)) (g := (mkF m 167 #[Rf a1, Rf a2, Rf a3, Rf a4, It p5, Rf a6, Rf a7, Rf a8, Rf a9, Rf a10, Rf a11, Rf r_53, .unset] [(.ref a10), (.ref a1)])) rfl (by rw [hml]; rfl) (argsL := [(.ref a10)]) (rest := [(.ref a1)]) (lenOf pd_10 rfl) rfl (by show 2 * 0 + _ ≤ _; exact Nat.le_of_eq rfl) (hb hby d11_167) (fun _ _ => ⟨rfl, e55, (by decide : 10 + 0 ≤ _), (by decide : 148 + 0 ≤ _)⟩)
  dsimp only [Pt.U, Pt.locs, Pt.cells, Pt.slots] at X56 l56 y56 z56 st56 hQ56
  subst l56 y56 z56
  obtain ⟨rfl, N56q, e56⟩ := hQ56
  have N56 := Fr.app N55 N56q
  obtain ⟨T57, h57, X57, e57, W57, st57⟩ := putF X56 hx hZ45 hown45 (host := "") (Or.inl (tw hw 175 rfl)) Via.refl e56 (((((((((((((((F_keyParts_a1.ext E2).keep K5q (ninS (Nat.ne_of_lt (Nat.lt_of_lt_of_le E_a1.lt (Nat.le_of_eq g2.symm))) nin0)).other W7 (sn (.object "java/util/Map") (.object "java/util/Map") (Or.inr (tw hw 176 rfl)) (Or.inr (tw hw 101 rfl)))).ext E10).other W15 (sn (.object "java/util/Map") (.object "java/lang/String") (Or.inr (tw hw 176 rfl)) (Or.inr (tw hw 109 rfl)))).other W19 (sn (.object "java/util/Map") (.object "com/example/legacy_to_latest/legacytolatest/EntityClass$Morphia") (Or.inr (tw hw 176 rfl)) (Or.inr (tw hw 118 rfl)))).other W23 (sn (.object "java/util/Map") (.object "java/lang/String") (Or.inr (tw hw 176 rfl)) (Or.inr (tw hw 120 rfl)))).other W26 (sn (.object "java/util/Map") .boolean (Or.inr (tw hw 176 rfl)) (Or.inr (tw hw 122 rfl)))).ext E29).other W34 (sn (.object "java/util/Map") (.object "java/lang/String") (Or.inr (tw hw 176 rfl)) (Or.inr (tw hw 125 rfl)))).ext E37).other W42 (sn (.object "java/util/Map") (.object "java/lang/String") (Or.inr (tw hw 176 rfl)) (Or.inr (tw hw 128 rfl)))).ext E45).other W50 (sn (.object "java/util/Map") (.object "java/lang/String") (Or.inr (tw hw 176 rfl)) (Or.inr (tw hw 131 rfl)))).keep K53q nin0) (((((((((((((((E_a1.ext E2).keep K5q).wr W7).ext E10).wr W15).wr W19).wr W23).wr W26).ext E29).wr W34).ext E37).wr W42).ext E45).wr W50).keep K53q) (Or.inr ⟨(tw hw 176 rfl), rfl, hnm⟩) (tw hw 39 rfl) (ty := (.object "java/util/Map")) (by decide) rfl rfl (g := (mkF m 170 #[Rf a1, Rf a2, Rf a3, Rf a4, It p5, Rf a6, Rf a7, Rf a8, Rf a9, Rf a10, Rf a11, Rf r_53, .unset] [(.ref a10), (.ref a1)])) rfl rfl (hb hby d11_170)
  have Fw57 := (((((((((((((((F_keyParts_a1.ext E2).keep K5q (ninS (Nat.ne_of_lt (Nat.lt_of_lt_of_le E_a1.lt (Nat.le_of_eq g2.symm))) nin0)).other W7 (sn (.object "java/util/Map") (.object "java/util/Map") (Or.inr (tw hw 176 rfl)) (Or.inr (tw hw 101 rfl)))).ext E10).other W15 (sn (.object "java/util/Map") (.object "java/lang/String") (Or.inr (tw hw 176 rfl)) (Or.inr (tw hw 109 rfl)))).other W19 (sn (.object "java/util/Map") (.object "com/example/legacy_to_latest/legacytolatest/EntityClass$Morphia") (Or.inr (tw hw 176 rfl)) (Or.inr (tw hw 118 rfl)))).other W23 (sn (.object "java/util/Map") (.object "java/lang/String") (Or.inr (tw hw 176 rfl)) (Or.inr (tw hw 120 rfl)))).other W26 (sn (.object "java/util/Map") .boolean (Or.inr (tw hw 176 rfl)) (Or.inr (tw hw 122 rfl)))).ext E29).other W34 (sn (.object "java/util/Map") (.object "java/lang/String") (Or.inr (tw hw 176 rfl)) (Or.inr (tw hw 125 rfl)))).ext E37).other W42 (sn (.object "java/util/Map") (.object "java/lang/String") (Or.inr (tw hw 176 rfl)) (Or.inr (tw hw 128 rfl)))).ext E45).other W50 (sn (.object "java/util/Map") (.object "java/lang/String") (Or.inr (tw hw 176 rfl)) (Or.inr (tw hw 131 rfl)))).keep K53q nin0).same W57
  have N57 := Fr.snoc X57 N56 ge_a1
  have O58 := O53.wr W57 ge_a1
  have K57 := K53.wr W57 (Or.inl (List.mem_of_getElem? (i := 0) rfl))
  have CR59 := CR54.trans (CHr.wr W57 (Safe.exa hZ45.alike (((((((((((((((E_a1.ext E2).keep K5q).wr W7).ext E10).wr W15).wr W19).wr W23).wr W26).ext E29).wr W34).ext E37).wr W42).ext E45).wr W50).keep K53q) (by decide) (by decide)) CR54.1)
  obtain ⟨cq60, kq60, q60a, q60b, q60c⟩ := isOf hZ45 e57 ((((((((((((((((E_a11.ext E2).keep K5q).wr W7).ext E10).wr W15).wr W19).wr W23).wr W26).ext E29).wr W34).ext E37).wr W42).ext E45).wr W50).keep K53q).wr W57)
  obtain ⟨_, _, ⟨T60, L60, k60, n60⟩, -, X60, ⟨Lc60, hQ60, l60, y60, z60⟩, st60⟩ := X57.virtualBack hx (y := (⟨"java/util/Optional", "orElse", "(Ljava/lang/Object;)Ljava/lang/Object;"⟩ : MethodName)) (z := (⟨"java/util/Optional", "orElse", "(Ljava/lang/Object;)Ljava/lang/Object;"⟩ : MethodName)) hown45 (mvT hZ45 (tw hw 110 rfl)) (mvT hZ45 (tw hw 111 rfl)) (notFace_of_selects (args := #[]) (mvT hZ45 (tw hw 113 rfl))) (mvT hZ45 (tw hw 113 rfl)) (mvT hZ45 (tw hw 112 rfl)) (by decide) (backOf (W := 1) (rm16_0 l Z a0 hw [] a11 h57 n0 O58 ((((((((((((((((F_value_a11.ext E2).keep K5q (ninS (Nat.ne_of_lt (Nat.lt_of_lt_of_le E_a11.lt (Nat.le_of_eq g2.symm))) nin0)).other W7 (Or.inl (Exa.ne E_a11 E_a1 (by decide)))).ext E10).other W15 (Or.inl (Exa.ne E_a11 E_a1 (by decide)))).other W19 (Or.inl (Exa.ne E_a11 E_a1 (by decide)))).other W23 (Or.inl (Exa.ne E_a11 E_a1 (by decide)))).other W26 (Or.inl (Exa.ne E_a11 E_a1 (by decide)))).ext E29).other W34 (Or.inl (Exa.ne E_a11 E_a1 (by decide)))).ext E37).other W42 (Or.inl (Exa.ne E_a11 E_a1 (by decide)))).ext E45).other W50 (Or.inl (Exa.ne E_a11 E_a1 (by decide)))).keep K53q nin0).other W57 (Or.inl (Exa.ne E_a11 E_a1 (by decide))))) hZ45 (tw hw 114 rfl) (tw hw 29 rfl) (by decide) (by decide)) q60a q60c (g := (mkF m 177 #[Rf a1, Rf a2, Rf a3, Rf a4, It p5, Rf a6, Rf a7, Rf a8, Rf a9, Rf a10, Rf a11, Rf r_53, .unset] [.null, (.ref a11), (.ref a1)])) rfl (by rw [hml]; rfl) (Steps.refl _) (argsL := [.null]) (rest := [(.ref a1)]) (lenOf pd_3 rfl) rfl (by show 2 * 0 + _ ≤ _; exact Nat.le_of_eq rfl) (hb hby d11_177) (fun _ _ => ⟨rfl, e57, (by decide : 10 + 0 ≤ _), (by decide : 148 + 0 ≤ _)⟩)
  dsimp only [Pt.U, Pt.locs, Pt.cells, Pt.slots] at X60 l60 y60 z60 st60 hQ60
  subst l60 y60 z60
  obtain ⟨rfl, N60q, e60⟩ := hQ60
  have N60 := Fr.app N57 N60q
  obtain ⟨T61, h61, X61, e61, W61, st61⟩ := putF X60 hx hZ45 hown45 (host := "") (Or.inl (tw hw 177 rfl)) Via.refl e60 ((((((((((((((((F_unreadSuperclass_a1.ext E2).keep K5q (ninS (Nat.ne_of_lt (Nat.lt_of_lt_of_le E_a1.lt (Nat.le_of_eq g2.symm))) nin0)).other W7 (sn (.object "java/lang/String") (.object "java/util/Map") (Or.inr (tw hw 178 rfl)) (Or.inr (tw hw 101 rfl)))).ext E10).other W15 (sn (.object "java/lang/String") (.object "java/lang/String") (Or.inr (tw hw 178 rfl)) (Or.inr (tw hw 109 rfl)))).other W19 (sn (.object "java/lang/String") (.object "com/example/legacy_to_latest/legacytolatest/EntityClass$Morphia") (Or.inr (tw hw 178 rfl)) (Or.inr (tw hw 118 rfl)))).other W23 (sn (.object "java/lang/String") (.object "java/lang/String") (Or.inr (tw hw 178 rfl)) (Or.inr (tw hw 120 rfl)))).other W26 (sn (.object "java/lang/String") .boolean (Or.inr (tw hw 178 rfl)) (Or.inr (tw hw 122 rfl)))).ext E29).other W34 (sn (.object "java/lang/String") (.object "java/lang/String") (Or.inr (tw hw 178 rfl)) (Or.inr (tw hw 125 rfl)))).ext E37).other W42 (sn (.object "java/lang/String") (.object "java/lang/String") (Or.inr (tw hw 178 rfl)) (Or.inr (tw hw 128 rfl)))).ext E45).other W50 (sn (.object "java/lang/String") (.object "java/lang/String") (Or.inr (tw hw 178 rfl)) (Or.inr (tw hw 131 rfl)))).keep K53q nin0).other W57 (sn (.object "java/lang/String") (.object "java/util/Map") (Or.inr (tw hw 178 rfl)) (Or.inr (tw hw 176 rfl)))) ((((((((((((((((E_a1.ext E2).keep K5q).wr W7).ext E10).wr W15).wr W19).wr W23).wr W26).ext E29).wr W34).ext E37).wr W42).ext E45).wr W50).keep K53q).wr W57) (Or.inr ⟨(tw hw 178 rfl), rfl, hnm⟩) (tw hw 39 rfl) (ty := (.object "java/lang/String")) (by decide) rfl rfl (g := (mkF m 183 #[Rf a1, Rf a2, Rf a3, Rf a4, It p5, Rf a6, Rf a7, Rf a8, Rf a9, Rf a10, Rf a11, Rf r_53, .unset] [.null, (.ref a1)])) rfl rfl (hb hby d11_183)
  have Fw61 := ((((((((((((((((F_unreadSuperclass_a1.ext E2).keep K5q (ninS (Nat.ne_of_lt (Nat.lt_of_lt_of_le E_a1.lt (Nat.le_of_eq g2.symm))) nin0)).other W7 (sn (.object "java/lang/String") (.object "java/util/Map") (Or.inr (tw hw 178 rfl)) (Or.inr (tw hw 101 rfl)))).ext E10).other W15 (sn (.object "java/lang/String") (.object "java/lang/String") (Or.inr (tw hw 178 rfl)) (Or.inr (tw hw 109 rfl)))).other W19 (sn (.object "java/lang/String") (.object "com/example/legacy_to_latest/legacytolatest/EntityClass$Morphia") (Or.inr (tw hw 178 rfl)) (Or.inr (tw hw 118 rfl)))).other W23 (sn (.object "java/lang/String") (.object "java/lang/String") (Or.inr (tw hw 178 rfl)) (Or.inr (tw hw 120 rfl)))).other W26 (sn (.object "java/lang/String") .boolean (Or.inr (tw hw 178 rfl)) (Or.inr (tw hw 122 rfl)))).ext E29).other W34 (sn (.object "java/lang/String") (.object "java/lang/String") (Or.inr (tw hw 178 rfl)) (Or.inr (tw hw 125 rfl)))).ext E37).other W42 (sn (.object "java/lang/String") (.object "java/lang/String") (Or.inr (tw hw 178 rfl)) (Or.inr (tw hw 128 rfl)))).ext E45).other W50 (sn (.object "java/lang/String") (.object "java/lang/String") (Or.inr (tw hw 178 rfl)) (Or.inr (tw hw 131 rfl)))).keep K53q nin0).other W57 (sn (.object "java/lang/String") (.object "java/util/Map") (Or.inr (tw hw 178 rfl)) (Or.inr (tw hw 176 rfl)))).same W61
  have N61 := Fr.snoc X61 N60 ge_a1
  have O62 := O58.wr W61 ge_a1
  have K61 := K57.wr W61 (Or.inl (List.mem_of_getElem? (i := 0) rfl))
  have CR63 := CR59.trans (CHr.wr W61 (Safe.exa hZ45.alike ((((((((((((((((E_a1.ext E2).keep K5q).wr W7).ext E10).wr W15).wr W19).wr W23).wr W26).ext E29).wr W34).ext E37).wr W42).ext E45).wr W50).keep K53q).wr W57) (by decide) (by decide)) CR59.1)
  have sg64 : ∀ target, Steps p.tables e below (T61.setTop (mkF m 186 #[Rf a1, Rf a2, Rf a3, Rf a4, It p5, Rf a6, Rf a7, Rf a8, Rf a9, Rf a10, Rf a11, Rf r_53, .unset] [])) target → Steps p.tables e below (s₁.setTop (mkF m 0 #[Rf a1, Rf a2, Rf a3, Rf a4, It p5, Rf a6, Rf a7, Rf a8, Rf a9, Rf a10, Rf a11, .unset, .unset] [])) target := by
    intro target kt
    show Steps p.tables e below (s₁.setTop (mkF m 0 #[Rf a1, Rf a2, Rf a3, Rf a4, It p5, Rf a6, Rf a7, Rf a8, Rf a9, Rf a10, Rf a11, .unset, .unset] [])) _
    refine XS.aloadN X0.here hx rfl (hb hby d11_0) rfl rfl ?_
    show Steps p.tables e below (s₁.setTop (mkF m 1 #[Rf a1, Rf a2, Rf a3, Rf a4, It p5, Rf a6, Rf a7, Rf a8, Rf a9, Rf a10, Rf a11, .unset, .unset] [(.ref a1)])) _
    refine st1 _ ?_
    show Steps p.tables e below (T1.setTop (mkF m 4 #[Rf a1, Rf a2, Rf a3, Rf a4, It p5, Rf a6, Rf a7, Rf a8, Rf a9, Rf a10, Rf a11, .unset, .unset] [])) _
    refine XS.aloadN X1.here hx rfl (hb hby d11_4) rfl rfl ?_
    show Steps p.tables e below (T1.setTop (mkF m 5 #[Rf a1, Rf a2, Rf a3, Rf a4, It p5, Rf a6, Rf a7, Rf a8, Rf a9, Rf a10, Rf a11, .unset, .unset] [(.ref a1)])) _
    refine st2 _ ?_
    show Steps p.tables e below (T2.setTop (mkF m 8 #[Rf a1, Rf a2, Rf a3, Rf a4, It p5, Rf a6, Rf a7, Rf a8, Rf a9, Rf a10, Rf a11, .unset, .unset] [(.ref b2), (.ref a1)])) _
    refine XS.dup X2.here hx rfl (hb hby d11_8) rfl rfl ?_
    show Steps p.tables e below (T2.setTop (mkF m 9 #[Rf a1, Rf a2, Rf a3, Rf a4, It p5, Rf a6, Rf a7, Rf a8, Rf a9, Rf a10, Rf a11, .unset, .unset] [(.ref b2), (.ref b2), (.ref a1)])) _
    refine st5.trans ?_
    show Steps p.tables e below (T5.setTop (mkF m 12 #[Rf a1, Rf a2, Rf a3, Rf a4, It p5, Rf a6, Rf a7, Rf a8, Rf a9, Rf a10, Rf a11, .unset, .unset] [(.ref b2), (.ref a1)])) _
    refine st7 _ ?_
    show Steps p.tables e below (T7.setTop (mkF m 15 #[Rf a1, Rf a2, Rf a3, Rf a4, It p5, Rf a6, Rf a7, Rf a8, Rf a9, Rf a10, Rf a11, .unset, .unset] [])) _
    refine XS.aloadN X7.here hx rfl (hb hby d11_15) rfl rfl ?_
    show Steps p.tables e below (T7.setTop (mkF m 16 #[Rf a1, Rf a2, Rf a3, Rf a4, It p5, Rf a6, Rf a7, Rf a8, Rf a9, Rf a10, Rf a11, .unset, .unset] [(.ref a1)])) _
    refine XS.aloadN X7.here hx rfl (hb hby d11_16) rfl rfl ?_
    show Steps p.tables e below (T7.setTop (mkF m 17 #[Rf a1, Rf a2, Rf a3, Rf a4, It p5, Rf a6, Rf a7, Rf a8, Rf a9, Rf a10, Rf a11, .unset, .unset] [(.ref a2), (.ref a1)])) _
    refine st10 _ ?_
    show Steps p.tables e below (T10.setTop (mkF m 19 #[Rf a1, Rf a2, Rf a3, Rf a4, It p5, Rf a6, Rf a7, Rf a8, Rf a9, Rf a10, Rf a11, .unset, .unset] [(.ref sa10), (.ref a2), (.ref a1)])) _
    refine st13 _ ?_
    show Steps p.tables e below (T13.setTop (mkF m 22 #[Rf a1, Rf a2, Rf a3, Rf a4, It p5, Rf a6, Rf a7, Rf a8, Rf a9, Rf a10, Rf a11, .unset, .unset] [(.ref a2), (.ref a1)])) _
    refine st14 _ ?_
    show Steps p.tables e below (T14.setTop (mkF m 25 #[Rf a1, Rf a2, Rf a3, Rf a4, It p5, Rf a6, Rf a7, Rf a8, Rf a9, Rf a10, Rf a11, .unset, .unset] [(.ref a2), (.ref a1)])) _
    refine st15 _ ?_
    show Steps p.tables e below (T15.setTop (mkF m 28 #[Rf a1, Rf a2, Rf a3, Rf a4, It p5, Rf a6, Rf a7, Rf a8, Rf a9, Rf a10, Rf a11, .unset, .unset] [])) _
    refine XS.aloadN X15.here hx rfl (hb hby d11_28) rfl rfl ?_
    show Steps p.tables e below (T15.setTop (mkF m 29 #[Rf a1, Rf a2, Rf a3, Rf a4, It p5, Rf a6, Rf a7, Rf a8, Rf a9, Rf a10, Rf a11, .unset, .unset] [(.ref a1)])) _
    refine XS.aloadN X15.here hx rfl (hb hby d11_29) rfl rfl ?_
    show Steps p.tables e below (T15.setTop (mkF m 30 #[Rf a1, Rf a2, Rf a3, Rf a4, It p5, Rf a6, Rf a7, Rf a8, Rf a9, Rf a10, Rf a11, .unset, .unset] [(.ref a3), (.ref a1)])) _
    refine XS.aconstNull X15.here hx rfl (hb hby d11_30) ?_
    show Steps p.tables e below (T15.setTop (mkF m 31 #[Rf a1, Rf a2, Rf a3, Rf a4, It p5, Rf a6, Rf a7, Rf a8, Rf a9, Rf a10, Rf a11, .unset, .unset] [.null, (.ref a3), (.ref a1)])) _
    refine st18.trans ?_
    show Steps p.tables e below (T18.setTop (mkF m 34 #[Rf a1, Rf a2, Rf a3, Rf a4, It p5, Rf a6, Rf a7, Rf a8, Rf a9, Rf a10, Rf a11, .unset, .unset] [.null, (.ref a1)])) _
    refine X18.checkcastNull hx (g := (mkF m 34 #[Rf a1, Rf a2, Rf a3, Rf a4, It p5, Rf a6, Rf a7, Rf a8, Rf a9, Rf a10, Rf a11, .unset, .unset] [.null, (.ref a1)])) rfl rfl (hb hby d11_34) _ ?_
    show Steps p.tables e below (T18.setTop (mkF m 37 #[Rf a1, Rf a2, Rf a3, Rf a4, It p5, Rf a6, Rf a7, Rf a8, Rf a9, Rf a10, Rf a11, .unset, .unset] [.null, (.ref a1)])) _
    refine st19 _ ?_
    show Steps p.tables e below (T19.setTop (mkF m 40 #[Rf a1, Rf a2, Rf a3, Rf a4, It p5, Rf a6, Rf a7, Rf a8, Rf a9, Rf a10, Rf a11, .unset, .unset] [])) _
    refine XS.aloadN X19.here hx rfl (hb hby d11_40) rfl rfl ?_
    show Steps p.tables e below (T19.setTop (mkF m 41 #[Rf a1, Rf a2, Rf a3, Rf a4, It p5, Rf a6, Rf a7, Rf a8, Rf a9, Rf a10, Rf a11, .unset, .unset] [(.ref a1)])) _
    refine XS.aloadN X19.here hx rfl (hb hby d11_41) rfl rfl ?_
    show Steps p.tables e below (T19.setTop (mkF m 42 #[Rf a1, Rf a2, Rf a3, Rf a4, It p5, Rf a6, Rf a7, Rf a8, Rf a9, Rf a10, Rf a11, .unset, .unset] [(.ref a4), (.ref a1)])) _
    refine XS.aconstNull X19.here hx rfl (hb hby d11_42) ?_
    show Steps p.tables e below (T19.setTop (mkF m 43 #[Rf a1, Rf a2, Rf a3, Rf a4, It p5, Rf a6, Rf a7, Rf a8, Rf a9, Rf a10, Rf a11, .unset, .unset] [.null, (.ref a4), (.ref a1)])) _
    refine st22.trans ?_
    show Steps p.tables e below (T22.setTop (mkF m 46 #[Rf a1, Rf a2, Rf a3, Rf a4, It p5, Rf a6, Rf a7, Rf a8, Rf a9, Rf a10, Rf a11, .unset, .unset] [.null, (.ref a1)])) _
    refine X22.checkcastNull hx (g := (mkF m 46 #[Rf a1, Rf a2, Rf a3, Rf a4, It p5, Rf a6, Rf a7, Rf a8, Rf a9, Rf a10, Rf a11, .unset, .unset] [.null, (.ref a1)])) rfl rfl (hb hby d11_46) _ ?_
    show Steps p.tables e below (T22.setTop (mkF m 49 #[Rf a1, Rf a2, Rf a3, Rf a4, It p5, Rf a6, Rf a7, Rf a8, Rf a9, Rf a10, Rf a11, .unset, .unset] [.null, (.ref a1)])) _
    refine st23 _ ?_
    show Steps p.tables e below (T23.setTop (mkF m 52 #[Rf a1, Rf a2, Rf a3, Rf a4, It p5, Rf a6, Rf a7, Rf a8, Rf a9, Rf a10, Rf a11, .unset, .unset] [])) _
    refine XS.aloadN X23.here hx rfl (hb hby d11_52) rfl rfl ?_
    show Steps p.tables e below (T23.setTop (mkF m 53 #[Rf a1, Rf a2, Rf a3, Rf a4, It p5, Rf a6, Rf a7, Rf a8, Rf a9, Rf a10, Rf a11, .unset, .unset] [(.ref a1)])) _
    refine XS.iload X23.here hx rfl (hb hby d11_53) rfl ?_
    show Steps p.tables e below (T23.setTop (mkF m 55 #[Rf a1, Rf a2, Rf a3, Rf a4, It p5, Rf a6, Rf a7, Rf a8, Rf a9, Rf a10, Rf a11, .unset, .unset] [(.int p5), (.ref a1)])) _
    refine st26 _ ?_
    show Steps p.tables e below (T26.setTop (mkF m 58 #[Rf a1, Rf a2, Rf a3, Rf a4, It p5, Rf a6, Rf a7, Rf a8, Rf a9, Rf a10, Rf a11, .unset, .unset] [])) _
    refine XS.aloadN X26.here hx rfl (hb hby d11_58) rfl rfl ?_
    show Steps p.tables e below (T26.setTop (mkF m 59 #[Rf a1, Rf a2, Rf a3, Rf a4, It p5, Rf a6, Rf a7, Rf a8, Rf a9, Rf a10, Rf a11, .unset, .unset] [(.ref a1)])) _
    refine XS.aload X26.here hx rfl (hb hby d11_59) rfl rfl ?_
    show Steps p.tables e below (T26.setTop (mkF m 61 #[Rf a1, Rf a2, Rf a3, Rf a4, It p5, Rf a6, Rf a7, Rf a8, Rf a9, Rf a10, Rf a11, .unset, .unset] [(.ref a6), (.ref a1)])) _
    refine st29 _ ?_
    show Steps p.tables e below (T29.setTop (mkF m 63 #[Rf a1, Rf a2, Rf a3, Rf a4, It p5, Rf a6, Rf a7, Rf a8, Rf a9, Rf a10, Rf a11, .unset, .unset] [(.ref sa29), (.ref a6), (.ref a1)])) _
    refine st32 _ ?_
    show Steps p.tables e below (T32.setTop (mkF m 66 #[Rf a1, Rf a2, Rf a3, Rf a4, It p5, Rf a6, Rf a7, Rf a8, Rf a9, Rf a10, Rf a11, .unset, .unset] [(.ref a6), (.ref a1)])) _
    refine st33 _ ?_
    show Steps p.tables e below (T33.setTop (mkF m 69 #[Rf a1, Rf a2, Rf a3, Rf a4, It p5, Rf a6, Rf a7, Rf a8, Rf a9, Rf a10, Rf a11, .unset, .unset] [(.ref a6), (.ref a1)])) _
    refine st34 _ ?_
    show Steps p.tables e below (T34.setTop (mkF m 72 #[Rf a1, Rf a2, Rf a3, Rf a4, It p5, Rf a6, Rf a7, Rf a8, Rf a9, Rf a10, Rf a11, .unset, .unset] [])) _
    refine XS.aloadN X34.here hx rfl (hb hby d11_72) rfl rfl ?_
    show Steps p.tables e below (T34.setTop (mkF m 73 #[Rf a1, Rf a2, Rf a3, Rf a4, It p5, Rf a6, Rf a7, Rf a8, Rf a9, Rf a10, Rf a11, .unset, .unset] [(.ref a1)])) _
    refine XS.aload X34.here hx rfl (hb hby d11_73) rfl rfl ?_
    show Steps p.tables e below (T34.setTop (mkF m 75 #[Rf a1, Rf a2, Rf a3, Rf a4, It p5, Rf a6, Rf a7, Rf a8, Rf a9, Rf a10, Rf a11, .unset, .unset] [(.ref a7), (.ref a1)])) _
    refine st37 _ ?_
    show Steps p.tables e below (T37.setTop (mkF m 77 #[Rf a1, Rf a2, Rf a3, Rf a4, It p5, Rf a6, Rf a7, Rf a8, Rf a9, Rf a10, Rf a11, .unset, .unset] [(.ref sa37), (.ref a7), (.ref a1)])) _
    refine st40 _ ?_
    show Steps p.tables e below (T40.setTop (mkF m 80 #[Rf a1, Rf a2, Rf a3, Rf a4, It p5, Rf a6, Rf a7, Rf a8, Rf a9, Rf a10, Rf a11, .unset, .unset] [(.ref a7), (.ref a1)])) _
    refine st41 _ ?_
    show Steps p.tables e below (T41.setTop (mkF m 83 #[Rf a1, Rf a2, Rf a3, Rf a4, It p5, Rf a6, Rf a7, Rf a8, Rf a9, Rf a10, Rf a11, .unset, .unset] [(.ref a7), (.ref a1)])) _
    refine st42 _ ?_
    show Steps p.tables e below (T42.setTop (mkF m 86 #[Rf a1, Rf a2, Rf a3, Rf a4, It p5, Rf a6, Rf a7, Rf a8, Rf a9, Rf a10, Rf a11, .unset, .unset] [])) _
    refine XS.aloadN X42.here hx rfl (hb hby d11_86) rfl rfl ?_
    show Steps p.tables e below (T42.setTop (mkF m 87 #[Rf a1, Rf a2, Rf a3, Rf a4, It p5, Rf a6, Rf a7, Rf a8, Rf a9, Rf a10, Rf a11, .unset, .unset] [(.ref a1)])) _
    refine XS.aload X42.here hx rfl (hb hby d11_87) rfl rfl ?_
    show Steps p.tables e below (T42.setTop (mkF m 89 #[Rf a1, Rf a2, Rf a3, Rf a4, It p5, Rf a6, Rf a7, Rf a8, Rf a9, Rf a10, Rf a11, .unset, .unset] [(.ref a8), (.ref a1)])) _
    refine st45 _ ?_
    show Steps p.tables e below (T45.setTop (mkF m 91 #[Rf a1, Rf a2, Rf a3, Rf a4, It p5, Rf a6, Rf a7, Rf a8, Rf a9, Rf a10, Rf a11, .unset, .unset] [(.ref sa45), (.ref a8), (.ref a1)])) _
    refine st48 _ ?_
    show Steps p.tables e below (T48.setTop (mkF m 94 #[Rf a1, Rf a2, Rf a3, Rf a4, It p5, Rf a6, Rf a7, Rf a8, Rf a9, Rf a10, Rf a11, .unset, .unset] [(.ref a8), (.ref a1)])) _
    refine st49 _ ?_
    show Steps p.tables e below (T49.setTop (mkF m 97 #[Rf a1, Rf a2, Rf a3, Rf a4, It p5, Rf a6, Rf a7, Rf a8, Rf a9, Rf a10, Rf a11, .unset, .unset] [(.ref a8), (.ref a1)])) _
    refine st50 _ ?_
    show Steps p.tables e below (T50.setTop (mkF m 100 #[Rf a1, Rf a2, Rf a3, Rf a4, It p5, Rf a6, Rf a7, Rf a8, Rf a9, Rf a10, Rf a11, .unset, .unset] [])) _
    refine XS.aload X50.here hx rfl (hb hby d11_100) rfl rfl ?_
    show Steps p.tables e below (T50.setTop (mkF m 102 #[Rf a1, Rf a2, Rf a3, Rf a4, It p5, Rf a6, Rf a7, Rf a8, Rf a9, Rf a10, Rf a11, .unset, .unset] [(.ref a9)])) _
    refine st53.trans ?_
    show Steps p.tables e below (T53.setTop (mkF m 107 #[Rf a1, Rf a2, Rf a3, Rf a4, It p5, Rf a6, Rf a7, Rf a8, Rf a9, Rf a10, Rf a11, .unset, .unset] [(.ref r_53)])) _
    refine XS.astore X53.here hx rfl (hb hby d11_107) rfl rfl (l' := #[Rf a1, Rf a2, Rf a3, Rf a4, It p5, Rf a6, Rf a7, Rf a8, Rf a9, Rf a10, Rf a11, Rf r_53, .unset]) rfl ?_
    show Steps p.tables e below (T53.setTop (mkF m 109 #[Rf a1, Rf a2, Rf a3, Rf a4, It p5, Rf a6, Rf a7, Rf a8, Rf a9, Rf a10, Rf a11, Rf r_53, .unset] [])) _
    refine XS.aload X53.here hx rfl (hb hby d11_109) rfl rfl ?_
    show Steps p.tables e below (T53.setTop (mkF m 111 #[Rf a1, Rf a2, Rf a3, Rf a4, It p5, Rf a6, Rf a7, Rf a8, Rf a9, Rf a10, Rf a11, Rf r_53, .unset] [(.ref r_53)])) _
    refine st55.trans ?_
    show Steps p.tables e below (T55.setTop (mkF m 116 #[Rf a1, Rf a2, Rf a3, Rf a4, It p5, Rf a6, Rf a7, Rf a8, Rf a9, Rf a10, Rf a11, Rf r_53, .unset] [(.int (0 : Int32))])) _
    refine XS.ifYes X55.here hx rfl (pc0 := 116) (pc' := 164) rfl (hb hby d11_116) rfl ((if0 _ _).trans (teq (by decide : (0 : Int32) = (0 : Int32))).1) (by decide) (by decide) ?_
    show Steps p.tables e below (T55.setTop (mkF m 164 #[Rf a1, Rf a2, Rf a3, Rf a4, It p5, Rf a6, Rf a7, Rf a8, Rf a9, Rf a10, Rf a11, Rf r_53, .unset] [])) _
    refine XS.aloadN X55.here hx rfl (hb hby d11_164) rfl rfl ?_
    show Steps p.tables e below (T55.setTop (mkF m 165 #[Rf a1, Rf a2, Rf a3, Rf a4, It p5, Rf a6, Rf a7, Rf a8, Rf a9, Rf a10, Rf a11, Rf r_53, .unset] [(.ref a1)])) _
    refine XS.aload X55.here hx rfl (hb hby d11_165) rfl rfl ?_
    show Steps p.tables e below (T55.setTop (mkF m 167 #[Rf a1, Rf a2, Rf a3, Rf a4, It p5, Rf a6, Rf a7, Rf a8, Rf a9, Rf a10, Rf a11, Rf r_53, .unset] [(.ref a10), (.ref a1)])) _
    refine st56 _ ?_
    show Steps p.tables e below (T56.setTop (mkF m 170 #[Rf a1, Rf a2, Rf a3, Rf a4, It p5, Rf a6, Rf a7, Rf a8, Rf a9, Rf a10, Rf a11, Rf r_53, .unset] [(.ref a10), (.ref a1)])) _
    refine st57 _ ?_
    show Steps p.tables e below (T57.setTop (mkF m 173 #[Rf a1, Rf a2, Rf a3, Rf a4, It p5, Rf a6, Rf a7, Rf a8, Rf a9, Rf a10, Rf a11, Rf r_53, .unset] [])) _
    refine XS.aloadN X57.here hx rfl (hb hby d11_173) rfl rfl ?_
    show Steps p.tables e below (T57.setTop (mkF m 174 #[Rf a1, Rf a2, Rf a3, Rf a4, It p5, Rf a6, Rf a7, Rf a8, Rf a9, Rf a10, Rf a11, Rf r_53, .unset] [(.ref a1)])) _
    refine XS.aload X57.here hx rfl (hb hby d11_174) rfl rfl ?_
    show Steps p.tables e below (T57.setTop (mkF m 176 #[Rf a1, Rf a2, Rf a3, Rf a4, It p5, Rf a6, Rf a7, Rf a8, Rf a9, Rf a10, Rf a11, Rf r_53, .unset] [(.ref a11), (.ref a1)])) _
    refine XS.aconstNull X57.here hx rfl (hb hby d11_176) ?_
    show Steps p.tables e below (T57.setTop (mkF m 177 #[Rf a1, Rf a2, Rf a3, Rf a4, It p5, Rf a6, Rf a7, Rf a8, Rf a9, Rf a10, Rf a11, Rf r_53, .unset] [.null, (.ref a11), (.ref a1)])) _
    refine st60.trans ?_
    show Steps p.tables e below (T60.setTop (mkF m 180 #[Rf a1, Rf a2, Rf a3, Rf a4, It p5, Rf a6, Rf a7, Rf a8, Rf a9, Rf a10, Rf a11, Rf r_53, .unset] [.null, (.ref a1)])) _
    refine X60.checkcastNull hx (g := (mkF m 180 #[Rf a1, Rf a2, Rf a3, Rf a4, It p5, Rf a6, Rf a7, Rf a8, Rf a9, Rf a10, Rf a11, Rf r_53, .unset] [.null, (.ref a1)])) rfl rfl (hb hby d11_180) _ ?_
    show Steps p.tables e below (T60.setTop (mkF m 183 #[Rf a1, Rf a2, Rf a3, Rf a4, It p5, Rf a6, Rf a7, Rf a8, Rf a9, Rf a10, Rf a11, Rf r_53, .unset] [.null, (.ref a1)])) _
    refine st61 _ ?_
    exact kt
  obtain ⟨fs, hr, hrun, hended, hRW⟩ := X61.leaveW Y45 (show _ ≤ T61.heap.size by rw [e61]; exact (Nat.le_trans (Nat.le_trans (Nat.le_trans (Nat.le_trans Yk45 (Keep.of_wr W50).1) K53q.1) (Keep.of_wr W57).1) (Keep.of_wr W61).1)) (v := none) (fun _ => rfl)
  refine ⟨_, _, pre0 _ (sg64 _ (?_)), hrun, hended, _, _, rfl, ?_, (by rw [hh]; show CHr Z own_EL s.vm h0 T61.vm T61.heap; rw [e61]; exact CR63.trans (CHv.at X61 hZ45 hEL CR63.1)), hRW.1, hRW.2.1, hRW.2.2.1, hRW.2.2.2.mono (by decide) (by decide)⟩
  · show Steps p.tables e below (T61.setTop (mkF m 186 #[Rf a1, Rf a2, Rf a3, Rf a4, It p5, Rf a6, Rf a7, Rf a8, Rf a9, Rf a10, Rf a11, Rf r_53, .unset] [])) _
    exact X61.returnOut hx Bd.returns (hb hby d11_186) hr
  · show Q11_00 Z a1 a2 a3 a4 p5 a6 a7 a8 a9 a10 a11 h0 n0 _ T61.heap _
    rw [e61]
    exact ⟨rfl, N61, K61, O62, (((((((((((Fw19.other W23 (sn (.object "com/example/legacy_to_latest/legacytolatest/EntityClass$Morphia") (.object "java/lang/String") (Or.inr (tw hw 118 rfl)) (Or.inr (tw hw 120 rfl)))).other W26 (sn (.object "com/example/legacy_to_latest/legacytolatest/EntityClass$Morphia") .boolean (Or.inr (tw hw 118 rfl)) (Or.inr (tw hw 122 rfl)))).ext E29).other W34 (sn (.object "com/example/legacy_to_latest/legacytolatest/EntityClass$Morphia") (.object "java/lang/String") (Or.inr (tw hw 118 rfl)) (Or.inr (tw hw 125 rfl)))).ext E37).other W42 (sn (.object "com/example/legacy_to_latest/legacytolatest/EntityClass$Morphia") (.object "java/lang/String") (Or.inr (tw hw 118 rfl)) (Or.inr (tw hw 128 rfl)))).ext E45).other W50 (sn (.object "com/example/legacy_to_latest/legacytolatest/EntityClass$Morphia") (.object "java/lang/String") (Or.inr (tw hw 118 rfl)) (Or.inr (tw hw 131 rfl)))).keep K53q nin0).other W57 (sn (.object "com/example/legacy_to_latest/legacytolatest/EntityClass$Morphia") (.object "java/util/Map") (Or.inr (tw hw 118 rfl)) (Or.inr (tw hw 176 rfl)))).other W61 (sn (.object "com/example/legacy_to_latest/legacytolatest/EntityClass$Morphia") (.object "java/lang/String") (Or.inr (tw hw 118 rfl)) (Or.inr (tw hw 178 rfl)))), ((((((((((Fw23.other W26 (sn (.object "java/lang/String") .boolean (Or.inr (tw hw 120 rfl)) (Or.inr (tw hw 122 rfl)))).ext E29).other W34 (sn (.object "java/lang/String") (.object "java/lang/String") (Or.inr (tw hw 120 rfl)) (Or.inr (tw hw 125 rfl)))).ext E37).other W42 (sn (.object "java/lang/String") (.object "java/lang/String") (Or.inr (tw hw 120 rfl)) (Or.inr (tw hw 128 rfl)))).ext E45).other W50 (sn (.object "java/lang/String") (.object "java/lang/String") (Or.inr (tw hw 120 rfl)) (Or.inr (tw hw 131 rfl)))).keep K53q nin0).other W57 (sn (.object "java/lang/String") (.object "java/util/Map") (Or.inr (tw hw 120 rfl)) (Or.inr (tw hw 176 rfl)))).other W61 (sn (.object "java/lang/String") (.object "java/lang/String") (Or.inr (tw hw 120 rfl)) (Or.inr (tw hw 178 rfl))))⟩
def Q11_01 (Z : State) (a1 : Addr) (a2 : Addr) (a3 : Addr) (a4 : Addr) (p5 : Int32) (a6 : Addr) (a7 : Addr) (a8 : Addr) (a9 : Addr) (a10 : Addr) (a11 : Addr) (dv : Addr) (h0 : Heap) (n0 : Nat) (v : Option Value) (h : Heap) (L : List Loc) : Prop := v = none ∧ Fr n0 L ∧ Keep h0 h [a1] ∧ Old Z n0 h ∧ Fld Z h a1 "com/example/legacy_to_latest/legacytolatest/EntityClass" "morphia" "Lcom/example/legacy_to_latest/legacytolatest/EntityClass$Morphia;" .null ∧ Fld Z h a1 "com/example/legacy_to_latest/legacytolatest/EntityClass" "discriminator" "Ljava/lang/String;" (.ref dv)
theorem ef_11_01 (m : MethodId) (x0 : Addr) (x1 : Addr) (x2 : Addr) (x3 : Addr) (x4 : Int32) (x5 : Addr) (x6 : Addr) (x7 : Addr) (x8 : Addr) (x9 : Addr) (x10 : Addr) : entryFrame m #[(.ref x0), (.ref x1), (.ref x2), (.ref x3), (.int x4), (.ref x5), (.ref x6), (.ref x7), (.ref x8), (.ref x9), (.ref x10)] 13 = mkF m 0 #[.val (.ref x0), .val (.ref x1), .val (.ref x2), .val (.ref x3), .val (.int x4), .val (.ref x5), .val (.ref x6), .val (.ref x7), .val (.ref x8), .val (.ref x9), .val (.ref x10), .unset, .unset] [] := by first | (simp [entryFrame, mkF, argsToLocals, Value.category]; done) | rfl
set_option maxRecDepth 65536 in
set_option maxHeartbeats 40000000 in
theorem rm11_01 (l : Launch) (Z : State) (a0 : Array Value) (hw : ∀ d ∈ tables_1, d.before a0 Z = true) (ws : List Jvm.Cond) (a1 : Addr) (a2 : Addr) (a3 : Addr) (a4 : Addr) (p5 : Int32) (a6 : Addr) (a7 : Addr) (a8 : Addr) (a9 : Addr) (a10 : Addr) (a11 : Addr) (dv : Addr) (h0 : Heap) (n0 : Nat) (O0 : Old Z n0 h0) (E_a1 : Exa Z h0 a1 "com/example/legacy_to_latest/legacytolatest/EntityClass") (F_fields_a1 : Fld Z h0 a1 "com/example/legacy_to_latest/legacytolatest/EntityClass" "fields" "Ljava/util/Map;" .null) (F_kind_a1 : Fld Z h0 a1 "com/example/legacy_to_latest/legacytolatest/EntityClass" "kind" "Ljava/lang/String;" .null) (F_morphia_a1 : Fld Z h0 a1 "com/example/legacy_to_latest/legacytolatest/EntityClass" "morphia" "Lcom/example/legacy_to_latest/legacytolatest/EntityClass$Morphia;" .null) (F_discriminator_a1 : Fld Z h0 a1 "com/example/legacy_to_latest/legacytolatest/EntityClass" "discriminator" "Ljava/lang/String;" .null) (F_abstractClass_a1 : Fld Z h0 a1 "com/example/legacy_to_latest/legacytolatest/EntityClass" "abstractClass" "Z" (.int (0 : Int32))) (F_className_a1 : Fld Z h0 a1 "com/example/legacy_to_latest/legacytolatest/EntityClass" "className" "Ljava/lang/String;" .null) (F_binaryName_a1 : Fld Z h0 a1 "com/example/legacy_to_latest/legacytolatest/EntityClass" "binaryName" "Ljava/lang/String;" .null) (F_source_a1 : Fld Z h0 a1 "com/example/legacy_to_latest/legacytolatest/EntityClass" "source" "Ljava/lang/String;" .null) (F_keyParts_a1 : Fld Z h0 a1 "com/example/legacy_to_latest/legacytolatest/EntityClass" "keyParts" "Ljava/util/Map;" .null) (F_unreadSuperclass_a1 : Fld Z h0 a1 "com/example/legacy_to_latest/legacytolatest/EntityClass" "unreadSuperclass" "Ljava/lang/String;" .null) (ge_a1 : n0 ≤ a1) (E_a2 : Exa Z h0 a2 "java/lang/String") (E_a6 : Exa Z h0 a6 "java/lang/String") (E_a7 : Exa Z h0 a7 "java/lang/String") (E_a8 : Exa Z h0 a8 "java/lang/String") (E_a3 : Exa Z h0 a3 "java/util/Optional") (F_value_a3 : Fld Z h0 a3 "java/util/Optional" "value" "Ljava/lang/Object;" .null) (E_a4 : Exa Z h0 a4 "java/util/Optional") (F_value_a4 : Fld Z h0 a4 "java/util/Optional" "value" "Ljava/lang/Object;" (.ref dv)) (E_a11 : Exa Z h0 a11 "java/util/Optional") (F_value_a11 : Fld Z h0 a11 "java/util/Optional" "value" "Ljava/lang/Object;" .null) (E_a9 : Exa Z h0 a9 "java/util/ArrayList") (F_modCount_a9 : Fld Z h0 a9 "java/util/AbstractList" "modCount" "I" (.int (0 : Int32))) (F_size_a9 : Fld Z h0 a9 "java/util/ArrayList" "size" "I" (.int (0 : Int32))) (E_a10 : Exa Z h0 a10 "java/util/ImmutableCollections$MapN") (E_dv : Exa Z h0 dv "java/lang/String") :
    MetFree l (⟨"com/example/legacy_to_latest/legacytolatest/EntityClass", "<init>", "(Ljava/lang/String;Ljava/util/Optional;Ljava/util/Optional;ZLjava/lang/String;Ljava/lang/String;Ljava/lang/String;Ljava/util/List;Ljava/util/Map;Ljava/util/Optional;)V"⟩ : MethodName) (head1 (Jvm.Cond.code (⟨"com/example/legacy_to_latest/legacytolatest/EntityClass", "<init>", "(Ljava/lang/String;Ljava/util/Optional;Ljava/util/Optional;ZLjava/lang/String;Ljava/lang/String;Ljava/lang/String;Ljava/util/List;Ljava/util/Map;Ljava/util/Optional;)V"⟩ : MethodName) prog_6_method_1_code 13 none :: ws) ({ frames := 4, cells := 10, slots := 148, locals := 50 } : Room)) (fun a U => a = #[(.ref a1), (.ref a2), (.ref a3), (.ref a4), (.int p5), (.ref a6), (.ref a7), (.ref a8), (.ref a9), (.ref a10), (.ref a11)] ∧ Z.Warmed39 U.vm ∧ U.heap = h0 ∧ CHv Z own_EL U.vm h0) (fun _ _ _ _ _ => True) (fun _ U o U' => ∃ v L, o = .returned v ∧ Q11_01 Z a1 a2 a3 a4 p5 a6 a7 a8 a9 a10 a11 dv h0 n0 v U'.heap L ∧ CHr Z own_EL U.vm U.heap U'.vm U'.heap ∧ ReturnedEndW U o U' L ({ frames := 4, cells := 10, slots := 148, locals := 50 } : Room).cells ({ frames := 4, cells := 10, slots := 148, locals := 50 } : Room).slots) := by
  refine MetFree.of_bodySF (plainFor_of_name pn_12) hisR ?_
  intro p e s m args below meth c s₁ Bd hml0 hP hK
  obtain ⟨rfl, hZ, hh, hCH⟩ := hP
  have hx := Bd.exec
  have hby := Bd.bytes
  have hml : c.maxLocals = 13 := hml0
  have hown : s.vm.findClass "com/example/legacy_to_latest/legacytolatest/EntityClass" = some m.cls := findClass_of_methodNamed Bd.named
  have hnm := (name_of_methodNamed Bd.named Bd.method).1
  have X0 : Stand p l e ({ frames := 4, cells := 10, slots := 148, locals := 50 } : Room) (s.setVm s.vm) m #[(.ref a1), (.ref a2), (.ref a3), (.ref a4), (.int p5), (.ref a6), (.ref a7), (.ref a8), (.ref a9), (.ref a10), (.ref a11)] below meth c s₁ [] 0 0 := Stand.of_body Bd
  have e0 : s₁.heap = h0 := by rw [← hh, Bd.state]; rfl
  have N0 := Fr.nil n0
  have pre0 : ∀ t, Steps p.tables e below (s₁.setTop (mkF m 0 #[.val (.ref a1), .val (.ref a2), .val (.ref a3), .val (.ref a4), .val (.int p5), .val (.ref a6), .val (.ref a7), .val (.ref a8), .val (.ref a9), .val (.ref a10), .val (.ref a11), .unset, .unset] [])) t → Steps p.tables e below (s₁.setTop (entryFrame m #[(.ref a1), (.ref a2), (.ref a3), (.ref a4), (.int p5), (.ref a6), (.ref a7), (.ref a8), (.ref a9), (.ref a10), (.ref a11)] 13)) t := fun t k => castTop (ef_11_01 m a1 a2 a3 a4 p5 a6 a7 a8 a9 a10 a11) k
  have Y0 : s.Since s.vm h0.size := (State.WarmedH.refl s).since h0.size
  have Yk0 : h0.size ≤ h0.size := Nat.le_refl _
  have CR0 : CHr Z own_EL s.vm h0 s.vm h0 := CHr.refl hCH
  have hEL := own_EW hw
  have hSA := own_SA hw
  have K0 := Keep.refl h0 [a1]
  obtain ⟨T1, X1, e1, st1⟩ := initO X0 hx hZ hown (tw hw 73 rfl) (tw hw 21 rfl) (tw hw 22 rfl) e0 (g := (mkF m 1 #[Rf a1, Rf a2, Rf a3, Rf a4, It p5, Rf a6, Rf a7, Rf a8, Rf a9, Rf a10, Rf a11, .unset, .unset] [(.ref a1)])) rfl (by rw [hml]; rfl) rfl (hb hby d11_1) (by decide) (W := 0) (by show 2 * 0 + _ ≤ _; exact Nat.le_of_eq rfl) (by decide)
  obtain ⟨T2, h2, X2, e2, E2, A2, D2, -, st2⟩ := newO X1 hx hZ hown (tw hw 74 rfl) (tw hw 75 rfl) (tw hw 76 rfl) e1 (g := (mkF m 5 #[Rf a1, Rf a2, Rf a3, Rf a4, It p5, Rf a6, Rf a7, Rf a8, Rf a9, Rf a10, Rf a11, .unset, .unset] [(.ref a1)])) rfl (hb hby d11_5) (by decide) (by decide)
  obtain ⟨b2, g2⟩ : ∃ z, z = h0.size := ⟨_, rfl⟩
  rw [← g2] at A2 D2 st2
  have ge_b2 : n0 ≤ b2 := Nat.le_trans (own_osz O0) (Nat.le_of_eq g2.symm)
  have sz_b2 : h0.size ≤ b2 := Nat.le_trans K0.1 (Nat.le_of_eq g2.symm)
  have O3 := O0.ext E2
  have K2 := K0.ext E2
  have CR4 := CR0.trans (CHr.ext E2 CR0.1)
  have F_loadFactor_b2 : Fld Z h2 b2 "java/util/HashMap" "loadFactor" "F" (.float (0 : UInt32)) := D2 (Or.inr (tw hw 95 rfl)) (ty := .float) (by decide)
  have F_putMode_b2 : Fld Z h2 b2 "java/util/LinkedHashMap" "putMode" "I" (.int (0 : Int32)) := D2 (Or.inl (tw hw 97 rfl)) (ty := .int) (by decide)
  have F_accessOrder_b2 : Fld Z h2 b2 "java/util/LinkedHashMap" "accessOrder" "Z" (.int (0 : Int32)) := D2 (Or.inr (tw hw 99 rfl)) (ty := .boolean) (by decide)
  obtain ⟨_, _, ⟨T5, L5, k5, n5⟩, -, X5, ⟨Lc5, hQ5, l5, y5, z5⟩, st5⟩ := X2.specialBack hx (y := (⟨"java/util/LinkedHashMap", "<init>", "()V"⟩ : MethodName)) rfl hown (mvT hZ (tw hw 77 rfl)) (mvT hZ (tw hw 78 rfl)) (mvT hZ (tw hw 79 rfl)) (by decide) (backOf (W := 2) (rm12 l Z a0 hw [] b2 h2 n0 O3 A2 F_loadFactor_b2 F_putMode_b2 F_accessOrder_b2 ge_b2) hZ (tw hw 79 rfl) (tw hw 76 rfl) (by decide) (by decide)) (g := (mkF m 9 #[Rf a1, Rf a2, Rf a3, Rf a4, It p5, Rf a6, Rf a7, Rf a8, Rf a9, Rf a10, Rf a11, .unset, .unset] [(.ref b2), (.ref b2), (.ref a1)])) rfl (by rw [hml]; rfl) (Steps.refl _) (a := b2) (argsL := []) (rest := [(.ref b2), (.ref a1)]) (lenOf pd_5 rfl) rfl (by show 2 * 0 + _ ≤ _; exact Nat.le_of_eq rfl) (hb hby d11_9) (fun _ _ => ⟨rfl, e2, (by decide : 1 + 0 ≤ _), (by decide : 12 + 0 ≤ _)⟩)
  dsimp only [Pt.U, Pt.locs, Pt.cells, Pt.slots] at X5 l5 y5 z5 st5 hQ5
  subst l5 y5 z5
  obtain ⟨rfl, N5q, K5q, O5⟩ := hQ5
  have N5 := Fr.app N0 N5q
  have CR6 := CR4.trans (CHr.keep K5q (allS (Safe.exa hZ.alike A2 (by decide) (by decide)) all0) CR4.1)
  have K5 := K2.trans K5q (allS (Or.inr sz_b2) all0)
  obtain ⟨T7, h7, X7, e7, W7, st7⟩ := putF X5 hx hZ hown (host := "") (Or.inl (tw hw 100 rfl)) Via.refl rfl ((F_fields_a1.ext E2).keep K5q (ninS (Nat.ne_of_lt (Nat.lt_of_lt_of_le E_a1.lt (Nat.le_of_eq g2.symm))) nin0)) ((E_a1.ext E2).keep K5q) (Or.inr ⟨(tw hw 101 rfl), rfl, hnm⟩) (tw hw 39 rfl) (ty := (.object "java/util/Map")) (by decide) rfl rfl (g := (mkF m 12 #[Rf a1, Rf a2, Rf a3, Rf a4, It p5, Rf a6, Rf a7, Rf a8, Rf a9, Rf a10, Rf a11, .unset, .unset] [(.ref b2), (.ref a1)])) rfl rfl (hb hby d11_12)
  have Fw7 := ((F_fields_a1.ext E2).keep K5q (ninS (Nat.ne_of_lt (Nat.lt_of_lt_of_le E_a1.lt (Nat.le_of_eq g2.symm))) nin0)).same W7
  have N7 := Fr.snoc X7 N5 ge_a1
  have O8 := O5.wr W7 ge_a1
  have K7 := K5.wr W7 (Or.inl (List.mem_of_getElem? (i := 0) rfl))
  have CR9 := CR6.trans (CHr.wr W7 (Safe.exa hZ.alike ((E_a1.ext E2).keep K5q) (by decide) (by decide)) CR6.1)
  obtain ⟨sa10, T10, h10, k10, X10, e10, E10, Y10, Yk10, hZ10, hown10, C10, Lt10, st10⟩ := ldcOH X7 hx hZ hown (tw hw 102 rfl) hSA e7 Y0 (Nat.le_trans (Nat.le_trans (Nat.le_trans Yk0 E2.1) K5q.1) (Keep.of_wr W7).1) hEL CR9.1 (g := (mkF m 17 #[Rf a1, Rf a2, Rf a3, Rf a4, It p5, Rf a6, Rf a7, Rf a8, Rf a9, Rf a10, Rf a11, .unset, .unset] [(.ref a2), (.ref a1)])) rfl (hb hby d11_17) (n := 16) (by decide) (by decide) (by decide) (by decide)
  have O11 := O8.ext E10
  have K10 := K7.ext E10
  have CR12 := CR9.trans (C10)
  obtain ⟨_, _, ⟨T13, L13, k13, n13⟩, -, X13, ⟨Lc13, hQ13, l13, y13, z13⟩, st13⟩ := Jvm.LawKit.callS X10 hx (y := (⟨"java/util/Objects", "requireNonNull", "(Ljava/lang/Object;Ljava/lang/String;)Ljava/lang/Object;"⟩ : MethodName)) hown10 (mvT hZ10 (tw hw 103 rfl)) (mvT hZ10 (tw hw 104 rfl)) (mvT hZ10 (tw hw 105 rfl)) (mvT hZ10 (tw hw 106 rfl)) (by decide) (backOf (W := 1) (rm15 l Z a0 hw [] a2 sa10 h10 n0 O11 ) hZ10 (tw hw 106 rfl) (tw hw 105 rfl) (by decide) (by decide)) (g := (mkF m 19 #[Rf a1, Rf a2, Rf a3, Rf a4, It p5, Rf a6, Rf a7, Rf a8, Rf a9, Rf a10, Rf a11, .unset, .unset] [(.ref sa10), (.ref a2), (.ref a1)])) rfl (by rw [hml]; rfl) (argsL := [(.ref a2), (.ref sa10)]) (rest := [(.ref a1)]) (lenOf pd_7 rfl) rfl (by show 2 * 0 + _ ≤ _; exact Nat.le_of_eq rfl) (hb hby d11_19) (fun _ _ => ⟨rfl, e10, (by decide : 3 + 0 ≤ _), (by decide : 32 + 0 ≤ _)⟩)
  dsimp only [Pt.U, Pt.locs, Pt.cells, Pt.slots] at X13 l13 y13 z13 st13 hQ13
  subst l13 y13 z13
  obtain ⟨rfl, N13q, e13⟩ := hQ13
  have N13 := Fr.app N7 N13q
  obtain ⟨T14, X14, e14, st14⟩ := castY X13 hx hZ10 hown10 (tw hw 107 rfl) e13 (Ins.self ((((E_a2.ext E2).keep K5q).wr W7).ext E10)) (g := (mkF m 22 #[Rf a1, Rf a2, Rf a3, Rf a4, It p5, Rf a6, Rf a7, Rf a8, Rf a9, Rf a10, Rf a11, .unset, .unset] [(.ref a2), (.ref a1)])) rfl rfl (hb hby d11_22)
  obtain ⟨T15, h15, X15, e15, W15, st15⟩ := putF X14 hx hZ10 hown10 (host := "") (Or.inl (tw hw 108 rfl)) Via.refl e14 ((((F_kind_a1.ext E2).keep K5q (ninS (Nat.ne_of_lt (Nat.lt_of_lt_of_le E_a1.lt (Nat.le_of_eq g2.symm))) nin0)).other W7 (sn (.object "java/lang/String") (.object "java/util/Map") (Or.inr (tw hw 109 rfl)) (Or.inr (tw hw 101 rfl)))).ext E10) ((((E_a1.ext E2).keep K5q).wr W7).ext E10) (Or.inr ⟨(tw hw 109 rfl), rfl, hnm⟩) (tw hw 39 rfl) (ty := (.object "java/lang/String")) (by decide) rfl rfl (g := (mkF m 25 #[Rf a1, Rf a2, Rf a3, Rf a4, It p5, Rf a6, Rf a7, Rf a8, Rf a9, Rf a10, Rf a11, .unset, .unset] [(.ref a2), (.ref a1)])) rfl rfl (hb hby d11_25)
  have Fw15 := ((((F_kind_a1.ext E2).keep K5q (ninS (Nat.ne_of_lt (Nat.lt_of_lt_of_le E_a1.lt (Nat.le_of_eq g2.symm))) nin0)).other W7 (sn (.object "java/lang/String") (.object "java/util/Map") (Or.inr (tw hw 109 rfl)) (Or.inr (tw hw 101 rfl)))).ext E10).same W15
  have N15 := Fr.snoc X15 N13 ge_a1
  have O16 := O11.wr W15 ge_a1
  have K15 := K10.wr W15 (Or.inl (List.mem_of_getElem? (i := 0) rfl))
  have CR17 := CR12.trans (CHr.wr W15 (Safe.exa hZ10.alike ((((E_a1.ext E2).keep K5q).wr W7).ext E10) (by decide) (by decide)) CR12.1)
  obtain ⟨cq18, kq18, q18a, q18b, q18c⟩ := isOf hZ10 e15 (((((E_a3.ext E2).keep K5q).wr W7).ext E10).wr W15)
  obtain ⟨_, _, ⟨T18, L18, k18, n18⟩, -, X18, ⟨Lc18, hQ18, l18, y18, z18⟩, st18⟩ := X15.virtualBack hx (y := (⟨"java/util/Optional", "orElse", "(Ljava/lang/Object;)Ljava/lang/Object;"⟩ : MethodName)) (z := (⟨"java/util/Optional", "orElse", "(Ljava/lang/Object;)Ljava/lang/Object;"⟩ : MethodName)) hown10 (mvT hZ10 (tw hw 110 rfl)) (mvT hZ10 (tw hw 111 rfl)) (notFace_of_selects (args := #[]) (mvT hZ10 (tw hw 113 rfl))) (mvT hZ10 (tw hw 113 rfl)) (mvT hZ10 (tw hw 112 rfl)) (by decide) (backOf (W := 1) (rm16_0 l Z a0 hw [] a3 h15 n0 O16 (((((F_value_a3.ext E2).keep K5q (ninS (Nat.ne_of_lt (Nat.lt_of_lt_of_le E_a3.lt (Nat.le_of_eq g2.symm))) nin0)).other W7 (Or.inl (Exa.ne E_a3 E_a1 (by decide)))).ext E10).other W15 (Or.inl (Exa.ne E_a3 E_a1 (by decide))))) hZ10 (tw hw 114 rfl) (tw hw 29 rfl) (by decide) (by decide)) q18a q18c (g := (mkF m 31 #[Rf a1, Rf a2, Rf a3, Rf a4, It p5, Rf a6, Rf a7, Rf a8, Rf a9, Rf a10, Rf a11, .unset, .unset] [.null, (.ref a3), (.ref a1)])) rfl (by rw [hml]; rfl) (Steps.refl _) (argsL := [.null]) (rest := [(.ref a1)]) (lenOf pd_3 rfl) rfl (by show 2 * 0 + _ ≤ _; exact Nat.le_of_eq rfl) (hb hby d11_31) (fun _ _ => ⟨rfl, e15, (by decide : 3 + 0 ≤ _), (by decide : 32 + 0 ≤ _)⟩)
  dsimp only [Pt.U, Pt.locs, Pt.cells, Pt.slots] at X18 l18 y18 z18 st18 hQ18
  subst l18 y18 z18
  obtain ⟨rfl, N18q, e18⟩ := hQ18
  have N18 := Fr.app N15 N18q
  obtain ⟨T19, h19, X19, e19, W19, st19⟩ := putF X18 hx hZ10 hown10 (host := "") (Or.inl (tw hw 117 rfl)) Via.refl e18 (((((F_morphia_a1.ext E2).keep K5q (ninS (Nat.ne_of_lt (Nat.lt_of_lt_of_le E_a1.lt (Nat.le_of_eq g2.symm))) nin0)).other W7 (sn (.object "com/example/legacy_to_latest/legacytolatest/EntityClass$Morphia") (.object "java/util/Map") (Or.inr (tw hw 118 rfl)) (Or.inr (tw hw 101 rfl)))).ext E10).other W15 (sn (.object "com/example/legacy_to_latest/legacytolatest/EntityClass$Morphia") (.object "java/lang/String") (Or.inr (tw hw 118 rfl)) (Or.inr (tw hw 109 rfl)))) (((((E_a1.ext E2).keep K5q).wr W7).ext E10).wr W15) (Or.inr ⟨(tw hw 118 rfl), rfl, hnm⟩) (tw hw 39 rfl) (ty := (.object "com/example/legacy_to_latest/legacytolatest/EntityClass$Morphia")) (by decide) rfl rfl (g := (mkF m 37 #[Rf a1, Rf a2, Rf a3, Rf a4, It p5, Rf a6, Rf a7, Rf a8, Rf a9, Rf a10, Rf a11, .unset, .unset] [.null, (.ref a1)])) rfl rfl (hb hby d11_37)
  have Fw19 := (((((F_morphia_a1.ext E2).keep K5q (ninS (Nat.ne_of_lt (Nat.lt_of_lt_of_le E_a1.lt (Nat.le_of_eq g2.symm))) nin0)).other W7 (sn (.object "com/example/legacy_to_latest/legacytolatest/EntityClass$Morphia") (.object "java/util/Map") (Or.inr (tw hw 118 rfl)) (Or.inr (tw hw 101 rfl)))).ext E10).other W15 (sn (.object "com/example/legacy_to_latest/legacytolatest/EntityClass$Morphia") (.object "java/lang/String") (Or.inr (tw hw 118 rfl)) (Or.inr (tw hw 109 rfl)))).same W19
  have N19 := Fr.snoc X19 N18 ge_a1
  have O20 := O16.wr W19 ge_a1
  have K19 := K15.wr W19 (Or.inl (List.mem_of_getElem? (i := 0) rfl))
  have CR21 := CR17.trans (CHr.wr W19 (Safe.exa hZ10.alike (((((E_a1.ext E2).keep K5q).wr W7).ext E10).wr W15) (by decide) (by decide)) CR17.1)
  obtain ⟨cq22, kq22, q22a, q22b, q22c⟩ := isOf hZ10 e19 ((((((E_a4.ext E2).keep K5q).wr W7).ext E10).wr W15).wr W19)
  obtain ⟨_, _, ⟨T22, L22, k22, n22⟩, -, X22, ⟨Lc22, hQ22, l22, y22, z22⟩, st22⟩ := X19.virtualBack hx (y := (⟨"java/util/Optional", "orElse", "(Ljava/lang/Object;)Ljava/lang/Object;"⟩ : MethodName)) (z := (⟨"java/util/Optional", "orElse", "(Ljava/lang/Object;)Ljava/lang/Object;"⟩ : MethodName)) hown10 (mvT hZ10 (tw hw 110 rfl)) (mvT hZ10 (tw hw 111 rfl)) (notFace_of_selects (args := #[]) (mvT hZ10 (tw hw 113 rfl))) (mvT hZ10 (tw hw 113 rfl)) (mvT hZ10 (tw hw 112 rfl)) (by decide) (backOf (W := 1) (rm16_1 l Z a0 hw [] a4 dv h19 n0 O20 ((((((F_value_a4.ext E2).keep K5q (ninS (Nat.ne_of_lt (Nat.lt_of_lt_of_le E_a4.lt (Nat.le_of_eq g2.symm))) nin0)).other W7 (Or.inl (Exa.ne E_a4 E_a1 (by decide)))).ext E10).other W15 (Or.inl (Exa.ne E_a4 E_a1 (by decide)))).other W19 (Or.inl (Exa.ne E_a4 E_a1 (by decide))))) hZ10 (tw hw 114 rfl) (tw hw 29 rfl) (by decide) (by decide)) q22a q22c (g := (mkF m 43 #[Rf a1, Rf a2, Rf a3, Rf a4, It p5, Rf a6, Rf a7, Rf a8, Rf a9, Rf a10, Rf a11, .unset, .unset] [.null, (.ref a4), (.ref a1)])) rfl (by rw [hml]; rfl) (Steps.refl _) (argsL := [.null]) (rest := [(.ref a1)]) (lenOf pd_3 rfl) rfl (by show 2 * 0 + _ ≤ _; exact Nat.le_of_eq rfl) (hb hby d11_43) (fun _ _ => ⟨rfl, e19, (by decide : 3 + 0 ≤ _), (by decide : 32 + 0 ≤ _)⟩)
  dsimp only [Pt.U, Pt.locs, Pt.cells, Pt.slots] at X22 l22 y22 z22 st22 hQ22
  subst l22 y22 z22
  obtain ⟨rfl, N22q, e22⟩ := hQ22
  have N22 := Fr.app N19 N22q
  obtain ⟨T23, X23, e23, st23⟩ := castY X22 hx hZ10 hown10 (tw hw 107 rfl) e22 (Ins.self ((((((E_dv.ext E2).keep K5q).wr W7).ext E10).wr W15).wr W19)) (g := (mkF m 46 #[Rf a1, Rf a2, Rf a3, Rf a4, It p5, Rf a6, Rf a7, Rf a8, Rf a9, Rf a10, Rf a11, .unset, .unset] [(.ref dv), (.ref a1)])) rfl rfl (hb hby d11_46)
  obtain ⟨T24, h24, X24, e24, W24, st24⟩ := putF X23 hx hZ10 hown10 (host := "") (Or.inl (tw hw 119 rfl)) Via.refl e23 ((((((F_discriminator_a1.ext E2).keep K5q (ninS (Nat.ne_of_lt (Nat.lt_of_lt_of_le E_a1.lt (Nat.le_of_eq g2.symm))) nin0)).other W7 (sn (.object "java/lang/String") (.object "java/util/Map") (Or.inr (tw hw 120 rfl)) (Or.inr (tw hw 101 rfl)))).ext E10).other W15 (sn (.object "java/lang/String") (.object "java/lang/String") (Or.inr (tw hw 120 rfl)) (Or.inr (tw hw 109 rfl)))).other W19 (sn (.object "java/lang/String") (.object "com/example/legacy_to_latest/legacytolatest/EntityClass$Morphia") (Or.inr (tw hw 120 rfl)) (Or.inr (tw hw 118 rfl)))) ((((((E_a1.ext E2).keep K5q).wr W7).ext E10).wr W15).wr W19) (Or.inr ⟨(tw hw 120 rfl), rfl, hnm⟩) (tw hw 39 rfl) (ty := (.object "java/lang/String")) (by decide) rfl rfl (g := (mkF m 49 #[Rf a1, Rf a2, Rf a3, Rf a4, It p5, Rf a6, Rf a7, Rf a8, Rf a9, Rf a10, Rf a11, .unset, .unset] [(.ref dv), (.ref a1)])) rfl rfl (hb hby d11_49)
  have Fw24 := ((((((F_discriminator_a1.ext E2).keep K5q (ninS (Nat.ne_of_lt (Nat.lt_of_lt_of_le E_a1.lt (Nat.le_of_eq g2.symm))) nin0)).other W7 (sn (.object "java/lang/String") (.object "java/util/Map") (Or.inr (tw hw 120 rfl)) (Or.inr (tw hw 101 rfl)))).ext E10).other W15 (sn (.object "java/lang/String") (.object "java/lang/String") (Or.inr (tw hw 120 rfl)) (Or.inr (tw hw 109 rfl)))).other W19 (sn (.object "java/lang/String") (.object "com/example/legacy_to_latest/legacytolatest/EntityClass$Morphia") (Or.inr (tw hw 120 rfl)) (Or.inr (tw hw 118 rfl)))).same W24
  have N24 := Fr.snoc X24 N22 ge_a1
  have O25 := O20.wr W24 ge_a1
  have K24 := K19.wr W24 (Or.inl (List.mem_of_getElem? (i := 0) rfl))
  have CR26 := CR21.trans (CHr.wr W24 (Safe.exa hZ10.alike ((((((E_a1.ext E2).keep K5q).wr W7).ext E10).wr W15).wr W19) (by decide) (by decide)) CR21.1)
  obtain ⟨T27, h27, X27, e27, W27, st27⟩ := putFN X24 hx hZ10 hown10 (tw hw 121 rfl) Via.refl e24 (((((((F_abstractClass_a1.ext E2).keep K5q (ninS (Nat.ne_of_lt (Nat.lt_of_lt_of_le E_a1.lt (Nat.le_of_eq g2.symm))) nin0)).other W7 (sn .boolean (.object "java/util/Map") (Or.inr (tw hw 122 rfl)) (Or.inr (tw hw 101 rfl)))).ext E10).other W15 (sn .boolean (.object "java/lang/String") (Or.inr (tw hw 122 rfl)) (Or.inr (tw hw 109 rfl)))).other W19 (sn .boolean (.object "com/example/legacy_to_latest/legacytolatest/EntityClass$Morphia") (Or.inr (tw hw 122 rfl)) (Or.inr (tw hw 118 rfl)))).other W24 (sn .boolean (.object "java/lang/String") (Or.inr (tw hw 122 rfl)) (Or.inr (tw hw 120 rfl)))) (((((((E_a1.ext E2).keep K5q).wr W7).ext E10).wr W15).wr W19).wr W24) (Or.inr ⟨(tw hw 122 rfl), rfl, hnm⟩) (tw hw 39 rfl) (ty := .boolean) (v' := .int (nar .boolean p5)) (by decide) rfl (fits_nar_bool _) (g := (mkF m 55 #[Rf a1, Rf a2, Rf a3, Rf a4, It p5, Rf a6, Rf a7, Rf a8, Rf a9, Rf a10, Rf a11, .unset, .unset] [(.int p5), (.ref a1)])) rfl rfl (hb hby d11_55)
  have Fw27 := (((((((F_abstractClass_a1.ext E2).keep K5q (ninS (Nat.ne_of_lt (Nat.lt_of_lt_of_le E_a1.lt (Nat.le_of_eq g2.symm))) nin0)).other W7 (sn .boolean (.object "java/util/Map") (Or.inr (tw hw 122 rfl)) (Or.inr (tw hw 101 rfl)))).ext E10).other W15 (sn .boolean (.object "java/lang/String") (Or.inr (tw hw 122 rfl)) (Or.inr (tw hw 109 rfl)))).other W19 (sn .boolean (.object "com/example/legacy_to_latest/legacytolatest/EntityClass$Morphia") (Or.inr (tw hw 122 rfl)) (Or.inr (tw hw 118 rfl)))).other W24 (sn .boolean (.object "java/lang/String") (Or.inr (tw hw 122 rfl)) (Or.inr (tw hw 120 rfl)))).same W27
  have N27 := Fr.snoc X27 N24 ge_a1
  have O28 := O25.wr W27 ge_a1
  have K27 := K24.wr W27 (Or.inl (List.mem_of_getElem? (i := 0) rfl))
  have CR29 := CR26.trans (CHr.wr W27 (Safe.exa hZ10.alike (((((((E_a1.ext E2).keep K5q).wr W7).ext E10).wr W15).wr W19).wr W24) (by decide) (by decide)) CR26.1)
  obtain ⟨sa30, T30, h30, k30, X30, e30, E30, Y30, Yk30, hZ30, hown30, C30, Lt30, st30⟩ := ldcOH X27 hx hZ10 hown10 (tw hw 123 rfl) hSA e27 Y10 (Nat.le_trans (Nat.le_trans (Nat.le_trans (Nat.le_trans Yk10 (Keep.of_wr W15).1) (Keep.of_wr W19).1) (Keep.of_wr W24).1) (Keep.of_wr W27).1) hEL CR29.1 (g := (mkF m 61 #[Rf a1, Rf a2, Rf a3, Rf a4, It p5, Rf a6, Rf a7, Rf a8, Rf a9, Rf a10, Rf a11, .unset, .unset] [(.ref a6), (.ref a1)])) rfl (hb hby d11_61) (n := 36) (by decide) (by decide) (by decide) (by decide)
  have O31 := O28.ext E30
  have K30 := K27.ext E30
  have CR32 := CR29.trans (C30)
  obtain ⟨_, _, ⟨T33, L33, k33, n33⟩, -, X33, ⟨Lc33, hQ33, l33, y33, z33⟩, st33⟩ := Jvm.LawKit.callS X30 hx (y := (⟨"java/util/Objects", "requireNonNull", "(Ljava/lang/Object;Ljava/lang/String;)Ljava/lang/Object;"⟩ : MethodName)) hown30 (mvT hZ30 (tw hw 103 rfl)) (mvT hZ30 (tw hw 104 rfl)) (mvT hZ30 (tw hw 105 rfl)) (mvT hZ30 (tw hw 106 rfl)) (by decide) (backOf (W := 1) (rm15 l Z a0 hw [] a6 sa30 h30 n0 O31 ) hZ30 (tw hw 106 rfl) (tw hw 105 rfl) (by decide) (by decide)) (g := (mkF m 63 #[Rf a1, Rf a2, Rf a3, Rf a4, It p5, Rf a6, Rf a7, Rf a8, Rf a9, Rf a10, Rf a11, .unset, .unset] [(.ref sa30), (.ref a6), (.ref a1)])) rfl (by rw [hml]; rfl) (argsL := [(.ref a6), (.ref sa30)]) (rest := [(.ref a1)]) (lenOf pd_7 rfl) rfl (by show 2 * 0 + _ ≤ _; exact Nat.le_of_eq rfl) (hb hby d11_63) (fun _ _ => ⟨rfl, e30, (by decide : 5 + 0 ≤ _), (by decide : 72 + 0 ≤ _)⟩)
  dsimp only [Pt.U, Pt.locs, Pt.cells, Pt.slots] at X33 l33 y33 z33 st33 hQ33
  subst l33 y33 z33
  obtain ⟨rfl, N33q, e33⟩ := hQ33
  have N33 := Fr.app N27 N33q
  obtain ⟨T34, X34, e34, st34⟩ := castY X33 hx hZ30 hown30 (tw hw 107 rfl) e33 (Ins.self (((((((((E_a6.ext E2).keep K5q).wr W7).ext E10).wr W15).wr W19).wr W24).wr W27).ext E30)) (g := (mkF m 66 #[Rf a1, Rf a2, Rf a3, Rf a4, It p5, Rf a6, Rf a7, Rf a8, Rf a9, Rf a10, Rf a11, .unset, .unset] [(.ref a6), (.ref a1)])) rfl rfl (hb hby d11_66)
  obtain ⟨T35, h35, X35, e35, W35, st35⟩ := putF X34 hx hZ30 hown30 (host := "") (Or.inl (tw hw 124 rfl)) Via.refl e34 (((((((((F_className_a1.ext E2).keep K5q (ninS (Nat.ne_of_lt (Nat.lt_of_lt_of_le E_a1.lt (Nat.le_of_eq g2.symm))) nin0)).other W7 (sn (.object "java/lang/String") (.object "java/util/Map") (Or.inr (tw hw 125 rfl)) (Or.inr (tw hw 101 rfl)))).ext E10).other W15 (sn (.object "java/lang/String") (.object "java/lang/String") (Or.inr (tw hw 125 rfl)) (Or.inr (tw hw 109 rfl)))).other W19 (sn (.object "java/lang/String") (.object "com/example/legacy_to_latest/legacytolatest/EntityClass$Morphia") (Or.inr (tw hw 125 rfl)) (Or.inr (tw hw 118 rfl)))).other W24 (sn (.object "java/lang/String") (.object "java/lang/String") (Or.inr (tw hw 125 rfl)) (Or.inr (tw hw 120 rfl)))).other W27 (sn (.object "java/lang/String") .boolean (Or.inr (tw hw 125 rfl)) (Or.inr (tw hw 122 rfl)))).ext E30) (((((((((E_a1.ext E2).keep K5q).wr W7).ext E10).wr W15).wr W19).wr W24).wr W27).ext E30) (Or.inr ⟨(tw hw 125 rfl), rfl, hnm⟩) (tw hw 39 rfl) (ty := (.object "java/lang/String")) (by decide) rfl rfl (g := (mkF m 69 #[Rf a1, Rf a2, Rf a3, Rf a4, It p5, Rf a6, Rf a7, Rf a8, Rf a9, Rf a10, Rf a11, .unset, .unset] [(.ref a6), (.ref a1)])) rfl rfl (hb hby d11_69)
  have Fw35 := (((((((((F_className_a1.ext E2).keep K5q (ninS (Nat.ne_of_lt (Nat.lt_of_lt_of_le E_a1.lt (Nat.le_of_eq g2.symm))) nin0)).other W7 (sn (.object "java/lang/String") (.object "java/util/Map") (Or.inr (tw hw 125 rfl)) (Or.inr (tw hw 101 rfl)))).ext E10).other W15 (sn (.object "java/lang/String") (.object "java/lang/String") (Or.inr (tw hw 125 rfl)) (Or.inr (tw hw 109 rfl)))).other W19 (sn (.object "java/lang/String") (.object "com/example/legacy_to_latest/legacytolatest/EntityClass$Morphia") (Or.inr (tw hw 125 rfl)) (Or.inr (tw hw 118 rfl)))).other W24 (sn (.object "java/lang/String") (.object "java/lang/String") (Or.inr (tw hw 125 rfl)) (Or.inr (tw hw 120 rfl)))).other W27 (sn (.object "java/lang/String") .boolean (Or.inr (tw hw 125 rfl)) (Or.inr (tw hw 122 rfl)))).ext E30).same W35
  have N35 := Fr.snoc X35 N33 ge_a1
  have O36 := O31.wr W35 ge_a1
  have K35 := K30.wr W35 (Or.inl (List.mem_of_getElem? (i := 0) rfl))
  have CR37 := CR32.trans (CHr.wr W35 (Safe.exa hZ30.alike (((((((((E_a1.ext E2).keep K5q).wr W7).ext E10).wr W15).wr W19).wr W24).wr W27).ext E30) (by decide) (by decide)) CR32.1)
  obtain ⟨sa38, T38, h38, k38, X38, e38, E38, Y38, Yk38, hZ38, hown38, C38, Lt38, st38⟩ := ldcOH X35 hx hZ30 hown30 (tw hw 126 rfl) hSA e35 Y30 (Nat.le_trans Yk30 (Keep.of_wr W35).1) hEL CR37.1 (g := (mkF m 75 #[Rf a1, Rf a2, Rf a3, Rf a4, It p5, Rf a6, Rf a7, Rf a8, Rf a9, Rf a10, Rf a11, .unset, .unset] [(.ref a7), (.ref a1)])) rfl (hb hby d11_75) (n := 40) (by decide) (by decide) (by decide) (by decide)
  have O39 := O36.ext E38
  have K38 := K35.ext E38
  have CR40 := CR37.trans (C38)
  obtain ⟨_, _, ⟨T41, L41, k41, n41⟩, -, X41, ⟨Lc41, hQ41, l41, y41, z41⟩, st41⟩ := Jvm.LawKit.callS X38 hx (y := (⟨"java/util/Objects", "requireNonNull", "(Ljava/lang/Object;Ljava/lang/String;)Ljava/lang/Object;"⟩ : MethodName)) hown38 (mvT hZ38 (tw hw 103 rfl)) (mvT hZ38 (tw hw 104 rfl)) (mvT hZ38 (tw hw 105 rfl)) (mvT hZ38 (tw hw 106 rfl)) (by decide) (backOf (W := 1) (rm15 l Z a0 hw [] a7 sa38 h38 n0 O39 ) hZ38 (tw hw 106 rfl) (tw hw 105 rfl) (by decide) (by decide)) (g := (mkF m 77 #[Rf a1, Rf a2, Rf a3, Rf a4, It p5, Rf a6, Rf a7, Rf a8, Rf a9, Rf a10, Rf a11, .unset, .unset] [(.ref sa38), (.ref a7), (.ref a1)])) rfl (by rw [hml]; rfl) (argsL := [(.ref a7), (.ref sa38)]) (rest := [(.ref a1)]) (lenOf pd_7 rfl) rfl (by show 2 * 0 + _ ≤ _; exact Nat.le_of_eq rfl) (hb hby d11_77) (fun _ _ => ⟨rfl, e38, (by decide : 7 + 0 ≤ _), (by decide : 116 + 0 ≤ _)⟩)
  dsimp only [Pt.U, Pt.locs, Pt.cells, Pt.slots] at X41 l41 y41 z41 st41 hQ41
  subst l41 y41 z41
  obtain ⟨rfl, N41q, e41⟩ := hQ41
  have N41 := Fr.app N35 N41q
  obtain ⟨T42, X42, e42, st42⟩ := castY X41 hx hZ38 hown38 (tw hw 107 rfl) e41 (Ins.self (((((((((((E_a7.ext E2).keep K5q).wr W7).ext E10).wr W15).wr W19).wr W24).wr W27).ext E30).wr W35).ext E38)) (g := (mkF m 80 #[Rf a1, Rf a2, Rf a3, Rf a4, It p5, Rf a6, Rf a7, Rf a8, Rf a9, Rf a10, Rf a11, .unset, .unset] [(.ref a7), (.ref a1)])) rfl rfl (hb hby d11_80)
  obtain ⟨T43, h43, X43, e43, W43, st43⟩ := putF X42 hx hZ38 hown38 (host := "") (Or.inl (tw hw 127 rfl)) Via.refl e42 (((((((((((F_binaryName_a1.ext E2).keep K5q (ninS (Nat.ne_of_lt (Nat.lt_of_lt_of_le E_a1.lt (Nat.le_of_eq g2.symm))) nin0)).other W7 (sn (.object "java/lang/String") (.object "java/util/Map") (Or.inr (tw hw 128 rfl)) (Or.inr (tw hw 101 rfl)))).ext E10).other W15 (sn (.object "java/lang/String") (.object "java/lang/String") (Or.inr (tw hw 128 rfl)) (Or.inr (tw hw 109 rfl)))).other W19 (sn (.object "java/lang/String") (.object "com/example/legacy_to_latest/legacytolatest/EntityClass$Morphia") (Or.inr (tw hw 128 rfl)) (Or.inr (tw hw 118 rfl)))).other W24 (sn (.object "java/lang/String") (.object "java/lang/String") (Or.inr (tw hw 128 rfl)) (Or.inr (tw hw 120 rfl)))).other W27 (sn (.object "java/lang/String") .boolean (Or.inr (tw hw 128 rfl)) (Or.inr (tw hw 122 rfl)))).ext E30).other W35 (sn (.object "java/lang/String") (.object "java/lang/String") (Or.inr (tw hw 128 rfl)) (Or.inr (tw hw 125 rfl)))).ext E38) (((((((((((E_a1.ext E2).keep K5q).wr W7).ext E10).wr W15).wr W19).wr W24).wr W27).ext E30).wr W35).ext E38) (Or.inr ⟨(tw hw 128 rfl), rfl, hnm⟩) (tw hw 39 rfl) (ty := (.object "java/lang/String")) (by decide) rfl rfl (g := (mkF m 83 #[Rf a1, Rf a2, Rf a3, Rf a4, It p5, Rf a6, Rf a7, Rf a8, Rf a9, Rf a10, Rf a11, .unset, .unset] [(.ref a7), (.ref a1)])) rfl rfl (hb hby d11_83)
  have Fw43 := (((((((((((F_binaryName_a1.ext E2).keep K5q (ninS (Nat.ne_of_lt (Nat.lt_of_lt_of_le E_a1.lt (Nat.le_of_eq g2.symm))) nin0)).other W7 (sn (.object "java/lang/String") (.object "java/util/Map") (Or.inr (tw hw 128 rfl)) (Or.inr (tw hw 101 rfl)))).ext E10).other W15 (sn (.object "java/lang/String") (.object "java/lang/String") (Or.inr (tw hw 128 rfl)) (Or.inr (tw hw 109 rfl)))).other W19 (sn (.object "java/lang/String") (.object "com/example/legacy_to_latest/legacytolatest/EntityClass$Morphia") (Or.inr (tw hw 128 rfl)) (Or.inr (tw hw 118 rfl)))).other W24 (sn (.object "java/lang/String") (.object "java/lang/String") (Or.inr (tw hw 128 rfl)) (Or.inr (tw hw 120 rfl)))).other W27 (sn (.object "java/lang/String") .boolean (Or.inr (tw hw 128 rfl)) (Or.inr (tw hw 122 rfl)))).ext E30).other W35 (sn (.object "java/lang/String") (.object "java/lang/String") (Or.inr (tw hw 128 rfl)) (Or.inr (tw hw 125 rfl)))).ext E38).same W43
  have N43 := Fr.snoc X43 N41 ge_a1
  have O44 := O39.wr W43 ge_a1
  have K43 := K38.wr W43 (Or.inl (List.mem_of_getElem? (i := 0) rfl))
  have CR45 := CR40.trans (CHr.wr W43 (Safe.exa hZ38.alike (((((((((((E_a1.ext E2).keep K5q).wr W7).ext E10).wr W15).wr W19).wr W24).wr W27).ext E30).wr W35).ext E38) (by decide) (by decide)) CR40.1)
  obtain ⟨sa46, T46, h46, k46, X46, e46, E46, Y46, Yk46, hZ46, hown46, C46, Lt46, st46⟩ := ldcOH X43 hx hZ38 hown38 (tw hw 129 rfl) hSA e43 Y38 (Nat.le_trans Yk38 (Keep.of_wr W43).1) hEL CR45.1 (g := (mkF m 89 #[Rf a1, Rf a2, Rf a3, Rf a4, It p5, Rf a6, Rf a7, Rf a8, Rf a9, Rf a10, Rf a11, .unset, .unset] [(.ref a8), (.ref a1)])) rfl (hb hby d11_89) (n := 24) (by decide) (by decide) (by decide) (by decide)
  have O47 := O44.ext E46
  have K46 := K43.ext E46
  have CR48 := CR45.trans (C46)
  obtain ⟨_, _, ⟨T49, L49, k49, n49⟩, -, X49, ⟨Lc49, hQ49, l49, y49, z49⟩, st49⟩ := Jvm.LawKit.callS X46 hx (y := (⟨"java/util/Objects", "requireNonNull", "(Ljava/lang/Object;Ljava/lang/String;)Ljava/lang/Object;"⟩ : MethodName)) hown46 (mvT hZ46 (tw hw 103 rfl)) (mvT hZ46 (tw hw 104 rfl)) (mvT hZ46 (tw hw 105 rfl)) (mvT hZ46 (tw hw 106 rfl)) (by decide) (backOf (W := 1) (rm15 l Z a0 hw [] a8 sa46 h46 n0 O47 ) hZ46 (tw hw 106 rfl) (tw hw 105 rfl) (by decide) (by decide)) (g := (mkF m 91 #[Rf a1, Rf a2, Rf a3, Rf a4, It p5, Rf a6, Rf a7, Rf a8, Rf a9, Rf a10, Rf a11, .unset, .unset] [(.ref sa46), (.ref a8), (.ref a1)])) rfl (by rw [hml]; rfl) (argsL := [(.ref a8), (.ref sa46)]) (rest := [(.ref a1)]) (lenOf pd_7 rfl) rfl (by show 2 * 0 + _ ≤ _; exact Nat.le_of_eq rfl) (hb hby d11_91) (fun _ _ => ⟨rfl, e46, (by decide : 9 + 0 ≤ _), (by decide : 144 + 0 ≤ _)⟩)
  dsimp only [Pt.U, Pt.locs, Pt.cells, Pt.slots] at X49 l49 y49 z49 st49 hQ49
  subst l49 y49 z49
  obtain ⟨rfl, N49q, e49⟩ := hQ49
  have N49 := Fr.app N43 N49q
  obtain ⟨T50, X50, e50, st50⟩ := castY X49 hx hZ46 hown46 (tw hw 107 rfl) e49 (Ins.self (((((((((((((E_a8.ext E2).keep K5q).wr W7).ext E10).wr W15).wr W19).wr W24).wr W27).ext E30).wr W35).ext E38).wr W43).ext E46)) (g := (mkF m 94 #[Rf a1, Rf a2, Rf a3, Rf a4, It p5, Rf a6, Rf a7, Rf a8, Rf a9, Rf a10, Rf a11, .unset, .unset] [(.ref a8), (.ref a1)])) rfl rfl (hb hby d11_94)
  obtain ⟨T51, h51, X51, e51, W51, st51⟩ := putF X50 hx hZ46 hown46 (host := "") (Or.inl (tw hw 130 rfl)) Via.refl e50 (((((((((((((F_source_a1.ext E2).keep K5q (ninS (Nat.ne_of_lt (Nat.lt_of_lt_of_le E_a1.lt (Nat.le_of_eq g2.symm))) nin0)).other W7 (sn (.object "java/lang/String") (.object "java/util/Map") (Or.inr (tw hw 131 rfl)) (Or.inr (tw hw 101 rfl)))).ext E10).other W15 (sn (.object "java/lang/String") (.object "java/lang/String") (Or.inr (tw hw 131 rfl)) (Or.inr (tw hw 109 rfl)))).other W19 (sn (.object "java/lang/String") (.object "com/example/legacy_to_latest/legacytolatest/EntityClass$Morphia") (Or.inr (tw hw 131 rfl)) (Or.inr (tw hw 118 rfl)))).other W24 (sn (.object "java/lang/String") (.object "java/lang/String") (Or.inr (tw hw 131 rfl)) (Or.inr (tw hw 120 rfl)))).other W27 (sn (.object "java/lang/String") .boolean (Or.inr (tw hw 131 rfl)) (Or.inr (tw hw 122 rfl)))).ext E30).other W35 (sn (.object "java/lang/String") (.object "java/lang/String") (Or.inr (tw hw 131 rfl)) (Or.inr (tw hw 125 rfl)))).ext E38).other W43 (sn (.object "java/lang/String") (.object "java/lang/String") (Or.inr (tw hw 131 rfl)) (Or.inr (tw hw 128 rfl)))).ext E46) (((((((((((((E_a1.ext E2).keep K5q).wr W7).ext E10).wr W15).wr W19).wr W24).wr W27).ext E30).wr W35).ext E38).wr W43).ext E46) (Or.inr ⟨(tw hw 131 rfl), rfl, hnm⟩) (tw hw 39 rfl) (ty := (.object "java/lang/String")) (by decide) rfl rfl (g := (mkF m 97 #[Rf a1, Rf a2, Rf a3, Rf a4, It p5, Rf a6, Rf a7, Rf a8, Rf a9, Rf a10, Rf a11, .unset, .unset] [(.ref a8), (.ref a1)])) rfl rfl (hb hby d11_97)
  have Fw51 := (((((((((((((F_source_a1.ext E2).keep K5q (ninS (Nat.ne_of_lt (Nat.lt_of_lt_of_le E_a1.lt (Nat.le_of_eq g2.symm))) nin0)).other W7 (sn (.object "java/lang/String") (.object "java/util/Map") (Or.inr (tw hw 131 rfl)) (Or.inr (tw hw 101 rfl)))).ext E10).other W15 (sn (.object "java/lang/String") (.object "java/lang/String") (Or.inr (tw hw 131 rfl)) (Or.inr (tw hw 109 rfl)))).other W19 (sn (.object "java/lang/String") (.object "com/example/legacy_to_latest/legacytolatest/EntityClass$Morphia") (Or.inr (tw hw 131 rfl)) (Or.inr (tw hw 118 rfl)))).other W24 (sn (.object "java/lang/String") (.object "java/lang/String") (Or.inr (tw hw 131 rfl)) (Or.inr (tw hw 120 rfl)))).other W27 (sn (.object "java/lang/String") .boolean (Or.inr (tw hw 131 rfl)) (Or.inr (tw hw 122 rfl)))).ext E30).other W35 (sn (.object "java/lang/String") (.object "java/lang/String") (Or.inr (tw hw 131 rfl)) (Or.inr (tw hw 125 rfl)))).ext E38).other W43 (sn (.object "java/lang/String") (.object "java/lang/String") (Or.inr (tw hw 131 rfl)) (Or.inr (tw hw 128 rfl)))).ext E46).same W51
  have N51 := Fr.snoc X51 N49 ge_a1
  have O52 := O47.wr W51 ge_a1
  have K51 := K46.wr W51 (Or.inl (List.mem_of_getElem? (i := 0) rfl))
  have CR53 := CR48.trans (CHr.wr W51 (Safe.exa hZ46.alike (((((((((((((E_a1.ext E2).keep K5q).wr W7).ext E10).wr W15).wr W19).wr W24).wr W27).ext E30).wr W35).ext E38).wr W43).ext E46) (by decide) (by decide)) CR48.1)
  obtain ⟨cq54, kq54, q54a, q54b, q54c⟩ := isOf hZ46 e51 ((((((((((((((E_a9.ext E2).keep K5q).wr W7).ext E10).wr W15).wr W19).wr W24).wr W27).ext E30).wr W35).ext E38).wr W43).ext E46).wr W51)
  obtain ⟨_, _, ⟨T54, L54, k54, n54⟩, -, X54, ⟨Lc54, hQ54, l54, y54, z54⟩, st54⟩ := X51.interfaceBack hx (xi := (⟨"java/util/List", "iterator", "()Ljava/util/Iterator;"⟩ : MethodName)) (y := (⟨"java/util/ArrayList", "iterator", "()Ljava/util/Iterator;"⟩ : MethodName)) hown46 (mvT hZ46 (tw hw 132 rfl)) (mvT hZ46 (tw hw 133 rfl)) (mvT hZ46 (tw hw 134 rfl)) (mvT hZ46 (tw hw 135 rfl)) (mvT hZ46 (tw hw 136 rfl)) (mvT hZ46 (tw hw 137 rfl)) (mvT hZ46 (tw hw 138 rfl)) (mvT hZ46 (tw hw 139 rfl)) (by decide) (backOf (W := 0) (rm17 l Z a0 hw [] a9 h51 n0 O52 ((((((((((((((E_a9.ext E2).keep K5q).wr W7).ext E10).wr W15).wr W19).wr W24).wr W27).ext E30).wr W35).ext E38).wr W43).ext E46).wr W51) ((((((((((((((F_modCount_a9.ext E2).keep K5q (ninS (Nat.ne_of_lt (Nat.lt_of_lt_of_le E_a9.lt (Nat.le_of_eq g2.symm))) nin0)).other W7 (Or.inl (Exa.ne E_a9 E_a1 (by decide)))).ext E10).other W15 (Or.inl (Exa.ne E_a9 E_a1 (by decide)))).other W19 (Or.inl (Exa.ne E_a9 E_a1 (by decide)))).other W24 (Or.inl (Exa.ne E_a9 E_a1 (by decide)))).other W27 (Or.inl (Exa.ne E_a9 E_a1 (by decide)))).ext E30).other W35 (Or.inl (Exa.ne E_a9 E_a1 (by decide)))).ext E38).other W43 (Or.inl (Exa.ne E_a9 E_a1 (by decide)))).ext E46).other W51 (Or.inl (Exa.ne E_a9 E_a1 (by decide))))) hZ46 (tw hw 140 rfl) (tw hw 48 rfl) (by decide) (by decide)) q54a q54b q54c (g := (mkF m 102 #[Rf a1, Rf a2, Rf a3, Rf a4, It p5, Rf a6, Rf a7, Rf a8, Rf a9, Rf a10, Rf a11, .unset, .unset] [(.ref a9)])) rfl (by rw [hml]; rfl) (Steps.refl _) (argsL := []) (rest := []) (lenOf pd_8 rfl) rfl (by show 2 * 0 + _ ≤ _; exact Nat.le_of_eq rfl) (hb hby d11_102) (fun _ _ => ⟨rfl, e51, (by decide : 9 + 1 ≤ _), (by decide : 144 + 4 ≤ _)⟩)
  dsimp only [Pt.U, Pt.locs, Pt.cells, Pt.slots] at X54 l54 y54 z54 st54 hQ54
  subst l54 y54 z54
  obtain ⟨r_54, rfl, N54q, K54q, O54, f54_0, f54_1, f54_2, f54_3, f54_4⟩ := hQ54
  have N54 := Fr.app N51 N54q
  have CR55 := CR53.trans (CHr.keep K54q all0 CR53.1)
  have K54 := K51.trans K54q all0
  obtain ⟨cq56, kq56, q56a, q56b, q56c⟩ := isOf hZ46 rfl f54_2
  obtain ⟨_, _, ⟨T56, L56, k56, n56⟩, -, X56, ⟨Lc56, hQ56, l56, y56, z56⟩, st56⟩ := X54.interfaceBack hx (xi := (⟨"java/util/Iterator", "hasNext", "()Z"⟩ : MethodName)) (y := (⟨"java/util/ArrayList$Itr", "hasNext", "()Z"⟩ : MethodName)) hown46 (mvT hZ46 (tw hw 157 rfl)) (mvT hZ46 (tw hw 158 rfl)) (mvT hZ46 (tw hw 159 rfl)) (mvT hZ46 (tw hw 160 rfl)) (mvT hZ46 (tw hw 161 rfl)) (mvT hZ46 (tw hw 162 rfl)) (mvT hZ46 (tw hw 163 rfl)) (mvT hZ46 (tw hw 164 rfl)) (by decide) (backOf (W := 0) (rm19 l Z a0 hw [] r_54 a9 T54.heap n0 O54 f54_4 f54_3 (((((((((((((((F_size_a9.ext E2).keep K5q (ninS (Nat.ne_of_lt (Nat.lt_of_lt_of_le E_a9.lt (Nat.le_of_eq g2.symm))) nin0)).other W7 (Or.inl (Exa.ne E_a9 E_a1 (by decide)))).ext E10).other W15 (Or.inl (Exa.ne E_a9 E_a1 (by decide)))).other W19 (Or.inl (Exa.ne E_a9 E_a1 (by decide)))).other W24 (Or.inl (Exa.ne E_a9 E_a1 (by decide)))).other W27 (Or.inl (Exa.ne E_a9 E_a1 (by decide)))).ext E30).other W35 (Or.inl (Exa.ne E_a9 E_a1 (by decide)))).ext E38).other W43 (Or.inl (Exa.ne E_a9 E_a1 (by decide)))).ext E46).other W51 (Or.inl (Exa.ne E_a9 E_a1 (by decide)))).keep K54q nin0)) hZ46 (tw hw 165 rfl) (tw hw 143 rfl) (by decide) (by decide)) q56a q56b q56c (g := (mkF m 111 #[Rf a1, Rf a2, Rf a3, Rf a4, It p5, Rf a6, Rf a7, Rf a8, Rf a9, Rf a10, Rf a11, Rf r_54, .unset] [(.ref r_54)])) rfl (by rw [hml]; rfl) (Steps.refl _) (argsL := []) (rest := []) (lenOf pd_9 rfl) rfl (by show 2 * 0 + _ ≤ _; exact Nat.le_of_eq rfl) (hb hby d11_111) (fun _ _ => ⟨rfl, rfl, (by decide : 10 + 0 ≤ _), (by decide : 148 + 0 ≤ _)⟩)
  dsimp only [Pt.U, Pt.locs, Pt.cells, Pt.slots] at X56 l56 y56 z56 st56 hQ56
  subst l56 y56 z56
  obtain ⟨rfl, N56q, e56⟩ := hQ56
  have N56 := Fr.app N54 N56q
  obtain ⟨_, _, ⟨T57, L57, k57, n57⟩, -, X57, ⟨Lc57, hQ57, l57, y57, z57⟩, st57⟩ := Jvm.LawKit.callS X56 hx (y := (⟨"java/util/Map", "copyOf", "(Ljava/util/Map;)Ljava/util/Map;"⟩ : MethodName)) hown46 (mvT hZ46 (tw hw 170 rfl)) (mvT hZ46 (tw hw 171 rfl)) (mvT hZ46 (tw hw 34 rfl)) (mvT hZ46 (tw hw 172 rfl)) (by decide) (backOf (W := 1) (rm20 l Z a0 hw [] a10 T54.heap n0 O54 (((((((((((((((E_a10.ext E2).keep K5q).wr W7).ext E10).wr W15).wr W19).wr W24).wr W27).ext E30).wr W35).ext E38).wr W43).ext E46).wr W51).keep K54q)) hZ46 (tw hw 172 rfl) (tw hw 34 rfl) (by decide) (by decide)) (g := (mkF m 167 #[Rf a1, Rf a2, Rf a3, Rf a4, It p5, Rf a6, Rf a7, Rf a8, Rf a9, Rf a10, Rf a11, Rf r_54, .unset] [(.ref a10), (.ref a1)])) rfl (by rw [hml]; rfl) (argsL := [(.ref a10)]) (rest := [(.ref a1)]) (lenOf pd_10 rfl) rfl (by show 2 * 0 + _ ≤ _; exact Nat.le_of_eq rfl) (hb hby d11_167) (fun _ _ => ⟨rfl, e56, (by decide : 10 + 0 ≤ _), (by decide : 148 + 0 ≤ _)⟩)
  dsimp only [Pt.U, Pt.locs, Pt.cells, Pt.slots] at X57 l57 y57 z57 st57 hQ57
  subst l57 y57 z57
  obtain ⟨rfl, N57q, e57⟩ := hQ57
  have N57 := Fr.app N56 N57q
  obtain ⟨T58, h58, X58, e58, W58, st58⟩ := putF X57 hx hZ46 hown46 (host := "") (Or.inl (tw hw 175 rfl)) Via.refl e57 (((((((((((((((F_keyParts_a1.ext E2).keep K5q (ninS (Nat.ne_of_lt (Nat.lt_of_lt_of_le E_a1.lt (Nat.le_of_eq g2.symm))) nin0)).other W7 (sn (.object "java/util/Map") (.object "java/util/Map") (Or.inr (tw hw 176 rfl)) (Or.inr (tw hw 101 rfl)))).ext E10).other W15 (sn (.object "java/util/Map") (.object "java/lang/String") (Or.inr (tw hw 176 rfl)) (Or.inr (tw hw 109 rfl)))).other W19 (sn (.object "java/util/Map") (.object "com/example/legacy_to_latest/legacytolatest/EntityClass$Morphia") (Or.inr (tw hw 176 rfl)) (Or.inr (tw hw 118 rfl)))).other W24 (sn (.object "java/util/Map") (.object "java/lang/String") (Or.inr (tw hw 176 rfl)) (Or.inr (tw hw 120 rfl)))).other W27 (sn (.object "java/util/Map") .boolean (Or.inr (tw hw 176 rfl)) (Or.inr (tw hw 122 rfl)))).ext E30).other W35 (sn (.object "java/util/Map") (.object "java/lang/String") (Or.inr (tw hw 176 rfl)) (Or.inr (tw hw 125 rfl)))).ext E38).other W43 (sn (.object "java/util/Map") (.object "java/lang/String") (Or.inr (tw hw 176 rfl)) (Or.inr (tw hw 128 rfl)))).ext E46).other W51 (sn (.object "java/util/Map") (.object "java/lang/String") (Or.inr (tw hw 176 rfl)) (Or.inr (tw hw 131 rfl)))).keep K54q nin0) (((((((((((((((E_a1.ext E2).keep K5q).wr W7).ext E10).wr W15).wr W19).wr W24).wr W27).ext E30).wr W35).ext E38).wr W43).ext E46).wr W51).keep K54q) (Or.inr ⟨(tw hw 176 rfl), rfl, hnm⟩) (tw hw 39 rfl) (ty := (.object "java/util/Map")) (by decide) rfl rfl (g := (mkF m 170 #[Rf a1, Rf a2, Rf a3, Rf a4, It p5, Rf a6, Rf a7, Rf a8, Rf a9, Rf a10, Rf a11, Rf r_54, .unset] [(.ref a10), (.ref a1)])) rfl rfl (hb hby d11_170)
  have Fw58 := (((((((((((((((F_keyParts_a1.ext E2).keep K5q (ninS (Nat.ne_of_lt (Nat.lt_of_lt_of_le E_a1.lt (Nat.le_of_eq g2.symm))) nin0)).other W7 (sn (.object "java/util/Map") (.object "java/util/Map") (Or.inr (tw hw 176 rfl)) (Or.inr (tw hw 101 rfl)))).ext E10).other W15 (sn (.object "java/util/Map") (.object "java/lang/String") (Or.inr (tw hw 176 rfl)) (Or.inr (tw hw 109 rfl)))).other W19 (sn (.object "java/util/Map") (.object "com/example/legacy_to_latest/legacytolatest/EntityClass$Morphia") (Or.inr (tw hw 176 rfl)) (Or.inr (tw hw 118 rfl)))).other W24 (sn (.object "java/util/Map") (.object "java/lang/String") (Or.inr (tw hw 176 rfl)) (Or.inr (tw hw 120 rfl)))).other W27 (sn (.object "java/util/Map") .boolean (Or.inr (tw hw 176 rfl)) (Or.inr (tw hw 122 rfl)))).ext E30).other W35 (sn (.object "java/util/Map") (.object "java/lang/String") (Or.inr (tw hw 176 rfl)) (Or.inr (tw hw 125 rfl)))).ext E38).other W43 (sn (.object "java/util/Map") (.object "java/lang/String") (Or.inr (tw hw 176 rfl)) (Or.inr (tw hw 128 rfl)))).ext E46).other W51 (sn (.object "java/util/Map") (.object "java/lang/String") (Or.inr (tw hw 176 rfl)) (Or.inr (tw hw 131 rfl)))).keep K54q nin0).same W58
  have N58 := Fr.snoc X58 N57 ge_a1
  have O59 := O54.wr W58 ge_a1
  have K58 := K54.wr W58 (Or.inl (List.mem_of_getElem? (i := 0) rfl))
  have CR60 := CR55.trans (CHr.wr W58 (Safe.exa hZ46.alike (((((((((((((((E_a1.ext E2).keep K5q).wr W7).ext E10).wr W15).wr W19).wr W24).wr W27).ext E30).wr W35).ext E38).wr W43).ext E46).wr W51).keep K54q) (by decide) (by decide)) CR55.1)
  obtain ⟨cq61, kq61, q61a, q61b, q61c⟩ := isOf hZ46 e58 ((((((((((((((((E_a11.ext E2).keep K5q).wr W7).ext E10).wr W15).wr W19).wr W24).wr W27).ext E30).wr W35).ext E38).wr W43).ext E46).wr W51).keep K54q).wr W58)
  obtain ⟨_, _, ⟨T61, L61, k61, n61⟩, -, X61, ⟨Lc61, hQ61, l61, y61, z61⟩, st61⟩ := X58.virtualBack hx (y := (⟨"java/util/Optional", "orElse", "(Ljava/lang/Object;)Ljava/lang/Object;"⟩ : MethodName)) (z := (⟨"java/util/Optional", "orElse", "(Ljava/lang/Object;)Ljava/lang/Object;"⟩ : MethodName)) hown46 (mvT hZ46 (tw hw 110 rfl)) (mvT hZ46 (tw hw 111 rfl)) (notFace_of_selects (args := #[]) (mvT hZ46 (tw hw 113 rfl))) (mvT hZ46 (tw hw 113 rfl)) (mvT hZ46 (tw hw 112 rfl)) (by decide) (backOf (W := 1) (rm16_0 l Z a0 hw [] a11 h58 n0 O59 ((((((((((((((((F_value_a11.ext E2).keep K5q (ninS (Nat.ne_of_lt (Nat.lt_of_lt_of_le E_a11.lt (Nat.le_of_eq g2.symm))) nin0)).other W7 (Or.inl (Exa.ne E_a11 E_a1 (by decide)))).ext E10).other W15 (Or.inl (Exa.ne E_a11 E_a1 (by decide)))).other W19 (Or.inl (Exa.ne E_a11 E_a1 (by decide)))).other W24 (Or.inl (Exa.ne E_a11 E_a1 (by decide)))).other W27 (Or.inl (Exa.ne E_a11 E_a1 (by decide)))).ext E30).other W35 (Or.inl (Exa.ne E_a11 E_a1 (by decide)))).ext E38).other W43 (Or.inl (Exa.ne E_a11 E_a1 (by decide)))).ext E46).other W51 (Or.inl (Exa.ne E_a11 E_a1 (by decide)))).keep K54q nin0).other W58 (Or.inl (Exa.ne E_a11 E_a1 (by decide))))) hZ46 (tw hw 114 rfl) (tw hw 29 rfl) (by decide) (by decide)) q61a q61c (g := (mkF m 177 #[Rf a1, Rf a2, Rf a3, Rf a4, It p5, Rf a6, Rf a7, Rf a8, Rf a9, Rf a10, Rf a11, Rf r_54, .unset] [.null, (.ref a11), (.ref a1)])) rfl (by rw [hml]; rfl) (Steps.refl _) (argsL := [.null]) (rest := [(.ref a1)]) (lenOf pd_3 rfl) rfl (by show 2 * 0 + _ ≤ _; exact Nat.le_of_eq rfl) (hb hby d11_177) (fun _ _ => ⟨rfl, e58, (by decide : 10 + 0 ≤ _), (by decide : 148 + 0 ≤ _)⟩)
  dsimp only [Pt.U, Pt.locs, Pt.cells, Pt.slots] at X61 l61 y61 z61 st61 hQ61
  subst l61 y61 z61
  obtain ⟨rfl, N61q, e61⟩ := hQ61
  have N61 := Fr.app N58 N61q
  obtain ⟨T62, h62, X62, e62, W62, st62⟩ := putF X61 hx hZ46 hown46 (host := "") (Or.inl (tw hw 177 rfl)) Via.refl e61 ((((((((((((((((F_unreadSuperclass_a1.ext E2).keep K5q (ninS (Nat.ne_of_lt (Nat.lt_of_lt_of_le E_a1.lt (Nat.le_of_eq g2.symm))) nin0)).other W7 (sn (.object "java/lang/String") (.object "java/util/Map") (Or.inr (tw hw 178 rfl)) (Or.inr (tw hw 101 rfl)))).ext E10).other W15 (sn (.object "java/lang/String") (.object "java/lang/String") (Or.inr (tw hw 178 rfl)) (Or.inr (tw hw 109 rfl)))).other W19 (sn (.object "java/lang/String") (.object "com/example/legacy_to_latest/legacytolatest/EntityClass$Morphia") (Or.inr (tw hw 178 rfl)) (Or.inr (tw hw 118 rfl)))).other W24 (sn (.object "java/lang/String") (.object "java/lang/String") (Or.inr (tw hw 178 rfl)) (Or.inr (tw hw 120 rfl)))).other W27 (sn (.object "java/lang/String") .boolean (Or.inr (tw hw 178 rfl)) (Or.inr (tw hw 122 rfl)))).ext E30).other W35 (sn (.object "java/lang/String") (.object "java/lang/String") (Or.inr (tw hw 178 rfl)) (Or.inr (tw hw 125 rfl)))).ext E38).other W43 (sn (.object "java/lang/String") (.object "java/lang/String") (Or.inr (tw hw 178 rfl)) (Or.inr (tw hw 128 rfl)))).ext E46).other W51 (sn (.object "java/lang/String") (.object "java/lang/String") (Or.inr (tw hw 178 rfl)) (Or.inr (tw hw 131 rfl)))).keep K54q nin0).other W58 (sn (.object "java/lang/String") (.object "java/util/Map") (Or.inr (tw hw 178 rfl)) (Or.inr (tw hw 176 rfl)))) ((((((((((((((((E_a1.ext E2).keep K5q).wr W7).ext E10).wr W15).wr W19).wr W24).wr W27).ext E30).wr W35).ext E38).wr W43).ext E46).wr W51).keep K54q).wr W58) (Or.inr ⟨(tw hw 178 rfl), rfl, hnm⟩) (tw hw 39 rfl) (ty := (.object "java/lang/String")) (by decide) rfl rfl (g := (mkF m 183 #[Rf a1, Rf a2, Rf a3, Rf a4, It p5, Rf a6, Rf a7, Rf a8, Rf a9, Rf a10, Rf a11, Rf r_54, .unset] [.null, (.ref a1)])) rfl rfl (hb hby d11_183)
  have Fw62 := ((((((((((((((((F_unreadSuperclass_a1.ext E2).keep K5q (ninS (Nat.ne_of_lt (Nat.lt_of_lt_of_le E_a1.lt (Nat.le_of_eq g2.symm))) nin0)).other W7 (sn (.object "java/lang/String") (.object "java/util/Map") (Or.inr (tw hw 178 rfl)) (Or.inr (tw hw 101 rfl)))).ext E10).other W15 (sn (.object "java/lang/String") (.object "java/lang/String") (Or.inr (tw hw 178 rfl)) (Or.inr (tw hw 109 rfl)))).other W19 (sn (.object "java/lang/String") (.object "com/example/legacy_to_latest/legacytolatest/EntityClass$Morphia") (Or.inr (tw hw 178 rfl)) (Or.inr (tw hw 118 rfl)))).other W24 (sn (.object "java/lang/String") (.object "java/lang/String") (Or.inr (tw hw 178 rfl)) (Or.inr (tw hw 120 rfl)))).other W27 (sn (.object "java/lang/String") .boolean (Or.inr (tw hw 178 rfl)) (Or.inr (tw hw 122 rfl)))).ext E30).other W35 (sn (.object "java/lang/String") (.object "java/lang/String") (Or.inr (tw hw 178 rfl)) (Or.inr (tw hw 125 rfl)))).ext E38).other W43 (sn (.object "java/lang/String") (.object "java/lang/String") (Or.inr (tw hw 178 rfl)) (Or.inr (tw hw 128 rfl)))).ext E46).other W51 (sn (.object "java/lang/String") (.object "java/lang/String") (Or.inr (tw hw 178 rfl)) (Or.inr (tw hw 131 rfl)))).keep K54q nin0).other W58 (sn (.object "java/lang/String") (.object "java/util/Map") (Or.inr (tw hw 178 rfl)) (Or.inr (tw hw 176 rfl)))).same W62
  have N62 := Fr.snoc X62 N61 ge_a1
  have O63 := O59.wr W62 ge_a1
  have K62 := K58.wr W62 (Or.inl (List.mem_of_getElem? (i := 0) rfl))
  have CR64 := CR60.trans (CHr.wr W62 (Safe.exa hZ46.alike ((((((((((((((((E_a1.ext E2).keep K5q).wr W7).ext E10).wr W15).wr W19).wr W24).wr W27).ext E30).wr W35).ext E38).wr W43).ext E46).wr W51).keep K54q).wr W58) (by decide) (by decide)) CR60.1)
  have sg65 : ∀ target, Steps p.tables e below (T62.setTop (mkF m 186 #[Rf a1, Rf a2, Rf a3, Rf a4, It p5, Rf a6, Rf a7, Rf a8, Rf a9, Rf a10, Rf a11, Rf r_54, .unset] [])) target → Steps p.tables e below (s₁.setTop (mkF m 0 #[Rf a1, Rf a2, Rf a3, Rf a4, It p5, Rf a6, Rf a7, Rf a8, Rf a9, Rf a10, Rf a11, .unset, .unset] [])) target := by
    intro target kt
    show Steps p.tables e below (s₁.setTop (mkF m 0 #[Rf a1, Rf a2, Rf a3, Rf a4, It p5, Rf a6, Rf a7, Rf a8, Rf a9, Rf a10, Rf a11, .unset, .unset] [])) _
    refine XS.aloadN X0.here hx rfl (hb hby d11_0) rfl rfl ?_
    show Steps p.tables e below (s₁.setTop (mkF m 1 #[Rf a1, Rf a2, Rf a3, Rf a4, It p5, Rf a6, Rf a7, Rf a8, Rf a9, Rf a10, Rf a11, .unset, .unset] [(.ref a1)])) _
    refine st1 _ ?_
    show Steps p.tables e below (T1.setTop (mkF m 4 #[Rf a1, Rf a2, Rf a3, Rf a4, It p5, Rf a6, Rf a7, Rf a8, Rf a9, Rf a10, Rf a11, .unset, .unset] [])) _
    refine XS.aloadN X1.here hx rfl (hb hby d11_4) rfl rfl ?_
    show Steps p.tables e below (T1.setTop (mkF m 5 #[Rf a1, Rf a2, Rf a3, Rf a4, It p5, Rf a6, Rf a7, Rf a8, Rf a9, Rf a10, Rf a11, .unset, .unset] [(.ref a1)])) _
    refine st2 _ ?_
    show Steps p.tables e below (T2.setTop (mkF m 8 #[Rf a1, Rf a2, Rf a3, Rf a4, It p5, Rf a6, Rf a7, Rf a8, Rf a9, Rf a10, Rf a11, .unset, .unset] [(.ref b2), (.ref a1)])) _
    refine XS.dup X2.here hx rfl (hb hby d11_8) rfl rfl ?_
    show Steps p.tables e below (T2.setTop (mkF m 9 #[Rf a1, Rf a2, Rf a3, Rf a4, It p5, Rf a6, Rf a7, Rf a8, Rf a9, Rf a10, Rf a11, .unset, .unset] [(.ref b2), (.ref b2), (.ref a1)])) _
    refine st5.trans ?_
    show Steps p.tables e below (T5.setTop (mkF m 12 #[Rf a1, Rf a2, Rf a3, Rf a4, It p5, Rf a6, Rf a7, Rf a8, Rf a9, Rf a10, Rf a11, .unset, .unset] [(.ref b2), (.ref a1)])) _
    refine st7 _ ?_
    show Steps p.tables e below (T7.setTop (mkF m 15 #[Rf a1, Rf a2, Rf a3, Rf a4, It p5, Rf a6, Rf a7, Rf a8, Rf a9, Rf a10, Rf a11, .unset, .unset] [])) _
    refine XS.aloadN X7.here hx rfl (hb hby d11_15) rfl rfl ?_
    show Steps p.tables e below (T7.setTop (mkF m 16 #[Rf a1, Rf a2, Rf a3, Rf a4, It p5, Rf a6, Rf a7, Rf a8, Rf a9, Rf a10, Rf a11, .unset, .unset] [(.ref a1)])) _
    refine XS.aloadN X7.here hx rfl (hb hby d11_16) rfl rfl ?_
    show Steps p.tables e below (T7.setTop (mkF m 17 #[Rf a1, Rf a2, Rf a3, Rf a4, It p5, Rf a6, Rf a7, Rf a8, Rf a9, Rf a10, Rf a11, .unset, .unset] [(.ref a2), (.ref a1)])) _
    refine st10 _ ?_
    show Steps p.tables e below (T10.setTop (mkF m 19 #[Rf a1, Rf a2, Rf a3, Rf a4, It p5, Rf a6, Rf a7, Rf a8, Rf a9, Rf a10, Rf a11, .unset, .unset] [(.ref sa10), (.ref a2), (.ref a1)])) _
    refine st13 _ ?_
    show Steps p.tables e below (T13.setTop (mkF m 22 #[Rf a1, Rf a2, Rf a3, Rf a4, It p5, Rf a6, Rf a7, Rf a8, Rf a9, Rf a10, Rf a11, .unset, .unset] [(.ref a2), (.ref a1)])) _
    refine st14 _ ?_
    show Steps p.tables e below (T14.setTop (mkF m 25 #[Rf a1, Rf a2, Rf a3, Rf a4, It p5, Rf a6, Rf a7, Rf a8, Rf a9, Rf a10, Rf a11, .unset, .unset] [(.ref a2), (.ref a1)])) _
    refine st15 _ ?_
    show Steps p.tables e below (T15.setTop (mkF m 28 #[Rf a1, Rf a2, Rf a3, Rf a4, It p5, Rf a6, Rf a7, Rf a8, Rf a9, Rf a10, Rf a11, .unset, .unset] [])) _
    refine XS.aloadN X15.here hx rfl (hb hby d11_28) rfl rfl ?_
    show Steps p.tables e below (T15.setTop (mkF m 29 #[Rf a1, Rf a2, Rf a3, Rf a4, It p5, Rf a6, Rf a7, Rf a8, Rf a9, Rf a10, Rf a11, .unset, .unset] [(.ref a1)])) _
    refine XS.aloadN X15.here hx rfl (hb hby d11_29) rfl rfl ?_
    show Steps p.tables e below (T15.setTop (mkF m 30 #[Rf a1, Rf a2, Rf a3, Rf a4, It p5, Rf a6, Rf a7, Rf a8, Rf a9, Rf a10, Rf a11, .unset, .unset] [(.ref a3), (.ref a1)])) _
    refine XS.aconstNull X15.here hx rfl (hb hby d11_30) ?_
    show Steps p.tables e below (T15.setTop (mkF m 31 #[Rf a1, Rf a2, Rf a3, Rf a4, It p5, Rf a6, Rf a7, Rf a8, Rf a9, Rf a10, Rf a11, .unset, .unset] [.null, (.ref a3), (.ref a1)])) _
    refine st18.trans ?_
    show Steps p.tables e below (T18.setTop (mkF m 34 #[Rf a1, Rf a2, Rf a3, Rf a4, It p5, Rf a6, Rf a7, Rf a8, Rf a9, Rf a10, Rf a11, .unset, .unset] [.null, (.ref a1)])) _
    refine X18.checkcastNull hx (g := (mkF m 34 #[Rf a1, Rf a2, Rf a3, Rf a4, It p5, Rf a6, Rf a7, Rf a8, Rf a9, Rf a10, Rf a11, .unset, .unset] [.null, (.ref a1)])) rfl rfl (hb hby d11_34) _ ?_
    show Steps p.tables e below (T18.setTop (mkF m 37 #[Rf a1, Rf a2, Rf a3, Rf a4, It p5, Rf a6, Rf a7, Rf a8, Rf a9, Rf a10, Rf a11, .unset, .unset] [.null, (.ref a1)])) _
    refine st19 _ ?_
    show Steps p.tables e below (T19.setTop (mkF m 40 #[Rf a1, Rf a2, Rf a3, Rf a4, It p5, Rf a6, Rf a7, Rf a8, Rf a9, Rf a10, Rf a11, .unset, .unset] [])) _
    refine XS.aloadN X19.here hx rfl (hb hby d11_40) rfl rfl ?_
    show Steps p.tables e below (T19.setTop (mkF m 41 #[Rf a1, Rf a2, Rf a3, Rf a4, It p5, Rf a6, Rf a7, Rf a8, Rf a9, Rf a10, Rf a11, .unset, .unset] [(.ref a1)])) _
    refine XS.aloadN X19.here hx rfl (hb hby d11_41) rfl rfl ?_
    show Steps p.tables e below (T19.setTop (mkF m 42 #[Rf a1, Rf a2, Rf a3, Rf a4, It p5, Rf a6, Rf a7, Rf a8, Rf a9, Rf a10, Rf a11, .unset, .unset] [(.ref a4), (.ref a1)])) _
    refine XS.aconstNull X19.here hx rfl (hb hby d11_42) ?_
    show Steps p.tables e below (T19.setTop (mkF m 43 #[Rf a1, Rf a2, Rf a3, Rf a4, It p5, Rf a6, Rf a7, Rf a8, Rf a9, Rf a10, Rf a11, .unset, .unset] [.null, (.ref a4), (.ref a1)])) _
    refine st22.trans ?_
    show Steps p.tables e below (T22.setTop (mkF m 46 #[Rf a1, Rf a2, Rf a3, Rf a4, It p5, Rf a6, Rf a7, Rf a8, Rf a9, Rf a10, Rf a11, .unset, .unset] [(.ref dv), (.ref a1)])) _
    refine st23 _ ?_
    show Steps p.tables e below (T23.setTop (mkF m 49 #[Rf a1, Rf a2, Rf a3, Rf a4, It p5, Rf a6, Rf a7, Rf a8, Rf a9, Rf a10, Rf a11, .unset, .unset] [(.ref dv), (.ref a1)])) _
    refine st24 _ ?_
    show Steps p.tables e below (T24.setTop (mkF m 52 #[Rf a1, Rf a2, Rf a3, Rf a4, It p5, Rf a6, Rf a7, Rf a8, Rf a9, Rf a10, Rf a11, .unset, .unset] [])) _
    refine XS.aloadN X24.here hx rfl (hb hby d11_52) rfl rfl ?_
    show Steps p.tables e below (T24.setTop (mkF m 53 #[Rf a1, Rf a2, Rf a3, Rf a4, It p5, Rf a6, Rf a7, Rf a8, Rf a9, Rf a10, Rf a11, .unset, .unset] [(.ref a1)])) _
    refine XS.iload X24.here hx rfl (hb hby d11_53) rfl ?_
    show Steps p.tables e below (T24.setTop (mkF m 55 #[Rf a1, Rf a2, Rf a3, Rf a4, It p5, Rf a6, Rf a7, Rf a8, Rf a9, Rf a10, Rf a11, .unset, .unset] [(.int p5), (.ref a1)])) _
    refine st27 _ ?_
    show Steps p.tables e below (T27.setTop (mkF m 58 #[Rf a1, Rf a2, Rf a3, Rf a4, It p5, Rf a6, Rf a7, Rf a8, Rf a9, Rf a10, Rf a11, .unset, .unset] [])) _
    refine XS.aloadN X27.here hx rfl (hb hby d11_58) rfl rfl ?_
    show Steps p.tables e below (T27.setTop (mkF m 59 #[Rf a1, Rf a2, Rf a3, Rf a4, It p5, Rf a6, Rf a7, Rf a8, Rf a9, Rf a10, Rf a11, .unset, .unset] [(.ref a1)])) _
    refine XS.aload X27.here hx rfl (hb hby d11_59) rfl rfl ?_
    show Steps p.tables e below (T27.setTop (mkF m 61 #[Rf a1, Rf a2, Rf a3, Rf a4, It p5, Rf a6, Rf a7, Rf a8, Rf a9, Rf a10, Rf a11, .unset, .unset] [(.ref a6), (.ref a1)])) _
    refine st30 _ ?_
    show Steps p.tables e below (T30.setTop (mkF m 63 #[Rf a1, Rf a2, Rf a3, Rf a4, It p5, Rf a6, Rf a7, Rf a8, Rf a9, Rf a10, Rf a11, .unset, .unset] [(.ref sa30), (.ref a6), (.ref a1)])) _
    refine st33 _ ?_
    show Steps p.tables e below (T33.setTop (mkF m 66 #[Rf a1, Rf a2, Rf a3, Rf a4, It p5, Rf a6, Rf a7, Rf a8, Rf a9, Rf a10, Rf a11, .unset, .unset] [(.ref a6), (.ref a1)])) _
    refine st34 _ ?_
    show Steps p.tables e below (T34.setTop (mkF m 69 #[Rf a1, Rf a2, Rf a3, Rf a4, It p5, Rf a6, Rf a7, Rf a8, Rf a9, Rf a10, Rf a11, .unset, .unset] [(.ref a6), (.ref a1)])) _
    refine st35 _ ?_
    show Steps p.tables e below (T35.setTop (mkF m 72 #[Rf a1, Rf a2, Rf a3, Rf a4, It p5, Rf a6, Rf a7, Rf a8, Rf a9, Rf a10, Rf a11, .unset, .unset] [])) _
    refine XS.aloadN X35.here hx rfl (hb hby d11_72) rfl rfl ?_
    show Steps p.tables e below (T35.setTop (mkF m 73 #[Rf a1, Rf a2, Rf a3, Rf a4, It p5, Rf a6, Rf a7, Rf a8, Rf a9, Rf a10, Rf a11, .unset, .unset] [(.ref a1)])) _
    refine XS.aload X35.here hx rfl (hb hby d11_73) rfl rfl ?_
    show Steps p.tables e below (T35.setTop (mkF m 75 #[Rf a1, Rf a2, Rf a3, Rf a4, It p5, Rf a6, Rf a7, Rf a8, Rf a9, Rf a10, Rf a11, .unset, .unset] [(.ref a7), (.ref a1)])) _
    refine st38 _ ?_
    show Steps p.tables e below (T38.setTop (mkF m 77 #[Rf a1, Rf a2, Rf a3, Rf a4, It p5, Rf a6, Rf a7, Rf a8, Rf a9, Rf a10, Rf a11, .unset, .unset] [(.ref sa38), (.ref a7), (.ref a1)])) _
    refine st41 _ ?_
    show Steps p.tables e below (T41.setTop (mkF m 80 #[Rf a1, Rf a2, Rf a3, Rf a4, It p5, Rf a6, Rf a7, Rf a8, Rf a9, Rf a10, Rf a11, .unset, .unset] [(.ref a7), (.ref a1)])) _
    refine st42 _ ?_
    show Steps p.tables e below (T42.setTop (mkF m 83 #[Rf a1, Rf a2, Rf a3, Rf a4, It p5, Rf a6, Rf a7, Rf a8, Rf a9, Rf a10, Rf a11, .unset, .unset] [(.ref a7), (.ref a1)])) _
    refine st43 _ ?_
    show Steps p.tables e below (T43.setTop (mkF m 86 #[Rf a1, Rf a2, Rf a3, Rf a4, It p5, Rf a6, Rf a7, Rf a8, Rf a9, Rf a10, Rf a11, .unset, .unset] [])) _
    refine XS.aloadN X43.here hx rfl (hb hby d11_86) rfl rfl ?_
    show Steps p.tables e below (T43.setTop (mkF m 87 #[Rf a1, Rf a2, Rf a3, Rf a4, It p5, Rf a6, Rf a7, Rf a8, Rf a9, Rf a10, Rf a11, .unset, .unset] [(.ref a1)])) _
    refine XS.aload X43.here hx rfl (hb hby d11_87) rfl rfl ?_
    show Steps p.tables e below (T43.setTop (mkF m 89 #[Rf a1, Rf a2, Rf a3, Rf a4, It p5, Rf a6, Rf a7, Rf a8, Rf a9, Rf a10, Rf a11, .unset, .unset] [(.ref a8), (.ref a1)])) _
    refine st46 _ ?_
    show Steps p.tables e below (T46.setTop (mkF m 91 #[Rf a1, Rf a2, Rf a3, Rf a4, It p5, Rf a6, Rf a7, Rf a8, Rf a9, Rf a10, Rf a11, .unset, .unset] [(.ref sa46), (.ref a8), (.ref a1)])) _
    refine st49 _ ?_
    show Steps p.tables e below (T49.setTop (mkF m 94 #[Rf a1, Rf a2, Rf a3, Rf a4, It p5, Rf a6, Rf a7, Rf a8, Rf a9, Rf a10, Rf a11, .unset, .unset] [(.ref a8), (.ref a1)])) _
    refine st50 _ ?_
    show Steps p.tables e below (T50.setTop (mkF m 97 #[Rf a1, Rf a2, Rf a3, Rf a4, It p5, Rf a6, Rf a7, Rf a8, Rf a9, Rf a10, Rf a11, .unset, .unset] [(.ref a8), (.ref a1)])) _
    refine st51 _ ?_
    show Steps p.tables e below (T51.setTop (mkF m 100 #[Rf a1, Rf a2, Rf a3, Rf a4, It p5, Rf a6, Rf a7, Rf a8, Rf a9, Rf a10, Rf a11, .unset, .unset] [])) _
    refine XS.aload X51.here hx rfl (hb hby d11_100) rfl rfl ?_
    show Steps p.tables e below (T51.setTop (mkF m 102 #[Rf a1, Rf a2, Rf a3, Rf a4, It p5, Rf a6, Rf a7, Rf a8, Rf a9, Rf a10, Rf a11, .unset, .unset] [(.ref a9)])) _
    refine st54.trans ?_
    show Steps p.tables e below (T54.setTop (mkF m 107 #[Rf a1, Rf a2, Rf a3, Rf a4, It p5, Rf a6, Rf a7, Rf a8, Rf a9, Rf a10, Rf a11, .unset, .unset] [(.ref r_54)])) _
    refine XS.astore X54.here hx rfl (hb hby d11_107) rfl rfl (l' := #[Rf a1, Rf a2, Rf a3, Rf a4, It p5, Rf a6, Rf a7, Rf a8, Rf a9, Rf a10, Rf a11, Rf r_54, .unset]) rfl ?_
    show Steps p.tables e below (T54.setTop (mkF m 109 #[Rf a1, Rf a2, Rf a3, Rf a4, It p5, Rf a6, Rf a7, Rf a8, Rf a9, Rf a10, Rf a11, Rf r_54, .unset] [])) _
    refine XS.aload X54.here hx rfl (hb hby d11_109) rfl rfl ?_
    show Steps p.tables e below (T54.setTop (mkF m 111 #[Rf a1, Rf a2, Rf a3, Rf a4, It p5, Rf a6, Rf a7, Rf a8, Rf a9, Rf a10, Rf a11, Rf r_54, .unset] [(.ref r_54)])) _
    refine st56.trans ?_
    show Steps p.tables e below (T56.setTop (mkF m 116 #[Rf a1, Rf a2, Rf a3, Rf a4, It p5, Rf a6, Rf a7, Rf a8, Rf a9, Rf a10, Rf a11, Rf r_54, .unset] [(.int (0 : Int32))])) _
    refine XS.ifYes X56.here hx rfl (pc0 := 116) (pc' := 164) rfl (hb hby d11_116) rfl ((if0 _ _).trans (teq (by decide : (0 : Int32) = (0 : Int32))).1) (by decide) (by decide) ?_
    show Steps p.tables e below (T56.setTop (mkF m 164 #[Rf a1, Rf a2, Rf a3, Rf a4, It p5, Rf a6, Rf a7, Rf a8, Rf a9, Rf a10, Rf a11, Rf r_54, .unset] [])) _
    refine XS.aloadN X56.here hx rfl (hb hby d11_164) rfl rfl ?_
    show Steps p.tables e below (T56.setTop (mkF m 165 #[Rf a1, Rf a2, Rf a3, Rf a4, It p5, Rf a6, Rf a7, Rf a8, Rf a9, Rf a10, Rf a11, Rf r_54, .unset] [(.ref a1)])) _
    refine XS.aload X56.here hx rfl (hb hby d11_165) rfl rfl ?_
    show Steps p.tables e below (T56.setTop (mkF m 167 #[Rf a1, Rf a2, Rf a3, Rf a4, It p5, Rf a6, Rf a7, Rf a8, Rf a9, Rf a10, Rf a11, Rf r_54, .unset] [(.ref a10), (.ref a1)])) _
    refine st57 _ ?_
    show Steps p.tables e below (T57.setTop (mkF m 170 #[Rf a1, Rf a2, Rf a3, Rf a4, It p5, Rf a6, Rf a7, Rf a8, Rf a9, Rf a10, Rf a11, Rf r_54, .unset] [(.ref a10), (.ref a1)])) _
    refine st58 _ ?_
    show Steps p.tables e below (T58.setTop (mkF m 173 #[Rf a1, Rf a2, Rf a3, Rf a4, It p5, Rf a6, Rf a7, Rf a8, Rf a9, Rf a10, Rf a11, Rf r_54, .unset] [])) _
    refine XS.aloadN X58.here hx rfl (hb hby d11_173) rfl rfl ?_
    show Steps p.tables e below (T58.setTop (mkF m 174 #[Rf a1, Rf a2, Rf a3, Rf a4, It p5, Rf a6, Rf a7, Rf a8, Rf a9, Rf a10, Rf a11, Rf r_54, .unset] [(.ref a1)])) _
    refine XS.aload X58.here hx rfl (hb hby d11_174) rfl rfl ?_
    show Steps p.tables e below (T58.setTop (mkF m 176 #[Rf a1, Rf a2, Rf a3, Rf a4, It p5, Rf a6, Rf a7, Rf a8, Rf a9, Rf a10, Rf a11, Rf r_54, .unset] [(.ref a11), (.ref a1)])) _
    refine XS.aconstNull X58.here hx rfl (hb hby d11_176) ?_
    show Steps p.tables e below (T58.setTop (mkF m 177 #[Rf a1, Rf a2, Rf a3, Rf a4, It p5, Rf a6, Rf a7, Rf a8, Rf a9, Rf a10, Rf a11, Rf r_54, .unset] [.null, (.ref a11), (.ref a1)])) _
    refine st61.trans ?_
    show Steps p.tables e below (T61.setTop (mkF m 180 #[Rf a1, Rf a2, Rf a3, Rf a4, It p5, Rf a6, Rf a7, Rf a8, Rf a9, Rf a10, Rf a11, Rf r_54, .unset] [.null, (.ref a1)])) _
    refine X61.checkcastNull hx (g := (mkF m 180 #[Rf a1, Rf a2, Rf a3, Rf a4, It p5, Rf a6, Rf a7, Rf a8, Rf a9, Rf a10, Rf a11, Rf r_54, .unset] [.null, (.ref a1)])) rfl rfl (hb hby d11_180) _ ?_
    show Steps p.tables e below (T61.setTop (mkF m 183 #[Rf a1, Rf a2, Rf a3, Rf a4, It p5, Rf a6, Rf a7, Rf a8, Rf a9, Rf a10, Rf a11, Rf r_54, .unset] [.null, (.ref a1)])) _
    refine st62 _ ?_
    exact kt
  obtain ⟨fs, hr, hrun, hended, hRW⟩ := X62.leaveW Y46 (show _ ≤ T62.heap.size by rw [e62]; exact (Nat.le_trans (Nat.le_trans (Nat.le_trans (Nat.le_trans Yk46 (Keep.of_wr W51).1) K54q.1) (Keep.of_wr W58).1) (Keep.of_wr W62).1)) (v := none) (fun _ => rfl)
  refine ⟨_, _, pre0 _ (sg65 _ (?_)), hrun, hended, _, _, rfl, ?_, (by rw [hh]; show CHr Z own_EL s.vm h0 T62.vm T62.heap; rw [e62]; exact CR64.trans (CHv.at X62 hZ46 hEL CR64.1)), hRW.1, hRW.2.1, hRW.2.2.1, hRW.2.2.2.mono (by decide) (by decide)⟩
  · show Steps p.tables e below (T62.setTop (mkF m 186 #[Rf a1, Rf a2, Rf a3, Rf a4, It p5, Rf a6, Rf a7, Rf a8, Rf a9, Rf a10, Rf a11, Rf r_54, .unset] [])) _
    exact X62.returnOut hx Bd.returns (hb hby d11_186) hr
  · show Q11_01 Z a1 a2 a3 a4 p5 a6 a7 a8 a9 a10 a11 dv h0 n0 _ T62.heap _
    rw [e62]
    exact ⟨rfl, N62, K62, O63, (((((((((((Fw19.other W24 (sn (.object "com/example/legacy_to_latest/legacytolatest/EntityClass$Morphia") (.object "java/lang/String") (Or.inr (tw hw 118 rfl)) (Or.inr (tw hw 120 rfl)))).other W27 (sn (.object "com/example/legacy_to_latest/legacytolatest/EntityClass$Morphia") .boolean (Or.inr (tw hw 118 rfl)) (Or.inr (tw hw 122 rfl)))).ext E30).other W35 (sn (.object "com/example/legacy_to_latest/legacytolatest/EntityClass$Morphia") (.object "java/lang/String") (Or.inr (tw hw 118 rfl)) (Or.inr (tw hw 125 rfl)))).ext E38).other W43 (sn (.object "com/example/legacy_to_latest/legacytolatest/EntityClass$Morphia") (.object "java/lang/String") (Or.inr (tw hw 118 rfl)) (Or.inr (tw hw 128 rfl)))).ext E46).other W51 (sn (.object "com/example/legacy_to_latest/legacytolatest/EntityClass$Morphia") (.object "java/lang/String") (Or.inr (tw hw 118 rfl)) (Or.inr (tw hw 131 rfl)))).keep K54q nin0).other W58 (sn (.object "com/example/legacy_to_latest/legacytolatest/EntityClass$Morphia") (.object "java/util/Map") (Or.inr (tw hw 118 rfl)) (Or.inr (tw hw 176 rfl)))).other W62 (sn (.object "com/example/legacy_to_latest/legacytolatest/EntityClass$Morphia") (.object "java/lang/String") (Or.inr (tw hw 118 rfl)) (Or.inr (tw hw 178 rfl)))), ((((((((((Fw24.other W27 (sn (.object "java/lang/String") .boolean (Or.inr (tw hw 120 rfl)) (Or.inr (tw hw 122 rfl)))).ext E30).other W35 (sn (.object "java/lang/String") (.object "java/lang/String") (Or.inr (tw hw 120 rfl)) (Or.inr (tw hw 125 rfl)))).ext E38).other W43 (sn (.object "java/lang/String") (.object "java/lang/String") (Or.inr (tw hw 120 rfl)) (Or.inr (tw hw 128 rfl)))).ext E46).other W51 (sn (.object "java/lang/String") (.object "java/lang/String") (Or.inr (tw hw 120 rfl)) (Or.inr (tw hw 131 rfl)))).keep K54q nin0).other W58 (sn (.object "java/lang/String") (.object "java/util/Map") (Or.inr (tw hw 120 rfl)) (Or.inr (tw hw 176 rfl)))).other W62 (sn (.object "java/lang/String") (.object "java/lang/String") (Or.inr (tw hw 120 rfl)) (Or.inr (tw hw 178 rfl))))⟩
def Q11_10 (Z : State) (a1 : Addr) (a2 : Addr) (a3 : Addr) (a4 : Addr) (p5 : Int32) (a6 : Addr) (a7 : Addr) (a8 : Addr) (a9 : Addr) (a10 : Addr) (a11 : Addr) (mv : Addr) (h0 : Heap) (n0 : Nat) (v : Option Value) (h : Heap) (L : List Loc) : Prop := v = none ∧ Fr n0 L ∧ Keep h0 h [a1] ∧ Old Z n0 h ∧ Fld Z h a1 "com/example/legacy_to_latest/legacytolatest/EntityClass" "morphia" "Lcom/example/legacy_to_latest/legacytolatest/EntityClass$Morphia;" (.ref mv) ∧ Fld Z h a1 "com/example/legacy_to_latest/legacytolatest/EntityClass" "discriminator" "Ljava/lang/String;" .null
theorem ef_11_10 (m : MethodId) (x0 : Addr) (x1 : Addr) (x2 : Addr) (x3 : Addr) (x4 : Int32) (x5 : Addr) (x6 : Addr) (x7 : Addr) (x8 : Addr) (x9 : Addr) (x10 : Addr) : entryFrame m #[(.ref x0), (.ref x1), (.ref x2), (.ref x3), (.int x4), (.ref x5), (.ref x6), (.ref x7), (.ref x8), (.ref x9), (.ref x10)] 13 = mkF m 0 #[.val (.ref x0), .val (.ref x1), .val (.ref x2), .val (.ref x3), .val (.int x4), .val (.ref x5), .val (.ref x6), .val (.ref x7), .val (.ref x8), .val (.ref x9), .val (.ref x10), .unset, .unset] [] := by first | (simp [entryFrame, mkF, argsToLocals, Value.category]; done) | rfl
set_option maxRecDepth 65536 in
set_option maxHeartbeats 40000000 in
theorem rm11_10 (l : Launch) (Z : State) (a0 : Array Value) (hw : ∀ d ∈ tables_1, d.before a0 Z = true) (ws : List Jvm.Cond) (a1 : Addr) (a2 : Addr) (a3 : Addr) (a4 : Addr) (p5 : Int32) (a6 : Addr) (a7 : Addr) (a8 : Addr) (a9 : Addr) (a10 : Addr) (a11 : Addr) (mv : Addr) (h0 : Heap) (n0 : Nat) (O0 : Old Z n0 h0) (E_a1 : Exa Z h0 a1 "com/example/legacy_to_latest/legacytolatest/EntityClass") (F_fields_a1 : Fld Z h0 a1 "com/example/legacy_to_latest/legacytolatest/EntityClass" "fields" "Ljava/util/Map;" .null) (F_kind_a1 : Fld Z h0 a1 "com/example/legacy_to_latest/legacytolatest/EntityClass" "kind" "Ljava/lang/String;" .null) (F_morphia_a1 : Fld Z h0 a1 "com/example/legacy_to_latest/legacytolatest/EntityClass" "morphia" "Lcom/example/legacy_to_latest/legacytolatest/EntityClass$Morphia;" .null) (F_discriminator_a1 : Fld Z h0 a1 "com/example/legacy_to_latest/legacytolatest/EntityClass" "discriminator" "Ljava/lang/String;" .null) (F_abstractClass_a1 : Fld Z h0 a1 "com/example/legacy_to_latest/legacytolatest/EntityClass" "abstractClass" "Z" (.int (0 : Int32))) (F_className_a1 : Fld Z h0 a1 "com/example/legacy_to_latest/legacytolatest/EntityClass" "className" "Ljava/lang/String;" .null) (F_binaryName_a1 : Fld Z h0 a1 "com/example/legacy_to_latest/legacytolatest/EntityClass" "binaryName" "Ljava/lang/String;" .null) (F_source_a1 : Fld Z h0 a1 "com/example/legacy_to_latest/legacytolatest/EntityClass" "source" "Ljava/lang/String;" .null) (F_keyParts_a1 : Fld Z h0 a1 "com/example/legacy_to_latest/legacytolatest/EntityClass" "keyParts" "Ljava/util/Map;" .null) (F_unreadSuperclass_a1 : Fld Z h0 a1 "com/example/legacy_to_latest/legacytolatest/EntityClass" "unreadSuperclass" "Ljava/lang/String;" .null) (ge_a1 : n0 ≤ a1) (E_a2 : Exa Z h0 a2 "java/lang/String") (E_a6 : Exa Z h0 a6 "java/lang/String") (E_a7 : Exa Z h0 a7 "java/lang/String") (E_a8 : Exa Z h0 a8 "java/lang/String") (E_a3 : Exa Z h0 a3 "java/util/Optional") (F_value_a3 : Fld Z h0 a3 "java/util/Optional" "value" "Ljava/lang/Object;" (.ref mv)) (E_a4 : Exa Z h0 a4 "java/util/Optional") (F_value_a4 : Fld Z h0 a4 "java/util/Optional" "value" "Ljava/lang/Object;" .null) (E_a11 : Exa Z h0 a11 "java/util/Optional") (F_value_a11 : Fld Z h0 a11 "java/util/Optional" "value" "Ljava/lang/Object;" .null) (E_a9 : Exa Z h0 a9 "java/util/ArrayList") (F_modCount_a9 : Fld Z h0 a9 "java/util/AbstractList" "modCount" "I" (.int (0 : Int32))) (F_size_a9 : Fld Z h0 a9 "java/util/ArrayList" "size" "I" (.int (0 : Int32))) (E_a10 : Exa Z h0 a10 "java/util/ImmutableCollections$MapN") (E_mv : Exa Z h0 mv "com/example/legacy_to_latest/legacytolatest/EntityClass$Morphia") :
    MetFree l (⟨"com/example/legacy_to_latest/legacytolatest/EntityClass", "<init>", "(Ljava/lang/String;Ljava/util/Optional;Ljava/util/Optional;ZLjava/lang/String;Ljava/lang/String;Ljava/lang/String;Ljava/util/List;Ljava/util/Map;Ljava/util/Optional;)V"⟩ : MethodName) (head1 (Jvm.Cond.code (⟨"com/example/legacy_to_latest/legacytolatest/EntityClass", "<init>", "(Ljava/lang/String;Ljava/util/Optional;Ljava/util/Optional;ZLjava/lang/String;Ljava/lang/String;Ljava/lang/String;Ljava/util/List;Ljava/util/Map;Ljava/util/Optional;)V"⟩ : MethodName) prog_6_method_1_code 13 none :: ws) ({ frames := 4, cells := 10, slots := 148, locals := 50 } : Room)) (fun a U => a = #[(.ref a1), (.ref a2), (.ref a3), (.ref a4), (.int p5), (.ref a6), (.ref a7), (.ref a8), (.ref a9), (.ref a10), (.ref a11)] ∧ Z.Warmed39 U.vm ∧ U.heap = h0 ∧ CHv Z own_EL U.vm h0) (fun _ _ _ _ _ => True) (fun _ U o U' => ∃ v L, o = .returned v ∧ Q11_10 Z a1 a2 a3 a4 p5 a6 a7 a8 a9 a10 a11 mv h0 n0 v U'.heap L ∧ CHr Z own_EL U.vm U.heap U'.vm U'.heap ∧ ReturnedEndW U o U' L ({ frames := 4, cells := 10, slots := 148, locals := 50 } : Room).cells ({ frames := 4, cells := 10, slots := 148, locals := 50 } : Room).slots) := by
  refine MetFree.of_bodySF (plainFor_of_name pn_12) hisR ?_
  intro p e s m args below meth c s₁ Bd hml0 hP hK
  obtain ⟨rfl, hZ, hh, hCH⟩ := hP
  have hx := Bd.exec
  have hby := Bd.bytes
  have hml : c.maxLocals = 13 := hml0
  have hown : s.vm.findClass "com/example/legacy_to_latest/legacytolatest/EntityClass" = some m.cls := findClass_of_methodNamed Bd.named
  have hnm := (name_of_methodNamed Bd.named Bd.method).1
  have X0 : Stand p l e ({ frames := 4, cells := 10, slots := 148, locals := 50 } : Room) (s.setVm s.vm) m #[(.ref a1), (.ref a2), (.ref a3), (.ref a4), (.int p5), (.ref a6), (.ref a7), (.ref a8), (.ref a9), (.ref a10), (.ref a11)] below meth c s₁ [] 0 0 := Stand.of_body Bd
  have e0 : s₁.heap = h0 := by rw [← hh, Bd.state]; rfl
  have N0 := Fr.nil n0
  have pre0 : ∀ t, Steps p.tables e below (s₁.setTop (mkF m 0 #[.val (.ref a1), .val (.ref a2), .val (.ref a3), .val (.ref a4), .val (.int p5), .val (.ref a6), .val (.ref a7), .val (.ref a8), .val (.ref a9), .val (.ref a10), .val (.ref a11), .unset, .unset] [])) t → Steps p.tables e below (s₁.setTop (entryFrame m #[(.ref a1), (.ref a2), (.ref a3), (.ref a4), (.int p5), (.ref a6), (.ref a7), (.ref a8), (.ref a9), (.ref a10), (.ref a11)] 13)) t := fun t k => castTop (ef_11_10 m a1 a2 a3 a4 p5 a6 a7 a8 a9 a10 a11) k
  have Y0 : s.Since s.vm h0.size := (State.WarmedH.refl s).since h0.size
  have Yk0 : h0.size ≤ h0.size := Nat.le_refl _
  have CR0 : CHr Z own_EL s.vm h0 s.vm h0 := CHr.refl hCH
  have hEL := own_EW hw
  have hSA := own_SA hw
  have K0 := Keep.refl h0 [a1]
  obtain ⟨T1, X1, e1, st1⟩ := initO X0 hx hZ hown (tw hw 73 rfl) (tw hw 21 rfl) (tw hw 22 rfl) e0 (g := (mkF m 1 #[Rf a1, Rf a2, Rf a3, Rf a4, It p5, Rf a6, Rf a7, Rf a8, Rf a9, Rf a10, Rf a11, .unset, .unset] [(.ref a1)])) rfl (by rw [hml]; rfl) rfl (hb hby d11_1) (by decide) (W := 0) (by show 2 * 0 + _ ≤ _; exact Nat.le_of_eq rfl) (by decide)
  obtain ⟨T2, h2, X2, e2, E2, A2, D2, -, st2⟩ := newO X1 hx hZ hown (tw hw 74 rfl) (tw hw 75 rfl) (tw hw 76 rfl) e1 (g := (mkF m 5 #[Rf a1, Rf a2, Rf a3, Rf a4, It p5, Rf a6, Rf a7, Rf a8, Rf a9, Rf a10, Rf a11, .unset, .unset] [(.ref a1)])) rfl (hb hby d11_5) (by decide) (by decide)
  obtain ⟨b2, g2⟩ : ∃ z, z = h0.size := ⟨_, rfl⟩
  rw [← g2] at A2 D2 st2
  have ge_b2 : n0 ≤ b2 := Nat.le_trans (own_osz O0) (Nat.le_of_eq g2.symm)
  have sz_b2 : h0.size ≤ b2 := Nat.le_trans K0.1 (Nat.le_of_eq g2.symm)
  have O3 := O0.ext E2
  have K2 := K0.ext E2
  have CR4 := CR0.trans (CHr.ext E2 CR0.1)
  have F_loadFactor_b2 : Fld Z h2 b2 "java/util/HashMap" "loadFactor" "F" (.float (0 : UInt32)) := D2 (Or.inr (tw hw 95 rfl)) (ty := .float) (by decide)
  have F_putMode_b2 : Fld Z h2 b2 "java/util/LinkedHashMap" "putMode" "I" (.int (0 : Int32)) := D2 (Or.inl (tw hw 97 rfl)) (ty := .int) (by decide)
  have F_accessOrder_b2 : Fld Z h2 b2 "java/util/LinkedHashMap" "accessOrder" "Z" (.int (0 : Int32)) := D2 (Or.inr (tw hw 99 rfl)) (ty := .boolean) (by decide)
  obtain ⟨_, _, ⟨T5, L5, k5, n5⟩, -, X5, ⟨Lc5, hQ5, l5, y5, z5⟩, st5⟩ := X2.specialBack hx (y := (⟨"java/util/LinkedHashMap", "<init>", "()V"⟩ : MethodName)) rfl hown (mvT hZ (tw hw 77 rfl)) (mvT hZ (tw hw 78 rfl)) (mvT hZ (tw hw 79 rfl)) (by decide) (backOf (W := 2) (rm12 l Z a0 hw [] b2 h2 n0 O3 A2 F_loadFactor_b2 F_putMode_b2 F_accessOrder_b2 ge_b2) hZ (tw hw 79 rfl) (tw hw 76 rfl) (by decide) (by decide)) (g := (mkF m 9 #[Rf a1, Rf a2, Rf a3, Rf a4, It p5, Rf a6, Rf a7, Rf a8, Rf a9, Rf a10, Rf a11, .unset, .unset] [(.ref b2), (.ref b2), (.ref a1)])) rfl (by rw [hml]; rfl) (Steps.refl _) (a := b2) (argsL := []) (rest := [(.ref b2), (.ref a1)]) (lenOf pd_5 rfl) rfl (by show 2 * 0 + _ ≤ _; exact Nat.le_of_eq rfl) (hb hby d11_9) (fun _ _ => ⟨rfl, e2, (by decide : 1 + 0 ≤ _), (by decide : 12 + 0 ≤ _)⟩)
  dsimp only [Pt.U, Pt.locs, Pt.cells, Pt.slots] at X5 l5 y5 z5 st5 hQ5
  subst l5 y5 z5
  obtain ⟨rfl, N5q, K5q, O5⟩ := hQ5
  have N5 := Fr.app N0 N5q
  have CR6 := CR4.trans (CHr.keep K5q (allS (Safe.exa hZ.alike A2 (by decide) (by decide)) all0) CR4.1)
  have K5 := K2.trans K5q (allS (Or.inr sz_b2) all0)
  obtain ⟨T7, h7, X7, e7, W7, st7⟩ := putF X5 hx hZ hown (host := "") (Or.inl (tw hw 100 rfl)) Via.refl rfl ((F_fields_a1.ext E2).keep K5q (ninS (Nat.ne_of_lt (Nat.lt_of_lt_of_le E_a1.lt (Nat.le_of_eq g2.symm))) nin0)) ((E_a1.ext E2).keep K5q) (Or.inr ⟨(tw hw 101 rfl), rfl, hnm⟩) (tw hw 39 rfl) (ty := (.object "java/util/Map")) (by decide) rfl rfl (g := (mkF m 12 #[Rf a1, Rf a2, Rf a3, Rf a4, It p5, Rf a6, Rf a7, Rf a8, Rf a9, Rf a10, Rf a11, .unset, .unset] [(.ref b2), (.ref a1)])) rfl rfl (hb hby d11_12)
  have Fw7 := ((F_fields_a1.ext E2).keep K5q (ninS (Nat.ne_of_lt (Nat.lt_of_lt_of_le E_a1.lt (Nat.le_of_eq g2.symm))) nin0)).same W7
  have N7 := Fr.snoc X7 N5 ge_a1
  have O8 := O5.wr W7 ge_a1
  have K7 := K5.wr W7 (Or.inl (List.mem_of_getElem? (i := 0) rfl))
  have CR9 := CR6.trans (CHr.wr W7 (Safe.exa hZ.alike ((E_a1.ext E2).keep K5q) (by decide) (by decide)) CR6.1)
  obtain ⟨sa10, T10, h10, k10, X10, e10, E10, Y10, Yk10, hZ10, hown10, C10, Lt10, st10⟩ := ldcOH X7 hx hZ hown (tw hw 102 rfl) hSA e7 Y0 (Nat.le_trans (Nat.le_trans (Nat.le_trans Yk0 E2.1) K5q.1) (Keep.of_wr W7).1) hEL CR9.1 (g := (mkF m 17 #[Rf a1, Rf a2, Rf a3, Rf a4, It p5, Rf a6, Rf a7, Rf a8, Rf a9, Rf a10, Rf a11, .unset, .unset] [(.ref a2), (.ref a1)])) rfl (hb hby d11_17) (n := 16) (by decide) (by decide) (by decide) (by decide)
  have O11 := O8.ext E10
  have K10 := K7.ext E10
  have CR12 := CR9.trans (C10)
  obtain ⟨_, _, ⟨T13, L13, k13, n13⟩, -, X13, ⟨Lc13, hQ13, l13, y13, z13⟩, st13⟩ := Jvm.LawKit.callS X10 hx (y := (⟨"java/util/Objects", "requireNonNull", "(Ljava/lang/Object;Ljava/lang/String;)Ljava/lang/Object;"⟩ : MethodName)) hown10 (mvT hZ10 (tw hw 103 rfl)) (mvT hZ10 (tw hw 104 rfl)) (mvT hZ10 (tw hw 105 rfl)) (mvT hZ10 (tw hw 106 rfl)) (by decide) (backOf (W := 1) (rm15 l Z a0 hw [] a2 sa10 h10 n0 O11 ) hZ10 (tw hw 106 rfl) (tw hw 105 rfl) (by decide) (by decide)) (g := (mkF m 19 #[Rf a1, Rf a2, Rf a3, Rf a4, It p5, Rf a6, Rf a7, Rf a8, Rf a9, Rf a10, Rf a11, .unset, .unset] [(.ref sa10), (.ref a2), (.ref a1)])) rfl (by rw [hml]; rfl) (argsL := [(.ref a2), (.ref sa10)]) (rest := [(.ref a1)]) (lenOf pd_7 rfl) rfl (by show 2 * 0 + _ ≤ _; exact Nat.le_of_eq rfl) (hb hby d11_19) (fun _ _ => ⟨rfl, e10, (by decide : 3 + 0 ≤ _), (by decide : 32 + 0 ≤ _)⟩)
  dsimp only [Pt.U, Pt.locs, Pt.cells, Pt.slots] at X13 l13 y13 z13 st13 hQ13
  subst l13 y13 z13
  obtain ⟨rfl, N13q, e13⟩ := hQ13
  have N13 := Fr.app N7 N13q
  obtain ⟨T14, X14, e14, st14⟩ := castY X13 hx hZ10 hown10 (tw hw 107 rfl) e13 (Ins.self ((((E_a2.ext E2).keep K5q).wr W7).ext E10)) (g := (mkF m 22 #[Rf a1, Rf a2, Rf a3, Rf a4, It p5, Rf a6, Rf a7, Rf a8, Rf a9, Rf a10, Rf a11, .unset, .unset] [(.ref a2), (.ref a1)])) rfl rfl (hb hby d11_22)
  obtain ⟨T15, h15, X15, e15, W15, st15⟩ := putF X14 hx hZ10 hown10 (host := "") (Or.inl (tw hw 108 rfl)) Via.refl e14 ((((F_kind_a1.ext E2).keep K5q (ninS (Nat.ne_of_lt (Nat.lt_of_lt_of_le E_a1.lt (Nat.le_of_eq g2.symm))) nin0)).other W7 (sn (.object "java/lang/String") (.object "java/util/Map") (Or.inr (tw hw 109 rfl)) (Or.inr (tw hw 101 rfl)))).ext E10) ((((E_a1.ext E2).keep K5q).wr W7).ext E10) (Or.inr ⟨(tw hw 109 rfl), rfl, hnm⟩) (tw hw 39 rfl) (ty := (.object "java/lang/String")) (by decide) rfl rfl (g := (mkF m 25 #[Rf a1, Rf a2, Rf a3, Rf a4, It p5, Rf a6, Rf a7, Rf a8, Rf a9, Rf a10, Rf a11, .unset, .unset] [(.ref a2), (.ref a1)])) rfl rfl (hb hby d11_25)
  have Fw15 := ((((F_kind_a1.ext E2).keep K5q (ninS (Nat.ne_of_lt (Nat.lt_of_lt_of_le E_a1.lt (Nat.le_of_eq g2.symm))) nin0)).other W7 (sn (.object "java/lang/String") (.object "java/util/Map") (Or.inr (tw hw 109 rfl)) (Or.inr (tw hw 101 rfl)))).ext E10).same W15
  have N15 := Fr.snoc X15 N13 ge_a1
  have O16 := O11.wr W15 ge_a1
  have K15 := K10.wr W15 (Or.inl (List.mem_of_getElem? (i := 0) rfl))
  have CR17 := CR12.trans (CHr.wr W15 (Safe.exa hZ10.alike ((((E_a1.ext E2).keep K5q).wr W7).ext E10) (by decide) (by decide)) CR12.1)
  obtain ⟨cq18, kq18, q18a, q18b, q18c⟩ := isOf hZ10 e15 (((((E_a3.ext E2).keep K5q).wr W7).ext E10).wr W15)
  obtain ⟨_, _, ⟨T18, L18, k18, n18⟩, -, X18, ⟨Lc18, hQ18, l18, y18, z18⟩, st18⟩ := X15.virtualBack hx (y := (⟨"java/util/Optional", "orElse", "(Ljava/lang/Object;)Ljava/lang/Object;"⟩ : MethodName)) (z := (⟨"java/util/Optional", "orElse", "(Ljava/lang/Object;)Ljava/lang/Object;"⟩ : MethodName)) hown10 (mvT hZ10 (tw hw 110 rfl)) (mvT hZ10 (tw hw 111 rfl)) (notFace_of_selects (args := #[]) (mvT hZ10 (tw hw 113 rfl))) (mvT hZ10 (tw hw 113 rfl)) (mvT hZ10 (tw hw 112 rfl)) (by decide) (backOf (W := 1) (rm16_1 l Z a0 hw [] a3 mv h15 n0 O16 (((((F_value_a3.ext E2).keep K5q (ninS (Nat.ne_of_lt (Nat.lt_of_lt_of_le E_a3.lt (Nat.le_of_eq g2.symm))) nin0)).other W7 (Or.inl (Exa.ne E_a3 E_a1 (by decide)))).ext E10).other W15 (Or.inl (Exa.ne E_a3 E_a1 (by decide))))) hZ10 (tw hw 114 rfl) (tw hw 29 rfl) (by decide) (by decide)) q18a q18c (g := (mkF m 31 #[Rf a1, Rf a2, Rf a3, Rf a4, It p5, Rf a6, Rf a7, Rf a8, Rf a9, Rf a10, Rf a11, .unset, .unset] [.null, (.ref a3), (.ref a1)])) rfl (by rw [hml]; rfl) (Steps.refl _) (argsL := [.null]) (rest := [(.ref a1)]) (lenOf pd_3 rfl) rfl (by show 2 * 0 + _ ≤ _; exact Nat.le_of_eq rfl) (hb hby d11_31) (fun _ _ => ⟨rfl, e15, (by decide : 3 + 0 ≤ _), (by decide : 32 + 0 ≤ _)⟩)
  dsimp only [Pt.U, Pt.locs, Pt.cells, Pt.slots] at X18 l18 y18 z18 st18 hQ18
  subst l18 y18 z18
  obtain ⟨rfl, N18q, e18⟩ := hQ18
  have N18 := Fr.app N15 N18q
  obtain ⟨T19, X19, e19, st19⟩ := castY X18 hx hZ10 hown10 (tw hw 206 rfl) e18 (Ins.self (((((E_mv.ext E2).keep K5q).wr W7).ext E10).wr W15)) (g := (mkF m 34 #[Rf a1, Rf a2, Rf a3, Rf a4, It p5, Rf a6, Rf a7, Rf a8, Rf a9, Rf a10, Rf a11, .unset, .unset] [(.ref mv), (.ref a1)])) rfl rfl (hb hby d11_34)
  obtain ⟨T20, h20, X20, e20, W20, st20⟩ := putF X19 hx hZ10 hown10 (host := "") (Or.inl (tw hw 117 rfl)) Via.refl e19 (((((F_morphia_a1.ext E2).keep K5q (ninS (Nat.ne_of_lt (Nat.lt_of_lt_of_le E_a1.lt (Nat.le_of_eq g2.symm))) nin0)).other W7 (sn (.object "com/example/legacy_to_latest/legacytolatest/EntityClass$Morphia") (.object "java/util/Map") (Or.inr (tw hw 118 rfl)) (Or.inr (tw hw 101 rfl)))).ext E10).other W15 (sn (.object "com/example/legacy_to_latest/legacytolatest/EntityClass$Morphia") (.object "java/lang/String") (Or.inr (tw hw 118 rfl)) (Or.inr (tw hw 109 rfl)))) (((((E_a1.ext E2).keep K5q).wr W7).ext E10).wr W15) (Or.inr ⟨(tw hw 118 rfl), rfl, hnm⟩) (tw hw 39 rfl) (ty := (.object "com/example/legacy_to_latest/legacytolatest/EntityClass$Morphia")) (by decide) rfl rfl (g := (mkF m 37 #[Rf a1, Rf a2, Rf a3, Rf a4, It p5, Rf a6, Rf a7, Rf a8, Rf a9, Rf a10, Rf a11, .unset, .unset] [(.ref mv), (.ref a1)])) rfl rfl (hb hby d11_37)
  have Fw20 := (((((F_morphia_a1.ext E2).keep K5q (ninS (Nat.ne_of_lt (Nat.lt_of_lt_of_le E_a1.lt (Nat.le_of_eq g2.symm))) nin0)).other W7 (sn (.object "com/example/legacy_to_latest/legacytolatest/EntityClass$Morphia") (.object "java/util/Map") (Or.inr (tw hw 118 rfl)) (Or.inr (tw hw 101 rfl)))).ext E10).other W15 (sn (.object "com/example/legacy_to_latest/legacytolatest/EntityClass$Morphia") (.object "java/lang/String") (Or.inr (tw hw 118 rfl)) (Or.inr (tw hw 109 rfl)))).same W20
  have N20 := Fr.snoc X20 N18 ge_a1
  have O21 := O16.wr W20 ge_a1
  have K20 := K15.wr W20 (Or.inl (List.mem_of_getElem? (i := 0) rfl))
  have CR22 := CR17.trans (CHr.wr W20 (Safe.exa hZ10.alike (((((E_a1.ext E2).keep K5q).wr W7).ext E10).wr W15) (by decide) (by decide)) CR17.1)
  obtain ⟨cq23, kq23, q23a, q23b, q23c⟩ := isOf hZ10 e20 ((((((E_a4.ext E2).keep K5q).wr W7).ext E10).wr W15).wr W20)
  obtain ⟨_, _, ⟨T23, L23, k23, n23⟩, -, X23, ⟨Lc23, hQ23, l23, y23, z23⟩, st23⟩ := X20.virtualBack hx (y := (⟨"java/util/Optional", "orElse", "(Ljava/lang/Object;)Ljava/lang/Object;"⟩ : MethodName)) (z := (⟨"java/util/Optional", "orElse", "(Ljava/lang/Object;)Ljava/lang/Object;"⟩ : MethodName)) hown10 (mvT hZ10 (tw hw 110 rfl)) (mvT hZ10 (tw hw 111 rfl)) (notFace_of_selects (args := #[]) (mvT hZ10 (tw hw 113 rfl))) (mvT hZ10 (tw hw 113 rfl)) (mvT hZ10 (tw hw 112 rfl)) (by decide) (backOf (W := 1) (rm16_0 l Z a0 hw [] a4 h20 n0 O21 ((((((F_value_a4.ext E2).keep K5q (ninS (Nat.ne_of_lt (Nat.lt_of_lt_of_le E_a4.lt (Nat.le_of_eq g2.symm))) nin0)).other W7 (Or.inl (Exa.ne E_a4 E_a1 (by decide)))).ext E10).other W15 (Or.inl (Exa.ne E_a4 E_a1 (by decide)))).other W20 (Or.inl (Exa.ne E_a4 E_a1 (by decide))))) hZ10 (tw hw 114 rfl) (tw hw 29 rfl) (by decide) (by decide)) q23a q23c (g := (mkF m 43 #[Rf a1, Rf a2, Rf a3, Rf a4, It p5, Rf a6, Rf a7, Rf a8, Rf a9, Rf a10, Rf a11, .unset, .unset] [.null, (.ref a4), (.ref a1)])) rfl (by rw [hml]; rfl) (Steps.refl _) (argsL := [.null]) (rest := [(.ref a1)]) (lenOf pd_3 rfl) rfl (by show 2 * 0 + _ ≤ _; exact Nat.le_of_eq rfl) (hb hby d11_43) (fun _ _ => ⟨rfl, e20, (by decide : 3 + 0 ≤ _), (by decide : 32 + 0 ≤ _)⟩)
  dsimp only [Pt.U, Pt.locs, Pt.cells, Pt.slots] at X23 l23 y23 z23 st23 hQ23
  subst l23 y23 z23
  obtain ⟨rfl, N23q, e23⟩ := hQ23
  have N23 := Fr.app N20 N23q
  obtain ⟨T24, h24, X24, e24, W24, st24⟩ := putF X23 hx hZ10 hown10 (host := "") (Or.inl (tw hw 119 rfl)) Via.refl e23 ((((((F_discriminator_a1.ext E2).keep K5q (ninS (Nat.ne_of_lt (Nat.lt_of_lt_of_le E_a1.lt (Nat.le_of_eq g2.symm))) nin0)).other W7 (sn (.object "java/lang/String") (.object "java/util/Map") (Or.inr (tw hw 120 rfl)) (Or.inr (tw hw 101 rfl)))).ext E10).other W15 (sn (.object "java/lang/String") (.object "java/lang/String") (Or.inr (tw hw 120 rfl)) (Or.inr (tw hw 109 rfl)))).other W20 (sn (.object "java/lang/String") (.object "com/example/legacy_to_latest/legacytolatest/EntityClass$Morphia") (Or.inr (tw hw 120 rfl)) (Or.inr (tw hw 118 rfl)))) ((((((E_a1.ext E2).keep K5q).wr W7).ext E10).wr W15).wr W20) (Or.inr ⟨(tw hw 120 rfl), rfl, hnm⟩) (tw hw 39 rfl) (ty := (.object "java/lang/String")) (by decide) rfl rfl (g := (mkF m 49 #[Rf a1, Rf a2, Rf a3, Rf a4, It p5, Rf a6, Rf a7, Rf a8, Rf a9, Rf a10, Rf a11, .unset, .unset] [.null, (.ref a1)])) rfl rfl (hb hby d11_49)
  have Fw24 := ((((((F_discriminator_a1.ext E2).keep K5q (ninS (Nat.ne_of_lt (Nat.lt_of_lt_of_le E_a1.lt (Nat.le_of_eq g2.symm))) nin0)).other W7 (sn (.object "java/lang/String") (.object "java/util/Map") (Or.inr (tw hw 120 rfl)) (Or.inr (tw hw 101 rfl)))).ext E10).other W15 (sn (.object "java/lang/String") (.object "java/lang/String") (Or.inr (tw hw 120 rfl)) (Or.inr (tw hw 109 rfl)))).other W20 (sn (.object "java/lang/String") (.object "com/example/legacy_to_latest/legacytolatest/EntityClass$Morphia") (Or.inr (tw hw 120 rfl)) (Or.inr (tw hw 118 rfl)))).same W24
  have N24 := Fr.snoc X24 N23 ge_a1
  have O25 := O21.wr W24 ge_a1
  have K24 := K20.wr W24 (Or.inl (List.mem_of_getElem? (i := 0) rfl))
  have CR26 := CR22.trans (CHr.wr W24 (Safe.exa hZ10.alike ((((((E_a1.ext E2).keep K5q).wr W7).ext E10).wr W15).wr W20) (by decide) (by decide)) CR22.1)
  obtain ⟨T27, h27, X27, e27, W27, st27⟩ := putFN X24 hx hZ10 hown10 (tw hw 121 rfl) Via.refl e24 (((((((F_abstractClass_a1.ext E2).keep K5q (ninS (Nat.ne_of_lt (Nat.lt_of_lt_of_le E_a1.lt (Nat.le_of_eq g2.symm))) nin0)).other W7 (sn .boolean (.object "java/util/Map") (Or.inr (tw hw 122 rfl)) (Or.inr (tw hw 101 rfl)))).ext E10).other W15 (sn .boolean (.object "java/lang/String") (Or.inr (tw hw 122 rfl)) (Or.inr (tw hw 109 rfl)))).other W20 (sn .boolean (.object "com/example/legacy_to_latest/legacytolatest/EntityClass$Morphia") (Or.inr (tw hw 122 rfl)) (Or.inr (tw hw 118 rfl)))).other W24 (sn .boolean (.object "java/lang/String") (Or.inr (tw hw 122 rfl)) (Or.inr (tw hw 120 rfl)))) (((((((E_a1.ext E2).keep K5q).wr W7).ext E10).wr W15).wr W20).wr W24) (Or.inr ⟨(tw hw 122 rfl), rfl, hnm⟩) (tw hw 39 rfl) (ty := .boolean) (v' := .int (nar .boolean p5)) (by decide) rfl (fits_nar_bool _) (g := (mkF m 55 #[Rf a1, Rf a2, Rf a3, Rf a4, It p5, Rf a6, Rf a7, Rf a8, Rf a9, Rf a10, Rf a11, .unset, .unset] [(.int p5), (.ref a1)])) rfl rfl (hb hby d11_55)
  have Fw27 := (((((((F_abstractClass_a1.ext E2).keep K5q (ninS (Nat.ne_of_lt (Nat.lt_of_lt_of_le E_a1.lt (Nat.le_of_eq g2.symm))) nin0)).other W7 (sn .boolean (.object "java/util/Map") (Or.inr (tw hw 122 rfl)) (Or.inr (tw hw 101 rfl)))).ext E10).other W15 (sn .boolean (.object "java/lang/String") (Or.inr (tw hw 122 rfl)) (Or.inr (tw hw 109 rfl)))).other W20 (sn .boolean (.object "com/example/legacy_to_latest/legacytolatest/EntityClass$Morphia") (Or.inr (tw hw 122 rfl)) (Or.inr (tw hw 118 rfl)))).other W24 (sn .boolean (.object "java/lang/String") (Or.inr (tw hw 122 rfl)) (Or.inr (tw hw 120 rfl)))).same W27
  have N27 := Fr.snoc X27 N24 ge_a1
  have O28 := O25.wr W27 ge_a1
  have K27 := K24.wr W27 (Or.inl (List.mem_of_getElem? (i := 0) rfl))
  have CR29 := CR26.trans (CHr.wr W27 (Safe.exa hZ10.alike (((((((E_a1.ext E2).keep K5q).wr W7).ext E10).wr W15).wr W20).wr W24) (by decide) (by decide)) CR26.1)
  obtain ⟨sa30, T30, h30, k30, X30, e30, E30, Y30, Yk30, hZ30, hown30, C30, Lt30, st30⟩ := ldcOH X27 hx hZ10 hown10 (tw hw 123 rfl) hSA e27 Y10 (Nat.le_trans (Nat.le_trans (Nat.le_trans (Nat.le_trans Yk10 (Keep.of_wr W15).1) (Keep.of_wr W20).1) (Keep.of_wr W24).1) (Keep.of_wr W27).1) hEL CR29.1 (g := (mkF m 61 #[Rf a1, Rf a2, Rf a3, Rf a4, It p5, Rf a6, Rf a7, Rf a8, Rf a9, Rf a10, Rf a11, .unset, .unset] [(.ref a6), (.ref a1)])) rfl (hb hby d11_61) (n := 36) (by decide) (by decide) (by decide) (by decide)
  have O31 := O28.ext E30
  have K30 := K27.ext E30
  have CR32 := CR29.trans (C30)
  obtain ⟨_, _, ⟨T33, L33, k33, n33⟩, -, X33, ⟨Lc33, hQ33, l33, y33, z33⟩, st33⟩ := Jvm.LawKit.callS X30 hx (y := (⟨"java/util/Objects", "requireNonNull", "(Ljava/lang/Object;Ljava/lang/String;)Ljava/lang/Object;"⟩ : MethodName)) hown30 (mvT hZ30 (tw hw 103 rfl)) (mvT hZ30 (tw hw 104 rfl)) (mvT hZ30 (tw hw 105 rfl)) (mvT hZ30 (tw hw 106 rfl)) (by decide) (backOf (W := 1) (rm15 l Z a0 hw [] a6 sa30 h30 n0 O31 ) hZ30 (tw hw 106 rfl) (tw hw 105 rfl) (by decide) (by decide)) (g := (mkF m 63 #[Rf a1, Rf a2, Rf a3, Rf a4, It p5, Rf a6, Rf a7, Rf a8, Rf a9, Rf a10, Rf a11, .unset, .unset] [(.ref sa30), (.ref a6), (.ref a1)])) rfl (by rw [hml]; rfl) (argsL := [(.ref a6), (.ref sa30)]) (rest := [(.ref a1)]) (lenOf pd_7 rfl) rfl (by show 2 * 0 + _ ≤ _; exact Nat.le_of_eq rfl) (hb hby d11_63) (fun _ _ => ⟨rfl, e30, (by decide : 5 + 0 ≤ _), (by decide : 72 + 0 ≤ _)⟩)
  dsimp only [Pt.U, Pt.locs, Pt.cells, Pt.slots] at X33 l33 y33 z33 st33 hQ33
  subst l33 y33 z33
  obtain ⟨rfl, N33q, e33⟩ := hQ33
  have N33 := Fr.app N27 N33q
  obtain ⟨T34, X34, e34, st34⟩ := castY X33 hx hZ30 hown30 (tw hw 107 rfl) e33 (Ins.self (((((((((E_a6.ext E2).keep K5q).wr W7).ext E10).wr W15).wr W20).wr W24).wr W27).ext E30)) (g := (mkF m 66 #[Rf a1, Rf a2, Rf a3, Rf a4, It p5, Rf a6, Rf a7, Rf a8, Rf a9, Rf a10, Rf a11, .unset, .unset] [(.ref a6), (.ref a1)])) rfl rfl (hb hby d11_66)
  obtain ⟨T35, h35, X35, e35, W35, st35⟩ := putF X34 hx hZ30 hown30 (host := "") (Or.inl (tw hw 124 rfl)) Via.refl e34 (((((((((F_className_a1.ext E2).keep K5q (ninS (Nat.ne_of_lt (Nat.lt_of_lt_of_le E_a1.lt (Nat.le_of_eq g2.symm))) nin0)).other W7 (sn (.object "java/lang/String") (.object "java/util/Map") (Or.inr (tw hw 125 rfl)) (Or.inr (tw hw 101 rfl)))).ext E10).other W15 (sn (.object "java/lang/String") (.object "java/lang/String") (Or.inr (tw hw 125 rfl)) (Or.inr (tw hw 109 rfl)))).other W20 (sn (.object "java/lang/String") (.object "com/example/legacy_to_latest/legacytolatest/EntityClass$Morphia") (Or.inr (tw hw 125 rfl)) (Or.inr (tw hw 118 rfl)))).other W24 (sn (.object "java/lang/String") (.object "java/lang/String") (Or.inr (tw hw 125 rfl)) (Or.inr (tw hw 120 rfl)))).other W27 (sn (.object "java/lang/String") .boolean (Or.inr (tw hw 125 rfl)) (Or.inr (tw hw 122 rfl)))).ext E30) (((((((((E_a1.ext E2).keep K5q).wr W7).ext E10).wr W15).wr W20).wr W24).wr W27).ext E30) (Or.inr ⟨(tw hw 125 rfl), rfl, hnm⟩) (tw hw 39 rfl) (ty := (.object "java/lang/String")) (by decide) rfl rfl (g := (mkF m 69 #[Rf a1, Rf a2, Rf a3, Rf a4, It p5, Rf a6, Rf a7, Rf a8, Rf a9, Rf a10, Rf a11, .unset, .unset] [(.ref a6), (.ref a1)])) rfl rfl (hb hby d11_69)
  have Fw35 := (((((((((F_className_a1.ext E2).keep K5q (ninS (Nat.ne_of_lt (Nat.lt_of_lt_of_le E_a1.lt (Nat.le_of_eq g2.symm))) nin0)).other W7 (sn (.object "java/lang/String") (.object "java/util/Map") (Or.inr (tw hw 125 rfl)) (Or.inr (tw hw 101 rfl)))).ext E10).other W15 (sn (.object "java/lang/String") (.object "java/lang/String") (Or.inr (tw hw 125 rfl)) (Or.inr (tw hw 109 rfl)))).other W20 (sn (.object "java/lang/String") (.object "com/example/legacy_to_latest/legacytolatest/EntityClass$Morphia") (Or.inr (tw hw 125 rfl)) (Or.inr (tw hw 118 rfl)))).other W24 (sn (.object "java/lang/String") (.object "java/lang/String") (Or.inr (tw hw 125 rfl)) (Or.inr (tw hw 120 rfl)))).other W27 (sn (.object "java/lang/String") .boolean (Or.inr (tw hw 125 rfl)) (Or.inr (tw hw 122 rfl)))).ext E30).same W35
  have N35 := Fr.snoc X35 N33 ge_a1
  have O36 := O31.wr W35 ge_a1
  have K35 := K30.wr W35 (Or.inl (List.mem_of_getElem? (i := 0) rfl))
  have CR37 := CR32.trans (CHr.wr W35 (Safe.exa hZ30.alike (((((((((E_a1.ext E2).keep K5q).wr W7).ext E10).wr W15).wr W20).wr W24).wr W27).ext E30) (by decide) (by decide)) CR32.1)
  obtain ⟨sa38, T38, h38, k38, X38, e38, E38, Y38, Yk38, hZ38, hown38, C38, Lt38, st38⟩ := ldcOH X35 hx hZ30 hown30 (tw hw 126 rfl) hSA e35 Y30 (Nat.le_trans Yk30 (Keep.of_wr W35).1) hEL CR37.1 (g := (mkF m 75 #[Rf a1, Rf a2, Rf a3, Rf a4, It p5, Rf a6, Rf a7, Rf a8, Rf a9, Rf a10, Rf a11, .unset, .unset] [(.ref a7), (.ref a1)])) rfl (hb hby d11_75) (n := 40) (by decide) (by decide) (by decide) (by decide)
  have O39 := O36.ext E38
  have K38 := K35.ext E38
  have CR40 := CR37.trans (C38)
  obtain ⟨_, _, ⟨T41, L41, k41, n41⟩, -, X41, ⟨Lc41, hQ41, l41, y41, z41⟩, st41⟩ := Jvm.LawKit.callS X38 hx (y := (⟨"java/util/Objects", "requireNonNull", "(Ljava/lang/Object;Ljava/lang/String;)Ljava/lang/Object;"⟩ : MethodName)) hown38 (mvT hZ38 (tw hw 103 rfl)) (mvT hZ38 (tw hw 104 rfl)) (mvT hZ38 (tw hw 105 rfl)) (mvT hZ38 (tw hw 106 rfl)) (by decide) (backOf (W := 1) (rm15 l Z a0 hw [] a7 sa38 h38 n0 O39 ) hZ38 (tw hw 106 rfl) (tw hw 105 rfl) (by decide) (by decide)) (g := (mkF m 77 #[Rf a1, Rf a2, Rf a3, Rf a4, It p5, Rf a6, Rf a7, Rf a8, Rf a9, Rf a10, Rf a11, .unset, .unset] [(.ref sa38), (.ref a7), (.ref a1)])) rfl (by rw [hml]; rfl) (argsL := [(.ref a7), (.ref sa38)]) (rest := [(.ref a1)]) (lenOf pd_7 rfl) rfl (by show 2 * 0 + _ ≤ _; exact Nat.le_of_eq rfl) (hb hby d11_77) (fun _ _ => ⟨rfl, e38, (by decide : 7 + 0 ≤ _), (by decide : 116 + 0 ≤ _)⟩)
  dsimp only [Pt.U, Pt.locs, Pt.cells, Pt.slots] at X41 l41 y41 z41 st41 hQ41
  subst l41 y41 z41
  obtain ⟨rfl, N41q, e41⟩ := hQ41
  have N41 := Fr.app N35 N41q
  obtain ⟨T42, X42, e42, st42⟩ := castY X41 hx hZ38 hown38 (tw hw 107 rfl) e41 (Ins.self (((((((((((E_a7.ext E2).keep K5q).wr W7).ext E10).wr W15).wr W20).wr W24).wr W27).ext E30).wr W35).ext E38)) (g := (mkF m 80 #[Rf a1, Rf a2, Rf a3, Rf a4, It p5, Rf a6, Rf a7, Rf a8, Rf a9, Rf a10, Rf a11, .unset, .unset] [(.ref a7), (.ref a1)])) rfl rfl (hb hby d11_80)
  obtain ⟨T43, h43, X43, e43, W43, st43⟩ := putF X42 hx hZ38 hown38 (host := "") (Or.inl (tw hw 127 rfl)) Via.refl e42 (((((((((((F_binaryName_a1.ext E2).keep K5q (ninS (Nat.ne_of_lt (Nat.lt_of_lt_of_le E_a1.lt (Nat.le_of_eq g2.symm))) nin0)).other W7 (sn (.object "java/lang/String") (.object "java/util/Map") (Or.inr (tw hw 128 rfl)) (Or.inr (tw hw 101 rfl)))).ext E10).other W15 (sn (.object "java/lang/String") (.object "java/lang/String") (Or.inr (tw hw 128 rfl)) (Or.inr (tw hw 109 rfl)))).other W20 (sn (.object "java/lang/String") (.object "com/example/legacy_to_latest/legacytolatest/EntityClass$Morphia") (Or.inr (tw hw 128 rfl)) (Or.inr (tw hw 118 rfl)))).other W24 (sn (.object "java/lang/String") (.object "java/lang/String") (Or.inr (tw hw 128 rfl)) (Or.inr (tw hw 120 rfl)))).other W27 (sn (.object "java/lang/String") .boolean (Or.inr (tw hw 128 rfl)) (Or.inr (tw hw 122 rfl)))).ext E30).other W35 (sn (.object "java/lang/String") (.object "java/lang/String") (Or.inr (tw hw 128 rfl)) (Or.inr (tw hw 125 rfl)))).ext E38) (((((((((((E_a1.ext E2).keep K5q).wr W7).ext E10).wr W15).wr W20).wr W24).wr W27).ext E30).wr W35).ext E38) (Or.inr ⟨(tw hw 128 rfl), rfl, hnm⟩) (tw hw 39 rfl) (ty := (.object "java/lang/String")) (by decide) rfl rfl (g := (mkF m 83 #[Rf a1, Rf a2, Rf a3, Rf a4, It p5, Rf a6, Rf a7, Rf a8, Rf a9, Rf a10, Rf a11, .unset, .unset] [(.ref a7), (.ref a1)])) rfl rfl (hb hby d11_83)
  have Fw43 := (((((((((((F_binaryName_a1.ext E2).keep K5q (ninS (Nat.ne_of_lt (Nat.lt_of_lt_of_le E_a1.lt (Nat.le_of_eq g2.symm))) nin0)).other W7 (sn (.object "java/lang/String") (.object "java/util/Map") (Or.inr (tw hw 128 rfl)) (Or.inr (tw hw 101 rfl)))).ext E10).other W15 (sn (.object "java/lang/String") (.object "java/lang/String") (Or.inr (tw hw 128 rfl)) (Or.inr (tw hw 109 rfl)))).other W20 (sn (.object "java/lang/String") (.object "com/example/legacy_to_latest/legacytolatest/EntityClass$Morphia") (Or.inr (tw hw 128 rfl)) (Or.inr (tw hw 118 rfl)))).other W24 (sn (.object "java/lang/String") (.object "java/lang/String") (Or.inr (tw hw 128 rfl)) (Or.inr (tw hw 120 rfl)))).other W27 (sn (.object "java/lang/String") .boolean (Or.inr (tw hw 128 rfl)) (Or.inr (tw hw 122 rfl)))).ext E30).other W35 (sn (.object "java/lang/String") (.object "java/lang/String") (Or.inr (tw hw 128 rfl)) (Or.inr (tw hw 125 rfl)))).ext E38).same W43
  have N43 := Fr.snoc X43 N41 ge_a1
  have O44 := O39.wr W43 ge_a1
  have K43 := K38.wr W43 (Or.inl (List.mem_of_getElem? (i := 0) rfl))
  have CR45 := CR40.trans (CHr.wr W43 (Safe.exa hZ38.alike (((((((((((E_a1.ext E2).keep K5q).wr W7).ext E10).wr W15).wr W20).wr W24).wr W27).ext E30).wr W35).ext E38) (by decide) (by decide)) CR40.1)
  obtain ⟨sa46, T46, h46, k46, X46, e46, E46, Y46, Yk46, hZ46, hown46, C46, Lt46, st46⟩ := ldcOH X43 hx hZ38 hown38 (tw hw 129 rfl) hSA e43 Y38 (Nat.le_trans Yk38 (Keep.of_wr W43).1) hEL CR45.1 (g := (mkF m 89 #[Rf a1, Rf a2, Rf a3, Rf a4, It p5, Rf a6, Rf a7, Rf a8, Rf a9, Rf a10, Rf a11, .unset, .unset] [(.ref a8), (.ref a1)])) rfl (hb hby d11_89) (n := 24) (by decide) (by decide) (by decide) (by decide)
  have O47 := O44.ext E46
  have K46 := K43.ext E46
  have CR48 := CR45.trans (C46)
  obtain ⟨_, _, ⟨T49, L49, k49, n49⟩, -, X49, ⟨Lc49, hQ49, l49, y49, z49⟩, st49⟩ := Jvm.LawKit.callS X46 hx (y := (⟨"java/util/Objects", "requireNonNull", "(Ljava/lang/Object;Ljava/lang/String;)Ljava/lang/Object;"⟩ : MethodName)) hown46 (mvT hZ46 (tw hw 103 rfl)) (mvT hZ46 (tw hw 104 rfl)) (mvT hZ46 (tw hw 105 rfl)) (mvT hZ46 (tw hw 106 rfl)) (by decide) (backOf (W := 1) (rm15 l Z a0 hw [] a8 sa46 h46 n0 O47 ) hZ46 (tw hw 106 rfl) (tw hw 105 rfl) (by decide) (by decide)) (g := (mkF m 91 #[Rf a1, Rf a2, Rf a3, Rf a4, It p5, Rf a6, Rf a7, Rf a8, Rf a9, Rf a10, Rf a11, .unset, .unset] [(.ref sa46), (.ref a8), (.ref a1)])) rfl (by rw [hml]; rfl) (argsL := [(.ref a8), (.ref sa46)]) (rest := [(.ref a1)]) (lenOf pd_7 rfl) rfl (by show 2 * 0 + _ ≤ _; exact Nat.le_of_eq rfl) (hb hby d11_91) (fun _ _ => ⟨rfl, e46, (by decide : 9 + 0 ≤ _), (by decide : 144 + 0 ≤ _)⟩)
  dsimp only [Pt.U, Pt.locs, Pt.cells, Pt.slots] at X49 l49 y49 z49 st49 hQ49
  subst l49 y49 z49
  obtain ⟨rfl, N49q, e49⟩ := hQ49
  have N49 := Fr.app N43 N49q
  obtain ⟨T50, X50, e50, st50⟩ := castY X49 hx hZ46 hown46 (tw hw 107 rfl) e49 (Ins.self (((((((((((((E_a8.ext E2).keep K5q).wr W7).ext E10).wr W15).wr W20).wr W24).wr W27).ext E30).wr W35).ext E38).wr W43).ext E46)) (g := (mkF m 94 #[Rf a1, Rf a2, Rf a3, Rf a4, It p5, Rf a6, Rf a7, Rf a8, Rf a9, Rf a10, Rf a11, .unset, .unset] [(.ref a8), (.ref a1)])) rfl rfl (hb hby d11_94)
  obtain ⟨T51, h51, X51, e51, W51, st51⟩ := putF X50 hx hZ46 hown46 (host := "") (Or.inl (tw hw 130 rfl)) Via.refl e50 (((((((((((((F_source_a1.ext E2).keep K5q (ninS (Nat.ne_of_lt (Nat.lt_of_lt_of_le E_a1.lt (Nat.le_of_eq g2.symm))) nin0)).other W7 (sn (.object "java/lang/String") (.object "java/util/Map") (Or.inr (tw hw 131 rfl)) (Or.inr (tw hw 101 rfl)))).ext E10).other W15 (sn (.object "java/lang/String") (.object "java/lang/String") (Or.inr (tw hw 131 rfl)) (Or.inr (tw hw 109 rfl)))).other W20 (sn (.object "java/lang/String") (.object "com/example/legacy_to_latest/legacytolatest/EntityClass$Morphia") (Or.inr (tw hw 131 rfl)) (Or.inr (tw hw 118 rfl)))).other W24 (sn (.object "java/lang/String") (.object "java/lang/String") (Or.inr (tw hw 131 rfl)) (Or.inr (tw hw 120 rfl)))).other W27 (sn (.object "java/lang/String") .boolean (Or.inr (tw hw 131 rfl)) (Or.inr (tw hw 122 rfl)))).ext E30).other W35 (sn (.object "java/lang/String") (.object "java/lang/String") (Or.inr (tw hw 131 rfl)) (Or.inr (tw hw 125 rfl)))).ext E38).other W43 (sn (.object "java/lang/String") (.object "java/lang/String") (Or.inr (tw hw 131 rfl)) (Or.inr (tw hw 128 rfl)))).ext E46) (((((((((((((E_a1.ext E2).keep K5q).wr W7).ext E10).wr W15).wr W20).wr W24).wr W27).ext E30).wr W35).ext E38).wr W43).ext E46) (Or.inr ⟨(tw hw 131 rfl), rfl, hnm⟩) (tw hw 39 rfl) (ty := (.object "java/lang/String")) (by decide) rfl rfl (g := (mkF m 97 #[Rf a1, Rf a2, Rf a3, Rf a4, It p5, Rf a6, Rf a7, Rf a8, Rf a9, Rf a10, Rf a11, .unset, .unset] [(.ref a8), (.ref a1)])) rfl rfl (hb hby d11_97)
  have Fw51 := (((((((((((((F_source_a1.ext E2).keep K5q (ninS (Nat.ne_of_lt (Nat.lt_of_lt_of_le E_a1.lt (Nat.le_of_eq g2.symm))) nin0)).other W7 (sn (.object "java/lang/String") (.object "java/util/Map") (Or.inr (tw hw 131 rfl)) (Or.inr (tw hw 101 rfl)))).ext E10).other W15 (sn (.object "java/lang/String") (.object "java/lang/String") (Or.inr (tw hw 131 rfl)) (Or.inr (tw hw 109 rfl)))).other W20 (sn (.object "java/lang/String") (.object "com/example/legacy_to_latest/legacytolatest/EntityClass$Morphia") (Or.inr (tw hw 131 rfl)) (Or.inr (tw hw 118 rfl)))).other W24 (sn (.object "java/lang/String") (.object "java/lang/String") (Or.inr (tw hw 131 rfl)) (Or.inr (tw hw 120 rfl)))).other W27 (sn (.object "java/lang/String") .boolean (Or.inr (tw hw 131 rfl)) (Or.inr (tw hw 122 rfl)))).ext E30).other W35 (sn (.object "java/lang/String") (.object "java/lang/String") (Or.inr (tw hw 131 rfl)) (Or.inr (tw hw 125 rfl)))).ext E38).other W43 (sn (.object "java/lang/String") (.object "java/lang/String") (Or.inr (tw hw 131 rfl)) (Or.inr (tw hw 128 rfl)))).ext E46).same W51
  have N51 := Fr.snoc X51 N49 ge_a1
  have O52 := O47.wr W51 ge_a1
  have K51 := K46.wr W51 (Or.inl (List.mem_of_getElem? (i := 0) rfl))
  have CR53 := CR48.trans (CHr.wr W51 (Safe.exa hZ46.alike (((((((((((((E_a1.ext E2).keep K5q).wr W7).ext E10).wr W15).wr W20).wr W24).wr W27).ext E30).wr W35).ext E38).wr W43).ext E46) (by decide) (by decide)) CR48.1)
  obtain ⟨cq54, kq54, q54a, q54b, q54c⟩ := isOf hZ46 e51 ((((((((((((((E_a9.ext E2).keep K5q).wr W7).ext E10).wr W15).wr W20).wr W24).wr W27).ext E30).wr W35).ext E38).wr W43).ext E46).wr W51)
  obtain ⟨_, _, ⟨T54, L54, k54, n54⟩, -, X54, ⟨Lc54, hQ54, l54, y54, z54⟩, st54⟩ := X51.interfaceBack hx (xi := (⟨"java/util/List", "iterator", "()Ljava/util/Iterator;"⟩ : MethodName)) (y := (⟨"java/util/ArrayList", "iterator", "()Ljava/util/Iterator;"⟩ : MethodName)) hown46 (mvT hZ46 (tw hw 132 rfl)) (mvT hZ46 (tw hw 133 rfl)) (mvT hZ46 (tw hw 134 rfl)) (mvT hZ46 (tw hw 135 rfl)) (mvT hZ46 (tw hw 136 rfl)) (mvT hZ46 (tw hw 137 rfl)) (mvT hZ46 (tw hw 138 rfl)) (mvT hZ46 (tw hw 139 rfl)) (by decide) (backOf (W := 0) (rm17 l Z a0 hw [] a9 h51 n0 O52 ((((((((((((((E_a9.ext E2).keep K5q).wr W7).ext E10).wr W15).wr W20).wr W24).wr W27).ext E30).wr W35).ext E38).wr W43).ext E46).wr W51) ((((((((((((((F_modCount_a9.ext E2).keep K5q (ninS (Nat.ne_of_lt (Nat.lt_of_lt_of_le E_a9.lt (Nat.le_of_eq g2.symm))) nin0)).other W7 (Or.inl (Exa.ne E_a9 E_a1 (by decide)))).ext E10).other W15 (Or.inl (Exa.ne E_a9 E_a1 (by decide)))).other W20 (Or.inl (Exa.ne E_a9 E_a1 (by decide)))).other W24 (Or.inl (Exa.ne E_a9 E_a1 (by decide)))).other W27 (Or.inl (Exa.ne E_a9 E_a1 (by decide)))).ext E30).other W35 (Or.inl (Exa.ne E_a9 E_a1 (by decide)))).ext E38).other W43 (Or.inl (Exa.ne E_a9 E_a1 (by decide)))).ext E46).other W51 (Or.inl (Exa.ne E_a9 E_a1 (by decide))))) hZ46 (tw hw 140 rfl) (tw hw 48 rfl) (by decide) (by decide)) q54a q54b q54c (g := (mkF m 102 #[Rf a1, Rf a2, Rf a3, Rf a4, It p5, Rf a6, Rf a7, Rf a8, Rf a9, Rf a10, Rf a11, .unset, .unset] [(.ref a9)])) rfl (by rw [hml]; rfl) (Steps.refl _) (argsL := []) (rest := []) (lenOf pd_8 rfl) rfl (by show 2 * 0 + _ ≤ _; exact Nat.le_of_eq rfl) (hb hby d11_102) (fun _ _ => ⟨rfl, e51, (by decide : 9 + 1 ≤ _), (by decide : 144 + 4 ≤ _)⟩)
  dsimp only [Pt.U, Pt.locs, Pt.cells, Pt.slots] at X54 l54 y54 z54 st54 hQ54
  subst l54 y54 z54
  obtain ⟨r_54, rfl, N54q, K54q, O54, f54_0, f54_1, f54_2, f54_3, f54_4⟩ := hQ54
  have N54 := Fr.app N51 N54q
  have CR55 := CR53.trans (CHr.keep K54q all0 CR53.1)
  have K54 := K51.trans K54q all0
  obtain ⟨cq56, kq56, q56a, q56b, q56c⟩ := isOf hZ46 rfl f54_2
  obtain ⟨_, _, ⟨T56, L56, k56, n56⟩, -, X56, ⟨Lc56, hQ56, l56, y56, z56⟩, st56⟩ := X54.interfaceBack hx (xi := (⟨"java/util/Iterator", "hasNext", "()Z"⟩ : MethodName)) (y := (⟨"java/util/ArrayList$Itr", "hasNext", "()Z"⟩ : MethodName)) hown46 (mvT hZ46 (tw hw 157 rfl)) (mvT hZ46 (tw hw 158 rfl)) (mvT hZ46 (tw hw 159 rfl)) (mvT hZ46 (tw hw 160 rfl)) (mvT hZ46 (tw hw 161 rfl)) (mvT hZ46 (tw hw 162 rfl)) (mvT hZ46 (tw hw 163 rfl)) (mvT hZ46 (tw hw 164 rfl)) (by decide) (backOf (W := 0) (rm19 l Z a0 hw [] r_54 a9 T54.heap n0 O54 f54_4 f54_3 (((((((((((((((F_size_a9.ext E2).keep K5q (ninS (Nat.ne_of_lt (Nat.lt_of_lt_of_le E_a9.lt (Nat.le_of_eq g2.symm))) nin0)).other W7 (Or.inl (Exa.ne E_a9 E_a1 (by decide)))).ext E10).other W15 (Or.inl (Exa.ne E_a9 E_a1 (by decide)))).other W20 (Or.inl (Exa.ne E_a9 E_a1 (by decide)))).other W24 (Or.inl (Exa.ne E_a9 E_a1 (by decide)))).other W27 (Or.inl (Exa.ne E_a9 E_a1 (by decide)))).ext E30).other W35 (Or.inl (Exa.ne E_a9 E_a1 (by decide)))).ext E38).other W43 (Or.inl (Exa.ne E_a9 E_a1 (by decide)))).ext E46).other W51 (Or.inl (Exa.ne E_a9 E_a1 (by decide)))).keep K54q nin0)) hZ46 (tw hw 165 rfl) (tw hw 143 rfl) (by decide) (by decide)) q56a q56b q56c (g := (mkF m 111 #[Rf a1, Rf a2, Rf a3, Rf a4, It p5, Rf a6, Rf a7, Rf a8, Rf a9, Rf a10, Rf a11, Rf r_54, .unset] [(.ref r_54)])) rfl (by rw [hml]; rfl) (Steps.refl _) (argsL := []) (rest := []) (lenOf pd_9 rfl) rfl (by show 2 * 0 + _ ≤ _; exact Nat.le_of_eq rfl) (hb hby d11_111) (fun _ _ => ⟨rfl, rfl, (by decide : 10 + 0 ≤ _), (by decide : 148 + 0 ≤ _)⟩)
  dsimp only [Pt.U, Pt.locs, Pt.cells, Pt.slots] at X56 l56 y56 z56 st56 hQ56
  subst l56 y56 z56
  obtain ⟨rfl, N56q, e56⟩ := hQ56
  have N56 := Fr.app N54 N56q
  obtain ⟨_, _, ⟨T57, L57, k57, n57⟩, -, X57, ⟨Lc57, hQ57, l57, y57, z57⟩, st57⟩ := Jvm.LawKit.callS X56 hx (y := (⟨"java/util/Map", "copyOf", "(Ljava/util/Map;)Ljava/util/Map;"⟩ : MethodName)) hown46 (mvT hZ46 (tw hw 170 rfl)) (mvT hZ46 (tw hw 171 rfl)) (mvT hZ46 (tw hw 34 rfl)) (mvT hZ46 (tw hw 172 rfl)) (by decide) (backOf (W := 1) (rm20 l Z a0 hw [] a10 T54.heap n0 O54 (((((((((((((((E_a10.ext E2).keep K5q).wr W7).ext E10).wr W15).wr W20).wr W24).wr W27).ext E30).wr W35).ext E38).wr W43).ext E46).wr W51).keep K54q)) hZ46 (tw hw 172 rfl) (tw hw 34 rfl) (by decide) (by decide)) (g := (mkF m 167 #[Rf a1, Rf a2, Rf a3, Rf a4, It p5, Rf a6, Rf a7, Rf a8, Rf a9, Rf a10, Rf a11, Rf r_54, .unset] [(.ref a10), (.ref a1)])) rfl (by rw [hml]; rfl) (argsL := [(.ref a10)]) (rest := [(.ref a1)]) (lenOf pd_10 rfl) rfl (by show 2 * 0 + _ ≤ _; exact Nat.le_of_eq rfl) (hb hby d11_167) (fun _ _ => ⟨rfl, e56, (by decide : 10 + 0 ≤ _), (by decide : 148 + 0 ≤ _)⟩)
  dsimp only [Pt.U, Pt.locs, Pt.cells, Pt.slots] at X57 l57 y57 z57 st57 hQ57
  subst l57 y57 z57
  obtain ⟨rfl, N57q, e57⟩ := hQ57
  have N57 := Fr.app N56 N57q
  obtain ⟨T58, h58, X58, e58, W58, st58⟩ := putF X57 hx hZ46 hown46 (host := "") (Or.inl (tw hw 175 rfl)) Via.refl e57 (((((((((((((((F_keyParts_a1.ext E2).keep K5q (ninS (Nat.ne_of_lt (Nat.lt_of_lt_of_le E_a1.lt (Nat.le_of_eq g2.symm))) nin0)).other W7 (sn (.object "java/util/Map") (.object "java/util/Map") (Or.inr (tw hw 176 rfl)) (Or.inr (tw hw 101 rfl)))).ext E10).other W15 (sn (.object "java/util/Map") (.object "java/lang/String") (Or.inr (tw hw 176 rfl)) (Or.inr (tw hw 109 rfl)))).other W20 (sn (.object "java/util/Map") (.object "com/example/legacy_to_latest/legacytolatest/EntityClass$Morphia") (Or.inr (tw hw 176 rfl)) (Or.inr (tw hw 118 rfl)))).other W24 (sn (.object "java/util/Map") (.object "java/lang/String") (Or.inr (tw hw 176 rfl)) (Or.inr (tw hw 120 rfl)))).other W27 (sn (.object "java/util/Map") .boolean (Or.inr (tw hw 176 rfl)) (Or.inr (tw hw 122 rfl)))).ext E30).other W35 (sn (.object "java/util/Map") (.object "java/lang/String") (Or.inr (tw hw 176 rfl)) (Or.inr (tw hw 125 rfl)))).ext E38).other W43 (sn (.object "java/util/Map") (.object "java/lang/String") (Or.inr (tw hw 176 rfl)) (Or.inr (tw hw 128 rfl)))).ext E46).other W51 (sn (.object "java/util/Map") (.object "java/lang/String") (Or.inr (tw hw 176 rfl)) (Or.inr (tw hw 131 rfl)))).keep K54q nin0) (((((((((((((((E_a1.ext E2).keep K5q).wr W7).ext E10).wr W15).wr W20).wr W24).wr W27).ext E30).wr W35).ext E38).wr W43).ext E46).wr W51).keep K54q) (Or.inr ⟨(tw hw 176 rfl), rfl, hnm⟩) (tw hw 39 rfl) (ty := (.object "java/util/Map")) (by decide) rfl rfl (g := (mkF m 170 #[Rf a1, Rf a2, Rf a3, Rf a4, It p5, Rf a6, Rf a7, Rf a8, Rf a9, Rf a10, Rf a11, Rf r_54, .unset] [(.ref a10), (.ref a1)])) rfl rfl (hb hby d11_170)
  have Fw58 := (((((((((((((((F_keyParts_a1.ext E2).keep K5q (ninS (Nat.ne_of_lt (Nat.lt_of_lt_of_le E_a1.lt (Nat.le_of_eq g2.symm))) nin0)).other W7 (sn (.object "java/util/Map") (.object "java/util/Map") (Or.inr (tw hw 176 rfl)) (Or.inr (tw hw 101 rfl)))).ext E10).other W15 (sn (.object "java/util/Map") (.object "java/lang/String") (Or.inr (tw hw 176 rfl)) (Or.inr (tw hw 109 rfl)))).other W20 (sn (.object "java/util/Map") (.object "com/example/legacy_to_latest/legacytolatest/EntityClass$Morphia") (Or.inr (tw hw 176 rfl)) (Or.inr (tw hw 118 rfl)))).other W24 (sn (.object "java/util/Map") (.object "java/lang/String") (Or.inr (tw hw 176 rfl)) (Or.inr (tw hw 120 rfl)))).other W27 (sn (.object "java/util/Map") .boolean (Or.inr (tw hw 176 rfl)) (Or.inr (tw hw 122 rfl)))).ext E30).other W35 (sn (.object "java/util/Map") (.object "java/lang/String") (Or.inr (tw hw 176 rfl)) (Or.inr (tw hw 125 rfl)))).ext E38).other W43 (sn (.object "java/util/Map") (.object "java/lang/String") (Or.inr (tw hw 176 rfl)) (Or.inr (tw hw 128 rfl)))).ext E46).other W51 (sn (.object "java/util/Map") (.object "java/lang/String") (Or.inr (tw hw 176 rfl)) (Or.inr (tw hw 131 rfl)))).keep K54q nin0).same W58
  have N58 := Fr.snoc X58 N57 ge_a1
  have O59 := O54.wr W58 ge_a1
  have K58 := K54.wr W58 (Or.inl (List.mem_of_getElem? (i := 0) rfl))
  have CR60 := CR55.trans (CHr.wr W58 (Safe.exa hZ46.alike (((((((((((((((E_a1.ext E2).keep K5q).wr W7).ext E10).wr W15).wr W20).wr W24).wr W27).ext E30).wr W35).ext E38).wr W43).ext E46).wr W51).keep K54q) (by decide) (by decide)) CR55.1)
  obtain ⟨cq61, kq61, q61a, q61b, q61c⟩ := isOf hZ46 e58 ((((((((((((((((E_a11.ext E2).keep K5q).wr W7).ext E10).wr W15).wr W20).wr W24).wr W27).ext E30).wr W35).ext E38).wr W43).ext E46).wr W51).keep K54q).wr W58)
  obtain ⟨_, _, ⟨T61, L61, k61, n61⟩, -, X61, ⟨Lc61, hQ61, l61, y61, z61⟩, st61⟩ := X58.virtualBack hx (y := (⟨"java/util/Optional", "orElse", "(Ljava/lang/Object;)Ljava/lang/Object;"⟩ : MethodName)) (z := (⟨"java/util/Optional", "orElse", "(Ljava/lang/Object;)Ljava/lang/Object;"⟩ : MethodName)) hown46 (mvT hZ46 (tw hw 110 rfl)) (mvT hZ46 (tw hw 111 rfl)) (notFace_of_selects (args := #[]) (mvT hZ46 (tw hw 113 rfl))) (mvT hZ46 (tw hw 113 rfl)) (mvT hZ46 (tw hw 112 rfl)) (by decide) (backOf (W := 1) (rm16_0 l Z a0 hw [] a11 h58 n0 O59 ((((((((((((((((F_value_a11.ext E2).keep K5q (ninS (Nat.ne_of_lt (Nat.lt_of_lt_of_le E_a11.lt (Nat.le_of_eq g2.symm))) nin0)).other W7 (Or.inl (Exa.ne E_a11 E_a1 (by decide)))).ext E10).other W15 (Or.inl (Exa.ne E_a11 E_a1 (by decide)))).other W20 (Or.inl (Exa.ne E_a11 E_a1 (by decide)))).other W24 (Or.inl (Exa.ne E_a11 E_a1 (by decide)))).other W27 (Or.inl (Exa.ne E_a11 E_a1 (by decide)))).ext E30).other W35 (Or.inl (Exa.ne E_a11 E_a1 (by decide)))).ext E38).other W43 (Or.inl (Exa.ne E_a11 E_a1 (by decide)))).ext E46).other W51 (Or.inl (Exa.ne E_a11 E_a1 (by decide)))).keep K54q nin0).other W58 (Or.inl (Exa.ne E_a11 E_a1 (by decide))))) hZ46 (tw hw 114 rfl) (tw hw 29 rfl) (by decide) (by decide)) q61a q61c (g := (mkF m 177 #[Rf a1, Rf a2, Rf a3, Rf a4, It p5, Rf a6, Rf a7, Rf a8, Rf a9, Rf a10, Rf a11, Rf r_54, .unset] [.null, (.ref a11), (.ref a1)])) rfl (by rw [hml]; rfl) (Steps.refl _) (argsL := [.null]) (rest := [(.ref a1)]) (lenOf pd_3 rfl) rfl (by show 2 * 0 + _ ≤ _; exact Nat.le_of_eq rfl) (hb hby d11_177) (fun _ _ => ⟨rfl, e58, (by decide : 10 + 0 ≤ _), (by decide : 148 + 0 ≤ _)⟩)
  dsimp only [Pt.U, Pt.locs, Pt.cells, Pt.slots] at X61 l61 y61 z61 st61 hQ61
  subst l61 y61 z61
  obtain ⟨rfl, N61q, e61⟩ := hQ61
  have N61 := Fr.app N58 N61q
  obtain ⟨T62, h62, X62, e62, W62, st62⟩ := putF X61 hx hZ46 hown46 (host := "") (Or.inl (tw hw 177 rfl)) Via.refl e61 ((((((((((((((((F_unreadSuperclass_a1.ext E2).keep K5q (ninS (Nat.ne_of_lt (Nat.lt_of_lt_of_le E_a1.lt (Nat.le_of_eq g2.symm))) nin0)).other W7 (sn (.object "java/lang/String") (.object "java/util/Map") (Or.inr (tw hw 178 rfl)) (Or.inr (tw hw 101 rfl)))).ext E10).other W15 (sn (.object "java/lang/String") (.object "java/lang/String") (Or.inr (tw hw 178 rfl)) (Or.inr (tw hw 109 rfl)))).other W20 (sn (.object "java/lang/String") (.object "com/example/legacy_to_latest/legacytolatest/EntityClass$Morphia") (Or.inr (tw hw 178 rfl)) (Or.inr (tw hw 118 rfl)))).other W24 (sn (.object "java/lang/String") (.object "java/lang/String") (Or.inr (tw hw 178 rfl)) (Or.inr (tw hw 120 rfl)))).other W27 (sn (.object "java/lang/String") .boolean (Or.inr (tw hw 178 rfl)) (Or.inr (tw hw 122 rfl)))).ext E30).other W35 (sn (.object "java/lang/String") (.object "java/lang/String") (Or.inr (tw hw 178 rfl)) (Or.inr (tw hw 125 rfl)))).ext E38).other W43 (sn (.object "java/lang/String") (.object "java/lang/String") (Or.inr (tw hw 178 rfl)) (Or.inr (tw hw 128 rfl)))).ext E46).other W51 (sn (.object "java/lang/String") (.object "java/lang/String") (Or.inr (tw hw 178 rfl)) (Or.inr (tw hw 131 rfl)))).keep K54q nin0).other W58 (sn (.object "java/lang/String") (.object "java/util/Map") (Or.inr (tw hw 178 rfl)) (Or.inr (tw hw 176 rfl)))) ((((((((((((((((E_a1.ext E2).keep K5q).wr W7).ext E10).wr W15).wr W20).wr W24).wr W27).ext E30).wr W35).ext E38).wr W43).ext E46).wr W51).keep K54q).wr W58) (Or.inr ⟨(tw hw 178 rfl), rfl, hnm⟩) (tw hw 39 rfl) (ty := (.object "java/lang/String")) (by decide) rfl rfl (g := (mkF m 183 #[Rf a1, Rf a2, Rf a3, Rf a4, It p5, Rf a6, Rf a7, Rf a8, Rf a9, Rf a10, Rf a11, Rf r_54, .unset] [.null, (.ref a1)])) rfl rfl (hb hby d11_183)
  have Fw62 := ((((((((((((((((F_unreadSuperclass_a1.ext E2).keep K5q (ninS (Nat.ne_of_lt (Nat.lt_of_lt_of_le E_a1.lt (Nat.le_of_eq g2.symm))) nin0)).other W7 (sn (.object "java/lang/String") (.object "java/util/Map") (Or.inr (tw hw 178 rfl)) (Or.inr (tw hw 101 rfl)))).ext E10).other W15 (sn (.object "java/lang/String") (.object "java/lang/String") (Or.inr (tw hw 178 rfl)) (Or.inr (tw hw 109 rfl)))).other W20 (sn (.object "java/lang/String") (.object "com/example/legacy_to_latest/legacytolatest/EntityClass$Morphia") (Or.inr (tw hw 178 rfl)) (Or.inr (tw hw 118 rfl)))).other W24 (sn (.object "java/lang/String") (.object "java/lang/String") (Or.inr (tw hw 178 rfl)) (Or.inr (tw hw 120 rfl)))).other W27 (sn (.object "java/lang/String") .boolean (Or.inr (tw hw 178 rfl)) (Or.inr (tw hw 122 rfl)))).ext E30).other W35 (sn (.object "java/lang/String") (.object "java/lang/String") (Or.inr (tw hw 178 rfl)) (Or.inr (tw hw 125 rfl)))).ext E38).other W43 (sn (.object "java/lang/String") (.object "java/lang/String") (Or.inr (tw hw 178 rfl)) (Or.inr (tw hw 128 rfl)))).ext E46).other W51 (sn (.object "java/lang/String") (.object "java/lang/String") (Or.inr (tw hw 178 rfl)) (Or.inr (tw hw 131 rfl)))).keep K54q nin0).other W58 (sn (.object "java/lang/String") (.object "java/util/Map") (Or.inr (tw hw 178 rfl)) (Or.inr (tw hw 176 rfl)))).same W62
  have N62 := Fr.snoc X62 N61 ge_a1
  have O63 := O59.wr W62 ge_a1
  have K62 := K58.wr W62 (Or.inl (List.mem_of_getElem? (i := 0) rfl))
  have CR64 := CR60.trans (CHr.wr W62 (Safe.exa hZ46.alike ((((((((((((((((E_a1.ext E2).keep K5q).wr W7).ext E10).wr W15).wr W20).wr W24).wr W27).ext E30).wr W35).ext E38).wr W43).ext E46).wr W51).keep K54q).wr W58) (by decide) (by decide)) CR60.1)
  have sg65 : ∀ target, Steps p.tables e below (T62.setTop (mkF m 186 #[Rf a1, Rf a2, Rf a3, Rf a4, It p5, Rf a6, Rf a7, Rf a8, Rf a9, Rf a10, Rf a11, Rf r_54, .unset] [])) target → Steps p.tables e below (s₁.setTop (mkF m 0 #[Rf a1, Rf a2, Rf a3, Rf a4, It p5, Rf a6, Rf a7, Rf a8, Rf a9, Rf a10, Rf a11, .unset, .unset] [])) target := by
    intro target kt
    show Steps p.tables e below (s₁.setTop (mkF m 0 #[Rf a1, Rf a2, Rf a3, Rf a4, It p5, Rf a6, Rf a7, Rf a8, Rf a9, Rf a10, Rf a11, .unset, .unset] [])) _
    refine XS.aloadN X0.here hx rfl (hb hby d11_0) rfl rfl ?_
    show Steps p.tables e below (s₁.setTop (mkF m 1 #[Rf a1, Rf a2, Rf a3, Rf a4, It p5, Rf a6, Rf a7, Rf a8, Rf a9, Rf a10, Rf a11, .unset, .unset] [(.ref a1)])) _
    refine st1 _ ?_
    show Steps p.tables e below (T1.setTop (mkF m 4 #[Rf a1, Rf a2, Rf a3, Rf a4, It p5, Rf a6, Rf a7, Rf a8, Rf a9, Rf a10, Rf a11, .unset, .unset] [])) _
    refine XS.aloadN X1.here hx rfl (hb hby d11_4) rfl rfl ?_
    show Steps p.tables e below (T1.setTop (mkF m 5 #[Rf a1, Rf a2, Rf a3, Rf a4, It p5, Rf a6, Rf a7, Rf a8, Rf a9, Rf a10, Rf a11, .unset, .unset] [(.ref a1)])) _
    refine st2 _ ?_
    show Steps p.tables e below (T2.setTop (mkF m 8 #[Rf a1, Rf a2, Rf a3, Rf a4, It p5, Rf a6, Rf a7, Rf a8, Rf a9, Rf a10, Rf a11, .unset, .unset] [(.ref b2), (.ref a1)])) _
    refine XS.dup X2.here hx rfl (hb hby d11_8) rfl rfl ?_
    show Steps p.tables e below (T2.setTop (mkF m 9 #[Rf a1, Rf a2, Rf a3, Rf a4, It p5, Rf a6, Rf a7, Rf a8, Rf a9, Rf a10, Rf a11, .unset, .unset] [(.ref b2), (.ref b2), (.ref a1)])) _
    refine st5.trans ?_
    show Steps p.tables e below (T5.setTop (mkF m 12 #[Rf a1, Rf a2, Rf a3, Rf a4, It p5, Rf a6, Rf a7, Rf a8, Rf a9, Rf a10, Rf a11, .unset, .unset] [(.ref b2), (.ref a1)])) _
    refine st7 _ ?_
    show Steps p.tables e below (T7.setTop (mkF m 15 #[Rf a1, Rf a2, Rf a3, Rf a4, It p5, Rf a6, Rf a7, Rf a8, Rf a9, Rf a10, Rf a11, .unset, .unset] [])) _
    refine XS.aloadN X7.here hx rfl (hb hby d11_15) rfl rfl ?_
    show Steps p.tables e below (T7.setTop (mkF m 16 #[Rf a1, Rf a2, Rf a3, Rf a4, It p5, Rf a6, Rf a7, Rf a8, Rf a9, Rf a10, Rf a11, .unset, .unset] [(.ref a1)])) _
    refine XS.aloadN X7.here hx rfl (hb hby d11_16) rfl rfl ?_
    show Steps p.tables e below (T7.setTop (mkF m 17 #[Rf a1, Rf a2, Rf a3, Rf a4, It p5, Rf a6, Rf a7, Rf a8, Rf a9, Rf a10, Rf a11, .unset, .unset] [(.ref a2), (.ref a1)])) _
    refine st10 _ ?_
    show Steps p.tables e below (T10.setTop (mkF m 19 #[Rf a1, Rf a2, Rf a3, Rf a4, It p5, Rf a6, Rf a7, Rf a8, Rf a9, Rf a10, Rf a11, .unset, .unset] [(.ref sa10), (.ref a2), (.ref a1)])) _
    refine st13 _ ?_
    show Steps p.tables e below (T13.setTop (mkF m 22 #[Rf a1, Rf a2, Rf a3, Rf a4, It p5, Rf a6, Rf a7, Rf a8, Rf a9, Rf a10, Rf a11, .unset, .unset] [(.ref a2), (.ref a1)])) _
    refine st14 _ ?_
    show Steps p.tables e below (T14.setTop (mkF m 25 #[Rf a1, Rf a2, Rf a3, Rf a4, It p5, Rf a6, Rf a7, Rf a8, Rf a9, Rf a10, Rf a11, .unset, .unset] [(.ref a2), (.ref a1)])) _
    refine st15 _ ?_
    show Steps p.tables e below (T15.setTop (mkF m 28 #[Rf a1, Rf a2, Rf a3, Rf a4, It p5, Rf a6, Rf a7, Rf a8, Rf a9, Rf a10, Rf a11, .unset, .unset] [])) _
    refine XS.aloadN X15.here hx rfl (hb hby d11_28) rfl rfl ?_
    show Steps p.tables e below (T15.setTop (mkF m 29 #[Rf a1, Rf a2, Rf a3, Rf a4, It p5, Rf a6, Rf a7, Rf a8, Rf a9, Rf a10, Rf a11, .unset, .unset] [(.ref a1)])) _
    refine XS.aloadN X15.here hx rfl (hb hby d11_29) rfl rfl ?_
    show Steps p.tables e below (T15.setTop (mkF m 30 #[Rf a1, Rf a2, Rf a3, Rf a4, It p5, Rf a6, Rf a7, Rf a8, Rf a9, Rf a10, Rf a11, .unset, .unset] [(.ref a3), (.ref a1)])) _
    refine XS.aconstNull X15.here hx rfl (hb hby d11_30) ?_
    show Steps p.tables e below (T15.setTop (mkF m 31 #[Rf a1, Rf a2, Rf a3, Rf a4, It p5, Rf a6, Rf a7, Rf a8, Rf a9, Rf a10, Rf a11, .unset, .unset] [.null, (.ref a3), (.ref a1)])) _
    refine st18.trans ?_
    show Steps p.tables e below (T18.setTop (mkF m 34 #[Rf a1, Rf a2, Rf a3, Rf a4, It p5, Rf a6, Rf a7, Rf a8, Rf a9, Rf a10, Rf a11, .unset, .unset] [(.ref mv), (.ref a1)])) _
    refine st19 _ ?_
    show Steps p.tables e below (T19.setTop (mkF m 37 #[Rf a1, Rf a2, Rf a3, Rf a4, It p5, Rf a6, Rf a7, Rf a8, Rf a9, Rf a10, Rf a11, .unset, .unset] [(.ref mv), (.ref a1)])) _
    refine st20 _ ?_
    show Steps p.tables e below (T20.setTop (mkF m 40 #[Rf a1, Rf a2, Rf a3, Rf a4, It p5, Rf a6, Rf a7, Rf a8, Rf a9, Rf a10, Rf a11, .unset, .unset] [])) _
    refine XS.aloadN X20.here hx rfl (hb hby d11_40) rfl rfl ?_
    show Steps p.tables e below (T20.setTop (mkF m 41 #[Rf a1, Rf a2, Rf a3, Rf a4, It p5, Rf a6, Rf a7, Rf a8, Rf a9, Rf a10, Rf a11, .unset, .unset] [(.ref a1)])) _
    refine XS.aloadN X20.here hx rfl (hb hby d11_41) rfl rfl ?_
    show Steps p.tables e below (T20.setTop (mkF m 42 #[Rf a1, Rf a2, Rf a3, Rf a4, It p5, Rf a6, Rf a7, Rf a8, Rf a9, Rf a10, Rf a11, .unset, .unset] [(.ref a4), (.ref a1)])) _
    refine XS.aconstNull X20.here hx rfl (hb hby d11_42) ?_
    show Steps p.tables e below (T20.setTop (mkF m 43 #[Rf a1, Rf a2, Rf a3, Rf a4, It p5, Rf a6, Rf a7, Rf a8, Rf a9, Rf a10, Rf a11, .unset, .unset] [.null, (.ref a4), (.ref a1)])) _
    refine st23.trans ?_
    show Steps p.tables e below (T23.setTop (mkF m 46 #[Rf a1, Rf a2, Rf a3, Rf a4, It p5, Rf a6, Rf a7, Rf a8, Rf a9, Rf a10, Rf a11, .unset, .unset] [.null, (.ref a1)])) _
    refine X23.checkcastNull hx (g := (mkF m 46 #[Rf a1, Rf a2, Rf a3, Rf a4, It p5, Rf a6, Rf a7, Rf a8, Rf a9, Rf a10, Rf a11, .unset, .unset] [.null, (.ref a1)])) rfl rfl (hb hby d11_46) _ ?_
    show Steps p.tables e below (T23.setTop (mkF m 49 #[Rf a1, Rf a2, Rf a3, Rf a4, It p5, Rf a6, Rf a7, Rf a8, Rf a9, Rf a10, Rf a11, .unset, .unset] [.null, (.ref a1)])) _
    refine st24 _ ?_
    show Steps p.tables e below (T24.setTop (mkF m 52 #[Rf a1, Rf a2, Rf a3, Rf a4, It p5, Rf a6, Rf a7, Rf a8, Rf a9, Rf a10, Rf a11, .unset, .unset] [])) _
    refine XS.aloadN X24.here hx rfl (hb hby d11_52) rfl rfl ?_
    show Steps p.tables e below (T24.setTop (mkF m 53 #[Rf a1, Rf a2, Rf a3, Rf a4, It p5, Rf a6, Rf a7, Rf a8, Rf a9, Rf a10, Rf a11, .unset, .unset] [(.ref a1)])) _
    refine XS.iload X24.here hx rfl (hb hby d11_53) rfl ?_
    show Steps p.tables e below (T24.setTop (mkF m 55 #[Rf a1, Rf a2, Rf a3, Rf a4, It p5, Rf a6, Rf a7, Rf a8, Rf a9, Rf a10, Rf a11, .unset, .unset] [(.int p5), (.ref a1)])) _
    refine st27 _ ?_
    show Steps p.tables e below (T27.setTop (mkF m 58 #[Rf a1, Rf a2, Rf a3, Rf a4, It p5, Rf a6, Rf a7, Rf a8, Rf a9, Rf a10, Rf a11, .unset, .unset] [])) _
    refine XS.aloadN X27.here hx rfl (hb hby d11_58) rfl rfl ?_
    show Steps p.tables e below (T27.setTop (mkF m 59 #[Rf a1, Rf a2, Rf a3, Rf a4, It p5, Rf a6, Rf a7, Rf a8, Rf a9, Rf a10, Rf a11, .unset, .unset] [(.ref a1)])) _
    refine XS.aload X27.here hx rfl (hb hby d11_59) rfl rfl ?_
    show Steps p.tables e below (T27.setTop (mkF m 61 #[Rf a1, Rf a2, Rf a3, Rf a4, It p5, Rf a6, Rf a7, Rf a8, Rf a9, Rf a10, Rf a11, .unset, .unset] [(.ref a6), (.ref a1)])) _
    refine st30 _ ?_
    show Steps p.tables e below (T30.setTop (mkF m 63 #[Rf a1, Rf a2, Rf a3, Rf a4, It p5, Rf a6, Rf a7, Rf a8, Rf a9, Rf a10, Rf a11, .unset, .unset] [(.ref sa30), (.ref a6), (.ref a1)])) _
    refine st33 _ ?_
    show Steps p.tables e below (T33.setTop (mkF m 66 #[Rf a1, Rf a2, Rf a3, Rf a4, It p5, Rf a6, Rf a7, Rf a8, Rf a9, Rf a10, Rf a11, .unset, .unset] [(.ref a6), (.ref a1)])) _
    refine st34 _ ?_
    show Steps p.tables e below (T34.setTop (mkF m 69 #[Rf a1, Rf a2, Rf a3, Rf a4, It p5, Rf a6, Rf a7, Rf a8, Rf a9, Rf a10, Rf a11, .unset, .unset] [(.ref a6), (.ref a1)])) _
    refine st35 _ ?_
    show Steps p.tables e below (T35.setTop (mkF m 72 #[Rf a1, Rf a2, Rf a3, Rf a4, It p5, Rf a6, Rf a7, Rf a8, Rf a9, Rf a10, Rf a11, .unset, .unset] [])) _
    refine XS.aloadN X35.here hx rfl (hb hby d11_72) rfl rfl ?_
    show Steps p.tables e below (T35.setTop (mkF m 73 #[Rf a1, Rf a2, Rf a3, Rf a4, It p5, Rf a6, Rf a7, Rf a8, Rf a9, Rf a10, Rf a11, .unset, .unset] [(.ref a1)])) _
    refine XS.aload X35.here hx rfl (hb hby d11_73) rfl rfl ?_
    show Steps p.tables e below (T35.setTop (mkF m 75 #[Rf a1, Rf a2, Rf a3, Rf a4, It p5, Rf a6, Rf a7, Rf a8, Rf a9, Rf a10, Rf a11, .unset, .unset] [(.ref a7), (.ref a1)])) _
    refine st38 _ ?_
    show Steps p.tables e below (T38.setTop (mkF m 77 #[Rf a1, Rf a2, Rf a3, Rf a4, It p5, Rf a6, Rf a7, Rf a8, Rf a9, Rf a10, Rf a11, .unset, .unset] [(.ref sa38), (.ref a7), (.ref a1)])) _
    refine st41 _ ?_
    show Steps p.tables e below (T41.setTop (mkF m 80 #[Rf a1, Rf a2, Rf a3, Rf a4, It p5, Rf a6, Rf a7, Rf a8, Rf a9, Rf a10, Rf a11, .unset, .unset] [(.ref a7), (.ref a1)])) _
    refine st42 _ ?_
    show Steps p.tables e below (T42.setTop (mkF m 83 #[Rf a1, Rf a2, Rf a3, Rf a4, It p5, Rf a6, Rf a7, Rf a8, Rf a9, Rf a10, Rf a11, .unset, .unset] [(.ref a7), (.ref a1)])) _
    refine st43 _ ?_
    show Steps p.tables e below (T43.setTop (mkF m 86 #[Rf a1, Rf a2, Rf a3, Rf a4, It p5, Rf a6, Rf a7, Rf a8, Rf a9, Rf a10, Rf a11, .unset, .unset] [])) _
    refine XS.aloadN X43.here hx rfl (hb hby d11_86) rfl rfl ?_
    show Steps p.tables e below (T43.setTop (mkF m 87 #[Rf a1, Rf a2, Rf a3, Rf a4, It p5, Rf a6, Rf a7, Rf a8, Rf a9, Rf a10, Rf a11, .unset, .unset] [(.ref a1)])) _
    refine XS.aload X43.here hx rfl (hb hby d11_87) rfl rfl ?_
    show Steps p.tables e below (T43.setTop (mkF m 89 #[Rf a1, Rf a2, Rf a3, Rf a4, It p5, Rf a6, Rf a7, Rf a8, Rf a9, Rf a10, Rf a11, .unset, .unset] [(.ref a8), (.ref a1)])) _
    refine st46 _ ?_
    show Steps p.tables e below (T46.setTop (mkF m 91 #[Rf a1, Rf a2, Rf a3, Rf a4, It p5, Rf a6, Rf a7, Rf a8, Rf a9, Rf a10, Rf a11, .unset, .unset] [(.ref sa46), (.ref a8), (.ref a1)])) _
    refine st49 _ ?_
    show Steps p.tables e below (T49.setTop (mkF m 94 #[Rf a1, Rf a2, Rf a3, Rf a4, It p5, Rf a6, Rf a7, Rf a8, Rf a9, Rf a10, Rf a11, .unset, .unset] [(.ref a8), (.ref a1)])) _
    refine st50 _ ?_
    show Steps p.tables e below (T50.setTop (mkF m 97 #[Rf a1, Rf a2, Rf a3, Rf a4, It p5, Rf a6, Rf a7, Rf a8, Rf a9, Rf a10, Rf a11, .unset, .unset] [(.ref a8), (.ref a1)])) _
    refine st51 _ ?_
    show Steps p.tables e below (T51.setTop (mkF m 100 #[Rf a1, Rf a2, Rf a3, Rf a4, It p5, Rf a6, Rf a7, Rf a8, Rf a9, Rf a10, Rf a11, .unset, .unset] [])) _
    refine XS.aload X51.here hx rfl (hb hby d11_100) rfl rfl ?_
    show Steps p.tables e below (T51.setTop (mkF m 102 #[Rf a1, Rf a2, Rf a3, Rf a4, It p5, Rf a6, Rf a7, Rf a8, Rf a9, Rf a10, Rf a11, .unset, .unset] [(.ref a9)])) _
    refine st54.trans ?_
    show Steps p.tables e below (T54.setTop (mkF m 107 #[Rf a1, Rf a2, Rf a3, Rf a4, It p5, Rf a6, Rf a7, Rf a8, Rf a9, Rf a10, Rf a11, .unset, .unset] [(.ref r_54)])) _
    refine XS.astore X54.here hx rfl (hb hby d11_107) rfl rfl (l' := #[Rf a1, Rf a2, Rf a3, Rf a4, It p5, Rf a6, Rf a7, Rf a8, Rf a9, Rf a10, Rf a11, Rf r_54, .unset]) rfl ?_
    show Steps p.tables e below (T54.setTop (mkF m 109 #[Rf a1, Rf a2, Rf a3, Rf a4, It p5, Rf a6, Rf a7, Rf a8, Rf a9, Rf a10, Rf a11, Rf r_54, .unset] [])) _
    refine XS.aload X54.here hx rfl (hb hby d11_109) rfl rfl ?_
    show Steps p.tables e below (T54.setTop (mkF m 111 #[Rf a1, Rf a2, Rf a3, Rf a4, It p5, Rf a6, Rf a7, Rf a8, Rf a9, Rf a10, Rf a11, Rf r_54, .unset] [(.ref r_54)])) _
    refine st56.trans ?_
    show Steps p.tables e below (T56.setTop (mkF m 116 #[Rf a1, Rf a2, Rf a3, Rf a4, It p5, Rf a6, Rf a7, Rf a8, Rf a9, Rf a10, Rf a11, Rf r_54, .unset] [(.int (0 : Int32))])) _
    refine XS.ifYes X56.here hx rfl (pc0 := 116) (pc' := 164) rfl (hb hby d11_116) rfl ((if0 _ _).trans (teq (by decide : (0 : Int32) = (0 : Int32))).1) (by decide) (by decide) ?_
    show Steps p.tables e below (T56.setTop (mkF m 164 #[Rf a1, Rf a2, Rf a3, Rf a4, It p5, Rf a6, Rf a7, Rf a8, Rf a9, Rf a10, Rf a11, Rf r_54, .unset] [])) _
    refine XS.aloadN X56.here hx rfl (hb hby d11_164) rfl rfl ?_
    show Steps p.tables e below (T56.setTop (mkF m 165 #[Rf a1, Rf a2, Rf a3, Rf a4, It p5, Rf a6, Rf a7, Rf a8, Rf a9, Rf a10, Rf a11, Rf r_54, .unset] [(.ref a1)])) _
    refine XS.aload X56.here hx rfl (hb hby d11_165) rfl rfl ?_
    show Steps p.tables e below (T56.setTop (mkF m 167 #[Rf a1, Rf a2, Rf a3, Rf a4, It p5, Rf a6, Rf a7, Rf a8, Rf a9, Rf a10, Rf a11, Rf r_54, .unset] [(.ref a10), (.ref a1)])) _
    refine st57 _ ?_
    show Steps p.tables e below (T57.setTop (mkF m 170 #[Rf a1, Rf a2, Rf a3, Rf a4, It p5, Rf a6, Rf a7, Rf a8, Rf a9, Rf a10, Rf a11, Rf r_54, .unset] [(.ref a10), (.ref a1)])) _
    refine st58 _ ?_
    show Steps p.tables e below (T58.setTop (mkF m 173 #[Rf a1, Rf a2, Rf a3, Rf a4, It p5, Rf a6, Rf a7, Rf a8, Rf a9, Rf a10, Rf a11, Rf r_54, .unset] [])) _
    refine XS.aloadN X58.here hx rfl (hb hby d11_173) rfl rfl ?_
    show Steps p.tables e below (T58.setTop (mkF m 174 #[Rf a1, Rf a2, Rf a3, Rf a4, It p5, Rf a6, Rf a7, Rf a8, Rf a9, Rf a10, Rf a11, Rf r_54, .unset] [(.ref a1)])) _
    refine XS.aload X58.here hx rfl (hb hby d11_174) rfl rfl ?_
    show Steps p.tables e below (T58.setTop (mkF m 176 #[Rf a1, Rf a2, Rf a3, Rf a4, It p5, Rf a6, Rf a7, Rf a8, Rf a9, Rf a10, Rf a11, Rf r_54, .unset] [(.ref a11), (.ref a1)])) _
    refine XS.aconstNull X58.here hx rfl (hb hby d11_176) ?_
    show Steps p.tables e below (T58.setTop (mkF m 177 #[Rf a1, Rf a2, Rf a3, Rf a4, It p5, Rf a6, Rf a7, Rf a8, Rf a9, Rf a10, Rf a11, Rf r_54, .unset] [.null, (.ref a11), (.ref a1)])) _
    refine st61.trans ?_
    show Steps p.tables e below (T61.setTop (mkF m 180 #[Rf a1, Rf a2, Rf a3, Rf a4, It p5, Rf a6, Rf a7, Rf a8, Rf a9, Rf a10, Rf a11, Rf r_54, .unset] [.null, (.ref a1)])) _
    refine X61.checkcastNull hx (g := (mkF m 180 #[Rf a1, Rf a2, Rf a3, Rf a4, It p5, Rf a6, Rf a7, Rf a8, Rf a9, Rf a10, Rf a11, Rf r_54, .unset] [.null, (.ref a1)])) rfl rfl (hb hby d11_180) _ ?_
    show Steps p.tables e below (T61.setTop (mkF m 183 #[Rf a1, Rf a2, Rf a3, Rf a4, It p5, Rf a6, Rf a7, Rf a8, Rf a9, Rf a10, Rf a11, Rf r_54, .unset] [.null, (.ref a1)])) _
    refine st62 _ ?_
    exact kt
  obtain ⟨fs, hr, hrun, hended, hRW⟩ := X62.leaveW Y46 (show _ ≤ T62.heap.size by rw [e62]; exact (Nat.le_trans (Nat.le_trans (Nat.le_trans (Nat.le_trans Yk46 (Keep.of_wr W51).1) K54q.1) (Keep.of_wr W58).1) (Keep.of_wr W62).1)) (v := none) (fun _ => rfl)
  refine ⟨_, _, pre0 _ (sg65 _ (?_)), hrun, hended, _, _, rfl, ?_, (by rw [hh]; show CHr Z own_EL s.vm h0 T62.vm T62.heap; rw [e62]; exact CR64.trans (CHv.at X62 hZ46 hEL CR64.1)), hRW.1, hRW.2.1, hRW.2.2.1, hRW.2.2.2.mono (by decide) (by decide)⟩
  · show Steps p.tables e below (T62.setTop (mkF m 186 #[Rf a1, Rf a2, Rf a3, Rf a4, It p5, Rf a6, Rf a7, Rf a8, Rf a9, Rf a10, Rf a11, Rf r_54, .unset] [])) _
    exact X62.returnOut hx Bd.returns (hb hby d11_186) hr
  · show Q11_10 Z a1 a2 a3 a4 p5 a6 a7 a8 a9 a10 a11 mv h0 n0 _ T62.heap _
    rw [e62]
    exact ⟨rfl, N62, K62, O63, (((((((((((Fw20.other W24 (sn (.object "com/example/legacy_to_latest/legacytolatest/EntityClass$Morphia") (.object "java/lang/String") (Or.inr (tw hw 118 rfl)) (Or.inr (tw hw 120 rfl)))).other W27 (sn (.object "com/example/legacy_to_latest/legacytolatest/EntityClass$Morphia") .boolean (Or.inr (tw hw 118 rfl)) (Or.inr (tw hw 122 rfl)))).ext E30).other W35 (sn (.object "com/example/legacy_to_latest/legacytolatest/EntityClass$Morphia") (.object "java/lang/String") (Or.inr (tw hw 118 rfl)) (Or.inr (tw hw 125 rfl)))).ext E38).other W43 (sn (.object "com/example/legacy_to_latest/legacytolatest/EntityClass$Morphia") (.object "java/lang/String") (Or.inr (tw hw 118 rfl)) (Or.inr (tw hw 128 rfl)))).ext E46).other W51 (sn (.object "com/example/legacy_to_latest/legacytolatest/EntityClass$Morphia") (.object "java/lang/String") (Or.inr (tw hw 118 rfl)) (Or.inr (tw hw 131 rfl)))).keep K54q nin0).other W58 (sn (.object "com/example/legacy_to_latest/legacytolatest/EntityClass$Morphia") (.object "java/util/Map") (Or.inr (tw hw 118 rfl)) (Or.inr (tw hw 176 rfl)))).other W62 (sn (.object "com/example/legacy_to_latest/legacytolatest/EntityClass$Morphia") (.object "java/lang/String") (Or.inr (tw hw 118 rfl)) (Or.inr (tw hw 178 rfl)))), ((((((((((Fw24.other W27 (sn (.object "java/lang/String") .boolean (Or.inr (tw hw 120 rfl)) (Or.inr (tw hw 122 rfl)))).ext E30).other W35 (sn (.object "java/lang/String") (.object "java/lang/String") (Or.inr (tw hw 120 rfl)) (Or.inr (tw hw 125 rfl)))).ext E38).other W43 (sn (.object "java/lang/String") (.object "java/lang/String") (Or.inr (tw hw 120 rfl)) (Or.inr (tw hw 128 rfl)))).ext E46).other W51 (sn (.object "java/lang/String") (.object "java/lang/String") (Or.inr (tw hw 120 rfl)) (Or.inr (tw hw 131 rfl)))).keep K54q nin0).other W58 (sn (.object "java/lang/String") (.object "java/util/Map") (Or.inr (tw hw 120 rfl)) (Or.inr (tw hw 176 rfl)))).other W62 (sn (.object "java/lang/String") (.object "java/lang/String") (Or.inr (tw hw 120 rfl)) (Or.inr (tw hw 178 rfl))))⟩
def Q11_11 (Z : State) (a1 : Addr) (a2 : Addr) (a3 : Addr) (a4 : Addr) (p5 : Int32) (a6 : Addr) (a7 : Addr) (a8 : Addr) (a9 : Addr) (a10 : Addr) (a11 : Addr) (mv : Addr) (dv : Addr) (h0 : Heap) (n0 : Nat) (v : Option Value) (h : Heap) (L : List Loc) : Prop := v = none ∧ Fr n0 L ∧ Keep h0 h [a1] ∧ Old Z n0 h ∧ Fld Z h a1 "com/example/legacy_to_latest/legacytolatest/EntityClass" "morphia" "Lcom/example/legacy_to_latest/legacytolatest/EntityClass$Morphia;" (.ref mv) ∧ Fld Z h a1 "com/example/legacy_to_latest/legacytolatest/EntityClass" "discriminator" "Ljava/lang/String;" (.ref dv)
theorem ef_11_11 (m : MethodId) (x0 : Addr) (x1 : Addr) (x2 : Addr) (x3 : Addr) (x4 : Int32) (x5 : Addr) (x6 : Addr) (x7 : Addr) (x8 : Addr) (x9 : Addr) (x10 : Addr) : entryFrame m #[(.ref x0), (.ref x1), (.ref x2), (.ref x3), (.int x4), (.ref x5), (.ref x6), (.ref x7), (.ref x8), (.ref x9), (.ref x10)] 13 = mkF m 0 #[.val (.ref x0), .val (.ref x1), .val (.ref x2), .val (.ref x3), .val (.int x4), .val (.ref x5), .val (.ref x6), .val (.ref x7), .val (.ref x8), .val (.ref x9), .val (.ref x10), .unset, .unset] [] := by first | (simp [entryFrame, mkF, argsToLocals, Value.category]; done) | rfl
set_option maxRecDepth 65536 in
set_option maxHeartbeats 40000000 in
theorem rm11_11 (l : Launch) (Z : State) (a0 : Array Value) (hw : ∀ d ∈ tables_1, d.before a0 Z = true) (ws : List Jvm.Cond) (a1 : Addr) (a2 : Addr) (a3 : Addr) (a4 : Addr) (p5 : Int32) (a6 : Addr) (a7 : Addr) (a8 : Addr) (a9 : Addr) (a10 : Addr) (a11 : Addr) (mv : Addr) (dv : Addr) (h0 : Heap) (n0 : Nat) (O0 : Old Z n0 h0) (E_a1 : Exa Z h0 a1 "com/example/legacy_to_latest/legacytolatest/EntityClass") (F_fields_a1 : Fld Z h0 a1 "com/example/legacy_to_latest/legacytolatest/EntityClass" "fields" "Ljava/util/Map;" .null) (F_kind_a1 : Fld Z h0 a1 "com/example/legacy_to_latest/legacytolatest/EntityClass" "kind" "Ljava/lang/String;" .null) (F_morphia_a1 : Fld Z h0 a1 "com/example/legacy_to_latest/legacytolatest/EntityClass" "morphia" "Lcom/example/legacy_to_latest/legacytolatest/EntityClass$Morphia;" .null) (F_discriminator_a1 : Fld Z h0 a1 "com/example/legacy_to_latest/legacytolatest/EntityClass" "discriminator" "Ljava/lang/String;" .null) (F_abstractClass_a1 : Fld Z h0 a1 "com/example/legacy_to_latest/legacytolatest/EntityClass" "abstractClass" "Z" (.int (0 : Int32))) (F_className_a1 : Fld Z h0 a1 "com/example/legacy_to_latest/legacytolatest/EntityClass" "className" "Ljava/lang/String;" .null) (F_binaryName_a1 : Fld Z h0 a1 "com/example/legacy_to_latest/legacytolatest/EntityClass" "binaryName" "Ljava/lang/String;" .null) (F_source_a1 : Fld Z h0 a1 "com/example/legacy_to_latest/legacytolatest/EntityClass" "source" "Ljava/lang/String;" .null) (F_keyParts_a1 : Fld Z h0 a1 "com/example/legacy_to_latest/legacytolatest/EntityClass" "keyParts" "Ljava/util/Map;" .null) (F_unreadSuperclass_a1 : Fld Z h0 a1 "com/example/legacy_to_latest/legacytolatest/EntityClass" "unreadSuperclass" "Ljava/lang/String;" .null) (ge_a1 : n0 ≤ a1) (E_a2 : Exa Z h0 a2 "java/lang/String") (E_a6 : Exa Z h0 a6 "java/lang/String") (E_a7 : Exa Z h0 a7 "java/lang/String") (E_a8 : Exa Z h0 a8 "java/lang/String") (E_a3 : Exa Z h0 a3 "java/util/Optional") (F_value_a3 : Fld Z h0 a3 "java/util/Optional" "value" "Ljava/lang/Object;" (.ref mv)) (E_a4 : Exa Z h0 a4 "java/util/Optional") (F_value_a4 : Fld Z h0 a4 "java/util/Optional" "value" "Ljava/lang/Object;" (.ref dv)) (E_a11 : Exa Z h0 a11 "java/util/Optional") (F_value_a11 : Fld Z h0 a11 "java/util/Optional" "value" "Ljava/lang/Object;" .null) (E_a9 : Exa Z h0 a9 "java/util/ArrayList") (F_modCount_a9 : Fld Z h0 a9 "java/util/AbstractList" "modCount" "I" (.int (0 : Int32))) (F_size_a9 : Fld Z h0 a9 "java/util/ArrayList" "size" "I" (.int (0 : Int32))) (E_a10 : Exa Z h0 a10 "java/util/ImmutableCollections$MapN") (E_mv : Exa Z h0 mv "com/example/legacy_to_latest/legacytolatest/EntityClass$Morphia") (E_dv : Exa Z h0 dv "java/lang/String") :
    MetFree l (⟨"com/example/legacy_to_latest/legacytolatest/EntityClass", "<init>", "(Ljava/lang/String;Ljava/util/Optional;Ljava/util/Optional;ZLjava/lang/String;Ljava/lang/String;Ljava/lang/String;Ljava/util/List;Ljava/util/Map;Ljava/util/Optional;)V"⟩ : MethodName) (head1 (Jvm.Cond.code (⟨"com/example/legacy_to_latest/legacytolatest/EntityClass", "<init>", "(Ljava/lang/String;Ljava/util/Optional;Ljava/util/Optional;ZLjava/lang/String;Ljava/lang/String;Ljava/lang/String;Ljava/util/List;Ljava/util/Map;Ljava/util/Optional;)V"⟩ : MethodName) prog_6_method_1_code 13 none :: ws) ({ frames := 4, cells := 10, slots := 148, locals := 50 } : Room)) (fun a U => a = #[(.ref a1), (.ref a2), (.ref a3), (.ref a4), (.int p5), (.ref a6), (.ref a7), (.ref a8), (.ref a9), (.ref a10), (.ref a11)] ∧ Z.Warmed39 U.vm ∧ U.heap = h0 ∧ CHv Z own_EL U.vm h0) (fun _ _ _ _ _ => True) (fun _ U o U' => ∃ v L, o = .returned v ∧ Q11_11 Z a1 a2 a3 a4 p5 a6 a7 a8 a9 a10 a11 mv dv h0 n0 v U'.heap L ∧ CHr Z own_EL U.vm U.heap U'.vm U'.heap ∧ ReturnedEndW U o U' L ({ frames := 4, cells := 10, slots := 148, locals := 50 } : Room).cells ({ frames := 4, cells := 10, slots := 148, locals := 50 } : Room).slots) := by
  refine MetFree.of_bodySF (plainFor_of_name pn_12) hisR ?_
  intro p e s m args below meth c s₁ Bd hml0 hP hK
  obtain ⟨rfl, hZ, hh, hCH⟩ := hP
  have hx := Bd.exec
  have hby := Bd.bytes
  have hml : c.maxLocals = 13 := hml0
  have hown : s.vm.findClass "com/example/legacy_to_latest/legacytolatest/EntityClass" = some m.cls := findClass_of_methodNamed Bd.named
  have hnm := (name_of_methodNamed Bd.named Bd.method).1
  have X0 : Stand p l e ({ frames := 4, cells := 10, slots := 148, locals := 50 } : Room) (s.setVm s.vm) m #[(.ref a1), (.ref a2), (.ref a3), (.ref a4), (.int p5), (.ref a6), (.ref a7), (.ref a8), (.ref a9), (.ref a10), (.ref a11)] below meth c s₁ [] 0 0 := Stand.of_body Bd
  have e0 : s₁.heap = h0 := by rw [← hh, Bd.state]; rfl
  have N0 := Fr.nil n0
  have pre0 : ∀ t, Steps p.tables e below (s₁.setTop (mkF m 0 #[.val (.ref a1), .val (.ref a2), .val (.ref a3), .val (.ref a4), .val (.int p5), .val (.ref a6), .val (.ref a7), .val (.ref a8), .val (.ref a9), .val (.ref a10), .val (.ref a11), .unset, .unset] [])) t → Steps p.tables e below (s₁.setTop (entryFrame m #[(.ref a1), (.ref a2), (.ref a3), (.ref a4), (.int p5), (.ref a6), (.ref a7), (.ref a8), (.ref a9), (.ref a10), (.ref a11)] 13)) t := fun t k => castTop (ef_11_11 m a1 a2 a3 a4 p5 a6 a7 a8 a9 a10 a11) k
  have Y0 : s.Since s.vm h0.size := (State.WarmedH.refl s).since h0.size
  have Yk0 : h0.size ≤ h0.size := Nat.le_refl _
  have CR0 : CHr Z own_EL s.vm h0 s.vm h0 := CHr.refl hCH
  have hEL := own_EW hw
  have hSA := own_SA hw
  have K0 := Keep.refl h0 [a1]
  obtain ⟨T1, X1, e1, st1⟩ := initO X0 hx hZ hown (tw hw 73 rfl) (tw hw 21 rfl) (tw hw 22 rfl) e0 (g := (mkF m 1 #[Rf a1, Rf a2, Rf a3, Rf a4, It p5, Rf a6, Rf a7, Rf a8, Rf a9, Rf a10, Rf a11, .unset, .unset] [(.ref a1)])) rfl (by rw [hml]; rfl) rfl (hb hby d11_1) (by decide) (W := 0) (by show 2 * 0 + _ ≤ _; exact Nat.le_of_eq rfl) (by decide)
  obtain ⟨T2, h2, X2, e2, E2, A2, D2, -, st2⟩ := newO X1 hx hZ hown (tw hw 74 rfl) (tw hw 75 rfl) (tw hw 76 rfl) e1 (g := (mkF m 5 #[Rf a1, Rf a2, Rf a3, Rf a4, It p5, Rf a6, Rf a7, Rf a8, Rf a9, Rf a10, Rf a11, .unset, .unset] [(.ref a1)])) rfl (hb hby d11_5) (by decide) (by decide)
  obtain ⟨b2, g2⟩ : ∃ z, z = h0.size := ⟨_, rfl⟩
  rw [← g2] at A2 D2 st2
  have ge_b2 : n0 ≤ b2 := Nat.le_trans (own_osz O0) (Nat.le_of_eq g2.symm)
  have sz_b2 : h0.size ≤ b2 := Nat.le_trans K0.1 (Nat.le_of_eq g2.symm)
  have O3 := O0.ext E2
  have K2 := K0.ext E2
  have CR4 := CR0.trans (CHr.ext E2 CR0.1)
  have F_loadFactor_b2 : Fld Z h2 b2 "java/util/HashMap" "loadFactor" "F" (.float (0 : UInt32)) := D2 (Or.inr (tw hw 95 rfl)) (ty := .float) (by decide)
  have F_putMode_b2 : Fld Z h2 b2 "java/util/LinkedHashMap" "putMode" "I" (.int (0 : Int32)) := D2 (Or.inl (tw hw 97 rfl)) (ty := .int) (by decide)
  have F_accessOrder_b2 : Fld Z h2 b2 "java/util/LinkedHashMap" "accessOrder" "Z" (.int (0 : Int32)) := D2 (Or.inr (tw hw 99 rfl)) (ty := .boolean) (by decide)
  obtain ⟨_, _, ⟨T5, L5, k5, n5⟩, -, X5, ⟨Lc5, hQ5, l5, y5, z5⟩, st5⟩ := X2.specialBack hx (y := (⟨"java/util/LinkedHashMap", "<init>", "()V"⟩ : MethodName)) rfl hown (mvT hZ (tw hw 77 rfl)) (mvT hZ (tw hw 78 rfl)) (mvT hZ (tw hw 79 rfl)) (by decide) (backOf (W := 2) (rm12 l Z a0 hw [] b2 h2 n0 O3 A2 F_loadFactor_b2 F_putMode_b2 F_accessOrder_b2 ge_b2) hZ (tw hw 79 rfl) (tw hw 76 rfl) (by decide) (by decide)) (g := (mkF m 9 #[Rf a1, Rf a2, Rf a3, Rf a4, It p5, Rf a6, Rf a7, Rf a8, Rf a9, Rf a10, Rf a11, .unset, .unset] [(.ref b2), (.ref b2), (.ref a1)])) rfl (by rw [hml]; rfl) (Steps.refl _) (a := b2) (argsL := []) (rest := [(.ref b2), (.ref a1)]) (lenOf pd_5 rfl) rfl (by show 2 * 0 + _ ≤ _; exact Nat.le_of_eq rfl) (hb hby d11_9) (fun _ _ => ⟨rfl, e2, (by decide : 1 + 0 ≤ _), (by decide : 12 + 0 ≤ _)⟩)
  dsimp only [Pt.U, Pt.locs, Pt.cells, Pt.slots] at X5 l5 y5 z5 st5 hQ5
  subst l5 y5 z5
  obtain ⟨rfl, N5q, K5q, O5⟩ := hQ5
  have N5 := Fr.app N0 N5q
  have CR6 := CR4.trans (CHr.keep K5q (allS (Safe.exa hZ.alike A2 (by decide) (by decide)) all0) CR4.1)
  have K5 := K2.trans K5q (allS (Or.inr sz_b2) all0)
  obtain ⟨T7, h7, X7, e7, W7, st7⟩ := putF X5 hx hZ hown (host := "") (Or.inl (tw hw 100 rfl)) Via.refl rfl ((F_fields_a1.ext E2).keep K5q (ninS (Nat.ne_of_lt (Nat.lt_of_lt_of_le E_a1.lt (Nat.le_of_eq g2.symm))) nin0)) ((E_a1.ext E2).keep K5q) (Or.inr ⟨(tw hw 101 rfl), rfl, hnm⟩) (tw hw 39 rfl) (ty := (.object "java/util/Map")) (by decide) rfl rfl (g := (mkF m 12 #[Rf a1, Rf a2, Rf a3, Rf a4, It p5, Rf a6, Rf a7, Rf a8, Rf a9, Rf a10, Rf a11, .unset, .unset] [(.ref b2), (.ref a1)])) rfl rfl (hb hby d11_12)
  have Fw7 := ((F_fields_a1.ext E2).keep K5q (ninS (Nat.ne_of_lt (Nat.lt_of_lt_of_le E_a1.lt (Nat.le_of_eq g2.symm))) nin0)).same W7
  have N7 := Fr.snoc X7 N5 ge_a1
  have O8 := O5.wr W7 ge_a1
  have K7 := K5.wr W7 (Or.inl (List.mem_of_getElem? (i := 0) rfl))
  have CR9 := CR6.trans (CHr.wr W7 (Safe.exa hZ.alike ((E_a1.ext E2).keep K5q) (by decide) (by decide)) CR6.1)
  obtain ⟨sa10, T10, h10, k10, X10, e10, E10, Y10, Yk10, hZ10, hown10, C10, Lt10, st10⟩ := ldcOH X7 hx hZ hown (tw hw 102 rfl) hSA e7 Y0 (Nat.le_trans (Nat.le_trans (Nat.le_trans Yk0 E2.1) K5q.1) (Keep.of_wr W7).1) hEL CR9.1 (g := (mkF m 17 #[Rf a1, Rf a2, Rf a3, Rf a4, It p5, Rf a6, Rf a7, Rf a8, Rf a9, Rf a10, Rf a11, .unset, .unset] [(.ref a2), (.ref a1)])) rfl (hb hby d11_17) (n := 16) (by decide) (by decide) (by decide) (by decide)
  have O11 := O8.ext E10
  have K10 := K7.ext E10
  have CR12 := CR9.trans (C10)
  obtain ⟨_, _, ⟨T13, L13, k13, n13⟩, -, X13, ⟨Lc13, hQ13, l13, y13, z13⟩, st13⟩ := Jvm.LawKit.callS X10 hx (y := (⟨"java/util/Objects", "requireNonNull", "(Ljava/lang/Object;Ljava/lang/String;)Ljava/lang/Object;"⟩ : MethodName)) hown10 (mvT hZ10 (tw hw 103 rfl)) (mvT hZ10 (tw hw 104 rfl)) (mvT hZ10 (tw hw 105 rfl)) (mvT hZ10 (tw hw 106 rfl)) (by decide) (backOf (W := 1) (rm15 l Z a0 hw [] a2 sa10 h10 n0 O11 ) hZ10 (tw hw 106 rfl) (tw hw 105 rfl) (by decide) (by decide)) (g := (mkF m 19 #[Rf a1, Rf a2, Rf a3, Rf a4, It p5, Rf a6, Rf a7, Rf a8, Rf a9, Rf a10, Rf a11, .unset, .unset] [(.ref sa10), (.ref a2), (.ref a1)])) rfl (by rw [hml]; rfl) (argsL := [(.ref a2), (.ref sa10)]) (rest := [(.ref a1)]) (lenOf pd_7 rfl) rfl (by show 2 * 0 + _ ≤ _; exact Nat.le_of_eq rfl) (hb hby d11_19) (fun _ _ => ⟨rfl, e10, (by decide : 3 + 0 ≤ _), (by decide : 32 + 0 ≤ _)⟩)
  dsimp only [Pt.U, Pt.locs, Pt.cells, Pt.slots] at X13 l13 y13 z13 st13 hQ13
  subst l13 y13 z13
  obtain ⟨rfl, N13q, e13⟩ := hQ13
  have N13 := Fr.app N7 N13q
  obtain ⟨T14, X14, e14, st14⟩ := castY X13 hx hZ10 hown10 (tw hw 107 rfl) e13 (Ins.self ((((E_a2.ext E2).keep K5q).wr W7).ext E10)) (g := (mkF m 22 #[Rf a1, Rf a2, Rf a3, Rf a4, It p5, Rf a6, Rf a7, Rf a8, Rf a9, Rf a10, Rf a11, .unset, .unset] [(.ref a2), (.ref a1)])) rfl rfl (hb hby d11_22)
  obtain ⟨T15, h15, X15, e15, W15, st15⟩ := putF X14 hx hZ10 hown10 (host := "") (Or.inl (tw hw 108 rfl)) Via.refl e14 ((((F_kind_a1.ext E2).keep K5q (ninS (Nat.ne_of_lt (Nat.lt_of_lt_of_le E_a1.lt (Nat.le_of_eq g2.symm))) nin0)).other W7 (sn (.object "java/lang/String") (.object "java/util/Map") (Or.inr (tw hw 109 rfl)) (Or.inr (tw hw 101 rfl)))).ext E10) ((((E_a1.ext E2).keep K5q).wr W7).ext E10) (Or.inr ⟨(tw hw 109 rfl), rfl, hnm⟩) (tw hw 39 rfl) (ty := (.object "java/lang/String")) (by decide) rfl rfl (g := (mkF m 25 #[Rf a1, Rf a2, Rf a3, Rf a4, It p5, Rf a6, Rf a7, Rf a8, Rf a9, Rf a10, Rf a11, .unset, .unset] [(.ref a2), (.ref a1)])) rfl rfl (hb hby d11_25)
  have Fw15 := ((((F_kind_a1.ext E2).keep K5q (ninS (Nat.ne_of_lt (Nat.lt_of_lt_of_le E_a1.lt (Nat.le_of_eq g2.symm))) nin0)).other W7 (sn (.object "java/lang/String") (.object "java/util/Map") (Or.inr (tw hw 109 rfl)) (Or.inr (tw hw 101 rfl)))).ext E10).same W15
  have N15 := Fr.snoc X15 N13 ge_a1
  have O16 := O11.wr W15 ge_a1
  have K15 := K10.wr W15 (Or.inl (List.mem_of_getElem? (i := 0) rfl))
  have CR17 := CR12.trans (CHr.wr W15 (Safe.exa hZ10.alike ((((E_a1.ext E2).keep K5q).wr W7).ext E10) (by decide) (by decide)) CR12.1)
  obtain ⟨cq18, kq18, q18a, q18b, q18c⟩ := isOf hZ10 e15 (((((E_a3.ext E2).keep K5q).wr W7).ext E10).wr W15)
  obtain ⟨_, _, ⟨T18, L18, k18, n18⟩, -, X18, ⟨Lc18, hQ18, l18, y18, z18⟩, st18⟩ := X15.virtualBack hx (y := (⟨"java/util/Optional", "orElse", "(Ljava/lang/Object;)Ljava/lang/Object;"⟩ : MethodName)) (z := (⟨"java/util/Optional", "orElse", "(Ljava/lang/Object;)Ljava/lang/Object;"⟩ : MethodName)) hown10 (mvT hZ10 (tw hw 110 rfl)) (mvT hZ10 (tw hw 111 rfl)) (notFace_of_selects (args := #[]) (mvT hZ10 (tw hw 113 rfl))) (mvT hZ10 (tw hw 113 rfl)) (mvT hZ10 (tw hw 112 rfl)) (by decide) (backOf (W := 1) (rm16_1 l Z a0 hw [] a3 mv h15 n0 O16 (((((F_value_a3.ext E2).keep K5q (ninS (Nat.ne_of_lt (Nat.lt_of_lt_of_le E_a3.lt (Nat.le_of_eq g2.symm))) nin0)).other W7 (Or.inl (Exa.ne E_a3 E_a1 (by decide)))).ext E10).other W15 (Or.inl (Exa.ne E_a3 E_a1 (by decide))))) hZ10 (tw hw 114 rfl) (tw hw 29 rfl) (by decide) (by decide)) q18a q18c (g := (mkF m 31 #[Rf a1, Rf a2, Rf a3, Rf a4, It p5, Rf a6, Rf a7, Rf a8, Rf a9, Rf a10, Rf a11, .unset, .unset] [.null, (.ref a3), (.ref a1)])) rfl (by rw [hml]; rfl) (Steps.refl _) (argsL := [.null]) (rest := [(.ref a1)]) (lenOf pd_3 rfl) rfl (by show 2 * 0 + _ ≤ _; exact Nat.le_of_eq rfl) (hb hby d11_31) (fun _ _ => ⟨rfl, e15, (by decide : 3 + 0 ≤ _), (by decide : 32 + 0 ≤ _)⟩)
  dsimp only [Pt.U, Pt.locs, Pt.cells, Pt.slots] at X18 l18 y18 z18 st18 hQ18
  subst l18 y18 z18
  obtain ⟨rfl, N18q, e18⟩ := hQ18
  have N18 := Fr.app N15 N18q
  obtain ⟨T19, X19, e19, st19⟩ := castY X18 hx hZ10 hown10 (tw hw 206 rfl) e18 (Ins.self (((((E_mv.ext E2).keep K5q).wr W7).ext E10).wr W15)) (g := (mkF m 34 #[Rf a1, Rf a2, Rf a3, Rf a4, It p5, Rf a6, Rf a7, Rf a8, Rf a9, Rf a10, Rf a11, .unset, .unset] [(.ref mv), (.ref a1)])) rfl rfl (hb hby d11_34)
  obtain ⟨T20, h20, X20, e20, W20, st20⟩ := putF X19 hx hZ10 hown10 (host := "") (Or.inl (tw hw 117 rfl)) Via.refl e19 (((((F_morphia_a1.ext E2).keep K5q (ninS (Nat.ne_of_lt (Nat.lt_of_lt_of_le E_a1.lt (Nat.le_of_eq g2.symm))) nin0)).other W7 (sn (.object "com/example/legacy_to_latest/legacytolatest/EntityClass$Morphia") (.object "java/util/Map") (Or.inr (tw hw 118 rfl)) (Or.inr (tw hw 101 rfl)))).ext E10).other W15 (sn (.object "com/example/legacy_to_latest/legacytolatest/EntityClass$Morphia") (.object "java/lang/String") (Or.inr (tw hw 118 rfl)) (Or.inr (tw hw 109 rfl)))) (((((E_a1.ext E2).keep K5q).wr W7).ext E10).wr W15) (Or.inr ⟨(tw hw 118 rfl), rfl, hnm⟩) (tw hw 39 rfl) (ty := (.object "com/example/legacy_to_latest/legacytolatest/EntityClass$Morphia")) (by decide) rfl rfl (g := (mkF m 37 #[Rf a1, Rf a2, Rf a3, Rf a4, It p5, Rf a6, Rf a7, Rf a8, Rf a9, Rf a10, Rf a11, .unset, .unset] [(.ref mv), (.ref a1)])) rfl rfl (hb hby d11_37)
  have Fw20 := (((((F_morphia_a1.ext E2).keep K5q (ninS (Nat.ne_of_lt (Nat.lt_of_lt_of_le E_a1.lt (Nat.le_of_eq g2.symm))) nin0)).other W7 (sn (.object "com/example/legacy_to_latest/legacytolatest/EntityClass$Morphia") (.object "java/util/Map") (Or.inr (tw hw 118 rfl)) (Or.inr (tw hw 101 rfl)))).ext E10).other W15 (sn (.object "com/example/legacy_to_latest/legacytolatest/EntityClass$Morphia") (.object "java/lang/String") (Or.inr (tw hw 118 rfl)) (Or.inr (tw hw 109 rfl)))).same W20
  have N20 := Fr.snoc X20 N18 ge_a1
  have O21 := O16.wr W20 ge_a1
  have K20 := K15.wr W20 (Or.inl (List.mem_of_getElem? (i := 0) rfl))
  have CR22 := CR17.trans (CHr.wr W20 (Safe.exa hZ10.alike (((((E_a1.ext E2).keep K5q).wr W7).ext E10).wr W15) (by decide) (by decide)) CR17.1)
  obtain ⟨cq23, kq23, q23a, q23b, q23c⟩ := isOf hZ10 e20 ((((((E_a4.ext E2).keep K5q).wr W7).ext E10).wr W15).wr W20)
  obtain ⟨_, _, ⟨T23, L23, k23, n23⟩, -, X23, ⟨Lc23, hQ23, l23, y23, z23⟩, st23⟩ := X20.virtualBack hx (y := (⟨"java/util/Optional", "orElse", "(Ljava/lang/Object;)Ljava/lang/Object;"⟩ : MethodName)) (z := (⟨"java/util/Optional", "orElse", "(Ljava/lang/Object;)Ljava/lang/Object;"⟩ : MethodName)) hown10 (mvT hZ10 (tw hw 110 rfl)) (mvT hZ10 (tw hw 111 rfl)) (notFace_of_selects (args := #[]) (mvT hZ10 (tw hw 113 rfl))) (mvT hZ10 (tw hw 113 rfl)) (mvT hZ10 (tw hw 112 rfl)) (by decide) (backOf (W := 1) (rm16_1 l Z a0 hw [] a4 dv h20 n0 O21 ((((((F_value_a4.ext E2).keep K5q (ninS (Nat.ne_of_lt (Nat.lt_of_lt_of_le E_a4.lt (Nat.le_of_eq g2.symm))) nin0)).other W7 (Or.inl (Exa.ne E_a4 E_a1 (by decide)))).ext E10).other W15 (Or.inl (Exa.ne E_a4 E_a1 (by decide)))).other W20 (Or.inl (Exa.ne E_a4 E_a1 (by decide))))) hZ10 (tw hw 114 rfl) (tw hw 29 rfl) (by decide) (by decide)) q23a q23c (g := (mkF m 43 #[Rf a1, Rf a2, Rf a3, Rf a4, It p5, Rf a6, Rf a7, Rf a8, Rf a9, Rf a10, Rf a11, .unset, .unset] [.null, (.ref a4), (.ref a1)])) rfl (by rw [hml]; rfl) (Steps.refl _) (argsL := [.null]) (rest := [(.ref a1)]) (lenOf pd_3 rfl) rfl (by show 2 * 0 + _ ≤ _; exact Nat.le_of_eq rfl) (hb hby d11_43) (fun _ _ => ⟨rfl, e20, (by decide : 3 + 0 ≤ _), (by decide : 32 + 0 ≤ _)⟩)
  dsimp only [Pt.U, Pt.locs, Pt.cells, Pt.slots] at X23 l23 y23 z23 st23 hQ23
  subst l23 y23 z23
  obtain ⟨rfl, N23q, e23⟩ := hQ23
  have N23 := Fr.app N20 N23q
  obtain ⟨T24, X24, e24, st24⟩ := castY X23 hx hZ10 hown10 (tw hw 107 rfl) e23 (Ins.self ((((((E_dv.ext E2).keep K5q).wr W7).ext E10).wr W15).wr W20)) (g := (mkF m 46 #[Rf a1, Rf a2, Rf a3, Rf a4, It p5, Rf a6, Rf a7, Rf a8, Rf a9, Rf a10, Rf a11, .unset, .unset] [(.ref dv), (.ref a1)])) rfl rfl (hb hby d11_46)
  obtain ⟨T25, h25, X25, e25, W25, st25⟩ := putF X24 hx hZ10 hown10 (host := "") (Or.inl (tw hw 119 rfl)) Via.refl e24 ((((((F_discriminator_a1.ext E2).keep K5q (ninS (Nat.ne_of_lt (Nat.lt_of_lt_of_le E_a1.lt (Nat.le_of_eq g2.symm))) nin0)).other W7 (sn (.object "java/lang/String") (.object "java/util/Map") (Or.inr (tw hw 120 rfl)) (Or.inr (tw hw 101 rfl)))).ext E10).other W15 (sn (.object "java/lang/String") (.object "java/lang/String") (Or.inr (tw hw 120 rfl)) (Or.inr (tw hw 109 rfl)))).other W20 (sn (.object "java/lang/String") (.object "com/example/legacy_to_latest/legacytolatest/EntityClass$Morphia") (Or.inr (tw hw 120 rfl)) (Or.inr (tw hw 118 rfl)))) ((((((E_a1.ext E2).keep K5q).wr W7).ext E10).wr W15).wr W20) (Or.inr ⟨(tw hw 120 rfl), rfl, hnm⟩) (tw hw 39 rfl) (ty := (.object "java/lang/String")) (by decide) rfl rfl (g := (mkF m 49 #[Rf a1, Rf a2, Rf a3, Rf a4, It p5, Rf a6, Rf a7, Rf a8, Rf a9, Rf a10, Rf a11, .unset, .unset] [(.ref dv), (.ref a1)])) rfl rfl (hb hby d11_49)
  have Fw25 := ((((((F_discriminator_a1.ext E2).keep K5q (ninS (Nat.ne_of_lt (Nat.lt_of_lt_of_le E_a1.lt (Nat.le_of_eq g2.symm))) nin0)).other W7 (sn (.object "java/lang/String") (.object "java/util/Map") (Or.inr (tw hw 120 rfl)) (Or.inr (tw hw 101 rfl)))).ext E10).other W15 (sn (.object "java/lang/String") (.object "java/lang/String") (Or.inr (tw hw 120 rfl)) (Or.inr (tw hw 109 rfl)))).other W20 (sn (.object "java/lang/String") (.object "com/example/legacy_to_latest/legacytolatest/EntityClass$Morphia") (Or.inr (tw hw 120 rfl)) (Or.inr (tw hw 118 rfl)))).same W25
  have N25 := Fr.snoc X25 N23 ge_a1
  have O26 := O21.wr W25 ge_a1
  have K25 := K20.wr W25 (Or.inl (List.mem_of_getElem? (i := 0) rfl))
  have CR27 := CR22.trans (CHr.wr W25 (Safe.exa hZ10.alike ((((((E_a1.ext E2).keep K5q).wr W7).ext E10).wr W15).wr W20) (by decide) (by decide)) CR22.1)
  obtain ⟨T28, h28, X28, e28, W28, st28⟩ := putFN X25 hx hZ10 hown10 (tw hw 121 rfl) Via.refl e25 (((((((F_abstractClass_a1.ext E2).keep K5q (ninS (Nat.ne_of_lt (Nat.lt_of_lt_of_le E_a1.lt (Nat.le_of_eq g2.symm))) nin0)).other W7 (sn .boolean (.object "java/util/Map") (Or.inr (tw hw 122 rfl)) (Or.inr (tw hw 101 rfl)))).ext E10).other W15 (sn .boolean (.object "java/lang/String") (Or.inr (tw hw 122 rfl)) (Or.inr (tw hw 109 rfl)))).other W20 (sn .boolean (.object "com/example/legacy_to_latest/legacytolatest/EntityClass$Morphia") (Or.inr (tw hw 122 rfl)) (Or.inr (tw hw 118 rfl)))).other W25 (sn .boolean (.object "java/lang/String") (Or.inr (tw hw 122 rfl)) (Or.inr (tw hw 120 rfl)))) (((((((E_a1.ext E2).keep K5q).wr W7).ext E10).wr W15).wr W20).wr W25) (Or.inr ⟨(tw hw 122 rfl), rfl, hnm⟩) (tw hw 39 rfl) (ty := .boolean) (v' := .int (nar .boolean p5)) (by decide) rfl (fits_nar_bool _) (g := (mkF m 55 #[Rf a1, Rf a2, Rf a3, Rf a4, It p5, Rf a6, Rf a7, Rf a8, Rf a9, Rf a10, Rf a11, .unset, .unset] [(.int p5), (.ref a1)])) rfl rfl (hb hby d11_55)
  have Fw28 := (((((((F_abstractClass_a1.ext E2).keep K5q (ninS (Nat.ne_of_lt (Nat.lt_of_lt_of_le E_a1.lt (Nat.le_of_eq g2.symm))) nin0)).other W7 (sn .boolean (.object "java/util/Map") (Or.inr (tw hw 122 rfl)) (Or.inr (tw hw 101 rfl)))).ext E10).other W15 (sn .boolean (.object "java/lang/String") (Or.inr (tw hw 122 rfl)) (Or.inr (tw hw 109 rfl)))).other W20 (sn .boolean (.object "com/example/legacy_to_latest/legacytolatest/EntityClass$Morphia") (Or.inr (tw hw 122 rfl)) (Or.inr (tw hw 118 rfl)))).other W25 (sn .boolean (.object "java/lang/String") (Or.inr (tw hw 122 rfl)) (Or.inr (tw hw 120 rfl)))).same W28
  have N28 := Fr.snoc X28 N25 ge_a1
  have O29 := O26.wr W28 ge_a1
  have K28 := K25.wr W28 (Or.inl (List.mem_of_getElem? (i := 0) rfl))
  have CR30 := CR27.trans (CHr.wr W28 (Safe.exa hZ10.alike (((((((E_a1.ext E2).keep K5q).wr W7).ext E10).wr W15).wr W20).wr W25) (by decide) (by decide)) CR27.1)
  obtain ⟨sa31, T31, h31, k31, X31, e31, E31, Y31, Yk31, hZ31, hown31, C31, Lt31, st31⟩ := ldcOH X28 hx hZ10 hown10 (tw hw 123 rfl) hSA e28 Y10 (Nat.le_trans (Nat.le_trans (Nat.le_trans (Nat.le_trans Yk10 (Keep.of_wr W15).1) (Keep.of_wr W20).1) (Keep.of_wr W25).1) (Keep.of_wr W28).1) hEL CR30.1 (g := (mkF m 61 #[Rf a1, Rf a2, Rf a3, Rf a4, It p5, Rf a6, Rf a7, Rf a8, Rf a9, Rf a10, Rf a11, .unset, .unset] [(.ref a6), (.ref a1)])) rfl (hb hby d11_61) (n := 36) (by decide) (by decide) (by decide) (by decide)
  have O32 := O29.ext E31
  have K31 := K28.ext E31
  have CR33 := CR30.trans (C31)
  obtain ⟨_, _, ⟨T34, L34, k34, n34⟩, -, X34, ⟨Lc34, hQ34, l34, y34, z34⟩, st34⟩ := Jvm.LawKit.callS X31 hx (y := (⟨"java/util/Objects", "requireNonNull", "(Ljava/lang/Object;Ljava/lang/String;)Ljava/lang/Object;"⟩ : MethodName)) hown31 (mvT hZ31 (tw hw 103 rfl)) (mvT hZ31 (tw hw 104 rfl)) (mvT hZ31 (tw hw 105 rfl)) (mvT hZ31 (tw hw 106 rfl)) (by decide) (backOf (W := 1) (rm15 l Z a0 hw [] a6 sa31 h31 n0 O32 ) hZ31 (tw hw 106 rfl) (tw hw 105 rfl) (by decide) (by decide)) (g := (mkF m 63 #[Rf a1, Rf a2, Rf a3, Rf a4, It p5, Rf a6, Rf a7, Rf a8, Rf a9, Rf a10, Rf a11, .unset, .unset] [(.ref sa31), (.ref a6), (.ref a1)])) rfl (by rw [hml]; rfl) (argsL := [(.ref a6), (.ref sa31)]) (rest := [(.ref a1)]) (lenOf pd_7 rfl) rfl (by show 2 * 0 + _ ≤ _; exact Nat.le_of_eq rfl) (hb hby d11_63) (fun _ _ => ⟨rfl, e31, (by decide : 5 + 0 ≤ _), (by decide : 72 + 0 ≤ _)⟩)
  dsimp only [Pt.U, Pt.locs, Pt.cells, Pt.slots] at X34 l34 y34 z34 st34 hQ34
  subst l34 y34 z34
  obtain ⟨rfl, N34q, e34⟩ := hQ34
  have N34 := Fr.app N28 N34q
  obtain ⟨T35, X35, e35, st35⟩ := castY X34 hx hZ31 hown31 (tw hw 107 rfl) e34 (Ins.self (((((((((E_a6.ext E2).keep K5q).wr W7).ext E10).wr W15).wr W20).wr W25).wr W28).ext E31)) (g := (mkF m 66 #[Rf a1, Rf a2, Rf a3, Rf a4, It p5, Rf a6, Rf a7, Rf a8, Rf a9, Rf a10, Rf a11, .unset, .unset] [(.ref a6), (.ref a1)])) rfl rfl (hb hby d11_66)
  obtain ⟨T36, h36, X36, e36, W36, st36⟩ := putF X35 hx hZ31 hown31 (host := "") (Or.inl (tw hw 124 rfl)) Via.refl e35 (((((((((F_className_a1.ext E2).keep K5q (ninS (Nat.ne_of_lt (Nat.lt_of_lt_of_le E_a1.lt (Nat.le_of_eq g2.symm))) nin0)).other W7 (sn (.object "java/lang/String") (.object "java/util/Map") (Or.inr (tw hw 125 rfl)) (Or.inr (tw hw 101 rfl)))).ext E10).other W15 (sn (.object "java/lang/String") (.object "java/lang/String") (Or.inr (tw hw 125 rfl)) (Or.inr (tw hw 109 rfl)))).other W20 (sn (.object "java/lang/String") (.object "com/example/legacy_to_latest/legacytolatest/EntityClass$Morphia") (Or.inr (tw hw 125 rfl)) (Or.inr (tw hw 118 rfl)))).other W25 (sn (.object "java/lang/String") (.object "java/lang/String") (Or.inr (tw hw 125 rfl)) (Or.inr (tw hw 120 rfl)))).other W28 (sn (.object "java/lang/String") .boolean (Or.inr (tw hw 125 rfl)) (Or.inr (tw hw 122 rfl)))).ext E31) (((((((((E_a1.ext E2).keep K5q).wr W7).ext E10).wr W15).wr W20).wr W25).wr W28).ext E31) (Or.inr ⟨(tw hw 125 rfl), rfl, hnm⟩) (tw hw 39 rfl) (ty := (.object "java/lang/String")) (by decide) rfl rfl (g := (mkF m 69 #[Rf a1, Rf a2, Rf a3, Rf a4, It p5, Rf a6, Rf a7, Rf a8, Rf a9, Rf a10, Rf a11, .unset, .unset] [(.ref a6), (.ref a1)])) rfl rfl (hb hby d11_69)
  have Fw36 := (((((((((F_className_a1.ext E2).keep K5q (ninS (Nat.ne_of_lt (Nat.lt_of_lt_of_le E_a1.lt (Nat.le_of_eq g2.symm))) nin0)).other W7 (sn (.object "java/lang/String") (.object "java/util/Map") (Or.inr (tw hw 125 rfl)) (Or.inr (tw hw 101 rfl)))).ext E10).other W15 (sn (.object "java/lang/String") (.object "java/lang/String") (Or.inr (tw hw 125 rfl)) (Or.inr (tw hw 109 rfl)))).other W20 (sn (.object "java/lang/String") (.object "com/example/legacy_to_latest/legacytolatest/EntityClass$Morphia") (Or.inr (tw hw 125 rfl)) (Or.inr (tw hw 118 rfl)))).other W25 (sn (.object "java/lang/String") (.object "java/lang/String") (Or.inr (tw hw 125 rfl)) (Or.inr (tw hw 120 rfl)))).other W28 (sn (.object "java/lang/String") .boolean (Or.inr (tw hw 125 rfl)) (Or.inr (tw hw 122 rfl)))).ext E31).same W36
  have N36 := Fr.snoc X36 N34 ge_a1
  have O37 := O32.wr W36 ge_a1
  have K36 := K31.wr W36 (Or.inl (List.mem_of_getElem? (i := 0) rfl))
  have CR38 := CR33.trans (CHr.wr W36 (Safe.exa hZ31.alike (((((((((E_a1.ext E2).keep K5q).wr W7).ext E10).wr W15).wr W20).wr W25).wr W28).ext E31) (by decide) (by decide)) CR33.1)
  obtain ⟨sa39, T39, h39, k39, X39, e39, E39, Y39, Yk39, hZ39, hown39, C39, Lt39, st39⟩ := ldcOH X36 hx hZ31 hown31 (tw hw 126 rfl) hSA e36 Y31 (Nat.le_trans Yk31 (Keep.of_wr W36).1) hEL CR38.1 (g := (mkF m 75 #[Rf a1, Rf a2, Rf a3, Rf a4, It p5, Rf a6, Rf a7, Rf a8, Rf a9, Rf a10, Rf a11, .unset, .unset] [(.ref a7), (.ref a1)])) rfl (hb hby d11_75) (n := 40) (by decide) (by decide) (by decide) (by decide)
  have O40 := O37.ext E39
  have K39 := K36.ext E39
  have CR41 := CR38.trans (C39)
  obtain ⟨_, _, ⟨T42, L42, k42, n42⟩, -, X42, ⟨Lc42, hQ42, l42, y42, z42⟩, st42⟩ := Jvm.LawKit.callS X39 hx (y := (⟨"java/util/Objects", "requireNonNull", "(Ljava/lang/Object;Ljava/lang/String;)Ljava/lang/Object;"⟩ : MethodName)) hown39 (mvT hZ39 (tw hw 103 rfl)) (mvT hZ39 (tw hw 104 rfl)) (mvT hZ39 (tw hw 105 rfl)) (mvT hZ39 (tw hw 106 rfl)) (by decide) (backOf (W := 1) (rm15 l Z a0 hw [] a7 sa39 h39 n0 O40 ) hZ39 (tw hw 106 rfl) (tw hw 105 rfl) (by decide) (by decide)) (g := (mkF m 77 #[Rf a1, Rf a2, Rf a3, Rf a4, It p5, Rf a6, Rf a7, Rf a8, Rf a9, Rf a10, Rf a11, .unset, .unset] [(.ref sa39), (.ref a7), (.ref a1)])) rfl (by rw [hml]; rfl) (argsL := [(.ref a7), (.ref sa39)]) (rest := [(.ref a1)]) (lenOf pd_7 rfl) rfl (by show 2 * 0 + _ ≤ _; exact Nat.le_of_eq rfl) (hb hby d11_77) (fun _ _ => ⟨rfl, e39, (by decide : 7 + 0 ≤ _), (by decide : 116 + 0 ≤ _)⟩)
  dsimp only [Pt.U, Pt.locs, Pt.cells, Pt.slots] at X42 l42 y42 z42 st42 hQ42
  subst l42 y42 z42
  obtain ⟨rfl, N42q, e42⟩ := hQ42
  have N42 := Fr.app N36 N42q
  obtain ⟨T43, X43, e43, st43⟩ := castY X42 hx hZ39 hown39 (tw hw 107 rfl) e42 (Ins.self (((((((((((E_a7.ext E2).keep K5q).wr W7).ext E10).wr W15).wr W20).wr W25).wr W28).ext E31).wr W36).ext E39)) (g := (mkF m 80 #[Rf a1, Rf a2, Rf a3, Rf a4, It p5, Rf a6, Rf a7, Rf a8, Rf a9, Rf a10, Rf a11, .unset, .unset] [(.ref a7), (.ref a1)])) rfl rfl (hb hby d11_80)
  obtain ⟨T44, h44, X44, e44, W44, st44⟩ := putF X43 hx hZ39 hown39 (host := "") (Or.inl (tw hw 127 rfl)) Via.refl e43 (((((((((((F_binaryName_a1.ext E2).keep K5q (ninS (Nat.ne_of_lt (Nat.lt_of_lt_of_le E_a1.lt (Nat.le_of_eq g2.symm))) nin0)).other W7 (sn (.object "java/lang/String") (.object "java/util/Map") (Or.inr (tw hw 128 rfl)) (Or.inr (tw hw 101 rfl)))).ext E10).other W15 (sn (.object "java/lang/String") (.object "java/lang/String") (Or.inr (tw hw 128 rfl)) (Or.inr (tw hw 109 rfl)))).other W20 (sn (.object "java/lang/String") (.object "com/example/legacy_to_latest/legacytolatest/EntityClass$Morphia") (Or.inr (tw hw 128 rfl)) (Or.inr (tw hw 118 rfl)))).other W25 (sn (.object "java/lang/String") (.object "java/lang/String") (Or.inr (tw hw 128 rfl)) (Or.inr (tw hw 120 rfl)))).other W28 (sn (.object "java/lang/String") .boolean (Or.inr (tw hw 128 rfl)) (Or.inr (tw hw 122 rfl)))).ext E31).other W36 (sn (.object "java/lang/String") (.object "java/lang/String") (Or.inr (tw hw 128 rfl)) (Or.inr (tw hw 125 rfl)))).ext E39) (((((((((((E_a1.ext E2).keep K5q).wr W7).ext E10).wr W15).wr W20).wr W25).wr W28).ext E31).wr W36).ext E39) (Or.inr ⟨(tw hw 128 rfl), rfl, hnm⟩) (tw hw 39 rfl) (ty := (.object "java/lang/String")) (by decide) rfl rfl (g := (mkF m 83 #[Rf a1, Rf a2, Rf a3, Rf a4, It p5, Rf a6, Rf a7, Rf a8, Rf a9, Rf a10, Rf a11, .unset, .unset] [(.ref a7), (.ref a1)])) rfl rfl (hb hby d11_83)
  have Fw44 := (((((((((((F_binaryName_a1.ext E2).keep K5q (ninS (Nat.ne_of_lt (Nat.lt_of_lt_of_le E_a1.lt (Nat.le_of_eq g2.symm))) nin0)).other W7 (sn (.object "java/lang/String") (.object "java/util/Map") (Or.inr (tw hw 128 rfl)) (Or.inr (tw hw 101 rfl)))).ext E10).other W15 (sn (.object "java/lang/String") (.object "java/lang/String") (Or.inr (tw hw 128 rfl)) (Or.inr (tw hw 109 rfl)))).other W20 (sn (.object "java/lang/String") (.object "com/example/legacy_to_latest/legacytolatest/EntityClass$Morphia") (Or.inr (tw hw 128 rfl)) (Or.inr (tw hw 118 rfl)))).other W25 (sn (.object "java/lang/String") (.object "java/lang/String") (Or.inr (tw hw 128 rfl)) (Or.inr (tw hw 120 rfl)))).other W28 (sn (.object "java/lang/String") .boolean (Or.inr (tw hw 128 rfl)) (Or.inr (tw hw 122 rfl)))).ext E31).other W36 (sn (.object "java/lang/String") (.object "java/lang/String") (Or.inr (tw hw 128 rfl)) (Or.inr (tw hw 125 rfl)))).ext E39).same W44
  have N44 := Fr.snoc X44 N42 ge_a1
  have O45 := O40.wr W44 ge_a1
  have K44 := K39.wr W44 (Or.inl (List.mem_of_getElem? (i := 0) rfl))
  have CR46 := CR41.trans (CHr.wr W44 (Safe.exa hZ39.alike (((((((((((E_a1.ext E2).keep K5q).wr W7).ext E10).wr W15).wr W20).wr W25).wr W28).ext E31).wr W36).ext E39) (by decide) (by decide)) CR41.1)
  obtain ⟨sa47, T47, h47, k47, X47, e47, E47, Y47, Yk47, hZ47, hown47, C47, Lt47, st47⟩ := ldcOH X44 hx hZ39 hown39 (tw hw 129 rfl) hSA e44 Y39 (Nat.le_trans Yk39 (Keep.of_wr W44).1) hEL CR46.1 (g := (mkF m 89 #[Rf a1, Rf a2, Rf a3, Rf a4, It p5, Rf a6, Rf a7, Rf a8, Rf a9, Rf a10, Rf a11, .unset, .unset] [(.ref a8), (.ref a1)])) rfl (hb hby d11_89) (n := 24) (by decide) (by decide) (by decide) (by decide)
  have O48 := O45.ext E47
  have K47 := K44.ext E47
  have CR49 := CR46.trans (C47)
  obtain ⟨_, _, ⟨T50, L50, k50, n50⟩, -, X50, ⟨Lc50, hQ50, l50, y50, z50⟩, st50⟩ := Jvm.LawKit.callS X47 hx (y := (⟨"java/util/Objects", "requireNonNull", "(Ljava/lang/Object;Ljava/lang/String;)Ljava/lang/Object;"⟩ : MethodName)) hown47 (mvT hZ47 (tw hw 103 rfl)) (mvT hZ47 (tw hw 104 rfl)) (mvT hZ47 (tw hw 105 rfl)) (mvT hZ47 (tw hw 106 rfl)) (by decide) (backOf (W := 1) (rm15 l Z a0 hw [] a8 sa47 h47 n0 O48 ) hZ47 (tw hw 106 rfl) (tw hw 105 rfl) (by decide) (by decide)) (g := (mkF m 91 #[Rf a1, Rf a2, Rf a3, Rf a4, It p5, Rf a6, Rf a7, Rf a8, Rf a9, Rf a10, Rf a11, .unset, .unset] [(.ref sa47), (.ref a8), (.ref a1)])) rfl (by rw [hml]; rfl) (argsL := [(.ref a8), (.ref sa47)]) (rest := [(.ref a1)]) (lenOf pd_7 rfl) rfl (by show 2 * 0 + _ ≤ _; exact Nat.le_of_eq rfl) (hb hby d11_91) (fun _ _ => ⟨rfl, e47, (by decide : 9 + 0 ≤ _), (by decide : 144 + 0 ≤ _)⟩)
  dsimp only [Pt.U, Pt.locs, Pt.cells, Pt.slots] at X50 l50 y50 z50 st50 hQ50
  subst l50 y50 z50
  obtain ⟨rfl, N50q, e50⟩ := hQ50
  have N50 := Fr.app N44 N50q
  obtain ⟨T51, X51, e51, st51⟩ := castY X50 hx hZ47 hown47 (tw hw 107 rfl) e50 (Ins.self (((((((((((((E_a8.ext E2).keep K5q).wr W7).ext E10).wr W15).wr W20).wr W25).wr W28).ext E31).wr W36).ext E39).wr W44).ext E47)) (g := (mkF m 94 #[Rf a1, Rf a2, Rf a3, Rf a4, It p5, Rf a6, Rf a7, Rf a8, Rf a9, Rf a10, Rf a11, .unset, .unset] [(.ref a8), (.ref a1)])) rfl rfl (hb hby d11_94)
  obtain ⟨T52, h52, X52, e52, W52, st52⟩ := putF X51 hx hZ47 hown47 (host := "") (Or.inl (tw hw 130 rfl)) Via.refl e51 (((((((((((((F_source_a1.ext E2).keep K5q (ninS (Nat.ne_of_lt (Nat.lt_of_lt_of_le E_a1.lt (Nat.le_of_eq g2.symm))) nin0)).other W7 (sn (.object "java/lang/String") (.object "java/util/Map") (Or.inr (tw hw 131 rfl)) (Or.inr (tw hw 101 rfl)))).ext E10).other W15 (sn (.object "java/lang/String") (.object "java/lang/String") (Or.inr (tw hw 131 rfl)) (Or.inr (tw hw 109 rfl)))).other W20 (sn (.object "java/lang/String") (.object "com/example/legacy_to_latest/legacytolatest/EntityClass$Morphia") (Or.inr (tw hw 131 rfl)) (Or.inr (tw hw 118 rfl)))).other W25 (sn (.object "java/lang/String") (.object "java/lang/String") (Or.inr (tw hw 131 rfl)) (Or.inr (tw hw 120 rfl)))).other W28 (sn (.object "java/lang/String") .boolean (Or.inr (tw hw 131 rfl)) (Or.inr (tw hw 122 rfl)))).ext E31).other W36 (sn (.object "java/lang/String") (.object "java/lang/String") (Or.inr (tw hw 131 rfl)) (Or.inr (tw hw 125 rfl)))).ext E39).other W44 (sn (.object "java/lang/String") (.object "java/lang/String") (Or.inr (tw hw 131 rfl)) (Or.inr (tw hw 128 rfl)))).ext E47) (((((((((((((E_a1.ext E2).keep K5q).wr W7).ext E10).wr W15).wr W20).wr W25).wr W28).ext E31).wr W36).ext E39).wr W44).ext E47) (Or.inr ⟨(tw hw 131 rfl), rfl, hnm⟩) (tw hw 39 rfl) (ty := (.object "java/lang/String")) (by decide) rfl rfl (g := (mkF m 97 #[Rf a1, Rf a2, Rf a3, Rf a4, It p5, Rf a6, Rf a7, Rf a8, Rf a9, Rf a10, Rf a11, .unset, .unset] [(.ref a8), (.ref a1)])) rfl rfl (hb hby d11_97)
  have Fw52 := (((((((((((((F_source_a1.ext E2).keep K5q (ninS (Nat.ne_of_lt (Nat.lt_of_lt_of_le E_a1.lt (Nat.le_of_eq g2.symm))) nin0)).other W7 (sn (.object "java/lang/String") (.object "java/util/Map") (Or.inr (tw hw 131 rfl)) (Or.inr (tw hw 101 rfl)))).ext E10).other W15 (sn (.object "java/lang/String") (.object "java/lang/String") (Or.inr (tw hw 131 rfl)) (Or.inr (tw hw 109 rfl)))).other W20 (sn (.object "java/lang/String") (.object "com/example/legacy_to_latest/legacytolatest/EntityClass$Morphia") (Or.inr (tw hw 131 rfl)) (Or.inr (tw hw 118 rfl)))).other W25 (sn (.object "java/lang/String") (.object "java/lang/String") (Or.inr (tw hw 131 rfl)) (Or.inr (tw hw 120 rfl)))).other W28 (sn (.object "java/lang/String") .boolean (Or.inr (tw hw 131 rfl)) (Or.inr (tw hw 122 rfl)))).ext E31).other W36 (sn (.object "java/lang/String") (.object "java/lang/String") (Or.inr (tw hw 131 rfl)) (Or.inr (tw hw 125 rfl)))).ext E39).other W44 (sn (.object "java/lang/String") (.object "java/lang/String") (Or.inr (tw hw 131 rfl)) (Or.inr (tw hw 128 rfl)))).ext E47).same W52
  have N52 := Fr.snoc X52 N50 ge_a1
  have O53 := O48.wr W52 ge_a1
  have K52 := K47.wr W52 (Or.inl (List.mem_of_getElem? (i := 0) rfl))
  have CR54 := CR49.trans (CHr.wr W52 (Safe.exa hZ47.alike (((((((((((((E_a1.ext E2).keep K5q).wr W7).ext E10).wr W15).wr W20).wr W25).wr W28).ext E31).wr W36).ext E39).wr W44).ext E47) (by decide) (by decide)) CR49.1)
  obtain ⟨cq55, kq55, q55a, q55b, q55c⟩ := isOf hZ47 e52 ((((((((((((((E_a9.ext E2).keep K5q).wr W7).ext E10).wr W15).wr W20).wr W25).wr W28).ext E31).wr W36).ext E39).wr W44).ext E47).wr W52)
  obtain ⟨_, _, ⟨T55, L55, k55, n55⟩, -, X55, ⟨Lc55, hQ55, l55, y55, z55⟩, st55⟩ := X52.interfaceBack hx (xi := (⟨"java/util/List", "iterator", "()Ljava/util/Iterator;"⟩ : MethodName)) (y := (⟨"java/util/ArrayList", "iterator", "()Ljava/util/Iterator;"⟩ : MethodName)) hown47 (mvT hZ47 (tw hw 132 rfl)) (mvT hZ47 (tw hw 133 rfl)) (mvT hZ47 (tw hw 134 rfl)) (mvT hZ47 (tw hw 135 rfl)) (mvT hZ47 (tw hw 136 rfl)) (mvT hZ47 (tw hw 137 rfl)) (mvT hZ47 (tw hw 138 rfl)) (mvT hZ47 (tw hw 139 rfl)) (by decide) (backOf (W := 0) (rm17 l Z a0 hw [] a9 h52 n0 O53 ((((((((((((((E_a9.ext E2).keep K5q).wr W7).ext E10).wr W15).wr W20).wr W25).wr W28).ext E31).wr W36).ext E39).wr W44).ext E47).wr W52) ((((((((((((((F_modCount_a9.ext E2).keep K5q (ninS (Nat.ne_of_lt (Nat.lt_of_lt_of_le E_a9.lt (Nat.le_of_eq g2.symm))) nin0)).other W7 (Or.inl (Exa.ne E_a9 E_a1 (by decide)))).ext E10).other W15 (Or.inl (Exa.ne E_a9 E_a1 (by decide)))).other W20 (Or.inl (Exa.ne E_a9 E_a1 (by decide)))).other W25 (Or.inl (Exa.ne E_a9 E_a1 (by decide)))).other W28 (Or.inl (Exa.ne E_a9 E_a1 (by decide)))).ext E31).other W36 (Or.inl (Exa.ne E_a9 E_a1 (by decide)))).ext E39).other W44 (Or.inl (Exa.ne E_a9 E_a1 (by decide)))).ext E47).other W52 (Or.inl (Exa.ne E_a9 E_a1 (by decide))))) hZ47 (tw hw 140 rfl) (tw hw 48 rfl) (by decide) (by decide)) q55a q55b q55c (g := (mkF m 102 #[Rf a1, Rf a2, Rf a3, Rf a4, It p5, Rf a6, Rf a7, Rf a8, Rf a9, Rf a10, Rf a11, .unset, .unset] [(.ref a9)])) rfl (by rw [hml]; rfl) (Steps.refl _) (argsL := []) (rest := []) (lenOf pd_8 rfl) rfl (by show 2 * 0 + _ ≤ _; exact Nat.le_of_eq rfl) (hb hby d11_102) (fun _ _ => ⟨rfl, e52, (by decide : 9 + 1 ≤ _), (by decide : 144 + 4 ≤ _)⟩)
  dsimp only [Pt.U, Pt.locs, Pt.cells, Pt.slots] at X55 l55 y55 z55 st55 hQ55
  subst l55 y55 z55
  obtain ⟨r_55, rfl, N55q, K55q, O55, f55_0, f55_1, f55_2, f55_3, f55_4⟩ := hQ55
  have N55 := Fr.app N52 N55q
  have CR56 := CR54.trans (CHr.keep K55q all0 CR54.1)
  have K55 := K52.trans K55q all0
  obtain ⟨cq57, kq57, q57a, q57b, q57c⟩ := isOf hZ47 rfl f55_2
  obtain ⟨_, _, ⟨T57, L57, k57, n57⟩, -, X57, ⟨Lc57, hQ57, l57, y57, z57⟩, st57⟩ := X55.interfaceBack hx (xi := (⟨"java/util/Iterator", "hasNext", "()Z"⟩ : MethodName)) (y := (⟨"java/util/ArrayList$Itr", "hasNext", "()Z"⟩ : MethodName)) hown47 (mvT hZ47 (tw hw 157 rfl)) (mvT hZ47 (tw hw 158 rfl)) (mvT hZ47 (tw hw 159 rfl)) (mvT hZ47 (tw hw 160 rfl)) (mvT hZ47 (tw hw 161 rfl)) (mvT hZ47 (tw hw 162 rfl)) (mvT hZ47 (tw hw 163 rfl)) (mvT hZ47 (tw hw 164 rfl)) (by decide) (backOf (W := 0) (rm19 l Z a0 hw [] r_55 a9 T55.heap n0 O55 f55_4 f55_3 (((((((((((((((F_size_a9.ext E2).keep K5q (ninS (Nat.ne_of_lt (Nat.lt_of_lt_of_le E_a9.lt (Nat.le_of_eq g2.symm))) nin0)).other W7 (Or.inl (Exa.ne E_a9 E_a1 (by decide)))).ext E10).other W15 (Or.inl (Exa.ne E_a9 E_a1 (by decide)))).other W20 (Or.inl (Exa.ne E_a9 E_a1 (by decide)))).other W25 (Or.inl (Exa.ne E_a9 E_a1 (by decide)))).other W28 (Or.inl (Exa.ne E_a9 E_a1 (by decide)))).ext E31).other W36 (Or.inl (Exa.ne E_a9 E_a1 (by decide)))).ext E39).other W44 (Or.inl (Exa.ne E_a9 E_a1 (by decide)))).ext E47).other W52 (Or.inl (Exa.ne E_a9 E_a1 (by decide)))).keep K55q nin0)) hZ47 (tw hw 165 rfl) (tw hw 143 rfl) (by decide) (by decide)) q57a q57b q57c (g := (mkF m 111 #[Rf a1, Rf a2, Rf a3, Rf a4, It p5, Rf a6, Rf a7, Rf a8, Rf a9, Rf a10, Rf a11, Rf r_55, .unset] [(.ref r_55)])) rfl (by rw [hml]; rfl) (Steps.refl _) (argsL := []) (rest := []) (lenOf pd_9 rfl) rfl (by show 2 * 0 + _ ≤ _; exact Nat.le_of_eq rfl) (hb hby d11_111) (fun _ _ => ⟨rfl, rfl, (by decide : 10 + 0 ≤ _), (by decide : 148 + 0 ≤ _)⟩)
  dsimp only [Pt.U, Pt.locs, Pt.cells, Pt.slots] at X57 l57 y57 z57 st57 hQ57
  subst l57 y57 z57
  obtain ⟨rfl, N57q, e57⟩ := hQ57
  have N57 := Fr.app N55 N57q
  obtain ⟨_, _, ⟨T58, L58, k58, n58⟩, -, X58, ⟨Lc58, hQ58, l58, y58, z58⟩, st58⟩ := Jvm.LawKit.callS X57 hx (y := (⟨"java/util/Map", "copyOf", "(Ljava/util/Map;)Ljava/util/Map;"⟩ : MethodName)) hown47 (mvT hZ47 (tw hw 170 rfl)) (mvT hZ47 (tw hw 171 rfl)) (mvT hZ47 (tw hw 34 rfl)) (mvT hZ47 (tw hw 172 rfl)) (by decide) (backOf (W := 1) (rm20 l Z a0 hw [] a10 T55.heap n0 O55 (((((((((((((((E_a10.ext E2).keep K5q).wr W7).ext E10).wr W15).wr W20).wr W25).wr W28).ext E31).wr W36).ext E39).wr W44).ext E47).wr W52).keep K55q)) hZ47 (tw hw 172 rfl) (tw hw 34 rfl) (by decide) (by decide)) (g := (mkF m 167 #[Rf a1, Rf a2, Rf a3, Rf a4, It p5, Rf a6, Rf a7, Rf a8, Rf a9, Rf a10, Rf a11, Rf r_55, .unset] [(.ref a10), (.ref a1)])) rfl (by rw [hml]; rfl) (argsL := [(.ref a10)]) (rest := [(.ref a1)]) (lenOf pd_10 rfl) rfl (by show 2 * 0 + _ ≤ _; exact Nat.le_of_eq rfl) (hb hby d11_167) (fun _ _ => ⟨rfl, e57, (by decide : 10 + 0 ≤ _), (by decide : 148 + 0 ≤ _)⟩)
  dsimp only [Pt.U, Pt.locs, Pt.cells, Pt.slots] at X58 l58 y58 z58 st58 hQ58
  subst l58 y58 z58
  obtain ⟨rfl, N58q, e58⟩ := hQ58
  have N58 := Fr.app N57 N58q
  obtain ⟨T59, h59, X59, e59, W59, st59⟩ := putF X58 hx hZ47 hown47 (host := "") (Or.inl (tw hw 175 rfl)) Via.refl e58 (((((((((((((((F_keyParts_a1.ext E2).keep K5q (ninS (Nat.ne_of_lt (Nat.lt_of_lt_of_le E_a1.lt (Nat.le_of_eq g2.symm))) nin0)).other W7 (sn (.object "java/util/Map") (.object "java/util/Map") (Or.inr (tw hw 176 rfl)) (Or.inr (tw hw 101 rfl)))).ext E10).other W15 (sn (.object "java/util/Map") (.object "java/lang/String") (Or.inr (tw hw 176 rfl)) (Or.inr (tw hw 109 rfl)))).other W20 (sn (.object "java/util/Map") (.object "com/example/legacy_to_latest/legacytolatest/EntityClass$Morphia") (Or.inr (tw hw 176 rfl)) (Or.inr (tw hw 118 rfl)))).other W25 (sn (.object "java/util/Map") (.object "java/lang/String") (Or.inr (tw hw 176 rfl)) (Or.inr (tw hw 120 rfl)))).other W28 (sn (.object "java/util/Map") .boolean (Or.inr (tw hw 176 rfl)) (Or.inr (tw hw 122 rfl)))).ext E31).other W36 (sn (.object "java/util/Map") (.object "java/lang/String") (Or.inr (tw hw 176 rfl)) (Or.inr (tw hw 125 rfl)))).ext E39).other W44 (sn (.object "java/util/Map") (.object "java/lang/String") (Or.inr (tw hw 176 rfl)) (Or.inr (tw hw 128 rfl)))).ext E47).other W52 (sn (.object "java/util/Map") (.object "java/lang/String") (Or.inr (tw hw 176 rfl)) (Or.inr (tw hw 131 rfl)))).keep K55q nin0) (((((((((((((((E_a1.ext E2).keep K5q).wr W7).ext E10).wr W15).wr W20).wr W25).wr W28).ext E31).wr W36).ext E39).wr W44).ext E47).wr W52).keep K55q) (Or.inr ⟨(tw hw 176 rfl), rfl, hnm⟩) (tw hw 39 rfl) (ty := (.object "java/util/Map")) (by decide) rfl rfl (g := (mkF m 170 #[Rf a1, Rf a2, Rf a3, Rf a4, It p5, Rf a6, Rf a7, Rf a8, Rf a9, Rf a10, Rf a11, Rf r_55, .unset] [(.ref a10), (.ref a1)])) rfl rfl (hb hby d11_170)
  have Fw59 := (((((((((((((((F_keyParts_a1.ext E2).keep K5q (ninS (Nat.ne_of_lt (Nat.lt_of_lt_of_le E_a1.lt (Nat.le_of_eq g2.symm))) nin0)).other W7 (sn (.object "java/util/Map") (.object "java/util/Map") (Or.inr (tw hw 176 rfl)) (Or.inr (tw hw 101 rfl)))).ext E10).other W15 (sn (.object "java/util/Map") (.object "java/lang/String") (Or.inr (tw hw 176 rfl)) (Or.inr (tw hw 109 rfl)))).other W20 (sn (.object "java/util/Map") (.object "com/example/legacy_to_latest/legacytolatest/EntityClass$Morphia") (Or.inr (tw hw 176 rfl)) (Or.inr (tw hw 118 rfl)))).other W25 (sn (.object "java/util/Map") (.object "java/lang/String") (Or.inr (tw hw 176 rfl)) (Or.inr (tw hw 120 rfl)))).other W28 (sn (.object "java/util/Map") .boolean (Or.inr (tw hw 176 rfl)) (Or.inr (tw hw 122 rfl)))).ext E31).other W36 (sn (.object "java/util/Map") (.object "java/lang/String") (Or.inr (tw hw 176 rfl)) (Or.inr (tw hw 125 rfl)))).ext E39).other W44 (sn (.object "java/util/Map") (.object "java/lang/String") (Or.inr (tw hw 176 rfl)) (Or.inr (tw hw 128 rfl)))).ext E47).other W52 (sn (.object "java/util/Map") (.object "java/lang/String") (Or.inr (tw hw 176 rfl)) (Or.inr (tw hw 131 rfl)))).keep K55q nin0).same W59
  have N59 := Fr.snoc X59 N58 ge_a1
  have O60 := O55.wr W59 ge_a1
  have K59 := K55.wr W59 (Or.inl (List.mem_of_getElem? (i := 0) rfl))
  have CR61 := CR56.trans (CHr.wr W59 (Safe.exa hZ47.alike (((((((((((((((E_a1.ext E2).keep K5q).wr W7).ext E10).wr W15).wr W20).wr W25).wr W28).ext E31).wr W36).ext E39).wr W44).ext E47).wr W52).keep K55q) (by decide) (by decide)) CR56.1)
  obtain ⟨cq62, kq62, q62a, q62b, q62c⟩ := isOf hZ47 e59 ((((((((((((((((E_a11.ext E2).keep K5q).wr W7).ext E10).wr W15).wr W20).wr W25).wr W28).ext E31).wr W36).ext E39).wr W44).ext E47).wr W52).keep K55q).wr W59)
  obtain ⟨_, _, ⟨T62, L62, k62, n62⟩, -, X62, ⟨Lc62, hQ62, l62, y62, z62⟩, st62⟩ := X59.virtualBack hx (y := (⟨"java/util/Optional", "orElse", "(Ljava/lang/Object;)Ljava/lang/Object;"⟩ : MethodName)) (z := (⟨"java/util/Optional", "orElse", "(Ljava/lang/Object;)Ljava/lang/Object;"⟩ : MethodName)) hown47 (mvT hZ47 (tw hw 110 rfl)) (mvT hZ47 (tw hw 111 rfl)) (notFace_of_selects (args := #[]) (mvT hZ47 (tw hw 113 rfl))) (mvT hZ47 (tw hw 113 rfl)) (mvT hZ47 (tw hw 112 rfl)) (by decide) (backOf (W := 1) (rm16_0 l Z a0 hw [] a11 h59 n0 O60 ((((((((((((((((F_value_a11.ext E2).keep K5q (ninS (Nat.ne_of_lt (Nat.lt_of_lt_of_le E_a11.lt (Nat.le_of_eq g2.symm))) nin0)).other W7 (Or.inl (Exa.ne E_a11 E_a1 (by decide)))).ext E10).other W15 (Or.inl (Exa.ne E_a11 E_a1 (by decide)))).other W20 (Or.inl (Exa.ne E_a11 E_a1 (by decide)))).other W25 (Or.inl (Exa.ne E_a11 E_a1 (by decide)))).other W28 (Or.inl (Exa.ne E_a11 E_a1 (by decide)))).ext E31).other W36 (Or.inl (Exa.ne E_a11 E_a1 (by decide)))).ext E39).other W44 (Or.inl (Exa.ne E_a11 E_a1 (by decide)))).ext E47).other W52 (Or.inl (Exa.ne E_a11 E_a1 (by decide)))).keep K55q nin0).other W59 (Or.inl (Exa.ne E_a11 E_a1 (by decide))))) hZ47 (tw hw 114 rfl) (tw hw 29 rfl) (by decide) (by decide)) q62a q62c (g := (mkF m 177 #[Rf a1, Rf a2, Rf a3, Rf a4, It p5, Rf a6, Rf a7, Rf a8, Rf a9, Rf a10, Rf a11, Rf r_55, .unset] [.null, (.ref a11), (.ref a1)])) rfl (by rw [hml]; rfl) (Steps.refl _) (argsL := [.null]) (rest := [(.ref a1)]) (lenOf pd_3 rfl) rfl (by show 2 * 0 + _ ≤ _; exact Nat.le_of_eq rfl) (hb hby d11_177) (fun _ _ => ⟨rfl, e59, (by decide : 10 + 0 ≤ _), (by decide : 148 + 0 ≤ _)⟩)
  dsimp only [Pt.U, Pt.locs, Pt.cells, Pt.slots] at X62 l62 y62 z62 st62 hQ62
  subst l62 y62 z62
  obtain ⟨rfl, N62q, e62⟩ := hQ62
  have N62 := Fr.app N59 N62q
  obtain ⟨T63, h63, X63, e63, W63, st63⟩ := putF X62 hx hZ47 hown47 (host := "") (Or.inl (tw hw 177 rfl)) Via.refl e62 ((((((((((((((((F_unreadSuperclass_a1.ext E2).keep K5q (ninS (Nat.ne_of_lt (Nat.lt_of_lt_of_le E_a1.lt (Nat.le_of_eq g2.symm))) nin0)).other W7 (sn (.object "java/lang/String") (.object "java/util/Map") (Or.inr (tw hw 178 rfl)) (Or.inr (tw hw 101 rfl)))).ext E10).other W15 (sn (.object "java/lang/String") (.object "java/lang/String") (Or.inr (tw hw 178 rfl)) (Or.inr (tw hw 109 rfl)))).other W20 (sn (.object "java/lang/String") (.object "com/example/legacy_to_latest/legacytolatest/EntityClass$Morphia") (Or.inr (tw hw 178 rfl)) (Or.inr (tw hw 118 rfl)))).other W25 (sn (.object "java/lang/String") (.object "java/lang/String") (Or.inr (tw hw 178 rfl)) (Or.inr (tw hw 120 rfl)))).other W28 (sn (.object "java/lang/String") .boolean (Or.inr (tw hw 178 rfl)) (Or.inr (tw hw 122 rfl)))).ext E31).other W36 (sn (.object "java/lang/String") (.object "java/lang/String") (Or.inr (tw hw 178 rfl)) (Or.inr (tw hw 125 rfl)))).ext E39).other W44 (sn (.object "java/lang/String") (.object "java/lang/String") (Or.inr (tw hw 178 rfl)) (Or.inr (tw hw 128 rfl)))).ext E47).other W52 (sn (.object "java/lang/String") (.object "java/lang/String") (Or.inr (tw hw 178 rfl)) (Or.inr (tw hw 131 rfl)))).keep K55q nin0).other W59 (sn (.object "java/lang/String") (.object "java/util/Map") (Or.inr (tw hw 178 rfl)) (Or.inr (tw hw 176 rfl)))) ((((((((((((((((E_a1.ext E2).keep K5q).wr W7).ext E10).wr W15).wr W20).wr W25).wr W28).ext E31).wr W36).ext E39).wr W44).ext E47).wr W52).keep K55q).wr W59) (Or.inr ⟨(tw hw 178 rfl), rfl, hnm⟩) (tw hw 39 rfl) (ty := (.object "java/lang/String")) (by decide) rfl rfl (g := (mkF m 183 #[Rf a1, Rf a2, Rf a3, Rf a4, It p5, Rf a6, Rf a7, Rf a8, Rf a9, Rf a10, Rf a11, Rf r_55, .unset] [.null, (.ref a1)])) rfl rfl (hb hby d11_183)
  have Fw63 := ((((((((((((((((F_unreadSuperclass_a1.ext E2).keep K5q (ninS (Nat.ne_of_lt (Nat.lt_of_lt_of_le E_a1.lt (Nat.le_of_eq g2.symm))) nin0)).other W7 (sn (.object "java/lang/String") (.object "java/util/Map") (Or.inr (tw hw 178 rfl)) (Or.inr (tw hw 101 rfl)))).ext E10).other W15 (sn (.object "java/lang/String") (.object "java/lang/String") (Or.inr (tw hw 178 rfl)) (Or.inr (tw hw 109 rfl)))).other W20 (sn (.object "java/lang/String") (.object "com/example/legacy_to_latest/legacytolatest/EntityClass$Morphia") (Or.inr (tw hw 178 rfl)) (Or.inr (tw hw 118 rfl)))).other W25 (sn (.object "java/lang/String") (.object "java/lang/String") (Or.inr (tw hw 178 rfl)) (Or.inr (tw hw 120 rfl)))).other W28 (sn (.object "java/lang/String") .boolean (Or.inr (tw hw 178 rfl)) (Or.inr (tw hw 122 rfl)))).ext E31).other W36 (sn (.object "java/lang/String") (.object "java/lang/String") (Or.inr (tw hw 178 rfl)) (Or.inr (tw hw 125 rfl)))).ext E39).other W44 (sn (.object "java/lang/String") (.object "java/lang/String") (Or.inr (tw hw 178 rfl)) (Or.inr (tw hw 128 rfl)))).ext E47).other W52 (sn (.object "java/lang/String") (.object "java/lang/String") (Or.inr (tw hw 178 rfl)) (Or.inr (tw hw 131 rfl)))).keep K55q nin0).other W59 (sn (.object "java/lang/String") (.object "java/util/Map") (Or.inr (tw hw 178 rfl)) (Or.inr (tw hw 176 rfl)))).same W63
  have N63 := Fr.snoc X63 N62 ge_a1
  have O64 := O60.wr W63 ge_a1
  have K63 := K59.wr W63 (Or.inl (List.mem_of_getElem? (i := 0) rfl))
  have CR65 := CR61.trans (CHr.wr W63 (Safe.exa hZ47.alike ((((((((((((((((E_a1.ext E2).keep K5q).wr W7).ext E10).wr W15).wr W20).wr W25).wr W28).ext E31).wr W36).ext E39).wr W44).ext E47).wr W52).keep K55q).wr W59) (by decide) (by decide)) CR61.1)
  have sg66 : ∀ target, Steps p.tables e below (T63.setTop (mkF m 186 #[Rf a1, Rf a2, Rf a3, Rf a4, It p5, Rf a6, Rf a7, Rf a8, Rf a9, Rf a10, Rf a11, Rf r_55, .unset] [])) target → Steps p.tables e below (s₁.setTop (mkF m 0 #[Rf a1, Rf a2, Rf a3, Rf a4, It p5, Rf a6, Rf a7, Rf a8, Rf a9, Rf a10, Rf a11, .unset, .unset] [])) target := by
    intro target kt
    show Steps p.tables e below (s₁.setTop (mkF m 0 #[Rf a1, Rf a2, Rf a3, Rf a4, It p5, Rf a6, Rf a7, Rf a8, Rf a9, Rf a10, Rf a11, .unset, .unset] [])) _
    refine XS.aloadN X0.here hx rfl (hb hby d11_0) rfl rfl ?_
    show Steps p.tables e below (s₁.setTop (mkF m 1 #[Rf a1, Rf a2, Rf a3, Rf a4, It p5, Rf a6, Rf a7, Rf a8, Rf a9, Rf a10, Rf a11, .unset, .unset] [(.ref a1)])) _
    refine st1 _ ?_
    show Steps p.tables e below (T1.setTop (mkF m 4 #[Rf a1, Rf a2, Rf a3, Rf a4, It p5, Rf a6, Rf a7, Rf a8, Rf a9, Rf a10, Rf a11, .unset, .unset] [])) _
    refine XS.aloadN X1.here hx rfl (hb hby d11_4) rfl rfl ?_
    show Steps p.tables e below (T1.setTop (mkF m 5 #[Rf a1, Rf a2, Rf a3, Rf a4, It p5, Rf a6, Rf a7, Rf a8, Rf a9, Rf a10, Rf a11, .unset, .unset] [(.ref a1)])) _
    refine st2 _ ?_
    show Steps p.tables e below (T2.setTop (mkF m 8 #[Rf a1, Rf a2, Rf a3, Rf a4, It p5, Rf a6, Rf a7, Rf a8, Rf a9, Rf a10, Rf a11, .unset, .unset] [(.ref b2), (.ref a1)])) _
    refine XS.dup X2.here hx rfl (hb hby d11_8) rfl rfl ?_
    show Steps p.tables e below (T2.setTop (mkF m 9 #[Rf a1, Rf a2, Rf a3, Rf a4, It p5, Rf a6, Rf a7, Rf a8, Rf a9, Rf a10, Rf a11, .unset, .unset] [(.ref b2), (.ref b2), (.ref a1)])) _
    refine st5.trans ?_
    show Steps p.tables e below (T5.setTop (mkF m 12 #[Rf a1, Rf a2, Rf a3, Rf a4, It p5, Rf a6, Rf a7, Rf a8, Rf a9, Rf a10, Rf a11, .unset, .unset] [(.ref b2), (.ref a1)])) _
    refine st7 _ ?_
    show Steps p.tables e below (T7.setTop (mkF m 15 #[Rf a1, Rf a2, Rf a3, Rf a4, It p5, Rf a6, Rf a7, Rf a8, Rf a9, Rf a10, Rf a11, .unset, .unset] [])) _
    refine XS.aloadN X7.here hx rfl (hb hby d11_15) rfl rfl ?_
    show Steps p.tables e below (T7.setTop (mkF m 16 #[Rf a1, Rf a2, Rf a3, Rf a4, It p5, Rf a6, Rf a7, Rf a8, Rf a9, Rf a10, Rf a11, .unset, .unset] [(.ref a1)])) _
    refine XS.aloadN X7.here hx rfl (hb hby d11_16) rfl rfl ?_
    show Steps p.tables e below (T7.setTop (mkF m 17 #[Rf a1, Rf a2, Rf a3, Rf a4, It p5, Rf a6, Rf a7, Rf a8, Rf a9, Rf a10, Rf a11, .unset, .unset] [(.ref a2), (.ref a1)])) _
    refine st10 _ ?_
    show Steps p.tables e below (T10.setTop (mkF m 19 #[Rf a1, Rf a2, Rf a3, Rf a4, It p5, Rf a6, Rf a7, Rf a8, Rf a9, Rf a10, Rf a11, .unset, .unset] [(.ref sa10), (.ref a2), (.ref a1)])) _
    refine st13 _ ?_
    show Steps p.tables e below (T13.setTop (mkF m 22 #[Rf a1, Rf a2, Rf a3, Rf a4, It p5, Rf a6, Rf a7, Rf a8, Rf a9, Rf a10, Rf a11, .unset, .unset] [(.ref a2), (.ref a1)])) _
    refine st14 _ ?_
    show Steps p.tables e below (T14.setTop (mkF m 25 #[Rf a1, Rf a2, Rf a3, Rf a4, It p5, Rf a6, Rf a7, Rf a8, Rf a9, Rf a10, Rf a11, .unset, .unset] [(.ref a2), (.ref a1)])) _
    refine st15 _ ?_
    show Steps p.tables e below (T15.setTop (mkF m 28 #[Rf a1, Rf a2, Rf a3, Rf a4, It p5, Rf a6, Rf a7, Rf a8, Rf a9, Rf a10, Rf a11, .unset, .unset] [])) _
    refine XS.aloadN X15.here hx rfl (hb hby d11_28) rfl rfl ?_
    show Steps p.tables e below (T15.setTop (mkF m 29 #[Rf a1, Rf a2, Rf a3, Rf a4, It p5, Rf a6, Rf a7, Rf a8, Rf a9, Rf a10, Rf a11, .unset, .unset] [(.ref a1)])) _
    refine XS.aloadN X15.here hx rfl (hb hby d11_29) rfl rfl ?_
    show Steps p.tables e below (T15.setTop (mkF m 30 #[Rf a1, Rf a2, Rf a3, Rf a4, It p5, Rf a6, Rf a7, Rf a8, Rf a9, Rf a10, Rf a11, .unset, .unset] [(.ref a3), (.ref a1)])) _
    refine XS.aconstNull X15.here hx rfl (hb hby d11_30) ?_
    show Steps p.tables e below (T15.setTop (mkF m 31 #[Rf a1, Rf a2, Rf a3, Rf a4, It p5, Rf a6, Rf a7, Rf a8, Rf a9, Rf a10, Rf a11, .unset, .unset] [.null, (.ref a3), (.ref a1)])) _
    refine st18.trans ?_
    show Steps p.tables e below (T18.setTop (mkF m 34 #[Rf a1, Rf a2, Rf a3, Rf a4, It p5, Rf a6, Rf a7, Rf a8, Rf a9, Rf a10, Rf a11, .unset, .unset] [(.ref mv), (.ref a1)])) _
    refine st19 _ ?_
    show Steps p.tables e below (T19.setTop (mkF m 37 #[Rf a1, Rf a2, Rf a3, Rf a4, It p5, Rf a6, Rf a7, Rf a8, Rf a9, Rf a10, Rf a11, .unset, .unset] [(.ref mv), (.ref a1)])) _
    refine st20 _ ?_
    show Steps p.tables e below (T20.setTop (mkF m 40 #[Rf a1, Rf a2, Rf a3, Rf a4, It p5, Rf a6, Rf a7, Rf a8, Rf a9, Rf a10, Rf a11, .unset, .unset] [])) _
    refine XS.aloadN X20.here hx rfl (hb hby d11_40) rfl rfl ?_
    show Steps p.tables e below (T20.setTop (mkF m 41 #[Rf a1, Rf a2, Rf a3, Rf a4, It p5, Rf a6, Rf a7, Rf a8, Rf a9, Rf a10, Rf a11, .unset, .unset] [(.ref a1)])) _
    refine XS.aloadN X20.here hx rfl (hb hby d11_41) rfl rfl ?_
    show Steps p.tables e below (T20.setTop (mkF m 42 #[Rf a1, Rf a2, Rf a3, Rf a4, It p5, Rf a6, Rf a7, Rf a8, Rf a9, Rf a10, Rf a11, .unset, .unset] [(.ref a4), (.ref a1)])) _
    refine XS.aconstNull X20.here hx rfl (hb hby d11_42) ?_
    show Steps p.tables e below (T20.setTop (mkF m 43 #[Rf a1, Rf a2, Rf a3, Rf a4, It p5, Rf a6, Rf a7, Rf a8, Rf a9, Rf a10, Rf a11, .unset, .unset] [.null, (.ref a4), (.ref a1)])) _
    refine st23.trans ?_
    show Steps p.tables e below (T23.setTop (mkF m 46 #[Rf a1, Rf a2, Rf a3, Rf a4, It p5, Rf a6, Rf a7, Rf a8, Rf a9, Rf a10, Rf a11, .unset, .unset] [(.ref dv), (.ref a1)])) _
    refine st24 _ ?_
    show Steps p.tables e below (T24.setTop (mkF m 49 #[Rf a1, Rf a2, Rf a3, Rf a4, It p5, Rf a6, Rf a7, Rf a8, Rf a9, Rf a10, Rf a11, .unset, .unset] [(.ref dv), (.ref a1)])) _
    refine st25 _ ?_
    show Steps p.tables e below (T25.setTop (mkF m 52 #[Rf a1, Rf a2, Rf a3, Rf a4, It p5, Rf a6, Rf a7, Rf a8, Rf a9, Rf a10, Rf a11, .unset, .unset] [])) _
    refine XS.aloadN X25.here hx rfl (hb hby d11_52) rfl rfl ?_
    show Steps p.tables e below (T25.setTop (mkF m 53 #[Rf a1, Rf a2, Rf a3, Rf a4, It p5, Rf a6, Rf a7, Rf a8, Rf a9, Rf a10, Rf a11, .unset, .unset] [(.ref a1)])) _
    refine XS.iload X25.here hx rfl (hb hby d11_53) rfl ?_
    show Steps p.tables e below (T25.setTop (mkF m 55 #[Rf a1, Rf a2, Rf a3, Rf a4, It p5, Rf a6, Rf a7, Rf a8, Rf a9, Rf a10, Rf a11, .unset, .unset] [(.int p5), (.ref a1)])) _
    refine st28 _ ?_
    show Steps p.tables e below (T28.setTop (mkF m 58 #[Rf a1, Rf a2, Rf a3, Rf a4, It p5, Rf a6, Rf a7, Rf a8, Rf a9, Rf a10, Rf a11, .unset, .unset] [])) _
    refine XS.aloadN X28.here hx rfl (hb hby d11_58) rfl rfl ?_
    show Steps p.tables e below (T28.setTop (mkF m 59 #[Rf a1, Rf a2, Rf a3, Rf a4, It p5, Rf a6, Rf a7, Rf a8, Rf a9, Rf a10, Rf a11, .unset, .unset] [(.ref a1)])) _
    refine XS.aload X28.here hx rfl (hb hby d11_59) rfl rfl ?_
    show Steps p.tables e below (T28.setTop (mkF m 61 #[Rf a1, Rf a2, Rf a3, Rf a4, It p5, Rf a6, Rf a7, Rf a8, Rf a9, Rf a10, Rf a11, .unset, .unset] [(.ref a6), (.ref a1)])) _
    refine st31 _ ?_
    show Steps p.tables e below (T31.setTop (mkF m 63 #[Rf a1, Rf a2, Rf a3, Rf a4, It p5, Rf a6, Rf a7, Rf a8, Rf a9, Rf a10, Rf a11, .unset, .unset] [(.ref sa31), (.ref a6), (.ref a1)])) _
    refine st34 _ ?_
    show Steps p.tables e below (T34.setTop (mkF m 66 #[Rf a1, Rf a2, Rf a3, Rf a4, It p5, Rf a6, Rf a7, Rf a8, Rf a9, Rf a10, Rf a11, .unset, .unset] [(.ref a6), (.ref a1)])) _
    refine st35 _ ?_
    show Steps p.tables e below (T35.setTop (mkF m 69 #[Rf a1, Rf a2, Rf a3, Rf a4, It p5, Rf a6, Rf a7, Rf a8, Rf a9, Rf a10, Rf a11, .unset, .unset] [(.ref a6), (.ref a1)])) _
    refine st36 _ ?_
    show Steps p.tables e below (T36.setTop (mkF m 72 #[Rf a1, Rf a2, Rf a3, Rf a4, It p5, Rf a6, Rf a7, Rf a8, Rf a9, Rf a10, Rf a11, .unset, .unset] [])) _
    refine XS.aloadN X36.here hx rfl (hb hby d11_72) rfl rfl ?_
    show Steps p.tables e below (T36.setTop (mkF m 73 #[Rf a1, Rf a2, Rf a3, Rf a4, It p5, Rf a6, Rf a7, Rf a8, Rf a9, Rf a10, Rf a11, .unset, .unset] [(.ref a1)])) _
    refine XS.aload X36.here hx rfl (hb hby d11_73) rfl rfl ?_
    show Steps p.tables e below (T36.setTop (mkF m 75 #[Rf a1, Rf a2, Rf a3, Rf a4, It p5, Rf a6, Rf a7, Rf a8, Rf a9, Rf a10, Rf a11, .unset, .unset] [(.ref a7), (.ref a1)])) _
    refine st39 _ ?_
    show Steps p.tables e below (T39.setTop (mkF m 77 #[Rf a1, Rf a2, Rf a3, Rf a4, It p5, Rf a6, Rf a7, Rf a8, Rf a9, Rf a10, Rf a11, .unset, .unset] [(.ref sa39), (.ref a7), (.ref a1)])) _
    refine st42 _ ?_
    show Steps p.tables e below (T42.setTop (mkF m 80 #[Rf a1, Rf a2, Rf a3, Rf a4, It p5, Rf a6, Rf a7, Rf a8, Rf a9, Rf a10, Rf a11, .unset, .unset] [(.ref a7), (.ref a1)])) _
    refine st43 _ ?_
    show Steps p.tables e below (T43.setTop (mkF m 83 #[Rf a1, Rf a2, Rf a3, Rf a4, It p5, Rf a6, Rf a7, Rf a8, Rf a9, Rf a10, Rf a11, .unset, .unset] [(.ref a7), (.ref a1)])) _
    refine st44 _ ?_
    show Steps p.tables e below (T44.setTop (mkF m 86 #[Rf a1, Rf a2, Rf a3, Rf a4, It p5, Rf a6, Rf a7, Rf a8, Rf a9, Rf a10, Rf a11, .unset, .unset] [])) _
    refine XS.aloadN X44.here hx rfl (hb hby d11_86) rfl rfl ?_
    show Steps p.tables e below (T44.setTop (mkF m 87 #[Rf a1, Rf a2, Rf a3, Rf a4, It p5, Rf a6, Rf a7, Rf a8, Rf a9, Rf a10, Rf a11, .unset, .unset] [(.ref a1)])) _
    refine XS.aload X44.here hx rfl (hb hby d11_87) rfl rfl ?_
    show Steps p.tables e below (T44.setTop (mkF m 89 #[Rf a1, Rf a2, Rf a3, Rf a4, It p5, Rf a6, Rf a7, Rf a8, Rf a9, Rf a10, Rf a11, .unset, .unset] [(.ref a8), (.ref a1)])) _
    refine st47 _ ?_
    show Steps p.tables e below (T47.setTop (mkF m 91 #[Rf a1, Rf a2, Rf a3, Rf a4, It p5, Rf a6, Rf a7, Rf a8, Rf a9, Rf a10, Rf a11, .unset, .unset] [(.ref sa47), (.ref a8), (.ref a1)])) _
    refine st50 _ ?_
    show Steps p.tables e below (T50.setTop (mkF m 94 #[Rf a1, Rf a2, Rf a3, Rf a4, It p5, Rf a6, Rf a7, Rf a8, Rf a9, Rf a10, Rf a11, .unset, .unset] [(.ref a8), (.ref a1)])) _
    refine st51 _ ?_
    show Steps p.tables e below (T51.setTop (mkF m 97 #[Rf a1, Rf a2, Rf a3, Rf a4, It p5, Rf a6, Rf a7, Rf a8, Rf a9, Rf a10, Rf a11, .unset, .unset] [(.ref a8), (.ref a1)])) _
    refine st52 _ ?_
    show Steps p.tables e below (T52.setTop (mkF m 100 #[Rf a1, Rf a2, Rf a3, Rf a4, It p5, Rf a6, Rf a7, Rf a8, Rf a9, Rf a10, Rf a11, .unset, .unset] [])) _
    refine XS.aload X52.here hx rfl (hb hby d11_100) rfl rfl ?_
    show Steps p.tables e below (T52.setTop (mkF m 102 #[Rf a1, Rf a2, Rf a3, Rf a4, It p5, Rf a6, Rf a7, Rf a8, Rf a9, Rf a10, Rf a11, .unset, .unset] [(.ref a9)])) _
    refine st55.trans ?_
    show Steps p.tables e below (T55.setTop (mkF m 107 #[Rf a1, Rf a2, Rf a3, Rf a4, It p5, Rf a6, Rf a7, Rf a8, Rf a9, Rf a10, Rf a11, .unset, .unset] [(.ref r_55)])) _
    refine XS.astore X55.here hx rfl (hb hby d11_107) rfl rfl (l' := #[Rf a1, Rf a2, Rf a3, Rf a4, It p5, Rf a6, Rf a7, Rf a8, Rf a9, Rf a10, Rf a11, Rf r_55, .unset]) rfl ?_
    show Steps p.tables e below (T55.setTop (mkF m 109 #[Rf a1, Rf a2, Rf a3, Rf a4, It p5, Rf a6, Rf a7, Rf a8, Rf a9, Rf a10, Rf a11, Rf r_55, .unset] [])) _
    refine XS.aload X55.here hx rfl (hb hby d11_109) rfl rfl ?_
    show Steps p.tables e below (T55.setTop (mkF m 111 #[Rf a1, Rf a2, Rf a3, Rf a4, It p5, Rf a6, Rf a7, Rf a8, Rf a9, Rf a10, Rf a11, Rf r_55, .unset] [(.ref r_55)])) _
    refine st57.trans ?_
    show Steps p.tables e below (T57.setTop (mkF m 116 #[Rf a1, Rf a2, Rf a3, Rf a4, It p5, Rf a6, Rf a7, Rf a8, Rf a9, Rf a10, Rf a11, Rf r_55, .unset] [(.int (0 : Int32))])) _
    refine XS.ifYes X57.here hx rfl (pc0 := 116) (pc' := 164) rfl (hb hby d11_116) rfl ((if0 _ _).trans (teq (by decide : (0 : Int32) = (0 : Int32))).1) (by decide) (by decide) ?_
    show Steps p.tables e below (T57.setTop (mkF m 164 #[Rf a1, Rf a2, Rf a3, Rf a4, It p5, Rf a6, Rf a7, Rf a8, Rf a9, Rf a10, Rf a11, Rf r_55, .unset] [])) _
    refine XS.aloadN X57.here hx rfl (hb hby d11_164) rfl rfl ?_
    show Steps p.tables e below (T57.setTop (mkF m 165 #[Rf a1, Rf a2, Rf a3, Rf a4, It p5, Rf a6, Rf a7, Rf a8, Rf a9, Rf a10, Rf a11, Rf r_55, .unset] [(.ref a1)])) _
    refine XS.aload X57.here hx rfl (hb hby d11_165) rfl rfl ?_
    show Steps p.tables e below (T57.setTop (mkF m 167 #[Rf a1, Rf a2, Rf a3, Rf a4, It p5, Rf a6, Rf a7, Rf a8, Rf a9, Rf a10, Rf a11, Rf r_55, .unset] [(.ref a10), (.ref a1)])) _
    refine st58 _ ?_
    show Steps p.tables e below (T58.setTop (mkF m 170 #[Rf a1, Rf a2, Rf a3, Rf a4, It p5, Rf a6, Rf a7, Rf a8, Rf a9, Rf a10, Rf a11, Rf r_55, .unset] [(.ref a10), (.ref a1)])) _
    refine st59 _ ?_
    show Steps p.tables e below (T59.setTop (mkF m 173 #[Rf a1, Rf a2, Rf a3, Rf a4, It p5, Rf a6, Rf a7, Rf a8, Rf a9, Rf a10, Rf a11, Rf r_55, .unset] [])) _
    refine XS.aloadN X59.here hx rfl (hb hby d11_173) rfl rfl ?_
    show Steps p.tables e below (T59.setTop (mkF m 174 #[Rf a1, Rf a2, Rf a3, Rf a4, It p5, Rf a6, Rf a7, Rf a8, Rf a9, Rf a10, Rf a11, Rf r_55, .unset] [(.ref a1)])) _
    refine XS.aload X59.here hx rfl (hb hby d11_174) rfl rfl ?_
    show Steps p.tables e below (T59.setTop (mkF m 176 #[Rf a1, Rf a2, Rf a3, Rf a4, It p5, Rf a6, Rf a7, Rf a8, Rf a9, Rf a10, Rf a11, Rf r_55, .unset] [(.ref a11), (.ref a1)])) _
    refine XS.aconstNull X59.here hx rfl (hb hby d11_176) ?_
    show Steps p.tables e below (T59.setTop (mkF m 177 #[Rf a1, Rf a2, Rf a3, Rf a4, It p5, Rf a6, Rf a7, Rf a8, Rf a9, Rf a10, Rf a11, Rf r_55, .unset] [.null, (.ref a11), (.ref a1)])) _
    refine st62.trans ?_
    show Steps p.tables e below (T62.setTop (mkF m 180 #[Rf a1, Rf a2, Rf a3, Rf a4, It p5, Rf a6, Rf a7, Rf a8, Rf a9, Rf a10, Rf a11, Rf r_55, .unset] [.null, (.ref a1)])) _
    refine X62.checkcastNull hx (g := (mkF m 180 #[Rf a1, Rf a2, Rf a3, Rf a4, It p5, Rf a6, Rf a7, Rf a8, Rf a9, Rf a10, Rf a11, Rf r_55, .unset] [.null, (.ref a1)])) rfl rfl (hb hby d11_180) _ ?_
    show Steps p.tables e below (T62.setTop (mkF m 183 #[Rf a1, Rf a2, Rf a3, Rf a4, It p5, Rf a6, Rf a7, Rf a8, Rf a9, Rf a10, Rf a11, Rf r_55, .unset] [.null, (.ref a1)])) _
    refine st63 _ ?_
    exact kt
  obtain ⟨fs, hr, hrun, hended, hRW⟩ := X63.leaveW Y47 (show _ ≤ T63.heap.size by rw [e63]; exact (Nat.le_trans (Nat.le_trans (Nat.le_trans (Nat.le_trans Yk47 (Keep.of_wr W52).1) K55q.1) (Keep.of_wr W59).1) (Keep.of_wr W63).1)) (v := none) (fun _ => rfl)
  refine ⟨_, _, pre0 _ (sg66 _ (?_)), hrun, hended, _, _, rfl, ?_, (by rw [hh]; show CHr Z own_EL s.vm h0 T63.vm T63.heap; rw [e63]; exact CR65.trans (CHv.at X63 hZ47 hEL CR65.1)), hRW.1, hRW.2.1, hRW.2.2.1, hRW.2.2.2.mono (by decide) (by decide)⟩
  · show Steps p.tables e below (T63.setTop (mkF m 186 #[Rf a1, Rf a2, Rf a3, Rf a4, It p5, Rf a6, Rf a7, Rf a8, Rf a9, Rf a10, Rf a11, Rf r_55, .unset] [])) _
    exact X63.returnOut hx Bd.returns (hb hby d11_186) hr
  · show Q11_11 Z a1 a2 a3 a4 p5 a6 a7 a8 a9 a10 a11 mv dv h0 n0 _ T63.heap _
    rw [e63]
    exact ⟨rfl, N63, K63, O64, (((((((((((Fw20.other W25 (sn (.object "com/example/legacy_to_latest/legacytolatest/EntityClass$Morphia") (.object "java/lang/String") (Or.inr (tw hw 118 rfl)) (Or.inr (tw hw 120 rfl)))).other W28 (sn (.object "com/example/legacy_to_latest/legacytolatest/EntityClass$Morphia") .boolean (Or.inr (tw hw 118 rfl)) (Or.inr (tw hw 122 rfl)))).ext E31).other W36 (sn (.object "com/example/legacy_to_latest/legacytolatest/EntityClass$Morphia") (.object "java/lang/String") (Or.inr (tw hw 118 rfl)) (Or.inr (tw hw 125 rfl)))).ext E39).other W44 (sn (.object "com/example/legacy_to_latest/legacytolatest/EntityClass$Morphia") (.object "java/lang/String") (Or.inr (tw hw 118 rfl)) (Or.inr (tw hw 128 rfl)))).ext E47).other W52 (sn (.object "com/example/legacy_to_latest/legacytolatest/EntityClass$Morphia") (.object "java/lang/String") (Or.inr (tw hw 118 rfl)) (Or.inr (tw hw 131 rfl)))).keep K55q nin0).other W59 (sn (.object "com/example/legacy_to_latest/legacytolatest/EntityClass$Morphia") (.object "java/util/Map") (Or.inr (tw hw 118 rfl)) (Or.inr (tw hw 176 rfl)))).other W63 (sn (.object "com/example/legacy_to_latest/legacytolatest/EntityClass$Morphia") (.object "java/lang/String") (Or.inr (tw hw 118 rfl)) (Or.inr (tw hw 178 rfl)))), ((((((((((Fw25.other W28 (sn (.object "java/lang/String") .boolean (Or.inr (tw hw 120 rfl)) (Or.inr (tw hw 122 rfl)))).ext E31).other W36 (sn (.object "java/lang/String") (.object "java/lang/String") (Or.inr (tw hw 120 rfl)) (Or.inr (tw hw 125 rfl)))).ext E39).other W44 (sn (.object "java/lang/String") (.object "java/lang/String") (Or.inr (tw hw 120 rfl)) (Or.inr (tw hw 128 rfl)))).ext E47).other W52 (sn (.object "java/lang/String") (.object "java/lang/String") (Or.inr (tw hw 120 rfl)) (Or.inr (tw hw 131 rfl)))).keep K55q nin0).other W59 (sn (.object "java/lang/String") (.object "java/util/Map") (Or.inr (tw hw 120 rfl)) (Or.inr (tw hw 176 rfl)))).other W63 (sn (.object "java/lang/String") (.object "java/lang/String") (Or.inr (tw hw 120 rfl)) (Or.inr (tw hw 178 rfl))))⟩
def Q31 (Z : State) (a1 : Addr) (sv : Addr) (h0 : Heap) (n0 : Nat) (v : Option Value) (h : Heap) (L : List Loc) : Prop := v = some (.ref sv) ∧ Fr n0 L ∧ h = h0
theorem ef_31 (m : MethodId) (x0 : Addr) : entryFrame m #[(.ref x0)] 1 = mkF m 0 #[.val (.ref x0)] [] := by first | (simp [entryFrame, mkF, argsToLocals, Value.category]; done) | rfl
set_option maxRecDepth 65536 in
set_option maxHeartbeats 40000000 in
theorem rm31 (l : Launch) (Z : State) (a0 : Array Value) (hw : ∀ d ∈ tables_1, d.before a0 Z = true) (ws : List Jvm.Cond) (a1 : Addr) (sv : Addr) (h0 : Heap) (n0 : Nat) (O0 : Old Z n0 h0) (F_discriminatorKey_a1 : Fld Z h0 a1 "com/example/legacy_to_latest/legacytolatest/EntityClass$Morphia" "discriminatorKey" "Ljava/lang/String;" (.ref sv)) :
    MetFree l (⟨"com/example/legacy_to_latest/legacytolatest/EntityClass$Morphia", "discriminatorKey", "()Ljava/lang/String;"⟩ : MethodName) (head1 (Jvm.Cond.code (⟨"com/example/legacy_to_latest/legacytolatest/EntityClass$Morphia", "discriminatorKey", "()Ljava/lang/String;"⟩ : MethodName) prog_7_method_4_code 1 (some (.object "java/lang/String")) :: ws) ({ frames := 0, cells := 0, slots := 0, locals := 0 } : Room)) (fun a U => a = #[(.ref a1)] ∧ Z.Warmed39 U.vm ∧ U.heap = h0) (fun _ _ _ _ _ => True) (fun _ U o U' => ∃ v L, o = .returned v ∧ Q31 Z a1 sv h0 n0 v U'.heap L ∧ FrameEnd U o U' L ({ frames := 0, cells := 0, slots := 0, locals := 0 } : Room).cells ({ frames := 0, cells := 0, slots := 0, locals := 0 } : Room).slots) := by
  refine MetFree.of_bodySF (plainFor_of_name pn_13) hisR ?_
  intro p e s m args below meth c s₁ Bd hml0 hP hK
  obtain ⟨rfl, hZ, hh⟩ := hP
  have hx := Bd.exec
  have hby := Bd.bytes
  have hml : c.maxLocals = 1 := hml0
  have hown : s.vm.findClass "com/example/legacy_to_latest/legacytolatest/EntityClass$Morphia" = some m.cls := findClass_of_methodNamed Bd.named
  have hnm := (name_of_methodNamed Bd.named Bd.method).1
  have X0 : Stand p l e ({ frames := 0, cells := 0, slots := 0, locals := 0 } : Room) s m #[(.ref a1)] below meth c s₁ [] 0 0 := Stand.of_body Bd
  have e0 : s₁.heap = h0 := by rw [← hh, Bd.state]; rfl
  have N0 := Fr.nil n0
  have pre0 : ∀ t, Steps p.tables e below (s₁.setTop (mkF m 0 #[.val (.ref a1)] [])) t → Steps p.tables e below (s₁.setTop (entryFrame m #[(.ref a1)] 1)) t := fun t k => castTop (ef_31 m a1) k
  obtain ⟨T1, X1, e1, st1⟩ := getF X0 hx hZ hown (host := "") (Or.inl (tw hw 232 rfl)) Via.refl e0 F_discriminatorKey_a1 (g := (mkF m 1 #[Rf a1] [(.ref a1)])) rfl rfl (hb hby d31_1)
  have sg2 : ∀ target, Steps p.tables e below (T1.setTop (mkF m 4 #[Rf a1] [(.ref sv)])) target → Steps p.tables e below (s₁.setTop (mkF m 0 #[Rf a1] [])) target := by
    intro target kt
    show Steps p.tables e below (s₁.setTop (mkF m 0 #[Rf a1] [])) _
    refine XS.aloadN X0.here hx rfl (hb hby d31_0) rfl rfl ?_
    show Steps p.tables e below (s₁.setTop (mkF m 1 #[Rf a1] [(.ref a1)])) _
    refine st1 _ ?_
    exact kt
  obtain ⟨fs, hr, hrun, hended, hW, hsame⟩ := X1.leave (v := some (.ref sv)) (fun h => by rw [Bd.returns] at h; cases h)
  refine ⟨_, _, pre0 _ (sg2 _ (?_)), hrun, hended, _, _, rfl, ?_, ⟨_, rfl⟩, hW, hsame.mono (by decide) (by decide)⟩
  · show Steps p.tables e below (T1.setTop (mkF m 4 #[Rf a1] [(.ref sv)])) _
    jvm_step X1.here [X1.here.top, hx, (hb hby d31_4), X1.method', Bd.returns, Value.isRef, FieldType.isReference]
    first | (intro acts; rw [hr _ acts rfl rfl rfl]) | rw [hr _ _ rfl rfl rfl]
    exact Steps.refl _
  · show Q31 Z a1 sv h0 n0 _ T1.heap _
    rw [e1]
    exact ⟨rfl, N0, rfl⟩
def Q21_0 (Z : State) (a1 : Addr) (wO : Addr) (h0 : Heap) (n0 : Nat) (v : Option Value) (h : Heap) (L : List Loc) : Prop := v = some (.ref wO) ∧ Fr n0 L ∧ h = h0
theorem ef_21_0 (m : MethodId) (x0 : Addr) : entryFrame m #[(.ref x0)] 2 = mkF m 0 #[.val (.ref x0), .unset] [] := by first | (simp [entryFrame, mkF, argsToLocals, Value.category]; done) | rfl
set_option maxRecDepth 65536 in
set_option maxHeartbeats 40000000 in
theorem rm21_0 (l : Launch) (Z : State) (a0 : Array Value) (hw : ∀ d ∈ tables_1, d.before a0 Z = true) (ws : List Jvm.Cond) (a1 : Addr) (wO : Addr) (h0 : Heap) (n0 : Nat) (O0 : Old Z n0 h0) (S_EMPTY : Sta Z Z.heap "java/util/Optional" "EMPTY" "Ljava/util/Optional;" (.ref wO)) (F_discriminator_a1 : Fld Z h0 a1 "com/example/legacy_to_latest/legacytolatest/EntityClass" "discriminator" "Ljava/lang/String;" .null) :
    MetFree l (⟨"com/example/legacy_to_latest/legacytolatest/EntityClass", "getDiscriminatorKey", "()Ljava/util/Optional;"⟩ : MethodName) (head1 (Jvm.Cond.code (⟨"com/example/legacy_to_latest/legacytolatest/EntityClass", "getDiscriminatorKey", "()Ljava/util/Optional;"⟩ : MethodName) prog_6_method_7_code 2 (some (.object "java/util/Optional")) :: ws) ({ frames := 1, cells := 0, slots := 0, locals := 12 } : Room)) (fun a U => a = #[(.ref a1)] ∧ Z.Warmed39 U.vm ∧ U.heap = h0) (fun _ _ _ _ _ => True) (fun _ U o U' => ∃ v L, o = .returned v ∧ Q21_0 Z a1 wO h0 n0 v U'.heap L ∧ FrameEnd U o U' L ({ frames := 1, cells := 0, slots := 0, locals := 12 } : Room).cells ({ frames := 1, cells := 0, slots := 0, locals := 12 } : Room).slots) := by
  refine MetFree.of_bodySF (plainFor_of_name pn_12) hisR ?_
  intro p e s m args below meth c s₁ Bd hml0 hP hK
  obtain ⟨rfl, hZ, hh⟩ := hP
  have hx := Bd.exec
  have hby := Bd.bytes
  have hml : c.maxLocals = 2 := hml0
  have hown : s.vm.findClass "com/example/legacy_to_latest/legacytolatest/EntityClass" = some m.cls := findClass_of_methodNamed Bd.named
  have hnm := (name_of_methodNamed Bd.named Bd.method).1
  have X0 : Stand p l e ({ frames := 1, cells := 0, slots := 0, locals := 12 } : Room) s m #[(.ref a1)] below meth c s₁ [] 0 0 := Stand.of_body Bd
  have e0 : s₁.heap = h0 := by rw [← hh, Bd.state]; rfl
  have N0 := Fr.nil n0
  have pre0 : ∀ t, Steps p.tables e below (s₁.setTop (mkF m 0 #[.val (.ref a1), .unset] [])) t → Steps p.tables e below (s₁.setTop (entryFrame m #[(.ref a1)] 2)) t := fun t k => castTop (ef_21_0 m a1) k
  obtain ⟨_, _, ⟨T1, L1, k1, n1⟩, -, X1, ⟨Lc1, hQ1, l1, y1, z1⟩, st1⟩ := Jvm.LawKit.callS X0 hx (y := (⟨"java/util/Optional", "empty", "()Ljava/util/Optional;"⟩ : MethodName)) hown (mvT hZ (tw hw 184 rfl)) (mvT hZ (tw hw 28 rfl)) (mvT hZ (tw hw 29 rfl)) (mvT hZ (tw hw 30 rfl)) (by decide) (backOf (W := 0) (rm6 l Z a0 hw [] wO h0 n0 O0 S_EMPTY) hZ (tw hw 30 rfl) (tw hw 29 rfl) (by decide) (by decide)) (g := (mkF m 0 #[Rf a1, .unset] [])) rfl (by rw [hml]; rfl) (argsL := []) (rest := []) (lenOf pd_11 rfl) rfl (by show 2 * 0 + _ ≤ _; exact Nat.le_of_eq rfl) (hb hby d21_0) (fun _ _ => ⟨rfl, e0, (by decide : 0 + 0 ≤ _), (by decide : 0 + 0 ≤ _)⟩)
  dsimp only [Pt.U, Pt.locs, Pt.cells, Pt.slots] at X1 l1 y1 z1 st1 hQ1
  subst l1 y1 z1
  obtain ⟨rfl, N1q, e1⟩ := hQ1
  have N1 := Fr.app N0 N1q
  obtain ⟨T2, X2, e2, st2⟩ := getF X1 hx hZ hown (host := "") (Or.inl (tw hw 119 rfl)) Via.refl e1 F_discriminator_a1 (g := (mkF m 5 #[Rf a1, Rf wO] [(.ref a1)])) rfl rfl (hb hby d21_5)
  have sg3 : ∀ target, Steps p.tables e below (T2.setTop (mkF m 30 #[Rf a1, Rf wO] [(.ref wO)])) target → Steps p.tables e below (s₁.setTop (mkF m 0 #[Rf a1, .unset] [])) target := by
    intro target kt
    show Steps p.tables e below (s₁.setTop (mkF m 0 #[Rf a1, .unset] [])) _
    refine st1 _ ?_
    show Steps p.tables e below (T1.setTop (mkF m 3 #[Rf a1, .unset] [(.ref wO)])) _
    refine XS.astoreN X1.here hx rfl (hb hby d21_3) rfl rfl (l' := #[Rf a1, Rf wO]) rfl ?_
    show Steps p.tables e below (T1.setTop (mkF m 4 #[Rf a1, Rf wO] [])) _
    refine XS.aloadN X1.here hx rfl (hb hby d21_4) rfl rfl ?_
    show Steps p.tables e below (T1.setTop (mkF m 5 #[Rf a1, Rf wO] [(.ref a1)])) _
    refine st2 _ ?_
    show Steps p.tables e below (T2.setTop (mkF m 8 #[Rf a1, Rf wO] [.null])) _
    refine XS.ifnullYes X2.here hx rfl (pc0 := 8) (pc' := 29) rfl (hb hby d21_8) rfl (by decide) (by decide) ?_
    show Steps p.tables e below (T2.setTop (mkF m 29 #[Rf a1, Rf wO] [])) _
    refine XS.aloadN X2.here hx rfl (hb hby d21_29) rfl rfl ?_
    exact kt
  obtain ⟨fs, hr, hrun, hended, hW, hsame⟩ := X2.leave (v := some (.ref wO)) (fun h => by rw [Bd.returns] at h; cases h)
  refine ⟨_, _, pre0 _ (sg3 _ (?_)), hrun, hended, _, _, rfl, ?_, ⟨_, rfl⟩, hW, hsame.mono (by decide) (by decide)⟩
  · show Steps p.tables e below (T2.setTop (mkF m 30 #[Rf a1, Rf wO] [(.ref wO)])) _
    jvm_step X2.here [X2.here.top, hx, (hb hby d21_30), X2.method', Bd.returns, Value.isRef, FieldType.isReference]
    first | (intro acts; rw [hr _ acts rfl rfl rfl]) | rw [hr _ _ rfl rfl rfl]
    exact Steps.refl _
  · show Q21_0 Z a1 wO h0 n0 _ T2.heap _
    rw [e2]
    exact ⟨rfl, N1, rfl⟩
def Q21_1 (Z : State) (a1 : Addr) (dv : Addr) (wO : Addr) (h0 : Heap) (n0 : Nat) (v : Option Value) (h : Heap) (L : List Loc) : Prop := v = some (.ref wO) ∧ Fr n0 L ∧ h = h0
theorem ef_21_1 (m : MethodId) (x0 : Addr) : entryFrame m #[(.ref x0)] 2 = mkF m 0 #[.val (.ref x0), .unset] [] := by first | (simp [entryFrame, mkF, argsToLocals, Value.category]; done) | rfl
set_option maxRecDepth 65536 in
set_option maxHeartbeats 40000000 in
theorem rm21_1 (l : Launch) (Z : State) (a0 : Array Value) (hw : ∀ d ∈ tables_1, d.before a0 Z = true) (ws : List Jvm.Cond) (a1 : Addr) (dv : Addr) (wO : Addr) (h0 : Heap) (n0 : Nat) (O0 : Old Z n0 h0) (S_EMPTY : Sta Z Z.heap "java/util/Optional" "EMPTY" "Ljava/util/Optional;" (.ref wO)) (F_discriminator_a1 : Fld Z h0 a1 "com/example/legacy_to_latest/legacytolatest/EntityClass" "discriminator" "Ljava/lang/String;" (.ref dv)) (F_morphia_a1 : Fld Z h0 a1 "com/example/legacy_to_latest/legacytolatest/EntityClass" "morphia" "Lcom/example/legacy_to_latest/legacytolatest/EntityClass$Morphia;" .null) :
    MetFree l (⟨"com/example/legacy_to_latest/legacytolatest/EntityClass", "getDiscriminatorKey", "()Ljava/util/Optional;"⟩ : MethodName) (head1 (Jvm.Cond.code (⟨"com/example/legacy_to_latest/legacytolatest/EntityClass", "getDiscriminatorKey", "()Ljava/util/Optional;"⟩ : MethodName) prog_6_method_7_code 2 (some (.object "java/util/Optional")) :: ws) ({ frames := 1, cells := 0, slots := 0, locals := 12 } : Room)) (fun a U => a = #[(.ref a1)] ∧ Z.Warmed39 U.vm ∧ U.heap = h0) (fun _ _ _ _ _ => True) (fun _ U o U' => ∃ v L, o = .returned v ∧ Q21_1 Z a1 dv wO h0 n0 v U'.heap L ∧ FrameEnd U o U' L ({ frames := 1, cells := 0, slots := 0, locals := 12 } : Room).cells ({ frames := 1, cells := 0, slots := 0, locals := 12 } : Room).slots) := by
  refine MetFree.of_bodySF (plainFor_of_name pn_12) hisR ?_
  intro p e s m args below meth c s₁ Bd hml0 hP hK
  obtain ⟨rfl, hZ, hh⟩ := hP
  have hx := Bd.exec
  have hby := Bd.bytes
  have hml : c.maxLocals = 2 := hml0
  have hown : s.vm.findClass "com/example/legacy_to_latest/legacytolatest/EntityClass" = some m.cls := findClass_of_methodNamed Bd.named
  have hnm := (name_of_methodNamed Bd.named Bd.method).1
  have X0 : Stand p l e ({ frames := 1, cells := 0, slots := 0, locals := 12 } : Room) s m #[(.ref a1)] below meth c s₁ [] 0 0 := Stand.of_body Bd
  have e0 : s₁.heap = h0 := by rw [← hh, Bd.state]; rfl
  have N0 := Fr.nil n0
  have pre0 : ∀ t, Steps p.tables e below (s₁.setTop (mkF m 0 #[.val (.ref a1), .unset] [])) t → Steps p.tables e below (s₁.setTop (entryFrame m #[(.ref a1)] 2)) t := fun t k => castTop (ef_21_1 m a1) k
  obtain ⟨_, _, ⟨T1, L1, k1, n1⟩, -, X1, ⟨Lc1, hQ1, l1, y1, z1⟩, st1⟩ := Jvm.LawKit.callS X0 hx (y := (⟨"java/util/Optional", "empty", "()Ljava/util/Optional;"⟩ : MethodName)) hown (mvT hZ (tw hw 184 rfl)) (mvT hZ (tw hw 28 rfl)) (mvT hZ (tw hw 29 rfl)) (mvT hZ (tw hw 30 rfl)) (by decide) (backOf (W := 0) (rm6 l Z a0 hw [] wO h0 n0 O0 S_EMPTY) hZ (tw hw 30 rfl) (tw hw 29 rfl) (by decide) (by decide)) (g := (mkF m 0 #[Rf a1, .unset] [])) rfl (by rw [hml]; rfl) (argsL := []) (rest := []) (lenOf pd_11 rfl) rfl (by show 2 * 0 + _ ≤ _; exact Nat.le_of_eq rfl) (hb hby d21_0) (fun _ _ => ⟨rfl, e0, (by decide : 0 + 0 ≤ _), (by decide : 0 + 0 ≤ _)⟩)
  dsimp only [Pt.U, Pt.locs, Pt.cells, Pt.slots] at X1 l1 y1 z1 st1 hQ1
  subst l1 y1 z1
  obtain ⟨rfl, N1q, e1⟩ := hQ1
  have N1 := Fr.app N0 N1q
  obtain ⟨T2, X2, e2, st2⟩ := getF X1 hx hZ hown (host := "") (Or.inl (tw hw 119 rfl)) Via.refl e1 F_discriminator_a1 (g := (mkF m 5 #[Rf a1, Rf wO] [(.ref a1)])) rfl rfl (hb hby d21_5)
  obtain ⟨T3, X3, e3, st3⟩ := getF X2 hx hZ hown (host := "") (Or.inl (tw hw 117 rfl)) Via.refl e2 F_morphia_a1 (g := (mkF m 12 #[Rf a1, Rf wO] [(.ref a1)])) rfl rfl (hb hby d21_12)
  have sg4 : ∀ target, Steps p.tables e below (T3.setTop (mkF m 30 #[Rf a1, Rf wO] [(.ref wO)])) target → Steps p.tables e below (s₁.setTop (mkF m 0 #[Rf a1, .unset] [])) target := by
    intro target kt
    show Steps p.tables e below (s₁.setTop (mkF m 0 #[Rf a1, .unset] [])) _
    refine st1 _ ?_
    show Steps p.tables e below (T1.setTop (mkF m 3 #[Rf a1, .unset] [(.ref wO)])) _
    refine XS.astoreN X1.here hx rfl (hb hby d21_3) rfl rfl (l' := #[Rf a1, Rf wO]) rfl ?_
    show Steps p.tables e below (T1.setTop (mkF m 4 #[Rf a1, Rf wO] [])) _
    refine XS.aloadN X1.here hx rfl (hb hby d21_4) rfl rfl ?_
    show Steps p.tables e below (T1.setTop (mkF m 5 #[Rf a1, Rf wO] [(.ref a1)])) _
    refine st2 _ ?_
    show Steps p.tables e below (T2.setTop (mkF m 8 #[Rf a1, Rf wO] [(.ref dv)])) _
    refine XS.ifnullNo X2.here hx rfl (hb hby d21_8) rfl ?_
    show Steps p.tables e below (T2.setTop (mkF m 11 #[Rf a1, Rf wO] [])) _
    refine XS.aloadN X2.here hx rfl (hb hby d21_11) rfl rfl ?_
    show Steps p.tables e below (T2.setTop (mkF m 12 #[Rf a1, Rf wO] [(.ref a1)])) _
    refine st3 _ ?_
    show Steps p.tables e below (T3.setTop (mkF m 15 #[Rf a1, Rf wO] [.null])) _
    refine XS.ifnullYes X3.here hx rfl (pc0 := 15) (pc' := 29) rfl (hb hby d21_15) rfl (by decide) (by decide) ?_
    show Steps p.tables e below (T3.setTop (mkF m 29 #[Rf a1, Rf wO] [])) _
    refine XS.aloadN X3.here hx rfl (hb hby d21_29) rfl rfl ?_
    exact kt
  obtain ⟨fs, hr, hrun, hended, hW, hsame⟩ := X3.leave (v := some (.ref wO)) (fun h => by rw [Bd.returns] at h; cases h)
  refine ⟨_, _, pre0 _ (sg4 _ (?_)), hrun, hended, _, _, rfl, ?_, ⟨_, rfl⟩, hW, hsame.mono (by decide) (by decide)⟩
  · show Steps p.tables e below (T3.setTop (mkF m 30 #[Rf a1, Rf wO] [(.ref wO)])) _
    jvm_step X3.here [X3.here.top, hx, (hb hby d21_30), X3.method', Bd.returns, Value.isRef, FieldType.isReference]
    first | (intro acts; rw [hr _ acts rfl rfl rfl]) | rw [hr _ _ rfl rfl rfl]
    exact Steps.refl _
  · show Q21_1 Z a1 dv wO h0 n0 _ T3.heap _
    rw [e3]
    exact ⟨rfl, N1, rfl⟩
def Q21_2 (Z : State) (a1 : Addr) (dv : Addr) (mv : Addr) (sv : Addr) (wO : Addr) (h0 : Heap) (n0 : Nat) (v : Option Value) (h : Heap) (L : List Loc) : Prop := ∃ r : Addr, v = some (.ref r) ∧ Fr n0 L ∧ Keep h0 h [] ∧ Old Z n0 h ∧ n0 ≤ r ∧ h0.size ≤ r ∧ Exa Z h r "java/util/Optional" ∧ Fld Z h r "java/util/Optional" "value" "Ljava/lang/Object;" (.ref sv)
theorem ef_21_2 (m : MethodId) (x0 : Addr) : entryFrame m #[(.ref x0)] 2 = mkF m 0 #[.val (.ref x0), .unset] [] := by first | (simp [entryFrame, mkF, argsToLocals, Value.category]; done) | rfl
set_option maxRecDepth 65536 in
set_option maxHeartbeats 40000000 in
theorem rm21_2 (l : Launch) (Z : State) (a0 : Array Value) (hw : ∀ d ∈ tables_1, d.before a0 Z = true) (ws : List Jvm.Cond) (a1 : Addr) (dv : Addr) (mv : Addr) (sv : Addr) (wO : Addr) (h0 : Heap) (n0 : Nat) (O0 : Old Z n0 h0) (S_EMPTY : Sta Z Z.heap "java/util/Optional" "EMPTY" "Ljava/util/Optional;" (.ref wO)) (F_discriminator_a1 : Fld Z h0 a1 "com/example/legacy_to_latest/legacytolatest/EntityClass" "discriminator" "Ljava/lang/String;" (.ref dv)) (F_morphia_a1 : Fld Z h0 a1 "com/example/legacy_to_latest/legacytolatest/EntityClass" "morphia" "Lcom/example/legacy_to_latest/legacytolatest/EntityClass$Morphia;" (.ref mv)) (E_mv : Exa Z h0 mv "com/example/legacy_to_latest/legacytolatest/EntityClass$Morphia") (F_discriminatorKey_mv : Fld Z h0 mv "com/example/legacy_to_latest/legacytolatest/EntityClass$Morphia" "discriminatorKey" "Ljava/lang/String;" (.ref sv)) :
    MetFree l (⟨"com/example/legacy_to_latest/legacytolatest/EntityClass", "getDiscriminatorKey", "()Ljava/util/Optional;"⟩ : MethodName) (head1 (Jvm.Cond.code (⟨"com/example/legacy_to_latest/legacytolatest/EntityClass", "getDiscriminatorKey", "()Ljava/util/Optional;"⟩ : MethodName) prog_6_method_7_code 2 (some (.object "java/util/Optional")) :: ws) ({ frames := 3, cells := 1, slots := 1, locals := 38 } : Room)) (fun a U => a = #[(.ref a1)] ∧ Z.Warmed39 U.vm ∧ U.heap = h0) (fun _ _ _ _ _ => True) (fun _ U o U' => ∃ v L, o = .returned v ∧ Q21_2 Z a1 dv mv sv wO h0 n0 v U'.heap L ∧ FrameEnd U o U' L ({ frames := 3, cells := 1, slots := 1, locals := 38 } : Room).cells ({ frames := 3, cells := 1, slots := 1, locals := 38 } : Room).slots) := by
  refine MetFree.of_bodySF (plainFor_of_name pn_12) hisR ?_
  intro p e s m args below meth c s₁ Bd hml0 hP hK
  obtain ⟨rfl, hZ, hh⟩ := hP
  have hx := Bd.exec
  have hby := Bd.bytes
  have hml : c.maxLocals = 2 := hml0
  have hown : s.vm.findClass "com/example/legacy_to_latest/legacytolatest/EntityClass" = some m.cls := findClass_of_methodNamed Bd.named
  have hnm := (name_of_methodNamed Bd.named Bd.method).1
  have X0 : Stand p l e ({ frames := 3, cells := 1, slots := 1, locals := 38 } : Room) s m #[(.ref a1)] below meth c s₁ [] 0 0 := Stand.of_body Bd
  have e0 : s₁.heap = h0 := by rw [← hh, Bd.state]; rfl
  have N0 := Fr.nil n0
  have pre0 : ∀ t, Steps p.tables e below (s₁.setTop (mkF m 0 #[.val (.ref a1), .unset] [])) t → Steps p.tables e below (s₁.setTop (entryFrame m #[(.ref a1)] 2)) t := fun t k => castTop (ef_21_2 m a1) k
  have K0 := Keep.refl h0 []
  obtain ⟨_, _, ⟨T1, L1, k1, n1⟩, -, X1, ⟨Lc1, hQ1, l1, y1, z1⟩, st1⟩ := Jvm.LawKit.callS X0 hx (y := (⟨"java/util/Optional", "empty", "()Ljava/util/Optional;"⟩ : MethodName)) hown (mvT hZ (tw hw 184 rfl)) (mvT hZ (tw hw 28 rfl)) (mvT hZ (tw hw 29 rfl)) (mvT hZ (tw hw 30 rfl)) (by decide) (backOf (W := 0) (rm6 l Z a0 hw [] wO h0 n0 O0 S_EMPTY) hZ (tw hw 30 rfl) (tw hw 29 rfl) (by decide) (by decide)) (g := (mkF m 0 #[Rf a1, .unset] [])) rfl (by rw [hml]; rfl) (argsL := []) (rest := []) (lenOf pd_11 rfl) rfl (by show 2 * 0 + _ ≤ _; exact Nat.le_of_eq rfl) (hb hby d21_0) (fun _ _ => ⟨rfl, e0, (by decide : 0 + 0 ≤ _), (by decide : 0 + 0 ≤ _)⟩)
  dsimp only [Pt.U, Pt.locs, Pt.cells, Pt.slots] at X1 l1 y1 z1 st1 hQ1
  subst l1 y1 z1
  obtain ⟨rfl, N1q, e1⟩ := hQ1
  have N1 := Fr.app N0 N1q
  obtain ⟨T2, X2, e2, st2⟩ := getF X1 hx hZ hown (host := "") (Or.inl (tw hw 119 rfl)) Via.refl e1 F_discriminator_a1 (g := (mkF m 5 #[Rf a1, Rf wO] [(.ref a1)])) rfl rfl (hb hby d21_5)
  obtain ⟨T3, X3, e3, st3⟩ := getF X2 hx hZ hown (host := "") (Or.inl (tw hw 117 rfl)) Via.refl e2 F_morphia_a1 (g := (mkF m 12 #[Rf a1, Rf wO] [(.ref a1)])) rfl rfl (hb hby d21_12)
  obtain ⟨T4, X4, e4, st4⟩ := getF X3 hx hZ hown (host := "") (Or.inl (tw hw 117 rfl)) Via.refl e3 F_morphia_a1 (g := (mkF m 19 #[Rf a1, Rf wO] [(.ref a1)])) rfl rfl (hb hby d21_19)
  obtain ⟨cq5, kq5, q5a, q5b, q5c⟩ := isOf hZ e4 E_mv
  obtain ⟨_, _, ⟨T5, L5, k5, n5⟩, -, X5, ⟨Lc5, hQ5, l5, y5, z5⟩, st5⟩ := X4.virtualBack hx (y := (⟨"com/example/legacy_to_latest/legacytolatest/EntityClass$Morphia", "discriminatorKey", "()Ljava/lang/String;"⟩ : MethodName)) (z := (⟨"com/example/legacy_to_latest/legacytolatest/EntityClass$Morphia", "discriminatorKey", "()Ljava/lang/String;"⟩ : MethodName)) hown (mvT hZ (tw hw 227 rfl)) (mvT hZ (tw hw 228 rfl)) (notFace_of_selects (args := #[]) (mvT hZ (tw hw 230 rfl))) (mvT hZ (tw hw 230 rfl)) (mvT hZ (tw hw 229 rfl)) (by decide) (backOf (W := 0) (rm31 l Z a0 hw [] mv sv h0 n0 O0 F_discriminatorKey_mv) hZ (tw hw 231 rfl) (tw hw 191 rfl) (by decide) (by decide)) q5a q5c (g := (mkF m 22 #[Rf a1, Rf wO] [(.ref mv)])) rfl (by rw [hml]; rfl) (Steps.refl _) (argsL := []) (rest := []) (lenOf pd_12 rfl) rfl (by show 2 * 0 + _ ≤ _; exact Nat.le_of_eq rfl) (hb hby d21_22) (fun _ _ => ⟨rfl, e4, (by decide : 0 + 0 ≤ _), (by decide : 0 + 0 ≤ _)⟩)
  dsimp only [Pt.U, Pt.locs, Pt.cells, Pt.slots] at X5 l5 y5 z5 st5 hQ5
  subst l5 y5 z5
  obtain ⟨rfl, N5q, e5⟩ := hQ5
  have N5 := Fr.app N1 N5q
  obtain ⟨_, _, ⟨T6, L6, k6, n6⟩, -, X6, ⟨Lc6, hQ6, l6, y6, z6⟩, st6⟩ := Jvm.LawKit.callS X5 hx (y := (⟨"java/util/Optional", "of", "(Ljava/lang/Object;)Ljava/util/Optional;"⟩ : MethodName)) hown (mvT hZ (tw hw 234 rfl)) (mvT hZ (tw hw 194 rfl)) (mvT hZ (tw hw 29 rfl)) (mvT hZ (tw hw 195 rfl)) (by decide) (backOf (W := 0) (rm23 l Z a0 hw [] sv h0 n0 O0 ) hZ (tw hw 195 rfl) (tw hw 29 rfl) (by decide) (by decide)) (g := (mkF m 25 #[Rf a1, Rf wO] [(.ref sv)])) rfl (by rw [hml]; rfl) (argsL := [(.ref sv)]) (rest := []) (lenOf pd_13 rfl) rfl (by show 2 * 0 + _ ≤ _; exact Nat.le_of_eq rfl) (hb hby d21_25) (fun _ _ => ⟨rfl, e5, (by decide : 0 + 1 ≤ _), (by decide : 0 + 1 ≤ _)⟩)
  dsimp only [Pt.U, Pt.locs, Pt.cells, Pt.slots] at X6 l6 y6 z6 st6 hQ6
  subst l6 y6 z6
  obtain ⟨r_6, rfl, N6q, K6q, O6, f6_0, f6_1, f6_2, f6_3⟩ := hQ6
  have N6 := Fr.app N5 N6q
  have K6 := K0.trans K6q all0
  have sg7 : ∀ target, Steps p.tables e below (T6.setTop (mkF m 30 #[Rf a1, Rf r_6] [(.ref r_6)])) target → Steps p.tables e below (s₁.setTop (mkF m 0 #[Rf a1, .unset] [])) target := by
    intro target kt
    show Steps p.tables e below (s₁.setTop (mkF m 0 #[Rf a1, .unset] [])) _
    refine st1 _ ?_
    show Steps p.tables e below (T1.setTop (mkF m 3 #[Rf a1, .unset] [(.ref wO)])) _
    refine XS.astoreN X1.here hx rfl (hb hby d21_3) rfl rfl (l' := #[Rf a1, Rf wO]) rfl ?_
    show Steps p.tables e below (T1.setTop (mkF m 4 #[Rf a1, Rf wO] [])) _
    refine XS.aloadN X1.here hx rfl (hb hby d21_4) rfl rfl ?_
    show Steps p.tables e below (T1.setTop (mkF m 5 #[Rf a1, Rf wO] [(.ref a1)])) _
    refine st2 _ ?_
    show Steps p.tables e below (T2.setTop (mkF m 8 #[Rf a1, Rf wO] [(.ref dv)])) _
    refine XS.ifnullNo X2.here hx rfl (hb hby d21_8) rfl ?_
    show Steps p.tables e below (T2.setTop (mkF m 11 #[Rf a1, Rf wO] [])) _
    refine XS.aloadN X2.here hx rfl (hb hby d21_11) rfl rfl ?_
    show Steps p.tables e below (T2.setTop (mkF m 12 #[Rf a1, Rf wO] [(.ref a1)])) _
    refine st3 _ ?_
    show Steps p.tables e below (T3.setTop (mkF m 15 #[Rf a1, Rf wO] [(.ref mv)])) _
    refine XS.ifnullNo X3.here hx rfl (hb hby d21_15) rfl ?_
    show Steps p.tables e below (T3.setTop (mkF m 18 #[Rf a1, Rf wO] [])) _
    refine XS.aloadN X3.here hx rfl (hb hby d21_18) rfl rfl ?_
    show Steps p.tables e below (T3.setTop (mkF m 19 #[Rf a1, Rf wO] [(.ref a1)])) _
    refine st4 _ ?_
    show Steps p.tables e below (T4.setTop (mkF m 22 #[Rf a1, Rf wO] [(.ref mv)])) _
    refine st5.trans ?_
    show Steps p.tables e below (T5.setTop (mkF m 25 #[Rf a1, Rf wO] [(.ref sv)])) _
    refine st6 _ ?_
    show Steps p.tables e below (T6.setTop (mkF m 28 #[Rf a1, Rf wO] [(.ref r_6)])) _
    refine XS.astoreN X6.here hx rfl (hb hby d21_28) rfl rfl (l' := #[Rf a1, Rf r_6]) rfl ?_
    show Steps p.tables e below (T6.setTop (mkF m 29 #[Rf a1, Rf r_6] [])) _
    refine XS.aloadN X6.here hx rfl (hb hby d21_29) rfl rfl ?_
    exact kt
  obtain ⟨fs, hr, hrun, hended, hW, hsame⟩ := X6.leave (v := some (.ref r_6)) (fun h => by rw [Bd.returns] at h; cases h)
  refine ⟨_, _, pre0 _ (sg7 _ (?_)), hrun, hended, _, _, rfl, ?_, ⟨_, rfl⟩, hW, hsame.mono (by decide) (by decide)⟩
  · show Steps p.tables e below (T6.setTop (mkF m 30 #[Rf a1, Rf r_6] [(.ref r_6)])) _
    jvm_step X6.here [X6.here.top, hx, (hb hby d21_30), X6.method', Bd.returns, Value.isRef, FieldType.isReference]
    first | (intro acts; rw [hr _ acts rfl rfl rfl]) | rw [hr _ _ rfl rfl rfl]
    exact Steps.refl _
  · show Q21_2 Z a1 dv mv sv wO h0 n0 _ T6.heap _
    exact ⟨r_6, rfl, N6, K6, O6, f6_0, (Nat.le_trans K0.1 f6_1), f6_2, f6_3⟩
def Q0 (Z : State) (p1 : Int32) (p2 : Int32) (p3 : Int32) (s_w1 : Addr) (t_w1 : Addr) (kb_w1 : ClassId) (s_w2 : Addr) (t_w2 : Addr) (kb_w2 : ClassId) (zC : Int32) (wO : Addr) (wD : Addr) (wMap : Addr) (w1 : Addr) (w2 : Addr) (h0 : Heap) (n0 : Nat) (v : Option Value) (h : Heap) (L : List Loc) : Prop := v = some (.int (1 : Int32)) ∧ Fr n0 L ∧ Keep h0 h [] ∧ Old Z n0 h
theorem ef_0 (m : MethodId) (x0 : Int32) (x1 : Int32) (x2 : Int32) : entryFrame m #[(.int x0), (.int x1), (.int x2)] maxLocals = mkF m 0 #[.val (.int x0), .val (.int x1), .val (.int x2), .unset, .unset, .unset, .unset, .unset, .unset, .unset, .unset, .unset, .unset, .unset] [] := by first | (simp [entryFrame, mkF, argsToLocals, Value.category, maxLocals]; done) | rfl
set_option maxRecDepth 65536 in
set_option maxHeartbeats 40000000 in
theorem rm0 (l : Launch) (Z : State) (a0 : Array Value) (hw : ∀ d ∈ tables_1, d.before a0 Z = true) (ws : List Jvm.Cond) (p1 : Int32) (p2 : Int32) (p3 : Int32) (s_w1 : Addr) (t_w1 : Addr) (kb_w1 : ClassId) (s_w2 : Addr) (t_w2 : Addr) (kb_w2 : ClassId) (zC : Int32) (wO : Addr) (wD : Addr) (wMap : Addr) (w1 : Addr) (w2 : Addr) (h0 : Heap) (n0 : Nat) (O0 : Old Z n0 h0) (S_COMPACT_STRINGS : Sta Z Z.heap "java/lang/String" "COMPACT_STRINGS" "Z" (.int zC)) (S_EMPTY : Sta Z Z.heap "java/util/Optional" "EMPTY" "Ljava/util/Optional;" (.ref wO)) (S_DEFAULTCAPACITY_EMPTY_ELEMENTDATA : Sta Z Z.heap "java/util/ArrayList" "DEFAULTCAPACITY_EMPTY_ELEMENTDATA" "[Ljava/lang/Object;" (.ref wD)) (S_EMPTY_MAP : Sta Z Z.heap "java/util/ImmutableCollections" "EMPTY_MAP" "Ljava/util/ImmutableCollections$MapN;" (.ref wMap)) (S_V1 : Sta Z Z.heap "com/example/legacy_to_latest/legacytolatest/EntityClass$Morphia" "V1" "Lcom/example/legacy_to_latest/legacytolatest/EntityClass$Morphia;" (.ref w1)) (S_V2 : Sta Z Z.heap "com/example/legacy_to_latest/legacytolatest/EntityClass$Morphia" "V2" "Lcom/example/legacy_to_latest/legacytolatest/EntityClass$Morphia;" (.ref w2)) (hCS : ¬ zC = 0) (hX_wO : Exa Z Z.heap wO "java/util/Optional") (hF_wO : Fld Z Z.heap wO "java/util/Optional" "value" "Ljava/lang/Object;" .null) (hX_wMap : Exa Z Z.heap wMap "java/util/ImmutableCollections$MapN") (hX_w1 : Exa Z Z.heap w1 "com/example/legacy_to_latest/legacytolatest/EntityClass$Morphia") (hP_w1 : Fld Z Z.heap w1 "com/example/legacy_to_latest/legacytolatest/EntityClass$Morphia" "discriminatorKey" "Ljava/lang/String;" (.ref s_w1)) (hE_w1 : Exa Z Z.heap s_w1 "java/lang/String") (hC_w1 : Fld Z Z.heap s_w1 "java/lang/String" "coder" "B" (.int (0 : Int32))) (hV_w1 : Fld Z Z.heap s_w1 "java/lang/String" "value" "[B" (.ref t_w1)) (hA_w1 : Arv Z Z.heap t_w1 kb_w1 .byte (Int32.ofNat (([99, 108, 97, 115, 115, 78, 97, 109, 101] : List Int32)).length) (strV ([99, 108, 97, 115, 115, 78, 97, 109, 101] : List Int32)) (.int 0)) (hX_w2 : Exa Z Z.heap w2 "com/example/legacy_to_latest/legacytolatest/EntityClass$Morphia") (hP_w2 : Fld Z Z.heap w2 "com/example/legacy_to_latest/legacytolatest/EntityClass$Morphia" "discriminatorKey" "Ljava/lang/String;" (.ref s_w2)) (hE_w2 : Exa Z Z.heap s_w2 "java/lang/String") (hC_w2 : Fld Z Z.heap s_w2 "java/lang/String" "coder" "B" (.int (0 : Int32))) (hV_w2 : Fld Z Z.heap s_w2 "java/lang/String" "value" "[B" (.ref t_w2)) (hA_w2 : Arv Z Z.heap t_w2 kb_w2 .byte (Int32.ofNat (([95, 116] : List Int32)).length) (strV ([95, 116] : List Int32)) (.int 0)) :
    MetFree l x (head1 (Jvm.Cond.code x code maxLocals ret :: ws) room_1) (fun a U => a = #[(.int p1), (.int p2), (.int p3)] ∧ Z.Warmed39 U.vm ∧ U.heap = h0 ∧ CHv Z own_EL U.vm h0) (fun _ _ _ _ _ => True) (fun _ U o U' => ∃ v L, o = .returned v ∧ Q0 Z p1 p2 p3 s_w1 t_w1 kb_w1 s_w2 t_w2 kb_w2 zC wO wD wMap w1 w2 h0 n0 v U'.heap L ∧ CHr Z own_EL U.vm U.heap U'.vm U'.heap ∧ ReturnedEndW U o U' L room_1.cells room_1.slots) := by
  refine MetFree.of_bodySF (plainFor_of_name pn_14) hisR ?_
  intro p e s m args below meth c s₁ Bd hml0 hP hK
  obtain ⟨rfl, hZ, hh, hCH⟩ := hP
  have hx := Bd.exec
  have hby := Bd.bytes
  have hml : c.maxLocals = 14 := hml0
  have hown : s.vm.findClass "com/example/legacy_to_latest/legacytolatest/EntityClassGetDiscriminatorKeyPinLaw" = some m.cls := findClass_of_methodNamed Bd.named
  have hnm := (name_of_methodNamed Bd.named Bd.method).1
  have X0 : Stand p l e room_1 (s.setVm s.vm) m #[(.int p1), (.int p2), (.int p3)] below meth c s₁ [] 0 0 := Stand.of_body Bd
  have e0 : s₁.heap = h0 := by rw [← hh, Bd.state]; rfl
  have N0 := Fr.nil n0
  have pre0 : ∀ t, Steps p.tables e below (s₁.setTop (mkF m 0 #[.val (.int p1), .val (.int p2), .val (.int p3), .unset, .unset, .unset, .unset, .unset, .unset, .unset, .unset, .unset, .unset, .unset] [])) t → Steps p.tables e below (s₁.setTop (entryFrame m #[(.int p1), (.int p2), (.int p3)] maxLocals)) t := fun t k => castTop (ef_0 m p1 p2 p3) k
  have Y0 : s.Since s.vm h0.size := (State.WarmedH.refl s).since h0.size
  have Yk0 : h0.size ≤ h0.size := Nat.le_refl _
  have CR0 : CHr Z own_EL s.vm h0 s.vm h0 := CHr.refl hCH
  have hEL := own_EW hw
  have hSA := own_SA hw
  have K0 := Keep.refl h0 []
  obtain ⟨u1, hu1⟩ : ∃ z, z = (p1 &&& (3 : Int32)) := ⟨_, rfl⟩
  have sg2 : ∀ target, Steps p.tables e below (s₁.setTop (mkF m 3 #[It p1, It p2, It p3, .unset, .unset, .unset, .unset, .unset, .unset, .unset, .unset, .unset, .unset, .unset] [(.int u1)])) target → Steps p.tables e below (s₁.setTop (mkF m 0 #[It p1, It p2, It p3, .unset, .unset, .unset, .unset, .unset, .unset, .unset, .unset, .unset, .unset, .unset] [])) target := by
    intro target kt
    subst hu1
    show Steps p.tables e below (s₁.setTop (mkF m 0 #[It p1, It p2, It p3, .unset, .unset, .unset, .unset, .unset, .unset, .unset, .unset, .unset, .unset, .unset] [])) _
    refine XS.iloadN X0.here hx rfl (hb hby at_0) rfl ?_
    show Steps p.tables e below (s₁.setTop (mkF m 1 #[It p1, It p2, It p3, .unset, .unset, .unset, .unset, .unset, .unset, .unset, .unset, .unset, .unset, .unset] [(.int p1)])) _
    refine XS.iconst X0.here hx rfl (hb hby at_1) ?_
    show Steps p.tables e below (s₁.setTop (mkF m 2 #[It p1, It p2, It p3, .unset, .unset, .unset, .unset, .unset, .unset, .unset, .unset, .unset, .unset, .unset] [(.int (3 : Int32)), (.int p1)])) _
    refine XS.iand X0.here hx rfl (hb hby at_2) rfl ?_
    exact kt
  have sg3 : ∀ target, Steps p.tables e below (s₁.setTop (mkF m 4 #[It p1, It p2, It p3, It u1, .unset, .unset, .unset, .unset, .unset, .unset, .unset, .unset, .unset, .unset] [])) target → Steps p.tables e below (s₁.setTop (mkF m 3 #[It p1, It p2, It p3, .unset, .unset, .unset, .unset, .unset, .unset, .unset, .unset, .unset, .unset, .unset] [(.int u1)])) target := by
    intro target kt
    show Steps p.tables e below (s₁.setTop (mkF m 3 #[It p1, It p2, It p3, .unset, .unset, .unset, .unset, .unset, .unset, .unset, .unset, .unset, .unset, .unset] [(.int u1)])) _
    refine XS.istoreN X0.here hx rfl (hb hby at_3) rfl (l' := #[It p1, It p2, It p3, It u1, .unset, .unset, .unset, .unset, .unset, .unset, .unset, .unset, .unset, .unset]) rfl ?_
    exact kt
  obtain ⟨T8, L8, v8_t0, X8, e8, N8, sg8⟩ : ∃ (T' : State) (L' : List Loc) (v8_t0 : Int32), Stand p l e room_1 (s.setVm s.vm) m #[(.int p1), (.int p2), (.int p3)] below meth c T' L' 0 0 ∧ T'.heap = h0 ∧ Fr n0 L' ∧ ∀ target, Steps p.tables e below (T'.setTop (mkF m 17 #[It p1, It p2, It p3, It u1, .unset, .unset, .unset, .unset, .unset, .unset, .unset, .unset, .unset, .unset] [(.int v8_t0)])) target → Steps p.tables e below (s₁.setTop (mkF m 4 #[It p1, It p2, It p3, It u1, .unset, .unset, .unset, .unset, .unset, .unset, .unset, .unset, .unset, .unset] [])) target := by
    have sg4 : ∀ target, Steps p.tables e below (s₁.setTop (mkF m 9 #[It p1, It p2, It p3, It u1, .unset, .unset, .unset, .unset, .unset, .unset, .unset, .unset, .unset, .unset] [(.int (((p1.toUInt32 >>> ((2 : Int32) &&& 31).toUInt32).toInt32) &&& (1 : Int32)))])) target → Steps p.tables e below (s₁.setTop (mkF m 4 #[It p1, It p2, It p3, It u1, .unset, .unset, .unset, .unset, .unset, .unset, .unset, .unset, .unset, .unset] [])) target := by
      intro target kt
      show Steps p.tables e below (s₁.setTop (mkF m 4 #[It p1, It p2, It p3, It u1, .unset, .unset, .unset, .unset, .unset, .unset, .unset, .unset, .unset, .unset] [])) _
      refine XS.iloadN X0.here hx rfl (hb hby at_4) rfl ?_
      show Steps p.tables e below (s₁.setTop (mkF m 5 #[It p1, It p2, It p3, It u1, .unset, .unset, .unset, .unset, .unset, .unset, .unset, .unset, .unset, .unset] [(.int p1)])) _
      refine XS.iconst X0.here hx rfl (hb hby at_5) ?_
      show Steps p.tables e below (s₁.setTop (mkF m 6 #[It p1, It p2, It p3, It u1, .unset, .unset, .unset, .unset, .unset, .unset, .unset, .unset, .unset, .unset] [(.int (2 : Int32)), (.int p1)])) _
      refine XS.iushr X0.here hx rfl (hb hby at_6) rfl ?_
      show Steps p.tables e below (s₁.setTop (mkF m 7 #[It p1, It p2, It p3, It u1, .unset, .unset, .unset, .unset, .unset, .unset, .unset, .unset, .unset, .unset] [(.int ((p1.toUInt32 >>> ((2 : Int32) &&& 31).toUInt32).toInt32))])) _
      refine XS.iconst X0.here hx rfl (hb hby at_7) ?_
      show Steps p.tables e below (s₁.setTop (mkF m 8 #[It p1, It p2, It p3, It u1, .unset, .unset, .unset, .unset, .unset, .unset, .unset, .unset, .unset, .unset] [(.int (1 : Int32)), (.int ((p1.toUInt32 >>> ((2 : Int32) &&& 31).toUInt32).toInt32))])) _
      refine XS.iand X0.here hx rfl (hb hby at_8) rfl ?_
      exact kt
    by_cases hc5 : (((p1.toUInt32 >>> ((2 : Int32) &&& 31).toUInt32).toInt32) &&& (1 : Int32)) = (0 : Int32)
    · have sg6 : ∀ target, Steps p.tables e below (s₁.setTop (mkF m 17 #[It p1, It p2, It p3, It u1, .unset, .unset, .unset, .unset, .unset, .unset, .unset, .unset, .unset, .unset] [(.int (0 : Int32))])) target → Steps p.tables e below (s₁.setTop (mkF m 9 #[It p1, It p2, It p3, It u1, .unset, .unset, .unset, .unset, .unset, .unset, .unset, .unset, .unset, .unset] [(.int (((p1.toUInt32 >>> ((2 : Int32) &&& 31).toUInt32).toInt32) &&& (1 : Int32)))])) target := by
        intro target kt
        show Steps p.tables e below (s₁.setTop (mkF m 9 #[It p1, It p2, It p3, It u1, .unset, .unset, .unset, .unset, .unset, .unset, .unset, .unset, .unset, .unset] [(.int (((p1.toUInt32 >>> ((2 : Int32) &&& 31).toUInt32).toInt32) &&& (1 : Int32)))])) _
        refine XS.ifYes X0.here hx rfl (pc0 := 9) (pc' := 16) rfl (hb hby at_9) rfl ((if0 _ _).trans (teq hc5).1) (by decide) (by decide) ?_
        show Steps p.tables e below (s₁.setTop (mkF m 16 #[It p1, It p2, It p3, It u1, .unset, .unset, .unset, .unset, .unset, .unset, .unset, .unset, .unset, .unset] [])) _
        refine XS.iconst X0.here hx rfl (hb hby at_16) ?_
        exact kt
      exact ⟨s₁, _, (0 : Int32), X0.mono (by decide) (by decide), e0, N0, fun target kt => sg4 _ (sg6 _ (kt))⟩
    · have sg7 : ∀ target, Steps p.tables e below (s₁.setTop (mkF m 17 #[It p1, It p2, It p3, It u1, .unset, .unset, .unset, .unset, .unset, .unset, .unset, .unset, .unset, .unset] [(.int (1 : Int32))])) target → Steps p.tables e below (s₁.setTop (mkF m 9 #[It p1, It p2, It p3, It u1, .unset, .unset, .unset, .unset, .unset, .unset, .unset, .unset, .unset, .unset] [(.int (((p1.toUInt32 >>> ((2 : Int32) &&& 31).toUInt32).toInt32) &&& (1 : Int32)))])) target := by
        intro target kt
        show Steps p.tables e below (s₁.setTop (mkF m 9 #[It p1, It p2, It p3, It u1, .unset, .unset, .unset, .unset, .unset, .unset, .unset, .unset, .unset, .unset] [(.int (((p1.toUInt32 >>> ((2 : Int32) &&& 31).toUInt32).toInt32) &&& (1 : Int32)))])) _
        refine XS.ifNo X0.here hx rfl (hb hby at_9) rfl ((if0 _ _).trans (feq hc5).1) ?_
        show Steps p.tables e below (s₁.setTop (mkF m 12 #[It p1, It p2, It p3, It u1, .unset, .unset, .unset, .unset, .unset, .unset, .unset, .unset, .unset, .unset] [])) _
        refine XS.iconst X0.here hx rfl (hb hby at_12) ?_
        show Steps p.tables e below (s₁.setTop (mkF m 13 #[It p1, It p2, It p3, It u1, .unset, .unset, .unset, .unset, .unset, .unset, .unset, .unset, .unset, .unset] [(.int (1 : Int32))])) _
        refine XS.goto X0.here hx rfl (pc0 := 13) (pc' := 17) rfl (hb hby at_13) (by decide) (by decide) ?_
        exact kt
      exact ⟨s₁, _, (1 : Int32), X0.mono (by decide) (by decide), e0, N0, fun target kt => sg4 _ (sg7 _ (kt))⟩
  have sg9 : ∀ target, Steps p.tables e below (T8.setTop (mkF m 19 #[It p1, It p2, It p3, It u1, It v8_t0, .unset, .unset, .unset, .unset, .unset, .unset, .unset, .unset, .unset] [])) target → Steps p.tables e below (T8.setTop (mkF m 17 #[It p1, It p2, It p3, It u1, .unset, .unset, .unset, .unset, .unset, .unset, .unset, .unset, .unset, .unset] [(.int v8_t0)])) target := by
    intro target kt
    show Steps p.tables e below (T8.setTop (mkF m 17 #[It p1, It p2, It p3, It u1, .unset, .unset, .unset, .unset, .unset, .unset, .unset, .unset, .unset, .unset] [(.int v8_t0)])) _
    refine XS.istore X8.here hx rfl (hb hby at_17) rfl (l' := #[It p1, It p2, It p3, It u1, It v8_t0, .unset, .unset, .unset, .unset, .unset, .unset, .unset, .unset, .unset]) rfl ?_
    exact kt
  obtain ⟨T14, L14, v14_t0, X14, e14, N14, sg14⟩ : ∃ (T' : State) (L' : List Loc) (v14_t0 : Int32), Stand p l e room_1 (s.setVm s.vm) m #[(.int p1), (.int p2), (.int p3)] below meth c T' L' 0 0 ∧ T'.heap = h0 ∧ Fr n0 L' ∧ ∀ target, Steps p.tables e below (T'.setTop (mkF m 32 #[It p1, It p2, It p3, It u1, It v8_t0, .unset, .unset, .unset, .unset, .unset, .unset, .unset, .unset, .unset] [(.int v14_t0)])) target → Steps p.tables e below (T8.setTop (mkF m 19 #[It p1, It p2, It p3, It u1, It v8_t0, .unset, .unset, .unset, .unset, .unset, .unset, .unset, .unset, .unset] [])) target := by
    have sg10 : ∀ target, Steps p.tables e below (T8.setTop (mkF m 24 #[It p1, It p2, It p3, It u1, It v8_t0, .unset, .unset, .unset, .unset, .unset, .unset, .unset, .unset, .unset] [(.int (((p1.toUInt32 >>> ((3 : Int32) &&& 31).toUInt32).toInt32) &&& (1 : Int32)))])) target → Steps p.tables e below (T8.setTop (mkF m 19 #[It p1, It p2, It p3, It u1, It v8_t0, .unset, .unset, .unset, .unset, .unset, .unset, .unset, .unset, .unset] [])) target := by
      intro target kt
      show Steps p.tables e below (T8.setTop (mkF m 19 #[It p1, It p2, It p3, It u1, It v8_t0, .unset, .unset, .unset, .unset, .unset, .unset, .unset, .unset, .unset] [])) _
      refine XS.iloadN X8.here hx rfl (hb hby at_19) rfl ?_
      show Steps p.tables e below (T8.setTop (mkF m 20 #[It p1, It p2, It p3, It u1, It v8_t0, .unset, .unset, .unset, .unset, .unset, .unset, .unset, .unset, .unset] [(.int p1)])) _
      refine XS.iconst X8.here hx rfl (hb hby at_20) ?_
      show Steps p.tables e below (T8.setTop (mkF m 21 #[It p1, It p2, It p3, It u1, It v8_t0, .unset, .unset, .unset, .unset, .unset, .unset, .unset, .unset, .unset] [(.int (3 : Int32)), (.int p1)])) _
      refine XS.iushr X8.here hx rfl (hb hby at_21) rfl ?_
      show Steps p.tables e below (T8.setTop (mkF m 22 #[It p1, It p2, It p3, It u1, It v8_t0, .unset, .unset, .unset, .unset, .unset, .unset, .unset, .unset, .unset] [(.int ((p1.toUInt32 >>> ((3 : Int32) &&& 31).toUInt32).toInt32))])) _
      refine XS.iconst X8.here hx rfl (hb hby at_22) ?_
      show Steps p.tables e below (T8.setTop (mkF m 23 #[It p1, It p2, It p3, It u1, It v8_t0, .unset, .unset, .unset, .unset, .unset, .unset, .unset, .unset, .unset] [(.int (1 : Int32)), (.int ((p1.toUInt32 >>> ((3 : Int32) &&& 31).toUInt32).toInt32))])) _
      refine XS.iand X8.here hx rfl (hb hby at_23) rfl ?_
      exact kt
    by_cases hc11 : (((p1.toUInt32 >>> ((3 : Int32) &&& 31).toUInt32).toInt32) &&& (1 : Int32)) = (0 : Int32)
    · have sg12 : ∀ target, Steps p.tables e below (T8.setTop (mkF m 32 #[It p1, It p2, It p3, It u1, It v8_t0, .unset, .unset, .unset, .unset, .unset, .unset, .unset, .unset, .unset] [(.int (0 : Int32))])) target → Steps p.tables e below (T8.setTop (mkF m 24 #[It p1, It p2, It p3, It u1, It v8_t0, .unset, .unset, .unset, .unset, .unset, .unset, .unset, .unset, .unset] [(.int (((p1.toUInt32 >>> ((3 : Int32) &&& 31).toUInt32).toInt32) &&& (1 : Int32)))])) target := by
        intro target kt
        show Steps p.tables e below (T8.setTop (mkF m 24 #[It p1, It p2, It p3, It u1, It v8_t0, .unset, .unset, .unset, .unset, .unset, .unset, .unset, .unset, .unset] [(.int (((p1.toUInt32 >>> ((3 : Int32) &&& 31).toUInt32).toInt32) &&& (1 : Int32)))])) _
        refine XS.ifYes X8.here hx rfl (pc0 := 24) (pc' := 31) rfl (hb hby at_24) rfl ((if0 _ _).trans (teq hc11).1) (by decide) (by decide) ?_
        show Steps p.tables e below (T8.setTop (mkF m 31 #[It p1, It p2, It p3, It u1, It v8_t0, .unset, .unset, .unset, .unset, .unset, .unset, .unset, .unset, .unset] [])) _
        refine XS.iconst X8.here hx rfl (hb hby at_31) ?_
        exact kt
      exact ⟨T8, _, (0 : Int32), X8.mono (by decide) (by decide), e8, N8, fun target kt => sg10 _ (sg12 _ (kt))⟩
    · have sg13 : ∀ target, Steps p.tables e below (T8.setTop (mkF m 32 #[It p1, It p2, It p3, It u1, It v8_t0, .unset, .unset, .unset, .unset, .unset, .unset, .unset, .unset, .unset] [(.int (1 : Int32))])) target → Steps p.tables e below (T8.setTop (mkF m 24 #[It p1, It p2, It p3, It u1, It v8_t0, .unset, .unset, .unset, .unset, .unset, .unset, .unset, .unset, .unset] [(.int (((p1.toUInt32 >>> ((3 : Int32) &&& 31).toUInt32).toInt32) &&& (1 : Int32)))])) target := by
        intro target kt
        show Steps p.tables e below (T8.setTop (mkF m 24 #[It p1, It p2, It p3, It u1, It v8_t0, .unset, .unset, .unset, .unset, .unset, .unset, .unset, .unset, .unset] [(.int (((p1.toUInt32 >>> ((3 : Int32) &&& 31).toUInt32).toInt32) &&& (1 : Int32)))])) _
        refine XS.ifNo X8.here hx rfl (hb hby at_24) rfl ((if0 _ _).trans (feq hc11).1) ?_
        show Steps p.tables e below (T8.setTop (mkF m 27 #[It p1, It p2, It p3, It u1, It v8_t0, .unset, .unset, .unset, .unset, .unset, .unset, .unset, .unset, .unset] [])) _
        refine XS.iconst X8.here hx rfl (hb hby at_27) ?_
        show Steps p.tables e below (T8.setTop (mkF m 28 #[It p1, It p2, It p3, It u1, It v8_t0, .unset, .unset, .unset, .unset, .unset, .unset, .unset, .unset, .unset] [(.int (1 : Int32))])) _
        refine XS.goto X8.here hx rfl (pc0 := 28) (pc' := 32) rfl (hb hby at_28) (by decide) (by decide) ?_
        exact kt
      exact ⟨T8, _, (1 : Int32), X8.mono (by decide) (by decide), e8, N8, fun target kt => sg10 _ (sg13 _ (kt))⟩
  have sg15 : ∀ target, Steps p.tables e below (T14.setTop (mkF m 34 #[It p1, It p2, It p3, It u1, It v8_t0, It v14_t0, .unset, .unset, .unset, .unset, .unset, .unset, .unset, .unset] [])) target → Steps p.tables e below (T14.setTop (mkF m 32 #[It p1, It p2, It p3, It u1, It v8_t0, .unset, .unset, .unset, .unset, .unset, .unset, .unset, .unset, .unset] [(.int v14_t0)])) target := by
    intro target kt
    show Steps p.tables e below (T14.setTop (mkF m 32 #[It p1, It p2, It p3, It u1, It v8_t0, .unset, .unset, .unset, .unset, .unset, .unset, .unset, .unset, .unset] [(.int v14_t0)])) _
    refine XS.istore X14.here hx rfl (hb hby at_32) rfl (l' := #[It p1, It p2, It p3, It u1, It v8_t0, It v14_t0, .unset, .unset, .unset, .unset, .unset, .unset, .unset, .unset]) rfl ?_
    exact kt
  obtain ⟨T20, L20, v20_t0, X20, e20, N20, sg20⟩ : ∃ (T' : State) (L' : List Loc) (v20_t0 : Int32), Stand p l e room_1 (s.setVm s.vm) m #[(.int p1), (.int p2), (.int p3)] below meth c T' L' 0 0 ∧ T'.heap = h0 ∧ Fr n0 L' ∧ ∀ target, Steps p.tables e below (T'.setTop (mkF m 47 #[It p1, It p2, It p3, It u1, It v8_t0, It v14_t0, .unset, .unset, .unset, .unset, .unset, .unset, .unset, .unset] [(.int v20_t0)])) target → Steps p.tables e below (T14.setTop (mkF m 34 #[It p1, It p2, It p3, It u1, It v8_t0, It v14_t0, .unset, .unset, .unset, .unset, .unset, .unset, .unset, .unset] [])) target := by
    have sg16 : ∀ target, Steps p.tables e below (T14.setTop (mkF m 39 #[It p1, It p2, It p3, It u1, It v8_t0, It v14_t0, .unset, .unset, .unset, .unset, .unset, .unset, .unset, .unset] [(.int (((p1.toUInt32 >>> ((4 : Int32) &&& 31).toUInt32).toInt32) &&& (1 : Int32)))])) target → Steps p.tables e below (T14.setTop (mkF m 34 #[It p1, It p2, It p3, It u1, It v8_t0, It v14_t0, .unset, .unset, .unset, .unset, .unset, .unset, .unset, .unset] [])) target := by
      intro target kt
      show Steps p.tables e below (T14.setTop (mkF m 34 #[It p1, It p2, It p3, It u1, It v8_t0, It v14_t0, .unset, .unset, .unset, .unset, .unset, .unset, .unset, .unset] [])) _
      refine XS.iloadN X14.here hx rfl (hb hby at_34) rfl ?_
      show Steps p.tables e below (T14.setTop (mkF m 35 #[It p1, It p2, It p3, It u1, It v8_t0, It v14_t0, .unset, .unset, .unset, .unset, .unset, .unset, .unset, .unset] [(.int p1)])) _
      refine XS.iconst X14.here hx rfl (hb hby at_35) ?_
      show Steps p.tables e below (T14.setTop (mkF m 36 #[It p1, It p2, It p3, It u1, It v8_t0, It v14_t0, .unset, .unset, .unset, .unset, .unset, .unset, .unset, .unset] [(.int (4 : Int32)), (.int p1)])) _
      refine XS.iushr X14.here hx rfl (hb hby at_36) rfl ?_
      show Steps p.tables e below (T14.setTop (mkF m 37 #[It p1, It p2, It p3, It u1, It v8_t0, It v14_t0, .unset, .unset, .unset, .unset, .unset, .unset, .unset, .unset] [(.int ((p1.toUInt32 >>> ((4 : Int32) &&& 31).toUInt32).toInt32))])) _
      refine XS.iconst X14.here hx rfl (hb hby at_37) ?_
      show Steps p.tables e below (T14.setTop (mkF m 38 #[It p1, It p2, It p3, It u1, It v8_t0, It v14_t0, .unset, .unset, .unset, .unset, .unset, .unset, .unset, .unset] [(.int (1 : Int32)), (.int ((p1.toUInt32 >>> ((4 : Int32) &&& 31).toUInt32).toInt32))])) _
      refine XS.iand X14.here hx rfl (hb hby at_38) rfl ?_
      exact kt
    by_cases hc17 : (((p1.toUInt32 >>> ((4 : Int32) &&& 31).toUInt32).toInt32) &&& (1 : Int32)) = (0 : Int32)
    · have sg18 : ∀ target, Steps p.tables e below (T14.setTop (mkF m 47 #[It p1, It p2, It p3, It u1, It v8_t0, It v14_t0, .unset, .unset, .unset, .unset, .unset, .unset, .unset, .unset] [(.int (0 : Int32))])) target → Steps p.tables e below (T14.setTop (mkF m 39 #[It p1, It p2, It p3, It u1, It v8_t0, It v14_t0, .unset, .unset, .unset, .unset, .unset, .unset, .unset, .unset] [(.int (((p1.toUInt32 >>> ((4 : Int32) &&& 31).toUInt32).toInt32) &&& (1 : Int32)))])) target := by
        intro target kt
        show Steps p.tables e below (T14.setTop (mkF m 39 #[It p1, It p2, It p3, It u1, It v8_t0, It v14_t0, .unset, .unset, .unset, .unset, .unset, .unset, .unset, .unset] [(.int (((p1.toUInt32 >>> ((4 : Int32) &&& 31).toUInt32).toInt32) &&& (1 : Int32)))])) _
        refine XS.ifYes X14.here hx rfl (pc0 := 39) (pc' := 46) rfl (hb hby at_39) rfl ((if0 _ _).trans (teq hc17).1) (by decide) (by decide) ?_
        show Steps p.tables e below (T14.setTop (mkF m 46 #[It p1, It p2, It p3, It u1, It v8_t0, It v14_t0, .unset, .unset, .unset, .unset, .unset, .unset, .unset, .unset] [])) _
        refine XS.iconst X14.here hx rfl (hb hby at_46) ?_
        exact kt
      exact ⟨T14, _, (0 : Int32), X14.mono (by decide) (by decide), e14, N14, fun target kt => sg16 _ (sg18 _ (kt))⟩
    · have sg19 : ∀ target, Steps p.tables e below (T14.setTop (mkF m 47 #[It p1, It p2, It p3, It u1, It v8_t0, It v14_t0, .unset, .unset, .unset, .unset, .unset, .unset, .unset, .unset] [(.int (1 : Int32))])) target → Steps p.tables e below (T14.setTop (mkF m 39 #[It p1, It p2, It p3, It u1, It v8_t0, It v14_t0, .unset, .unset, .unset, .unset, .unset, .unset, .unset, .unset] [(.int (((p1.toUInt32 >>> ((4 : Int32) &&& 31).toUInt32).toInt32) &&& (1 : Int32)))])) target := by
        intro target kt
        show Steps p.tables e below (T14.setTop (mkF m 39 #[It p1, It p2, It p3, It u1, It v8_t0, It v14_t0, .unset, .unset, .unset, .unset, .unset, .unset, .unset, .unset] [(.int (((p1.toUInt32 >>> ((4 : Int32) &&& 31).toUInt32).toInt32) &&& (1 : Int32)))])) _
        refine XS.ifNo X14.here hx rfl (hb hby at_39) rfl ((if0 _ _).trans (feq hc17).1) ?_
        show Steps p.tables e below (T14.setTop (mkF m 42 #[It p1, It p2, It p3, It u1, It v8_t0, It v14_t0, .unset, .unset, .unset, .unset, .unset, .unset, .unset, .unset] [])) _
        refine XS.iconst X14.here hx rfl (hb hby at_42) ?_
        show Steps p.tables e below (T14.setTop (mkF m 43 #[It p1, It p2, It p3, It u1, It v8_t0, It v14_t0, .unset, .unset, .unset, .unset, .unset, .unset, .unset, .unset] [(.int (1 : Int32))])) _
        refine XS.goto X14.here hx rfl (pc0 := 43) (pc' := 47) rfl (hb hby at_43) (by decide) (by decide) ?_
        exact kt
      exact ⟨T14, _, (1 : Int32), X14.mono (by decide) (by decide), e14, N14, fun target kt => sg16 _ (sg19 _ (kt))⟩
  obtain ⟨T21, h21, k21, X21, e21, E21, A21, st21⟩ := newP X20 hx hZ (tw hw 0 rfl) e20 (g := (mkF m 50 #[It p1, It p2, It p3, It u1, It v8_t0, It v14_t0, It v20_t0, .unset, .unset, .unset, .unset, .unset, .unset, .unset] [(.int (2 : Int32))])) rfl (hb hby at_50) rfl (by decide) (cap := 2) (by decide) (by decide) (by decide) (by decide)
  obtain ⟨b21, g21⟩ : ∃ z, z = h0.size := ⟨_, rfl⟩
  rw [← g21] at A21 st21
  have ge_b21 : n0 ≤ b21 := Nat.le_trans (own_osz O0) (Nat.le_of_eq g21.symm)
  have sz_b21 : h0.size ≤ b21 := Nat.le_trans K0.1 (Nat.le_of_eq g21.symm)
  have O22 := O0.ext E21
  have K21 := K0.ext E21
  have CR23 := CR0.trans (CHr.ext E21 CR0.1)
  have V_b21 : Arv Z h21 b21 k21 .char (2 : Int32) [(.int (0 : Int32)), (.int (0 : Int32))] (.int (0 : Int32)) := (Arv.new A21 (by decide)).pad (pad_rep [] (.int (0 : Int32)) 2)
  obtain ⟨u24, hu24⟩ : ∃ z, z = ((p2 &&& (255 : Int32)).toUInt32.toUInt16.toUInt32.toInt32) := ⟨_, rfl⟩
  have sg25 : ∀ target, Steps p.tables e below (T21.setTop (mkF m 63 #[It p1, It p2, It p3, It u1, It v8_t0, It v14_t0, It v20_t0, Rf b21, .unset, .unset, .unset, .unset, .unset, .unset] [(.int u24), (.int (0 : Int32)), (.ref b21)])) target → Steps p.tables e below (T20.setTop (mkF m 47 #[It p1, It p2, It p3, It u1, It v8_t0, It v14_t0, .unset, .unset, .unset, .unset, .unset, .unset, .unset, .unset] [(.int v20_t0)])) target := by
    intro target kt
    subst hu24
    show Steps p.tables e below (T20.setTop (mkF m 47 #[It p1, It p2, It p3, It u1, It v8_t0, It v14_t0, .unset, .unset, .unset, .unset, .unset, .unset, .unset, .unset] [(.int v20_t0)])) _
    refine XS.istore X20.here hx rfl (hb hby at_47) rfl (l' := #[It p1, It p2, It p3, It u1, It v8_t0, It v14_t0, It v20_t0, .unset, .unset, .unset, .unset, .unset, .unset, .unset]) rfl ?_
    show Steps p.tables e below (T20.setTop (mkF m 49 #[It p1, It p2, It p3, It u1, It v8_t0, It v14_t0, It v20_t0, .unset, .unset, .unset, .unset, .unset, .unset, .unset] [])) _
    refine XS.iconst X20.here hx rfl (hb hby at_49) ?_
    show Steps p.tables e below (T20.setTop (mkF m 50 #[It p1, It p2, It p3, It u1, It v8_t0, It v14_t0, It v20_t0, .unset, .unset, .unset, .unset, .unset, .unset, .unset] [(.int (2 : Int32))])) _
    refine st21 _ ?_
    show Steps p.tables e below (T21.setTop (mkF m 52 #[It p1, It p2, It p3, It u1, It v8_t0, It v14_t0, It v20_t0, .unset, .unset, .unset, .unset, .unset, .unset, .unset] [(.ref b21)])) _
    refine XS.astore X21.here hx rfl (hb hby at_52) rfl rfl (l' := #[It p1, It p2, It p3, It u1, It v8_t0, It v14_t0, It v20_t0, Rf b21, .unset, .unset, .unset, .unset, .unset, .unset]) rfl ?_
    show Steps p.tables e below (T21.setTop (mkF m 54 #[It p1, It p2, It p3, It u1, It v8_t0, It v14_t0, It v20_t0, Rf b21, .unset, .unset, .unset, .unset, .unset, .unset] [])) _
    refine XS.aload X21.here hx rfl (hb hby at_54) rfl rfl ?_
    show Steps p.tables e below (T21.setTop (mkF m 56 #[It p1, It p2, It p3, It u1, It v8_t0, It v14_t0, It v20_t0, Rf b21, .unset, .unset, .unset, .unset, .unset, .unset] [(.ref b21)])) _
    refine XS.iconst X21.here hx rfl (hb hby at_56) ?_
    show Steps p.tables e below (T21.setTop (mkF m 57 #[It p1, It p2, It p3, It u1, It v8_t0, It v14_t0, It v20_t0, Rf b21, .unset, .unset, .unset, .unset, .unset, .unset] [(.int (0 : Int32)), (.ref b21)])) _
    refine XS.iloadN X21.here hx rfl (hb hby at_57) rfl ?_
    show Steps p.tables e below (T21.setTop (mkF m 58 #[It p1, It p2, It p3, It u1, It v8_t0, It v14_t0, It v20_t0, Rf b21, .unset, .unset, .unset, .unset, .unset, .unset] [(.int p2), (.int (0 : Int32)), (.ref b21)])) _
    refine XS.sipush X21.here hx rfl (hb hby at_58) ?_
    show Steps p.tables e below (T21.setTop (mkF m 61 #[It p1, It p2, It p3, It u1, It v8_t0, It v14_t0, It v20_t0, Rf b21, .unset, .unset, .unset, .unset, .unset, .unset] [(.int (255 : Int32)), (.int p2), (.int (0 : Int32)), (.ref b21)])) _
    refine XS.iand X21.here hx rfl (hb hby at_61) rfl ?_
    show Steps p.tables e below (T21.setTop (mkF m 62 #[It p1, It p2, It p3, It u1, It v8_t0, It v14_t0, It v20_t0, Rf b21, .unset, .unset, .unset, .unset, .unset, .unset] [(.int (p2 &&& (255 : Int32))), (.int (0 : Int32)), (.ref b21)])) _
    refine XS.i2c X21.here hx rfl (hb hby at_62) rfl ?_
    exact kt
  have rg_u24 := own_chr hu24
  obtain ⟨cl26, Ar26, q26, Sz26, Nn26, Hh26, Gg26⟩ := id V_b21
  have hin26 : ¬ ((0 : Int32) < 0 ∨ cl26.slots.size ≤ ((0 : Int32)).toNatClampNeg) := inb_of Sz26 ⟨by decide, by decide⟩
  obtain ⟨T27, h27, X27, e27, W27, st27⟩ := stC X21 hx hZ e21 Ar26 (j := (0 : Int32)) hin26 (g := (mkF m 63 #[It p1, It p2, It p3, It u1, It v8_t0, It v14_t0, It v20_t0, Rf b21, .unset, .unset, .unset, .unset, .unset, .unset] [(.int u24), (.int (0 : Int32)), (.ref b21)])) rfl rfl (hb hby at_63)
  have V27 : Arv Z h27 b21 k21 .char (2 : Int32) [(.int (nar .char u24)), (.int (0 : Int32))] (.int (0 : Int32)) := Arv.set Ar26 q26 Sz26 Nn26 Hh26 Gg26 (fits_nar_char _) W27 0 rfl (Nat.le_of_ble_eq_true rfl)
  have N27 := Fr.snoc X27 N20 ge_b21
  have O28 := O22.wr W27 ge_b21
  have K27 := K21.wr W27 (Or.inr sz_b21)
  have CR29 := CR23.trans (CHr.wr W27 (own_safearr hZ.alike V_b21 (by decide)) CR23.1)
  obtain ⟨u30, hu30⟩ : ∃ z, z = ((p3 &&& (255 : Int32)).toUInt32.toUInt16.toUInt32.toInt32) := ⟨_, rfl⟩
  have sg31 : ∀ target, Steps p.tables e below (T27.setTop (mkF m 73 #[It p1, It p2, It p3, It u1, It v8_t0, It v14_t0, It v20_t0, Rf b21, .unset, .unset, .unset, .unset, .unset, .unset] [(.int u30), (.int (1 : Int32)), (.ref b21)])) target → Steps p.tables e below (T21.setTop (mkF m 63 #[It p1, It p2, It p3, It u1, It v8_t0, It v14_t0, It v20_t0, Rf b21, .unset, .unset, .unset, .unset, .unset, .unset] [(.int u24), (.int (0 : Int32)), (.ref b21)])) target := by
    intro target kt
    subst hu30
    show Steps p.tables e below (T21.setTop (mkF m 63 #[It p1, It p2, It p3, It u1, It v8_t0, It v14_t0, It v20_t0, Rf b21, .unset, .unset, .unset, .unset, .unset, .unset] [(.int u24), (.int (0 : Int32)), (.ref b21)])) _
    refine st27 _ ?_
    show Steps p.tables e below (T27.setTop (mkF m 64 #[It p1, It p2, It p3, It u1, It v8_t0, It v14_t0, It v20_t0, Rf b21, .unset, .unset, .unset, .unset, .unset, .unset] [])) _
    refine XS.aload X27.here hx rfl (hb hby at_64) rfl rfl ?_
    show Steps p.tables e below (T27.setTop (mkF m 66 #[It p1, It p2, It p3, It u1, It v8_t0, It v14_t0, It v20_t0, Rf b21, .unset, .unset, .unset, .unset, .unset, .unset] [(.ref b21)])) _
    refine XS.iconst X27.here hx rfl (hb hby at_66) ?_
    show Steps p.tables e below (T27.setTop (mkF m 67 #[It p1, It p2, It p3, It u1, It v8_t0, It v14_t0, It v20_t0, Rf b21, .unset, .unset, .unset, .unset, .unset, .unset] [(.int (1 : Int32)), (.ref b21)])) _
    refine XS.iloadN X27.here hx rfl (hb hby at_67) rfl ?_
    show Steps p.tables e below (T27.setTop (mkF m 68 #[It p1, It p2, It p3, It u1, It v8_t0, It v14_t0, It v20_t0, Rf b21, .unset, .unset, .unset, .unset, .unset, .unset] [(.int p3), (.int (1 : Int32)), (.ref b21)])) _
    refine XS.sipush X27.here hx rfl (hb hby at_68) ?_
    show Steps p.tables e below (T27.setTop (mkF m 71 #[It p1, It p2, It p3, It u1, It v8_t0, It v14_t0, It v20_t0, Rf b21, .unset, .unset, .unset, .unset, .unset, .unset] [(.int (255 : Int32)), (.int p3), (.int (1 : Int32)), (.ref b21)])) _
    refine XS.iand X27.here hx rfl (hb hby at_71) rfl ?_
    show Steps p.tables e below (T27.setTop (mkF m 72 #[It p1, It p2, It p3, It u1, It v8_t0, It v14_t0, It v20_t0, Rf b21, .unset, .unset, .unset, .unset, .unset, .unset] [(.int (p3 &&& (255 : Int32))), (.int (1 : Int32)), (.ref b21)])) _
    refine XS.i2c X27.here hx rfl (hb hby at_72) rfl ?_
    exact kt
  have rg_u30 := own_chr hu30
  obtain ⟨cl32, Ar32, q32, Sz32, Nn32, Hh32, Gg32⟩ := id V27
  have hin32 : ¬ ((1 : Int32) < 0 ∨ cl32.slots.size ≤ ((1 : Int32)).toNatClampNeg) := inb_of Sz32 ⟨by decide, by decide⟩
  obtain ⟨T33, h33, X33, e33, W33, st33⟩ := stC X27 hx hZ e27 Ar32 (j := (1 : Int32)) hin32 (g := (mkF m 73 #[It p1, It p2, It p3, It u1, It v8_t0, It v14_t0, It v20_t0, Rf b21, .unset, .unset, .unset, .unset, .unset, .unset] [(.int u30), (.int (1 : Int32)), (.ref b21)])) rfl rfl (hb hby at_73)
  have V33 : Arv Z h33 b21 k21 .char (2 : Int32) [(.int (nar .char u24)), (.int (nar .char u30))] (.int (0 : Int32)) := Arv.set Ar32 q32 Sz32 Nn32 Hh32 Gg32 (fits_nar_char _) W33 1 rfl (Nat.le_of_ble_eq_true rfl)
  have N33 := Fr.snoc X33 N27 ge_b21
  have O34 := O28.wr W33 ge_b21
  have K33 := K27.wr W33 (Or.inr sz_b21)
  have CR35 := CR29.trans (CHr.wr W33 (own_safearr hZ.alike V27 (by decide)) CR29.1)
  have sg36 : ∀ target, Steps p.tables e below (T33.setTop (mkF m 74 #[It p1, It p2, It p3, It u1, It v8_t0, It v14_t0, It v20_t0, Rf b21, .unset, .unset, .unset, .unset, .unset, .unset] [])) target → Steps p.tables e below (T27.setTop (mkF m 73 #[It p1, It p2, It p3, It u1, It v8_t0, It v14_t0, It v20_t0, Rf b21, .unset, .unset, .unset, .unset, .unset, .unset] [(.int u30), (.int (1 : Int32)), (.ref b21)])) target := by
    intro target kt
    show Steps p.tables e below (T27.setTop (mkF m 73 #[It p1, It p2, It p3, It u1, It v8_t0, It v14_t0, It v20_t0, Rf b21, .unset, .unset, .unset, .unset, .unset, .unset] [(.int u30), (.int (1 : Int32)), (.ref b21)])) _
    refine st33 _ ?_
    exact kt
  obtain ⟨T49, L49, v49_l8, h49, vm49, kk49, X49, e49, N49, O49, K49, KK49, Y49, Yk49, hZ49, hown49, CR_49, CQ49, ge_v49_l8, bo_v49_l8, E_v49_l8, sg49⟩ : ∃ (T' : State) (L' : List Loc) (v49_l8 : Addr) (h' : Heap) (vm' : Vm) (k' : Nat), Stand p l e room_1 (s.setVm vm') m #[(.int p1), (.int p2), (.int p3)] below meth c T' L' 3 8 ∧ T'.heap = h' ∧ Fr n0 L' ∧ Old Z n0 h' ∧ Keep h33 h' [] ∧ Keep h0 h' [] ∧ s.Since vm' k' ∧ k' ≤ h'.size ∧ Z.Warmed39 (s.setVm vm').vm ∧ (s.setVm vm').vm.findClass "com/example/legacy_to_latest/legacytolatest/EntityClassGetDiscriminatorKeyPinLaw" = some m.cls ∧ CHr Z own_EL s.vm h0 vm' h' ∧ CHr Z own_EL s.vm h33 vm' h' ∧ n0 ≤ v49_l8 ∧ h33.size ≤ v49_l8 ∧ Exa Z h' v49_l8 "java/lang/String" ∧ ∀ target, Steps p.tables e below (T'.setTop (mkF m 102 #[It p1, It p2, It p3, It u1, It v8_t0, It v14_t0, It v20_t0, Rf b21, Rf v49_l8, .unset, .unset, .unset, .unset, .unset] [])) target → Steps p.tables e below (T33.setTop (mkF m 74 #[It p1, It p2, It p3, It u1, It v8_t0, It v14_t0, It v20_t0, Rf b21, .unset, .unset, .unset, .unset, .unset, .unset] [])) target := by
    have sg37 : ∀ target, Steps p.tables e below (T33.setTop (mkF m 76 #[It p1, It p2, It p3, It u1, It v8_t0, It v14_t0, It v20_t0, Rf b21, .unset, .unset, .unset, .unset, .unset, .unset] [(.int v20_t0)])) target → Steps p.tables e below (T33.setTop (mkF m 74 #[It p1, It p2, It p3, It u1, It v8_t0, It v14_t0, It v20_t0, Rf b21, .unset, .unset, .unset, .unset, .unset, .unset] [])) target := by
      intro target kt
      show Steps p.tables e below (T33.setTop (mkF m 74 #[It p1, It p2, It p3, It u1, It v8_t0, It v14_t0, It v20_t0, Rf b21, .unset, .unset, .unset, .unset, .unset, .unset] [])) _
      refine XS.iload X33.here hx rfl (hb hby at_74) rfl ?_
      exact kt
    by_cases hc38 : v20_t0 = (0 : Int32)
    · obtain ⟨cl39, Ar39, -, Sz39, Nn39, Hh39, -⟩ := id V33
      have hin39 : ¬ ((0 : Int32) < 0 ∨ cl39.slots.size ≤ ((0 : Int32)).toNatClampNeg) := inb_of Sz39 ⟨by decide, by decide⟩
      have hat39 : cl39.slots[((0 : Int32)).toNatClampNeg]? = some (.int (nar .char u24)) := Has.at Hh39 hin39 rfl
      obtain ⟨_, _, ⟨T40, L40, k40, n40⟩, -, X40, ⟨Lc40, hQ40, l40, y40, z40⟩, st40⟩ := Jvm.LawKit.callS X33 hx (y := (⟨"java/lang/String", "valueOf", "(C)Ljava/lang/String;"⟩ : MethodName)) hown (mvT hZ (tw hw 1 rfl)) (mvT hZ (tw hw 2 rfl)) (mvT hZ (tw hw 3 rfl)) (mvT hZ (tw hw 4 rfl)) (by decide) (backOf (W := 0) (rm1 l Z a0 hw [] (nar .char u24) zC h33 n0 O34 S_COMPACT_STRINGS hCS (own_narR rg_u24)) hZ (tw hw 4 rfl) (tw hw 3 rfl) (by decide) (by decide)) (g := (mkF m 97 #[It p1, It p2, It p3, It u1, It v8_t0, It v14_t0, It v20_t0, Rf b21, .unset, .unset, .unset, .unset, .unset, .unset] [(.int (nar .char u24))])) rfl (by rw [hml]; rfl) (argsL := [(.int (nar .char u24))]) (rest := []) (lenOf pd_14 rfl) rfl (by show 2 * 0 + _ ≤ _; exact Nat.le_of_eq rfl) (hb hby at_97) (fun _ _ => ⟨rfl, e33, (by decide : 1 + 2 ≤ _), (by decide : 2 + 5 ≤ _)⟩)
      dsimp only [Pt.U, Pt.locs, Pt.cells, Pt.slots] at X40 l40 y40 z40 st40 hQ40
      subst l40 y40 z40
      obtain ⟨r_40, t_40, kb_40, rfl, N40q, K40q, O40, f40_0, f40_1, f40_2, f40_3, f40_4, f40_5, f40_6, f40_7⟩ := hQ40
      have N40 := Fr.app N33 N40q
      have CR41 := CR35.trans (CHr.keep K40q all0 CR35.1)
      have K40 := K33.trans K40q all0
      have sg42 : ∀ target, Steps p.tables e below (T40.setTop (mkF m 102 #[It p1, It p2, It p3, It u1, It v8_t0, It v14_t0, It v20_t0, Rf b21, Rf r_40, .unset, .unset, .unset, .unset, .unset] [])) target → Steps p.tables e below (T33.setTop (mkF m 76 #[It p1, It p2, It p3, It u1, It v8_t0, It v14_t0, It v20_t0, Rf b21, .unset, .unset, .unset, .unset, .unset, .unset] [(.int v20_t0)])) target := by
        intro target kt
        show Steps p.tables e below (T33.setTop (mkF m 76 #[It p1, It p2, It p3, It u1, It v8_t0, It v14_t0, It v20_t0, Rf b21, .unset, .unset, .unset, .unset, .unset, .unset] [(.int v20_t0)])) _
        refine XS.ifYes X33.here hx rfl (pc0 := 76) (pc' := 93) rfl (hb hby at_76) rfl ((if0 _ _).trans (teq hc38).1) (by decide) (by decide) ?_
        show Steps p.tables e below (T33.setTop (mkF m 93 #[It p1, It p2, It p3, It u1, It v8_t0, It v14_t0, It v20_t0, Rf b21, .unset, .unset, .unset, .unset, .unset, .unset] [])) _
        refine XS.aload X33.here hx rfl (hb hby at_93) rfl rfl ?_
        show Steps p.tables e below (T33.setTop (mkF m 95 #[It p1, It p2, It p3, It u1, It v8_t0, It v14_t0, It v20_t0, Rf b21, .unset, .unset, .unset, .unset, .unset, .unset] [(.ref b21)])) _
        refine XS.iconst X33.here hx rfl (hb hby at_95) ?_
        show Steps p.tables e below (T33.setTop (mkF m 96 #[It p1, It p2, It p3, It u1, It v8_t0, It v14_t0, It v20_t0, Rf b21, .unset, .unset, .unset, .unset, .unset, .unset] [(.int (0 : Int32)), (.ref b21)])) _
        refine X33.caload hx (j := (0 : Int32)) (v := (.int (nar .char u24))) (by rw [e33]; exact Ar39.1) (State.isArrayOf_alike hZ.alike Ar39.2.1) Ar39.2.2 hin39 hat39 (g := (mkF m 96 #[It p1, It p2, It p3, It u1, It v8_t0, It v14_t0, It v20_t0, Rf b21, .unset, .unset, .unset, .unset, .unset, .unset] [(.int (0 : Int32)), (.ref b21)])) rfl rfl (hb hby at_96) _ ?_
        show Steps p.tables e below (T33.setTop (mkF m 97 #[It p1, It p2, It p3, It u1, It v8_t0, It v14_t0, It v20_t0, Rf b21, .unset, .unset, .unset, .unset, .unset, .unset] [(.int (nar .char u24))])) _
        refine st40 _ ?_
        show Steps p.tables e below (T40.setTop (mkF m 100 #[It p1, It p2, It p3, It u1, It v8_t0, It v14_t0, It v20_t0, Rf b21, .unset, .unset, .unset, .unset, .unset, .unset] [(.ref r_40)])) _
        refine XS.astore X40.here hx rfl (hb hby at_100) rfl rfl (l' := #[It p1, It p2, It p3, It u1, It v8_t0, It v14_t0, It v20_t0, Rf b21, Rf r_40, .unset, .unset, .unset, .unset, .unset]) rfl ?_
        exact kt
      exact ⟨T40, _, r_40, T40.heap, s.vm, _, X40.mono (by decide) (by decide), rfl, N40, O40, ((Keep.refl h33 []).trans K40q all0), K40, Y0, (Nat.le_trans (Nat.le_trans (Nat.le_trans (Nat.le_trans Yk0 E21.1) (Keep.of_wr W27).1) (Keep.of_wr W33).1) K40q.1), hZ, hown, CR41, ((CHr.refl CR35.1).trans (CHr.keep K40q all0 CR35.1)), f40_0, (Nat.le_trans (Nat.le_refl _) f40_1), f40_4, fun target kt => sg37 _ (sg42 _ (kt))⟩
    · obtain ⟨T43, h43, X43, e43, E43, A43, D43, -, st43⟩ := newO X33 hx hZ hown (tw hw 208 rfl) (tw hw 11 rfl) (tw hw 3 rfl) e33 (g := (mkF m 79 #[It p1, It p2, It p3, It u1, It v8_t0, It v14_t0, It v20_t0, Rf b21, .unset, .unset, .unset, .unset, .unset, .unset] [])) rfl (hb hby at_79) (by decide) (by decide)
      obtain ⟨b43, g43⟩ : ∃ z, z = h33.size := ⟨_, rfl⟩
      rw [← g43] at A43 D43 st43
      have ge_b43 : n0 ≤ b43 := Nat.le_trans (own_osz O34) (Nat.le_of_eq g43.symm)
      have sz_b43 : h0.size ≤ b43 := Nat.le_trans K33.1 (Nat.le_of_eq g43.symm)
      have O44 := O34.ext E43
      have K43 := K33.ext E43
      have CR45 := CR35.trans (CHr.ext E43 CR35.1)
      have F_value_b43 : Fld Z h43 b43 "java/lang/String" "value" "[B" .null := D43 (Or.inr (tw hw 24 rfl)) (ty := (.array .byte)) (by decide)
      have F_coder_b43 : Fld Z h43 b43 "java/lang/String" "coder" "B" (.int (0 : Int32)) := D43 (Or.inr (tw hw 26 rfl)) (ty := .byte) (by decide)
      have lat46 : Lat ([(nar .char u24), (nar .char u30)] : List Int32) := own_lat2 rg_u24 rg_u30
      obtain ⟨vv46, _, ⟨T46, L46, k46, n46⟩, -, X46, ⟨Lc46, hQ46, l46, y46, z46⟩, st46⟩ := X43.specialBack hx (y := (⟨"java/lang/String", "<init>", "([C)V"⟩ : MethodName)) rfl hown (mvT hZ (tw hw 209 rfl)) (mvT hZ (tw hw 210 rfl)) (mvT hZ (tw hw 211 rfl)) (by decide) (StrChars.Road.backV (W := 1) hZ (own_wn hw) (kI := 4) (tw hw 11 rfl) (cs := ([(nar .char u24), (nar .char u30)] : List Int32)) (bs := (([(nar .char u24), (nar .char u30)] : List Int32)).map StrChars.lo8) (n := 2) ge_b43 (own_osz O44) A43 F_value_b43 F_coder_b43 (V33.ext E43) (S_COMPACT_STRINGS.ext O44.2) hCS rfl rfl (by decide) (by decide) lat46.1 rfl (by decide) (by decide)) (g := (mkF m 85 #[It p1, It p2, It p3, It u1, It v8_t0, It v14_t0, It v20_t0, Rf b21, .unset, .unset, .unset, .unset, .unset, .unset] [(.ref b21), (.ref b43), (.ref b43)])) rfl (by rw [hml]; rfl) (Steps.refl _) (a := b43) (argsL := [(.ref b21)]) (rest := [(.ref b43)]) (lenOf pd_15 rfl) rfl (by show 2 * 0 + _ ≤ _; exact Nat.le_of_eq rfl) (hb hby at_85) (fun _ _ => ⟨rfl, e43, (by decide : 2 + 1 ≤ _), (by decide : 6 + 2 ≤ _)⟩)
      dsimp only [Pt.U, Pt.locs, Pt.cells, Pt.slots] at X46 l46 y46 z46 st46 hQ46
      subst l46 y46 z46
      obtain ⟨rfl, N46q, K46q, A46, Fc46, t46, kb46, gt46, bt46, nt46, Fv46, Va46⟩ := hQ46
      have N46 := Fr.app N33 N46q
      have V46 : Arv Z T46.heap t46 kb46 .byte (Int32.ofNat (([(nar .char u24), (nar .char u30)] : List Int32)).length) (strV ([(nar .char u24), (nar .char u30)] : List Int32)) (.int 0) := Va46
      have sz_t46 : h0.size ≤ t46 := Nat.le_trans K43.1 bt46
      have CR47 := CR45.trans (CHr.keep K46q (allS (Safe.ext E43 CR35.1 (Safe.new (Nat.le_of_eq g43.symm))) all0) CR45.1)
      have O46 := O44.keep K46q (allS ge_b43 all0)
      have K46 := K43.trans K46q (allS (Or.inr sz_b43) all0)
      have sg48 : ∀ target, Steps p.tables e below (T46.setTop (mkF m 102 #[It p1, It p2, It p3, It u1, It v8_t0, It v14_t0, It v20_t0, Rf b21, Rf b43, .unset, .unset, .unset, .unset, .unset] [])) target → Steps p.tables e below (T33.setTop (mkF m 76 #[It p1, It p2, It p3, It u1, It v8_t0, It v14_t0, It v20_t0, Rf b21, .unset, .unset, .unset, .unset, .unset, .unset] [(.int v20_t0)])) target := by
        intro target kt
        show Steps p.tables e below (T33.setTop (mkF m 76 #[It p1, It p2, It p3, It u1, It v8_t0, It v14_t0, It v20_t0, Rf b21, .unset, .unset, .unset, .unset, .unset, .unset] [(.int v20_t0)])) _
        refine XS.ifNo X33.here hx rfl (hb hby at_76) rfl ((if0 _ _).trans (feq hc38).1) ?_
        show Steps p.tables e below (T33.setTop (mkF m 79 #[It p1, It p2, It p3, It u1, It v8_t0, It v14_t0, It v20_t0, Rf b21, .unset, .unset, .unset, .unset, .unset, .unset] [])) _
        refine st43 _ ?_
        show Steps p.tables e below (T43.setTop (mkF m 82 #[It p1, It p2, It p3, It u1, It v8_t0, It v14_t0, It v20_t0, Rf b21, .unset, .unset, .unset, .unset, .unset, .unset] [(.ref b43)])) _
        refine XS.dup X43.here hx rfl (hb hby at_82) rfl rfl ?_
        show Steps p.tables e below (T43.setTop (mkF m 83 #[It p1, It p2, It p3, It u1, It v8_t0, It v14_t0, It v20_t0, Rf b21, .unset, .unset, .unset, .unset, .unset, .unset] [(.ref b43), (.ref b43)])) _
        refine XS.aload X43.here hx rfl (hb hby at_83) rfl rfl ?_
        show Steps p.tables e below (T43.setTop (mkF m 85 #[It p1, It p2, It p3, It u1, It v8_t0, It v14_t0, It v20_t0, Rf b21, .unset, .unset, .unset, .unset, .unset, .unset] [(.ref b21), (.ref b43), (.ref b43)])) _
        refine st46.trans ?_
        show Steps p.tables e below (T46.setTop (mkF m 88 #[It p1, It p2, It p3, It u1, It v8_t0, It v14_t0, It v20_t0, Rf b21, .unset, .unset, .unset, .unset, .unset, .unset] [(.ref b43)])) _
        refine XS.astore X46.here hx rfl (hb hby at_88) rfl rfl (l' := #[It p1, It p2, It p3, It u1, It v8_t0, It v14_t0, It v20_t0, Rf b21, Rf b43, .unset, .unset, .unset, .unset, .unset]) rfl ?_
        show Steps p.tables e below (T46.setTop (mkF m 90 #[It p1, It p2, It p3, It u1, It v8_t0, It v14_t0, It v20_t0, Rf b21, Rf b43, .unset, .unset, .unset, .unset, .unset] [])) _
        refine XS.goto X46.here hx rfl (pc0 := 90) (pc' := 102) rfl (hb hby at_90) (by decide) (by decide) ?_
        exact kt
      exact ⟨T46, _, b43, T46.heap, s.vm, _, X46.mono (by decide) (by decide), rfl, N46, O46, (((Keep.refl h33 []).ext E43).trans K46q (allS (Or.inr (Nat.le_trans (Nat.le_refl _) (Nat.le_of_eq g43.symm))) all0)), K46, Y0, (Nat.le_trans (Nat.le_trans (Nat.le_trans (Nat.le_trans (Nat.le_trans Yk0 E21.1) (Keep.of_wr W27).1) (Keep.of_wr W33).1) E43.1) K46q.1), hZ, hown, CR47, (((CHr.refl CR35.1).trans (CHr.ext E43 CR35.1)).trans (CHr.keep K46q (allS (Safe.ext E43 CR35.1 (Safe.new (Nat.le_of_eq g43.symm))) all0) CR45.1)), ge_b43, (Nat.le_trans (Nat.le_refl _) (Nat.le_of_eq g43.symm)), A46, fun target kt => sg37 _ (sg48 _ (kt))⟩
  have sg50 : ∀ target, Steps p.tables e below (T49.setTop (mkF m 104 #[It p1, It p2, It p3, It u1, It v8_t0, It v14_t0, It v20_t0, Rf b21, Rf v49_l8, .unset, .unset, .unset, .unset, .unset] [(.int (1 : Int32)), (.int u1)])) target → Steps p.tables e below (T49.setTop (mkF m 102 #[It p1, It p2, It p3, It u1, It v8_t0, It v14_t0, It v20_t0, Rf b21, Rf v49_l8, .unset, .unset, .unset, .unset, .unset] [])) target := by
    intro target kt
    show Steps p.tables e below (T49.setTop (mkF m 102 #[It p1, It p2, It p3, It u1, It v8_t0, It v14_t0, It v20_t0, Rf b21, Rf v49_l8, .unset, .unset, .unset, .unset, .unset] [])) _
    refine XS.iloadN X49.here hx rfl (hb hby at_102) rfl ?_
    show Steps p.tables e below (T49.setTop (mkF m 103 #[It p1, It p2, It p3, It u1, It v8_t0, It v14_t0, It v20_t0, Rf b21, Rf v49_l8, .unset, .unset, .unset, .unset, .unset] [(.int u1)])) _
    refine XS.iconst X49.here hx rfl (hb hby at_103) ?_
    exact kt
  by_cases hc51 : u1 = (1 : Int32)
  · obtain ⟨T52, X52, e52, st52⟩ := getS2 X49 hx hZ49 hown49 (host := "") (Or.inl (tw hw 190 rfl)) Via.refl e49 (S_V1.ext O49.2) (g := (mkF m 107 #[It p1, It p2, It p3, It u1, It v8_t0, It v14_t0, It v20_t0, Rf b21, Rf v49_l8, .unset, .unset, .unset, .unset, .unset] [])) rfl (hb hby at_107)
    obtain ⟨_, _, ⟨T53, L53, k53, n53⟩, -, X53, ⟨Lc53, hQ53, l53, y53, z53⟩, st53⟩ := Jvm.LawKit.callS X52 hx (y := (⟨"java/util/Optional", "of", "(Ljava/lang/Object;)Ljava/util/Optional;"⟩ : MethodName)) hown49 (mvT hZ49 (tw hw 193 rfl)) (mvT hZ49 (tw hw 194 rfl)) (mvT hZ49 (tw hw 29 rfl)) (mvT hZ49 (tw hw 195 rfl)) (by decide) (backOf (W := 0) (rm23 l Z a0 hw [] w1 h49 n0 O49 ) hZ49 (tw hw 195 rfl) (tw hw 29 rfl) (by decide) (by decide)) (g := (mkF m 110 #[It p1, It p2, It p3, It u1, It v8_t0, It v14_t0, It v20_t0, Rf b21, Rf v49_l8, .unset, .unset, .unset, .unset, .unset] [(.ref w1)])) rfl (by rw [hml]; rfl) (argsL := [(.ref w1)]) (rest := []) (lenOf pd_13 rfl) rfl (by show 2 * 0 + _ ≤ _; exact Nat.le_of_eq rfl) (hb hby at_110) (fun _ _ => ⟨rfl, e52, (by decide : 3 + 1 ≤ _), (by decide : 8 + 1 ≤ _)⟩)
    dsimp only [Pt.U, Pt.locs, Pt.cells, Pt.slots] at X53 l53 y53 z53 st53 hQ53
    subst l53 y53 z53
    obtain ⟨r_53, rfl, N53q, K53q, O53, f53_0, f53_1, f53_2, f53_3⟩ := hQ53
    have N53 := Fr.app N49 N53q
    have CR54 := CR_49.trans (CHr.keep K53q all0 CR_49.1)
    have K53 := KK49.trans K53q all0
    have sg55 : ∀ target, Steps p.tables e below (T53.setTop (mkF m 141 #[It p1, It p2, It p3, It u1, It v8_t0, It v14_t0, It v20_t0, Rf b21, Rf v49_l8, Rf r_53, .unset, .unset, .unset, .unset] [(.int v8_t0)])) target → Steps p.tables e below (T49.setTop (mkF m 104 #[It p1, It p2, It p3, It u1, It v8_t0, It v14_t0, It v20_t0, Rf b21, Rf v49_l8, .unset, .unset, .unset, .unset, .unset] [(.int (1 : Int32)), (.int u1)])) target := by
      intro target kt
      show Steps p.tables e below (T49.setTop (mkF m 104 #[It p1, It p2, It p3, It u1, It v8_t0, It v14_t0, It v20_t0, Rf b21, Rf v49_l8, .unset, .unset, .unset, .unset, .unset] [(.int (1 : Int32)), (.int u1)])) _
      refine XS.icmpNo X49.here hx rfl (hb hby at_104) rfl (teq hc51).2 ?_
      show Steps p.tables e below (T49.setTop (mkF m 107 #[It p1, It p2, It p3, It u1, It v8_t0, It v14_t0, It v20_t0, Rf b21, Rf v49_l8, .unset, .unset, .unset, .unset, .unset] [])) _
      refine st52 _ ?_
      show Steps p.tables e below (T52.setTop (mkF m 110 #[It p1, It p2, It p3, It u1, It v8_t0, It v14_t0, It v20_t0, Rf b21, Rf v49_l8, .unset, .unset, .unset, .unset, .unset] [(.ref w1)])) _
      refine st53 _ ?_
      show Steps p.tables e below (T53.setTop (mkF m 113 #[It p1, It p2, It p3, It u1, It v8_t0, It v14_t0, It v20_t0, Rf b21, Rf v49_l8, .unset, .unset, .unset, .unset, .unset] [(.ref r_53)])) _
      refine XS.astore X53.here hx rfl (hb hby at_113) rfl rfl (l' := #[It p1, It p2, It p3, It u1, It v8_t0, It v14_t0, It v20_t0, Rf b21, Rf v49_l8, Rf r_53, .unset, .unset, .unset, .unset]) rfl ?_
      show Steps p.tables e below (T53.setTop (mkF m 115 #[It p1, It p2, It p3, It u1, It v8_t0, It v14_t0, It v20_t0, Rf b21, Rf v49_l8, Rf r_53, .unset, .unset, .unset, .unset] [])) _
      refine XS.goto X53.here hx rfl (pc0 := 115) (pc' := 139) rfl (hb hby at_115) (by decide) (by decide) ?_
      show Steps p.tables e below (T53.setTop (mkF m 139 #[It p1, It p2, It p3, It u1, It v8_t0, It v14_t0, It v20_t0, Rf b21, Rf v49_l8, Rf r_53, .unset, .unset, .unset, .unset] [])) _
      refine XS.iload X53.here hx rfl (hb hby at_139) rfl ?_
      exact kt
    by_cases hc56 : v8_t0 = (0 : Int32)
    · obtain ⟨_, _, ⟨T57, L57, k57, n57⟩, -, X57, ⟨Lc57, hQ57, l57, y57, z57⟩, st57⟩ := Jvm.LawKit.callS X53 hx (y := (⟨"java/util/Optional", "empty", "()Ljava/util/Optional;"⟩ : MethodName)) hown49 (mvT hZ49 (tw hw 27 rfl)) (mvT hZ49 (tw hw 28 rfl)) (mvT hZ49 (tw hw 29 rfl)) (mvT hZ49 (tw hw 30 rfl)) (by decide) (backOf (W := 0) (rm6 l Z a0 hw [] wO T53.heap n0 O53 S_EMPTY) hZ49 (tw hw 30 rfl) (tw hw 29 rfl) (by decide) (by decide)) (g := (mkF m 154 #[It p1, It p2, It p3, It u1, It v8_t0, It v14_t0, It v20_t0, Rf b21, Rf v49_l8, Rf r_53, .unset, .unset, .unset, .unset] [])) rfl (by rw [hml]; rfl) (argsL := []) (rest := []) (lenOf pd_11 rfl) rfl (by show 2 * 0 + _ ≤ _; exact Nat.le_of_eq rfl) (hb hby at_154) (fun _ _ => ⟨rfl, rfl, (by decide : 4 + 0 ≤ _), (by decide : 9 + 0 ≤ _)⟩)
      dsimp only [Pt.U, Pt.locs, Pt.cells, Pt.slots] at X57 l57 y57 z57 st57 hQ57
      subst l57 y57 z57
      obtain ⟨rfl, N57q, e57⟩ := hQ57
      have N57 := Fr.app N53 N57q
      obtain ⟨_, _, ⟨T58, L58, k58, n58⟩, -, X58, ⟨Lc58, hQ58, l58, y58, z58⟩, st58⟩ := Jvm.LawKit.callS X57 hx (y := (⟨"java/util/Map", "of", "()Ljava/util/Map;"⟩ : MethodName)) hown49 (mvT hZ49 (tw hw 32 rfl)) (mvT hZ49 (tw hw 33 rfl)) (mvT hZ49 (tw hw 34 rfl)) (mvT hZ49 (tw hw 35 rfl)) (by decide) (backOf (W := 0) (rm7 l Z a0 hw [] wMap T53.heap n0 O53 S_EMPTY_MAP) hZ49 (tw hw 35 rfl) (tw hw 34 rfl) (by decide) (by decide)) (g := (mkF m 159 #[It p1, It p2, It p3, It u1, It v8_t0, It v14_t0, It v20_t0, Rf b21, Rf v49_l8, Rf r_53, Rf wO, .unset, .unset, .unset] [])) rfl (by rw [hml]; rfl) (argsL := []) (rest := []) (lenOf pd_16 rfl) rfl (by show 2 * 0 + _ ≤ _; exact Nat.le_of_eq rfl) (hb hby at_159) (fun _ _ => ⟨rfl, e57, (by decide : 4 + 0 ≤ _), (by decide : 9 + 0 ≤ _)⟩)
      dsimp only [Pt.U, Pt.locs, Pt.cells, Pt.slots] at X58 l58 y58 z58 st58 hQ58
      subst l58 y58 z58
      obtain ⟨rfl, N58q, e58⟩ := hQ58
      have N58 := Fr.app N57 N58q
      obtain ⟨T59, h59, X59, e59, E59, A59, D59, -, st59⟩ := newO X58 hx hZ49 hown49 (tw hw 38 rfl) (tw hw 39 rfl) (tw hw 40 rfl) e58 (g := (mkF m 164 #[It p1, It p2, It p3, It u1, It v8_t0, It v14_t0, It v20_t0, Rf b21, Rf v49_l8, Rf r_53, Rf wO, Rf wMap, .unset, .unset] [])) rfl (hb hby at_164) (by decide) (by decide)
      obtain ⟨b59, g59⟩ : ∃ z, z = T53.heap.size := ⟨_, rfl⟩
      rw [← g59] at A59 D59 st59
      have ge_b59 : n0 ≤ b59 := Nat.le_trans (own_osz O53) (Nat.le_of_eq g59.symm)
      have sz_b59 : h0.size ≤ b59 := Nat.le_trans K53.1 (Nat.le_of_eq g59.symm)
      have O60 := O53.ext E59
      have K59 := K53.ext E59
      have CR61 := CR54.trans (CHr.ext E59 CR54.1)
      have F_fields_b59 : Fld Z h59 b59 "com/example/legacy_to_latest/legacytolatest/EntityClass" "fields" "Ljava/util/Map;" .null := D59 (Or.inr (tw hw 101 rfl)) (ty := (.object "java/util/Map")) (by decide)
      have F_kind_b59 : Fld Z h59 b59 "com/example/legacy_to_latest/legacytolatest/EntityClass" "kind" "Ljava/lang/String;" .null := D59 (Or.inr (tw hw 109 rfl)) (ty := (.object "java/lang/String")) (by decide)
      have F_morphia_b59 : Fld Z h59 b59 "com/example/legacy_to_latest/legacytolatest/EntityClass" "morphia" "Lcom/example/legacy_to_latest/legacytolatest/EntityClass$Morphia;" .null := D59 (Or.inr (tw hw 118 rfl)) (ty := (.object "com/example/legacy_to_latest/legacytolatest/EntityClass$Morphia")) (by decide)
      have F_discriminator_b59 : Fld Z h59 b59 "com/example/legacy_to_latest/legacytolatest/EntityClass" "discriminator" "Ljava/lang/String;" .null := D59 (Or.inr (tw hw 120 rfl)) (ty := (.object "java/lang/String")) (by decide)
      have F_abstractClass_b59 : Fld Z h59 b59 "com/example/legacy_to_latest/legacytolatest/EntityClass" "abstractClass" "Z" (.int (0 : Int32)) := D59 (Or.inr (tw hw 122 rfl)) (ty := .boolean) (by decide)
      have F_className_b59 : Fld Z h59 b59 "com/example/legacy_to_latest/legacytolatest/EntityClass" "className" "Ljava/lang/String;" .null := D59 (Or.inr (tw hw 125 rfl)) (ty := (.object "java/lang/String")) (by decide)
      have F_binaryName_b59 : Fld Z h59 b59 "com/example/legacy_to_latest/legacytolatest/EntityClass" "binaryName" "Ljava/lang/String;" .null := D59 (Or.inr (tw hw 128 rfl)) (ty := (.object "java/lang/String")) (by decide)
      have F_source_b59 : Fld Z h59 b59 "com/example/legacy_to_latest/legacytolatest/EntityClass" "source" "Ljava/lang/String;" .null := D59 (Or.inr (tw hw 131 rfl)) (ty := (.object "java/lang/String")) (by decide)
      have F_keyParts_b59 : Fld Z h59 b59 "com/example/legacy_to_latest/legacytolatest/EntityClass" "keyParts" "Ljava/util/Map;" .null := D59 (Or.inr (tw hw 176 rfl)) (ty := (.object "java/util/Map")) (by decide)
      have F_unreadSuperclass_b59 : Fld Z h59 b59 "com/example/legacy_to_latest/legacytolatest/EntityClass" "unreadSuperclass" "Ljava/lang/String;" .null := D59 (Or.inr (tw hw 178 rfl)) (ty := (.object "java/lang/String")) (by decide)
      obtain ⟨sa62, T62, h62, k62, sb62, kb62, X62, e62, E62, Y62, Yk62, hZ62, hown62, A62, Fc62, Fv62, V62, la62, lb62, C62, Lt62, SF62, st62⟩ := ldcCH X59 hx hZ49 hown49 (tw hw 41 rfl) hSA e59 Y49 (Nat.le_trans (Nat.le_trans Yk49 K53q.1) E59.1) hEL (own_mem (by decide)) CR61.1 (vs := [(.int (107 : Int32))]) (z := (1 : Int32)) (by decide) (by decide) (by decide) (g := (mkF m 168 #[It p1, It p2, It p3, It u1, It v8_t0, It v14_t0, It v20_t0, Rf b21, Rf v49_l8, Rf r_53, Rf wO, Rf wMap, .unset, .unset] [(.ref b59), (.ref b59)])) rfl (hb hby at_168) (n := 4) (by decide) (by decide) (by decide) (by decide)
      have O63 := O60.ext E62
      have K62 := K59.ext E62
      have CR64 := CR61.trans (C62)
      obtain ⟨sa65, T65, h65, k65, sb65, kb65, X65, e65, E65, Y65, Yk65, hZ65, hown65, A65, Fc65, Fv65, V65, la65, lb65, C65, Lt65, SF65, st65⟩ := ldcCH X62 hx hZ62 hown62 (tw hw 44 rfl) hSA e62 Y62 Yk62 hEL (own_mem (by decide)) CR64.1 (vs := [(.int (67 : Int32))]) (z := (1 : Int32)) (by decide) (by decide) (by decide) (g := (mkF m 176 #[It p1, It p2, It p3, It u1, It v8_t0, It v14_t0, It v20_t0, Rf b21, Rf v49_l8, Rf r_53, Rf wO, Rf wMap, .unset, .unset] [(.int v14_t0), (.ref wO), (.ref r_53), (.ref sa62), (.ref b59), (.ref b59)])) rfl (hb hby at_176) (n := 4) (by decide) (by decide) (by decide) (by decide)
      have O66 := O63.ext E65
      have K65 := K62.ext E65
      have CR67 := CR64.trans (C65)
      obtain ⟨sa68, T68, h68, k68, sb68, kb68, X68, e68, E68, Y68, Yk68, hZ68, hown68, A68, Fc68, Fv68, V68, la68, lb68, C68, Lt68, SF68, st68⟩ := ldcCH X65 hx hZ65 hown65 (tw hw 44 rfl) hSA e65 Y65 Yk65 hEL (own_mem (by decide)) CR67.1 (vs := [(.int (67 : Int32))]) (z := (1 : Int32)) (by decide) (by decide) (by decide) (g := (mkF m 178 #[It p1, It p2, It p3, It u1, It v8_t0, It v14_t0, It v20_t0, Rf b21, Rf v49_l8, Rf r_53, Rf wO, Rf wMap, .unset, .unset] [(.ref sa65), (.int v14_t0), (.ref wO), (.ref r_53), (.ref sa62), (.ref b59), (.ref b59)])) rfl (hb hby at_178) (n := 4) (by decide) (by decide) (by decide) (by decide)
      have O69 := O66.ext E68
      have K68 := K65.ext E68
      have CR70 := CR67.trans (C68)
      obtain ⟨sa71, T71, h71, k71, sb71, kb71, X71, e71, E71, Y71, Yk71, hZ71, hown71, A71, Fc71, Fv71, V71, la71, lb71, C71, Lt71, SF71, st71⟩ := ldcCH X68 hx hZ68 hown68 (tw hw 45 rfl) hSA e68 Y68 Yk68 hEL (own_mem (by decide)) CR70.1 (vs := [(.int (67 : Int32)), (.int (46 : Int32)), (.int (106 : Int32)), (.int (97 : Int32)), (.int (118 : Int32)), (.int (97 : Int32))]) (z := (6 : Int32)) (by decide) (by decide) (by decide) (g := (mkF m 180 #[It p1, It p2, It p3, It u1, It v8_t0, It v14_t0, It v20_t0, Rf b21, Rf v49_l8, Rf r_53, Rf wO, Rf wMap, .unset, .unset] [(.ref sa68), (.ref sa65), (.int v14_t0), (.ref wO), (.ref r_53), (.ref sa62), (.ref b59), (.ref b59)])) rfl (hb hby at_180) (n := 24) (by decide) (by decide) (by decide) (by decide)
      have O72 := O69.ext E71
      have K71 := K68.ext E71
      have CR73 := CR70.trans (C71)
      obtain ⟨T74, h74, X74, e74, E74, A74, D74, -, st74⟩ := newO X71 hx hZ71 hown71 (tw hw 46 rfl) (tw hw 47 rfl) (tw hw 48 rfl) e71 (g := (mkF m 182 #[It p1, It p2, It p3, It u1, It v8_t0, It v14_t0, It v20_t0, Rf b21, Rf v49_l8, Rf r_53, Rf wO, Rf wMap, .unset, .unset] [(.ref sa71), (.ref sa68), (.ref sa65), (.int v14_t0), (.ref wO), (.ref r_53), (.ref sa62), (.ref b59), (.ref b59)])) rfl (hb hby at_182) (by decide) (by decide)
      obtain ⟨b74, g74⟩ : ∃ z, z = h71.size := ⟨_, rfl⟩
      rw [← g74] at A74 D74 st74
      have ge_b74 : n0 ≤ b74 := Nat.le_trans (own_osz O72) (Nat.le_of_eq g74.symm)
      have sz_b74 : h0.size ≤ b74 := Nat.le_trans K71.1 (Nat.le_of_eq g74.symm)
      have O75 := O72.ext E74
      have K74 := K71.ext E74
      have CR76 := CR73.trans (CHr.ext E74 CR73.1)
      have F_modCount_b74 : Fld Z h74 b74 "java/util/AbstractList" "modCount" "I" (.int (0 : Int32)) := D74 (Or.inl (tw hw 66 rfl)) (ty := .int) (by decide)
      have F_elementData_b74 : Fld Z h74 b74 "java/util/ArrayList" "elementData" "[Ljava/lang/Object;" .null := D74 (Or.inl (tw hw 69 rfl)) (ty := (.array (.object "java/lang/Object"))) (by decide)
      have F_size_b74 : Fld Z h74 b74 "java/util/ArrayList" "size" "I" (.int (0 : Int32)) := D74 (Or.inl (tw hw 169 rfl)) (ty := .int) (by decide)
      obtain ⟨_, _, ⟨T77, L77, k77, n77⟩, -, X77, ⟨Lc77, hQ77, l77, y77, z77⟩, st77⟩ := X74.specialBack hx (y := (⟨"java/util/ArrayList", "<init>", "()V"⟩ : MethodName)) rfl hown71 (mvT hZ71 (tw hw 49 rfl)) (mvT hZ71 (tw hw 50 rfl)) (mvT hZ71 (tw hw 51 rfl)) (by decide) (backOf (W := 10) (rm8 l Z a0 hw [] b74 wD h74 n0 O75 S_DEFAULTCAPACITY_EMPTY_ELEMENTDATA A74 F_modCount_b74 F_elementData_b74 F_size_b74 ge_b74) hZ71 (tw hw 51 rfl) (tw hw 48 rfl) (by decide) (by decide)) (g := (mkF m 186 #[It p1, It p2, It p3, It u1, It v8_t0, It v14_t0, It v20_t0, Rf b21, Rf v49_l8, Rf r_53, Rf wO, Rf wMap, .unset, .unset] [(.ref b74), (.ref b74), (.ref sa71), (.ref sa68), (.ref sa65), (.int v14_t0), (.ref wO), (.ref r_53), (.ref sa62), (.ref b59), (.ref b59)])) rfl (by rw [hml]; rfl) (Steps.refl _) (a := b74) (argsL := []) (rest := [(.ref b74), (.ref sa71), (.ref sa68), (.ref sa65), (.int v14_t0), (.ref wO), (.ref r_53), (.ref sa62), (.ref b59), (.ref b59)]) (lenOf pd_5 rfl) rfl (by show 2 * 0 + _ ≤ _; exact Nat.le_of_eq rfl) (hb hby at_186) (fun _ _ => ⟨rfl, e74, (by decide : 14 + 0 ≤ _), (by decide : 74 + 0 ≤ _)⟩)
      dsimp only [Pt.U, Pt.locs, Pt.cells, Pt.slots] at X77 l77 y77 z77 st77 hQ77
      subst l77 y77 z77
      obtain ⟨rfl, N77q, K77q, O77, f77_0, f77_1⟩ := hQ77
      have N77 := Fr.app N58 N77q
      have CR78 := CR76.trans (CHr.keep K77q (allS (Safe.exa hZ71.alike A74 (by decide) (by decide)) all0) CR76.1)
      have K77 := K74.trans K77q (allS (Or.inr sz_b74) all0)
      obtain ⟨_, _, ⟨T79, L79, k79, n79⟩, -, X79, ⟨Lc79, hQ79, l79, y79, z79⟩, st79⟩ := Jvm.LawKit.callS X77 hx (y := (⟨"java/util/Optional", "empty", "()Ljava/util/Optional;"⟩ : MethodName)) hown71 (mvT hZ71 (tw hw 27 rfl)) (mvT hZ71 (tw hw 28 rfl)) (mvT hZ71 (tw hw 29 rfl)) (mvT hZ71 (tw hw 30 rfl)) (by decide) (backOf (W := 11) (rm6 l Z a0 hw [] wO T77.heap n0 O77 S_EMPTY) hZ71 (tw hw 30 rfl) (tw hw 29 rfl) (by decide) (by decide)) (g := (mkF m 191 #[It p1, It p2, It p3, It u1, It v8_t0, It v14_t0, It v20_t0, Rf b21, Rf v49_l8, Rf r_53, Rf wO, Rf wMap, .unset, .unset] [(.ref wMap), (.ref b74), (.ref sa71), (.ref sa68), (.ref sa65), (.int v14_t0), (.ref wO), (.ref r_53), (.ref sa62), (.ref b59), (.ref b59)])) rfl (by rw [hml]; rfl) (argsL := []) (rest := [(.ref wMap), (.ref b74), (.ref sa71), (.ref sa68), (.ref sa65), (.int v14_t0), (.ref wO), (.ref r_53), (.ref sa62), (.ref b59), (.ref b59)]) (lenOf pd_11 rfl) rfl (by show 2 * 0 + _ ≤ _; exact Nat.le_of_eq rfl) (hb hby at_191) (fun _ _ => ⟨rfl, rfl, (by decide : 14 + 0 ≤ _), (by decide : 74 + 0 ≤ _)⟩)
      dsimp only [Pt.U, Pt.locs, Pt.cells, Pt.slots] at X79 l79 y79 z79 st79 hQ79
      subst l79 y79 z79
      obtain ⟨rfl, N79q, e79⟩ := hQ79
      have N79 := Fr.app N77 N79q
      obtain ⟨_, _, ⟨T80, L80, k80, n80⟩, -, X80, Y80, G80, ⟨Lc80, hQ80, l80, y80, z80, C80⟩, st80⟩ := X79.specialBackS hx (y := (⟨"com/example/legacy_to_latest/legacytolatest/EntityClass", "<init>", "(Ljava/lang/String;Ljava/util/Optional;Ljava/util/Optional;ZLjava/lang/String;Ljava/lang/String;Ljava/lang/String;Ljava/util/List;Ljava/util/Map;Ljava/util/Optional;)V"⟩ : MethodName)) rfl hown71 (mvT hZ71 (tw hw 70 rfl)) (mvT hZ71 (tw hw 71 rfl)) (mvT hZ71 (tw hw 72 rfl)) (by decide) (backOfSH (W := 1) (rm11_10 l Z a0 hw [] b59 sa62 r_53 wO v14_t0 sa65 sa68 sa71 b74 wMap wO w1 T77.heap n0 O77 ((((((A59.ext E62).ext E65).ext E68).ext E71).ext E74).keep K77q) ((((((F_fields_b59.ext E62).ext E65).ext E68).ext E71).ext E74).keep K77q (ninS (Nat.ne_of_lt (Nat.lt_of_lt_of_le ((((A59.ext E62).ext E65).ext E68).ext E71).lt (Nat.le_of_eq g74.symm))) nin0)) ((((((F_kind_b59.ext E62).ext E65).ext E68).ext E71).ext E74).keep K77q (ninS (Nat.ne_of_lt (Nat.lt_of_lt_of_le ((((A59.ext E62).ext E65).ext E68).ext E71).lt (Nat.le_of_eq g74.symm))) nin0)) ((((((F_morphia_b59.ext E62).ext E65).ext E68).ext E71).ext E74).keep K77q (ninS (Nat.ne_of_lt (Nat.lt_of_lt_of_le ((((A59.ext E62).ext E65).ext E68).ext E71).lt (Nat.le_of_eq g74.symm))) nin0)) ((((((F_discriminator_b59.ext E62).ext E65).ext E68).ext E71).ext E74).keep K77q (ninS (Nat.ne_of_lt (Nat.lt_of_lt_of_le ((((A59.ext E62).ext E65).ext E68).ext E71).lt (Nat.le_of_eq g74.symm))) nin0)) ((((((F_abstractClass_b59.ext E62).ext E65).ext E68).ext E71).ext E74).keep K77q (ninS (Nat.ne_of_lt (Nat.lt_of_lt_of_le ((((A59.ext E62).ext E65).ext E68).ext E71).lt (Nat.le_of_eq g74.symm))) nin0)) ((((((F_className_b59.ext E62).ext E65).ext E68).ext E71).ext E74).keep K77q (ninS (Nat.ne_of_lt (Nat.lt_of_lt_of_le ((((A59.ext E62).ext E65).ext E68).ext E71).lt (Nat.le_of_eq g74.symm))) nin0)) ((((((F_binaryName_b59.ext E62).ext E65).ext E68).ext E71).ext E74).keep K77q (ninS (Nat.ne_of_lt (Nat.lt_of_lt_of_le ((((A59.ext E62).ext E65).ext E68).ext E71).lt (Nat.le_of_eq g74.symm))) nin0)) ((((((F_source_b59.ext E62).ext E65).ext E68).ext E71).ext E74).keep K77q (ninS (Nat.ne_of_lt (Nat.lt_of_lt_of_le ((((A59.ext E62).ext E65).ext E68).ext E71).lt (Nat.le_of_eq g74.symm))) nin0)) ((((((F_keyParts_b59.ext E62).ext E65).ext E68).ext E71).ext E74).keep K77q (ninS (Nat.ne_of_lt (Nat.lt_of_lt_of_le ((((A59.ext E62).ext E65).ext E68).ext E71).lt (Nat.le_of_eq g74.symm))) nin0)) ((((((F_unreadSuperclass_b59.ext E62).ext E65).ext E68).ext E71).ext E74).keep K77q (ninS (Nat.ne_of_lt (Nat.lt_of_lt_of_le ((((A59.ext E62).ext E65).ext E68).ext E71).lt (Nat.le_of_eq g74.symm))) nin0)) ge_b59 (((((A62.ext E65).ext E68).ext E71).ext E74).keep K77q) ((((A65.ext E68).ext E71).ext E74).keep K77q) (((A68.ext E71).ext E74).keep K77q) ((A71.ext E74).keep K77q) (((((((f53_2.ext E59).ext E62).ext E65).ext E68).ext E71).ext E74).keep K77q) (((((((f53_3.ext E59).ext E62).ext E65).ext E68).ext E71).ext E74).keep K77q (ninS (Nat.ne_of_lt (Nat.lt_of_lt_of_le (((((f53_2.ext E59).ext E62).ext E65).ext E68).ext E71).lt (Nat.le_of_eq g74.symm))) nin0)) (((((((((((((hX_wO.ext O0.2).ext E21).wr W27).wr W33).keep K49).keep K53q).ext E59).ext E62).ext E65).ext E68).ext E71).ext E74).keep K77q) (((((((((((((hF_wO.ext O0.2).ext E21).other W27 (Or.inl (Nat.ne_of_lt (Nat.lt_of_lt_of_le (hX_wO.ext O0.2).lt (Nat.le_of_eq g21.symm))))).other W33 (Or.inl (Nat.ne_of_lt (Nat.lt_of_lt_of_le (hX_wO.ext O0.2).lt (Nat.le_of_eq g21.symm))))).keep K49 nin0).keep K53q nin0).ext E59).ext E62).ext E65).ext E68).ext E71).ext E74).keep K77q (ninS (Nat.ne_of_lt (Nat.lt_of_lt_of_le (((((((((((hX_wO.ext O0.2).ext E21).wr W27).wr W33).keep K49).keep K53q).ext E59).ext E62).ext E65).ext E68).ext E71).lt (Nat.le_of_eq g74.symm))) nin0)) (((((((((((((hX_wO.ext O0.2).ext E21).wr W27).wr W33).keep K49).keep K53q).ext E59).ext E62).ext E65).ext E68).ext E71).ext E74).keep K77q) (((((((((((((hF_wO.ext O0.2).ext E21).other W27 (Or.inl (Nat.ne_of_lt (Nat.lt_of_lt_of_le (hX_wO.ext O0.2).lt (Nat.le_of_eq g21.symm))))).other W33 (Or.inl (Nat.ne_of_lt (Nat.lt_of_lt_of_le (hX_wO.ext O0.2).lt (Nat.le_of_eq g21.symm))))).keep K49 nin0).keep K53q nin0).ext E59).ext E62).ext E65).ext E68).ext E71).ext E74).keep K77q (ninS (Nat.ne_of_lt (Nat.lt_of_lt_of_le (((((((((((hX_wO.ext O0.2).ext E21).wr W27).wr W33).keep K49).keep K53q).ext E59).ext E62).ext E65).ext E68).ext E71).lt (Nat.le_of_eq g74.symm))) nin0)) (A74.keep K77q) f77_0 f77_1 (((((((((((((hX_wMap.ext O0.2).ext E21).wr W27).wr W33).keep K49).keep K53q).ext E59).ext E62).ext E65).ext E68).ext E71).ext E74).keep K77q) (((((((((((((hX_w1.ext O0.2).ext E21).wr W27).wr W33).keep K49).keep K53q).ext E59).ext E62).ext E65).ext E68).ext E71).ext E74).keep K77q)) hZ71 (tw hw 72 rfl) (tw hw 40 rfl) (by decide) (by decide) hEL CR78.1) (g := (mkF m 194 #[It p1, It p2, It p3, It u1, It v8_t0, It v14_t0, It v20_t0, Rf b21, Rf v49_l8, Rf r_53, Rf wO, Rf wMap, .unset, .unset] [(.ref wO), (.ref wMap), (.ref b74), (.ref sa71), (.ref sa68), (.ref sa65), (.int v14_t0), (.ref wO), (.ref r_53), (.ref sa62), (.ref b59), (.ref b59)])) rfl (by rw [hml]; rfl) (Steps.refl _) (a := b59) (argsL := [(.ref sa62), (.ref r_53), (.ref wO), (.int v14_t0), (.ref sa65), (.ref sa68), (.ref sa71), (.ref b74), (.ref wMap), (.ref wO)]) (rest := [(.ref b59)]) (lenOf pd_17 rfl) rfl (by show 2 * 0 + _ ≤ _; exact Nat.le_of_eq rfl) (hb hby at_194) (fun _ _ => ⟨rfl, e79, (by decide : 14 + 10 ≤ _), (by decide : 74 + 148 ≤ _)⟩)
      dsimp only [Pt.U, Pt.locs, Pt.cells, Pt.slots] at X80 l80 y80 z80 st80 hQ80 Y80 G80 C80
      subst l80 y80 z80
      obtain ⟨rfl, N80q, K80q, O80, f80_0, f80_1⟩ := hQ80
      have N80 := Fr.app N79 N80q
      obtain ⟨X80, Y80, hZ80, hown80⟩ := rebS Y71 (by rw [e79]; exact (Nat.le_trans (Nat.le_trans Yk71 E74.1) K77q.1)) X80 Y80 G80 hZ71 hown71
      have CR81 := CR78.trans (C80)
      have K80 := K77.trans K80q (allS (Or.inr sz_b59) all0)
      obtain ⟨cq82, kq82, q82a, q82b, q82c⟩ := isOf hZ80 rfl (((((((A59.ext E62).ext E65).ext E68).ext E71).ext E74).keep K77q).keep K80q)
      obtain ⟨_, _, ⟨T82, L82, k82, n82⟩, -, X82, ⟨Lc82, hQ82, l82, y82, z82⟩, st82⟩ := X80.virtualBack hx (y := (⟨"com/example/legacy_to_latest/legacytolatest/EntityClass", "getDiscriminatorKey", "()Ljava/util/Optional;"⟩ : MethodName)) (z := (⟨"com/example/legacy_to_latest/legacytolatest/EntityClass", "getDiscriminatorKey", "()Ljava/util/Optional;"⟩ : MethodName)) hown80 (mvT hZ80 (tw hw 179 rfl)) (mvT hZ80 (tw hw 180 rfl)) (notFace_of_selects (args := #[]) (mvT hZ80 (tw hw 182 rfl))) (mvT hZ80 (tw hw 182 rfl)) (mvT hZ80 (tw hw 181 rfl)) (by decide) (backOf (W := 0) (rm21_0 l Z a0 hw [] b59 wO T80.heap n0 O80 S_EMPTY f80_1) hZ80 (tw hw 183 rfl) (tw hw 40 rfl) (by decide) (by decide)) q82a q82c (g := (mkF m 201 #[It p1, It p2, It p3, It u1, It v8_t0, It v14_t0, It v20_t0, Rf b21, Rf v49_l8, Rf r_53, Rf wO, Rf wMap, Rf b59, .unset] [(.ref b59)])) rfl (by rw [hml]; rfl) (Steps.refl _) (argsL := []) (rest := []) (lenOf pd_11 rfl) rfl (by show 2 * 0 + _ ≤ _; exact Nat.le_of_eq rfl) (hb hby at_201) (fun _ _ => ⟨rfl, rfl, (by decide : 24 + 0 ≤ _), (by decide : 222 + 0 ≤ _)⟩)
      dsimp only [Pt.U, Pt.locs, Pt.cells, Pt.slots] at X82 l82 y82 z82 st82 hQ82
      subst l82 y82 z82
      obtain ⟨rfl, N82q, e82⟩ := hQ82
      have N82 := Fr.app N80 N82q
      obtain ⟨cq83, kq83, q83a, q83b, q83c⟩ := isOf hZ80 e82 ((((((((((((((hX_wO.ext O0.2).ext E21).wr W27).wr W33).keep K49).keep K53q).ext E59).ext E62).ext E65).ext E68).ext E71).ext E74).keep K77q).keep K80q)
      obtain ⟨_, _, ⟨T83, L83, k83, n83⟩, -, X83, ⟨Lc83, hQ83, l83, y83, z83⟩, st83⟩ := X82.virtualBack hx (y := (⟨"java/util/Optional", "isEmpty", "()Z"⟩ : MethodName)) (z := (⟨"java/util/Optional", "isEmpty", "()Z"⟩ : MethodName)) hown80 (mvT hZ80 (tw hw 185 rfl)) (mvT hZ80 (tw hw 186 rfl)) (notFace_of_selects (args := #[]) (mvT hZ80 (tw hw 188 rfl))) (mvT hZ80 (tw hw 188 rfl)) (mvT hZ80 (tw hw 187 rfl)) (by decide) (backOf (W := 0) (rm22_0 l Z a0 hw [] wO T80.heap n0 O80 ((((((((((((((hF_wO.ext O0.2).ext E21).other W27 (Or.inl (Nat.ne_of_lt (Nat.lt_of_lt_of_le (hX_wO.ext O0.2).lt (Nat.le_of_eq g21.symm))))).other W33 (Or.inl (Nat.ne_of_lt (Nat.lt_of_lt_of_le (hX_wO.ext O0.2).lt (Nat.le_of_eq g21.symm))))).keep K49 nin0).keep K53q nin0).ext E59).ext E62).ext E65).ext E68).ext E71).ext E74).keep K77q (ninS (Nat.ne_of_lt (Nat.lt_of_lt_of_le (((((((((((hX_wO.ext O0.2).ext E21).wr W27).wr W33).keep K49).keep K53q).ext E59).ext E62).ext E65).ext E68).ext E71).lt (Nat.le_of_eq g74.symm))) nin0)).keep K80q (ninS (Nat.ne_of_lt (Nat.lt_of_lt_of_le ((((((hX_wO.ext O0.2).ext E21).wr W27).wr W33).keep K49).keep K53q).lt (Nat.le_of_eq g59.symm))) nin0))) hZ80 (tw hw 189 rfl) (tw hw 29 rfl) (by decide) (by decide)) q83a q83c (g := (mkF m 288 #[It p1, It p2, It p3, It u1, It v8_t0, It v14_t0, It v20_t0, Rf b21, Rf v49_l8, Rf r_53, Rf wO, Rf wMap, Rf b59, Rf wO] [(.ref wO)])) rfl (by rw [hml]; rfl) (Steps.refl _) (argsL := []) (rest := []) (lenOf pd_9 rfl) rfl (by show 2 * 0 + _ ≤ _; exact Nat.le_of_eq rfl) (hb hby at_288) (fun _ _ => ⟨rfl, e82, (by decide : 24 + 0 ≤ _), (by decide : 222 + 0 ≤ _)⟩)
      dsimp only [Pt.U, Pt.locs, Pt.cells, Pt.slots] at X83 l83 y83 z83 st83 hQ83
      subst l83 y83 z83
      obtain ⟨rfl, N83q, e83⟩ := hQ83
      have N83 := Fr.app N82 N83q
      have sg84 : ∀ target, Steps p.tables e below (T83.setTop (mkF m 291 #[It p1, It p2, It p3, It u1, It v8_t0, It v14_t0, It v20_t0, Rf b21, Rf v49_l8, Rf r_53, Rf wO, Rf wMap, Rf b59, Rf wO] [(.int (1 : Int32))])) target → Steps p.tables e below (T53.setTop (mkF m 141 #[It p1, It p2, It p3, It u1, It v8_t0, It v14_t0, It v20_t0, Rf b21, Rf v49_l8, Rf r_53, .unset, .unset, .unset, .unset] [(.int v8_t0)])) target := by
        intro target kt
        show Steps p.tables e below (T53.setTop (mkF m 141 #[It p1, It p2, It p3, It u1, It v8_t0, It v14_t0, It v20_t0, Rf b21, Rf v49_l8, Rf r_53, .unset, .unset, .unset, .unset] [(.int v8_t0)])) _
        refine XS.ifYes X53.here hx rfl (pc0 := 141) (pc' := 154) rfl (hb hby at_141) rfl ((if0 _ _).trans (teq hc56).1) (by decide) (by decide) ?_
        show Steps p.tables e below (T53.setTop (mkF m 154 #[It p1, It p2, It p3, It u1, It v8_t0, It v14_t0, It v20_t0, Rf b21, Rf v49_l8, Rf r_53, .unset, .unset, .unset, .unset] [])) _
        refine st57 _ ?_
        show Steps p.tables e below (T57.setTop (mkF m 157 #[It p1, It p2, It p3, It u1, It v8_t0, It v14_t0, It v20_t0, Rf b21, Rf v49_l8, Rf r_53, .unset, .unset, .unset, .unset] [(.ref wO)])) _
        refine XS.astore X57.here hx rfl (hb hby at_157) rfl rfl (l' := #[It p1, It p2, It p3, It u1, It v8_t0, It v14_t0, It v20_t0, Rf b21, Rf v49_l8, Rf r_53, Rf wO, .unset, .unset, .unset]) rfl ?_
        show Steps p.tables e below (T57.setTop (mkF m 159 #[It p1, It p2, It p3, It u1, It v8_t0, It v14_t0, It v20_t0, Rf b21, Rf v49_l8, Rf r_53, Rf wO, .unset, .unset, .unset] [])) _
        refine st58 _ ?_
        show Steps p.tables e below (T58.setTop (mkF m 162 #[It p1, It p2, It p3, It u1, It v8_t0, It v14_t0, It v20_t0, Rf b21, Rf v49_l8, Rf r_53, Rf wO, .unset, .unset, .unset] [(.ref wMap)])) _
        refine XS.astore X58.here hx rfl (hb hby at_162) rfl rfl (l' := #[It p1, It p2, It p3, It u1, It v8_t0, It v14_t0, It v20_t0, Rf b21, Rf v49_l8, Rf r_53, Rf wO, Rf wMap, .unset, .unset]) rfl ?_
        show Steps p.tables e below (T58.setTop (mkF m 164 #[It p1, It p2, It p3, It u1, It v8_t0, It v14_t0, It v20_t0, Rf b21, Rf v49_l8, Rf r_53, Rf wO, Rf wMap, .unset, .unset] [])) _
        refine st59 _ ?_
        show Steps p.tables e below (T59.setTop (mkF m 167 #[It p1, It p2, It p3, It u1, It v8_t0, It v14_t0, It v20_t0, Rf b21, Rf v49_l8, Rf r_53, Rf wO, Rf wMap, .unset, .unset] [(.ref b59)])) _
        refine XS.dup X59.here hx rfl (hb hby at_167) rfl rfl ?_
        show Steps p.tables e below (T59.setTop (mkF m 168 #[It p1, It p2, It p3, It u1, It v8_t0, It v14_t0, It v20_t0, Rf b21, Rf v49_l8, Rf r_53, Rf wO, Rf wMap, .unset, .unset] [(.ref b59), (.ref b59)])) _
        refine st62 _ ?_
        show Steps p.tables e below (T62.setTop (mkF m 170 #[It p1, It p2, It p3, It u1, It v8_t0, It v14_t0, It v20_t0, Rf b21, Rf v49_l8, Rf r_53, Rf wO, Rf wMap, .unset, .unset] [(.ref sa62), (.ref b59), (.ref b59)])) _
        refine XS.aload X62.here hx rfl (hb hby at_170) rfl rfl ?_
        show Steps p.tables e below (T62.setTop (mkF m 172 #[It p1, It p2, It p3, It u1, It v8_t0, It v14_t0, It v20_t0, Rf b21, Rf v49_l8, Rf r_53, Rf wO, Rf wMap, .unset, .unset] [(.ref r_53), (.ref sa62), (.ref b59), (.ref b59)])) _
        refine XS.aload X62.here hx rfl (hb hby at_172) rfl rfl ?_
        show Steps p.tables e below (T62.setTop (mkF m 174 #[It p1, It p2, It p3, It u1, It v8_t0, It v14_t0, It v20_t0, Rf b21, Rf v49_l8, Rf r_53, Rf wO, Rf wMap, .unset, .unset] [(.ref wO), (.ref r_53), (.ref sa62), (.ref b59), (.ref b59)])) _
        refine XS.iload X62.here hx rfl (hb hby at_174) rfl ?_
        show Steps p.tables e below (T62.setTop (mkF m 176 #[It p1, It p2, It p3, It u1, It v8_t0, It v14_t0, It v20_t0, Rf b21, Rf v49_l8, Rf r_53, Rf wO, Rf wMap, .unset, .unset] [(.int v14_t0), (.ref wO), (.ref r_53), (.ref sa62), (.ref b59), (.ref b59)])) _
        refine st65 _ ?_
        show Steps p.tables e below (T65.setTop (mkF m 178 #[It p1, It p2, It p3, It u1, It v8_t0, It v14_t0, It v20_t0, Rf b21, Rf v49_l8, Rf r_53, Rf wO, Rf wMap, .unset, .unset] [(.ref sa65), (.int v14_t0), (.ref wO), (.ref r_53), (.ref sa62), (.ref b59), (.ref b59)])) _
        refine st68 _ ?_
        show Steps p.tables e below (T68.setTop (mkF m 180 #[It p1, It p2, It p3, It u1, It v8_t0, It v14_t0, It v20_t0, Rf b21, Rf v49_l8, Rf r_53, Rf wO, Rf wMap, .unset, .unset] [(.ref sa68), (.ref sa65), (.int v14_t0), (.ref wO), (.ref r_53), (.ref sa62), (.ref b59), (.ref b59)])) _
        refine st71 _ ?_
        show Steps p.tables e below (T71.setTop (mkF m 182 #[It p1, It p2, It p3, It u1, It v8_t0, It v14_t0, It v20_t0, Rf b21, Rf v49_l8, Rf r_53, Rf wO, Rf wMap, .unset, .unset] [(.ref sa71), (.ref sa68), (.ref sa65), (.int v14_t0), (.ref wO), (.ref r_53), (.ref sa62), (.ref b59), (.ref b59)])) _
        refine st74 _ ?_
        show Steps p.tables e below (T74.setTop (mkF m 185 #[It p1, It p2, It p3, It u1, It v8_t0, It v14_t0, It v20_t0, Rf b21, Rf v49_l8, Rf r_53, Rf wO, Rf wMap, .unset, .unset] [(.ref b74), (.ref sa71), (.ref sa68), (.ref sa65), (.int v14_t0), (.ref wO), (.ref r_53), (.ref sa62), (.ref b59), (.ref b59)])) _
        refine XS.dup X74.here hx rfl (hb hby at_185) rfl rfl ?_
        show Steps p.tables e below (T74.setTop (mkF m 186 #[It p1, It p2, It p3, It u1, It v8_t0, It v14_t0, It v20_t0, Rf b21, Rf v49_l8, Rf r_53, Rf wO, Rf wMap, .unset, .unset] [(.ref b74), (.ref b74), (.ref sa71), (.ref sa68), (.ref sa65), (.int v14_t0), (.ref wO), (.ref r_53), (.ref sa62), (.ref b59), (.ref b59)])) _
        refine st77.trans ?_
        show Steps p.tables e below (T77.setTop (mkF m 189 #[It p1, It p2, It p3, It u1, It v8_t0, It v14_t0, It v20_t0, Rf b21, Rf v49_l8, Rf r_53, Rf wO, Rf wMap, .unset, .unset] [(.ref b74), (.ref sa71), (.ref sa68), (.ref sa65), (.int v14_t0), (.ref wO), (.ref r_53), (.ref sa62), (.ref b59), (.ref b59)])) _
        refine XS.aload X77.here hx rfl (hb hby at_189) rfl rfl ?_
        show Steps p.tables e below (T77.setTop (mkF m 191 #[It p1, It p2, It p3, It u1, It v8_t0, It v14_t0, It v20_t0, Rf b21, Rf v49_l8, Rf r_53, Rf wO, Rf wMap, .unset, .unset] [(.ref wMap), (.ref b74), (.ref sa71), (.ref sa68), (.ref sa65), (.int v14_t0), (.ref wO), (.ref r_53), (.ref sa62), (.ref b59), (.ref b59)])) _
        refine st79 _ ?_
        show Steps p.tables e below (T79.setTop (mkF m 194 #[It p1, It p2, It p3, It u1, It v8_t0, It v14_t0, It v20_t0, Rf b21, Rf v49_l8, Rf r_53, Rf wO, Rf wMap, .unset, .unset] [(.ref wO), (.ref wMap), (.ref b74), (.ref sa71), (.ref sa68), (.ref sa65), (.int v14_t0), (.ref wO), (.ref r_53), (.ref sa62), (.ref b59), (.ref b59)])) _
        refine st80.trans ?_
        show Steps p.tables e below (T80.setTop (mkF m 197 #[It p1, It p2, It p3, It u1, It v8_t0, It v14_t0, It v20_t0, Rf b21, Rf v49_l8, Rf r_53, Rf wO, Rf wMap, .unset, .unset] [(.ref b59)])) _
        refine XS.astore X80.here hx rfl (hb hby at_197) rfl rfl (l' := #[It p1, It p2, It p3, It u1, It v8_t0, It v14_t0, It v20_t0, Rf b21, Rf v49_l8, Rf r_53, Rf wO, Rf wMap, Rf b59, .unset]) rfl ?_
        show Steps p.tables e below (T80.setTop (mkF m 199 #[It p1, It p2, It p3, It u1, It v8_t0, It v14_t0, It v20_t0, Rf b21, Rf v49_l8, Rf r_53, Rf wO, Rf wMap, Rf b59, .unset] [])) _
        refine XS.aload X80.here hx rfl (hb hby at_199) rfl rfl ?_
        show Steps p.tables e below (T80.setTop (mkF m 201 #[It p1, It p2, It p3, It u1, It v8_t0, It v14_t0, It v20_t0, Rf b21, Rf v49_l8, Rf r_53, Rf wO, Rf wMap, Rf b59, .unset] [(.ref b59)])) _
        refine st82.trans ?_
        show Steps p.tables e below (T82.setTop (mkF m 204 #[It p1, It p2, It p3, It u1, It v8_t0, It v14_t0, It v20_t0, Rf b21, Rf v49_l8, Rf r_53, Rf wO, Rf wMap, Rf b59, .unset] [(.ref wO)])) _
        refine XS.astore X82.here hx rfl (hb hby at_204) rfl rfl (l' := #[It p1, It p2, It p3, It u1, It v8_t0, It v14_t0, It v20_t0, Rf b21, Rf v49_l8, Rf r_53, Rf wO, Rf wMap, Rf b59, Rf wO]) rfl ?_
        show Steps p.tables e below (T82.setTop (mkF m 206 #[It p1, It p2, It p3, It u1, It v8_t0, It v14_t0, It v20_t0, Rf b21, Rf v49_l8, Rf r_53, Rf wO, Rf wMap, Rf b59, Rf wO] [])) _
        refine XS.iload X82.here hx rfl (hb hby at_206) rfl ?_
        show Steps p.tables e below (T82.setTop (mkF m 208 #[It p1, It p2, It p3, It u1, It v8_t0, It v14_t0, It v20_t0, Rf b21, Rf v49_l8, Rf r_53, Rf wO, Rf wMap, Rf b59, Rf wO] [(.int v8_t0)])) _
        refine XS.ifYes X82.here hx rfl (pc0 := 208) (pc' := 246) rfl (hb hby at_208) rfl ((if0 _ _).trans (teq hc56).1) (by decide) (by decide) ?_
        show Steps p.tables e below (T82.setTop (mkF m 246 #[It p1, It p2, It p3, It u1, It v8_t0, It v14_t0, It v20_t0, Rf b21, Rf v49_l8, Rf r_53, Rf wO, Rf wMap, Rf b59, Rf wO] [])) _
        refine XS.iload X82.here hx rfl (hb hby at_246) rfl ?_
        show Steps p.tables e below (T82.setTop (mkF m 248 #[It p1, It p2, It p3, It u1, It v8_t0, It v14_t0, It v20_t0, Rf b21, Rf v49_l8, Rf r_53, Rf wO, Rf wMap, Rf b59, Rf wO] [(.int v8_t0)])) _
        refine XS.ifYes X82.here hx rfl (pc0 := 248) (pc' := 286) rfl (hb hby at_248) rfl ((if0 _ _).trans (teq hc56).1) (by decide) (by decide) ?_
        show Steps p.tables e below (T82.setTop (mkF m 286 #[It p1, It p2, It p3, It u1, It v8_t0, It v14_t0, It v20_t0, Rf b21, Rf v49_l8, Rf r_53, Rf wO, Rf wMap, Rf b59, Rf wO] [])) _
        refine XS.aload X82.here hx rfl (hb hby at_286) rfl rfl ?_
        show Steps p.tables e below (T82.setTop (mkF m 288 #[It p1, It p2, It p3, It u1, It v8_t0, It v14_t0, It v20_t0, Rf b21, Rf v49_l8, Rf r_53, Rf wO, Rf wMap, Rf b59, Rf wO] [(.ref wO)])) _
        refine st83.trans ?_
        exact kt
      obtain ⟨fs, hr, hrun, hended, hRW⟩ := X83.leaveW Y80 (show _ ≤ T83.heap.size by rw [e83]; exact (Nat.le_refl _)) (v := some (.int (1 : Int32))) (fun h => by rw [Bd.returns] at h; cases h)
      refine ⟨_, _, pre0 _ (sg2 _ (sg3 _ (sg8 _ (sg9 _ (sg14 _ (sg15 _ (sg20 _ (sg25 _ (sg31 _ (sg36 _ (sg49 _ (sg50 _ (sg55 _ (sg84 _ (?_))))))))))))))), hrun, hended, _, _, rfl, ?_, (by rw [hh]; show CHr Z own_EL s.vm h0 T83.vm T83.heap; rw [e83]; exact CR81.trans (CHv.at X83 hZ80 hEL CR81.1)), hRW.1, hRW.2.1, hRW.2.2.1, hRW.2.2.2.mono (by decide) (by decide)⟩
      · show Steps p.tables e below (T83.setTop (mkF m 291 #[It p1, It p2, It p3, It u1, It v8_t0, It v14_t0, It v20_t0, Rf b21, Rf v49_l8, Rf r_53, Rf wO, Rf wMap, Rf b59, Rf wO] [(.int (1 : Int32))])) _
        exact retN X83 hx (t := .boolean) Bd.returns (by simp) (hb hby at_291) hr
      · show Q0 Z p1 p2 p3 s_w1 t_w1 kb_w1 s_w2 t_w2 kb_w2 zC wO wD wMap w1 w2 h0 n0 _ T83.heap _
        rw [e83]
        exact ⟨rfl, N83, K80, O80⟩
    · obtain ⟨_, _, ⟨T85, L85, k85, n85⟩, -, X85, ⟨Lc85, hQ85, l85, y85, z85⟩, st85⟩ := Jvm.LawKit.callS X53 hx (y := (⟨"java/util/Optional", "of", "(Ljava/lang/Object;)Ljava/util/Optional;"⟩ : MethodName)) hown49 (mvT hZ49 (tw hw 193 rfl)) (mvT hZ49 (tw hw 194 rfl)) (mvT hZ49 (tw hw 29 rfl)) (mvT hZ49 (tw hw 195 rfl)) (by decide) (backOf (W := 0) (rm23 l Z a0 hw [] v49_l8 T53.heap n0 O53 ) hZ49 (tw hw 195 rfl) (tw hw 29 rfl) (by decide) (by decide)) (g := (mkF m 146 #[It p1, It p2, It p3, It u1, It v8_t0, It v14_t0, It v20_t0, Rf b21, Rf v49_l8, Rf r_53, .unset, .unset, .unset, .unset] [(.ref v49_l8)])) rfl (by rw [hml]; rfl) (argsL := [(.ref v49_l8)]) (rest := []) (lenOf pd_13 rfl) rfl (by show 2 * 0 + _ ≤ _; exact Nat.le_of_eq rfl) (hb hby at_146) (fun _ _ => ⟨rfl, rfl, (by decide : 4 + 1 ≤ _), (by decide : 9 + 1 ≤ _)⟩)
      dsimp only [Pt.U, Pt.locs, Pt.cells, Pt.slots] at X85 l85 y85 z85 st85 hQ85
      subst l85 y85 z85
      obtain ⟨r_85, rfl, N85q, K85q, O85, f85_0, f85_1, f85_2, f85_3⟩ := hQ85
      have N85 := Fr.app N53 N85q
      have CR86 := CR54.trans (CHr.keep K85q all0 CR54.1)
      have K85 := K53.trans K85q all0
      obtain ⟨_, _, ⟨T87, L87, k87, n87⟩, -, X87, ⟨Lc87, hQ87, l87, y87, z87⟩, st87⟩ := Jvm.LawKit.callS X85 hx (y := (⟨"java/util/Map", "of", "()Ljava/util/Map;"⟩ : MethodName)) hown49 (mvT hZ49 (tw hw 32 rfl)) (mvT hZ49 (tw hw 33 rfl)) (mvT hZ49 (tw hw 34 rfl)) (mvT hZ49 (tw hw 35 rfl)) (by decide) (backOf (W := 0) (rm7 l Z a0 hw [] wMap T85.heap n0 O85 S_EMPTY_MAP) hZ49 (tw hw 35 rfl) (tw hw 34 rfl) (by decide) (by decide)) (g := (mkF m 159 #[It p1, It p2, It p3, It u1, It v8_t0, It v14_t0, It v20_t0, Rf b21, Rf v49_l8, Rf r_53, Rf r_85, .unset, .unset, .unset] [])) rfl (by rw [hml]; rfl) (argsL := []) (rest := []) (lenOf pd_16 rfl) rfl (by show 2 * 0 + _ ≤ _; exact Nat.le_of_eq rfl) (hb hby at_159) (fun _ _ => ⟨rfl, rfl, (by decide : 5 + 0 ≤ _), (by decide : 10 + 0 ≤ _)⟩)
      dsimp only [Pt.U, Pt.locs, Pt.cells, Pt.slots] at X87 l87 y87 z87 st87 hQ87
      subst l87 y87 z87
      obtain ⟨rfl, N87q, e87⟩ := hQ87
      have N87 := Fr.app N85 N87q
      obtain ⟨T88, h88, X88, e88, E88, A88, D88, -, st88⟩ := newO X87 hx hZ49 hown49 (tw hw 38 rfl) (tw hw 39 rfl) (tw hw 40 rfl) e87 (g := (mkF m 164 #[It p1, It p2, It p3, It u1, It v8_t0, It v14_t0, It v20_t0, Rf b21, Rf v49_l8, Rf r_53, Rf r_85, Rf wMap, .unset, .unset] [])) rfl (hb hby at_164) (by decide) (by decide)
      obtain ⟨b88, g88⟩ : ∃ z, z = T85.heap.size := ⟨_, rfl⟩
      rw [← g88] at A88 D88 st88
      have ge_b88 : n0 ≤ b88 := Nat.le_trans (own_osz O85) (Nat.le_of_eq g88.symm)
      have sz_b88 : h0.size ≤ b88 := Nat.le_trans K85.1 (Nat.le_of_eq g88.symm)
      have O89 := O85.ext E88
      have K88 := K85.ext E88
      have CR90 := CR86.trans (CHr.ext E88 CR86.1)
      have F_fields_b88 : Fld Z h88 b88 "com/example/legacy_to_latest/legacytolatest/EntityClass" "fields" "Ljava/util/Map;" .null := D88 (Or.inr (tw hw 101 rfl)) (ty := (.object "java/util/Map")) (by decide)
      have F_kind_b88 : Fld Z h88 b88 "com/example/legacy_to_latest/legacytolatest/EntityClass" "kind" "Ljava/lang/String;" .null := D88 (Or.inr (tw hw 109 rfl)) (ty := (.object "java/lang/String")) (by decide)
      have F_morphia_b88 : Fld Z h88 b88 "com/example/legacy_to_latest/legacytolatest/EntityClass" "morphia" "Lcom/example/legacy_to_latest/legacytolatest/EntityClass$Morphia;" .null := D88 (Or.inr (tw hw 118 rfl)) (ty := (.object "com/example/legacy_to_latest/legacytolatest/EntityClass$Morphia")) (by decide)
      have F_discriminator_b88 : Fld Z h88 b88 "com/example/legacy_to_latest/legacytolatest/EntityClass" "discriminator" "Ljava/lang/String;" .null := D88 (Or.inr (tw hw 120 rfl)) (ty := (.object "java/lang/String")) (by decide)
      have F_abstractClass_b88 : Fld Z h88 b88 "com/example/legacy_to_latest/legacytolatest/EntityClass" "abstractClass" "Z" (.int (0 : Int32)) := D88 (Or.inr (tw hw 122 rfl)) (ty := .boolean) (by decide)
      have F_className_b88 : Fld Z h88 b88 "com/example/legacy_to_latest/legacytolatest/EntityClass" "className" "Ljava/lang/String;" .null := D88 (Or.inr (tw hw 125 rfl)) (ty := (.object "java/lang/String")) (by decide)
      have F_binaryName_b88 : Fld Z h88 b88 "com/example/legacy_to_latest/legacytolatest/EntityClass" "binaryName" "Ljava/lang/String;" .null := D88 (Or.inr (tw hw 128 rfl)) (ty := (.object "java/lang/String")) (by decide)
      have F_source_b88 : Fld Z h88 b88 "com/example/legacy_to_latest/legacytolatest/EntityClass" "source" "Ljava/lang/String;" .null := D88 (Or.inr (tw hw 131 rfl)) (ty := (.object "java/lang/String")) (by decide)
      have F_keyParts_b88 : Fld Z h88 b88 "com/example/legacy_to_latest/legacytolatest/EntityClass" "keyParts" "Ljava/util/Map;" .null := D88 (Or.inr (tw hw 176 rfl)) (ty := (.object "java/util/Map")) (by decide)
      have F_unreadSuperclass_b88 : Fld Z h88 b88 "com/example/legacy_to_latest/legacytolatest/EntityClass" "unreadSuperclass" "Ljava/lang/String;" .null := D88 (Or.inr (tw hw 178 rfl)) (ty := (.object "java/lang/String")) (by decide)
      obtain ⟨sa91, T91, h91, k91, sb91, kb91, X91, e91, E91, Y91, Yk91, hZ91, hown91, A91, Fc91, Fv91, V91, la91, lb91, C91, Lt91, SF91, st91⟩ := ldcCH X88 hx hZ49 hown49 (tw hw 41 rfl) hSA e88 Y49 (Nat.le_trans (Nat.le_trans (Nat.le_trans Yk49 K53q.1) K85q.1) E88.1) hEL (own_mem (by decide)) CR90.1 (vs := [(.int (107 : Int32))]) (z := (1 : Int32)) (by decide) (by decide) (by decide) (g := (mkF m 168 #[It p1, It p2, It p3, It u1, It v8_t0, It v14_t0, It v20_t0, Rf b21, Rf v49_l8, Rf r_53, Rf r_85, Rf wMap, .unset, .unset] [(.ref b88), (.ref b88)])) rfl (hb hby at_168) (n := 4) (by decide) (by decide) (by decide) (by decide)
      have O92 := O89.ext E91
      have K91 := K88.ext E91
      have CR93 := CR90.trans (C91)
      obtain ⟨sa94, T94, h94, k94, sb94, kb94, X94, e94, E94, Y94, Yk94, hZ94, hown94, A94, Fc94, Fv94, V94, la94, lb94, C94, Lt94, SF94, st94⟩ := ldcCH X91 hx hZ91 hown91 (tw hw 44 rfl) hSA e91 Y91 Yk91 hEL (own_mem (by decide)) CR93.1 (vs := [(.int (67 : Int32))]) (z := (1 : Int32)) (by decide) (by decide) (by decide) (g := (mkF m 176 #[It p1, It p2, It p3, It u1, It v8_t0, It v14_t0, It v20_t0, Rf b21, Rf v49_l8, Rf r_53, Rf r_85, Rf wMap, .unset, .unset] [(.int v14_t0), (.ref r_85), (.ref r_53), (.ref sa91), (.ref b88), (.ref b88)])) rfl (hb hby at_176) (n := 4) (by decide) (by decide) (by decide) (by decide)
      have O95 := O92.ext E94
      have K94 := K91.ext E94
      have CR96 := CR93.trans (C94)
      obtain ⟨sa97, T97, h97, k97, sb97, kb97, X97, e97, E97, Y97, Yk97, hZ97, hown97, A97, Fc97, Fv97, V97, la97, lb97, C97, Lt97, SF97, st97⟩ := ldcCH X94 hx hZ94 hown94 (tw hw 44 rfl) hSA e94 Y94 Yk94 hEL (own_mem (by decide)) CR96.1 (vs := [(.int (67 : Int32))]) (z := (1 : Int32)) (by decide) (by decide) (by decide) (g := (mkF m 178 #[It p1, It p2, It p3, It u1, It v8_t0, It v14_t0, It v20_t0, Rf b21, Rf v49_l8, Rf r_53, Rf r_85, Rf wMap, .unset, .unset] [(.ref sa94), (.int v14_t0), (.ref r_85), (.ref r_53), (.ref sa91), (.ref b88), (.ref b88)])) rfl (hb hby at_178) (n := 4) (by decide) (by decide) (by decide) (by decide)
      have O98 := O95.ext E97
      have K97 := K94.ext E97
      have CR99 := CR96.trans (C97)
      obtain ⟨sa100, T100, h100, k100, sb100, kb100, X100, e100, E100, Y100, Yk100, hZ100, hown100, A100, Fc100, Fv100, V100, la100, lb100, C100, Lt100, SF100, st100⟩ := ldcCH X97 hx hZ97 hown97 (tw hw 45 rfl) hSA e97 Y97 Yk97 hEL (own_mem (by decide)) CR99.1 (vs := [(.int (67 : Int32)), (.int (46 : Int32)), (.int (106 : Int32)), (.int (97 : Int32)), (.int (118 : Int32)), (.int (97 : Int32))]) (z := (6 : Int32)) (by decide) (by decide) (by decide) (g := (mkF m 180 #[It p1, It p2, It p3, It u1, It v8_t0, It v14_t0, It v20_t0, Rf b21, Rf v49_l8, Rf r_53, Rf r_85, Rf wMap, .unset, .unset] [(.ref sa97), (.ref sa94), (.int v14_t0), (.ref r_85), (.ref r_53), (.ref sa91), (.ref b88), (.ref b88)])) rfl (hb hby at_180) (n := 24) (by decide) (by decide) (by decide) (by decide)
      have O101 := O98.ext E100
      have K100 := K97.ext E100
      have CR102 := CR99.trans (C100)
      obtain ⟨T103, h103, X103, e103, E103, A103, D103, -, st103⟩ := newO X100 hx hZ100 hown100 (tw hw 46 rfl) (tw hw 47 rfl) (tw hw 48 rfl) e100 (g := (mkF m 182 #[It p1, It p2, It p3, It u1, It v8_t0, It v14_t0, It v20_t0, Rf b21, Rf v49_l8, Rf r_53, Rf r_85, Rf wMap, .unset, .unset] [(.ref sa100), (.ref sa97), (.ref sa94), (.int v14_t0), (.ref r_85), (.ref r_53), (.ref sa91), (.ref b88), (.ref b88)])) rfl (hb hby at_182) (by decide) (by decide)
      obtain ⟨b103, g103⟩ : ∃ z, z = h100.size := ⟨_, rfl⟩
      rw [← g103] at A103 D103 st103
      have ge_b103 : n0 ≤ b103 := Nat.le_trans (own_osz O101) (Nat.le_of_eq g103.symm)
      have sz_b103 : h0.size ≤ b103 := Nat.le_trans K100.1 (Nat.le_of_eq g103.symm)
      have O104 := O101.ext E103
      have K103 := K100.ext E103
      have CR105 := CR102.trans (CHr.ext E103 CR102.1)
      have F_modCount_b103 : Fld Z h103 b103 "java/util/AbstractList" "modCount" "I" (.int (0 : Int32)) := D103 (Or.inl (tw hw 66 rfl)) (ty := .int) (by decide)
      have F_elementData_b103 : Fld Z h103 b103 "java/util/ArrayList" "elementData" "[Ljava/lang/Object;" .null := D103 (Or.inl (tw hw 69 rfl)) (ty := (.array (.object "java/lang/Object"))) (by decide)
      have F_size_b103 : Fld Z h103 b103 "java/util/ArrayList" "size" "I" (.int (0 : Int32)) := D103 (Or.inl (tw hw 169 rfl)) (ty := .int) (by decide)
      obtain ⟨_, _, ⟨T106, L106, k106, n106⟩, -, X106, ⟨Lc106, hQ106, l106, y106, z106⟩, st106⟩ := X103.specialBack hx (y := (⟨"java/util/ArrayList", "<init>", "()V"⟩ : MethodName)) rfl hown100 (mvT hZ100 (tw hw 49 rfl)) (mvT hZ100 (tw hw 50 rfl)) (mvT hZ100 (tw hw 51 rfl)) (by decide) (backOf (W := 10) (rm8 l Z a0 hw [] b103 wD h103 n0 O104 S_DEFAULTCAPACITY_EMPTY_ELEMENTDATA A103 F_modCount_b103 F_elementData_b103 F_size_b103 ge_b103) hZ100 (tw hw 51 rfl) (tw hw 48 rfl) (by decide) (by decide)) (g := (mkF m 186 #[It p1, It p2, It p3, It u1, It v8_t0, It v14_t0, It v20_t0, Rf b21, Rf v49_l8, Rf r_53, Rf r_85, Rf wMap, .unset, .unset] [(.ref b103), (.ref b103), (.ref sa100), (.ref sa97), (.ref sa94), (.int v14_t0), (.ref r_85), (.ref r_53), (.ref sa91), (.ref b88), (.ref b88)])) rfl (by rw [hml]; rfl) (Steps.refl _) (a := b103) (argsL := []) (rest := [(.ref b103), (.ref sa100), (.ref sa97), (.ref sa94), (.int v14_t0), (.ref r_85), (.ref r_53), (.ref sa91), (.ref b88), (.ref b88)]) (lenOf pd_5 rfl) rfl (by show 2 * 0 + _ ≤ _; exact Nat.le_of_eq rfl) (hb hby at_186) (fun _ _ => ⟨rfl, e103, (by decide : 15 + 0 ≤ _), (by decide : 75 + 0 ≤ _)⟩)
      dsimp only [Pt.U, Pt.locs, Pt.cells, Pt.slots] at X106 l106 y106 z106 st106 hQ106
      subst l106 y106 z106
      obtain ⟨rfl, N106q, K106q, O106, f106_0, f106_1⟩ := hQ106
      have N106 := Fr.app N87 N106q
      have CR107 := CR105.trans (CHr.keep K106q (allS (Safe.exa hZ100.alike A103 (by decide) (by decide)) all0) CR105.1)
      have K106 := K103.trans K106q (allS (Or.inr sz_b103) all0)
      obtain ⟨_, _, ⟨T108, L108, k108, n108⟩, -, X108, ⟨Lc108, hQ108, l108, y108, z108⟩, st108⟩ := Jvm.LawKit.callS X106 hx (y := (⟨"java/util/Optional", "empty", "()Ljava/util/Optional;"⟩ : MethodName)) hown100 (mvT hZ100 (tw hw 27 rfl)) (mvT hZ100 (tw hw 28 rfl)) (mvT hZ100 (tw hw 29 rfl)) (mvT hZ100 (tw hw 30 rfl)) (by decide) (backOf (W := 11) (rm6 l Z a0 hw [] wO T106.heap n0 O106 S_EMPTY) hZ100 (tw hw 30 rfl) (tw hw 29 rfl) (by decide) (by decide)) (g := (mkF m 191 #[It p1, It p2, It p3, It u1, It v8_t0, It v14_t0, It v20_t0, Rf b21, Rf v49_l8, Rf r_53, Rf r_85, Rf wMap, .unset, .unset] [(.ref wMap), (.ref b103), (.ref sa100), (.ref sa97), (.ref sa94), (.int v14_t0), (.ref r_85), (.ref r_53), (.ref sa91), (.ref b88), (.ref b88)])) rfl (by rw [hml]; rfl) (argsL := []) (rest := [(.ref wMap), (.ref b103), (.ref sa100), (.ref sa97), (.ref sa94), (.int v14_t0), (.ref r_85), (.ref r_53), (.ref sa91), (.ref b88), (.ref b88)]) (lenOf pd_11 rfl) rfl (by show 2 * 0 + _ ≤ _; exact Nat.le_of_eq rfl) (hb hby at_191) (fun _ _ => ⟨rfl, rfl, (by decide : 15 + 0 ≤ _), (by decide : 75 + 0 ≤ _)⟩)
      dsimp only [Pt.U, Pt.locs, Pt.cells, Pt.slots] at X108 l108 y108 z108 st108 hQ108
      subst l108 y108 z108
      obtain ⟨rfl, N108q, e108⟩ := hQ108
      have N108 := Fr.app N106 N108q
      obtain ⟨_, _, ⟨T109, L109, k109, n109⟩, -, X109, Y109, G109, ⟨Lc109, hQ109, l109, y109, z109, C109⟩, st109⟩ := X108.specialBackS hx (y := (⟨"com/example/legacy_to_latest/legacytolatest/EntityClass", "<init>", "(Ljava/lang/String;Ljava/util/Optional;Ljava/util/Optional;ZLjava/lang/String;Ljava/lang/String;Ljava/lang/String;Ljava/util/List;Ljava/util/Map;Ljava/util/Optional;)V"⟩ : MethodName)) rfl hown100 (mvT hZ100 (tw hw 70 rfl)) (mvT hZ100 (tw hw 71 rfl)) (mvT hZ100 (tw hw 72 rfl)) (by decide) (backOfSH (W := 1) (rm11_11 l Z a0 hw [] b88 sa91 r_53 r_85 v14_t0 sa94 sa97 sa100 b103 wMap wO w1 v49_l8 T106.heap n0 O106 ((((((A88.ext E91).ext E94).ext E97).ext E100).ext E103).keep K106q) ((((((F_fields_b88.ext E91).ext E94).ext E97).ext E100).ext E103).keep K106q (ninS (Nat.ne_of_lt (Nat.lt_of_lt_of_le ((((A88.ext E91).ext E94).ext E97).ext E100).lt (Nat.le_of_eq g103.symm))) nin0)) ((((((F_kind_b88.ext E91).ext E94).ext E97).ext E100).ext E103).keep K106q (ninS (Nat.ne_of_lt (Nat.lt_of_lt_of_le ((((A88.ext E91).ext E94).ext E97).ext E100).lt (Nat.le_of_eq g103.symm))) nin0)) ((((((F_morphia_b88.ext E91).ext E94).ext E97).ext E100).ext E103).keep K106q (ninS (Nat.ne_of_lt (Nat.lt_of_lt_of_le ((((A88.ext E91).ext E94).ext E97).ext E100).lt (Nat.le_of_eq g103.symm))) nin0)) ((((((F_discriminator_b88.ext E91).ext E94).ext E97).ext E100).ext E103).keep K106q (ninS (Nat.ne_of_lt (Nat.lt_of_lt_of_le ((((A88.ext E91).ext E94).ext E97).ext E100).lt (Nat.le_of_eq g103.symm))) nin0)) ((((((F_abstractClass_b88.ext E91).ext E94).ext E97).ext E100).ext E103).keep K106q (ninS (Nat.ne_of_lt (Nat.lt_of_lt_of_le ((((A88.ext E91).ext E94).ext E97).ext E100).lt (Nat.le_of_eq g103.symm))) nin0)) ((((((F_className_b88.ext E91).ext E94).ext E97).ext E100).ext E103).keep K106q (ninS (Nat.ne_of_lt (Nat.lt_of_lt_of_le ((((A88.ext E91).ext E94).ext E97).ext E100).lt (Nat.le_of_eq g103.symm))) nin0)) ((((((F_binaryName_b88.ext E91).ext E94).ext E97).ext E100).ext E103).keep K106q (ninS (Nat.ne_of_lt (Nat.lt_of_lt_of_le ((((A88.ext E91).ext E94).ext E97).ext E100).lt (Nat.le_of_eq g103.symm))) nin0)) ((((((F_source_b88.ext E91).ext E94).ext E97).ext E100).ext E103).keep K106q (ninS (Nat.ne_of_lt (Nat.lt_of_lt_of_le ((((A88.ext E91).ext E94).ext E97).ext E100).lt (Nat.le_of_eq g103.symm))) nin0)) ((((((F_keyParts_b88.ext E91).ext E94).ext E97).ext E100).ext E103).keep K106q (ninS (Nat.ne_of_lt (Nat.lt_of_lt_of_le ((((A88.ext E91).ext E94).ext E97).ext E100).lt (Nat.le_of_eq g103.symm))) nin0)) ((((((F_unreadSuperclass_b88.ext E91).ext E94).ext E97).ext E100).ext E103).keep K106q (ninS (Nat.ne_of_lt (Nat.lt_of_lt_of_le ((((A88.ext E91).ext E94).ext E97).ext E100).lt (Nat.le_of_eq g103.symm))) nin0)) ge_b88 (((((A91.ext E94).ext E97).ext E100).ext E103).keep K106q) ((((A94.ext E97).ext E100).ext E103).keep K106q) (((A97.ext E100).ext E103).keep K106q) ((A100.ext E103).keep K106q) ((((((((f53_2.keep K85q).ext E88).ext E91).ext E94).ext E97).ext E100).ext E103).keep K106q) ((((((((f53_3.keep K85q nin0).ext E88).ext E91).ext E94).ext E97).ext E100).ext E103).keep K106q (ninS (Nat.ne_of_lt (Nat.lt_of_lt_of_le ((((((f53_2.keep K85q).ext E88).ext E91).ext E94).ext E97).ext E100).lt (Nat.le_of_eq g103.symm))) nin0)) (((((((f85_2.ext E88).ext E91).ext E94).ext E97).ext E100).ext E103).keep K106q) (((((((f85_3.ext E88).ext E91).ext E94).ext E97).ext E100).ext E103).keep K106q (ninS (Nat.ne_of_lt (Nat.lt_of_lt_of_le (((((f85_2.ext E88).ext E91).ext E94).ext E97).ext E100).lt (Nat.le_of_eq g103.symm))) nin0)) ((((((((((((((hX_wO.ext O0.2).ext E21).wr W27).wr W33).keep K49).keep K53q).keep K85q).ext E88).ext E91).ext E94).ext E97).ext E100).ext E103).keep K106q) ((((((((((((((hF_wO.ext O0.2).ext E21).other W27 (Or.inl (Nat.ne_of_lt (Nat.lt_of_lt_of_le (hX_wO.ext O0.2).lt (Nat.le_of_eq g21.symm))))).other W33 (Or.inl (Nat.ne_of_lt (Nat.lt_of_lt_of_le (hX_wO.ext O0.2).lt (Nat.le_of_eq g21.symm))))).keep K49 nin0).keep K53q nin0).keep K85q nin0).ext E88).ext E91).ext E94).ext E97).ext E100).ext E103).keep K106q (ninS (Nat.ne_of_lt (Nat.lt_of_lt_of_le ((((((((((((hX_wO.ext O0.2).ext E21).wr W27).wr W33).keep K49).keep K53q).keep K85q).ext E88).ext E91).ext E94).ext E97).ext E100).lt (Nat.le_of_eq g103.symm))) nin0)) (A103.keep K106q) f106_0 f106_1 ((((((((((((((hX_wMap.ext O0.2).ext E21).wr W27).wr W33).keep K49).keep K53q).keep K85q).ext E88).ext E91).ext E94).ext E97).ext E100).ext E103).keep K106q) ((((((((((((((hX_w1.ext O0.2).ext E21).wr W27).wr W33).keep K49).keep K53q).keep K85q).ext E88).ext E91).ext E94).ext E97).ext E100).ext E103).keep K106q) (((((((((E_v49_l8.keep K53q).keep K85q).ext E88).ext E91).ext E94).ext E97).ext E100).ext E103).keep K106q)) hZ100 (tw hw 72 rfl) (tw hw 40 rfl) (by decide) (by decide) hEL CR107.1) (g := (mkF m 194 #[It p1, It p2, It p3, It u1, It v8_t0, It v14_t0, It v20_t0, Rf b21, Rf v49_l8, Rf r_53, Rf r_85, Rf wMap, .unset, .unset] [(.ref wO), (.ref wMap), (.ref b103), (.ref sa100), (.ref sa97), (.ref sa94), (.int v14_t0), (.ref r_85), (.ref r_53), (.ref sa91), (.ref b88), (.ref b88)])) rfl (by rw [hml]; rfl) (Steps.refl _) (a := b88) (argsL := [(.ref sa91), (.ref r_53), (.ref r_85), (.int v14_t0), (.ref sa94), (.ref sa97), (.ref sa100), (.ref b103), (.ref wMap), (.ref wO)]) (rest := [(.ref b88)]) (lenOf pd_17 rfl) rfl (by show 2 * 0 + _ ≤ _; exact Nat.le_of_eq rfl) (hb hby at_194) (fun _ _ => ⟨rfl, e108, (by decide : 15 + 10 ≤ _), (by decide : 75 + 148 ≤ _)⟩)
      dsimp only [Pt.U, Pt.locs, Pt.cells, Pt.slots] at X109 l109 y109 z109 st109 hQ109 Y109 G109 C109
      subst l109 y109 z109
      obtain ⟨rfl, N109q, K109q, O109, f109_0, f109_1⟩ := hQ109
      have N109 := Fr.app N108 N109q
      obtain ⟨X109, Y109, hZ109, hown109⟩ := rebS Y100 (by rw [e108]; exact (Nat.le_trans (Nat.le_trans Yk100 E103.1) K106q.1)) X109 Y109 G109 hZ100 hown100
      have CR110 := CR107.trans (C109)
      have K109 := K106.trans K109q (allS (Or.inr sz_b88) all0)
      obtain ⟨cq111, kq111, q111a, q111b, q111c⟩ := isOf hZ109 rfl (((((((A88.ext E91).ext E94).ext E97).ext E100).ext E103).keep K106q).keep K109q)
      obtain ⟨_, _, ⟨T111, L111, k111, n111⟩, -, X111, ⟨Lc111, hQ111, l111, y111, z111⟩, st111⟩ := X109.virtualBack hx (y := (⟨"com/example/legacy_to_latest/legacytolatest/EntityClass", "getDiscriminatorKey", "()Ljava/util/Optional;"⟩ : MethodName)) (z := (⟨"com/example/legacy_to_latest/legacytolatest/EntityClass", "getDiscriminatorKey", "()Ljava/util/Optional;"⟩ : MethodName)) hown109 (mvT hZ109 (tw hw 179 rfl)) (mvT hZ109 (tw hw 180 rfl)) (notFace_of_selects (args := #[]) (mvT hZ109 (tw hw 182 rfl))) (mvT hZ109 (tw hw 182 rfl)) (mvT hZ109 (tw hw 181 rfl)) (by decide) (backOf (W := 0) (rm21_2 l Z a0 hw [] b88 v49_l8 w1 s_w1 wO T109.heap n0 O109 S_EMPTY f109_1 f109_0 (((((((((((((((hX_w1.ext O0.2).ext E21).wr W27).wr W33).keep K49).keep K53q).keep K85q).ext E88).ext E91).ext E94).ext E97).ext E100).ext E103).keep K106q).keep K109q) (((((((((((((((hP_w1.ext O0.2).ext E21).other W27 (Or.inl (Nat.ne_of_lt (Nat.lt_of_lt_of_le (hX_w1.ext O0.2).lt (Nat.le_of_eq g21.symm))))).other W33 (Or.inl (Nat.ne_of_lt (Nat.lt_of_lt_of_le (hX_w1.ext O0.2).lt (Nat.le_of_eq g21.symm))))).keep K49 nin0).keep K53q nin0).keep K85q nin0).ext E88).ext E91).ext E94).ext E97).ext E100).ext E103).keep K106q (ninS (Nat.ne_of_lt (Nat.lt_of_lt_of_le ((((((((((((hX_w1.ext O0.2).ext E21).wr W27).wr W33).keep K49).keep K53q).keep K85q).ext E88).ext E91).ext E94).ext E97).ext E100).lt (Nat.le_of_eq g103.symm))) nin0)).keep K109q (ninS (Nat.ne_of_lt (Nat.lt_of_lt_of_le (((((((hX_w1.ext O0.2).ext E21).wr W27).wr W33).keep K49).keep K53q).keep K85q).lt (Nat.le_of_eq g88.symm))) nin0))) hZ109 (tw hw 183 rfl) (tw hw 40 rfl) (by decide) (by decide)) q111a q111c (g := (mkF m 201 #[It p1, It p2, It p3, It u1, It v8_t0, It v14_t0, It v20_t0, Rf b21, Rf v49_l8, Rf r_53, Rf r_85, Rf wMap, Rf b88, .unset] [(.ref b88)])) rfl (by rw [hml]; rfl) (Steps.refl _) (argsL := []) (rest := []) (lenOf pd_11 rfl) rfl (by show 2 * 0 + _ ≤ _; exact Nat.le_of_eq rfl) (hb hby at_201) (fun _ _ => ⟨rfl, rfl, (by decide : 25 + 1 ≤ _), (by decide : 223 + 1 ≤ _)⟩)
      dsimp only [Pt.U, Pt.locs, Pt.cells, Pt.slots] at X111 l111 y111 z111 st111 hQ111
      subst l111 y111 z111
      obtain ⟨r_111, rfl, N111q, K111q, O111, f111_0, f111_1, f111_2, f111_3⟩ := hQ111
      have N111 := Fr.app N109 N111q
      have CR112 := CR110.trans (CHr.keep K111q all0 CR110.1)
      have K111 := K109.trans K111q all0
      obtain ⟨cq113, kq113, q113a, q113b, q113c⟩ := isOf hZ109 rfl f111_2
      obtain ⟨_, _, ⟨T113, L113, k113, n113⟩, -, X113, ⟨Lc113, hQ113, l113, y113, z113⟩, st113⟩ := X111.virtualBack hx (y := (⟨"java/util/Optional", "isPresent", "()Z"⟩ : MethodName)) (z := (⟨"java/util/Optional", "isPresent", "()Z"⟩ : MethodName)) hown109 (mvT hZ109 (tw hw 235 rfl)) (mvT hZ109 (tw hw 236 rfl)) (notFace_of_selects (args := #[]) (mvT hZ109 (tw hw 238 rfl))) (mvT hZ109 (tw hw 238 rfl)) (mvT hZ109 (tw hw 237 rfl)) (by decide) (backOf (W := 0) (rm32_1 l Z a0 hw [] r_111 s_w1 T111.heap n0 O111 f111_3) hZ109 (tw hw 239 rfl) (tw hw 29 rfl) (by decide) (by decide)) q113a q113c (g := (mkF m 218 #[It p1, It p2, It p3, It u1, It v8_t0, It v14_t0, It v20_t0, Rf b21, Rf v49_l8, Rf r_53, Rf r_85, Rf wMap, Rf b88, Rf r_111] [(.ref r_111)])) rfl (by rw [hml]; rfl) (Steps.refl _) (argsL := []) (rest := []) (lenOf pd_9 rfl) rfl (by show 2 * 0 + _ ≤ _; exact Nat.le_of_eq rfl) (hb hby at_218) (fun _ _ => ⟨rfl, rfl, (by decide : 26 + 0 ≤ _), (by decide : 224 + 0 ≤ _)⟩)
      dsimp only [Pt.U, Pt.locs, Pt.cells, Pt.slots] at X113 l113 y113 z113 st113 hQ113
      subst l113 y113 z113
      obtain ⟨rfl, N113q, e113⟩ := hQ113
      have N113 := Fr.app N111 N113q
      obtain ⟨cq114, kq114, q114a, q114b, q114c⟩ := isOf hZ109 e113 f111_2
      obtain ⟨_, _, ⟨T114, L114, k114, n114⟩, -, X114, ⟨Lc114, hQ114, l114, y114, z114⟩, st114⟩ := X113.virtualBack hx (y := (⟨"java/util/Optional", "get", "()Ljava/lang/Object;"⟩ : MethodName)) (z := (⟨"java/util/Optional", "get", "()Ljava/lang/Object;"⟩ : MethodName)) hown109 (mvT hZ109 (tw hw 240 rfl)) (mvT hZ109 (tw hw 241 rfl)) (notFace_of_selects (args := #[]) (mvT hZ109 (tw hw 243 rfl))) (mvT hZ109 (tw hw 243 rfl)) (mvT hZ109 (tw hw 242 rfl)) (by decide) (backOf (W := 0) (rm33_1 l Z a0 hw [] r_111 s_w1 T111.heap n0 O111 f111_3) hZ109 (tw hw 244 rfl) (tw hw 29 rfl) (by decide) (by decide)) q114a q114c (g := (mkF m 226 #[It p1, It p2, It p3, It u1, It v8_t0, It v14_t0, It v20_t0, Rf b21, Rf v49_l8, Rf r_53, Rf r_85, Rf wMap, Rf b88, Rf r_111] [(.ref r_111)])) rfl (by rw [hml]; rfl) (Steps.refl _) (argsL := []) (rest := []) (lenOf pd_18 rfl) rfl (by show 2 * 0 + _ ≤ _; exact Nat.le_of_eq rfl) (hb hby at_226) (fun _ _ => ⟨rfl, e113, (by decide : 26 + 0 ≤ _), (by decide : 224 + 0 ≤ _)⟩)
      dsimp only [Pt.U, Pt.locs, Pt.cells, Pt.slots] at X114 l114 y114 z114 st114 hQ114
      subst l114 y114 z114
      obtain ⟨rfl, N114q, e114⟩ := hQ114
      have N114 := Fr.app N113 N114q
      obtain ⟨T115, X115, e115, st115⟩ := castY X114 hx hZ109 hown109 (tw hw 208 rfl) e114 (Ins.self ((((((((((((((((hE_w1.ext O0.2).ext E21).wr W27).wr W33).keep K49).keep K53q).keep K85q).ext E88).ext E91).ext E94).ext E97).ext E100).ext E103).keep K106q).keep K109q).keep K111q)) (g := (mkF m 229 #[It p1, It p2, It p3, It u1, It v8_t0, It v14_t0, It v20_t0, Rf b21, Rf v49_l8, Rf r_53, Rf r_85, Rf wMap, Rf b88, Rf r_111] [(.ref s_w1)])) rfl rfl (hb hby at_229)
      obtain ⟨sa116, T116, h116, k116, sb116, kb116, X116, e116, E116, Y116, Yk116, hZ116, hown116, A116, Fc116, Fv116, V116, la116, lb116, C116, Lt116, SF116, st116⟩ := ldcCH X115 hx hZ109 hown109 (tw hw 245 rfl) hSA e115 Y109 (Nat.le_trans (Nat.le_refl _) K111q.1) hEL (own_mem (by decide)) CR112.1 (vs := [(.int (99 : Int32)), (.int (108 : Int32)), (.int (97 : Int32)), (.int (115 : Int32)), (.int (115 : Int32)), (.int (78 : Int32)), (.int (97 : Int32)), (.int (109 : Int32)), (.int (101 : Int32))]) (z := (9 : Int32)) (by decide) (by decide) (by decide) (g := (mkF m 232 #[It p1, It p2, It p3, It u1, It v8_t0, It v14_t0, It v20_t0, Rf b21, Rf v49_l8, Rf r_53, Rf r_85, Rf wMap, Rf b88, Rf r_111] [(.ref s_w1)])) rfl (hb hby at_232) (n := 36) (by decide) (by decide) (by decide) (by decide)
      have O117 := O111.ext E116
      have K116 := K111.ext E116
      have CR118 := CR112.trans (C116)
      obtain ⟨cq119, kq119, q119a, q119b, q119c⟩ := isOf hZ116 e116 (((((((((((((((((hE_w1.ext O0.2).ext E21).wr W27).wr W33).keep K49).keep K53q).keep K85q).ext E88).ext E91).ext E94).ext E97).ext E100).ext E103).keep K106q).keep K109q).keep K111q).ext E116)
      obtain ⟨vv119, _, ⟨T119, L119, k119, n119⟩, -, X119, ⟨Lc119, hQ119, l119, y119, z119⟩, st119⟩ := X116.virtualBack hx (y := (⟨"java/lang/String", "equals", "(Ljava/lang/Object;)Z"⟩ : MethodName)) (z := (⟨"java/lang/String", "equals", "(Ljava/lang/Object;)Z"⟩ : MethodName)) hown116 (mvT hZ116 (tw hw 246 rfl)) (mvT hZ116 (tw hw 247 rfl)) (notFace_of_selects (args := #[]) (mvT hZ116 (tw hw 249 rfl))) (mvT hZ116 (tw hw 249 rfl)) (mvT hZ116 (tw hw 248 rfl)) (by decide) (StrChars.Road.eqW (W := 0) hZ116 (own_we hw) (kI := 4) (tw hw 11 rfl) (((((((((((((((((hE_w1.ext O0.2).ext E21).wr W27).wr W33).keep K49).keep K53q).keep K85q).ext E88).ext E91).ext E94).ext E97).ext E100).ext E103).keep K106q).keep K109q).keep K111q).ext E116) (((((((((((((((((hV_w1.ext O0.2).ext E21).other W27 (Or.inl (Nat.ne_of_lt (Nat.lt_of_lt_of_le (hE_w1.ext O0.2).lt (Nat.le_of_eq g21.symm))))).other W33 (Or.inl (Nat.ne_of_lt (Nat.lt_of_lt_of_le (hE_w1.ext O0.2).lt (Nat.le_of_eq g21.symm))))).keep K49 nin0).keep K53q nin0).keep K85q nin0).ext E88).ext E91).ext E94).ext E97).ext E100).ext E103).keep K106q (ninS (Nat.ne_of_lt (Nat.lt_of_lt_of_le ((((((((((((hE_w1.ext O0.2).ext E21).wr W27).wr W33).keep K49).keep K53q).keep K85q).ext E88).ext E91).ext E94).ext E97).ext E100).lt (Nat.le_of_eq g103.symm))) nin0)).keep K109q (ninS (Nat.ne_of_lt (Nat.lt_of_lt_of_le (((((((hE_w1.ext O0.2).ext E21).wr W27).wr W33).keep K49).keep K53q).keep K85q).lt (Nat.le_of_eq g88.symm))) nin0)).keep K111q nin0).ext E116) (((((((((((((((((hC_w1.ext O0.2).ext E21).other W27 (Or.inl (Nat.ne_of_lt (Nat.lt_of_lt_of_le (hE_w1.ext O0.2).lt (Nat.le_of_eq g21.symm))))).other W33 (Or.inl (Nat.ne_of_lt (Nat.lt_of_lt_of_le (hE_w1.ext O0.2).lt (Nat.le_of_eq g21.symm))))).keep K49 nin0).keep K53q nin0).keep K85q nin0).ext E88).ext E91).ext E94).ext E97).ext E100).ext E103).keep K106q (ninS (Nat.ne_of_lt (Nat.lt_of_lt_of_le ((((((((((((hE_w1.ext O0.2).ext E21).wr W27).wr W33).keep K49).keep K53q).keep K85q).ext E88).ext E91).ext E94).ext E97).ext E100).lt (Nat.le_of_eq g103.symm))) nin0)).keep K109q (ninS (Nat.ne_of_lt (Nat.lt_of_lt_of_le (((((((hE_w1.ext O0.2).ext E21).wr W27).wr W33).keep K49).keep K53q).keep K85q).lt (Nat.le_of_eq g88.symm))) nin0)).keep K111q nin0).ext E116) (((((((((((((((((hA_w1.ext O0.2).ext E21).other W27 (Nat.ne_of_lt (Nat.lt_of_lt_of_le (hA_w1.ext O0.2).lt (Nat.le_of_eq g21.symm)))).other W33 (Nat.ne_of_lt (Nat.lt_of_lt_of_le (hA_w1.ext O0.2).lt (Nat.le_of_eq g21.symm)))).keep K49 nin0).keep K53q nin0).keep K85q nin0).ext E88).ext E91).ext E94).ext E97).ext E100).ext E103).keep K106q (ninS (Nat.ne_of_lt (Nat.lt_of_lt_of_le ((((((((((((hA_w1.ext O0.2).ext E21).other W27 (Nat.ne_of_lt (Nat.lt_of_lt_of_le (hA_w1.ext O0.2).lt (Nat.le_of_eq g21.symm)))).other W33 (Nat.ne_of_lt (Nat.lt_of_lt_of_le (hA_w1.ext O0.2).lt (Nat.le_of_eq g21.symm)))).keep K49 nin0).keep K53q nin0).keep K85q nin0).ext E88).ext E91).ext E94).ext E97).ext E100).lt (Nat.le_of_eq g103.symm))) nin0)).keep K109q (ninS (Nat.ne_of_lt (Nat.lt_of_lt_of_le (((((((hA_w1.ext O0.2).ext E21).other W27 (Nat.ne_of_lt (Nat.lt_of_lt_of_le (hA_w1.ext O0.2).lt (Nat.le_of_eq g21.symm)))).other W33 (Nat.ne_of_lt (Nat.lt_of_lt_of_le (hA_w1.ext O0.2).lt (Nat.le_of_eq g21.symm)))).keep K49 nin0).keep K53q nin0).keep K85q nin0).lt (Nat.le_of_eq g88.symm))) nin0)).keep K111q nin0).ext E116) (own_cod (own_latD (cs := ([99, 108, 97, 115, 115, 78, 97, 109, 101] : List Int32)) (by decide) (by decide))) (own_up (own_latD (cs := ([99, 108, 97, 115, 115, 78, 97, 109, 101] : List Int32)) (by decide) (by decide))) (own_latD (cs := ([99, 108, 97, 115, 115, 78, 97, 109, 101] : List Int32)) (by decide) (by decide)).2 A116 Fv116 Fc116 V116 (own_cod (own_latD (cs := ([99, 108, 97, 115, 115, 78, 97, 109, 101] : List Int32)) (by decide) (by decide))) (own_up (own_latD (cs := ([99, 108, 97, 115, 115, 78, 97, 109, 101] : List Int32)) (by decide) (by decide))) (own_latD (cs := ([99, 108, 97, 115, 115, 78, 97, 109, 101] : List Int32)) (by decide) (by decide)).2 (S_COMPACT_STRINGS.ext O117.2) hCS (by decide) (by decide)) q119a q119c (g := (mkF m 234 #[It p1, It p2, It p3, It u1, It v8_t0, It v14_t0, It v20_t0, Rf b21, Rf v49_l8, Rf r_53, Rf r_85, Rf wMap, Rf b88, Rf r_111] [(.ref sa116), (.ref s_w1)])) rfl (by rw [hml]; rfl) (Steps.refl _) (argsL := [(.ref sa116)]) (rest := []) (lenOf pd_19 rfl) rfl (by show 2 * 0 + _ ≤ _; exact Nat.le_of_eq rfl) (hb hby at_234) (fun _ _ => ⟨rfl, e116, (by decide : 28 + 0 ≤ _), (by decide : 264 + 0 ≤ _)⟩)
      dsimp only [Pt.U, Pt.locs, Pt.cells, Pt.slots] at X119 l119 y119 z119 st119 hQ119
      subst l119 y119 z119
      obtain ⟨hcase119, rfl, e119⟩ := hQ119
      have hv119 : vv119 = some (Value.int 1) := hcase119.elim (fun q => q.1) (fun q => absurd rfl q.2)
      subst hv119
      have N119 := Fr.app N114 (Fr.nil n0)
      have sg120 : ∀ target, Steps p.tables e below (T119.setTop (mkF m 245 #[It p1, It p2, It p3, It u1, It v8_t0, It v14_t0, It v20_t0, Rf b21, Rf v49_l8, Rf r_53, Rf r_85, Rf wMap, Rf b88, Rf r_111] [(.int (1 : Int32))])) target → Steps p.tables e below (T53.setTop (mkF m 141 #[It p1, It p2, It p3, It u1, It v8_t0, It v14_t0, It v20_t0, Rf b21, Rf v49_l8, Rf r_53, .unset, .unset, .unset, .unset] [(.int v8_t0)])) target := by
        intro target kt
        show Steps p.tables e below (T53.setTop (mkF m 141 #[It p1, It p2, It p3, It u1, It v8_t0, It v14_t0, It v20_t0, Rf b21, Rf v49_l8, Rf r_53, .unset, .unset, .unset, .unset] [(.int v8_t0)])) _
        refine XS.ifNo X53.here hx rfl (hb hby at_141) rfl ((if0 _ _).trans (feq hc56).1) ?_
        show Steps p.tables e below (T53.setTop (mkF m 144 #[It p1, It p2, It p3, It u1, It v8_t0, It v14_t0, It v20_t0, Rf b21, Rf v49_l8, Rf r_53, .unset, .unset, .unset, .unset] [])) _
        refine XS.aload X53.here hx rfl (hb hby at_144) rfl rfl ?_
        show Steps p.tables e below (T53.setTop (mkF m 146 #[It p1, It p2, It p3, It u1, It v8_t0, It v14_t0, It v20_t0, Rf b21, Rf v49_l8, Rf r_53, .unset, .unset, .unset, .unset] [(.ref v49_l8)])) _
        refine st85 _ ?_
        show Steps p.tables e below (T85.setTop (mkF m 149 #[It p1, It p2, It p3, It u1, It v8_t0, It v14_t0, It v20_t0, Rf b21, Rf v49_l8, Rf r_53, .unset, .unset, .unset, .unset] [(.ref r_85)])) _
        refine XS.astore X85.here hx rfl (hb hby at_149) rfl rfl (l' := #[It p1, It p2, It p3, It u1, It v8_t0, It v14_t0, It v20_t0, Rf b21, Rf v49_l8, Rf r_53, Rf r_85, .unset, .unset, .unset]) rfl ?_
        show Steps p.tables e below (T85.setTop (mkF m 151 #[It p1, It p2, It p3, It u1, It v8_t0, It v14_t0, It v20_t0, Rf b21, Rf v49_l8, Rf r_53, Rf r_85, .unset, .unset, .unset] [])) _
        refine XS.goto X85.here hx rfl (pc0 := 151) (pc' := 159) rfl (hb hby at_151) (by decide) (by decide) ?_
        show Steps p.tables e below (T85.setTop (mkF m 159 #[It p1, It p2, It p3, It u1, It v8_t0, It v14_t0, It v20_t0, Rf b21, Rf v49_l8, Rf r_53, Rf r_85, .unset, .unset, .unset] [])) _
        refine st87 _ ?_
        show Steps p.tables e below (T87.setTop (mkF m 162 #[It p1, It p2, It p3, It u1, It v8_t0, It v14_t0, It v20_t0, Rf b21, Rf v49_l8, Rf r_53, Rf r_85, .unset, .unset, .unset] [(.ref wMap)])) _
        refine XS.astore X87.here hx rfl (hb hby at_162) rfl rfl (l' := #[It p1, It p2, It p3, It u1, It v8_t0, It v14_t0, It v20_t0, Rf b21, Rf v49_l8, Rf r_53, Rf r_85, Rf wMap, .unset, .unset]) rfl ?_
        show Steps p.tables e below (T87.setTop (mkF m 164 #[It p1, It p2, It p3, It u1, It v8_t0, It v14_t0, It v20_t0, Rf b21, Rf v49_l8, Rf r_53, Rf r_85, Rf wMap, .unset, .unset] [])) _
        refine st88 _ ?_
        show Steps p.tables e below (T88.setTop (mkF m 167 #[It p1, It p2, It p3, It u1, It v8_t0, It v14_t0, It v20_t0, Rf b21, Rf v49_l8, Rf r_53, Rf r_85, Rf wMap, .unset, .unset] [(.ref b88)])) _
        refine XS.dup X88.here hx rfl (hb hby at_167) rfl rfl ?_
        show Steps p.tables e below (T88.setTop (mkF m 168 #[It p1, It p2, It p3, It u1, It v8_t0, It v14_t0, It v20_t0, Rf b21, Rf v49_l8, Rf r_53, Rf r_85, Rf wMap, .unset, .unset] [(.ref b88), (.ref b88)])) _
        refine st91 _ ?_
        show Steps p.tables e below (T91.setTop (mkF m 170 #[It p1, It p2, It p3, It u1, It v8_t0, It v14_t0, It v20_t0, Rf b21, Rf v49_l8, Rf r_53, Rf r_85, Rf wMap, .unset, .unset] [(.ref sa91), (.ref b88), (.ref b88)])) _
        refine XS.aload X91.here hx rfl (hb hby at_170) rfl rfl ?_
        show Steps p.tables e below (T91.setTop (mkF m 172 #[It p1, It p2, It p3, It u1, It v8_t0, It v14_t0, It v20_t0, Rf b21, Rf v49_l8, Rf r_53, Rf r_85, Rf wMap, .unset, .unset] [(.ref r_53), (.ref sa91), (.ref b88), (.ref b88)])) _
        refine XS.aload X91.here hx rfl (hb hby at_172) rfl rfl ?_
        show Steps p.tables e below (T91.setTop (mkF m 174 #[It p1, It p2, It p3, It u1, It v8_t0, It v14_t0, It v20_t0, Rf b21, Rf v49_l8, Rf r_53, Rf r_85, Rf wMap, .unset, .unset] [(.ref r_85), (.ref r_53), (.ref sa91), (.ref b88), (.ref b88)])) _
        refine XS.iload X91.here hx rfl (hb hby at_174) rfl ?_
        show Steps p.tables e below (T91.setTop (mkF m 176 #[It p1, It p2, It p3, It u1, It v8_t0, It v14_t0, It v20_t0, Rf b21, Rf v49_l8, Rf r_53, Rf r_85, Rf wMap, .unset, .unset] [(.int v14_t0), (.ref r_85), (.ref r_53), (.ref sa91), (.ref b88), (.ref b88)])) _
        refine st94 _ ?_
        show Steps p.tables e below (T94.setTop (mkF m 178 #[It p1, It p2, It p3, It u1, It v8_t0, It v14_t0, It v20_t0, Rf b21, Rf v49_l8, Rf r_53, Rf r_85, Rf wMap, .unset, .unset] [(.ref sa94), (.int v14_t0), (.ref r_85), (.ref r_53), (.ref sa91), (.ref b88), (.ref b88)])) _
        refine st97 _ ?_
        show Steps p.tables e below (T97.setTop (mkF m 180 #[It p1, It p2, It p3, It u1, It v8_t0, It v14_t0, It v20_t0, Rf b21, Rf v49_l8, Rf r_53, Rf r_85, Rf wMap, .unset, .unset] [(.ref sa97), (.ref sa94), (.int v14_t0), (.ref r_85), (.ref r_53), (.ref sa91), (.ref b88), (.ref b88)])) _
        refine st100 _ ?_
        show Steps p.tables e below (T100.setTop (mkF m 182 #[It p1, It p2, It p3, It u1, It v8_t0, It v14_t0, It v20_t0, Rf b21, Rf v49_l8, Rf r_53, Rf r_85, Rf wMap, .unset, .unset] [(.ref sa100), (.ref sa97), (.ref sa94), (.int v14_t0), (.ref r_85), (.ref r_53), (.ref sa91), (.ref b88), (.ref b88)])) _
        refine st103 _ ?_
        show Steps p.tables e below (T103.setTop (mkF m 185 #[It p1, It p2, It p3, It u1, It v8_t0, It v14_t0, It v20_t0, Rf b21, Rf v49_l8, Rf r_53, Rf r_85, Rf wMap, .unset, .unset] [(.ref b103), (.ref sa100), (.ref sa97), (.ref sa94), (.int v14_t0), (.ref r_85), (.ref r_53), (.ref sa91), (.ref b88), (.ref b88)])) _
        refine XS.dup X103.here hx rfl (hb hby at_185) rfl rfl ?_
        show Steps p.tables e below (T103.setTop (mkF m 186 #[It p1, It p2, It p3, It u1, It v8_t0, It v14_t0, It v20_t0, Rf b21, Rf v49_l8, Rf r_53, Rf r_85, Rf wMap, .unset, .unset] [(.ref b103), (.ref b103), (.ref sa100), (.ref sa97), (.ref sa94), (.int v14_t0), (.ref r_85), (.ref r_53), (.ref sa91), (.ref b88), (.ref b88)])) _
        refine st106.trans ?_
        show Steps p.tables e below (T106.setTop (mkF m 189 #[It p1, It p2, It p3, It u1, It v8_t0, It v14_t0, It v20_t0, Rf b21, Rf v49_l8, Rf r_53, Rf r_85, Rf wMap, .unset, .unset] [(.ref b103), (.ref sa100), (.ref sa97), (.ref sa94), (.int v14_t0), (.ref r_85), (.ref r_53), (.ref sa91), (.ref b88), (.ref b88)])) _
        refine XS.aload X106.here hx rfl (hb hby at_189) rfl rfl ?_
        show Steps p.tables e below (T106.setTop (mkF m 191 #[It p1, It p2, It p3, It u1, It v8_t0, It v14_t0, It v20_t0, Rf b21, Rf v49_l8, Rf r_53, Rf r_85, Rf wMap, .unset, .unset] [(.ref wMap), (.ref b103), (.ref sa100), (.ref sa97), (.ref sa94), (.int v14_t0), (.ref r_85), (.ref r_53), (.ref sa91), (.ref b88), (.ref b88)])) _
        refine st108 _ ?_
        show Steps p.tables e below (T108.setTop (mkF m 194 #[It p1, It p2, It p3, It u1, It v8_t0, It v14_t0, It v20_t0, Rf b21, Rf v49_l8, Rf r_53, Rf r_85, Rf wMap, .unset, .unset] [(.ref wO), (.ref wMap), (.ref b103), (.ref sa100), (.ref sa97), (.ref sa94), (.int v14_t0), (.ref r_85), (.ref r_53), (.ref sa91), (.ref b88), (.ref b88)])) _
        refine st109.trans ?_
        show Steps p.tables e below (T109.setTop (mkF m 197 #[It p1, It p2, It p3, It u1, It v8_t0, It v14_t0, It v20_t0, Rf b21, Rf v49_l8, Rf r_53, Rf r_85, Rf wMap, .unset, .unset] [(.ref b88)])) _
        refine XS.astore X109.here hx rfl (hb hby at_197) rfl rfl (l' := #[It p1, It p2, It p3, It u1, It v8_t0, It v14_t0, It v20_t0, Rf b21, Rf v49_l8, Rf r_53, Rf r_85, Rf wMap, Rf b88, .unset]) rfl ?_
        show Steps p.tables e below (T109.setTop (mkF m 199 #[It p1, It p2, It p3, It u1, It v8_t0, It v14_t0, It v20_t0, Rf b21, Rf v49_l8, Rf r_53, Rf r_85, Rf wMap, Rf b88, .unset] [])) _
        refine XS.aload X109.here hx rfl (hb hby at_199) rfl rfl ?_
        show Steps p.tables e below (T109.setTop (mkF m 201 #[It p1, It p2, It p3, It u1, It v8_t0, It v14_t0, It v20_t0, Rf b21, Rf v49_l8, Rf r_53, Rf r_85, Rf wMap, Rf b88, .unset] [(.ref b88)])) _
        refine st111.trans ?_
        show Steps p.tables e below (T111.setTop (mkF m 204 #[It p1, It p2, It p3, It u1, It v8_t0, It v14_t0, It v20_t0, Rf b21, Rf v49_l8, Rf r_53, Rf r_85, Rf wMap, Rf b88, .unset] [(.ref r_111)])) _
        refine XS.astore X111.here hx rfl (hb hby at_204) rfl rfl (l' := #[It p1, It p2, It p3, It u1, It v8_t0, It v14_t0, It v20_t0, Rf b21, Rf v49_l8, Rf r_53, Rf r_85, Rf wMap, Rf b88, Rf r_111]) rfl ?_
        show Steps p.tables e below (T111.setTop (mkF m 206 #[It p1, It p2, It p3, It u1, It v8_t0, It v14_t0, It v20_t0, Rf b21, Rf v49_l8, Rf r_53, Rf r_85, Rf wMap, Rf b88, Rf r_111] [])) _
        refine XS.iload X111.here hx rfl (hb hby at_206) rfl ?_
        show Steps p.tables e below (T111.setTop (mkF m 208 #[It p1, It p2, It p3, It u1, It v8_t0, It v14_t0, It v20_t0, Rf b21, Rf v49_l8, Rf r_53, Rf r_85, Rf wMap, Rf b88, Rf r_111] [(.int v8_t0)])) _
        refine XS.ifNo X111.here hx rfl (hb hby at_208) rfl ((if0 _ _).trans (feq hc56).1) ?_
        show Steps p.tables e below (T111.setTop (mkF m 211 #[It p1, It p2, It p3, It u1, It v8_t0, It v14_t0, It v20_t0, Rf b21, Rf v49_l8, Rf r_53, Rf r_85, Rf wMap, Rf b88, Rf r_111] [])) _
        refine XS.iloadN X111.here hx rfl (hb hby at_211) rfl ?_
        show Steps p.tables e below (T111.setTop (mkF m 212 #[It p1, It p2, It p3, It u1, It v8_t0, It v14_t0, It v20_t0, Rf b21, Rf v49_l8, Rf r_53, Rf r_85, Rf wMap, Rf b88, Rf r_111] [(.int u1)])) _
        refine XS.iconst X111.here hx rfl (hb hby at_212) ?_
        show Steps p.tables e below (T111.setTop (mkF m 213 #[It p1, It p2, It p3, It u1, It v8_t0, It v14_t0, It v20_t0, Rf b21, Rf v49_l8, Rf r_53, Rf r_85, Rf wMap, Rf b88, Rf r_111] [(.int (1 : Int32)), (.int u1)])) _
        refine XS.icmpNo X111.here hx rfl (hb hby at_213) rfl (teq hc51).2 ?_
        show Steps p.tables e below (T111.setTop (mkF m 216 #[It p1, It p2, It p3, It u1, It v8_t0, It v14_t0, It v20_t0, Rf b21, Rf v49_l8, Rf r_53, Rf r_85, Rf wMap, Rf b88, Rf r_111] [])) _
        refine XS.aload X111.here hx rfl (hb hby at_216) rfl rfl ?_
        show Steps p.tables e below (T111.setTop (mkF m 218 #[It p1, It p2, It p3, It u1, It v8_t0, It v14_t0, It v20_t0, Rf b21, Rf v49_l8, Rf r_53, Rf r_85, Rf wMap, Rf b88, Rf r_111] [(.ref r_111)])) _
        refine st113.trans ?_
        show Steps p.tables e below (T113.setTop (mkF m 221 #[It p1, It p2, It p3, It u1, It v8_t0, It v14_t0, It v20_t0, Rf b21, Rf v49_l8, Rf r_53, Rf r_85, Rf wMap, Rf b88, Rf r_111] [(.int (1 : Int32))])) _
        refine XS.ifNo X113.here hx rfl (hb hby at_221) rfl ((if0 _ _).trans (feq (by decide : ¬ ((1 : Int32) = (0 : Int32)))).1) ?_
        show Steps p.tables e below (T113.setTop (mkF m 224 #[It p1, It p2, It p3, It u1, It v8_t0, It v14_t0, It v20_t0, Rf b21, Rf v49_l8, Rf r_53, Rf r_85, Rf wMap, Rf b88, Rf r_111] [])) _
        refine XS.aload X113.here hx rfl (hb hby at_224) rfl rfl ?_
        show Steps p.tables e below (T113.setTop (mkF m 226 #[It p1, It p2, It p3, It u1, It v8_t0, It v14_t0, It v20_t0, Rf b21, Rf v49_l8, Rf r_53, Rf r_85, Rf wMap, Rf b88, Rf r_111] [(.ref r_111)])) _
        refine st114.trans ?_
        show Steps p.tables e below (T114.setTop (mkF m 229 #[It p1, It p2, It p3, It u1, It v8_t0, It v14_t0, It v20_t0, Rf b21, Rf v49_l8, Rf r_53, Rf r_85, Rf wMap, Rf b88, Rf r_111] [(.ref s_w1)])) _
        refine st115 _ ?_
        show Steps p.tables e below (T115.setTop (mkF m 232 #[It p1, It p2, It p3, It u1, It v8_t0, It v14_t0, It v20_t0, Rf b21, Rf v49_l8, Rf r_53, Rf r_85, Rf wMap, Rf b88, Rf r_111] [(.ref s_w1)])) _
        refine st116 _ ?_
        show Steps p.tables e below (T116.setTop (mkF m 234 #[It p1, It p2, It p3, It u1, It v8_t0, It v14_t0, It v20_t0, Rf b21, Rf v49_l8, Rf r_53, Rf r_85, Rf wMap, Rf b88, Rf r_111] [(.ref sa116), (.ref s_w1)])) _
        refine st119.trans ?_
        show Steps p.tables e below (T119.setTop (mkF m 237 #[It p1, It p2, It p3, It u1, It v8_t0, It v14_t0, It v20_t0, Rf b21, Rf v49_l8, Rf r_53, Rf r_85, Rf wMap, Rf b88, Rf r_111] [(.int (1 : Int32))])) _
        refine XS.ifNo X119.here hx rfl (hb hby at_237) rfl ((if0 _ _).trans (feq (by decide : ¬ ((1 : Int32) = (0 : Int32)))).1) ?_
        show Steps p.tables e below (T119.setTop (mkF m 240 #[It p1, It p2, It p3, It u1, It v8_t0, It v14_t0, It v20_t0, Rf b21, Rf v49_l8, Rf r_53, Rf r_85, Rf wMap, Rf b88, Rf r_111] [])) _
        refine XS.iconst X119.here hx rfl (hb hby at_240) ?_
        show Steps p.tables e below (T119.setTop (mkF m 241 #[It p1, It p2, It p3, It u1, It v8_t0, It v14_t0, It v20_t0, Rf b21, Rf v49_l8, Rf r_53, Rf r_85, Rf wMap, Rf b88, Rf r_111] [(.int (1 : Int32))])) _
        refine XS.goto X119.here hx rfl (pc0 := 241) (pc' := 245) rfl (hb hby at_241) (by decide) (by decide) ?_
        exact kt
      obtain ⟨fs, hr, hrun, hended, hRW⟩ := X119.leaveW Y116 (show _ ≤ T119.heap.size by rw [e119]; exact Yk116) (v := some (.int (1 : Int32))) (fun h => by rw [Bd.returns] at h; cases h)
      refine ⟨_, _, pre0 _ (sg2 _ (sg3 _ (sg8 _ (sg9 _ (sg14 _ (sg15 _ (sg20 _ (sg25 _ (sg31 _ (sg36 _ (sg49 _ (sg50 _ (sg55 _ (sg120 _ (?_))))))))))))))), hrun, hended, _, _, rfl, ?_, (by rw [hh]; show CHr Z own_EL s.vm h0 T119.vm T119.heap; rw [e119]; exact CR118.trans (CHv.at X119 hZ116 hEL CR118.1)), hRW.1, hRW.2.1, hRW.2.2.1, hRW.2.2.2.mono (by decide) (by decide)⟩
      · show Steps p.tables e below (T119.setTop (mkF m 245 #[It p1, It p2, It p3, It u1, It v8_t0, It v14_t0, It v20_t0, Rf b21, Rf v49_l8, Rf r_53, Rf r_85, Rf wMap, Rf b88, Rf r_111] [(.int (1 : Int32))])) _
        exact retN X119 hx (t := .boolean) Bd.returns (by simp) (hb hby at_245) hr
      · show Q0 Z p1 p2 p3 s_w1 t_w1 kb_w1 s_w2 t_w2 kb_w2 zC wO wD wMap w1 w2 h0 n0 _ T119.heap _
        rw [e119]
        exact ⟨rfl, N119, K116, O117⟩
  · have sg121 : ∀ target, Steps p.tables e below (T49.setTop (mkF m 120 #[It p1, It p2, It p3, It u1, It v8_t0, It v14_t0, It v20_t0, Rf b21, Rf v49_l8, .unset, .unset, .unset, .unset, .unset] [(.int (2 : Int32)), (.int u1)])) target → Steps p.tables e below (T49.setTop (mkF m 104 #[It p1, It p2, It p3, It u1, It v8_t0, It v14_t0, It v20_t0, Rf b21, Rf v49_l8, .unset, .unset, .unset, .unset, .unset] [(.int (1 : Int32)), (.int u1)])) target := by
      intro target kt
      show Steps p.tables e below (T49.setTop (mkF m 104 #[It p1, It p2, It p3, It u1, It v8_t0, It v14_t0, It v20_t0, Rf b21, Rf v49_l8, .unset, .unset, .unset, .unset, .unset] [(.int (1 : Int32)), (.int u1)])) _
      refine XS.icmpYes X49.here hx rfl (pc0 := 104) (pc' := 118) rfl (hb hby at_104) rfl (feq hc51).2 (by decide) (by decide) ?_
      show Steps p.tables e below (T49.setTop (mkF m 118 #[It p1, It p2, It p3, It u1, It v8_t0, It v14_t0, It v20_t0, Rf b21, Rf v49_l8, .unset, .unset, .unset, .unset, .unset] [])) _
      refine XS.iloadN X49.here hx rfl (hb hby at_118) rfl ?_
      show Steps p.tables e below (T49.setTop (mkF m 119 #[It p1, It p2, It p3, It u1, It v8_t0, It v14_t0, It v20_t0, Rf b21, Rf v49_l8, .unset, .unset, .unset, .unset, .unset] [(.int u1)])) _
      refine XS.iconst X49.here hx rfl (hb hby at_119) ?_
      exact kt
    by_cases hc122 : u1 = (2 : Int32)
    · obtain ⟨T123, X123, e123, st123⟩ := getS2 X49 hx hZ49 hown49 (host := "") (Or.inl (tw hw 225 rfl)) Via.refl e49 (S_V2.ext O49.2) (g := (mkF m 123 #[It p1, It p2, It p3, It u1, It v8_t0, It v14_t0, It v20_t0, Rf b21, Rf v49_l8, .unset, .unset, .unset, .unset, .unset] [])) rfl (hb hby at_123)
      obtain ⟨_, _, ⟨T124, L124, k124, n124⟩, -, X124, ⟨Lc124, hQ124, l124, y124, z124⟩, st124⟩ := Jvm.LawKit.callS X123 hx (y := (⟨"java/util/Optional", "of", "(Ljava/lang/Object;)Ljava/util/Optional;"⟩ : MethodName)) hown49 (mvT hZ49 (tw hw 193 rfl)) (mvT hZ49 (tw hw 194 rfl)) (mvT hZ49 (tw hw 29 rfl)) (mvT hZ49 (tw hw 195 rfl)) (by decide) (backOf (W := 0) (rm23 l Z a0 hw [] w2 h49 n0 O49 ) hZ49 (tw hw 195 rfl) (tw hw 29 rfl) (by decide) (by decide)) (g := (mkF m 126 #[It p1, It p2, It p3, It u1, It v8_t0, It v14_t0, It v20_t0, Rf b21, Rf v49_l8, .unset, .unset, .unset, .unset, .unset] [(.ref w2)])) rfl (by rw [hml]; rfl) (argsL := [(.ref w2)]) (rest := []) (lenOf pd_13 rfl) rfl (by show 2 * 0 + _ ≤ _; exact Nat.le_of_eq rfl) (hb hby at_126) (fun _ _ => ⟨rfl, e123, (by decide : 3 + 1 ≤ _), (by decide : 8 + 1 ≤ _)⟩)
      dsimp only [Pt.U, Pt.locs, Pt.cells, Pt.slots] at X124 l124 y124 z124 st124 hQ124
      subst l124 y124 z124
      obtain ⟨r_124, rfl, N124q, K124q, O124, f124_0, f124_1, f124_2, f124_3⟩ := hQ124
      have N124 := Fr.app N49 N124q
      have CR125 := CR_49.trans (CHr.keep K124q all0 CR_49.1)
      have K124 := KK49.trans K124q all0
      have sg126 : ∀ target, Steps p.tables e below (T124.setTop (mkF m 141 #[It p1, It p2, It p3, It u1, It v8_t0, It v14_t0, It v20_t0, Rf b21, Rf v49_l8, Rf r_124, .unset, .unset, .unset, .unset] [(.int v8_t0)])) target → Steps p.tables e below (T49.setTop (mkF m 120 #[It p1, It p2, It p3, It u1, It v8_t0, It v14_t0, It v20_t0, Rf b21, Rf v49_l8, .unset, .unset, .unset, .unset, .unset] [(.int (2 : Int32)), (.int u1)])) target := by
        intro target kt
        show Steps p.tables e below (T49.setTop (mkF m 120 #[It p1, It p2, It p3, It u1, It v8_t0, It v14_t0, It v20_t0, Rf b21, Rf v49_l8, .unset, .unset, .unset, .unset, .unset] [(.int (2 : Int32)), (.int u1)])) _
        refine XS.icmpNo X49.here hx rfl (hb hby at_120) rfl (teq hc122).2 ?_
        show Steps p.tables e below (T49.setTop (mkF m 123 #[It p1, It p2, It p3, It u1, It v8_t0, It v14_t0, It v20_t0, Rf b21, Rf v49_l8, .unset, .unset, .unset, .unset, .unset] [])) _
        refine st123 _ ?_
        show Steps p.tables e below (T123.setTop (mkF m 126 #[It p1, It p2, It p3, It u1, It v8_t0, It v14_t0, It v20_t0, Rf b21, Rf v49_l8, .unset, .unset, .unset, .unset, .unset] [(.ref w2)])) _
        refine st124 _ ?_
        show Steps p.tables e below (T124.setTop (mkF m 129 #[It p1, It p2, It p3, It u1, It v8_t0, It v14_t0, It v20_t0, Rf b21, Rf v49_l8, .unset, .unset, .unset, .unset, .unset] [(.ref r_124)])) _
        refine XS.astore X124.here hx rfl (hb hby at_129) rfl rfl (l' := #[It p1, It p2, It p3, It u1, It v8_t0, It v14_t0, It v20_t0, Rf b21, Rf v49_l8, Rf r_124, .unset, .unset, .unset, .unset]) rfl ?_
        show Steps p.tables e below (T124.setTop (mkF m 131 #[It p1, It p2, It p3, It u1, It v8_t0, It v14_t0, It v20_t0, Rf b21, Rf v49_l8, Rf r_124, .unset, .unset, .unset, .unset] [])) _
        refine XS.goto X124.here hx rfl (pc0 := 131) (pc' := 139) rfl (hb hby at_131) (by decide) (by decide) ?_
        show Steps p.tables e below (T124.setTop (mkF m 139 #[It p1, It p2, It p3, It u1, It v8_t0, It v14_t0, It v20_t0, Rf b21, Rf v49_l8, Rf r_124, .unset, .unset, .unset, .unset] [])) _
        refine XS.iload X124.here hx rfl (hb hby at_139) rfl ?_
        exact kt
      by_cases hc127 : v8_t0 = (0 : Int32)
      · obtain ⟨_, _, ⟨T128, L128, k128, n128⟩, -, X128, ⟨Lc128, hQ128, l128, y128, z128⟩, st128⟩ := Jvm.LawKit.callS X124 hx (y := (⟨"java/util/Optional", "empty", "()Ljava/util/Optional;"⟩ : MethodName)) hown49 (mvT hZ49 (tw hw 27 rfl)) (mvT hZ49 (tw hw 28 rfl)) (mvT hZ49 (tw hw 29 rfl)) (mvT hZ49 (tw hw 30 rfl)) (by decide) (backOf (W := 0) (rm6 l Z a0 hw [] wO T124.heap n0 O124 S_EMPTY) hZ49 (tw hw 30 rfl) (tw hw 29 rfl) (by decide) (by decide)) (g := (mkF m 154 #[It p1, It p2, It p3, It u1, It v8_t0, It v14_t0, It v20_t0, Rf b21, Rf v49_l8, Rf r_124, .unset, .unset, .unset, .unset] [])) rfl (by rw [hml]; rfl) (argsL := []) (rest := []) (lenOf pd_11 rfl) rfl (by show 2 * 0 + _ ≤ _; exact Nat.le_of_eq rfl) (hb hby at_154) (fun _ _ => ⟨rfl, rfl, (by decide : 4 + 0 ≤ _), (by decide : 9 + 0 ≤ _)⟩)
        dsimp only [Pt.U, Pt.locs, Pt.cells, Pt.slots] at X128 l128 y128 z128 st128 hQ128
        subst l128 y128 z128
        obtain ⟨rfl, N128q, e128⟩ := hQ128
        have N128 := Fr.app N124 N128q
        obtain ⟨_, _, ⟨T129, L129, k129, n129⟩, -, X129, ⟨Lc129, hQ129, l129, y129, z129⟩, st129⟩ := Jvm.LawKit.callS X128 hx (y := (⟨"java/util/Map", "of", "()Ljava/util/Map;"⟩ : MethodName)) hown49 (mvT hZ49 (tw hw 32 rfl)) (mvT hZ49 (tw hw 33 rfl)) (mvT hZ49 (tw hw 34 rfl)) (mvT hZ49 (tw hw 35 rfl)) (by decide) (backOf (W := 0) (rm7 l Z a0 hw [] wMap T124.heap n0 O124 S_EMPTY_MAP) hZ49 (tw hw 35 rfl) (tw hw 34 rfl) (by decide) (by decide)) (g := (mkF m 159 #[It p1, It p2, It p3, It u1, It v8_t0, It v14_t0, It v20_t0, Rf b21, Rf v49_l8, Rf r_124, Rf wO, .unset, .unset, .unset] [])) rfl (by rw [hml]; rfl) (argsL := []) (rest := []) (lenOf pd_16 rfl) rfl (by show 2 * 0 + _ ≤ _; exact Nat.le_of_eq rfl) (hb hby at_159) (fun _ _ => ⟨rfl, e128, (by decide : 4 + 0 ≤ _), (by decide : 9 + 0 ≤ _)⟩)
        dsimp only [Pt.U, Pt.locs, Pt.cells, Pt.slots] at X129 l129 y129 z129 st129 hQ129
        subst l129 y129 z129
        obtain ⟨rfl, N129q, e129⟩ := hQ129
        have N129 := Fr.app N128 N129q
        obtain ⟨T130, h130, X130, e130, E130, A130, D130, -, st130⟩ := newO X129 hx hZ49 hown49 (tw hw 38 rfl) (tw hw 39 rfl) (tw hw 40 rfl) e129 (g := (mkF m 164 #[It p1, It p2, It p3, It u1, It v8_t0, It v14_t0, It v20_t0, Rf b21, Rf v49_l8, Rf r_124, Rf wO, Rf wMap, .unset, .unset] [])) rfl (hb hby at_164) (by decide) (by decide)
        obtain ⟨b130, g130⟩ : ∃ z, z = T124.heap.size := ⟨_, rfl⟩
        rw [← g130] at A130 D130 st130
        have ge_b130 : n0 ≤ b130 := Nat.le_trans (own_osz O124) (Nat.le_of_eq g130.symm)
        have sz_b130 : h0.size ≤ b130 := Nat.le_trans K124.1 (Nat.le_of_eq g130.symm)
        have O131 := O124.ext E130
        have K130 := K124.ext E130
        have CR132 := CR125.trans (CHr.ext E130 CR125.1)
        have F_fields_b130 : Fld Z h130 b130 "com/example/legacy_to_latest/legacytolatest/EntityClass" "fields" "Ljava/util/Map;" .null := D130 (Or.inr (tw hw 101 rfl)) (ty := (.object "java/util/Map")) (by decide)
        have F_kind_b130 : Fld Z h130 b130 "com/example/legacy_to_latest/legacytolatest/EntityClass" "kind" "Ljava/lang/String;" .null := D130 (Or.inr (tw hw 109 rfl)) (ty := (.object "java/lang/String")) (by decide)
        have F_morphia_b130 : Fld Z h130 b130 "com/example/legacy_to_latest/legacytolatest/EntityClass" "morphia" "Lcom/example/legacy_to_latest/legacytolatest/EntityClass$Morphia;" .null := D130 (Or.inr (tw hw 118 rfl)) (ty := (.object "com/example/legacy_to_latest/legacytolatest/EntityClass$Morphia")) (by decide)
        have F_discriminator_b130 : Fld Z h130 b130 "com/example/legacy_to_latest/legacytolatest/EntityClass" "discriminator" "Ljava/lang/String;" .null := D130 (Or.inr (tw hw 120 rfl)) (ty := (.object "java/lang/String")) (by decide)
        have F_abstractClass_b130 : Fld Z h130 b130 "com/example/legacy_to_latest/legacytolatest/EntityClass" "abstractClass" "Z" (.int (0 : Int32)) := D130 (Or.inr (tw hw 122 rfl)) (ty := .boolean) (by decide)
        have F_className_b130 : Fld Z h130 b130 "com/example/legacy_to_latest/legacytolatest/EntityClass" "className" "Ljava/lang/String;" .null := D130 (Or.inr (tw hw 125 rfl)) (ty := (.object "java/lang/String")) (by decide)
        have F_binaryName_b130 : Fld Z h130 b130 "com/example/legacy_to_latest/legacytolatest/EntityClass" "binaryName" "Ljava/lang/String;" .null := D130 (Or.inr (tw hw 128 rfl)) (ty := (.object "java/lang/String")) (by decide)
        have F_source_b130 : Fld Z h130 b130 "com/example/legacy_to_latest/legacytolatest/EntityClass" "source" "Ljava/lang/String;" .null := D130 (Or.inr (tw hw 131 rfl)) (ty := (.object "java/lang/String")) (by decide)
        have F_keyParts_b130 : Fld Z h130 b130 "com/example/legacy_to_latest/legacytolatest/EntityClass" "keyParts" "Ljava/util/Map;" .null := D130 (Or.inr (tw hw 176 rfl)) (ty := (.object "java/util/Map")) (by decide)
        have F_unreadSuperclass_b130 : Fld Z h130 b130 "com/example/legacy_to_latest/legacytolatest/EntityClass" "unreadSuperclass" "Ljava/lang/String;" .null := D130 (Or.inr (tw hw 178 rfl)) (ty := (.object "java/lang/String")) (by decide)
        obtain ⟨sa133, T133, h133, k133, sb133, kb133, X133, e133, E133, Y133, Yk133, hZ133, hown133, A133, Fc133, Fv133, V133, la133, lb133, C133, Lt133, SF133, st133⟩ := ldcCH X130 hx hZ49 hown49 (tw hw 41 rfl) hSA e130 Y49 (Nat.le_trans (Nat.le_trans Yk49 K124q.1) E130.1) hEL (own_mem (by decide)) CR132.1 (vs := [(.int (107 : Int32))]) (z := (1 : Int32)) (by decide) (by decide) (by decide) (g := (mkF m 168 #[It p1, It p2, It p3, It u1, It v8_t0, It v14_t0, It v20_t0, Rf b21, Rf v49_l8, Rf r_124, Rf wO, Rf wMap, .unset, .unset] [(.ref b130), (.ref b130)])) rfl (hb hby at_168) (n := 4) (by decide) (by decide) (by decide) (by decide)
        have O134 := O131.ext E133
        have K133 := K130.ext E133
        have CR135 := CR132.trans (C133)
        obtain ⟨sa136, T136, h136, k136, sb136, kb136, X136, e136, E136, Y136, Yk136, hZ136, hown136, A136, Fc136, Fv136, V136, la136, lb136, C136, Lt136, SF136, st136⟩ := ldcCH X133 hx hZ133 hown133 (tw hw 44 rfl) hSA e133 Y133 Yk133 hEL (own_mem (by decide)) CR135.1 (vs := [(.int (67 : Int32))]) (z := (1 : Int32)) (by decide) (by decide) (by decide) (g := (mkF m 176 #[It p1, It p2, It p3, It u1, It v8_t0, It v14_t0, It v20_t0, Rf b21, Rf v49_l8, Rf r_124, Rf wO, Rf wMap, .unset, .unset] [(.int v14_t0), (.ref wO), (.ref r_124), (.ref sa133), (.ref b130), (.ref b130)])) rfl (hb hby at_176) (n := 4) (by decide) (by decide) (by decide) (by decide)
        have O137 := O134.ext E136
        have K136 := K133.ext E136
        have CR138 := CR135.trans (C136)
        obtain ⟨sa139, T139, h139, k139, sb139, kb139, X139, e139, E139, Y139, Yk139, hZ139, hown139, A139, Fc139, Fv139, V139, la139, lb139, C139, Lt139, SF139, st139⟩ := ldcCH X136 hx hZ136 hown136 (tw hw 44 rfl) hSA e136 Y136 Yk136 hEL (own_mem (by decide)) CR138.1 (vs := [(.int (67 : Int32))]) (z := (1 : Int32)) (by decide) (by decide) (by decide) (g := (mkF m 178 #[It p1, It p2, It p3, It u1, It v8_t0, It v14_t0, It v20_t0, Rf b21, Rf v49_l8, Rf r_124, Rf wO, Rf wMap, .unset, .unset] [(.ref sa136), (.int v14_t0), (.ref wO), (.ref r_124), (.ref sa133), (.ref b130), (.ref b130)])) rfl (hb hby at_178) (n := 4) (by decide) (by decide) (by decide) (by decide)
        have O140 := O137.ext E139
        have K139 := K136.ext E139
        have CR141 := CR138.trans (C139)
        obtain ⟨sa142, T142, h142, k142, sb142, kb142, X142, e142, E142, Y142, Yk142, hZ142, hown142, A142, Fc142, Fv142, V142, la142, lb142, C142, Lt142, SF142, st142⟩ := ldcCH X139 hx hZ139 hown139 (tw hw 45 rfl) hSA e139 Y139 Yk139 hEL (own_mem (by decide)) CR141.1 (vs := [(.int (67 : Int32)), (.int (46 : Int32)), (.int (106 : Int32)), (.int (97 : Int32)), (.int (118 : Int32)), (.int (97 : Int32))]) (z := (6 : Int32)) (by decide) (by decide) (by decide) (g := (mkF m 180 #[It p1, It p2, It p3, It u1, It v8_t0, It v14_t0, It v20_t0, Rf b21, Rf v49_l8, Rf r_124, Rf wO, Rf wMap, .unset, .unset] [(.ref sa139), (.ref sa136), (.int v14_t0), (.ref wO), (.ref r_124), (.ref sa133), (.ref b130), (.ref b130)])) rfl (hb hby at_180) (n := 24) (by decide) (by decide) (by decide) (by decide)
        have O143 := O140.ext E142
        have K142 := K139.ext E142
        have CR144 := CR141.trans (C142)
        obtain ⟨T145, h145, X145, e145, E145, A145, D145, -, st145⟩ := newO X142 hx hZ142 hown142 (tw hw 46 rfl) (tw hw 47 rfl) (tw hw 48 rfl) e142 (g := (mkF m 182 #[It p1, It p2, It p3, It u1, It v8_t0, It v14_t0, It v20_t0, Rf b21, Rf v49_l8, Rf r_124, Rf wO, Rf wMap, .unset, .unset] [(.ref sa142), (.ref sa139), (.ref sa136), (.int v14_t0), (.ref wO), (.ref r_124), (.ref sa133), (.ref b130), (.ref b130)])) rfl (hb hby at_182) (by decide) (by decide)
        obtain ⟨b145, g145⟩ : ∃ z, z = h142.size := ⟨_, rfl⟩
        rw [← g145] at A145 D145 st145
        have ge_b145 : n0 ≤ b145 := Nat.le_trans (own_osz O143) (Nat.le_of_eq g145.symm)
        have sz_b145 : h0.size ≤ b145 := Nat.le_trans K142.1 (Nat.le_of_eq g145.symm)
        have O146 := O143.ext E145
        have K145 := K142.ext E145
        have CR147 := CR144.trans (CHr.ext E145 CR144.1)
        have F_modCount_b145 : Fld Z h145 b145 "java/util/AbstractList" "modCount" "I" (.int (0 : Int32)) := D145 (Or.inl (tw hw 66 rfl)) (ty := .int) (by decide)
        have F_elementData_b145 : Fld Z h145 b145 "java/util/ArrayList" "elementData" "[Ljava/lang/Object;" .null := D145 (Or.inl (tw hw 69 rfl)) (ty := (.array (.object "java/lang/Object"))) (by decide)
        have F_size_b145 : Fld Z h145 b145 "java/util/ArrayList" "size" "I" (.int (0 : Int32)) := D145 (Or.inl (tw hw 169 rfl)) (ty := .int) (by decide)
        obtain ⟨_, _, ⟨T148, L148, k148, n148⟩, -, X148, ⟨Lc148, hQ148, l148, y148, z148⟩, st148⟩ := X145.specialBack hx (y := (⟨"java/util/ArrayList", "<init>", "()V"⟩ : MethodName)) rfl hown142 (mvT hZ142 (tw hw 49 rfl)) (mvT hZ142 (tw hw 50 rfl)) (mvT hZ142 (tw hw 51 rfl)) (by decide) (backOf (W := 10) (rm8 l Z a0 hw [] b145 wD h145 n0 O146 S_DEFAULTCAPACITY_EMPTY_ELEMENTDATA A145 F_modCount_b145 F_elementData_b145 F_size_b145 ge_b145) hZ142 (tw hw 51 rfl) (tw hw 48 rfl) (by decide) (by decide)) (g := (mkF m 186 #[It p1, It p2, It p3, It u1, It v8_t0, It v14_t0, It v20_t0, Rf b21, Rf v49_l8, Rf r_124, Rf wO, Rf wMap, .unset, .unset] [(.ref b145), (.ref b145), (.ref sa142), (.ref sa139), (.ref sa136), (.int v14_t0), (.ref wO), (.ref r_124), (.ref sa133), (.ref b130), (.ref b130)])) rfl (by rw [hml]; rfl) (Steps.refl _) (a := b145) (argsL := []) (rest := [(.ref b145), (.ref sa142), (.ref sa139), (.ref sa136), (.int v14_t0), (.ref wO), (.ref r_124), (.ref sa133), (.ref b130), (.ref b130)]) (lenOf pd_5 rfl) rfl (by show 2 * 0 + _ ≤ _; exact Nat.le_of_eq rfl) (hb hby at_186) (fun _ _ => ⟨rfl, e145, (by decide : 14 + 0 ≤ _), (by decide : 74 + 0 ≤ _)⟩)
        dsimp only [Pt.U, Pt.locs, Pt.cells, Pt.slots] at X148 l148 y148 z148 st148 hQ148
        subst l148 y148 z148
        obtain ⟨rfl, N148q, K148q, O148, f148_0, f148_1⟩ := hQ148
        have N148 := Fr.app N129 N148q
        have CR149 := CR147.trans (CHr.keep K148q (allS (Safe.exa hZ142.alike A145 (by decide) (by decide)) all0) CR147.1)
        have K148 := K145.trans K148q (allS (Or.inr sz_b145) all0)
        obtain ⟨_, _, ⟨T150, L150, k150, n150⟩, -, X150, ⟨Lc150, hQ150, l150, y150, z150⟩, st150⟩ := Jvm.LawKit.callS X148 hx (y := (⟨"java/util/Optional", "empty", "()Ljava/util/Optional;"⟩ : MethodName)) hown142 (mvT hZ142 (tw hw 27 rfl)) (mvT hZ142 (tw hw 28 rfl)) (mvT hZ142 (tw hw 29 rfl)) (mvT hZ142 (tw hw 30 rfl)) (by decide) (backOf (W := 11) (rm6 l Z a0 hw [] wO T148.heap n0 O148 S_EMPTY) hZ142 (tw hw 30 rfl) (tw hw 29 rfl) (by decide) (by decide)) (g := (mkF m 191 #[It p1, It p2, It p3, It u1, It v8_t0, It v14_t0, It v20_t0, Rf b21, Rf v49_l8, Rf r_124, Rf wO, Rf wMap, .unset, .unset] [(.ref wMap), (.ref b145), (.ref sa142), (.ref sa139), (.ref sa136), (.int v14_t0), (.ref wO), (.ref r_124), (.ref sa133), (.ref b130), (.ref b130)])) rfl (by rw [hml]; rfl) (argsL := []) (rest := [(.ref wMap), (.ref b145), (.ref sa142), (.ref sa139), (.ref sa136), (.int v14_t0), (.ref wO), (.ref r_124), (.ref sa133), (.ref b130), (.ref b130)]) (lenOf pd_11 rfl) rfl (by show 2 * 0 + _ ≤ _; exact Nat.le_of_eq rfl) (hb hby at_191) (fun _ _ => ⟨rfl, rfl, (by decide : 14 + 0 ≤ _), (by decide : 74 + 0 ≤ _)⟩)
        dsimp only [Pt.U, Pt.locs, Pt.cells, Pt.slots] at X150 l150 y150 z150 st150 hQ150
        subst l150 y150 z150
        obtain ⟨rfl, N150q, e150⟩ := hQ150
        have N150 := Fr.app N148 N150q
        obtain ⟨_, _, ⟨T151, L151, k151, n151⟩, -, X151, Y151, G151, ⟨Lc151, hQ151, l151, y151, z151, C151⟩, st151⟩ := X150.specialBackS hx (y := (⟨"com/example/legacy_to_latest/legacytolatest/EntityClass", "<init>", "(Ljava/lang/String;Ljava/util/Optional;Ljava/util/Optional;ZLjava/lang/String;Ljava/lang/String;Ljava/lang/String;Ljava/util/List;Ljava/util/Map;Ljava/util/Optional;)V"⟩ : MethodName)) rfl hown142 (mvT hZ142 (tw hw 70 rfl)) (mvT hZ142 (tw hw 71 rfl)) (mvT hZ142 (tw hw 72 rfl)) (by decide) (backOfSH (W := 1) (rm11_10 l Z a0 hw [] b130 sa133 r_124 wO v14_t0 sa136 sa139 sa142 b145 wMap wO w2 T148.heap n0 O148 ((((((A130.ext E133).ext E136).ext E139).ext E142).ext E145).keep K148q) ((((((F_fields_b130.ext E133).ext E136).ext E139).ext E142).ext E145).keep K148q (ninS (Nat.ne_of_lt (Nat.lt_of_lt_of_le ((((A130.ext E133).ext E136).ext E139).ext E142).lt (Nat.le_of_eq g145.symm))) nin0)) ((((((F_kind_b130.ext E133).ext E136).ext E139).ext E142).ext E145).keep K148q (ninS (Nat.ne_of_lt (Nat.lt_of_lt_of_le ((((A130.ext E133).ext E136).ext E139).ext E142).lt (Nat.le_of_eq g145.symm))) nin0)) ((((((F_morphia_b130.ext E133).ext E136).ext E139).ext E142).ext E145).keep K148q (ninS (Nat.ne_of_lt (Nat.lt_of_lt_of_le ((((A130.ext E133).ext E136).ext E139).ext E142).lt (Nat.le_of_eq g145.symm))) nin0)) ((((((F_discriminator_b130.ext E133).ext E136).ext E139).ext E142).ext E145).keep K148q (ninS (Nat.ne_of_lt (Nat.lt_of_lt_of_le ((((A130.ext E133).ext E136).ext E139).ext E142).lt (Nat.le_of_eq g145.symm))) nin0)) ((((((F_abstractClass_b130.ext E133).ext E136).ext E139).ext E142).ext E145).keep K148q (ninS (Nat.ne_of_lt (Nat.lt_of_lt_of_le ((((A130.ext E133).ext E136).ext E139).ext E142).lt (Nat.le_of_eq g145.symm))) nin0)) ((((((F_className_b130.ext E133).ext E136).ext E139).ext E142).ext E145).keep K148q (ninS (Nat.ne_of_lt (Nat.lt_of_lt_of_le ((((A130.ext E133).ext E136).ext E139).ext E142).lt (Nat.le_of_eq g145.symm))) nin0)) ((((((F_binaryName_b130.ext E133).ext E136).ext E139).ext E142).ext E145).keep K148q (ninS (Nat.ne_of_lt (Nat.lt_of_lt_of_le ((((A130.ext E133).ext E136).ext E139).ext E142).lt (Nat.le_of_eq g145.symm))) nin0)) ((((((F_source_b130.ext E133).ext E136).ext E139).ext E142).ext E145).keep K148q (ninS (Nat.ne_of_lt (Nat.lt_of_lt_of_le ((((A130.ext E133).ext E136).ext E139).ext E142).lt (Nat.le_of_eq g145.symm))) nin0)) ((((((F_keyParts_b130.ext E133).ext E136).ext E139).ext E142).ext E145).keep K148q (ninS (Nat.ne_of_lt (Nat.lt_of_lt_of_le ((((A130.ext E133).ext E136).ext E139).ext E142).lt (Nat.le_of_eq g145.symm))) nin0)) ((((((F_unreadSuperclass_b130.ext E133).ext E136).ext E139).ext E142).ext E145).keep K148q (ninS (Nat.ne_of_lt (Nat.lt_of_lt_of_le ((((A130.ext E133).ext E136).ext E139).ext E142).lt (Nat.le_of_eq g145.symm))) nin0)) ge_b130 (((((A133.ext E136).ext E139).ext E142).ext E145).keep K148q) ((((A136.ext E139).ext E142).ext E145).keep K148q) (((A139.ext E142).ext E145).keep K148q) ((A142.ext E145).keep K148q) (((((((f124_2.ext E130).ext E133).ext E136).ext E139).ext E142).ext E145).keep K148q) (((((((f124_3.ext E130).ext E133).ext E136).ext E139).ext E142).ext E145).keep K148q (ninS (Nat.ne_of_lt (Nat.lt_of_lt_of_le (((((f124_2.ext E130).ext E133).ext E136).ext E139).ext E142).lt (Nat.le_of_eq g145.symm))) nin0)) (((((((((((((hX_wO.ext O0.2).ext E21).wr W27).wr W33).keep K49).keep K124q).ext E130).ext E133).ext E136).ext E139).ext E142).ext E145).keep K148q) (((((((((((((hF_wO.ext O0.2).ext E21).other W27 (Or.inl (Nat.ne_of_lt (Nat.lt_of_lt_of_le (hX_wO.ext O0.2).lt (Nat.le_of_eq g21.symm))))).other W33 (Or.inl (Nat.ne_of_lt (Nat.lt_of_lt_of_le (hX_wO.ext O0.2).lt (Nat.le_of_eq g21.symm))))).keep K49 nin0).keep K124q nin0).ext E130).ext E133).ext E136).ext E139).ext E142).ext E145).keep K148q (ninS (Nat.ne_of_lt (Nat.lt_of_lt_of_le (((((((((((hX_wO.ext O0.2).ext E21).wr W27).wr W33).keep K49).keep K124q).ext E130).ext E133).ext E136).ext E139).ext E142).lt (Nat.le_of_eq g145.symm))) nin0)) (((((((((((((hX_wO.ext O0.2).ext E21).wr W27).wr W33).keep K49).keep K124q).ext E130).ext E133).ext E136).ext E139).ext E142).ext E145).keep K148q) (((((((((((((hF_wO.ext O0.2).ext E21).other W27 (Or.inl (Nat.ne_of_lt (Nat.lt_of_lt_of_le (hX_wO.ext O0.2).lt (Nat.le_of_eq g21.symm))))).other W33 (Or.inl (Nat.ne_of_lt (Nat.lt_of_lt_of_le (hX_wO.ext O0.2).lt (Nat.le_of_eq g21.symm))))).keep K49 nin0).keep K124q nin0).ext E130).ext E133).ext E136).ext E139).ext E142).ext E145).keep K148q (ninS (Nat.ne_of_lt (Nat.lt_of_lt_of_le (((((((((((hX_wO.ext O0.2).ext E21).wr W27).wr W33).keep K49).keep K124q).ext E130).ext E133).ext E136).ext E139).ext E142).lt (Nat.le_of_eq g145.symm))) nin0)) (A145.keep K148q) f148_0 f148_1 (((((((((((((hX_wMap.ext O0.2).ext E21).wr W27).wr W33).keep K49).keep K124q).ext E130).ext E133).ext E136).ext E139).ext E142).ext E145).keep K148q) (((((((((((((hX_w2.ext O0.2).ext E21).wr W27).wr W33).keep K49).keep K124q).ext E130).ext E133).ext E136).ext E139).ext E142).ext E145).keep K148q)) hZ142 (tw hw 72 rfl) (tw hw 40 rfl) (by decide) (by decide) hEL CR149.1) (g := (mkF m 194 #[It p1, It p2, It p3, It u1, It v8_t0, It v14_t0, It v20_t0, Rf b21, Rf v49_l8, Rf r_124, Rf wO, Rf wMap, .unset, .unset] [(.ref wO), (.ref wMap), (.ref b145), (.ref sa142), (.ref sa139), (.ref sa136), (.int v14_t0), (.ref wO), (.ref r_124), (.ref sa133), (.ref b130), (.ref b130)])) rfl (by rw [hml]; rfl) (Steps.refl _) (a := b130) (argsL := [(.ref sa133), (.ref r_124), (.ref wO), (.int v14_t0), (.ref sa136), (.ref sa139), (.ref sa142), (.ref b145), (.ref wMap), (.ref wO)]) (rest := [(.ref b130)]) (lenOf pd_17 rfl) rfl (by show 2 * 0 + _ ≤ _; exact Nat.le_of_eq rfl) (hb hby at_194) (fun _ _ => ⟨rfl, e150, (by decide : 14 + 10 ≤ _), (by decide : 74 + 148 ≤ _)⟩)
        dsimp only [Pt.U, Pt.locs, Pt.cells, Pt.slots] at X151 l151 y151 z151 st151 hQ151 Y151 G151 C151
        subst l151 y151 z151
        obtain ⟨rfl, N151q, K151q, O151, f151_0, f151_1⟩ := hQ151
        have N151 := Fr.app N150 N151q
        obtain ⟨X151, Y151, hZ151, hown151⟩ := rebS Y142 (by rw [e150]; exact (Nat.le_trans (Nat.le_trans Yk142 E145.1) K148q.1)) X151 Y151 G151 hZ142 hown142
        have CR152 := CR149.trans (C151)
        have K151 := K148.trans K151q (allS (Or.inr sz_b130) all0)
        obtain ⟨cq153, kq153, q153a, q153b, q153c⟩ := isOf hZ151 rfl (((((((A130.ext E133).ext E136).ext E139).ext E142).ext E145).keep K148q).keep K151q)
        obtain ⟨_, _, ⟨T153, L153, k153, n153⟩, -, X153, ⟨Lc153, hQ153, l153, y153, z153⟩, st153⟩ := X151.virtualBack hx (y := (⟨"com/example/legacy_to_latest/legacytolatest/EntityClass", "getDiscriminatorKey", "()Ljava/util/Optional;"⟩ : MethodName)) (z := (⟨"com/example/legacy_to_latest/legacytolatest/EntityClass", "getDiscriminatorKey", "()Ljava/util/Optional;"⟩ : MethodName)) hown151 (mvT hZ151 (tw hw 179 rfl)) (mvT hZ151 (tw hw 180 rfl)) (notFace_of_selects (args := #[]) (mvT hZ151 (tw hw 182 rfl))) (mvT hZ151 (tw hw 182 rfl)) (mvT hZ151 (tw hw 181 rfl)) (by decide) (backOf (W := 0) (rm21_0 l Z a0 hw [] b130 wO T151.heap n0 O151 S_EMPTY f151_1) hZ151 (tw hw 183 rfl) (tw hw 40 rfl) (by decide) (by decide)) q153a q153c (g := (mkF m 201 #[It p1, It p2, It p3, It u1, It v8_t0, It v14_t0, It v20_t0, Rf b21, Rf v49_l8, Rf r_124, Rf wO, Rf wMap, Rf b130, .unset] [(.ref b130)])) rfl (by rw [hml]; rfl) (Steps.refl _) (argsL := []) (rest := []) (lenOf pd_11 rfl) rfl (by show 2 * 0 + _ ≤ _; exact Nat.le_of_eq rfl) (hb hby at_201) (fun _ _ => ⟨rfl, rfl, (by decide : 24 + 0 ≤ _), (by decide : 222 + 0 ≤ _)⟩)
        dsimp only [Pt.U, Pt.locs, Pt.cells, Pt.slots] at X153 l153 y153 z153 st153 hQ153
        subst l153 y153 z153
        obtain ⟨rfl, N153q, e153⟩ := hQ153
        have N153 := Fr.app N151 N153q
        obtain ⟨cq154, kq154, q154a, q154b, q154c⟩ := isOf hZ151 e153 ((((((((((((((hX_wO.ext O0.2).ext E21).wr W27).wr W33).keep K49).keep K124q).ext E130).ext E133).ext E136).ext E139).ext E142).ext E145).keep K148q).keep K151q)
        obtain ⟨_, _, ⟨T154, L154, k154, n154⟩, -, X154, ⟨Lc154, hQ154, l154, y154, z154⟩, st154⟩ := X153.virtualBack hx (y := (⟨"java/util/Optional", "isEmpty", "()Z"⟩ : MethodName)) (z := (⟨"java/util/Optional", "isEmpty", "()Z"⟩ : MethodName)) hown151 (mvT hZ151 (tw hw 185 rfl)) (mvT hZ151 (tw hw 186 rfl)) (notFace_of_selects (args := #[]) (mvT hZ151 (tw hw 188 rfl))) (mvT hZ151 (tw hw 188 rfl)) (mvT hZ151 (tw hw 187 rfl)) (by decide) (backOf (W := 0) (rm22_0 l Z a0 hw [] wO T151.heap n0 O151 ((((((((((((((hF_wO.ext O0.2).ext E21).other W27 (Or.inl (Nat.ne_of_lt (Nat.lt_of_lt_of_le (hX_wO.ext O0.2).lt (Nat.le_of_eq g21.symm))))).other W33 (Or.inl (Nat.ne_of_lt (Nat.lt_of_lt_of_le (hX_wO.ext O0.2).lt (Nat.le_of_eq g21.symm))))).keep K49 nin0).keep K124q nin0).ext E130).ext E133).ext E136).ext E139).ext E142).ext E145).keep K148q (ninS (Nat.ne_of_lt (Nat.lt_of_lt_of_le (((((((((((hX_wO.ext O0.2).ext E21).wr W27).wr W33).keep K49).keep K124q).ext E130).ext E133).ext E136).ext E139).ext E142).lt (Nat.le_of_eq g145.symm))) nin0)).keep K151q (ninS (Nat.ne_of_lt (Nat.lt_of_lt_of_le ((((((hX_wO.ext O0.2).ext E21).wr W27).wr W33).keep K49).keep K124q).lt (Nat.le_of_eq g130.symm))) nin0))) hZ151 (tw hw 189 rfl) (tw hw 29 rfl) (by decide) (by decide)) q154a q154c (g := (mkF m 288 #[It p1, It p2, It p3, It u1, It v8_t0, It v14_t0, It v20_t0, Rf b21, Rf v49_l8, Rf r_124, Rf wO, Rf wMap, Rf b130, Rf wO] [(.ref wO)])) rfl (by rw [hml]; rfl) (Steps.refl _) (argsL := []) (rest := []) (lenOf pd_9 rfl) rfl (by show 2 * 0 + _ ≤ _; exact Nat.le_of_eq rfl) (hb hby at_288) (fun _ _ => ⟨rfl, e153, (by decide : 24 + 0 ≤ _), (by decide : 222 + 0 ≤ _)⟩)
        dsimp only [Pt.U, Pt.locs, Pt.cells, Pt.slots] at X154 l154 y154 z154 st154 hQ154
        subst l154 y154 z154
        obtain ⟨rfl, N154q, e154⟩ := hQ154
        have N154 := Fr.app N153 N154q
        have sg155 : ∀ target, Steps p.tables e below (T154.setTop (mkF m 291 #[It p1, It p2, It p3, It u1, It v8_t0, It v14_t0, It v20_t0, Rf b21, Rf v49_l8, Rf r_124, Rf wO, Rf wMap, Rf b130, Rf wO] [(.int (1 : Int32))])) target → Steps p.tables e below (T124.setTop (mkF m 141 #[It p1, It p2, It p3, It u1, It v8_t0, It v14_t0, It v20_t0, Rf b21, Rf v49_l8, Rf r_124, .unset, .unset, .unset, .unset] [(.int v8_t0)])) target := by
          intro target kt
          show Steps p.tables e below (T124.setTop (mkF m 141 #[It p1, It p2, It p3, It u1, It v8_t0, It v14_t0, It v20_t0, Rf b21, Rf v49_l8, Rf r_124, .unset, .unset, .unset, .unset] [(.int v8_t0)])) _
          refine XS.ifYes X124.here hx rfl (pc0 := 141) (pc' := 154) rfl (hb hby at_141) rfl ((if0 _ _).trans (teq hc127).1) (by decide) (by decide) ?_
          show Steps p.tables e below (T124.setTop (mkF m 154 #[It p1, It p2, It p3, It u1, It v8_t0, It v14_t0, It v20_t0, Rf b21, Rf v49_l8, Rf r_124, .unset, .unset, .unset, .unset] [])) _
          refine st128 _ ?_
          show Steps p.tables e below (T128.setTop (mkF m 157 #[It p1, It p2, It p3, It u1, It v8_t0, It v14_t0, It v20_t0, Rf b21, Rf v49_l8, Rf r_124, .unset, .unset, .unset, .unset] [(.ref wO)])) _
          refine XS.astore X128.here hx rfl (hb hby at_157) rfl rfl (l' := #[It p1, It p2, It p3, It u1, It v8_t0, It v14_t0, It v20_t0, Rf b21, Rf v49_l8, Rf r_124, Rf wO, .unset, .unset, .unset]) rfl ?_
          show Steps p.tables e below (T128.setTop (mkF m 159 #[It p1, It p2, It p3, It u1, It v8_t0, It v14_t0, It v20_t0, Rf b21, Rf v49_l8, Rf r_124, Rf wO, .unset, .unset, .unset] [])) _
          refine st129 _ ?_
          show Steps p.tables e below (T129.setTop (mkF m 162 #[It p1, It p2, It p3, It u1, It v8_t0, It v14_t0, It v20_t0, Rf b21, Rf v49_l8, Rf r_124, Rf wO, .unset, .unset, .unset] [(.ref wMap)])) _
          refine XS.astore X129.here hx rfl (hb hby at_162) rfl rfl (l' := #[It p1, It p2, It p3, It u1, It v8_t0, It v14_t0, It v20_t0, Rf b21, Rf v49_l8, Rf r_124, Rf wO, Rf wMap, .unset, .unset]) rfl ?_
          show Steps p.tables e below (T129.setTop (mkF m 164 #[It p1, It p2, It p3, It u1, It v8_t0, It v14_t0, It v20_t0, Rf b21, Rf v49_l8, Rf r_124, Rf wO, Rf wMap, .unset, .unset] [])) _
          refine st130 _ ?_
          show Steps p.tables e below (T130.setTop (mkF m 167 #[It p1, It p2, It p3, It u1, It v8_t0, It v14_t0, It v20_t0, Rf b21, Rf v49_l8, Rf r_124, Rf wO, Rf wMap, .unset, .unset] [(.ref b130)])) _
          refine XS.dup X130.here hx rfl (hb hby at_167) rfl rfl ?_
          show Steps p.tables e below (T130.setTop (mkF m 168 #[It p1, It p2, It p3, It u1, It v8_t0, It v14_t0, It v20_t0, Rf b21, Rf v49_l8, Rf r_124, Rf wO, Rf wMap, .unset, .unset] [(.ref b130), (.ref b130)])) _
          refine st133 _ ?_
          show Steps p.tables e below (T133.setTop (mkF m 170 #[It p1, It p2, It p3, It u1, It v8_t0, It v14_t0, It v20_t0, Rf b21, Rf v49_l8, Rf r_124, Rf wO, Rf wMap, .unset, .unset] [(.ref sa133), (.ref b130), (.ref b130)])) _
          refine XS.aload X133.here hx rfl (hb hby at_170) rfl rfl ?_
          show Steps p.tables e below (T133.setTop (mkF m 172 #[It p1, It p2, It p3, It u1, It v8_t0, It v14_t0, It v20_t0, Rf b21, Rf v49_l8, Rf r_124, Rf wO, Rf wMap, .unset, .unset] [(.ref r_124), (.ref sa133), (.ref b130), (.ref b130)])) _
          refine XS.aload X133.here hx rfl (hb hby at_172) rfl rfl ?_
          show Steps p.tables e below (T133.setTop (mkF m 174 #[It p1, It p2, It p3, It u1, It v8_t0, It v14_t0, It v20_t0, Rf b21, Rf v49_l8, Rf r_124, Rf wO, Rf wMap, .unset, .unset] [(.ref wO), (.ref r_124), (.ref sa133), (.ref b130), (.ref b130)])) _
          refine XS.iload X133.here hx rfl (hb hby at_174) rfl ?_
          show Steps p.tables e below (T133.setTop (mkF m 176 #[It p1, It p2, It p3, It u1, It v8_t0, It v14_t0, It v20_t0, Rf b21, Rf v49_l8, Rf r_124, Rf wO, Rf wMap, .unset, .unset] [(.int v14_t0), (.ref wO), (.ref r_124), (.ref sa133), (.ref b130), (.ref b130)])) _
          refine st136 _ ?_
          show Steps p.tables e below (T136.setTop (mkF m 178 #[It p1, It p2, It p3, It u1, It v8_t0, It v14_t0, It v20_t0, Rf b21, Rf v49_l8, Rf r_124, Rf wO, Rf wMap, .unset, .unset] [(.ref sa136), (.int v14_t0), (.ref wO), (.ref r_124), (.ref sa133), (.ref b130), (.ref b130)])) _
          refine st139 _ ?_
          show Steps p.tables e below (T139.setTop (mkF m 180 #[It p1, It p2, It p3, It u1, It v8_t0, It v14_t0, It v20_t0, Rf b21, Rf v49_l8, Rf r_124, Rf wO, Rf wMap, .unset, .unset] [(.ref sa139), (.ref sa136), (.int v14_t0), (.ref wO), (.ref r_124), (.ref sa133), (.ref b130), (.ref b130)])) _
          refine st142 _ ?_
          show Steps p.tables e below (T142.setTop (mkF m 182 #[It p1, It p2, It p3, It u1, It v8_t0, It v14_t0, It v20_t0, Rf b21, Rf v49_l8, Rf r_124, Rf wO, Rf wMap, .unset, .unset] [(.ref sa142), (.ref sa139), (.ref sa136), (.int v14_t0), (.ref wO), (.ref r_124), (.ref sa133), (.ref b130), (.ref b130)])) _
          refine st145 _ ?_
          show Steps p.tables e below (T145.setTop (mkF m 185 #[It p1, It p2, It p3, It u1, It v8_t0, It v14_t0, It v20_t0, Rf b21, Rf v49_l8, Rf r_124, Rf wO, Rf wMap, .unset, .unset] [(.ref b145), (.ref sa142), (.ref sa139), (.ref sa136), (.int v14_t0), (.ref wO), (.ref r_124), (.ref sa133), (.ref b130), (.ref b130)])) _
          refine XS.dup X145.here hx rfl (hb hby at_185) rfl rfl ?_
          show Steps p.tables e below (T145.setTop (mkF m 186 #[It p1, It p2, It p3, It u1, It v8_t0, It v14_t0, It v20_t0, Rf b21, Rf v49_l8, Rf r_124, Rf wO, Rf wMap, .unset, .unset] [(.ref b145), (.ref b145), (.ref sa142), (.ref sa139), (.ref sa136), (.int v14_t0), (.ref wO), (.ref r_124), (.ref sa133), (.ref b130), (.ref b130)])) _
          refine st148.trans ?_
          show Steps p.tables e below (T148.setTop (mkF m 189 #[It p1, It p2, It p3, It u1, It v8_t0, It v14_t0, It v20_t0, Rf b21, Rf v49_l8, Rf r_124, Rf wO, Rf wMap, .unset, .unset] [(.ref b145), (.ref sa142), (.ref sa139), (.ref sa136), (.int v14_t0), (.ref wO), (.ref r_124), (.ref sa133), (.ref b130), (.ref b130)])) _
          refine XS.aload X148.here hx rfl (hb hby at_189) rfl rfl ?_
          show Steps p.tables e below (T148.setTop (mkF m 191 #[It p1, It p2, It p3, It u1, It v8_t0, It v14_t0, It v20_t0, Rf b21, Rf v49_l8, Rf r_124, Rf wO, Rf wMap, .unset, .unset] [(.ref wMap), (.ref b145), (.ref sa142), (.ref sa139), (.ref sa136), (.int v14_t0), (.ref wO), (.ref r_124), (.ref sa133), (.ref b130), (.ref b130)])) _
          refine st150 _ ?_
          show Steps p.tables e below (T150.setTop (mkF m 194 #[It p1, It p2, It p3, It u1, It v8_t0, It v14_t0, It v20_t0, Rf b21, Rf v49_l8, Rf r_124, Rf wO, Rf wMap, .unset, .unset] [(.ref wO), (.ref wMap), (.ref b145), (.ref sa142), (.ref sa139), (.ref sa136), (.int v14_t0), (.ref wO), (.ref r_124), (.ref sa133), (.ref b130), (.ref b130)])) _
          refine st151.trans ?_
          show Steps p.tables e below (T151.setTop (mkF m 197 #[It p1, It p2, It p3, It u1, It v8_t0, It v14_t0, It v20_t0, Rf b21, Rf v49_l8, Rf r_124, Rf wO, Rf wMap, .unset, .unset] [(.ref b130)])) _
          refine XS.astore X151.here hx rfl (hb hby at_197) rfl rfl (l' := #[It p1, It p2, It p3, It u1, It v8_t0, It v14_t0, It v20_t0, Rf b21, Rf v49_l8, Rf r_124, Rf wO, Rf wMap, Rf b130, .unset]) rfl ?_
          show Steps p.tables e below (T151.setTop (mkF m 199 #[It p1, It p2, It p3, It u1, It v8_t0, It v14_t0, It v20_t0, Rf b21, Rf v49_l8, Rf r_124, Rf wO, Rf wMap, Rf b130, .unset] [])) _
          refine XS.aload X151.here hx rfl (hb hby at_199) rfl rfl ?_
          show Steps p.tables e below (T151.setTop (mkF m 201 #[It p1, It p2, It p3, It u1, It v8_t0, It v14_t0, It v20_t0, Rf b21, Rf v49_l8, Rf r_124, Rf wO, Rf wMap, Rf b130, .unset] [(.ref b130)])) _
          refine st153.trans ?_
          show Steps p.tables e below (T153.setTop (mkF m 204 #[It p1, It p2, It p3, It u1, It v8_t0, It v14_t0, It v20_t0, Rf b21, Rf v49_l8, Rf r_124, Rf wO, Rf wMap, Rf b130, .unset] [(.ref wO)])) _
          refine XS.astore X153.here hx rfl (hb hby at_204) rfl rfl (l' := #[It p1, It p2, It p3, It u1, It v8_t0, It v14_t0, It v20_t0, Rf b21, Rf v49_l8, Rf r_124, Rf wO, Rf wMap, Rf b130, Rf wO]) rfl ?_
          show Steps p.tables e below (T153.setTop (mkF m 206 #[It p1, It p2, It p3, It u1, It v8_t0, It v14_t0, It v20_t0, Rf b21, Rf v49_l8, Rf r_124, Rf wO, Rf wMap, Rf b130, Rf wO] [])) _
          refine XS.iload X153.here hx rfl (hb hby at_206) rfl ?_
          show Steps p.tables e below (T153.setTop (mkF m 208 #[It p1, It p2, It p3, It u1, It v8_t0, It v14_t0, It v20_t0, Rf b21, Rf v49_l8, Rf r_124, Rf wO, Rf wMap, Rf b130, Rf wO] [(.int v8_t0)])) _
          refine XS.ifYes X153.here hx rfl (pc0 := 208) (pc' := 246) rfl (hb hby at_208) rfl ((if0 _ _).trans (teq hc127).1) (by decide) (by decide) ?_
          show Steps p.tables e below (T153.setTop (mkF m 246 #[It p1, It p2, It p3, It u1, It v8_t0, It v14_t0, It v20_t0, Rf b21, Rf v49_l8, Rf r_124, Rf wO, Rf wMap, Rf b130, Rf wO] [])) _
          refine XS.iload X153.here hx rfl (hb hby at_246) rfl ?_
          show Steps p.tables e below (T153.setTop (mkF m 248 #[It p1, It p2, It p3, It u1, It v8_t0, It v14_t0, It v20_t0, Rf b21, Rf v49_l8, Rf r_124, Rf wO, Rf wMap, Rf b130, Rf wO] [(.int v8_t0)])) _
          refine XS.ifYes X153.here hx rfl (pc0 := 248) (pc' := 286) rfl (hb hby at_248) rfl ((if0 _ _).trans (teq hc127).1) (by decide) (by decide) ?_
          show Steps p.tables e below (T153.setTop (mkF m 286 #[It p1, It p2, It p3, It u1, It v8_t0, It v14_t0, It v20_t0, Rf b21, Rf v49_l8, Rf r_124, Rf wO, Rf wMap, Rf b130, Rf wO] [])) _
          refine XS.aload X153.here hx rfl (hb hby at_286) rfl rfl ?_
          show Steps p.tables e below (T153.setTop (mkF m 288 #[It p1, It p2, It p3, It u1, It v8_t0, It v14_t0, It v20_t0, Rf b21, Rf v49_l8, Rf r_124, Rf wO, Rf wMap, Rf b130, Rf wO] [(.ref wO)])) _
          refine st154.trans ?_
          exact kt
        obtain ⟨fs, hr, hrun, hended, hRW⟩ := X154.leaveW Y151 (show _ ≤ T154.heap.size by rw [e154]; exact (Nat.le_refl _)) (v := some (.int (1 : Int32))) (fun h => by rw [Bd.returns] at h; cases h)
        refine ⟨_, _, pre0 _ (sg2 _ (sg3 _ (sg8 _ (sg9 _ (sg14 _ (sg15 _ (sg20 _ (sg25 _ (sg31 _ (sg36 _ (sg49 _ (sg50 _ (sg121 _ (sg126 _ (sg155 _ (?_)))))))))))))))), hrun, hended, _, _, rfl, ?_, (by rw [hh]; show CHr Z own_EL s.vm h0 T154.vm T154.heap; rw [e154]; exact CR152.trans (CHv.at X154 hZ151 hEL CR152.1)), hRW.1, hRW.2.1, hRW.2.2.1, hRW.2.2.2.mono (by decide) (by decide)⟩
        · show Steps p.tables e below (T154.setTop (mkF m 291 #[It p1, It p2, It p3, It u1, It v8_t0, It v14_t0, It v20_t0, Rf b21, Rf v49_l8, Rf r_124, Rf wO, Rf wMap, Rf b130, Rf wO] [(.int (1 : Int32))])) _
          exact retN X154 hx (t := .boolean) Bd.returns (by simp) (hb hby at_291) hr
        · show Q0 Z p1 p2 p3 s_w1 t_w1 kb_w1 s_w2 t_w2 kb_w2 zC wO wD wMap w1 w2 h0 n0 _ T154.heap _
          rw [e154]
          exact ⟨rfl, N154, K151, O151⟩
      · obtain ⟨_, _, ⟨T156, L156, k156, n156⟩, -, X156, ⟨Lc156, hQ156, l156, y156, z156⟩, st156⟩ := Jvm.LawKit.callS X124 hx (y := (⟨"java/util/Optional", "of", "(Ljava/lang/Object;)Ljava/util/Optional;"⟩ : MethodName)) hown49 (mvT hZ49 (tw hw 193 rfl)) (mvT hZ49 (tw hw 194 rfl)) (mvT hZ49 (tw hw 29 rfl)) (mvT hZ49 (tw hw 195 rfl)) (by decide) (backOf (W := 0) (rm23 l Z a0 hw [] v49_l8 T124.heap n0 O124 ) hZ49 (tw hw 195 rfl) (tw hw 29 rfl) (by decide) (by decide)) (g := (mkF m 146 #[It p1, It p2, It p3, It u1, It v8_t0, It v14_t0, It v20_t0, Rf b21, Rf v49_l8, Rf r_124, .unset, .unset, .unset, .unset] [(.ref v49_l8)])) rfl (by rw [hml]; rfl) (argsL := [(.ref v49_l8)]) (rest := []) (lenOf pd_13 rfl) rfl (by show 2 * 0 + _ ≤ _; exact Nat.le_of_eq rfl) (hb hby at_146) (fun _ _ => ⟨rfl, rfl, (by decide : 4 + 1 ≤ _), (by decide : 9 + 1 ≤ _)⟩)
        dsimp only [Pt.U, Pt.locs, Pt.cells, Pt.slots] at X156 l156 y156 z156 st156 hQ156
        subst l156 y156 z156
        obtain ⟨r_156, rfl, N156q, K156q, O156, f156_0, f156_1, f156_2, f156_3⟩ := hQ156
        have N156 := Fr.app N124 N156q
        have CR157 := CR125.trans (CHr.keep K156q all0 CR125.1)
        have K156 := K124.trans K156q all0
        obtain ⟨_, _, ⟨T158, L158, k158, n158⟩, -, X158, ⟨Lc158, hQ158, l158, y158, z158⟩, st158⟩ := Jvm.LawKit.callS X156 hx (y := (⟨"java/util/Map", "of", "()Ljava/util/Map;"⟩ : MethodName)) hown49 (mvT hZ49 (tw hw 32 rfl)) (mvT hZ49 (tw hw 33 rfl)) (mvT hZ49 (tw hw 34 rfl)) (mvT hZ49 (tw hw 35 rfl)) (by decide) (backOf (W := 0) (rm7 l Z a0 hw [] wMap T156.heap n0 O156 S_EMPTY_MAP) hZ49 (tw hw 35 rfl) (tw hw 34 rfl) (by decide) (by decide)) (g := (mkF m 159 #[It p1, It p2, It p3, It u1, It v8_t0, It v14_t0, It v20_t0, Rf b21, Rf v49_l8, Rf r_124, Rf r_156, .unset, .unset, .unset] [])) rfl (by rw [hml]; rfl) (argsL := []) (rest := []) (lenOf pd_16 rfl) rfl (by show 2 * 0 + _ ≤ _; exact Nat.le_of_eq rfl) (hb hby at_159) (fun _ _ => ⟨rfl, rfl, (by decide : 5 + 0 ≤ _), (by decide : 10 + 0 ≤ _)⟩)
        dsimp only [Pt.U, Pt.locs, Pt.cells, Pt.slots] at X158 l158 y158 z158 st158 hQ158
        subst l158 y158 z158
        obtain ⟨rfl, N158q, e158⟩ := hQ158
        have N158 := Fr.app N156 N158q
        obtain ⟨T159, h159, X159, e159, E159, A159, D159, -, st159⟩ := newO X158 hx hZ49 hown49 (tw hw 38 rfl) (tw hw 39 rfl) (tw hw 40 rfl) e158 (g := (mkF m 164 #[It p1, It p2, It p3, It u1, It v8_t0, It v14_t0, It v20_t0, Rf b21, Rf v49_l8, Rf r_124, Rf r_156, Rf wMap, .unset, .unset] [])) rfl (hb hby at_164) (by decide) (by decide)
        obtain ⟨b159, g159⟩ : ∃ z, z = T156.heap.size := ⟨_, rfl⟩
        rw [← g159] at A159 D159 st159
        have ge_b159 : n0 ≤ b159 := Nat.le_trans (own_osz O156) (Nat.le_of_eq g159.symm)
        have sz_b159 : h0.size ≤ b159 := Nat.le_trans K156.1 (Nat.le_of_eq g159.symm)
        have O160 := O156.ext E159
        have K159 := K156.ext E159
        have CR161 := CR157.trans (CHr.ext E159 CR157.1)
        have F_fields_b159 : Fld Z h159 b159 "com/example/legacy_to_latest/legacytolatest/EntityClass" "fields" "Ljava/util/Map;" .null := D159 (Or.inr (tw hw 101 rfl)) (ty := (.object "java/util/Map")) (by decide)
        have F_kind_b159 : Fld Z h159 b159 "com/example/legacy_to_latest/legacytolatest/EntityClass" "kind" "Ljava/lang/String;" .null := D159 (Or.inr (tw hw 109 rfl)) (ty := (.object "java/lang/String")) (by decide)
        have F_morphia_b159 : Fld Z h159 b159 "com/example/legacy_to_latest/legacytolatest/EntityClass" "morphia" "Lcom/example/legacy_to_latest/legacytolatest/EntityClass$Morphia;" .null := D159 (Or.inr (tw hw 118 rfl)) (ty := (.object "com/example/legacy_to_latest/legacytolatest/EntityClass$Morphia")) (by decide)
        have F_discriminator_b159 : Fld Z h159 b159 "com/example/legacy_to_latest/legacytolatest/EntityClass" "discriminator" "Ljava/lang/String;" .null := D159 (Or.inr (tw hw 120 rfl)) (ty := (.object "java/lang/String")) (by decide)
        have F_abstractClass_b159 : Fld Z h159 b159 "com/example/legacy_to_latest/legacytolatest/EntityClass" "abstractClass" "Z" (.int (0 : Int32)) := D159 (Or.inr (tw hw 122 rfl)) (ty := .boolean) (by decide)
        have F_className_b159 : Fld Z h159 b159 "com/example/legacy_to_latest/legacytolatest/EntityClass" "className" "Ljava/lang/String;" .null := D159 (Or.inr (tw hw 125 rfl)) (ty := (.object "java/lang/String")) (by decide)
        have F_binaryName_b159 : Fld Z h159 b159 "com/example/legacy_to_latest/legacytolatest/EntityClass" "binaryName" "Ljava/lang/String;" .null := D159 (Or.inr (tw hw 128 rfl)) (ty := (.object "java/lang/String")) (by decide)
        have F_source_b159 : Fld Z h159 b159 "com/example/legacy_to_latest/legacytolatest/EntityClass" "source" "Ljava/lang/String;" .null := D159 (Or.inr (tw hw 131 rfl)) (ty := (.object "java/lang/String")) (by decide)
        have F_keyParts_b159 : Fld Z h159 b159 "com/example/legacy_to_latest/legacytolatest/EntityClass" "keyParts" "Ljava/util/Map;" .null := D159 (Or.inr (tw hw 176 rfl)) (ty := (.object "java/util/Map")) (by decide)
        have F_unreadSuperclass_b159 : Fld Z h159 b159 "com/example/legacy_to_latest/legacytolatest/EntityClass" "unreadSuperclass" "Ljava/lang/String;" .null := D159 (Or.inr (tw hw 178 rfl)) (ty := (.object "java/lang/String")) (by decide)
        obtain ⟨sa162, T162, h162, k162, sb162, kb162, X162, e162, E162, Y162, Yk162, hZ162, hown162, A162, Fc162, Fv162, V162, la162, lb162, C162, Lt162, SF162, st162⟩ := ldcCH X159 hx hZ49 hown49 (tw hw 41 rfl) hSA e159 Y49 (Nat.le_trans (Nat.le_trans (Nat.le_trans Yk49 K124q.1) K156q.1) E159.1) hEL (own_mem (by decide)) CR161.1 (vs := [(.int (107 : Int32))]) (z := (1 : Int32)) (by decide) (by decide) (by decide) (g := (mkF m 168 #[It p1, It p2, It p3, It u1, It v8_t0, It v14_t0, It v20_t0, Rf b21, Rf v49_l8, Rf r_124, Rf r_156, Rf wMap, .unset, .unset] [(.ref b159), (.ref b159)])) rfl (hb hby at_168) (n := 4) (by decide) (by decide) (by decide) (by decide)
        have O163 := O160.ext E162
        have K162 := K159.ext E162
        have CR164 := CR161.trans (C162)
        obtain ⟨sa165, T165, h165, k165, sb165, kb165, X165, e165, E165, Y165, Yk165, hZ165, hown165, A165, Fc165, Fv165, V165, la165, lb165, C165, Lt165, SF165, st165⟩ := ldcCH X162 hx hZ162 hown162 (tw hw 44 rfl) hSA e162 Y162 Yk162 hEL (own_mem (by decide)) CR164.1 (vs := [(.int (67 : Int32))]) (z := (1 : Int32)) (by decide) (by decide) (by decide) (g := (mkF m 176 #[It p1, It p2, It p3, It u1, It v8_t0, It v14_t0, It v20_t0, Rf b21, Rf v49_l8, Rf r_124, Rf r_156, Rf wMap, .unset, .unset] [(.int v14_t0), (.ref r_156), (.ref r_124), (.ref sa162), (.ref b159), (.ref b159)])) rfl (hb hby at_176) (n := 4) (by decide) (by decide) (by decide) (by decide)
        have O166 := O163.ext E165
        have K165 := K162.ext E165
        have CR167 := CR164.trans (C165)
        obtain ⟨sa168, T168, h168, k168, sb168, kb168, X168, e168, E168, Y168, Yk168, hZ168, hown168, A168, Fc168, Fv168, V168, la168, lb168, C168, Lt168, SF168, st168⟩ := ldcCH X165 hx hZ165 hown165 (tw hw 44 rfl) hSA e165 Y165 Yk165 hEL (own_mem (by decide)) CR167.1 (vs := [(.int (67 : Int32))]) (z := (1 : Int32)) (by decide) (by decide) (by decide) (g := (mkF m 178 #[It p1, It p2, It p3, It u1, It v8_t0, It v14_t0, It v20_t0, Rf b21, Rf v49_l8, Rf r_124, Rf r_156, Rf wMap, .unset, .unset] [(.ref sa165), (.int v14_t0), (.ref r_156), (.ref r_124), (.ref sa162), (.ref b159), (.ref b159)])) rfl (hb hby at_178) (n := 4) (by decide) (by decide) (by decide) (by decide)
        have O169 := O166.ext E168
        have K168 := K165.ext E168
        have CR170 := CR167.trans (C168)
        obtain ⟨sa171, T171, h171, k171, sb171, kb171, X171, e171, E171, Y171, Yk171, hZ171, hown171, A171, Fc171, Fv171, V171, la171, lb171, C171, Lt171, SF171, st171⟩ := ldcCH X168 hx hZ168 hown168 (tw hw 45 rfl) hSA e168 Y168 Yk168 hEL (own_mem (by decide)) CR170.1 (vs := [(.int (67 : Int32)), (.int (46 : Int32)), (.int (106 : Int32)), (.int (97 : Int32)), (.int (118 : Int32)), (.int (97 : Int32))]) (z := (6 : Int32)) (by decide) (by decide) (by decide) (g := (mkF m 180 #[It p1, It p2, It p3, It u1, It v8_t0, It v14_t0, It v20_t0, Rf b21, Rf v49_l8, Rf r_124, Rf r_156, Rf wMap, .unset, .unset] [(.ref sa168), (.ref sa165), (.int v14_t0), (.ref r_156), (.ref r_124), (.ref sa162), (.ref b159), (.ref b159)])) rfl (hb hby at_180) (n := 24) (by decide) (by decide) (by decide) (by decide)
        have O172 := O169.ext E171
        have K171 := K168.ext E171
        have CR173 := CR170.trans (C171)
        obtain ⟨T174, h174, X174, e174, E174, A174, D174, -, st174⟩ := newO X171 hx hZ171 hown171 (tw hw 46 rfl) (tw hw 47 rfl) (tw hw 48 rfl) e171 (g := (mkF m 182 #[It p1, It p2, It p3, It u1, It v8_t0, It v14_t0, It v20_t0, Rf b21, Rf v49_l8, Rf r_124, Rf r_156, Rf wMap, .unset, .unset] [(.ref sa171), (.ref sa168), (.ref sa165), (.int v14_t0), (.ref r_156), (.ref r_124), (.ref sa162), (.ref b159), (.ref b159)])) rfl (hb hby at_182) (by decide) (by decide)
        obtain ⟨b174, g174⟩ : ∃ z, z = h171.size := ⟨_, rfl⟩
        rw [← g174] at A174 D174 st174
        have ge_b174 : n0 ≤ b174 := Nat.le_trans (own_osz O172) (Nat.le_of_eq g174.symm)
        have sz_b174 : h0.size ≤ b174 := Nat.le_trans K171.1 (Nat.le_of_eq g174.symm)
        have O175 := O172.ext E174
        have K174 := K171.ext E174
        have CR176 := CR173.trans (CHr.ext E174 CR173.1)
        have F_modCount_b174 : Fld Z h174 b174 "java/util/AbstractList" "modCount" "I" (.int (0 : Int32)) := D174 (Or.inl (tw hw 66 rfl)) (ty := .int) (by decide)
        have F_elementData_b174 : Fld Z h174 b174 "java/util/ArrayList" "elementData" "[Ljava/lang/Object;" .null := D174 (Or.inl (tw hw 69 rfl)) (ty := (.array (.object "java/lang/Object"))) (by decide)
        have F_size_b174 : Fld Z h174 b174 "java/util/ArrayList" "size" "I" (.int (0 : Int32)) := D174 (Or.inl (tw hw 169 rfl)) (ty := .int) (by decide)
        obtain ⟨_, _, ⟨T177, L177, k177, n177⟩, -, X177, ⟨Lc177, hQ177, l177, y177, z177⟩, st177⟩ := X174.specialBack hx (y := (⟨"java/util/ArrayList", "<init>", "()V"⟩ : MethodName)) rfl hown171 (mvT hZ171 (tw hw 49 rfl)) (mvT hZ171 (tw hw 50 rfl)) (mvT hZ171 (tw hw 51 rfl)) (by decide) (backOf (W := 10) (rm8 l Z a0 hw [] b174 wD h174 n0 O175 S_DEFAULTCAPACITY_EMPTY_ELEMENTDATA A174 F_modCount_b174 F_elementData_b174 F_size_b174 ge_b174) hZ171 (tw hw 51 rfl) (tw hw 48 rfl) (by decide) (by decide)) (g := (mkF m 186 #[It p1, It p2, It p3, It u1, It v8_t0, It v14_t0, It v20_t0, Rf b21, Rf v49_l8, Rf r_124, Rf r_156, Rf wMap, .unset, .unset] [(.ref b174), (.ref b174), (.ref sa171), (.ref sa168), (.ref sa165), (.int v14_t0), (.ref r_156), (.ref r_124), (.ref sa162), (.ref b159), (.ref b159)])) rfl (by rw [hml]; rfl) (Steps.refl _) (a := b174) (argsL := []) (rest := [(.ref b174), (.ref sa171), (.ref sa168), (.ref sa165), (.int v14_t0), (.ref r_156), (.ref r_124), (.ref sa162), (.ref b159), (.ref b159)]) (lenOf pd_5 rfl) rfl (by show 2 * 0 + _ ≤ _; exact Nat.le_of_eq rfl) (hb hby at_186) (fun _ _ => ⟨rfl, e174, (by decide : 15 + 0 ≤ _), (by decide : 75 + 0 ≤ _)⟩)
        dsimp only [Pt.U, Pt.locs, Pt.cells, Pt.slots] at X177 l177 y177 z177 st177 hQ177
        subst l177 y177 z177
        obtain ⟨rfl, N177q, K177q, O177, f177_0, f177_1⟩ := hQ177
        have N177 := Fr.app N158 N177q
        have CR178 := CR176.trans (CHr.keep K177q (allS (Safe.exa hZ171.alike A174 (by decide) (by decide)) all0) CR176.1)
        have K177 := K174.trans K177q (allS (Or.inr sz_b174) all0)
        obtain ⟨_, _, ⟨T179, L179, k179, n179⟩, -, X179, ⟨Lc179, hQ179, l179, y179, z179⟩, st179⟩ := Jvm.LawKit.callS X177 hx (y := (⟨"java/util/Optional", "empty", "()Ljava/util/Optional;"⟩ : MethodName)) hown171 (mvT hZ171 (tw hw 27 rfl)) (mvT hZ171 (tw hw 28 rfl)) (mvT hZ171 (tw hw 29 rfl)) (mvT hZ171 (tw hw 30 rfl)) (by decide) (backOf (W := 11) (rm6 l Z a0 hw [] wO T177.heap n0 O177 S_EMPTY) hZ171 (tw hw 30 rfl) (tw hw 29 rfl) (by decide) (by decide)) (g := (mkF m 191 #[It p1, It p2, It p3, It u1, It v8_t0, It v14_t0, It v20_t0, Rf b21, Rf v49_l8, Rf r_124, Rf r_156, Rf wMap, .unset, .unset] [(.ref wMap), (.ref b174), (.ref sa171), (.ref sa168), (.ref sa165), (.int v14_t0), (.ref r_156), (.ref r_124), (.ref sa162), (.ref b159), (.ref b159)])) rfl (by rw [hml]; rfl) (argsL := []) (rest := [(.ref wMap), (.ref b174), (.ref sa171), (.ref sa168), (.ref sa165), (.int v14_t0), (.ref r_156), (.ref r_124), (.ref sa162), (.ref b159), (.ref b159)]) (lenOf pd_11 rfl) rfl (by show 2 * 0 + _ ≤ _; exact Nat.le_of_eq rfl) (hb hby at_191) (fun _ _ => ⟨rfl, rfl, (by decide : 15 + 0 ≤ _), (by decide : 75 + 0 ≤ _)⟩)
        dsimp only [Pt.U, Pt.locs, Pt.cells, Pt.slots] at X179 l179 y179 z179 st179 hQ179
        subst l179 y179 z179
        obtain ⟨rfl, N179q, e179⟩ := hQ179
        have N179 := Fr.app N177 N179q
        obtain ⟨_, _, ⟨T180, L180, k180, n180⟩, -, X180, Y180, G180, ⟨Lc180, hQ180, l180, y180, z180, C180⟩, st180⟩ := X179.specialBackS hx (y := (⟨"com/example/legacy_to_latest/legacytolatest/EntityClass", "<init>", "(Ljava/lang/String;Ljava/util/Optional;Ljava/util/Optional;ZLjava/lang/String;Ljava/lang/String;Ljava/lang/String;Ljava/util/List;Ljava/util/Map;Ljava/util/Optional;)V"⟩ : MethodName)) rfl hown171 (mvT hZ171 (tw hw 70 rfl)) (mvT hZ171 (tw hw 71 rfl)) (mvT hZ171 (tw hw 72 rfl)) (by decide) (backOfSH (W := 1) (rm11_11 l Z a0 hw [] b159 sa162 r_124 r_156 v14_t0 sa165 sa168 sa171 b174 wMap wO w2 v49_l8 T177.heap n0 O177 ((((((A159.ext E162).ext E165).ext E168).ext E171).ext E174).keep K177q) ((((((F_fields_b159.ext E162).ext E165).ext E168).ext E171).ext E174).keep K177q (ninS (Nat.ne_of_lt (Nat.lt_of_lt_of_le ((((A159.ext E162).ext E165).ext E168).ext E171).lt (Nat.le_of_eq g174.symm))) nin0)) ((((((F_kind_b159.ext E162).ext E165).ext E168).ext E171).ext E174).keep K177q (ninS (Nat.ne_of_lt (Nat.lt_of_lt_of_le ((((A159.ext E162).ext E165).ext E168).ext E171).lt (Nat.le_of_eq g174.symm))) nin0)) ((((((F_morphia_b159.ext E162).ext E165).ext E168).ext E171).ext E174).keep K177q (ninS (Nat.ne_of_lt (Nat.lt_of_lt_of_le ((((A159.ext E162).ext E165).ext E168).ext E171).lt (Nat.le_of_eq g174.symm))) nin0)) ((((((F_discriminator_b159.ext E162).ext E165).ext E168).ext E171).ext E174).keep K177q (ninS (Nat.ne_of_lt (Nat.lt_of_lt_of_le ((((A159.ext E162).ext E165).ext E168).ext E171).lt (Nat.le_of_eq g174.symm))) nin0)) ((((((F_abstractClass_b159.ext E162).ext E165).ext E168).ext E171).ext E174).keep K177q (ninS (Nat.ne_of_lt (Nat.lt_of_lt_of_le ((((A159.ext E162).ext E165).ext E168).ext E171).lt (Nat.le_of_eq g174.symm))) nin0)) ((((((F_className_b159.ext E162).ext E165).ext E168).ext E171).ext E174).keep K177q (ninS (Nat.ne_of_lt (Nat.lt_of_lt_of_le ((((A159.ext E162).ext E165).ext E168).ext E171).lt (Nat.le_of_eq g174.symm))) nin0)) ((((((F_binaryName_b159.ext E162).ext E165).ext E168).ext E171).ext E174).keep K177q (ninS (Nat.ne_of_lt (Nat.lt_of_lt_of_le ((((A159.ext E162).ext E165).ext E168).ext E171).lt (Nat.le_of_eq g174.symm))) nin0)) ((((((F_source_b159.ext E162).ext E165).ext E168).ext E171).ext E174).keep K177q (ninS (Nat.ne_of_lt (Nat.lt_of_lt_of_le ((((A159.ext E162).ext E165).ext E168).ext E171).lt (Nat.le_of_eq g174.symm))) nin0)) ((((((F_keyParts_b159.ext E162).ext E165).ext E168).ext E171).ext E174).keep K177q (ninS (Nat.ne_of_lt (Nat.lt_of_lt_of_le ((((A159.ext E162).ext E165).ext E168).ext E171).lt (Nat.le_of_eq g174.symm))) nin0)) ((((((F_unreadSuperclass_b159.ext E162).ext E165).ext E168).ext E171).ext E174).keep K177q (ninS (Nat.ne_of_lt (Nat.lt_of_lt_of_le ((((A159.ext E162).ext E165).ext E168).ext E171).lt (Nat.le_of_eq g174.symm))) nin0)) ge_b159 (((((A162.ext E165).ext E168).ext E171).ext E174).keep K177q) ((((A165.ext E168).ext E171).ext E174).keep K177q) (((A168.ext E171).ext E174).keep K177q) ((A171.ext E174).keep K177q) ((((((((f124_2.keep K156q).ext E159).ext E162).ext E165).ext E168).ext E171).ext E174).keep K177q) ((((((((f124_3.keep K156q nin0).ext E159).ext E162).ext E165).ext E168).ext E171).ext E174).keep K177q (ninS (Nat.ne_of_lt (Nat.lt_of_lt_of_le ((((((f124_2.keep K156q).ext E159).ext E162).ext E165).ext E168).ext E171).lt (Nat.le_of_eq g174.symm))) nin0)) (((((((f156_2.ext E159).ext E162).ext E165).ext E168).ext E171).ext E174).keep K177q) (((((((f156_3.ext E159).ext E162).ext E165).ext E168).ext E171).ext E174).keep K177q (ninS (Nat.ne_of_lt (Nat.lt_of_lt_of_le (((((f156_2.ext E159).ext E162).ext E165).ext E168).ext E171).lt (Nat.le_of_eq g174.symm))) nin0)) ((((((((((((((hX_wO.ext O0.2).ext E21).wr W27).wr W33).keep K49).keep K124q).keep K156q).ext E159).ext E162).ext E165).ext E168).ext E171).ext E174).keep K177q) ((((((((((((((hF_wO.ext O0.2).ext E21).other W27 (Or.inl (Nat.ne_of_lt (Nat.lt_of_lt_of_le (hX_wO.ext O0.2).lt (Nat.le_of_eq g21.symm))))).other W33 (Or.inl (Nat.ne_of_lt (Nat.lt_of_lt_of_le (hX_wO.ext O0.2).lt (Nat.le_of_eq g21.symm))))).keep K49 nin0).keep K124q nin0).keep K156q nin0).ext E159).ext E162).ext E165).ext E168).ext E171).ext E174).keep K177q (ninS (Nat.ne_of_lt (Nat.lt_of_lt_of_le ((((((((((((hX_wO.ext O0.2).ext E21).wr W27).wr W33).keep K49).keep K124q).keep K156q).ext E159).ext E162).ext E165).ext E168).ext E171).lt (Nat.le_of_eq g174.symm))) nin0)) (A174.keep K177q) f177_0 f177_1 ((((((((((((((hX_wMap.ext O0.2).ext E21).wr W27).wr W33).keep K49).keep K124q).keep K156q).ext E159).ext E162).ext E165).ext E168).ext E171).ext E174).keep K177q) ((((((((((((((hX_w2.ext O0.2).ext E21).wr W27).wr W33).keep K49).keep K124q).keep K156q).ext E159).ext E162).ext E165).ext E168).ext E171).ext E174).keep K177q) (((((((((E_v49_l8.keep K124q).keep K156q).ext E159).ext E162).ext E165).ext E168).ext E171).ext E174).keep K177q)) hZ171 (tw hw 72 rfl) (tw hw 40 rfl) (by decide) (by decide) hEL CR178.1) (g := (mkF m 194 #[It p1, It p2, It p3, It u1, It v8_t0, It v14_t0, It v20_t0, Rf b21, Rf v49_l8, Rf r_124, Rf r_156, Rf wMap, .unset, .unset] [(.ref wO), (.ref wMap), (.ref b174), (.ref sa171), (.ref sa168), (.ref sa165), (.int v14_t0), (.ref r_156), (.ref r_124), (.ref sa162), (.ref b159), (.ref b159)])) rfl (by rw [hml]; rfl) (Steps.refl _) (a := b159) (argsL := [(.ref sa162), (.ref r_124), (.ref r_156), (.int v14_t0), (.ref sa165), (.ref sa168), (.ref sa171), (.ref b174), (.ref wMap), (.ref wO)]) (rest := [(.ref b159)]) (lenOf pd_17 rfl) rfl (by show 2 * 0 + _ ≤ _; exact Nat.le_of_eq rfl) (hb hby at_194) (fun _ _ => ⟨rfl, e179, (by decide : 15 + 10 ≤ _), (by decide : 75 + 148 ≤ _)⟩)
        dsimp only [Pt.U, Pt.locs, Pt.cells, Pt.slots] at X180 l180 y180 z180 st180 hQ180 Y180 G180 C180
        subst l180 y180 z180
        obtain ⟨rfl, N180q, K180q, O180, f180_0, f180_1⟩ := hQ180
        have N180 := Fr.app N179 N180q
        obtain ⟨X180, Y180, hZ180, hown180⟩ := rebS Y171 (by rw [e179]; exact (Nat.le_trans (Nat.le_trans Yk171 E174.1) K177q.1)) X180 Y180 G180 hZ171 hown171
        have CR181 := CR178.trans (C180)
        have K180 := K177.trans K180q (allS (Or.inr sz_b159) all0)
        obtain ⟨cq182, kq182, q182a, q182b, q182c⟩ := isOf hZ180 rfl (((((((A159.ext E162).ext E165).ext E168).ext E171).ext E174).keep K177q).keep K180q)
        obtain ⟨_, _, ⟨T182, L182, k182, n182⟩, -, X182, ⟨Lc182, hQ182, l182, y182, z182⟩, st182⟩ := X180.virtualBack hx (y := (⟨"com/example/legacy_to_latest/legacytolatest/EntityClass", "getDiscriminatorKey", "()Ljava/util/Optional;"⟩ : MethodName)) (z := (⟨"com/example/legacy_to_latest/legacytolatest/EntityClass", "getDiscriminatorKey", "()Ljava/util/Optional;"⟩ : MethodName)) hown180 (mvT hZ180 (tw hw 179 rfl)) (mvT hZ180 (tw hw 180 rfl)) (notFace_of_selects (args := #[]) (mvT hZ180 (tw hw 182 rfl))) (mvT hZ180 (tw hw 182 rfl)) (mvT hZ180 (tw hw 181 rfl)) (by decide) (backOf (W := 0) (rm21_2 l Z a0 hw [] b159 v49_l8 w2 s_w2 wO T180.heap n0 O180 S_EMPTY f180_1 f180_0 (((((((((((((((hX_w2.ext O0.2).ext E21).wr W27).wr W33).keep K49).keep K124q).keep K156q).ext E159).ext E162).ext E165).ext E168).ext E171).ext E174).keep K177q).keep K180q) (((((((((((((((hP_w2.ext O0.2).ext E21).other W27 (Or.inl (Nat.ne_of_lt (Nat.lt_of_lt_of_le (hX_w2.ext O0.2).lt (Nat.le_of_eq g21.symm))))).other W33 (Or.inl (Nat.ne_of_lt (Nat.lt_of_lt_of_le (hX_w2.ext O0.2).lt (Nat.le_of_eq g21.symm))))).keep K49 nin0).keep K124q nin0).keep K156q nin0).ext E159).ext E162).ext E165).ext E168).ext E171).ext E174).keep K177q (ninS (Nat.ne_of_lt (Nat.lt_of_lt_of_le ((((((((((((hX_w2.ext O0.2).ext E21).wr W27).wr W33).keep K49).keep K124q).keep K156q).ext E159).ext E162).ext E165).ext E168).ext E171).lt (Nat.le_of_eq g174.symm))) nin0)).keep K180q (ninS (Nat.ne_of_lt (Nat.lt_of_lt_of_le (((((((hX_w2.ext O0.2).ext E21).wr W27).wr W33).keep K49).keep K124q).keep K156q).lt (Nat.le_of_eq g159.symm))) nin0))) hZ180 (tw hw 183 rfl) (tw hw 40 rfl) (by decide) (by decide)) q182a q182c (g := (mkF m 201 #[It p1, It p2, It p3, It u1, It v8_t0, It v14_t0, It v20_t0, Rf b21, Rf v49_l8, Rf r_124, Rf r_156, Rf wMap, Rf b159, .unset] [(.ref b159)])) rfl (by rw [hml]; rfl) (Steps.refl _) (argsL := []) (rest := []) (lenOf pd_11 rfl) rfl (by show 2 * 0 + _ ≤ _; exact Nat.le_of_eq rfl) (hb hby at_201) (fun _ _ => ⟨rfl, rfl, (by decide : 25 + 1 ≤ _), (by decide : 223 + 1 ≤ _)⟩)
        dsimp only [Pt.U, Pt.locs, Pt.cells, Pt.slots] at X182 l182 y182 z182 st182 hQ182
        subst l182 y182 z182
        obtain ⟨r_182, rfl, N182q, K182q, O182, f182_0, f182_1, f182_2, f182_3⟩ := hQ182
        have N182 := Fr.app N180 N182q
        have CR183 := CR181.trans (CHr.keep K182q all0 CR181.1)
        have K182 := K180.trans K182q all0
        obtain ⟨cq184, kq184, q184a, q184b, q184c⟩ := isOf hZ180 rfl f182_2
        obtain ⟨_, _, ⟨T184, L184, k184, n184⟩, -, X184, ⟨Lc184, hQ184, l184, y184, z184⟩, st184⟩ := X182.virtualBack hx (y := (⟨"java/util/Optional", "isPresent", "()Z"⟩ : MethodName)) (z := (⟨"java/util/Optional", "isPresent", "()Z"⟩ : MethodName)) hown180 (mvT hZ180 (tw hw 235 rfl)) (mvT hZ180 (tw hw 236 rfl)) (notFace_of_selects (args := #[]) (mvT hZ180 (tw hw 238 rfl))) (mvT hZ180 (tw hw 238 rfl)) (mvT hZ180 (tw hw 237 rfl)) (by decide) (backOf (W := 0) (rm32_1 l Z a0 hw [] r_182 s_w2 T182.heap n0 O182 f182_3) hZ180 (tw hw 239 rfl) (tw hw 29 rfl) (by decide) (by decide)) q184a q184c (g := (mkF m 258 #[It p1, It p2, It p3, It u1, It v8_t0, It v14_t0, It v20_t0, Rf b21, Rf v49_l8, Rf r_124, Rf r_156, Rf wMap, Rf b159, Rf r_182] [(.ref r_182)])) rfl (by rw [hml]; rfl) (Steps.refl _) (argsL := []) (rest := []) (lenOf pd_9 rfl) rfl (by show 2 * 0 + _ ≤ _; exact Nat.le_of_eq rfl) (hb hby at_258) (fun _ _ => ⟨rfl, rfl, (by decide : 26 + 0 ≤ _), (by decide : 224 + 0 ≤ _)⟩)
        dsimp only [Pt.U, Pt.locs, Pt.cells, Pt.slots] at X184 l184 y184 z184 st184 hQ184
        subst l184 y184 z184
        obtain ⟨rfl, N184q, e184⟩ := hQ184
        have N184 := Fr.app N182 N184q
        obtain ⟨cq185, kq185, q185a, q185b, q185c⟩ := isOf hZ180 e184 f182_2
        obtain ⟨_, _, ⟨T185, L185, k185, n185⟩, -, X185, ⟨Lc185, hQ185, l185, y185, z185⟩, st185⟩ := X184.virtualBack hx (y := (⟨"java/util/Optional", "get", "()Ljava/lang/Object;"⟩ : MethodName)) (z := (⟨"java/util/Optional", "get", "()Ljava/lang/Object;"⟩ : MethodName)) hown180 (mvT hZ180 (tw hw 240 rfl)) (mvT hZ180 (tw hw 241 rfl)) (notFace_of_selects (args := #[]) (mvT hZ180 (tw hw 243 rfl))) (mvT hZ180 (tw hw 243 rfl)) (mvT hZ180 (tw hw 242 rfl)) (by decide) (backOf (W := 0) (rm33_1 l Z a0 hw [] r_182 s_w2 T182.heap n0 O182 f182_3) hZ180 (tw hw 244 rfl) (tw hw 29 rfl) (by decide) (by decide)) q185a q185c (g := (mkF m 266 #[It p1, It p2, It p3, It u1, It v8_t0, It v14_t0, It v20_t0, Rf b21, Rf v49_l8, Rf r_124, Rf r_156, Rf wMap, Rf b159, Rf r_182] [(.ref r_182)])) rfl (by rw [hml]; rfl) (Steps.refl _) (argsL := []) (rest := []) (lenOf pd_18 rfl) rfl (by show 2 * 0 + _ ≤ _; exact Nat.le_of_eq rfl) (hb hby at_266) (fun _ _ => ⟨rfl, e184, (by decide : 26 + 0 ≤ _), (by decide : 224 + 0 ≤ _)⟩)
        dsimp only [Pt.U, Pt.locs, Pt.cells, Pt.slots] at X185 l185 y185 z185 st185 hQ185
        subst l185 y185 z185
        obtain ⟨rfl, N185q, e185⟩ := hQ185
        have N185 := Fr.app N184 N185q
        obtain ⟨T186, X186, e186, st186⟩ := castY X185 hx hZ180 hown180 (tw hw 208 rfl) e185 (Ins.self ((((((((((((((((hE_w2.ext O0.2).ext E21).wr W27).wr W33).keep K49).keep K124q).keep K156q).ext E159).ext E162).ext E165).ext E168).ext E171).ext E174).keep K177q).keep K180q).keep K182q)) (g := (mkF m 269 #[It p1, It p2, It p3, It u1, It v8_t0, It v14_t0, It v20_t0, Rf b21, Rf v49_l8, Rf r_124, Rf r_156, Rf wMap, Rf b159, Rf r_182] [(.ref s_w2)])) rfl rfl (hb hby at_269)
        obtain ⟨sa187, T187, h187, k187, sb187, kb187, X187, e187, E187, Y187, Yk187, hZ187, hown187, A187, Fc187, Fv187, V187, la187, lb187, C187, Lt187, SF187, st187⟩ := ldcCH X186 hx hZ180 hown180 (tw hw 254 rfl) hSA e186 Y180 (Nat.le_trans (Nat.le_refl _) K182q.1) hEL (own_mem (by decide)) CR183.1 (vs := [(.int (95 : Int32)), (.int (116 : Int32))]) (z := (2 : Int32)) (by decide) (by decide) (by decide) (g := (mkF m 272 #[It p1, It p2, It p3, It u1, It v8_t0, It v14_t0, It v20_t0, Rf b21, Rf v49_l8, Rf r_124, Rf r_156, Rf wMap, Rf b159, Rf r_182] [(.ref s_w2)])) rfl (hb hby at_272) (n := 8) (by decide) (by decide) (by decide) (by decide)
        have O188 := O182.ext E187
        have K187 := K182.ext E187
        have CR189 := CR183.trans (C187)
        obtain ⟨cq190, kq190, q190a, q190b, q190c⟩ := isOf hZ187 e187 (((((((((((((((((hE_w2.ext O0.2).ext E21).wr W27).wr W33).keep K49).keep K124q).keep K156q).ext E159).ext E162).ext E165).ext E168).ext E171).ext E174).keep K177q).keep K180q).keep K182q).ext E187)
        obtain ⟨vv190, _, ⟨T190, L190, k190, n190⟩, -, X190, ⟨Lc190, hQ190, l190, y190, z190⟩, st190⟩ := X187.virtualBack hx (y := (⟨"java/lang/String", "equals", "(Ljava/lang/Object;)Z"⟩ : MethodName)) (z := (⟨"java/lang/String", "equals", "(Ljava/lang/Object;)Z"⟩ : MethodName)) hown187 (mvT hZ187 (tw hw 246 rfl)) (mvT hZ187 (tw hw 247 rfl)) (notFace_of_selects (args := #[]) (mvT hZ187 (tw hw 249 rfl))) (mvT hZ187 (tw hw 249 rfl)) (mvT hZ187 (tw hw 248 rfl)) (by decide) (StrChars.Road.eqW (W := 0) hZ187 (own_we hw) (kI := 4) (tw hw 11 rfl) (((((((((((((((((hE_w2.ext O0.2).ext E21).wr W27).wr W33).keep K49).keep K124q).keep K156q).ext E159).ext E162).ext E165).ext E168).ext E171).ext E174).keep K177q).keep K180q).keep K182q).ext E187) (((((((((((((((((hV_w2.ext O0.2).ext E21).other W27 (Or.inl (Nat.ne_of_lt (Nat.lt_of_lt_of_le (hE_w2.ext O0.2).lt (Nat.le_of_eq g21.symm))))).other W33 (Or.inl (Nat.ne_of_lt (Nat.lt_of_lt_of_le (hE_w2.ext O0.2).lt (Nat.le_of_eq g21.symm))))).keep K49 nin0).keep K124q nin0).keep K156q nin0).ext E159).ext E162).ext E165).ext E168).ext E171).ext E174).keep K177q (ninS (Nat.ne_of_lt (Nat.lt_of_lt_of_le ((((((((((((hE_w2.ext O0.2).ext E21).wr W27).wr W33).keep K49).keep K124q).keep K156q).ext E159).ext E162).ext E165).ext E168).ext E171).lt (Nat.le_of_eq g174.symm))) nin0)).keep K180q (ninS (Nat.ne_of_lt (Nat.lt_of_lt_of_le (((((((hE_w2.ext O0.2).ext E21).wr W27).wr W33).keep K49).keep K124q).keep K156q).lt (Nat.le_of_eq g159.symm))) nin0)).keep K182q nin0).ext E187) (((((((((((((((((hC_w2.ext O0.2).ext E21).other W27 (Or.inl (Nat.ne_of_lt (Nat.lt_of_lt_of_le (hE_w2.ext O0.2).lt (Nat.le_of_eq g21.symm))))).other W33 (Or.inl (Nat.ne_of_lt (Nat.lt_of_lt_of_le (hE_w2.ext O0.2).lt (Nat.le_of_eq g21.symm))))).keep K49 nin0).keep K124q nin0).keep K156q nin0).ext E159).ext E162).ext E165).ext E168).ext E171).ext E174).keep K177q (ninS (Nat.ne_of_lt (Nat.lt_of_lt_of_le ((((((((((((hE_w2.ext O0.2).ext E21).wr W27).wr W33).keep K49).keep K124q).keep K156q).ext E159).ext E162).ext E165).ext E168).ext E171).lt (Nat.le_of_eq g174.symm))) nin0)).keep K180q (ninS (Nat.ne_of_lt (Nat.lt_of_lt_of_le (((((((hE_w2.ext O0.2).ext E21).wr W27).wr W33).keep K49).keep K124q).keep K156q).lt (Nat.le_of_eq g159.symm))) nin0)).keep K182q nin0).ext E187) (((((((((((((((((hA_w2.ext O0.2).ext E21).other W27 (Nat.ne_of_lt (Nat.lt_of_lt_of_le (hA_w2.ext O0.2).lt (Nat.le_of_eq g21.symm)))).other W33 (Nat.ne_of_lt (Nat.lt_of_lt_of_le (hA_w2.ext O0.2).lt (Nat.le_of_eq g21.symm)))).keep K49 nin0).keep K124q nin0).keep K156q nin0).ext E159).ext E162).ext E165).ext E168).ext E171).ext E174).keep K177q (ninS (Nat.ne_of_lt (Nat.lt_of_lt_of_le ((((((((((((hA_w2.ext O0.2).ext E21).other W27 (Nat.ne_of_lt (Nat.lt_of_lt_of_le (hA_w2.ext O0.2).lt (Nat.le_of_eq g21.symm)))).other W33 (Nat.ne_of_lt (Nat.lt_of_lt_of_le (hA_w2.ext O0.2).lt (Nat.le_of_eq g21.symm)))).keep K49 nin0).keep K124q nin0).keep K156q nin0).ext E159).ext E162).ext E165).ext E168).ext E171).lt (Nat.le_of_eq g174.symm))) nin0)).keep K180q (ninS (Nat.ne_of_lt (Nat.lt_of_lt_of_le (((((((hA_w2.ext O0.2).ext E21).other W27 (Nat.ne_of_lt (Nat.lt_of_lt_of_le (hA_w2.ext O0.2).lt (Nat.le_of_eq g21.symm)))).other W33 (Nat.ne_of_lt (Nat.lt_of_lt_of_le (hA_w2.ext O0.2).lt (Nat.le_of_eq g21.symm)))).keep K49 nin0).keep K124q nin0).keep K156q nin0).lt (Nat.le_of_eq g159.symm))) nin0)).keep K182q nin0).ext E187) (own_cod (own_latD (cs := ([95, 116] : List Int32)) (by decide) (by decide))) (own_up (own_latD (cs := ([95, 116] : List Int32)) (by decide) (by decide))) (own_latD (cs := ([95, 116] : List Int32)) (by decide) (by decide)).2 A187 Fv187 Fc187 V187 (own_cod (own_latD (cs := ([95, 116] : List Int32)) (by decide) (by decide))) (own_up (own_latD (cs := ([95, 116] : List Int32)) (by decide) (by decide))) (own_latD (cs := ([95, 116] : List Int32)) (by decide) (by decide)).2 (S_COMPACT_STRINGS.ext O188.2) hCS (by decide) (by decide)) q190a q190c (g := (mkF m 274 #[It p1, It p2, It p3, It u1, It v8_t0, It v14_t0, It v20_t0, Rf b21, Rf v49_l8, Rf r_124, Rf r_156, Rf wMap, Rf b159, Rf r_182] [(.ref sa187), (.ref s_w2)])) rfl (by rw [hml]; rfl) (Steps.refl _) (argsL := [(.ref sa187)]) (rest := []) (lenOf pd_19 rfl) rfl (by show 2 * 0 + _ ≤ _; exact Nat.le_of_eq rfl) (hb hby at_274) (fun _ _ => ⟨rfl, e187, (by decide : 28 + 0 ≤ _), (by decide : 236 + 0 ≤ _)⟩)
        dsimp only [Pt.U, Pt.locs, Pt.cells, Pt.slots] at X190 l190 y190 z190 st190 hQ190
        subst l190 y190 z190
        obtain ⟨hcase190, rfl, e190⟩ := hQ190
        have hv190 : vv190 = some (Value.int 1) := hcase190.elim (fun q => q.1) (fun q => absurd rfl q.2)
        subst hv190
        have N190 := Fr.app N185 (Fr.nil n0)
        have sg191 : ∀ target, Steps p.tables e below (T190.setTop (mkF m 285 #[It p1, It p2, It p3, It u1, It v8_t0, It v14_t0, It v20_t0, Rf b21, Rf v49_l8, Rf r_124, Rf r_156, Rf wMap, Rf b159, Rf r_182] [(.int (1 : Int32))])) target → Steps p.tables e below (T124.setTop (mkF m 141 #[It p1, It p2, It p3, It u1, It v8_t0, It v14_t0, It v20_t0, Rf b21, Rf v49_l8, Rf r_124, .unset, .unset, .unset, .unset] [(.int v8_t0)])) target := by
          intro target kt
          show Steps p.tables e below (T124.setTop (mkF m 141 #[It p1, It p2, It p3, It u1, It v8_t0, It v14_t0, It v20_t0, Rf b21, Rf v49_l8, Rf r_124, .unset, .unset, .unset, .unset] [(.int v8_t0)])) _
          refine XS.ifNo X124.here hx rfl (hb hby at_141) rfl ((if0 _ _).trans (feq hc127).1) ?_
          show Steps p.tables e below (T124.setTop (mkF m 144 #[It p1, It p2, It p3, It u1, It v8_t0, It v14_t0, It v20_t0, Rf b21, Rf v49_l8, Rf r_124, .unset, .unset, .unset, .unset] [])) _
          refine XS.aload X124.here hx rfl (hb hby at_144) rfl rfl ?_
          show Steps p.tables e below (T124.setTop (mkF m 146 #[It p1, It p2, It p3, It u1, It v8_t0, It v14_t0, It v20_t0, Rf b21, Rf v49_l8, Rf r_124, .unset, .unset, .unset, .unset] [(.ref v49_l8)])) _
          refine st156 _ ?_
          show Steps p.tables e below (T156.setTop (mkF m 149 #[It p1, It p2, It p3, It u1, It v8_t0, It v14_t0, It v20_t0, Rf b21, Rf v49_l8, Rf r_124, .unset, .unset, .unset, .unset] [(.ref r_156)])) _
          refine XS.astore X156.here hx rfl (hb hby at_149) rfl rfl (l' := #[It p1, It p2, It p3, It u1, It v8_t0, It v14_t0, It v20_t0, Rf b21, Rf v49_l8, Rf r_124, Rf r_156, .unset, .unset, .unset]) rfl ?_
          show Steps p.tables e below (T156.setTop (mkF m 151 #[It p1, It p2, It p3, It u1, It v8_t0, It v14_t0, It v20_t0, Rf b21, Rf v49_l8, Rf r_124, Rf r_156, .unset, .unset, .unset] [])) _
          refine XS.goto X156.here hx rfl (pc0 := 151) (pc' := 159) rfl (hb hby at_151) (by decide) (by decide) ?_
          show Steps p.tables e below (T156.setTop (mkF m 159 #[It p1, It p2, It p3, It u1, It v8_t0, It v14_t0, It v20_t0, Rf b21, Rf v49_l8, Rf r_124, Rf r_156, .unset, .unset, .unset] [])) _
          refine st158 _ ?_
          show Steps p.tables e below (T158.setTop (mkF m 162 #[It p1, It p2, It p3, It u1, It v8_t0, It v14_t0, It v20_t0, Rf b21, Rf v49_l8, Rf r_124, Rf r_156, .unset, .unset, .unset] [(.ref wMap)])) _
          refine XS.astore X158.here hx rfl (hb hby at_162) rfl rfl (l' := #[It p1, It p2, It p3, It u1, It v8_t0, It v14_t0, It v20_t0, Rf b21, Rf v49_l8, Rf r_124, Rf r_156, Rf wMap, .unset, .unset]) rfl ?_
          show Steps p.tables e below (T158.setTop (mkF m 164 #[It p1, It p2, It p3, It u1, It v8_t0, It v14_t0, It v20_t0, Rf b21, Rf v49_l8, Rf r_124, Rf r_156, Rf wMap, .unset, .unset] [])) _
          refine st159 _ ?_
          show Steps p.tables e below (T159.setTop (mkF m 167 #[It p1, It p2, It p3, It u1, It v8_t0, It v14_t0, It v20_t0, Rf b21, Rf v49_l8, Rf r_124, Rf r_156, Rf wMap, .unset, .unset] [(.ref b159)])) _
          refine XS.dup X159.here hx rfl (hb hby at_167) rfl rfl ?_
          show Steps p.tables e below (T159.setTop (mkF m 168 #[It p1, It p2, It p3, It u1, It v8_t0, It v14_t0, It v20_t0, Rf b21, Rf v49_l8, Rf r_124, Rf r_156, Rf wMap, .unset, .unset] [(.ref b159), (.ref b159)])) _
          refine st162 _ ?_
          show Steps p.tables e below (T162.setTop (mkF m 170 #[It p1, It p2, It p3, It u1, It v8_t0, It v14_t0, It v20_t0, Rf b21, Rf v49_l8, Rf r_124, Rf r_156, Rf wMap, .unset, .unset] [(.ref sa162), (.ref b159), (.ref b159)])) _
          refine XS.aload X162.here hx rfl (hb hby at_170) rfl rfl ?_
          show Steps p.tables e below (T162.setTop (mkF m 172 #[It p1, It p2, It p3, It u1, It v8_t0, It v14_t0, It v20_t0, Rf b21, Rf v49_l8, Rf r_124, Rf r_156, Rf wMap, .unset, .unset] [(.ref r_124), (.ref sa162), (.ref b159), (.ref b159)])) _
          refine XS.aload X162.here hx rfl (hb hby at_172) rfl rfl ?_
          show Steps p.tables e below (T162.setTop (mkF m 174 #[It p1, It p2, It p3, It u1, It v8_t0, It v14_t0, It v20_t0, Rf b21, Rf v49_l8, Rf r_124, Rf r_156, Rf wMap, .unset, .unset] [(.ref r_156), (.ref r_124), (.ref sa162), (.ref b159), (.ref b159)])) _
          refine XS.iload X162.here hx rfl (hb hby at_174) rfl ?_
          show Steps p.tables e below (T162.setTop (mkF m 176 #[It p1, It p2, It p3, It u1, It v8_t0, It v14_t0, It v20_t0, Rf b21, Rf v49_l8, Rf r_124, Rf r_156, Rf wMap, .unset, .unset] [(.int v14_t0), (.ref r_156), (.ref r_124), (.ref sa162), (.ref b159), (.ref b159)])) _
          refine st165 _ ?_
          show Steps p.tables e below (T165.setTop (mkF m 178 #[It p1, It p2, It p3, It u1, It v8_t0, It v14_t0, It v20_t0, Rf b21, Rf v49_l8, Rf r_124, Rf r_156, Rf wMap, .unset, .unset] [(.ref sa165), (.int v14_t0), (.ref r_156), (.ref r_124), (.ref sa162), (.ref b159), (.ref b159)])) _
          refine st168 _ ?_
          show Steps p.tables e below (T168.setTop (mkF m 180 #[It p1, It p2, It p3, It u1, It v8_t0, It v14_t0, It v20_t0, Rf b21, Rf v49_l8, Rf r_124, Rf r_156, Rf wMap, .unset, .unset] [(.ref sa168), (.ref sa165), (.int v14_t0), (.ref r_156), (.ref r_124), (.ref sa162), (.ref b159), (.ref b159)])) _
          refine st171 _ ?_
          show Steps p.tables e below (T171.setTop (mkF m 182 #[It p1, It p2, It p3, It u1, It v8_t0, It v14_t0, It v20_t0, Rf b21, Rf v49_l8, Rf r_124, Rf r_156, Rf wMap, .unset, .unset] [(.ref sa171), (.ref sa168), (.ref sa165), (.int v14_t0), (.ref r_156), (.ref r_124), (.ref sa162), (.ref b159), (.ref b159)])) _
          refine st174 _ ?_
          show Steps p.tables e below (T174.setTop (mkF m 185 #[It p1, It p2, It p3, It u1, It v8_t0, It v14_t0, It v20_t0, Rf b21, Rf v49_l8, Rf r_124, Rf r_156, Rf wMap, .unset, .unset] [(.ref b174), (.ref sa171), (.ref sa168), (.ref sa165), (.int v14_t0), (.ref r_156), (.ref r_124), (.ref sa162), (.ref b159), (.ref b159)])) _
          refine XS.dup X174.here hx rfl (hb hby at_185) rfl rfl ?_
          show Steps p.tables e below (T174.setTop (mkF m 186 #[It p1, It p2, It p3, It u1, It v8_t0, It v14_t0, It v20_t0, Rf b21, Rf v49_l8, Rf r_124, Rf r_156, Rf wMap, .unset, .unset] [(.ref b174), (.ref b174), (.ref sa171), (.ref sa168), (.ref sa165), (.int v14_t0), (.ref r_156), (.ref r_124), (.ref sa162), (.ref b159), (.ref b159)])) _
          refine st177.trans ?_
          show Steps p.tables e below (T177.setTop (mkF m 189 #[It p1, It p2, It p3, It u1, It v8_t0, It v14_t0, It v20_t0, Rf b21, Rf v49_l8, Rf r_124, Rf r_156, Rf wMap, .unset, .unset] [(.ref b174), (.ref sa171), (.ref sa168), (.ref sa165), (.int v14_t0), (.ref r_156), (.ref r_124), (.ref sa162), (.ref b159), (.ref b159)])) _
          refine XS.aload X177.here hx rfl (hb hby at_189) rfl rfl ?_
          show Steps p.tables e below (T177.setTop (mkF m 191 #[It p1, It p2, It p3, It u1, It v8_t0, It v14_t0, It v20_t0, Rf b21, Rf v49_l8, Rf r_124, Rf r_156, Rf wMap, .unset, .unset] [(.ref wMap), (.ref b174), (.ref sa171), (.ref sa168), (.ref sa165), (.int v14_t0), (.ref r_156), (.ref r_124), (.ref sa162), (.ref b159), (.ref b159)])) _
          refine st179 _ ?_
          show Steps p.tables e below (T179.setTop (mkF m 194 #[It p1, It p2, It p3, It u1, It v8_t0, It v14_t0, It v20_t0, Rf b21, Rf v49_l8, Rf r_124, Rf r_156, Rf wMap, .unset, .unset] [(.ref wO), (.ref wMap), (.ref b174), (.ref sa171), (.ref sa168), (.ref sa165), (.int v14_t0), (.ref r_156), (.ref r_124), (.ref sa162), (.ref b159), (.ref b159)])) _
          refine st180.trans ?_
          show Steps p.tables e below (T180.setTop (mkF m 197 #[It p1, It p2, It p3, It u1, It v8_t0, It v14_t0, It v20_t0, Rf b21, Rf v49_l8, Rf r_124, Rf r_156, Rf wMap, .unset, .unset] [(.ref b159)])) _
          refine XS.astore X180.here hx rfl (hb hby at_197) rfl rfl (l' := #[It p1, It p2, It p3, It u1, It v8_t0, It v14_t0, It v20_t0, Rf b21, Rf v49_l8, Rf r_124, Rf r_156, Rf wMap, Rf b159, .unset]) rfl ?_
          show Steps p.tables e below (T180.setTop (mkF m 199 #[It p1, It p2, It p3, It u1, It v8_t0, It v14_t0, It v20_t0, Rf b21, Rf v49_l8, Rf r_124, Rf r_156, Rf wMap, Rf b159, .unset] [])) _
          refine XS.aload X180.here hx rfl (hb hby at_199) rfl rfl ?_
          show Steps p.tables e below (T180.setTop (mkF m 201 #[It p1, It p2, It p3, It u1, It v8_t0, It v14_t0, It v20_t0, Rf b21, Rf v49_l8, Rf r_124, Rf r_156, Rf wMap, Rf b159, .unset] [(.ref b159)])) _
          refine st182.trans ?_
          show Steps p.tables e below (T182.setTop (mkF m 204 #[It p1, It p2, It p3, It u1, It v8_t0, It v14_t0, It v20_t0, Rf b21, Rf v49_l8, Rf r_124, Rf r_156, Rf wMap, Rf b159, .unset] [(.ref r_182)])) _
          refine XS.astore X182.here hx rfl (hb hby at_204) rfl rfl (l' := #[It p1, It p2, It p3, It u1, It v8_t0, It v14_t0, It v20_t0, Rf b21, Rf v49_l8, Rf r_124, Rf r_156, Rf wMap, Rf b159, Rf r_182]) rfl ?_
          show Steps p.tables e below (T182.setTop (mkF m 206 #[It p1, It p2, It p3, It u1, It v8_t0, It v14_t0, It v20_t0, Rf b21, Rf v49_l8, Rf r_124, Rf r_156, Rf wMap, Rf b159, Rf r_182] [])) _
          refine XS.iload X182.here hx rfl (hb hby at_206) rfl ?_
          show Steps p.tables e below (T182.setTop (mkF m 208 #[It p1, It p2, It p3, It u1, It v8_t0, It v14_t0, It v20_t0, Rf b21, Rf v49_l8, Rf r_124, Rf r_156, Rf wMap, Rf b159, Rf r_182] [(.int v8_t0)])) _
          refine XS.ifNo X182.here hx rfl (hb hby at_208) rfl ((if0 _ _).trans (feq hc127).1) ?_
          show Steps p.tables e below (T182.setTop (mkF m 211 #[It p1, It p2, It p3, It u1, It v8_t0, It v14_t0, It v20_t0, Rf b21, Rf v49_l8, Rf r_124, Rf r_156, Rf wMap, Rf b159, Rf r_182] [])) _
          refine XS.iloadN X182.here hx rfl (hb hby at_211) rfl ?_
          show Steps p.tables e below (T182.setTop (mkF m 212 #[It p1, It p2, It p3, It u1, It v8_t0, It v14_t0, It v20_t0, Rf b21, Rf v49_l8, Rf r_124, Rf r_156, Rf wMap, Rf b159, Rf r_182] [(.int u1)])) _
          refine XS.iconst X182.here hx rfl (hb hby at_212) ?_
          show Steps p.tables e below (T182.setTop (mkF m 213 #[It p1, It p2, It p3, It u1, It v8_t0, It v14_t0, It v20_t0, Rf b21, Rf v49_l8, Rf r_124, Rf r_156, Rf wMap, Rf b159, Rf r_182] [(.int (1 : Int32)), (.int u1)])) _
          refine XS.icmpYes X182.here hx rfl (pc0 := 213) (pc' := 246) rfl (hb hby at_213) rfl (feq hc51).2 (by decide) (by decide) ?_
          show Steps p.tables e below (T182.setTop (mkF m 246 #[It p1, It p2, It p3, It u1, It v8_t0, It v14_t0, It v20_t0, Rf b21, Rf v49_l8, Rf r_124, Rf r_156, Rf wMap, Rf b159, Rf r_182] [])) _
          refine XS.iload X182.here hx rfl (hb hby at_246) rfl ?_
          show Steps p.tables e below (T182.setTop (mkF m 248 #[It p1, It p2, It p3, It u1, It v8_t0, It v14_t0, It v20_t0, Rf b21, Rf v49_l8, Rf r_124, Rf r_156, Rf wMap, Rf b159, Rf r_182] [(.int v8_t0)])) _
          refine XS.ifNo X182.here hx rfl (hb hby at_248) rfl ((if0 _ _).trans (feq hc127).1) ?_
          show Steps p.tables e below (T182.setTop (mkF m 251 #[It p1, It p2, It p3, It u1, It v8_t0, It v14_t0, It v20_t0, Rf b21, Rf v49_l8, Rf r_124, Rf r_156, Rf wMap, Rf b159, Rf r_182] [])) _
          refine XS.iloadN X182.here hx rfl (hb hby at_251) rfl ?_
          show Steps p.tables e below (T182.setTop (mkF m 252 #[It p1, It p2, It p3, It u1, It v8_t0, It v14_t0, It v20_t0, Rf b21, Rf v49_l8, Rf r_124, Rf r_156, Rf wMap, Rf b159, Rf r_182] [(.int u1)])) _
          refine XS.iconst X182.here hx rfl (hb hby at_252) ?_
          show Steps p.tables e below (T182.setTop (mkF m 253 #[It p1, It p2, It p3, It u1, It v8_t0, It v14_t0, It v20_t0, Rf b21, Rf v49_l8, Rf r_124, Rf r_156, Rf wMap, Rf b159, Rf r_182] [(.int (2 : Int32)), (.int u1)])) _
          refine XS.icmpNo X182.here hx rfl (hb hby at_253) rfl (teq hc122).2 ?_
          show Steps p.tables e below (T182.setTop (mkF m 256 #[It p1, It p2, It p3, It u1, It v8_t0, It v14_t0, It v20_t0, Rf b21, Rf v49_l8, Rf r_124, Rf r_156, Rf wMap, Rf b159, Rf r_182] [])) _
          refine XS.aload X182.here hx rfl (hb hby at_256) rfl rfl ?_
          show Steps p.tables e below (T182.setTop (mkF m 258 #[It p1, It p2, It p3, It u1, It v8_t0, It v14_t0, It v20_t0, Rf b21, Rf v49_l8, Rf r_124, Rf r_156, Rf wMap, Rf b159, Rf r_182] [(.ref r_182)])) _
          refine st184.trans ?_
          show Steps p.tables e below (T184.setTop (mkF m 261 #[It p1, It p2, It p3, It u1, It v8_t0, It v14_t0, It v20_t0, Rf b21, Rf v49_l8, Rf r_124, Rf r_156, Rf wMap, Rf b159, Rf r_182] [(.int (1 : Int32))])) _
          refine XS.ifNo X184.here hx rfl (hb hby at_261) rfl ((if0 _ _).trans (feq (by decide : ¬ ((1 : Int32) = (0 : Int32)))).1) ?_
          show Steps p.tables e below (T184.setTop (mkF m 264 #[It p1, It p2, It p3, It u1, It v8_t0, It v14_t0, It v20_t0, Rf b21, Rf v49_l8, Rf r_124, Rf r_156, Rf wMap, Rf b159, Rf r_182] [])) _
          refine XS.aload X184.here hx rfl (hb hby at_264) rfl rfl ?_
          show Steps p.tables e below (T184.setTop (mkF m 266 #[It p1, It p2, It p3, It u1, It v8_t0, It v14_t0, It v20_t0, Rf b21, Rf v49_l8, Rf r_124, Rf r_156, Rf wMap, Rf b159, Rf r_182] [(.ref r_182)])) _
          refine st185.trans ?_
          show Steps p.tables e below (T185.setTop (mkF m 269 #[It p1, It p2, It p3, It u1, It v8_t0, It v14_t0, It v20_t0, Rf b21, Rf v49_l8, Rf r_124, Rf r_156, Rf wMap, Rf b159, Rf r_182] [(.ref s_w2)])) _
          refine st186 _ ?_
          show Steps p.tables e below (T186.setTop (mkF m 272 #[It p1, It p2, It p3, It u1, It v8_t0, It v14_t0, It v20_t0, Rf b21, Rf v49_l8, Rf r_124, Rf r_156, Rf wMap, Rf b159, Rf r_182] [(.ref s_w2)])) _
          refine st187 _ ?_
          show Steps p.tables e below (T187.setTop (mkF m 274 #[It p1, It p2, It p3, It u1, It v8_t0, It v14_t0, It v20_t0, Rf b21, Rf v49_l8, Rf r_124, Rf r_156, Rf wMap, Rf b159, Rf r_182] [(.ref sa187), (.ref s_w2)])) _
          refine st190.trans ?_
          show Steps p.tables e below (T190.setTop (mkF m 277 #[It p1, It p2, It p3, It u1, It v8_t0, It v14_t0, It v20_t0, Rf b21, Rf v49_l8, Rf r_124, Rf r_156, Rf wMap, Rf b159, Rf r_182] [(.int (1 : Int32))])) _
          refine XS.ifNo X190.here hx rfl (hb hby at_277) rfl ((if0 _ _).trans (feq (by decide : ¬ ((1 : Int32) = (0 : Int32)))).1) ?_
          show Steps p.tables e below (T190.setTop (mkF m 280 #[It p1, It p2, It p3, It u1, It v8_t0, It v14_t0, It v20_t0, Rf b21, Rf v49_l8, Rf r_124, Rf r_156, Rf wMap, Rf b159, Rf r_182] [])) _
          refine XS.iconst X190.here hx rfl (hb hby at_280) ?_
          show Steps p.tables e below (T190.setTop (mkF m 281 #[It p1, It p2, It p3, It u1, It v8_t0, It v14_t0, It v20_t0, Rf b21, Rf v49_l8, Rf r_124, Rf r_156, Rf wMap, Rf b159, Rf r_182] [(.int (1 : Int32))])) _
          refine XS.goto X190.here hx rfl (pc0 := 281) (pc' := 285) rfl (hb hby at_281) (by decide) (by decide) ?_
          exact kt
        obtain ⟨fs, hr, hrun, hended, hRW⟩ := X190.leaveW Y187 (show _ ≤ T190.heap.size by rw [e190]; exact Yk187) (v := some (.int (1 : Int32))) (fun h => by rw [Bd.returns] at h; cases h)
        refine ⟨_, _, pre0 _ (sg2 _ (sg3 _ (sg8 _ (sg9 _ (sg14 _ (sg15 _ (sg20 _ (sg25 _ (sg31 _ (sg36 _ (sg49 _ (sg50 _ (sg121 _ (sg126 _ (sg191 _ (?_)))))))))))))))), hrun, hended, _, _, rfl, ?_, (by rw [hh]; show CHr Z own_EL s.vm h0 T190.vm T190.heap; rw [e190]; exact CR189.trans (CHv.at X190 hZ187 hEL CR189.1)), hRW.1, hRW.2.1, hRW.2.2.1, hRW.2.2.2.mono (by decide) (by decide)⟩
        · show Steps p.tables e below (T190.setTop (mkF m 285 #[It p1, It p2, It p3, It u1, It v8_t0, It v14_t0, It v20_t0, Rf b21, Rf v49_l8, Rf r_124, Rf r_156, Rf wMap, Rf b159, Rf r_182] [(.int (1 : Int32))])) _
          exact retN X190 hx (t := .boolean) Bd.returns (by simp) (hb hby at_285) hr
        · show Q0 Z p1 p2 p3 s_w1 t_w1 kb_w1 s_w2 t_w2 kb_w2 zC wO wD wMap w1 w2 h0 n0 _ T190.heap _
          rw [e190]
          exact ⟨rfl, N190, K187, O188⟩
    · obtain ⟨_, _, ⟨T192, L192, k192, n192⟩, -, X192, ⟨Lc192, hQ192, l192, y192, z192⟩, st192⟩ := Jvm.LawKit.callS X49 hx (y := (⟨"java/util/Optional", "empty", "()Ljava/util/Optional;"⟩ : MethodName)) hown49 (mvT hZ49 (tw hw 27 rfl)) (mvT hZ49 (tw hw 28 rfl)) (mvT hZ49 (tw hw 29 rfl)) (mvT hZ49 (tw hw 30 rfl)) (by decide) (backOf (W := 0) (rm6 l Z a0 hw [] wO h49 n0 O49 S_EMPTY) hZ49 (tw hw 30 rfl) (tw hw 29 rfl) (by decide) (by decide)) (g := (mkF m 134 #[It p1, It p2, It p3, It u1, It v8_t0, It v14_t0, It v20_t0, Rf b21, Rf v49_l8, .unset, .unset, .unset, .unset, .unset] [])) rfl (by rw [hml]; rfl) (argsL := []) (rest := []) (lenOf pd_11 rfl) rfl (by show 2 * 0 + _ ≤ _; exact Nat.le_of_eq rfl) (hb hby at_134) (fun _ _ => ⟨rfl, e49, (by decide : 3 + 0 ≤ _), (by decide : 8 + 0 ≤ _)⟩)
      dsimp only [Pt.U, Pt.locs, Pt.cells, Pt.slots] at X192 l192 y192 z192 st192 hQ192
      subst l192 y192 z192
      obtain ⟨rfl, N192q, e192⟩ := hQ192
      have N192 := Fr.app N49 N192q
      have sg193 : ∀ target, Steps p.tables e below (T192.setTop (mkF m 141 #[It p1, It p2, It p3, It u1, It v8_t0, It v14_t0, It v20_t0, Rf b21, Rf v49_l8, Rf wO, .unset, .unset, .unset, .unset] [(.int v8_t0)])) target → Steps p.tables e below (T49.setTop (mkF m 120 #[It p1, It p2, It p3, It u1, It v8_t0, It v14_t0, It v20_t0, Rf b21, Rf v49_l8, .unset, .unset, .unset, .unset, .unset] [(.int (2 : Int32)), (.int u1)])) target := by
        intro target kt
        show Steps p.tables e below (T49.setTop (mkF m 120 #[It p1, It p2, It p3, It u1, It v8_t0, It v14_t0, It v20_t0, Rf b21, Rf v49_l8, .unset, .unset, .unset, .unset, .unset] [(.int (2 : Int32)), (.int u1)])) _
        refine XS.icmpYes X49.here hx rfl (pc0 := 120) (pc' := 134) rfl (hb hby at_120) rfl (feq hc122).2 (by decide) (by decide) ?_
        show Steps p.tables e below (T49.setTop (mkF m 134 #[It p1, It p2, It p3, It u1, It v8_t0, It v14_t0, It v20_t0, Rf b21, Rf v49_l8, .unset, .unset, .unset, .unset, .unset] [])) _
        refine st192 _ ?_
        show Steps p.tables e below (T192.setTop (mkF m 137 #[It p1, It p2, It p3, It u1, It v8_t0, It v14_t0, It v20_t0, Rf b21, Rf v49_l8, .unset, .unset, .unset, .unset, .unset] [(.ref wO)])) _
        refine XS.astore X192.here hx rfl (hb hby at_137) rfl rfl (l' := #[It p1, It p2, It p3, It u1, It v8_t0, It v14_t0, It v20_t0, Rf b21, Rf v49_l8, Rf wO, .unset, .unset, .unset, .unset]) rfl ?_
        show Steps p.tables e below (T192.setTop (mkF m 139 #[It p1, It p2, It p3, It u1, It v8_t0, It v14_t0, It v20_t0, Rf b21, Rf v49_l8, Rf wO, .unset, .unset, .unset, .unset] [])) _
        refine XS.iload X192.here hx rfl (hb hby at_139) rfl ?_
        exact kt
      by_cases hc194 : v8_t0 = (0 : Int32)
      · obtain ⟨_, _, ⟨T195, L195, k195, n195⟩, -, X195, ⟨Lc195, hQ195, l195, y195, z195⟩, st195⟩ := Jvm.LawKit.callS X192 hx (y := (⟨"java/util/Optional", "empty", "()Ljava/util/Optional;"⟩ : MethodName)) hown49 (mvT hZ49 (tw hw 27 rfl)) (mvT hZ49 (tw hw 28 rfl)) (mvT hZ49 (tw hw 29 rfl)) (mvT hZ49 (tw hw 30 rfl)) (by decide) (backOf (W := 0) (rm6 l Z a0 hw [] wO h49 n0 O49 S_EMPTY) hZ49 (tw hw 30 rfl) (tw hw 29 rfl) (by decide) (by decide)) (g := (mkF m 154 #[It p1, It p2, It p3, It u1, It v8_t0, It v14_t0, It v20_t0, Rf b21, Rf v49_l8, Rf wO, .unset, .unset, .unset, .unset] [])) rfl (by rw [hml]; rfl) (argsL := []) (rest := []) (lenOf pd_11 rfl) rfl (by show 2 * 0 + _ ≤ _; exact Nat.le_of_eq rfl) (hb hby at_154) (fun _ _ => ⟨rfl, e192, (by decide : 3 + 0 ≤ _), (by decide : 8 + 0 ≤ _)⟩)
        dsimp only [Pt.U, Pt.locs, Pt.cells, Pt.slots] at X195 l195 y195 z195 st195 hQ195
        subst l195 y195 z195
        obtain ⟨rfl, N195q, e195⟩ := hQ195
        have N195 := Fr.app N192 N195q
        obtain ⟨_, _, ⟨T196, L196, k196, n196⟩, -, X196, ⟨Lc196, hQ196, l196, y196, z196⟩, st196⟩ := Jvm.LawKit.callS X195 hx (y := (⟨"java/util/Map", "of", "()Ljava/util/Map;"⟩ : MethodName)) hown49 (mvT hZ49 (tw hw 32 rfl)) (mvT hZ49 (tw hw 33 rfl)) (mvT hZ49 (tw hw 34 rfl)) (mvT hZ49 (tw hw 35 rfl)) (by decide) (backOf (W := 0) (rm7 l Z a0 hw [] wMap h49 n0 O49 S_EMPTY_MAP) hZ49 (tw hw 35 rfl) (tw hw 34 rfl) (by decide) (by decide)) (g := (mkF m 159 #[It p1, It p2, It p3, It u1, It v8_t0, It v14_t0, It v20_t0, Rf b21, Rf v49_l8, Rf wO, Rf wO, .unset, .unset, .unset] [])) rfl (by rw [hml]; rfl) (argsL := []) (rest := []) (lenOf pd_16 rfl) rfl (by show 2 * 0 + _ ≤ _; exact Nat.le_of_eq rfl) (hb hby at_159) (fun _ _ => ⟨rfl, e195, (by decide : 3 + 0 ≤ _), (by decide : 8 + 0 ≤ _)⟩)
        dsimp only [Pt.U, Pt.locs, Pt.cells, Pt.slots] at X196 l196 y196 z196 st196 hQ196
        subst l196 y196 z196
        obtain ⟨rfl, N196q, e196⟩ := hQ196
        have N196 := Fr.app N195 N196q
        obtain ⟨T197, h197, X197, e197, E197, A197, D197, -, st197⟩ := newO X196 hx hZ49 hown49 (tw hw 38 rfl) (tw hw 39 rfl) (tw hw 40 rfl) e196 (g := (mkF m 164 #[It p1, It p2, It p3, It u1, It v8_t0, It v14_t0, It v20_t0, Rf b21, Rf v49_l8, Rf wO, Rf wO, Rf wMap, .unset, .unset] [])) rfl (hb hby at_164) (by decide) (by decide)
        obtain ⟨b197, g197⟩ : ∃ z, z = h49.size := ⟨_, rfl⟩
        rw [← g197] at A197 D197 st197
        have ge_b197 : n0 ≤ b197 := Nat.le_trans (own_osz O49) (Nat.le_of_eq g197.symm)
        have sz_b197 : h0.size ≤ b197 := Nat.le_trans KK49.1 (Nat.le_of_eq g197.symm)
        have O198 := O49.ext E197
        have K197 := KK49.ext E197
        have CR199 := CR_49.trans (CHr.ext E197 CR_49.1)
        have F_fields_b197 : Fld Z h197 b197 "com/example/legacy_to_latest/legacytolatest/EntityClass" "fields" "Ljava/util/Map;" .null := D197 (Or.inr (tw hw 101 rfl)) (ty := (.object "java/util/Map")) (by decide)
        have F_kind_b197 : Fld Z h197 b197 "com/example/legacy_to_latest/legacytolatest/EntityClass" "kind" "Ljava/lang/String;" .null := D197 (Or.inr (tw hw 109 rfl)) (ty := (.object "java/lang/String")) (by decide)
        have F_morphia_b197 : Fld Z h197 b197 "com/example/legacy_to_latest/legacytolatest/EntityClass" "morphia" "Lcom/example/legacy_to_latest/legacytolatest/EntityClass$Morphia;" .null := D197 (Or.inr (tw hw 118 rfl)) (ty := (.object "com/example/legacy_to_latest/legacytolatest/EntityClass$Morphia")) (by decide)
        have F_discriminator_b197 : Fld Z h197 b197 "com/example/legacy_to_latest/legacytolatest/EntityClass" "discriminator" "Ljava/lang/String;" .null := D197 (Or.inr (tw hw 120 rfl)) (ty := (.object "java/lang/String")) (by decide)
        have F_abstractClass_b197 : Fld Z h197 b197 "com/example/legacy_to_latest/legacytolatest/EntityClass" "abstractClass" "Z" (.int (0 : Int32)) := D197 (Or.inr (tw hw 122 rfl)) (ty := .boolean) (by decide)
        have F_className_b197 : Fld Z h197 b197 "com/example/legacy_to_latest/legacytolatest/EntityClass" "className" "Ljava/lang/String;" .null := D197 (Or.inr (tw hw 125 rfl)) (ty := (.object "java/lang/String")) (by decide)
        have F_binaryName_b197 : Fld Z h197 b197 "com/example/legacy_to_latest/legacytolatest/EntityClass" "binaryName" "Ljava/lang/String;" .null := D197 (Or.inr (tw hw 128 rfl)) (ty := (.object "java/lang/String")) (by decide)
        have F_source_b197 : Fld Z h197 b197 "com/example/legacy_to_latest/legacytolatest/EntityClass" "source" "Ljava/lang/String;" .null := D197 (Or.inr (tw hw 131 rfl)) (ty := (.object "java/lang/String")) (by decide)
        have F_keyParts_b197 : Fld Z h197 b197 "com/example/legacy_to_latest/legacytolatest/EntityClass" "keyParts" "Ljava/util/Map;" .null := D197 (Or.inr (tw hw 176 rfl)) (ty := (.object "java/util/Map")) (by decide)
        have F_unreadSuperclass_b197 : Fld Z h197 b197 "com/example/legacy_to_latest/legacytolatest/EntityClass" "unreadSuperclass" "Ljava/lang/String;" .null := D197 (Or.inr (tw hw 178 rfl)) (ty := (.object "java/lang/String")) (by decide)
        obtain ⟨sa200, T200, h200, k200, sb200, kb200, X200, e200, E200, Y200, Yk200, hZ200, hown200, A200, Fc200, Fv200, V200, la200, lb200, C200, Lt200, SF200, st200⟩ := ldcCH X197 hx hZ49 hown49 (tw hw 41 rfl) hSA e197 Y49 (Nat.le_trans Yk49 E197.1) hEL (own_mem (by decide)) CR199.1 (vs := [(.int (107 : Int32))]) (z := (1 : Int32)) (by decide) (by decide) (by decide) (g := (mkF m 168 #[It p1, It p2, It p3, It u1, It v8_t0, It v14_t0, It v20_t0, Rf b21, Rf v49_l8, Rf wO, Rf wO, Rf wMap, .unset, .unset] [(.ref b197), (.ref b197)])) rfl (hb hby at_168) (n := 4) (by decide) (by decide) (by decide) (by decide)
        have O201 := O198.ext E200
        have K200 := K197.ext E200
        have CR202 := CR199.trans (C200)
        obtain ⟨sa203, T203, h203, k203, sb203, kb203, X203, e203, E203, Y203, Yk203, hZ203, hown203, A203, Fc203, Fv203, V203, la203, lb203, C203, Lt203, SF203, st203⟩ := ldcCH X200 hx hZ200 hown200 (tw hw 44 rfl) hSA e200 Y200 Yk200 hEL (own_mem (by decide)) CR202.1 (vs := [(.int (67 : Int32))]) (z := (1 : Int32)) (by decide) (by decide) (by decide) (g := (mkF m 176 #[It p1, It p2, It p3, It u1, It v8_t0, It v14_t0, It v20_t0, Rf b21, Rf v49_l8, Rf wO, Rf wO, Rf wMap, .unset, .unset] [(.int v14_t0), (.ref wO), (.ref wO), (.ref sa200), (.ref b197), (.ref b197)])) rfl (hb hby at_176) (n := 4) (by decide) (by decide) (by decide) (by decide)
        have O204 := O201.ext E203
        have K203 := K200.ext E203
        have CR205 := CR202.trans (C203)
        obtain ⟨sa206, T206, h206, k206, sb206, kb206, X206, e206, E206, Y206, Yk206, hZ206, hown206, A206, Fc206, Fv206, V206, la206, lb206, C206, Lt206, SF206, st206⟩ := ldcCH X203 hx hZ203 hown203 (tw hw 44 rfl) hSA e203 Y203 Yk203 hEL (own_mem (by decide)) CR205.1 (vs := [(.int (67 : Int32))]) (z := (1 : Int32)) (by decide) (by decide) (by decide) (g := (mkF m 178 #[It p1, It p2, It p3, It u1, It v8_t0, It v14_t0, It v20_t0, Rf b21, Rf v49_l8, Rf wO, Rf wO, Rf wMap, .unset, .unset] [(.ref sa203), (.int v14_t0), (.ref wO), (.ref wO), (.ref sa200), (.ref b197), (.ref b197)])) rfl (hb hby at_178) (n := 4) (by decide) (by decide) (by decide) (by decide)
        have O207 := O204.ext E206
        have K206 := K203.ext E206
        have CR208 := CR205.trans (C206)
        obtain ⟨sa209, T209, h209, k209, sb209, kb209, X209, e209, E209, Y209, Yk209, hZ209, hown209, A209, Fc209, Fv209, V209, la209, lb209, C209, Lt209, SF209, st209⟩ := ldcCH X206 hx hZ206 hown206 (tw hw 45 rfl) hSA e206 Y206 Yk206 hEL (own_mem (by decide)) CR208.1 (vs := [(.int (67 : Int32)), (.int (46 : Int32)), (.int (106 : Int32)), (.int (97 : Int32)), (.int (118 : Int32)), (.int (97 : Int32))]) (z := (6 : Int32)) (by decide) (by decide) (by decide) (g := (mkF m 180 #[It p1, It p2, It p3, It u1, It v8_t0, It v14_t0, It v20_t0, Rf b21, Rf v49_l8, Rf wO, Rf wO, Rf wMap, .unset, .unset] [(.ref sa206), (.ref sa203), (.int v14_t0), (.ref wO), (.ref wO), (.ref sa200), (.ref b197), (.ref b197)])) rfl (hb hby at_180) (n := 24) (by decide) (by decide) (by decide) (by decide)
        have O210 := O207.ext E209
        have K209 := K206.ext E209
        have CR211 := CR208.trans (C209)
        obtain ⟨T212, h212, X212, e212, E212, A212, D212, -, st212⟩ := newO X209 hx hZ209 hown209 (tw hw 46 rfl) (tw hw 47 rfl) (tw hw 48 rfl) e209 (g := (mkF m 182 #[It p1, It p2, It p3, It u1, It v8_t0, It v14_t0, It v20_t0, Rf b21, Rf v49_l8, Rf wO, Rf wO, Rf wMap, .unset, .unset] [(.ref sa209), (.ref sa206), (.ref sa203), (.int v14_t0), (.ref wO), (.ref wO), (.ref sa200), (.ref b197), (.ref b197)])) rfl (hb hby at_182) (by decide) (by decide)
        obtain ⟨b212, g212⟩ : ∃ z, z = h209.size := ⟨_, rfl⟩
        rw [← g212] at A212 D212 st212
        have ge_b212 : n0 ≤ b212 := Nat.le_trans (own_osz O210) (Nat.le_of_eq g212.symm)
        have sz_b212 : h0.size ≤ b212 := Nat.le_trans K209.1 (Nat.le_of_eq g212.symm)
        have O213 := O210.ext E212
        have K212 := K209.ext E212
        have CR214 := CR211.trans (CHr.ext E212 CR211.1)
        have F_modCount_b212 : Fld Z h212 b212 "java/util/AbstractList" "modCount" "I" (.int (0 : Int32)) := D212 (Or.inl (tw hw 66 rfl)) (ty := .int) (by decide)
        have F_elementData_b212 : Fld Z h212 b212 "java/util/ArrayList" "elementData" "[Ljava/lang/Object;" .null := D212 (Or.inl (tw hw 69 rfl)) (ty := (.array (.object "java/lang/Object"))) (by decide)
        have F_size_b212 : Fld Z h212 b212 "java/util/ArrayList" "size" "I" (.int (0 : Int32)) := D212 (Or.inl (tw hw 169 rfl)) (ty := .int) (by decide)
        obtain ⟨_, _, ⟨T215, L215, k215, n215⟩, -, X215, ⟨Lc215, hQ215, l215, y215, z215⟩, st215⟩ := X212.specialBack hx (y := (⟨"java/util/ArrayList", "<init>", "()V"⟩ : MethodName)) rfl hown209 (mvT hZ209 (tw hw 49 rfl)) (mvT hZ209 (tw hw 50 rfl)) (mvT hZ209 (tw hw 51 rfl)) (by decide) (backOf (W := 10) (rm8 l Z a0 hw [] b212 wD h212 n0 O213 S_DEFAULTCAPACITY_EMPTY_ELEMENTDATA A212 F_modCount_b212 F_elementData_b212 F_size_b212 ge_b212) hZ209 (tw hw 51 rfl) (tw hw 48 rfl) (by decide) (by decide)) (g := (mkF m 186 #[It p1, It p2, It p3, It u1, It v8_t0, It v14_t0, It v20_t0, Rf b21, Rf v49_l8, Rf wO, Rf wO, Rf wMap, .unset, .unset] [(.ref b212), (.ref b212), (.ref sa209), (.ref sa206), (.ref sa203), (.int v14_t0), (.ref wO), (.ref wO), (.ref sa200), (.ref b197), (.ref b197)])) rfl (by rw [hml]; rfl) (Steps.refl _) (a := b212) (argsL := []) (rest := [(.ref b212), (.ref sa209), (.ref sa206), (.ref sa203), (.int v14_t0), (.ref wO), (.ref wO), (.ref sa200), (.ref b197), (.ref b197)]) (lenOf pd_5 rfl) rfl (by show 2 * 0 + _ ≤ _; exact Nat.le_of_eq rfl) (hb hby at_186) (fun _ _ => ⟨rfl, e212, (by decide : 13 + 0 ≤ _), (by decide : 73 + 0 ≤ _)⟩)
        dsimp only [Pt.U, Pt.locs, Pt.cells, Pt.slots] at X215 l215 y215 z215 st215 hQ215
        subst l215 y215 z215
        obtain ⟨rfl, N215q, K215q, O215, f215_0, f215_1⟩ := hQ215
        have N215 := Fr.app N196 N215q
        have CR216 := CR214.trans (CHr.keep K215q (allS (Safe.exa hZ209.alike A212 (by decide) (by decide)) all0) CR214.1)
        have K215 := K212.trans K215q (allS (Or.inr sz_b212) all0)
        obtain ⟨_, _, ⟨T217, L217, k217, n217⟩, -, X217, ⟨Lc217, hQ217, l217, y217, z217⟩, st217⟩ := Jvm.LawKit.callS X215 hx (y := (⟨"java/util/Optional", "empty", "()Ljava/util/Optional;"⟩ : MethodName)) hown209 (mvT hZ209 (tw hw 27 rfl)) (mvT hZ209 (tw hw 28 rfl)) (mvT hZ209 (tw hw 29 rfl)) (mvT hZ209 (tw hw 30 rfl)) (by decide) (backOf (W := 11) (rm6 l Z a0 hw [] wO T215.heap n0 O215 S_EMPTY) hZ209 (tw hw 30 rfl) (tw hw 29 rfl) (by decide) (by decide)) (g := (mkF m 191 #[It p1, It p2, It p3, It u1, It v8_t0, It v14_t0, It v20_t0, Rf b21, Rf v49_l8, Rf wO, Rf wO, Rf wMap, .unset, .unset] [(.ref wMap), (.ref b212), (.ref sa209), (.ref sa206), (.ref sa203), (.int v14_t0), (.ref wO), (.ref wO), (.ref sa200), (.ref b197), (.ref b197)])) rfl (by rw [hml]; rfl) (argsL := []) (rest := [(.ref wMap), (.ref b212), (.ref sa209), (.ref sa206), (.ref sa203), (.int v14_t0), (.ref wO), (.ref wO), (.ref sa200), (.ref b197), (.ref b197)]) (lenOf pd_11 rfl) rfl (by show 2 * 0 + _ ≤ _; exact Nat.le_of_eq rfl) (hb hby at_191) (fun _ _ => ⟨rfl, rfl, (by decide : 13 + 0 ≤ _), (by decide : 73 + 0 ≤ _)⟩)
        dsimp only [Pt.U, Pt.locs, Pt.cells, Pt.slots] at X217 l217 y217 z217 st217 hQ217
        subst l217 y217 z217
        obtain ⟨rfl, N217q, e217⟩ := hQ217
        have N217 := Fr.app N215 N217q
        obtain ⟨_, _, ⟨T218, L218, k218, n218⟩, -, X218, Y218, G218, ⟨Lc218, hQ218, l218, y218, z218, C218⟩, st218⟩ := X217.specialBackS hx (y := (⟨"com/example/legacy_to_latest/legacytolatest/EntityClass", "<init>", "(Ljava/lang/String;Ljava/util/Optional;Ljava/util/Optional;ZLjava/lang/String;Ljava/lang/String;Ljava/lang/String;Ljava/util/List;Ljava/util/Map;Ljava/util/Optional;)V"⟩ : MethodName)) rfl hown209 (mvT hZ209 (tw hw 70 rfl)) (mvT hZ209 (tw hw 71 rfl)) (mvT hZ209 (tw hw 72 rfl)) (by decide) (backOfSH (W := 1) (rm11_00 l Z a0 hw [] b197 sa200 wO wO v14_t0 sa203 sa206 sa209 b212 wMap wO T215.heap n0 O215 ((((((A197.ext E200).ext E203).ext E206).ext E209).ext E212).keep K215q) ((((((F_fields_b197.ext E200).ext E203).ext E206).ext E209).ext E212).keep K215q (ninS (Nat.ne_of_lt (Nat.lt_of_lt_of_le ((((A197.ext E200).ext E203).ext E206).ext E209).lt (Nat.le_of_eq g212.symm))) nin0)) ((((((F_kind_b197.ext E200).ext E203).ext E206).ext E209).ext E212).keep K215q (ninS (Nat.ne_of_lt (Nat.lt_of_lt_of_le ((((A197.ext E200).ext E203).ext E206).ext E209).lt (Nat.le_of_eq g212.symm))) nin0)) ((((((F_morphia_b197.ext E200).ext E203).ext E206).ext E209).ext E212).keep K215q (ninS (Nat.ne_of_lt (Nat.lt_of_lt_of_le ((((A197.ext E200).ext E203).ext E206).ext E209).lt (Nat.le_of_eq g212.symm))) nin0)) ((((((F_discriminator_b197.ext E200).ext E203).ext E206).ext E209).ext E212).keep K215q (ninS (Nat.ne_of_lt (Nat.lt_of_lt_of_le ((((A197.ext E200).ext E203).ext E206).ext E209).lt (Nat.le_of_eq g212.symm))) nin0)) ((((((F_abstractClass_b197.ext E200).ext E203).ext E206).ext E209).ext E212).keep K215q (ninS (Nat.ne_of_lt (Nat.lt_of_lt_of_le ((((A197.ext E200).ext E203).ext E206).ext E209).lt (Nat.le_of_eq g212.symm))) nin0)) ((((((F_className_b197.ext E200).ext E203).ext E206).ext E209).ext E212).keep K215q (ninS (Nat.ne_of_lt (Nat.lt_of_lt_of_le ((((A197.ext E200).ext E203).ext E206).ext E209).lt (Nat.le_of_eq g212.symm))) nin0)) ((((((F_binaryName_b197.ext E200).ext E203).ext E206).ext E209).ext E212).keep K215q (ninS (Nat.ne_of_lt (Nat.lt_of_lt_of_le ((((A197.ext E200).ext E203).ext E206).ext E209).lt (Nat.le_of_eq g212.symm))) nin0)) ((((((F_source_b197.ext E200).ext E203).ext E206).ext E209).ext E212).keep K215q (ninS (Nat.ne_of_lt (Nat.lt_of_lt_of_le ((((A197.ext E200).ext E203).ext E206).ext E209).lt (Nat.le_of_eq g212.symm))) nin0)) ((((((F_keyParts_b197.ext E200).ext E203).ext E206).ext E209).ext E212).keep K215q (ninS (Nat.ne_of_lt (Nat.lt_of_lt_of_le ((((A197.ext E200).ext E203).ext E206).ext E209).lt (Nat.le_of_eq g212.symm))) nin0)) ((((((F_unreadSuperclass_b197.ext E200).ext E203).ext E206).ext E209).ext E212).keep K215q (ninS (Nat.ne_of_lt (Nat.lt_of_lt_of_le ((((A197.ext E200).ext E203).ext E206).ext E209).lt (Nat.le_of_eq g212.symm))) nin0)) ge_b197 (((((A200.ext E203).ext E206).ext E209).ext E212).keep K215q) ((((A203.ext E206).ext E209).ext E212).keep K215q) (((A206.ext E209).ext E212).keep K215q) ((A209.ext E212).keep K215q) ((((((((((((hX_wO.ext O0.2).ext E21).wr W27).wr W33).keep K49).ext E197).ext E200).ext E203).ext E206).ext E209).ext E212).keep K215q) ((((((((((((hF_wO.ext O0.2).ext E21).other W27 (Or.inl (Nat.ne_of_lt (Nat.lt_of_lt_of_le (hX_wO.ext O0.2).lt (Nat.le_of_eq g21.symm))))).other W33 (Or.inl (Nat.ne_of_lt (Nat.lt_of_lt_of_le (hX_wO.ext O0.2).lt (Nat.le_of_eq g21.symm))))).keep K49 nin0).ext E197).ext E200).ext E203).ext E206).ext E209).ext E212).keep K215q (ninS (Nat.ne_of_lt (Nat.lt_of_lt_of_le ((((((((((hX_wO.ext O0.2).ext E21).wr W27).wr W33).keep K49).ext E197).ext E200).ext E203).ext E206).ext E209).lt (Nat.le_of_eq g212.symm))) nin0)) ((((((((((((hX_wO.ext O0.2).ext E21).wr W27).wr W33).keep K49).ext E197).ext E200).ext E203).ext E206).ext E209).ext E212).keep K215q) ((((((((((((hF_wO.ext O0.2).ext E21).other W27 (Or.inl (Nat.ne_of_lt (Nat.lt_of_lt_of_le (hX_wO.ext O0.2).lt (Nat.le_of_eq g21.symm))))).other W33 (Or.inl (Nat.ne_of_lt (Nat.lt_of_lt_of_le (hX_wO.ext O0.2).lt (Nat.le_of_eq g21.symm))))).keep K49 nin0).ext E197).ext E200).ext E203).ext E206).ext E209).ext E212).keep K215q (ninS (Nat.ne_of_lt (Nat.lt_of_lt_of_le ((((((((((hX_wO.ext O0.2).ext E21).wr W27).wr W33).keep K49).ext E197).ext E200).ext E203).ext E206).ext E209).lt (Nat.le_of_eq g212.symm))) nin0)) ((((((((((((hX_wO.ext O0.2).ext E21).wr W27).wr W33).keep K49).ext E197).ext E200).ext E203).ext E206).ext E209).ext E212).keep K215q) ((((((((((((hF_wO.ext O0.2).ext E21).other W27 (Or.inl (Nat.ne_of_lt (Nat.lt_of_lt_of_le (hX_wO.ext O0.2).lt (Nat.le_of_eq g21.symm))))).other W33 (Or.inl (Nat.ne_of_lt (Nat.lt_of_lt_of_le (hX_wO.ext O0.2).lt (Nat.le_of_eq g21.symm))))).keep K49 nin0).ext E197).ext E200).ext E203).ext E206).ext E209).ext E212).keep K215q (ninS (Nat.ne_of_lt (Nat.lt_of_lt_of_le ((((((((((hX_wO.ext O0.2).ext E21).wr W27).wr W33).keep K49).ext E197).ext E200).ext E203).ext E206).ext E209).lt (Nat.le_of_eq g212.symm))) nin0)) (A212.keep K215q) f215_0 f215_1 ((((((((((((hX_wMap.ext O0.2).ext E21).wr W27).wr W33).keep K49).ext E197).ext E200).ext E203).ext E206).ext E209).ext E212).keep K215q)) hZ209 (tw hw 72 rfl) (tw hw 40 rfl) (by decide) (by decide) hEL CR216.1) (g := (mkF m 194 #[It p1, It p2, It p3, It u1, It v8_t0, It v14_t0, It v20_t0, Rf b21, Rf v49_l8, Rf wO, Rf wO, Rf wMap, .unset, .unset] [(.ref wO), (.ref wMap), (.ref b212), (.ref sa209), (.ref sa206), (.ref sa203), (.int v14_t0), (.ref wO), (.ref wO), (.ref sa200), (.ref b197), (.ref b197)])) rfl (by rw [hml]; rfl) (Steps.refl _) (a := b197) (argsL := [(.ref sa200), (.ref wO), (.ref wO), (.int v14_t0), (.ref sa203), (.ref sa206), (.ref sa209), (.ref b212), (.ref wMap), (.ref wO)]) (rest := [(.ref b197)]) (lenOf pd_17 rfl) rfl (by show 2 * 0 + _ ≤ _; exact Nat.le_of_eq rfl) (hb hby at_194) (fun _ _ => ⟨rfl, e217, (by decide : 13 + 10 ≤ _), (by decide : 73 + 148 ≤ _)⟩)
        dsimp only [Pt.U, Pt.locs, Pt.cells, Pt.slots] at X218 l218 y218 z218 st218 hQ218 Y218 G218 C218
        subst l218 y218 z218
        obtain ⟨rfl, N218q, K218q, O218, f218_0, f218_1⟩ := hQ218
        have N218 := Fr.app N217 N218q
        obtain ⟨X218, Y218, hZ218, hown218⟩ := rebS Y209 (by rw [e217]; exact (Nat.le_trans (Nat.le_trans Yk209 E212.1) K215q.1)) X218 Y218 G218 hZ209 hown209
        have CR219 := CR216.trans (C218)
        have K218 := K215.trans K218q (allS (Or.inr sz_b197) all0)
        obtain ⟨cq220, kq220, q220a, q220b, q220c⟩ := isOf hZ218 rfl (((((((A197.ext E200).ext E203).ext E206).ext E209).ext E212).keep K215q).keep K218q)
        obtain ⟨_, _, ⟨T220, L220, k220, n220⟩, -, X220, ⟨Lc220, hQ220, l220, y220, z220⟩, st220⟩ := X218.virtualBack hx (y := (⟨"com/example/legacy_to_latest/legacytolatest/EntityClass", "getDiscriminatorKey", "()Ljava/util/Optional;"⟩ : MethodName)) (z := (⟨"com/example/legacy_to_latest/legacytolatest/EntityClass", "getDiscriminatorKey", "()Ljava/util/Optional;"⟩ : MethodName)) hown218 (mvT hZ218 (tw hw 179 rfl)) (mvT hZ218 (tw hw 180 rfl)) (notFace_of_selects (args := #[]) (mvT hZ218 (tw hw 182 rfl))) (mvT hZ218 (tw hw 182 rfl)) (mvT hZ218 (tw hw 181 rfl)) (by decide) (backOf (W := 0) (rm21_0 l Z a0 hw [] b197 wO T218.heap n0 O218 S_EMPTY f218_1) hZ218 (tw hw 183 rfl) (tw hw 40 rfl) (by decide) (by decide)) q220a q220c (g := (mkF m 201 #[It p1, It p2, It p3, It u1, It v8_t0, It v14_t0, It v20_t0, Rf b21, Rf v49_l8, Rf wO, Rf wO, Rf wMap, Rf b197, .unset] [(.ref b197)])) rfl (by rw [hml]; rfl) (Steps.refl _) (argsL := []) (rest := []) (lenOf pd_11 rfl) rfl (by show 2 * 0 + _ ≤ _; exact Nat.le_of_eq rfl) (hb hby at_201) (fun _ _ => ⟨rfl, rfl, (by decide : 23 + 0 ≤ _), (by decide : 221 + 0 ≤ _)⟩)
        dsimp only [Pt.U, Pt.locs, Pt.cells, Pt.slots] at X220 l220 y220 z220 st220 hQ220
        subst l220 y220 z220
        obtain ⟨rfl, N220q, e220⟩ := hQ220
        have N220 := Fr.app N218 N220q
        obtain ⟨cq221, kq221, q221a, q221b, q221c⟩ := isOf hZ218 e220 (((((((((((((hX_wO.ext O0.2).ext E21).wr W27).wr W33).keep K49).ext E197).ext E200).ext E203).ext E206).ext E209).ext E212).keep K215q).keep K218q)
        obtain ⟨_, _, ⟨T221, L221, k221, n221⟩, -, X221, ⟨Lc221, hQ221, l221, y221, z221⟩, st221⟩ := X220.virtualBack hx (y := (⟨"java/util/Optional", "isEmpty", "()Z"⟩ : MethodName)) (z := (⟨"java/util/Optional", "isEmpty", "()Z"⟩ : MethodName)) hown218 (mvT hZ218 (tw hw 185 rfl)) (mvT hZ218 (tw hw 186 rfl)) (notFace_of_selects (args := #[]) (mvT hZ218 (tw hw 188 rfl))) (mvT hZ218 (tw hw 188 rfl)) (mvT hZ218 (tw hw 187 rfl)) (by decide) (backOf (W := 0) (rm22_0 l Z a0 hw [] wO T218.heap n0 O218 (((((((((((((hF_wO.ext O0.2).ext E21).other W27 (Or.inl (Nat.ne_of_lt (Nat.lt_of_lt_of_le (hX_wO.ext O0.2).lt (Nat.le_of_eq g21.symm))))).other W33 (Or.inl (Nat.ne_of_lt (Nat.lt_of_lt_of_le (hX_wO.ext O0.2).lt (Nat.le_of_eq g21.symm))))).keep K49 nin0).ext E197).ext E200).ext E203).ext E206).ext E209).ext E212).keep K215q (ninS (Nat.ne_of_lt (Nat.lt_of_lt_of_le ((((((((((hX_wO.ext O0.2).ext E21).wr W27).wr W33).keep K49).ext E197).ext E200).ext E203).ext E206).ext E209).lt (Nat.le_of_eq g212.symm))) nin0)).keep K218q (ninS (Nat.ne_of_lt (Nat.lt_of_lt_of_le (((((hX_wO.ext O0.2).ext E21).wr W27).wr W33).keep K49).lt (Nat.le_of_eq g197.symm))) nin0))) hZ218 (tw hw 189 rfl) (tw hw 29 rfl) (by decide) (by decide)) q221a q221c (g := (mkF m 288 #[It p1, It p2, It p3, It u1, It v8_t0, It v14_t0, It v20_t0, Rf b21, Rf v49_l8, Rf wO, Rf wO, Rf wMap, Rf b197, Rf wO] [(.ref wO)])) rfl (by rw [hml]; rfl) (Steps.refl _) (argsL := []) (rest := []) (lenOf pd_9 rfl) rfl (by show 2 * 0 + _ ≤ _; exact Nat.le_of_eq rfl) (hb hby at_288) (fun _ _ => ⟨rfl, e220, (by decide : 23 + 0 ≤ _), (by decide : 221 + 0 ≤ _)⟩)
        dsimp only [Pt.U, Pt.locs, Pt.cells, Pt.slots] at X221 l221 y221 z221 st221 hQ221
        subst l221 y221 z221
        obtain ⟨rfl, N221q, e221⟩ := hQ221
        have N221 := Fr.app N220 N221q
        have sg222 : ∀ target, Steps p.tables e below (T221.setTop (mkF m 291 #[It p1, It p2, It p3, It u1, It v8_t0, It v14_t0, It v20_t0, Rf b21, Rf v49_l8, Rf wO, Rf wO, Rf wMap, Rf b197, Rf wO] [(.int (1 : Int32))])) target → Steps p.tables e below (T192.setTop (mkF m 141 #[It p1, It p2, It p3, It u1, It v8_t0, It v14_t0, It v20_t0, Rf b21, Rf v49_l8, Rf wO, .unset, .unset, .unset, .unset] [(.int v8_t0)])) target := by
          intro target kt
          show Steps p.tables e below (T192.setTop (mkF m 141 #[It p1, It p2, It p3, It u1, It v8_t0, It v14_t0, It v20_t0, Rf b21, Rf v49_l8, Rf wO, .unset, .unset, .unset, .unset] [(.int v8_t0)])) _
          refine XS.ifYes X192.here hx rfl (pc0 := 141) (pc' := 154) rfl (hb hby at_141) rfl ((if0 _ _).trans (teq hc194).1) (by decide) (by decide) ?_
          show Steps p.tables e below (T192.setTop (mkF m 154 #[It p1, It p2, It p3, It u1, It v8_t0, It v14_t0, It v20_t0, Rf b21, Rf v49_l8, Rf wO, .unset, .unset, .unset, .unset] [])) _
          refine st195 _ ?_
          show Steps p.tables e below (T195.setTop (mkF m 157 #[It p1, It p2, It p3, It u1, It v8_t0, It v14_t0, It v20_t0, Rf b21, Rf v49_l8, Rf wO, .unset, .unset, .unset, .unset] [(.ref wO)])) _
          refine XS.astore X195.here hx rfl (hb hby at_157) rfl rfl (l' := #[It p1, It p2, It p3, It u1, It v8_t0, It v14_t0, It v20_t0, Rf b21, Rf v49_l8, Rf wO, Rf wO, .unset, .unset, .unset]) rfl ?_
          show Steps p.tables e below (T195.setTop (mkF m 159 #[It p1, It p2, It p3, It u1, It v8_t0, It v14_t0, It v20_t0, Rf b21, Rf v49_l8, Rf wO, Rf wO, .unset, .unset, .unset] [])) _
          refine st196 _ ?_
          show Steps p.tables e below (T196.setTop (mkF m 162 #[It p1, It p2, It p3, It u1, It v8_t0, It v14_t0, It v20_t0, Rf b21, Rf v49_l8, Rf wO, Rf wO, .unset, .unset, .unset] [(.ref wMap)])) _
          refine XS.astore X196.here hx rfl (hb hby at_162) rfl rfl (l' := #[It p1, It p2, It p3, It u1, It v8_t0, It v14_t0, It v20_t0, Rf b21, Rf v49_l8, Rf wO, Rf wO, Rf wMap, .unset, .unset]) rfl ?_
          show Steps p.tables e below (T196.setTop (mkF m 164 #[It p1, It p2, It p3, It u1, It v8_t0, It v14_t0, It v20_t0, Rf b21, Rf v49_l8, Rf wO, Rf wO, Rf wMap, .unset, .unset] [])) _
          refine st197 _ ?_
          show Steps p.tables e below (T197.setTop (mkF m 167 #[It p1, It p2, It p3, It u1, It v8_t0, It v14_t0, It v20_t0, Rf b21, Rf v49_l8, Rf wO, Rf wO, Rf wMap, .unset, .unset] [(.ref b197)])) _
          refine XS.dup X197.here hx rfl (hb hby at_167) rfl rfl ?_
          show Steps p.tables e below (T197.setTop (mkF m 168 #[It p1, It p2, It p3, It u1, It v8_t0, It v14_t0, It v20_t0, Rf b21, Rf v49_l8, Rf wO, Rf wO, Rf wMap, .unset, .unset] [(.ref b197), (.ref b197)])) _
          refine st200 _ ?_
          show Steps p.tables e below (T200.setTop (mkF m 170 #[It p1, It p2, It p3, It u1, It v8_t0, It v14_t0, It v20_t0, Rf b21, Rf v49_l8, Rf wO, Rf wO, Rf wMap, .unset, .unset] [(.ref sa200), (.ref b197), (.ref b197)])) _
          refine XS.aload X200.here hx rfl (hb hby at_170) rfl rfl ?_
          show Steps p.tables e below (T200.setTop (mkF m 172 #[It p1, It p2, It p3, It u1, It v8_t0, It v14_t0, It v20_t0, Rf b21, Rf v49_l8, Rf wO, Rf wO, Rf wMap, .unset, .unset] [(.ref wO), (.ref sa200), (.ref b197), (.ref b197)])) _
          refine XS.aload X200.here hx rfl (hb hby at_172) rfl rfl ?_
          show Steps p.tables e below (T200.setTop (mkF m 174 #[It p1, It p2, It p3, It u1, It v8_t0, It v14_t0, It v20_t0, Rf b21, Rf v49_l8, Rf wO, Rf wO, Rf wMap, .unset, .unset] [(.ref wO), (.ref wO), (.ref sa200), (.ref b197), (.ref b197)])) _
          refine XS.iload X200.here hx rfl (hb hby at_174) rfl ?_
          show Steps p.tables e below (T200.setTop (mkF m 176 #[It p1, It p2, It p3, It u1, It v8_t0, It v14_t0, It v20_t0, Rf b21, Rf v49_l8, Rf wO, Rf wO, Rf wMap, .unset, .unset] [(.int v14_t0), (.ref wO), (.ref wO), (.ref sa200), (.ref b197), (.ref b197)])) _
          refine st203 _ ?_
          show Steps p.tables e below (T203.setTop (mkF m 178 #[It p1, It p2, It p3, It u1, It v8_t0, It v14_t0, It v20_t0, Rf b21, Rf v49_l8, Rf wO, Rf wO, Rf wMap, .unset, .unset] [(.ref sa203), (.int v14_t0), (.ref wO), (.ref wO), (.ref sa200), (.ref b197), (.ref b197)])) _
          refine st206 _ ?_
          show Steps p.tables e below (T206.setTop (mkF m 180 #[It p1, It p2, It p3, It u1, It v8_t0, It v14_t0, It v20_t0, Rf b21, Rf v49_l8, Rf wO, Rf wO, Rf wMap, .unset, .unset] [(.ref sa206), (.ref sa203), (.int v14_t0), (.ref wO), (.ref wO), (.ref sa200), (.ref b197), (.ref b197)])) _
          refine st209 _ ?_
          show Steps p.tables e below (T209.setTop (mkF m 182 #[It p1, It p2, It p3, It u1, It v8_t0, It v14_t0, It v20_t0, Rf b21, Rf v49_l8, Rf wO, Rf wO, Rf wMap, .unset, .unset] [(.ref sa209), (.ref sa206), (.ref sa203), (.int v14_t0), (.ref wO), (.ref wO), (.ref sa200), (.ref b197), (.ref b197)])) _
          refine st212 _ ?_
          show Steps p.tables e below (T212.setTop (mkF m 185 #[It p1, It p2, It p3, It u1, It v8_t0, It v14_t0, It v20_t0, Rf b21, Rf v49_l8, Rf wO, Rf wO, Rf wMap, .unset, .unset] [(.ref b212), (.ref sa209), (.ref sa206), (.ref sa203), (.int v14_t0), (.ref wO), (.ref wO), (.ref sa200), (.ref b197), (.ref b197)])) _
          refine XS.dup X212.here hx rfl (hb hby at_185) rfl rfl ?_
          show Steps p.tables e below (T212.setTop (mkF m 186 #[It p1, It p2, It p3, It u1, It v8_t0, It v14_t0, It v20_t0, Rf b21, Rf v49_l8, Rf wO, Rf wO, Rf wMap, .unset, .unset] [(.ref b212), (.ref b212), (.ref sa209), (.ref sa206), (.ref sa203), (.int v14_t0), (.ref wO), (.ref wO), (.ref sa200), (.ref b197), (.ref b197)])) _
          refine st215.trans ?_
          show Steps p.tables e below (T215.setTop (mkF m 189 #[It p1, It p2, It p3, It u1, It v8_t0, It v14_t0, It v20_t0, Rf b21, Rf v49_l8, Rf wO, Rf wO, Rf wMap, .unset, .unset] [(.ref b212), (.ref sa209), (.ref sa206), (.ref sa203), (.int v14_t0), (.ref wO), (.ref wO), (.ref sa200), (.ref b197), (.ref b197)])) _
          refine XS.aload X215.here hx rfl (hb hby at_189) rfl rfl ?_
          show Steps p.tables e below (T215.setTop (mkF m 191 #[It p1, It p2, It p3, It u1, It v8_t0, It v14_t0, It v20_t0, Rf b21, Rf v49_l8, Rf wO, Rf wO, Rf wMap, .unset, .unset] [(.ref wMap), (.ref b212), (.ref sa209), (.ref sa206), (.ref sa203), (.int v14_t0), (.ref wO), (.ref wO), (.ref sa200), (.ref b197), (.ref b197)])) _
          refine st217 _ ?_
          show Steps p.tables e below (T217.setTop (mkF m 194 #[It p1, It p2, It p3, It u1, It v8_t0, It v14_t0, It v20_t0, Rf b21, Rf v49_l8, Rf wO, Rf wO, Rf wMap, .unset, .unset] [(.ref wO), (.ref wMap), (.ref b212), (.ref sa209), (.ref sa206), (.ref sa203), (.int v14_t0), (.ref wO), (.ref wO), (.ref sa200), (.ref b197), (.ref b197)])) _
          refine st218.trans ?_
          show Steps p.tables e below (T218.setTop (mkF m 197 #[It p1, It p2, It p3, It u1, It v8_t0, It v14_t0, It v20_t0, Rf b21, Rf v49_l8, Rf wO, Rf wO, Rf wMap, .unset, .unset] [(.ref b197)])) _
          refine XS.astore X218.here hx rfl (hb hby at_197) rfl rfl (l' := #[It p1, It p2, It p3, It u1, It v8_t0, It v14_t0, It v20_t0, Rf b21, Rf v49_l8, Rf wO, Rf wO, Rf wMap, Rf b197, .unset]) rfl ?_
          show Steps p.tables e below (T218.setTop (mkF m 199 #[It p1, It p2, It p3, It u1, It v8_t0, It v14_t0, It v20_t0, Rf b21, Rf v49_l8, Rf wO, Rf wO, Rf wMap, Rf b197, .unset] [])) _
          refine XS.aload X218.here hx rfl (hb hby at_199) rfl rfl ?_
          show Steps p.tables e below (T218.setTop (mkF m 201 #[It p1, It p2, It p3, It u1, It v8_t0, It v14_t0, It v20_t0, Rf b21, Rf v49_l8, Rf wO, Rf wO, Rf wMap, Rf b197, .unset] [(.ref b197)])) _
          refine st220.trans ?_
          show Steps p.tables e below (T220.setTop (mkF m 204 #[It p1, It p2, It p3, It u1, It v8_t0, It v14_t0, It v20_t0, Rf b21, Rf v49_l8, Rf wO, Rf wO, Rf wMap, Rf b197, .unset] [(.ref wO)])) _
          refine XS.astore X220.here hx rfl (hb hby at_204) rfl rfl (l' := #[It p1, It p2, It p3, It u1, It v8_t0, It v14_t0, It v20_t0, Rf b21, Rf v49_l8, Rf wO, Rf wO, Rf wMap, Rf b197, Rf wO]) rfl ?_
          show Steps p.tables e below (T220.setTop (mkF m 206 #[It p1, It p2, It p3, It u1, It v8_t0, It v14_t0, It v20_t0, Rf b21, Rf v49_l8, Rf wO, Rf wO, Rf wMap, Rf b197, Rf wO] [])) _
          refine XS.iload X220.here hx rfl (hb hby at_206) rfl ?_
          show Steps p.tables e below (T220.setTop (mkF m 208 #[It p1, It p2, It p3, It u1, It v8_t0, It v14_t0, It v20_t0, Rf b21, Rf v49_l8, Rf wO, Rf wO, Rf wMap, Rf b197, Rf wO] [(.int v8_t0)])) _
          refine XS.ifYes X220.here hx rfl (pc0 := 208) (pc' := 246) rfl (hb hby at_208) rfl ((if0 _ _).trans (teq hc194).1) (by decide) (by decide) ?_
          show Steps p.tables e below (T220.setTop (mkF m 246 #[It p1, It p2, It p3, It u1, It v8_t0, It v14_t0, It v20_t0, Rf b21, Rf v49_l8, Rf wO, Rf wO, Rf wMap, Rf b197, Rf wO] [])) _
          refine XS.iload X220.here hx rfl (hb hby at_246) rfl ?_
          show Steps p.tables e below (T220.setTop (mkF m 248 #[It p1, It p2, It p3, It u1, It v8_t0, It v14_t0, It v20_t0, Rf b21, Rf v49_l8, Rf wO, Rf wO, Rf wMap, Rf b197, Rf wO] [(.int v8_t0)])) _
          refine XS.ifYes X220.here hx rfl (pc0 := 248) (pc' := 286) rfl (hb hby at_248) rfl ((if0 _ _).trans (teq hc194).1) (by decide) (by decide) ?_
          show Steps p.tables e below (T220.setTop (mkF m 286 #[It p1, It p2, It p3, It u1, It v8_t0, It v14_t0, It v20_t0, Rf b21, Rf v49_l8, Rf wO, Rf wO, Rf wMap, Rf b197, Rf wO] [])) _
          refine XS.aload X220.here hx rfl (hb hby at_286) rfl rfl ?_
          show Steps p.tables e below (T220.setTop (mkF m 288 #[It p1, It p2, It p3, It u1, It v8_t0, It v14_t0, It v20_t0, Rf b21, Rf v49_l8, Rf wO, Rf wO, Rf wMap, Rf b197, Rf wO] [(.ref wO)])) _
          refine st221.trans ?_
          exact kt
        obtain ⟨fs, hr, hrun, hended, hRW⟩ := X221.leaveW Y218 (show _ ≤ T221.heap.size by rw [e221]; exact (Nat.le_refl _)) (v := some (.int (1 : Int32))) (fun h => by rw [Bd.returns] at h; cases h)
        refine ⟨_, _, pre0 _ (sg2 _ (sg3 _ (sg8 _ (sg9 _ (sg14 _ (sg15 _ (sg20 _ (sg25 _ (sg31 _ (sg36 _ (sg49 _ (sg50 _ (sg121 _ (sg193 _ (sg222 _ (?_)))))))))))))))), hrun, hended, _, _, rfl, ?_, (by rw [hh]; show CHr Z own_EL s.vm h0 T221.vm T221.heap; rw [e221]; exact CR219.trans (CHv.at X221 hZ218 hEL CR219.1)), hRW.1, hRW.2.1, hRW.2.2.1, hRW.2.2.2.mono (by decide) (by decide)⟩
        · show Steps p.tables e below (T221.setTop (mkF m 291 #[It p1, It p2, It p3, It u1, It v8_t0, It v14_t0, It v20_t0, Rf b21, Rf v49_l8, Rf wO, Rf wO, Rf wMap, Rf b197, Rf wO] [(.int (1 : Int32))])) _
          exact retN X221 hx (t := .boolean) Bd.returns (by simp) (hb hby at_291) hr
        · show Q0 Z p1 p2 p3 s_w1 t_w1 kb_w1 s_w2 t_w2 kb_w2 zC wO wD wMap w1 w2 h0 n0 _ T221.heap _
          rw [e221]
          exact ⟨rfl, N221, K218, O218⟩
      · obtain ⟨_, _, ⟨T223, L223, k223, n223⟩, -, X223, ⟨Lc223, hQ223, l223, y223, z223⟩, st223⟩ := Jvm.LawKit.callS X192 hx (y := (⟨"java/util/Optional", "of", "(Ljava/lang/Object;)Ljava/util/Optional;"⟩ : MethodName)) hown49 (mvT hZ49 (tw hw 193 rfl)) (mvT hZ49 (tw hw 194 rfl)) (mvT hZ49 (tw hw 29 rfl)) (mvT hZ49 (tw hw 195 rfl)) (by decide) (backOf (W := 0) (rm23 l Z a0 hw [] v49_l8 h49 n0 O49 ) hZ49 (tw hw 195 rfl) (tw hw 29 rfl) (by decide) (by decide)) (g := (mkF m 146 #[It p1, It p2, It p3, It u1, It v8_t0, It v14_t0, It v20_t0, Rf b21, Rf v49_l8, Rf wO, .unset, .unset, .unset, .unset] [(.ref v49_l8)])) rfl (by rw [hml]; rfl) (argsL := [(.ref v49_l8)]) (rest := []) (lenOf pd_13 rfl) rfl (by show 2 * 0 + _ ≤ _; exact Nat.le_of_eq rfl) (hb hby at_146) (fun _ _ => ⟨rfl, e192, (by decide : 3 + 1 ≤ _), (by decide : 8 + 1 ≤ _)⟩)
        dsimp only [Pt.U, Pt.locs, Pt.cells, Pt.slots] at X223 l223 y223 z223 st223 hQ223
        subst l223 y223 z223
        obtain ⟨r_223, rfl, N223q, K223q, O223, f223_0, f223_1, f223_2, f223_3⟩ := hQ223
        have N223 := Fr.app N192 N223q
        have CR224 := CR_49.trans (CHr.keep K223q all0 CR_49.1)
        have K223 := KK49.trans K223q all0
        obtain ⟨_, _, ⟨T225, L225, k225, n225⟩, -, X225, ⟨Lc225, hQ225, l225, y225, z225⟩, st225⟩ := Jvm.LawKit.callS X223 hx (y := (⟨"java/util/Map", "of", "()Ljava/util/Map;"⟩ : MethodName)) hown49 (mvT hZ49 (tw hw 32 rfl)) (mvT hZ49 (tw hw 33 rfl)) (mvT hZ49 (tw hw 34 rfl)) (mvT hZ49 (tw hw 35 rfl)) (by decide) (backOf (W := 0) (rm7 l Z a0 hw [] wMap T223.heap n0 O223 S_EMPTY_MAP) hZ49 (tw hw 35 rfl) (tw hw 34 rfl) (by decide) (by decide)) (g := (mkF m 159 #[It p1, It p2, It p3, It u1, It v8_t0, It v14_t0, It v20_t0, Rf b21, Rf v49_l8, Rf wO, Rf r_223, .unset, .unset, .unset] [])) rfl (by rw [hml]; rfl) (argsL := []) (rest := []) (lenOf pd_16 rfl) rfl (by show 2 * 0 + _ ≤ _; exact Nat.le_of_eq rfl) (hb hby at_159) (fun _ _ => ⟨rfl, rfl, (by decide : 4 + 0 ≤ _), (by decide : 9 + 0 ≤ _)⟩)
        dsimp only [Pt.U, Pt.locs, Pt.cells, Pt.slots] at X225 l225 y225 z225 st225 hQ225
        subst l225 y225 z225
        obtain ⟨rfl, N225q, e225⟩ := hQ225
        have N225 := Fr.app N223 N225q
        obtain ⟨T226, h226, X226, e226, E226, A226, D226, -, st226⟩ := newO X225 hx hZ49 hown49 (tw hw 38 rfl) (tw hw 39 rfl) (tw hw 40 rfl) e225 (g := (mkF m 164 #[It p1, It p2, It p3, It u1, It v8_t0, It v14_t0, It v20_t0, Rf b21, Rf v49_l8, Rf wO, Rf r_223, Rf wMap, .unset, .unset] [])) rfl (hb hby at_164) (by decide) (by decide)
        obtain ⟨b226, g226⟩ : ∃ z, z = T223.heap.size := ⟨_, rfl⟩
        rw [← g226] at A226 D226 st226
        have ge_b226 : n0 ≤ b226 := Nat.le_trans (own_osz O223) (Nat.le_of_eq g226.symm)
        have sz_b226 : h0.size ≤ b226 := Nat.le_trans K223.1 (Nat.le_of_eq g226.symm)
        have O227 := O223.ext E226
        have K226 := K223.ext E226
        have CR228 := CR224.trans (CHr.ext E226 CR224.1)
        have F_fields_b226 : Fld Z h226 b226 "com/example/legacy_to_latest/legacytolatest/EntityClass" "fields" "Ljava/util/Map;" .null := D226 (Or.inr (tw hw 101 rfl)) (ty := (.object "java/util/Map")) (by decide)
        have F_kind_b226 : Fld Z h226 b226 "com/example/legacy_to_latest/legacytolatest/EntityClass" "kind" "Ljava/lang/String;" .null := D226 (Or.inr (tw hw 109 rfl)) (ty := (.object "java/lang/String")) (by decide)
        have F_morphia_b226 : Fld Z h226 b226 "com/example/legacy_to_latest/legacytolatest/EntityClass" "morphia" "Lcom/example/legacy_to_latest/legacytolatest/EntityClass$Morphia;" .null := D226 (Or.inr (tw hw 118 rfl)) (ty := (.object "com/example/legacy_to_latest/legacytolatest/EntityClass$Morphia")) (by decide)
        have F_discriminator_b226 : Fld Z h226 b226 "com/example/legacy_to_latest/legacytolatest/EntityClass" "discriminator" "Ljava/lang/String;" .null := D226 (Or.inr (tw hw 120 rfl)) (ty := (.object "java/lang/String")) (by decide)
        have F_abstractClass_b226 : Fld Z h226 b226 "com/example/legacy_to_latest/legacytolatest/EntityClass" "abstractClass" "Z" (.int (0 : Int32)) := D226 (Or.inr (tw hw 122 rfl)) (ty := .boolean) (by decide)
        have F_className_b226 : Fld Z h226 b226 "com/example/legacy_to_latest/legacytolatest/EntityClass" "className" "Ljava/lang/String;" .null := D226 (Or.inr (tw hw 125 rfl)) (ty := (.object "java/lang/String")) (by decide)
        have F_binaryName_b226 : Fld Z h226 b226 "com/example/legacy_to_latest/legacytolatest/EntityClass" "binaryName" "Ljava/lang/String;" .null := D226 (Or.inr (tw hw 128 rfl)) (ty := (.object "java/lang/String")) (by decide)
        have F_source_b226 : Fld Z h226 b226 "com/example/legacy_to_latest/legacytolatest/EntityClass" "source" "Ljava/lang/String;" .null := D226 (Or.inr (tw hw 131 rfl)) (ty := (.object "java/lang/String")) (by decide)
        have F_keyParts_b226 : Fld Z h226 b226 "com/example/legacy_to_latest/legacytolatest/EntityClass" "keyParts" "Ljava/util/Map;" .null := D226 (Or.inr (tw hw 176 rfl)) (ty := (.object "java/util/Map")) (by decide)
        have F_unreadSuperclass_b226 : Fld Z h226 b226 "com/example/legacy_to_latest/legacytolatest/EntityClass" "unreadSuperclass" "Ljava/lang/String;" .null := D226 (Or.inr (tw hw 178 rfl)) (ty := (.object "java/lang/String")) (by decide)
        obtain ⟨sa229, T229, h229, k229, sb229, kb229, X229, e229, E229, Y229, Yk229, hZ229, hown229, A229, Fc229, Fv229, V229, la229, lb229, C229, Lt229, SF229, st229⟩ := ldcCH X226 hx hZ49 hown49 (tw hw 41 rfl) hSA e226 Y49 (Nat.le_trans (Nat.le_trans Yk49 K223q.1) E226.1) hEL (own_mem (by decide)) CR228.1 (vs := [(.int (107 : Int32))]) (z := (1 : Int32)) (by decide) (by decide) (by decide) (g := (mkF m 168 #[It p1, It p2, It p3, It u1, It v8_t0, It v14_t0, It v20_t0, Rf b21, Rf v49_l8, Rf wO, Rf r_223, Rf wMap, .unset, .unset] [(.ref b226), (.ref b226)])) rfl (hb hby at_168) (n := 4) (by decide) (by decide) (by decide) (by decide)
        have O230 := O227.ext E229
        have K229 := K226.ext E229
        have CR231 := CR228.trans (C229)
        obtain ⟨sa232, T232, h232, k232, sb232, kb232, X232, e232, E232, Y232, Yk232, hZ232, hown232, A232, Fc232, Fv232, V232, la232, lb232, C232, Lt232, SF232, st232⟩ := ldcCH X229 hx hZ229 hown229 (tw hw 44 rfl) hSA e229 Y229 Yk229 hEL (own_mem (by decide)) CR231.1 (vs := [(.int (67 : Int32))]) (z := (1 : Int32)) (by decide) (by decide) (by decide) (g := (mkF m 176 #[It p1, It p2, It p3, It u1, It v8_t0, It v14_t0, It v20_t0, Rf b21, Rf v49_l8, Rf wO, Rf r_223, Rf wMap, .unset, .unset] [(.int v14_t0), (.ref r_223), (.ref wO), (.ref sa229), (.ref b226), (.ref b226)])) rfl (hb hby at_176) (n := 4) (by decide) (by decide) (by decide) (by decide)
        have O233 := O230.ext E232
        have K232 := K229.ext E232
        have CR234 := CR231.trans (C232)
        obtain ⟨sa235, T235, h235, k235, sb235, kb235, X235, e235, E235, Y235, Yk235, hZ235, hown235, A235, Fc235, Fv235, V235, la235, lb235, C235, Lt235, SF235, st235⟩ := ldcCH X232 hx hZ232 hown232 (tw hw 44 rfl) hSA e232 Y232 Yk232 hEL (own_mem (by decide)) CR234.1 (vs := [(.int (67 : Int32))]) (z := (1 : Int32)) (by decide) (by decide) (by decide) (g := (mkF m 178 #[It p1, It p2, It p3, It u1, It v8_t0, It v14_t0, It v20_t0, Rf b21, Rf v49_l8, Rf wO, Rf r_223, Rf wMap, .unset, .unset] [(.ref sa232), (.int v14_t0), (.ref r_223), (.ref wO), (.ref sa229), (.ref b226), (.ref b226)])) rfl (hb hby at_178) (n := 4) (by decide) (by decide) (by decide) (by decide)
        have O236 := O233.ext E235
        have K235 := K232.ext E235
        have CR237 := CR234.trans (C235)
        obtain ⟨sa238, T238, h238, k238, sb238, kb238, X238, e238, E238, Y238, Yk238, hZ238, hown238, A238, Fc238, Fv238, V238, la238, lb238, C238, Lt238, SF238, st238⟩ := ldcCH X235 hx hZ235 hown235 (tw hw 45 rfl) hSA e235 Y235 Yk235 hEL (own_mem (by decide)) CR237.1 (vs := [(.int (67 : Int32)), (.int (46 : Int32)), (.int (106 : Int32)), (.int (97 : Int32)), (.int (118 : Int32)), (.int (97 : Int32))]) (z := (6 : Int32)) (by decide) (by decide) (by decide) (g := (mkF m 180 #[It p1, It p2, It p3, It u1, It v8_t0, It v14_t0, It v20_t0, Rf b21, Rf v49_l8, Rf wO, Rf r_223, Rf wMap, .unset, .unset] [(.ref sa235), (.ref sa232), (.int v14_t0), (.ref r_223), (.ref wO), (.ref sa229), (.ref b226), (.ref b226)])) rfl (hb hby at_180) (n := 24) (by decide) (by decide) (by decide) (by decide)
        have O239 := O236.ext E238
        have K238 := K235.ext E238
        have CR240 := CR237.trans (C238)
        obtain ⟨T241, h241, X241, e241, E241, A241, D241, -, st241⟩ := newO X238 hx hZ238 hown238 (tw hw 46 rfl) (tw hw 47 rfl) (tw hw 48 rfl) e238 (g := (mkF m 182 #[It p1, It p2, It p3, It u1, It v8_t0, It v14_t0, It v20_t0, Rf b21, Rf v49_l8, Rf wO, Rf r_223, Rf wMap, .unset, .unset] [(.ref sa238), (.ref sa235), (.ref sa232), (.int v14_t0), (.ref r_223), (.ref wO), (.ref sa229), (.ref b226), (.ref b226)])) rfl (hb hby at_182) (by decide) (by decide)
        obtain ⟨b241, g241⟩ : ∃ z, z = h238.size := ⟨_, rfl⟩
        rw [← g241] at A241 D241 st241
        have ge_b241 : n0 ≤ b241 := Nat.le_trans (own_osz O239) (Nat.le_of_eq g241.symm)
        have sz_b241 : h0.size ≤ b241 := Nat.le_trans K238.1 (Nat.le_of_eq g241.symm)
        have O242 := O239.ext E241
        have K241 := K238.ext E241
        have CR243 := CR240.trans (CHr.ext E241 CR240.1)
        have F_modCount_b241 : Fld Z h241 b241 "java/util/AbstractList" "modCount" "I" (.int (0 : Int32)) := D241 (Or.inl (tw hw 66 rfl)) (ty := .int) (by decide)
        have F_elementData_b241 : Fld Z h241 b241 "java/util/ArrayList" "elementData" "[Ljava/lang/Object;" .null := D241 (Or.inl (tw hw 69 rfl)) (ty := (.array (.object "java/lang/Object"))) (by decide)
        have F_size_b241 : Fld Z h241 b241 "java/util/ArrayList" "size" "I" (.int (0 : Int32)) := D241 (Or.inl (tw hw 169 rfl)) (ty := .int) (by decide)
        obtain ⟨_, _, ⟨T244, L244, k244, n244⟩, -, X244, ⟨Lc244, hQ244, l244, y244, z244⟩, st244⟩ := X241.specialBack hx (y := (⟨"java/util/ArrayList", "<init>", "()V"⟩ : MethodName)) rfl hown238 (mvT hZ238 (tw hw 49 rfl)) (mvT hZ238 (tw hw 50 rfl)) (mvT hZ238 (tw hw 51 rfl)) (by decide) (backOf (W := 10) (rm8 l Z a0 hw [] b241 wD h241 n0 O242 S_DEFAULTCAPACITY_EMPTY_ELEMENTDATA A241 F_modCount_b241 F_elementData_b241 F_size_b241 ge_b241) hZ238 (tw hw 51 rfl) (tw hw 48 rfl) (by decide) (by decide)) (g := (mkF m 186 #[It p1, It p2, It p3, It u1, It v8_t0, It v14_t0, It v20_t0, Rf b21, Rf v49_l8, Rf wO, Rf r_223, Rf wMap, .unset, .unset] [(.ref b241), (.ref b241), (.ref sa238), (.ref sa235), (.ref sa232), (.int v14_t0), (.ref r_223), (.ref wO), (.ref sa229), (.ref b226), (.ref b226)])) rfl (by rw [hml]; rfl) (Steps.refl _) (a := b241) (argsL := []) (rest := [(.ref b241), (.ref sa238), (.ref sa235), (.ref sa232), (.int v14_t0), (.ref r_223), (.ref wO), (.ref sa229), (.ref b226), (.ref b226)]) (lenOf pd_5 rfl) rfl (by show 2 * 0 + _ ≤ _; exact Nat.le_of_eq rfl) (hb hby at_186) (fun _ _ => ⟨rfl, e241, (by decide : 14 + 0 ≤ _), (by decide : 74 + 0 ≤ _)⟩)
        dsimp only [Pt.U, Pt.locs, Pt.cells, Pt.slots] at X244 l244 y244 z244 st244 hQ244
        subst l244 y244 z244
        obtain ⟨rfl, N244q, K244q, O244, f244_0, f244_1⟩ := hQ244
        have N244 := Fr.app N225 N244q
        have CR245 := CR243.trans (CHr.keep K244q (allS (Safe.exa hZ238.alike A241 (by decide) (by decide)) all0) CR243.1)
        have K244 := K241.trans K244q (allS (Or.inr sz_b241) all0)
        obtain ⟨_, _, ⟨T246, L246, k246, n246⟩, -, X246, ⟨Lc246, hQ246, l246, y246, z246⟩, st246⟩ := Jvm.LawKit.callS X244 hx (y := (⟨"java/util/Optional", "empty", "()Ljava/util/Optional;"⟩ : MethodName)) hown238 (mvT hZ238 (tw hw 27 rfl)) (mvT hZ238 (tw hw 28 rfl)) (mvT hZ238 (tw hw 29 rfl)) (mvT hZ238 (tw hw 30 rfl)) (by decide) (backOf (W := 11) (rm6 l Z a0 hw [] wO T244.heap n0 O244 S_EMPTY) hZ238 (tw hw 30 rfl) (tw hw 29 rfl) (by decide) (by decide)) (g := (mkF m 191 #[It p1, It p2, It p3, It u1, It v8_t0, It v14_t0, It v20_t0, Rf b21, Rf v49_l8, Rf wO, Rf r_223, Rf wMap, .unset, .unset] [(.ref wMap), (.ref b241), (.ref sa238), (.ref sa235), (.ref sa232), (.int v14_t0), (.ref r_223), (.ref wO), (.ref sa229), (.ref b226), (.ref b226)])) rfl (by rw [hml]; rfl) (argsL := []) (rest := [(.ref wMap), (.ref b241), (.ref sa238), (.ref sa235), (.ref sa232), (.int v14_t0), (.ref r_223), (.ref wO), (.ref sa229), (.ref b226), (.ref b226)]) (lenOf pd_11 rfl) rfl (by show 2 * 0 + _ ≤ _; exact Nat.le_of_eq rfl) (hb hby at_191) (fun _ _ => ⟨rfl, rfl, (by decide : 14 + 0 ≤ _), (by decide : 74 + 0 ≤ _)⟩)
        dsimp only [Pt.U, Pt.locs, Pt.cells, Pt.slots] at X246 l246 y246 z246 st246 hQ246
        subst l246 y246 z246
        obtain ⟨rfl, N246q, e246⟩ := hQ246
        have N246 := Fr.app N244 N246q
        obtain ⟨_, _, ⟨T247, L247, k247, n247⟩, -, X247, Y247, G247, ⟨Lc247, hQ247, l247, y247, z247, C247⟩, st247⟩ := X246.specialBackS hx (y := (⟨"com/example/legacy_to_latest/legacytolatest/EntityClass", "<init>", "(Ljava/lang/String;Ljava/util/Optional;Ljava/util/Optional;ZLjava/lang/String;Ljava/lang/String;Ljava/lang/String;Ljava/util/List;Ljava/util/Map;Ljava/util/Optional;)V"⟩ : MethodName)) rfl hown238 (mvT hZ238 (tw hw 70 rfl)) (mvT hZ238 (tw hw 71 rfl)) (mvT hZ238 (tw hw 72 rfl)) (by decide) (backOfSH (W := 1) (rm11_01 l Z a0 hw [] b226 sa229 wO r_223 v14_t0 sa232 sa235 sa238 b241 wMap wO v49_l8 T244.heap n0 O244 ((((((A226.ext E229).ext E232).ext E235).ext E238).ext E241).keep K244q) ((((((F_fields_b226.ext E229).ext E232).ext E235).ext E238).ext E241).keep K244q (ninS (Nat.ne_of_lt (Nat.lt_of_lt_of_le ((((A226.ext E229).ext E232).ext E235).ext E238).lt (Nat.le_of_eq g241.symm))) nin0)) ((((((F_kind_b226.ext E229).ext E232).ext E235).ext E238).ext E241).keep K244q (ninS (Nat.ne_of_lt (Nat.lt_of_lt_of_le ((((A226.ext E229).ext E232).ext E235).ext E238).lt (Nat.le_of_eq g241.symm))) nin0)) ((((((F_morphia_b226.ext E229).ext E232).ext E235).ext E238).ext E241).keep K244q (ninS (Nat.ne_of_lt (Nat.lt_of_lt_of_le ((((A226.ext E229).ext E232).ext E235).ext E238).lt (Nat.le_of_eq g241.symm))) nin0)) ((((((F_discriminator_b226.ext E229).ext E232).ext E235).ext E238).ext E241).keep K244q (ninS (Nat.ne_of_lt (Nat.lt_of_lt_of_le ((((A226.ext E229).ext E232).ext E235).ext E238).lt (Nat.le_of_eq g241.symm))) nin0)) ((((((F_abstractClass_b226.ext E229).ext E232).ext E235).ext E238).ext E241).keep K244q (ninS (Nat.ne_of_lt (Nat.lt_of_lt_of_le ((((A226.ext E229).ext E232).ext E235).ext E238).lt (Nat.le_of_eq g241.symm))) nin0)) ((((((F_className_b226.ext E229).ext E232).ext E235).ext E238).ext E241).keep K244q (ninS (Nat.ne_of_lt (Nat.lt_of_lt_of_le ((((A226.ext E229).ext E232).ext E235).ext E238).lt (Nat.le_of_eq g241.symm))) nin0)) ((((((F_binaryName_b226.ext E229).ext E232).ext E235).ext E238).ext E241).keep K244q (ninS (Nat.ne_of_lt (Nat.lt_of_lt_of_le ((((A226.ext E229).ext E232).ext E235).ext E238).lt (Nat.le_of_eq g241.symm))) nin0)) ((((((F_source_b226.ext E229).ext E232).ext E235).ext E238).ext E241).keep K244q (ninS (Nat.ne_of_lt (Nat.lt_of_lt_of_le ((((A226.ext E229).ext E232).ext E235).ext E238).lt (Nat.le_of_eq g241.symm))) nin0)) ((((((F_keyParts_b226.ext E229).ext E232).ext E235).ext E238).ext E241).keep K244q (ninS (Nat.ne_of_lt (Nat.lt_of_lt_of_le ((((A226.ext E229).ext E232).ext E235).ext E238).lt (Nat.le_of_eq g241.symm))) nin0)) ((((((F_unreadSuperclass_b226.ext E229).ext E232).ext E235).ext E238).ext E241).keep K244q (ninS (Nat.ne_of_lt (Nat.lt_of_lt_of_le ((((A226.ext E229).ext E232).ext E235).ext E238).lt (Nat.le_of_eq g241.symm))) nin0)) ge_b226 (((((A229.ext E232).ext E235).ext E238).ext E241).keep K244q) ((((A232.ext E235).ext E238).ext E241).keep K244q) (((A235.ext E238).ext E241).keep K244q) ((A238.ext E241).keep K244q) (((((((((((((hX_wO.ext O0.2).ext E21).wr W27).wr W33).keep K49).keep K223q).ext E226).ext E229).ext E232).ext E235).ext E238).ext E241).keep K244q) (((((((((((((hF_wO.ext O0.2).ext E21).other W27 (Or.inl (Nat.ne_of_lt (Nat.lt_of_lt_of_le (hX_wO.ext O0.2).lt (Nat.le_of_eq g21.symm))))).other W33 (Or.inl (Nat.ne_of_lt (Nat.lt_of_lt_of_le (hX_wO.ext O0.2).lt (Nat.le_of_eq g21.symm))))).keep K49 nin0).keep K223q nin0).ext E226).ext E229).ext E232).ext E235).ext E238).ext E241).keep K244q (ninS (Nat.ne_of_lt (Nat.lt_of_lt_of_le (((((((((((hX_wO.ext O0.2).ext E21).wr W27).wr W33).keep K49).keep K223q).ext E226).ext E229).ext E232).ext E235).ext E238).lt (Nat.le_of_eq g241.symm))) nin0)) (((((((f223_2.ext E226).ext E229).ext E232).ext E235).ext E238).ext E241).keep K244q) (((((((f223_3.ext E226).ext E229).ext E232).ext E235).ext E238).ext E241).keep K244q (ninS (Nat.ne_of_lt (Nat.lt_of_lt_of_le (((((f223_2.ext E226).ext E229).ext E232).ext E235).ext E238).lt (Nat.le_of_eq g241.symm))) nin0)) (((((((((((((hX_wO.ext O0.2).ext E21).wr W27).wr W33).keep K49).keep K223q).ext E226).ext E229).ext E232).ext E235).ext E238).ext E241).keep K244q) (((((((((((((hF_wO.ext O0.2).ext E21).other W27 (Or.inl (Nat.ne_of_lt (Nat.lt_of_lt_of_le (hX_wO.ext O0.2).lt (Nat.le_of_eq g21.symm))))).other W33 (Or.inl (Nat.ne_of_lt (Nat.lt_of_lt_of_le (hX_wO.ext O0.2).lt (Nat.le_of_eq g21.symm))))).keep K49 nin0).keep K223q nin0).ext E226).ext E229).ext E232).ext E235).ext E238).ext E241).keep K244q (ninS (Nat.ne_of_lt (Nat.lt_of_lt_of_le (((((((((((hX_wO.ext O0.2).ext E21).wr W27).wr W33).keep K49).keep K223q).ext E226).ext E229).ext E232).ext E235).ext E238).lt (Nat.le_of_eq g241.symm))) nin0)) (A241.keep K244q) f244_0 f244_1 (((((((((((((hX_wMap.ext O0.2).ext E21).wr W27).wr W33).keep K49).keep K223q).ext E226).ext E229).ext E232).ext E235).ext E238).ext E241).keep K244q) ((((((((E_v49_l8.keep K223q).ext E226).ext E229).ext E232).ext E235).ext E238).ext E241).keep K244q)) hZ238 (tw hw 72 rfl) (tw hw 40 rfl) (by decide) (by decide) hEL CR245.1) (g := (mkF m 194 #[It p1, It p2, It p3, It u1, It v8_t0, It v14_t0, It v20_t0, Rf b21, Rf v49_l8, Rf wO, Rf r_223, Rf wMap, .unset, .unset] [(.ref wO), (.ref wMap), (.ref b241), (.ref sa238), (.ref sa235), (.ref sa232), (.int v14_t0), (.ref r_223), (.ref wO), (.ref sa229), (.ref b226), (.ref b226)])) rfl (by rw [hml]; rfl) (Steps.refl _) (a := b226) (argsL := [(.ref sa229), (.ref wO), (.ref r_223), (.int v14_t0), (.ref sa232), (.ref sa235), (.ref sa238), (.ref b241), (.ref wMap), (.ref wO)]) (rest := [(.ref b226)]) (lenOf pd_17 rfl) rfl (by show 2 * 0 + _ ≤ _; exact Nat.le_of_eq rfl) (hb hby at_194) (fun _ _ => ⟨rfl, e246, (by decide : 14 + 10 ≤ _), (by decide : 74 + 148 ≤ _)⟩)
        dsimp only [Pt.U, Pt.locs, Pt.cells, Pt.slots] at X247 l247 y247 z247 st247 hQ247 Y247 G247 C247
        subst l247 y247 z247
        obtain ⟨rfl, N247q, K247q, O247, f247_0, f247_1⟩ := hQ247
        have N247 := Fr.app N246 N247q
        obtain ⟨X247, Y247, hZ247, hown247⟩ := rebS Y238 (by rw [e246]; exact (Nat.le_trans (Nat.le_trans Yk238 E241.1) K244q.1)) X247 Y247 G247 hZ238 hown238
        have CR248 := CR245.trans (C247)
        have K247 := K244.trans K247q (allS (Or.inr sz_b226) all0)
        obtain ⟨cq249, kq249, q249a, q249b, q249c⟩ := isOf hZ247 rfl (((((((A226.ext E229).ext E232).ext E235).ext E238).ext E241).keep K244q).keep K247q)
        obtain ⟨_, _, ⟨T249, L249, k249, n249⟩, -, X249, ⟨Lc249, hQ249, l249, y249, z249⟩, st249⟩ := X247.virtualBack hx (y := (⟨"com/example/legacy_to_latest/legacytolatest/EntityClass", "getDiscriminatorKey", "()Ljava/util/Optional;"⟩ : MethodName)) (z := (⟨"com/example/legacy_to_latest/legacytolatest/EntityClass", "getDiscriminatorKey", "()Ljava/util/Optional;"⟩ : MethodName)) hown247 (mvT hZ247 (tw hw 179 rfl)) (mvT hZ247 (tw hw 180 rfl)) (notFace_of_selects (args := #[]) (mvT hZ247 (tw hw 182 rfl))) (mvT hZ247 (tw hw 182 rfl)) (mvT hZ247 (tw hw 181 rfl)) (by decide) (backOf (W := 0) (rm21_1 l Z a0 hw [] b226 v49_l8 wO T247.heap n0 O247 S_EMPTY f247_1 f247_0) hZ247 (tw hw 183 rfl) (tw hw 40 rfl) (by decide) (by decide)) q249a q249c (g := (mkF m 201 #[It p1, It p2, It p3, It u1, It v8_t0, It v14_t0, It v20_t0, Rf b21, Rf v49_l8, Rf wO, Rf r_223, Rf wMap, Rf b226, .unset] [(.ref b226)])) rfl (by rw [hml]; rfl) (Steps.refl _) (argsL := []) (rest := []) (lenOf pd_11 rfl) rfl (by show 2 * 0 + _ ≤ _; exact Nat.le_of_eq rfl) (hb hby at_201) (fun _ _ => ⟨rfl, rfl, (by decide : 24 + 0 ≤ _), (by decide : 222 + 0 ≤ _)⟩)
        dsimp only [Pt.U, Pt.locs, Pt.cells, Pt.slots] at X249 l249 y249 z249 st249 hQ249
        subst l249 y249 z249
        obtain ⟨rfl, N249q, e249⟩ := hQ249
        have N249 := Fr.app N247 N249q
        obtain ⟨cq250, kq250, q250a, q250b, q250c⟩ := isOf hZ247 e249 ((((((((((((((hX_wO.ext O0.2).ext E21).wr W27).wr W33).keep K49).keep K223q).ext E226).ext E229).ext E232).ext E235).ext E238).ext E241).keep K244q).keep K247q)
        obtain ⟨_, _, ⟨T250, L250, k250, n250⟩, -, X250, ⟨Lc250, hQ250, l250, y250, z250⟩, st250⟩ := X249.virtualBack hx (y := (⟨"java/util/Optional", "isEmpty", "()Z"⟩ : MethodName)) (z := (⟨"java/util/Optional", "isEmpty", "()Z"⟩ : MethodName)) hown247 (mvT hZ247 (tw hw 185 rfl)) (mvT hZ247 (tw hw 186 rfl)) (notFace_of_selects (args := #[]) (mvT hZ247 (tw hw 188 rfl))) (mvT hZ247 (tw hw 188 rfl)) (mvT hZ247 (tw hw 187 rfl)) (by decide) (backOf (W := 0) (rm22_0 l Z a0 hw [] wO T247.heap n0 O247 ((((((((((((((hF_wO.ext O0.2).ext E21).other W27 (Or.inl (Nat.ne_of_lt (Nat.lt_of_lt_of_le (hX_wO.ext O0.2).lt (Nat.le_of_eq g21.symm))))).other W33 (Or.inl (Nat.ne_of_lt (Nat.lt_of_lt_of_le (hX_wO.ext O0.2).lt (Nat.le_of_eq g21.symm))))).keep K49 nin0).keep K223q nin0).ext E226).ext E229).ext E232).ext E235).ext E238).ext E241).keep K244q (ninS (Nat.ne_of_lt (Nat.lt_of_lt_of_le (((((((((((hX_wO.ext O0.2).ext E21).wr W27).wr W33).keep K49).keep K223q).ext E226).ext E229).ext E232).ext E235).ext E238).lt (Nat.le_of_eq g241.symm))) nin0)).keep K247q (ninS (Nat.ne_of_lt (Nat.lt_of_lt_of_le ((((((hX_wO.ext O0.2).ext E21).wr W27).wr W33).keep K49).keep K223q).lt (Nat.le_of_eq g226.symm))) nin0))) hZ247 (tw hw 189 rfl) (tw hw 29 rfl) (by decide) (by decide)) q250a q250c (g := (mkF m 288 #[It p1, It p2, It p3, It u1, It v8_t0, It v14_t0, It v20_t0, Rf b21, Rf v49_l8, Rf wO, Rf r_223, Rf wMap, Rf b226, Rf wO] [(.ref wO)])) rfl (by rw [hml]; rfl) (Steps.refl _) (argsL := []) (rest := []) (lenOf pd_9 rfl) rfl (by show 2 * 0 + _ ≤ _; exact Nat.le_of_eq rfl) (hb hby at_288) (fun _ _ => ⟨rfl, e249, (by decide : 24 + 0 ≤ _), (by decide : 222 + 0 ≤ _)⟩)
        dsimp only [Pt.U, Pt.locs, Pt.cells, Pt.slots] at X250 l250 y250 z250 st250 hQ250
        subst l250 y250 z250
        obtain ⟨rfl, N250q, e250⟩ := hQ250
        have N250 := Fr.app N249 N250q
        have sg251 : ∀ target, Steps p.tables e below (T250.setTop (mkF m 291 #[It p1, It p2, It p3, It u1, It v8_t0, It v14_t0, It v20_t0, Rf b21, Rf v49_l8, Rf wO, Rf r_223, Rf wMap, Rf b226, Rf wO] [(.int (1 : Int32))])) target → Steps p.tables e below (T192.setTop (mkF m 141 #[It p1, It p2, It p3, It u1, It v8_t0, It v14_t0, It v20_t0, Rf b21, Rf v49_l8, Rf wO, .unset, .unset, .unset, .unset] [(.int v8_t0)])) target := by
          intro target kt
          show Steps p.tables e below (T192.setTop (mkF m 141 #[It p1, It p2, It p3, It u1, It v8_t0, It v14_t0, It v20_t0, Rf b21, Rf v49_l8, Rf wO, .unset, .unset, .unset, .unset] [(.int v8_t0)])) _
          refine XS.ifNo X192.here hx rfl (hb hby at_141) rfl ((if0 _ _).trans (feq hc194).1) ?_
          show Steps p.tables e below (T192.setTop (mkF m 144 #[It p1, It p2, It p3, It u1, It v8_t0, It v14_t0, It v20_t0, Rf b21, Rf v49_l8, Rf wO, .unset, .unset, .unset, .unset] [])) _
          refine XS.aload X192.here hx rfl (hb hby at_144) rfl rfl ?_
          show Steps p.tables e below (T192.setTop (mkF m 146 #[It p1, It p2, It p3, It u1, It v8_t0, It v14_t0, It v20_t0, Rf b21, Rf v49_l8, Rf wO, .unset, .unset, .unset, .unset] [(.ref v49_l8)])) _
          refine st223 _ ?_
          show Steps p.tables e below (T223.setTop (mkF m 149 #[It p1, It p2, It p3, It u1, It v8_t0, It v14_t0, It v20_t0, Rf b21, Rf v49_l8, Rf wO, .unset, .unset, .unset, .unset] [(.ref r_223)])) _
          refine XS.astore X223.here hx rfl (hb hby at_149) rfl rfl (l' := #[It p1, It p2, It p3, It u1, It v8_t0, It v14_t0, It v20_t0, Rf b21, Rf v49_l8, Rf wO, Rf r_223, .unset, .unset, .unset]) rfl ?_
          show Steps p.tables e below (T223.setTop (mkF m 151 #[It p1, It p2, It p3, It u1, It v8_t0, It v14_t0, It v20_t0, Rf b21, Rf v49_l8, Rf wO, Rf r_223, .unset, .unset, .unset] [])) _
          refine XS.goto X223.here hx rfl (pc0 := 151) (pc' := 159) rfl (hb hby at_151) (by decide) (by decide) ?_
          show Steps p.tables e below (T223.setTop (mkF m 159 #[It p1, It p2, It p3, It u1, It v8_t0, It v14_t0, It v20_t0, Rf b21, Rf v49_l8, Rf wO, Rf r_223, .unset, .unset, .unset] [])) _
          refine st225 _ ?_
          show Steps p.tables e below (T225.setTop (mkF m 162 #[It p1, It p2, It p3, It u1, It v8_t0, It v14_t0, It v20_t0, Rf b21, Rf v49_l8, Rf wO, Rf r_223, .unset, .unset, .unset] [(.ref wMap)])) _
          refine XS.astore X225.here hx rfl (hb hby at_162) rfl rfl (l' := #[It p1, It p2, It p3, It u1, It v8_t0, It v14_t0, It v20_t0, Rf b21, Rf v49_l8, Rf wO, Rf r_223, Rf wMap, .unset, .unset]) rfl ?_
          show Steps p.tables e below (T225.setTop (mkF m 164 #[It p1, It p2, It p3, It u1, It v8_t0, It v14_t0, It v20_t0, Rf b21, Rf v49_l8, Rf wO, Rf r_223, Rf wMap, .unset, .unset] [])) _
          refine st226 _ ?_
          show Steps p.tables e below (T226.setTop (mkF m 167 #[It p1, It p2, It p3, It u1, It v8_t0, It v14_t0, It v20_t0, Rf b21, Rf v49_l8, Rf wO, Rf r_223, Rf wMap, .unset, .unset] [(.ref b226)])) _
          refine XS.dup X226.here hx rfl (hb hby at_167) rfl rfl ?_
          show Steps p.tables e below (T226.setTop (mkF m 168 #[It p1, It p2, It p3, It u1, It v8_t0, It v14_t0, It v20_t0, Rf b21, Rf v49_l8, Rf wO, Rf r_223, Rf wMap, .unset, .unset] [(.ref b226), (.ref b226)])) _
          refine st229 _ ?_
          show Steps p.tables e below (T229.setTop (mkF m 170 #[It p1, It p2, It p3, It u1, It v8_t0, It v14_t0, It v20_t0, Rf b21, Rf v49_l8, Rf wO, Rf r_223, Rf wMap, .unset, .unset] [(.ref sa229), (.ref b226), (.ref b226)])) _
          refine XS.aload X229.here hx rfl (hb hby at_170) rfl rfl ?_
          show Steps p.tables e below (T229.setTop (mkF m 172 #[It p1, It p2, It p3, It u1, It v8_t0, It v14_t0, It v20_t0, Rf b21, Rf v49_l8, Rf wO, Rf r_223, Rf wMap, .unset, .unset] [(.ref wO), (.ref sa229), (.ref b226), (.ref b226)])) _
          refine XS.aload X229.here hx rfl (hb hby at_172) rfl rfl ?_
          show Steps p.tables e below (T229.setTop (mkF m 174 #[It p1, It p2, It p3, It u1, It v8_t0, It v14_t0, It v20_t0, Rf b21, Rf v49_l8, Rf wO, Rf r_223, Rf wMap, .unset, .unset] [(.ref r_223), (.ref wO), (.ref sa229), (.ref b226), (.ref b226)])) _
          refine XS.iload X229.here hx rfl (hb hby at_174) rfl ?_
          show Steps p.tables e below (T229.setTop (mkF m 176 #[It p1, It p2, It p3, It u1, It v8_t0, It v14_t0, It v20_t0, Rf b21, Rf v49_l8, Rf wO, Rf r_223, Rf wMap, .unset, .unset] [(.int v14_t0), (.ref r_223), (.ref wO), (.ref sa229), (.ref b226), (.ref b226)])) _
          refine st232 _ ?_
          show Steps p.tables e below (T232.setTop (mkF m 178 #[It p1, It p2, It p3, It u1, It v8_t0, It v14_t0, It v20_t0, Rf b21, Rf v49_l8, Rf wO, Rf r_223, Rf wMap, .unset, .unset] [(.ref sa232), (.int v14_t0), (.ref r_223), (.ref wO), (.ref sa229), (.ref b226), (.ref b226)])) _
          refine st235 _ ?_
          show Steps p.tables e below (T235.setTop (mkF m 180 #[It p1, It p2, It p3, It u1, It v8_t0, It v14_t0, It v20_t0, Rf b21, Rf v49_l8, Rf wO, Rf r_223, Rf wMap, .unset, .unset] [(.ref sa235), (.ref sa232), (.int v14_t0), (.ref r_223), (.ref wO), (.ref sa229), (.ref b226), (.ref b226)])) _
          refine st238 _ ?_
          show Steps p.tables e below (T238.setTop (mkF m 182 #[It p1, It p2, It p3, It u1, It v8_t0, It v14_t0, It v20_t0, Rf b21, Rf v49_l8, Rf wO, Rf r_223, Rf wMap, .unset, .unset] [(.ref sa238), (.ref sa235), (.ref sa232), (.int v14_t0), (.ref r_223), (.ref wO), (.ref sa229), (.ref b226), (.ref b226)])) _
          refine st241 _ ?_
          show Steps p.tables e below (T241.setTop (mkF m 185 #[It p1, It p2, It p3, It u1, It v8_t0, It v14_t0, It v20_t0, Rf b21, Rf v49_l8, Rf wO, Rf r_223, Rf wMap, .unset, .unset] [(.ref b241), (.ref sa238), (.ref sa235), (.ref sa232), (.int v14_t0), (.ref r_223), (.ref wO), (.ref sa229), (.ref b226), (.ref b226)])) _
          refine XS.dup X241.here hx rfl (hb hby at_185) rfl rfl ?_
          show Steps p.tables e below (T241.setTop (mkF m 186 #[It p1, It p2, It p3, It u1, It v8_t0, It v14_t0, It v20_t0, Rf b21, Rf v49_l8, Rf wO, Rf r_223, Rf wMap, .unset, .unset] [(.ref b241), (.ref b241), (.ref sa238), (.ref sa235), (.ref sa232), (.int v14_t0), (.ref r_223), (.ref wO), (.ref sa229), (.ref b226), (.ref b226)])) _
          refine st244.trans ?_
          show Steps p.tables e below (T244.setTop (mkF m 189 #[It p1, It p2, It p3, It u1, It v8_t0, It v14_t0, It v20_t0, Rf b21, Rf v49_l8, Rf wO, Rf r_223, Rf wMap, .unset, .unset] [(.ref b241), (.ref sa238), (.ref sa235), (.ref sa232), (.int v14_t0), (.ref r_223), (.ref wO), (.ref sa229), (.ref b226), (.ref b226)])) _
          refine XS.aload X244.here hx rfl (hb hby at_189) rfl rfl ?_
          show Steps p.tables e below (T244.setTop (mkF m 191 #[It p1, It p2, It p3, It u1, It v8_t0, It v14_t0, It v20_t0, Rf b21, Rf v49_l8, Rf wO, Rf r_223, Rf wMap, .unset, .unset] [(.ref wMap), (.ref b241), (.ref sa238), (.ref sa235), (.ref sa232), (.int v14_t0), (.ref r_223), (.ref wO), (.ref sa229), (.ref b226), (.ref b226)])) _
          refine st246 _ ?_
          show Steps p.tables e below (T246.setTop (mkF m 194 #[It p1, It p2, It p3, It u1, It v8_t0, It v14_t0, It v20_t0, Rf b21, Rf v49_l8, Rf wO, Rf r_223, Rf wMap, .unset, .unset] [(.ref wO), (.ref wMap), (.ref b241), (.ref sa238), (.ref sa235), (.ref sa232), (.int v14_t0), (.ref r_223), (.ref wO), (.ref sa229), (.ref b226), (.ref b226)])) _
          refine st247.trans ?_
          show Steps p.tables e below (T247.setTop (mkF m 197 #[It p1, It p2, It p3, It u1, It v8_t0, It v14_t0, It v20_t0, Rf b21, Rf v49_l8, Rf wO, Rf r_223, Rf wMap, .unset, .unset] [(.ref b226)])) _
          refine XS.astore X247.here hx rfl (hb hby at_197) rfl rfl (l' := #[It p1, It p2, It p3, It u1, It v8_t0, It v14_t0, It v20_t0, Rf b21, Rf v49_l8, Rf wO, Rf r_223, Rf wMap, Rf b226, .unset]) rfl ?_
          show Steps p.tables e below (T247.setTop (mkF m 199 #[It p1, It p2, It p3, It u1, It v8_t0, It v14_t0, It v20_t0, Rf b21, Rf v49_l8, Rf wO, Rf r_223, Rf wMap, Rf b226, .unset] [])) _
          refine XS.aload X247.here hx rfl (hb hby at_199) rfl rfl ?_
          show Steps p.tables e below (T247.setTop (mkF m 201 #[It p1, It p2, It p3, It u1, It v8_t0, It v14_t0, It v20_t0, Rf b21, Rf v49_l8, Rf wO, Rf r_223, Rf wMap, Rf b226, .unset] [(.ref b226)])) _
          refine st249.trans ?_
          show Steps p.tables e below (T249.setTop (mkF m 204 #[It p1, It p2, It p3, It u1, It v8_t0, It v14_t0, It v20_t0, Rf b21, Rf v49_l8, Rf wO, Rf r_223, Rf wMap, Rf b226, .unset] [(.ref wO)])) _
          refine XS.astore X249.here hx rfl (hb hby at_204) rfl rfl (l' := #[It p1, It p2, It p3, It u1, It v8_t0, It v14_t0, It v20_t0, Rf b21, Rf v49_l8, Rf wO, Rf r_223, Rf wMap, Rf b226, Rf wO]) rfl ?_
          show Steps p.tables e below (T249.setTop (mkF m 206 #[It p1, It p2, It p3, It u1, It v8_t0, It v14_t0, It v20_t0, Rf b21, Rf v49_l8, Rf wO, Rf r_223, Rf wMap, Rf b226, Rf wO] [])) _
          refine XS.iload X249.here hx rfl (hb hby at_206) rfl ?_
          show Steps p.tables e below (T249.setTop (mkF m 208 #[It p1, It p2, It p3, It u1, It v8_t0, It v14_t0, It v20_t0, Rf b21, Rf v49_l8, Rf wO, Rf r_223, Rf wMap, Rf b226, Rf wO] [(.int v8_t0)])) _
          refine XS.ifNo X249.here hx rfl (hb hby at_208) rfl ((if0 _ _).trans (feq hc194).1) ?_
          show Steps p.tables e below (T249.setTop (mkF m 211 #[It p1, It p2, It p3, It u1, It v8_t0, It v14_t0, It v20_t0, Rf b21, Rf v49_l8, Rf wO, Rf r_223, Rf wMap, Rf b226, Rf wO] [])) _
          refine XS.iloadN X249.here hx rfl (hb hby at_211) rfl ?_
          show Steps p.tables e below (T249.setTop (mkF m 212 #[It p1, It p2, It p3, It u1, It v8_t0, It v14_t0, It v20_t0, Rf b21, Rf v49_l8, Rf wO, Rf r_223, Rf wMap, Rf b226, Rf wO] [(.int u1)])) _
          refine XS.iconst X249.here hx rfl (hb hby at_212) ?_
          show Steps p.tables e below (T249.setTop (mkF m 213 #[It p1, It p2, It p3, It u1, It v8_t0, It v14_t0, It v20_t0, Rf b21, Rf v49_l8, Rf wO, Rf r_223, Rf wMap, Rf b226, Rf wO] [(.int (1 : Int32)), (.int u1)])) _
          refine XS.icmpYes X249.here hx rfl (pc0 := 213) (pc' := 246) rfl (hb hby at_213) rfl (feq hc51).2 (by decide) (by decide) ?_
          show Steps p.tables e below (T249.setTop (mkF m 246 #[It p1, It p2, It p3, It u1, It v8_t0, It v14_t0, It v20_t0, Rf b21, Rf v49_l8, Rf wO, Rf r_223, Rf wMap, Rf b226, Rf wO] [])) _
          refine XS.iload X249.here hx rfl (hb hby at_246) rfl ?_
          show Steps p.tables e below (T249.setTop (mkF m 248 #[It p1, It p2, It p3, It u1, It v8_t0, It v14_t0, It v20_t0, Rf b21, Rf v49_l8, Rf wO, Rf r_223, Rf wMap, Rf b226, Rf wO] [(.int v8_t0)])) _
          refine XS.ifNo X249.here hx rfl (hb hby at_248) rfl ((if0 _ _).trans (feq hc194).1) ?_
          show Steps p.tables e below (T249.setTop (mkF m 251 #[It p1, It p2, It p3, It u1, It v8_t0, It v14_t0, It v20_t0, Rf b21, Rf v49_l8, Rf wO, Rf r_223, Rf wMap, Rf b226, Rf wO] [])) _
          refine XS.iloadN X249.here hx rfl (hb hby at_251) rfl ?_
          show Steps p.tables e below (T249.setTop (mkF m 252 #[It p1, It p2, It p3, It u1, It v8_t0, It v14_t0, It v20_t0, Rf b21, Rf v49_l8, Rf wO, Rf r_223, Rf wMap, Rf b226, Rf wO] [(.int u1)])) _
          refine XS.iconst X249.here hx rfl (hb hby at_252) ?_
          show Steps p.tables e below (T249.setTop (mkF m 253 #[It p1, It p2, It p3, It u1, It v8_t0, It v14_t0, It v20_t0, Rf b21, Rf v49_l8, Rf wO, Rf r_223, Rf wMap, Rf b226, Rf wO] [(.int (2 : Int32)), (.int u1)])) _
          refine XS.icmpYes X249.here hx rfl (pc0 := 253) (pc' := 286) rfl (hb hby at_253) rfl (feq hc122).2 (by decide) (by decide) ?_
          show Steps p.tables e below (T249.setTop (mkF m 286 #[It p1, It p2, It p3, It u1, It v8_t0, It v14_t0, It v20_t0, Rf b21, Rf v49_l8, Rf wO, Rf r_223, Rf wMap, Rf b226, Rf wO] [])) _
          refine XS.aload X249.here hx rfl (hb hby at_286) rfl rfl ?_
          show Steps p.tables e below (T249.setTop (mkF m 288 #[It p1, It p2, It p3, It u1, It v8_t0, It v14_t0, It v20_t0, Rf b21, Rf v49_l8, Rf wO, Rf r_223, Rf wMap, Rf b226, Rf wO] [(.ref wO)])) _
          refine st250.trans ?_
          exact kt
        obtain ⟨fs, hr, hrun, hended, hRW⟩ := X250.leaveW Y247 (show _ ≤ T250.heap.size by rw [e250]; exact (Nat.le_refl _)) (v := some (.int (1 : Int32))) (fun h => by rw [Bd.returns] at h; cases h)
        refine ⟨_, _, pre0 _ (sg2 _ (sg3 _ (sg8 _ (sg9 _ (sg14 _ (sg15 _ (sg20 _ (sg25 _ (sg31 _ (sg36 _ (sg49 _ (sg50 _ (sg121 _ (sg193 _ (sg251 _ (?_)))))))))))))))), hrun, hended, _, _, rfl, ?_, (by rw [hh]; show CHr Z own_EL s.vm h0 T250.vm T250.heap; rw [e250]; exact CR248.trans (CHv.at X250 hZ247 hEL CR248.1)), hRW.1, hRW.2.1, hRW.2.2.1, hRW.2.2.2.mono (by decide) (by decide)⟩
        · show Steps p.tables e below (T250.setTop (mkF m 291 #[It p1, It p2, It p3, It u1, It v8_t0, It v14_t0, It v20_t0, Rf b21, Rf v49_l8, Rf wO, Rf r_223, Rf wMap, Rf b226, Rf wO] [(.int (1 : Int32))])) _
          exact retN X250 hx (t := .boolean) Bd.returns (by simp) (hb hby at_291) hr
        · show Q0 Z p1 p2 p3 s_w1 t_w1 kb_w1 s_w2 t_w2 kb_w2 zC wO wD wMap w1 w2 h0 n0 _ T250.heap _
          rw [e250]
          exact ⟨rfl, N250, K247, O247⟩
set_option maxRecDepth 65536 in
set_option maxHeartbeats 40000000 in
theorem comes_1 {Post : Tables → Env → Array Value → State → Outcome → State → Prop} (hpost : ∀ tb e args s v u, (limb_1_1.after args s (.returned v) u = true ∧ limb_1_2.after args s (.returned v) u = true ∧ True) → FramedW s (.returned v) u (Jvm.fieldLocs frame_1_writes args s ++ Jvm.arrayLocs frame_1_arrays args s ++ Jvm.staticLocs frame_1_statics s) 48 9408 → Post tb e args s (.returned v) u) :
    ArmFor flags0 classFile x code maxLocals ret World_1 tables_1 room_1 Calls_1 rest_1 Pre_1 Post := by
  intro l hfl _ _ p e ha hc hk s m args below hf hA hF happ hP
  obtain ⟨hcalls, hrest, hpre⟩ := hP
  obtain ⟨-, -, -, hnamed, -, -, -, hat⟩ := (Spec.applies_iff hf).mp happ
  obtain ⟨hg, hn⟩ := and_e (Cond.before_iff.mp (show (Jvm.Cond.and given_1 narrow_1).before args s = true from hpre))
  obtain ⟨g1, g2⟩ := and_e hg
  obtain ⟨g3, g4⟩ := and_e g2
  obtain ⟨g5, g6⟩ := and_e g4
  obtain ⟨n7, n8⟩ := and_e hn
  obtain ⟨n9, n10⟩ := and_e n8
  obtain ⟨n11, n12⟩ := and_e n10
  obtain ⟨n13, n14⟩ := and_e n12
  obtain ⟨n15, n16⟩ := and_e n14
  obtain ⟨n17, n18⟩ := and_e n16
  obtain ⟨n19, n20⟩ := and_e n18
  obtain ⟨n21, n22⟩ := and_e n20
  obtain ⟨n23, n24⟩ := and_e n22
  obtain ⟨n25, n26⟩ := and_e n24
  obtain ⟨n27, n28⟩ := and_e n26
  obtain ⟨n29, n30⟩ := and_e n28
  obtain ⟨n31, n32⟩ := and_e n30
  obtain ⟨n33, n34⟩ := and_e n32
  obtain ⟨n35, n36⟩ := and_e n34
  obtain ⟨n37, n38⟩ := and_e n36
  obtain ⟨n39, n40⟩ := and_e n38
  obtain ⟨n41, n42⟩ := and_e n40
  obtain ⟨n43, n44⟩ := and_e n42
  obtain ⟨n45, n46⟩ := and_e n44
  obtain ⟨w0, w1, w2, rfl⟩ : ∃ w0 w1 w2 : Value, args = #[w0, w1, w2] := by
    have hs : args.size = 3 := by simpa [Cond.value, given_1] using g1
    obtain ⟨L⟩ := args
    match L, hs with
    | [w0, w1, w2], _ => exact ⟨w0, w1, w2, rfl⟩
  have hw := fun d (hd : d ∈ tables_1) => atoms_spec (ws := Jvm.Cond.code x code maxLocals ret :: tables_1) hat d (List.mem_cons_of_mem _ hd)
  have hfit : Fit s := fun {y c} hc i hi => by
    obtain ⟨ha, rfl⟩ := Array.getElem?_eq_some_iff.mp hc
    have q := List.all_eq_true.mp ((Array.all_eq_true_iff_forall_mem.mp hF) _ (Array.getElem_mem ha)) i (List.mem_range.mpr hi)
    simpa [Array.getElem?_eq_getElem hi] using q
  obtain ⟨hsets, hown0⟩ := atoms_of _ (rest_1_c_eq ▸ (show rest_1_c.before _ s = true from hrest))
  have hr0 := Cond.before_iff.mp hown0
  obtain ⟨i0, ei0⟩ := is_v g3
  obtain rfl : w0 = (.int i0) := Option.some.inj ei0
  obtain ⟨i1, ei1⟩ := is_v g5
  obtain rfl : w1 = (.int i1) := Option.some.inj ei1
  obtain ⟨i2, ei2⟩ := is_v g6
  obtain rfl : w2 = (.int i2) := Option.some.inj ei2
  obtain ⟨w1, ev_V1⟩ := exa_v n7
  have EX_V1 := Exa.start ev_V1 n7
  have SS_V1 := Sta.start ev_V1 (Or.inr ⟨(hw _ (List.mem_of_getElem? (i := 191) rfl)), (hw _ (List.mem_of_getElem? (i := 192) rfl))⟩)
  obtain ⟨w2, ev_V2⟩ := exa_v n9
  have EX_V2 := Exa.start ev_V2 n9
  have SS_V2 := Sta.start ev_V2 (Or.inr ⟨(hw _ (List.mem_of_getElem? (i := 191) rfl)), (hw _ (List.mem_of_getElem? (i := 226) rfl))⟩)
  obtain ⟨zC, evC⟩ := is_v (Cond.before_iff.mp (hsets _ (List.mem_of_getElem? (i := 1) rfl)))
  have SS_COMPACT_STRINGS := Sta.start evC (Or.inl (hsets _ (List.mem_of_getElem? (i := 0) rfl)))
  have hCW := (hsets _ (List.mem_of_getElem? (i := 2) rfl))
  have hCS : ¬ zC = 0 := gotF (P := zC = 0) (by simp [Cond.value, evC, Term.int_eval]) (not_v (Cond.before_iff.mp hCW))
  have hCH : CHv s own_EL s.vm s.heap := CHv.start (own_EW hw) (fun p hp => hcalls.1 p ((by decide +kernel : ∀ p ∈ own_EL, p ∈ consts_1) p hp)) hCW (hw _ (List.mem_of_getElem? (i := 15) rfl)) (hw _ (List.mem_of_getElem? (i := 11) rfl))
  obtain ⟨s_w1, ev_w1⟩ := exa_v n11
  have EXS_w1 := Exa.start ev_w1 n11
  have FCS_w1 := Fld.start ((fld_at ev_w1).symm.trans (own_eqint n13))
  obtain ⟨t_w1, evv_w1⟩ := arr_v n15
  have FVS_w1 := Fld.start ((fld_at ev_w1).symm.trans evv_w1)
  obtain ⟨cl_w1, Ar_w1⟩ := Arr.start evv_w1 n15
  have ln_w1 := own_len (own_eqint n17) evv_w1 Ar_w1.1
  have AVS_w1 : Arv s s.heap t_w1 cl_w1.cls .byte (Int32.ofNat (([99, 108, 97, 115, 115, 78, 97, 109, 101] : List Int32)).length) (strV ([99, 108, 97, 115, 115, 78, 97, 109, 101] : List Int32)) (.int 0) := Arv.start hfit Ar_w1 ln_w1.1 ln_w1.2 (by decide) (by decide) ⟨own_elem n31 evv_w1 Ar_w1.1 (by decide), own_elem n33 evv_w1 Ar_w1.1 (by decide), own_elem n35 evv_w1 Ar_w1.1 (by decide), own_elem n37 evv_w1 Ar_w1.1 (by decide), own_elem n39 evv_w1 Ar_w1.1 (by decide), own_elem n41 evv_w1 Ar_w1.1 (by decide), own_elem n43 evv_w1 Ar_w1.1 (by decide), own_elem n45 evv_w1 Ar_w1.1 (by decide), own_elem n46 evv_w1 Ar_w1.1 (by decide), trivial⟩
  have FP_w1 := Fld.start ((fld_at ev_V1).symm.trans ev_w1)
  obtain ⟨s_w2, ev_w2⟩ := exa_v n19
  have EXS_w2 := Exa.start ev_w2 n19
  have FCS_w2 := Fld.start ((fld_at ev_w2).symm.trans (own_eqint n21))
  obtain ⟨t_w2, evv_w2⟩ := arr_v n23
  have FVS_w2 := Fld.start ((fld_at ev_w2).symm.trans evv_w2)
  obtain ⟨cl_w2, Ar_w2⟩ := Arr.start evv_w2 n23
  have ln_w2 := own_len (own_eqint n25) evv_w2 Ar_w2.1
  have AVS_w2 : Arv s s.heap t_w2 cl_w2.cls .byte (Int32.ofNat (([95, 116] : List Int32)).length) (strV ([95, 116] : List Int32)) (.int 0) := Arv.start hfit Ar_w2 ln_w2.1 ln_w2.2 (by decide) (by decide) ⟨own_elem n27 evv_w2 Ar_w2.1 (by decide), own_elem n29 evv_w2 Ar_w2.1 (by decide), trivial⟩
  have FP_w2 := Fld.start ((fld_at ev_V2).symm.trans ev_w2)
  have kO := Cond.before_iff.mp (hsets _ (List.mem_of_getElem? (i := 11) rfl))
  obtain ⟨wO, evO⟩ := exa_v kO
  have EX_wO := Exa.start evO kO
  have SS_EMPTY := Sta.start evO (Or.inl (hsets _ (List.mem_of_getElem? (i := 10) rfl)))
  have FF_wO := Fld.start ((fld_at evO).symm.trans (null_v (Cond.before_iff.mp (hsets _ (List.mem_of_getElem? (i := 12) rfl)))))
  have kM := Cond.before_iff.mp (hsets _ (List.mem_of_getElem? (i := 15) rfl))
  obtain ⟨wMap, evM⟩ := exa_v kM
  have EX_wMap := Exa.start evM kM
  have SS_EMPTY_MAP := Sta.start evM (Or.inl (hsets _ (List.mem_of_getElem? (i := 14) rfl)))
  obtain ⟨wD, evD⟩ := exa_v (Cond.before_iff.mp (hsets _ (List.mem_of_getElem? (i := 27) rfl)))
  have SS_DEFAULTCAPACITY_EMPTY_ELEMENTDATA := Sta.start evD (Or.inr ⟨(hw _ (List.mem_of_getElem? (i := 48) rfl)), (hsets _ (List.mem_of_getElem? (i := 22) rfl))⟩)
  obtain ⟨n, o, h1, h2, h3, _, L, rfl, ⟨rfl, N, -⟩, -, hq⟩ := rm0 l s _ hw tables_1 i0 i1 i2 s_w1 t_w1 cl_w1.cls s_w2 t_w2 cl_w2.cls zC wO wD wMap w1 w2 s.heap s.heap.size (Old.start s) SS_COMPACT_STRINGS SS_EMPTY SS_DEFAULTCAPACITY_EMPTY_ELEMENTDATA SS_EMPTY_MAP SS_V1 SS_V2 hCS EX_wO FF_wO EX_wMap EX_V1 FP_w1 EXS_w1 FCS_w1 FVS_w1 AVS_w1 EX_V2 FP_w2 EXS_w2 FCS_w2 FVS_w2 AVS_w2 p e ha hc hk s m _ below hf ((Spec.applies_iff_loose hf).mp happ).1 ⟨rfl, State.Warmed39.refl s, rfl, hCH⟩ trivial
  refine ⟨n, _, h1, h2, h3, hpost _ _ _ _ _ _ ⟨Cond.after_iff.mpr rfl, Cond.after_iff.mpr (eq_i res_at (Term.int_eval (1)) rfl), trivial⟩ ?_⟩
  exact ⟨hq.1, hq.2.1, hq.2.2.1, (hq.2.2.2.sift fun y hy => Or.inr (N y hy)).mono (by decide) (by decide)⟩
theorem main_1_1 : Claimed_1_1 := comes_1 fun _ _ _ _ _ _ h hF => ⟨h.1, hF⟩
theorem main_1_2 : Claimed_1_2 := comes_1 fun _ _ _ _ _ _ h hF => ⟨h.2.1, hF⟩
end Jvm.Pilot.@@N@@
namespace Jvm.Pilot.@@N@@
open Jvm Jvm.ClassFile Sem Op Lib Jvm.Free Jvm.Stand Jvm.Pilot.@@N@@.Jvm.D
/-! MADE BY PROGRAM (witnessworld.py) out of the Statement's table words and the real class files: 43 classes; the members and pool entries that the words name. The judged class is class 1, her method 1. -/
namespace start1
open Jvm.ClassFile
def u (s : String) : CpInfo := .utf8 (stringToUtf16 s)
/-- a pool by its gaps: so many unusable entries, then the entry; so many at the end -/
def gap : Nat → List CpInfo → List CpInfo
  | 0, r => r
  | n + 1, r => .unusable :: gap n r
def poolList (es : List (Nat × CpInfo)) (last : Nat) : List CpInfo := es.foldr (fun e r => gap e.1 (e.2 :: r)) (gap last [])
def pool (es : List (Nat × CpInfo)) (last : Nat) : Array CpInfo := ⟨poolList es last⟩
def fileOf (pool : Array CpInfo) (this : Nat) (attrs : Array Attribute := #[]) (ms : Array MethodInfo := #[]) (fl : Nat := 33) (sup : Nat := 0) (ifs : Array Nat := #[]) (fds : Array FieldInfo := #[]) : ClassFile where
  minorVersion := 0
  majorVersion := 65
  constantPool := pool
  accessFlags := fl
  thisClass := this
  superClass := sup
  interfaces := ifs
  fields := fds
  methods := ms
  attributes := attrs
def plain (name : String) (sup : Option ClassId) : Class where
  name := name
  kind := .ordinary
  loader := none
  accessFlags := 33
  super := sup
  interfaces := #[]
  cf := none
  fields := #[]
  methods := #[]
  instanceTypes := #[]
  staticTypes := #[]
  resolved := #[]
  callSites := []
  init := .initialized
  statics := none
  mirror := none

def pool0 : Array CpInfo := pool [(5, u "<init>"), (0, u "()V"), (1, .class_ 10), (1, u "java/lang/Object")] 113

def k0c0 : Code := { maxStack := 0, maxLocals := 1, code := object_method_1_code, exceptionTable := #[], attributes := #[] }
def k0m0 : Method := { name := "<init>", desc := "()V", sig := { parameters := [], returnType := none }, accessFlags := 1, code := some k0c0 }
/-- java/lang/Object -/
def k0 : Class := { plain "java/lang/Object" none with
  accessFlags := 33
  interfaces := #[]
  cf := some (fileOf pool0 8 #[] #[{ accessFlags := 1, nameIndex := 5, descriptorIndex := 6, attributes := #[] }] 33 0 #[] #[])
  fields := #[]
  methods := #[k0m0]
  instanceTypes := #[]
  staticTypes := #[]
  resolved := Array.replicate 124 none
  statics := none }

def pool1 : Array CpInfo := pool [(2, .class_ 4), (0, .nameAndType 5 6), (0, u "java/lang/Object"), (0, u "<init>"), (0, u "()V"), (0, .class_ 8), (0, u "java/lang/String"), (0, .methodref 7 10), (0, .nameAndType 5 11), (0, u "([C)V"), (0, .methodref 7 13), (0, .nameAndType 14 15), (0, u "valueOf"), (0, u "(C)Ljava/lang/String;"), (0, .fieldref 17 18), (0, .class_ 19), (0, .nameAndType 20 21), (0, u "com/example/legacy_to_latest/legacytolatest/EntityClass$Morphia"), (0, u "V1"), (0, u "Lcom/example/legacy_to_latest/legacytolatest/EntityClass$Morphia;"), (0, .methodref 23 24), (0, .class_ 25), (0, .nameAndType 26 27), (0, u "java/util/Optional"), (0, u "of"), (0, u "(Ljava/lang/Object;)Ljava/util/Optional;"), (0, .fieldref 17 29), (0, .nameAndType 30 21), (0, u "V2"), (0, .methodref 23 32), (0, .nameAndType 33 34), (0, u "empty"), (0, u "()Ljava/util/Optional;"), (0, .interfaceMethodref 36 37), (0, .class_ 38), (0, .nameAndType 26 39), (0, u "java/util/Map"), (0, u "()Ljava/util/Map;"), (0, .class_ 41), (0, u "com/example/legacy_to_latest/legacytolatest/EntityClass"), (0, .string 43), (0, u "k"), (0, .string 45), (0, u "C"), (0, .string 47), (0, u "C.java"), (0, .class_ 49), (0, u "java/util/ArrayList"), (0, .methodref 48 3), (0, .methodref 40 52), (0, .nameAndType 5 53), (0, u "(Ljava/lang/String;Ljava/util/Optional;Ljava/util/Optional;ZLjava/lang/String;Ljava/lang/String;Ljava/lang/String;Ljava/util/List;Ljava/util/Map;Ljava/util/Optional;)V"), (0, .methodref 40 55), (0, .nameAndType 56 34), (0, u "getDiscriminatorKey"), (0, .methodref 23 58), (0, .nameAndType 59 60), (0, u "isPresent"), (0, u "()Z"), (0, .methodref 23 62), (0, .nameAndType 63 64), (0, u "get"), (0, u "()Ljava/lang/Object;"), (0, .string 66), (0, u "className"), (0, .methodref 7 68), (0, .nameAndType 69 70), (0, u "equals"), (0, u "(Ljava/lang/Object;)Z"), (0, .string 72), (0, u "_t"), (0, .methodref 23 74), (0, .nameAndType 75 60), (0, u "isEmpty"), (0, .class_ 77), (0, u "com/example/legacy_to_latest/legacytolatest/EntityClassGetDiscriminatorKeyPinLaw"), (2, u "law"), (0, u "(III)Z")] 7

def k1m0 : Method := { name := "<init>", desc := "()V", sig := { parameters := [], returnType := none }, accessFlags := 1, code := none }
def k1c1 : Code := { maxStack := 12, maxLocals := 14, code := code, exceptionTable := #[], attributes := #[] }
def k1m1 : Method := { name := "law", desc := "(III)Z", sig := { parameters := [.int, .int, .int], returnType := some .boolean }, accessFlags := 9, code := some k1c1 }
/-- com/example/legacy_to_latest/legacytolatest/EntityClassGetDiscriminatorKeyPinLaw -/
def k1 : Class := { plain "com/example/legacy_to_latest/legacytolatest/EntityClassGetDiscriminatorKeyPinLaw" (some 0) with
  accessFlags := 49
  interfaces := #[]
  cf := some (fileOf pool1 76 #[] #[{ accessFlags := 1, nameIndex := 5, descriptorIndex := 6, attributes := #[] }, { accessFlags := 9, nameIndex := 80, descriptorIndex := 81, attributes := #[] }] 49 2 #[] #[])
  fields := #[]
  methods := #[k1m0, k1m1]
  instanceTypes := #[]
  staticTypes := #[]
  resolved := Array.replicate 89 none
  statics := none }

def pool2 : Array CpInfo := pool [(1, .class_ 2), (0, u "java/io/Serializable"), (0, .class_ 4), (0, u "java/lang/Object")] 2

/-- java/io/Serializable -/
def k2 : Class := { plain "java/io/Serializable" (some 0) with
  accessFlags := 1537
  interfaces := #[]
  cf := some (fileOf pool2 1 #[] #[] 1537 3 #[] #[])
  fields := #[]
  methods := #[]
  instanceTypes := #[]
  staticTypes := #[]
  resolved := Array.replicate 7 none
  statics := none }

def pool3 : Array CpInfo := pool [(1, .class_ 2), (0, u "java/lang/Comparable"), (0, .class_ 4), (0, u "java/lang/Object")] 7

/-- java/lang/Comparable -/
def k3 : Class := { plain "java/lang/Comparable" (some 0) with
  accessFlags := 1537
  interfaces := #[]
  cf := some (fileOf pool3 1 #[] #[] 1537 3 #[] #[])
  fields := #[]
  methods := #[]
  instanceTypes := #[]
  staticTypes := #[]
  resolved := Array.replicate 12 none
  statics := none }

def pool4 : Array CpInfo := pool [(2, .class_ 4), (1, u "java/lang/CharSequence"), (42, .class_ 48), (0, u "java/lang/CharSequence$1CodePointIterator"), (10, .class_ 60), (0, u "java/lang/CharSequence$1CharIterator"), (5, .class_ 67), (0, u "java/lang/Object")] 63

/-- java/lang/CharSequence -/
def k4 : Class := { plain "java/lang/CharSequence" (some 0) with
  accessFlags := 1537
  interfaces := #[]
  cf := some (fileOf pool4 2 #[.nestMembers #[47, 59]] #[] 1537 66 #[] #[])
  fields := #[]
  methods := #[]
  instanceTypes := #[]
  staticTypes := #[]
  resolved := Array.replicate 131 none
  statics := none }

def pool5 : Array CpInfo := pool [(1, .class_ 2), (0, u "java/lang/constant/Constable"), (0, .class_ 4), (0, u "java/lang/Object")] 6

/-- java/lang/constant/Constable -/
def k5 : Class := { plain "java/lang/constant/Constable" (some 0) with
  accessFlags := 1537
  interfaces := #[]
  cf := some (fileOf pool5 1 #[] #[] 1537 3 #[] #[])
  fields := #[]
  methods := #[]
  instanceTypes := #[]
  staticTypes := #[]
  resolved := Array.replicate 11 none
  statics := none }

def pool6 : Array CpInfo := pool [(1, .class_ 2), (0, u "java/lang/constant/ConstantDesc"), (0, .class_ 4), (0, u "java/lang/Object")] 32

/-- java/lang/constant/ConstantDesc -/
def k6 : Class := { plain "java/lang/constant/ConstantDesc" (some 0) with
  accessFlags := 1537
  interfaces := #[]
  cf := some (fileOf pool6 1 #[] #[] 1537 3 #[] #[])
  fields := #[]
  methods := #[]
  instanceTypes := #[]
  staticTypes := #[]
  resolved := Array.replicate 37 none
  statics := none }

def pool7 : Array CpInfo := pool [(1, .methodref 2 3), (0, .class_ 4), (0, .nameAndType 5 6), (0, u "java/lang/Object"), (0, u "<init>"), (0, u "()V"), (2, .fieldref 10 11), (0, .class_ 12), (0, .nameAndType 13 14), (0, u "java/lang/String"), (0, u "value"), (0, u "[B"), (0, .fieldref 10 16), (0, .nameAndType 17 18), (0, u "coder"), (0, u "B"), (2, u "hash"), (0, u "I"), (2, u "hashIsZero"), (0, u "Z"), (0, .methodref 10 28), (0, .nameAndType 5 29), (0, u "([CIILjava/lang/Void;)V"), (8, .fieldref 10 39), (0, .nameAndType 40 26), (0, u "COMPACT_STRINGS"), (1, .class_ 44), (1, u "java/lang/StringUTF16"), (0, u "compress"), (1, .methodref 42 48), (0, .nameAndType 49 50), (0, u "coderFromArrayLen"), (0, u "([BI)B"), (2, u "toBytes"), (53, .class_ 109), (1, u "java/lang/StringLatin1"), (67, .methodref 42 178), (0, .nameAndType 45 179), (0, u "([CII)[B"), (29, .methodref 10 210), (0, .nameAndType 5 211), (0, u "([BB)V"), (157, u "(C)Z"), (171, .methodref 107 542), (0, .nameAndType 543 544), (0, u "equals"), (0, u "([B[B)Z"), (28, u "(Ljava/lang/Object;)Z"), (1, .class_ 576), (0, u "java/lang/CharSequence"), (22, u "CASE_INSENSITIVE_ORDER"), (0, u "Ljava/util/Comparator;"), (181, u "valueOf"), (0, u "(C)Ljava/lang/String;"), (226, u "([C)V"), (4, .methodref 107 1016), (0, .nameAndType 1017 369), (0, u "canEncode"), (0, .methodref 107 1019), (0, .nameAndType 53 1020), (0, u "(C)[B"), (80, u "serialPersistentFields"), (0, u "[Ljava/io/ObjectStreamField;"), (0, .class_ 1104), (0, u "java/lang/String$CaseInsensitiveComparator"), (1, .class_ 1107), (0, u "java/io/Serializable"), (0, .class_ 1109), (0, u "java/lang/Comparable"), (0, .class_ 1111), (0, u "java/lang/constant/Constable"), (0, .class_ 1113), (0, u "java/lang/constant/ConstantDesc"), (2, u "serialVersionUID"), (0, u "J"), (3, u "REPL"), (0, u "C"), (2, u "LATIN1"), (1, u "UTF16")] 323

def k7m0 : Method := { name := "<init>", desc := "()V", sig := { parameters := [], returnType := none }, accessFlags := 1, code := none }
def k7c1 : Code := { maxStack := 5, maxLocals := 2, code := jdk_42_method_3_code, exceptionTable := #[], attributes := #[] }
def k7m1 : Method := { name := "<init>", desc := "([C)V", sig := { parameters := [(.array .char)], returnType := none }, accessFlags := 1, code := some k7c1 }
def k7c2 : Code := { maxStack := 2, maxLocals := 3, code := jdk_42_method_66_code, exceptionTable := #[], attributes := #[] }
def k7m2 : Method := { name := "equals", desc := "(Ljava/lang/Object;)Z", sig := { parameters := [(.object "java/lang/Object")], returnType := some .boolean }, accessFlags := 1, code := some k7c2 }
def k7c3 : Code := { maxStack := 4, maxLocals := 1, code := jdk_42_method_139_code, exceptionTable := #[], attributes := #[] }
def k7m3 : Method := { name := "valueOf", desc := "(C)Ljava/lang/String;", sig := { parameters := [.char], returnType := some (.object "java/lang/String") }, accessFlags := 9, code := some k7c3 }
def k7c4 : Code := { maxStack := 4, maxLocals := 6, code := jdk_42_method_149_code, exceptionTable := #[], attributes := #[] }
def k7m4 : Method := { name := "<init>", desc := "([CIILjava/lang/Void;)V", sig := { parameters := [(.array .char), .int, .int, (.object "java/lang/Void")], returnType := none }, accessFlags := 2, code := some k7c4 }
def k7c5 : Code := { maxStack := 2, maxLocals := 3, code := jdk_42_method_151_code, exceptionTable := #[], attributes := #[] }
def k7m5 : Method := { name := "<init>", desc := "([BB)V", sig := { parameters := [(.array .byte), .byte], returnType := none }, accessFlags := 0, code := some k7c5 }
/-- java/lang/String -/
def k7 : Class := { plain "java/lang/String" (some 0) with
  accessFlags := 49
  interfaces := #[2, 3, 4, 5, 6]
  cf := some (fileOf pool7 10 #[.nestMembers #[1103]] #[{ accessFlags := 1, nameIndex := 5, descriptorIndex := 6, attributes := #[] }, { accessFlags := 1, nameIndex := 5, descriptorIndex := 1010, attributes := #[] }, { accessFlags := 1, nameIndex := 543, descriptorIndex := 573, attributes := #[] }, { accessFlags := 9, nameIndex := 782, descriptorIndex := 783, attributes := #[] }, { accessFlags := 2, nameIndex := 5, descriptorIndex := 29, attributes := #[] }, { accessFlags := 0, nameIndex := 5, descriptorIndex := 211, attributes := #[] }] 49 2 #[1106, 1108, 575, 1110, 1112] #[{ accessFlags := 18, nameIndex := 13, descriptorIndex := 14, attributes := #[] }, { accessFlags := 18, nameIndex := 17, descriptorIndex := 18, attributes := #[] }, { accessFlags := 2, nameIndex := 21, descriptorIndex := 22, attributes := #[] }, { accessFlags := 2, nameIndex := 25, descriptorIndex := 26, attributes := #[] }, { accessFlags := 26, nameIndex := 1116, descriptorIndex := 1117, attributes := #[] }, { accessFlags := 24, nameIndex := 40, descriptorIndex := 26, attributes := #[] }, { accessFlags := 26, nameIndex := 1101, descriptorIndex := 1102, attributes := #[] }, { accessFlags := 26, nameIndex := 1121, descriptorIndex := 1122, attributes := #[] }, { accessFlags := 25, nameIndex := 599, descriptorIndex := 600, attributes := #[] }, { accessFlags := 24, nameIndex := 1125, descriptorIndex := 18, attributes := #[] }, { accessFlags := 24, nameIndex := 1127, descriptorIndex := 18, attributes := #[] }])
  fields := #[{ name := "value", type := (.array .byte), accessFlags := 18, slot := 0, constantValue := 0 }, { name := "coder", type := .byte, accessFlags := 18, slot := 1, constantValue := 0 }, { name := "hash", type := .int, accessFlags := 2, slot := 2, constantValue := 0 }, { name := "hashIsZero", type := .boolean, accessFlags := 2, slot := 3, constantValue := 0 }, { name := "serialVersionUID", type := .long, accessFlags := 26, slot := 0, constantValue := 0 }, { name := "COMPACT_STRINGS", type := .boolean, accessFlags := 24, slot := 1, constantValue := 0 }, { name := "serialPersistentFields", type := (.array (.object "java/io/ObjectStreamField")), accessFlags := 26, slot := 2, constantValue := 0 }, { name := "REPL", type := .char, accessFlags := 26, slot := 3, constantValue := 0 }, { name := "CASE_INSENSITIVE_ORDER", type := (.object "java/util/Comparator"), accessFlags := 25, slot := 4, constantValue := 0 }, { name := "LATIN1", type := .byte, accessFlags := 24, slot := 5, constantValue := 0 }, { name := "UTF16", type := .byte, accessFlags := 24, slot := 6, constantValue := 0 }]
  methods := #[k7m0, k7m1, k7m2, k7m3, k7m4, k7m5]
  instanceTypes := #[(.array .byte), .byte, .int, .boolean]
  staticTypes := #[.long, .boolean, (.array (.object "java/io/ObjectStreamField")), .char, (.object "java/util/Comparator"), .byte, .byte]
  resolved := Array.replicate 1451 none
  statics := some 0 }

def pool8 : Array CpInfo := pool [(4, .class_ 6), (1, u "java/lang/Object"), (0, u "<init>"), (0, u "()V"), (5, .class_ 16), (1, u "java/lang/StringLatin1"), (73, u "canEncode"), (14, u "(C)Z"), (15, u "$assertionsDisabled"), (0, u "Z"), (98, .class_ 223), (1, u "java/lang/StringLatin1$LinesSpliterator"), (57, u "equals"), (0, u "([B[B)Z"), (97, u "toBytes"), (1, u "(C)[B"), (7, .class_ 391), (0, u "java/lang/StringLatin1$CharsSpliterator")] 3

def k8m0 : Method := { name := "<init>", desc := "()V", sig := { parameters := [], returnType := none }, accessFlags := 0, code := none }
def k8c1 : Code := { maxStack := 2, maxLocals := 1, code := jdk_43_method_3_code, exceptionTable := #[], attributes := #[] }
def k8m1 : Method := { name := "canEncode", desc := "(C)Z", sig := { parameters := [.char], returnType := some .boolean }, accessFlags := 9, code := some k8c1 }
def k8c2 : Code := { maxStack := 3, maxLocals := 3, code := jdk_43_method_13_code, exceptionTable := #[], attributes := #[] }
def k8m2 : Method := { name := "equals", desc := "([B[B)Z", sig := { parameters := [(.array .byte), (.array .byte)], returnType := some .boolean }, accessFlags := 9, code := some k8c2 }
def k8c3 : Code := { maxStack := 4, maxLocals := 1, code := jdk_43_method_46_code, exceptionTable := #[], attributes := #[] }
def k8m3 : Method := { name := "toBytes", desc := "(C)[B", sig := { parameters := [.char], returnType := some (.array .byte) }, accessFlags := 9, code := some k8c3 }
/-- java/lang/StringLatin1 -/
def k8 : Class := { plain "java/lang/StringLatin1" (some 0) with
  accessFlags := 48
  interfaces := #[]
  cf := some (fileOf pool8 14 #[.nestMembers #[390, 221]] #[{ accessFlags := 0, nameIndex := 7, descriptorIndex := 8, attributes := #[] }, { accessFlags := 9, nameIndex := 90, descriptorIndex := 105, attributes := #[] }, { accessFlags := 9, nameIndex := 281, descriptorIndex := 282, attributes := #[] }, { accessFlags := 9, nameIndex := 380, descriptorIndex := 382, attributes := #[] }] 48 4 #[] #[{ accessFlags := 4120, nameIndex := 121, descriptorIndex := 122, attributes := #[] }])
  fields := #[{ name := "$assertionsDisabled", type := .boolean, accessFlags := 4120, slot := 0, constantValue := 0 }]
  methods := #[k8m0, k8m1, k8m2, k8m3]
  instanceTypes := #[]
  staticTypes := #[.boolean]
  resolved := Array.replicate 395 none
  statics := none }

def pool9 : Array CpInfo := pool [(1, .fieldref 2 3), (0, .class_ 4), (0, .nameAndType 5 6), (0, u "java/util/Optional"), (0, u "EMPTY"), (0, u "Ljava/util/Optional;"), (0, .methodref 8 9), (0, .class_ 10), (0, .nameAndType 11 12), (0, u "java/lang/Object"), (0, u "<init>"), (0, u "()V"), (0, .fieldref 2 14), (0, .nameAndType 15 16), (0, u "value"), (0, u "Ljava/lang/Object;"), (0, .methodref 18 19), (0, .class_ 20), (0, .nameAndType 21 22), (0, u "java/util/Objects"), (0, u "requireNonNull"), (0, u "(Ljava/lang/Object;)Ljava/lang/Object;"), (0, .methodref 2 24), (0, .nameAndType 11 25), (0, u "(Ljava/lang/Object;)V"), (19, u "isEmpty"), (0, u "()Z"), (8, u "empty"), (0, u "()Ljava/util/Optional;"), (8, u "(Ljava/lang/Object;)Ljava/util/Optional;"), (2, u "isPresent"), (4, u "get"), (0, u "()Ljava/lang/Object;"), (7, u "of"), (82, u "orElse")] 21

def k9c0 : Code := { maxStack := 1, maxLocals := 1, code := jdk_32_method_1_code, exceptionTable := #[], attributes := #[] }
def k9m0 : Method := { name := "empty", desc := "()Ljava/util/Optional;", sig := { parameters := [], returnType := some (.object "java/util/Optional") }, accessFlags := 9, code := some k9c0 }
def k9c1 : Code := { maxStack := 2, maxLocals := 2, code := jdk_32_method_2_code, exceptionTable := #[], attributes := #[] }
def k9m1 : Method := { name := "<init>", desc := "(Ljava/lang/Object;)V", sig := { parameters := [(.object "java/lang/Object")], returnType := none }, accessFlags := 2, code := some k9c1 }
def k9c2 : Code := { maxStack := 3, maxLocals := 1, code := jdk_32_method_3_code, exceptionTable := #[], attributes := #[] }
def k9m2 : Method := { name := "of", desc := "(Ljava/lang/Object;)Ljava/util/Optional;", sig := { parameters := [(.object "java/lang/Object")], returnType := some (.object "java/util/Optional") }, accessFlags := 9, code := some k9c2 }
def k9c3 : Code := { maxStack := 3, maxLocals := 1, code := jdk_32_method_5_code, exceptionTable := #[], attributes := #[] }
def k9m3 : Method := { name := "get", desc := "()Ljava/lang/Object;", sig := { parameters := [], returnType := some (.object "java/lang/Object") }, accessFlags := 1, code := some k9c3 }
def k9c4 : Code := { maxStack := 1, maxLocals := 1, code := jdk_32_method_6_code, exceptionTable := #[], attributes := #[] }
def k9m4 : Method := { name := "isPresent", desc := "()Z", sig := { parameters := [], returnType := some .boolean }, accessFlags := 1, code := some k9c4 }
def k9c5 : Code := { maxStack := 1, maxLocals := 1, code := jdk_32_method_7_code, exceptionTable := #[], attributes := #[] }
def k9m5 : Method := { name := "isEmpty", desc := "()Z", sig := { parameters := [], returnType := some .boolean }, accessFlags := 1, code := some k9c5 }
def k9c6 : Code := { maxStack := 1, maxLocals := 2, code := jdk_32_method_15_code, exceptionTable := #[], attributes := #[] }
def k9m6 : Method := { name := "orElse", desc := "(Ljava/lang/Object;)Ljava/lang/Object;", sig := { parameters := [(.object "java/lang/Object")], returnType := some (.object "java/lang/Object") }, accessFlags := 1, code := some k9c6 }
/-- java/util/Optional -/
def k9 : Class := { plain "java/util/Optional" (some 0) with
  accessFlags := 49
  interfaces := #[]
  cf := some (fileOf pool9 2 #[] #[{ accessFlags := 9, nameIndex := 55, descriptorIndex := 56, attributes := #[] }, { accessFlags := 2, nameIndex := 11, descriptorIndex := 25, attributes := #[] }, { accessFlags := 9, nameIndex := 82, descriptorIndex := 65, attributes := #[] }, { accessFlags := 1, nameIndex := 73, descriptorIndex := 74, attributes := #[] }, { accessFlags := 1, nameIndex := 68, descriptorIndex := 46, attributes := #[] }, { accessFlags := 1, nameIndex := 45, descriptorIndex := 46, attributes := #[] }, { accessFlags := 1, nameIndex := 165, descriptorIndex := 22, attributes := #[] }] 49 8 #[] #[{ accessFlags := 26, nameIndex := 5, descriptorIndex := 6, attributes := #[] }, { accessFlags := 18, nameIndex := 15, descriptorIndex := 16, attributes := #[] }])
  fields := #[{ name := "EMPTY", type := (.object "java/util/Optional"), accessFlags := 26, slot := 0, constantValue := 0 }, { name := "value", type := (.object "java/lang/Object"), accessFlags := 18, slot := 0, constantValue := 0 }]
  methods := #[k9m0, k9m1, k9m2, k9m3, k9m4, k9m5, k9m6]
  instanceTypes := #[(.object "java/lang/Object")]
  staticTypes := #[(.object "java/util/Optional")]
  resolved := Array.replicate 187 none
  statics := some 1 }

def pool10 : Array CpInfo := pool [(2, .class_ 4), (1, u "java/util/Map"), (31, .class_ 37), (0, u "java/util/Map$Entry"), (43, .fieldref 82 83), (0, .class_ 84), (0, .nameAndType 85 86), (0, u "java/util/ImmutableCollections"), (0, u "EMPTY_MAP"), (0, u "Ljava/util/ImmutableCollections$MapN;"), (6, .class_ 94), (0, u "java/lang/Object"), (6, .class_ 102), (0, u "java/util/ImmutableCollections$AbstractImmutableMap"), (5, u "of"), (0, u "()Ljava/util/Map;"), (140, u "copyOf"), (0, u "(Ljava/util/Map;)Ljava/util/Map;")] 11

def k10c0 : Code := { maxStack := 1, maxLocals := 0, code := jdk_72_method_26_code, exceptionTable := #[], attributes := #[] }
def k10m0 : Method := { name := "of", desc := "()Ljava/util/Map;", sig := { parameters := [], returnType := some (.object "java/util/Map") }, accessFlags := 9, code := some k10c0 }
def k10c1 : Code := { maxStack := 2, maxLocals := 1, code := jdk_72_method_39_code, exceptionTable := #[], attributes := #[] }
def k10m1 : Method := { name := "copyOf", desc := "(Ljava/util/Map;)Ljava/util/Map;", sig := { parameters := [(.object "java/util/Map")], returnType := some (.object "java/util/Map") }, accessFlags := 9, code := some k10c1 }
/-- java/util/Map -/
def k10 : Class := { plain "java/util/Map" (some 0) with
  accessFlags := 1537
  interfaces := #[]
  cf := some (fileOf pool10 2 #[.nestMembers #[36]] #[{ accessFlags := 9, nameIndex := 108, descriptorIndex := 109, attributes := #[] }, { accessFlags := 9, nameIndex := 250, descriptorIndex := 251, attributes := #[] }] 1537 93 #[] #[])
  fields := #[]
  methods := #[k10m0, k10m1]
  instanceTypes := #[]
  staticTypes := #[]
  resolved := Array.replicate 263 none
  statics := none }

def pool11 : Array CpInfo := pool [(2, .class_ 4), (1, u "java/lang/Object"), (0, u "<init>"), (0, u "()V"), (3, .class_ 11), (0, u "java/util/ImmutableCollections$List12"), (0, .class_ 13), (0, u "java/util/ImmutableCollections$ListN"), (3, u "Z"), (29, .class_ 49), (1, u "java/util/ImmutableCollections"), (0, u "$assertionsDisabled"), (5, u "[Ljava/lang/Object;"), (5, u "EMPTY_LIST"), (0, u "Ljava/util/ImmutableCollections$ListN;"), (8, u "EMPTY_LIST_NULLS"), (22, u "SALT32L"), (0, u "J"), (2, u "REVERSE"), (6, u "archivedObjects"), (2, u "EMPTY"), (0, u "Ljava/lang/Object;"), (0, .class_ 112), (0, u "java/util/ImmutableCollections$SetN"), (5, u "EMPTY_SET"), (0, u "Ljava/util/ImmutableCollections$SetN;"), (0, .class_ 121), (0, u "java/util/ImmutableCollections$MapN"), (3, u "EMPTY_MAP"), (0, u "Ljava/util/ImmutableCollections$MapN;"), (4, u "EXPAND_FACTOR"), (0, u "I"), (36, .class_ 170), (0, u "java/util/ImmutableCollections$MapN$MapNIterator"), (0, .class_ 172), (0, u "java/util/ImmutableCollections$MapN$1"), (0, .class_ 174), (0, u "java/util/ImmutableCollections$Map1"), (0, .class_ 176), (0, u "java/util/ImmutableCollections$AbstractImmutableMap"), (0, .class_ 178), (0, u "java/util/ImmutableCollections$SetN$SetNIterator"), (0, .class_ 180), (0, u "java/util/ImmutableCollections$Set12"), (0, .class_ 182), (0, u "java/util/ImmutableCollections$Set12$1"), (0, .class_ 184), (0, u "java/util/ImmutableCollections$AbstractImmutableSet"), (0, .class_ 186), (0, u "java/util/ImmutableCollections$SubList"), (0, .class_ 188), (0, u "java/util/ImmutableCollections$ListItr"), (0, .class_ 190), (0, u "java/util/ImmutableCollections$AbstractImmutableList"), (0, .class_ 192), (0, u "java/util/ImmutableCollections$AbstractImmutableCollection"), (0, .class_ 194), (0, u "java/util/ImmutableCollections$Access"), (0, .class_ 196), (0, u "java/util/ImmutableCollections$Access$1")] 16

def k11m0 : Method := { name := "<init>", desc := "()V", sig := { parameters := [], returnType := none }, accessFlags := 2, code := none }
/-- java/util/ImmutableCollections -/
def k11 : Class := { plain "java/util/ImmutableCollections" (some 0) with
  accessFlags := 32
  interfaces := #[]
  cf := some (fileOf pool11 47 #[.nestMembers #[120, 169, 171, 173, 175, 111, 177, 179, 181, 183, 12, 10, 185, 187, 189, 191, 193, 195]] #[{ accessFlags := 2, nameIndex := 5, descriptorIndex := 6, attributes := #[] }] 32 2 #[] #[{ accessFlags := 26, nameIndex := 95, descriptorIndex := 96, attributes := #[] }, { accessFlags := 26, nameIndex := 99, descriptorIndex := 17, attributes := #[] }, { accessFlags := 10, nameIndex := 106, descriptorIndex := 56, attributes := #[] }, { accessFlags := 26, nameIndex := 109, descriptorIndex := 110, attributes := #[] }, { accessFlags := 24, nameIndex := 62, descriptorIndex := 63, attributes := #[] }, { accessFlags := 24, nameIndex := 72, descriptorIndex := 63, attributes := #[] }, { accessFlags := 24, nameIndex := 118, descriptorIndex := 119, attributes := #[] }, { accessFlags := 24, nameIndex := 125, descriptorIndex := 126, attributes := #[] }, { accessFlags := 24, nameIndex := 131, descriptorIndex := 132, attributes := #[] }, { accessFlags := 4120, nameIndex := 50, descriptorIndex := 17, attributes := #[] }])
  fields := #[{ name := "SALT32L", type := .long, accessFlags := 26, slot := 0, constantValue := 0 }, { name := "REVERSE", type := .boolean, accessFlags := 26, slot := 1, constantValue := 0 }, { name := "archivedObjects", type := (.array (.object "java/lang/Object")), accessFlags := 10, slot := 2, constantValue := 0 }, { name := "EMPTY", type := (.object "java/lang/Object"), accessFlags := 26, slot := 3, constantValue := 0 }, { name := "EMPTY_LIST", type := (.object "java/util/ImmutableCollections$ListN"), accessFlags := 24, slot := 4, constantValue := 0 }, { name := "EMPTY_LIST_NULLS", type := (.object "java/util/ImmutableCollections$ListN"), accessFlags := 24, slot := 5, constantValue := 0 }, { name := "EMPTY_SET", type := (.object "java/util/ImmutableCollections$SetN"), accessFlags := 24, slot := 6, constantValue := 0 }, { name := "EMPTY_MAP", type := (.object "java/util/ImmutableCollections$MapN"), accessFlags := 24, slot := 7, constantValue := 0 }, { name := "EXPAND_FACTOR", type := .int, accessFlags := 24, slot := 8, constantValue := 0 }, { name := "$assertionsDisabled", type := .boolean, accessFlags := 4120, slot := 9, constantValue := 0 }]
  methods := #[k11m0]
  instanceTypes := #[]
  staticTypes := #[.long, .boolean, (.array (.object "java/lang/Object")), (.object "java/lang/Object"), (.object "java/util/ImmutableCollections$ListN"), (.object "java/util/ImmutableCollections$ListN"), (.object "java/util/ImmutableCollections$SetN"), (.object "java/util/ImmutableCollections$MapN"), .int, .boolean]
  resolved := Array.replicate 213 none
  statics := some 2 }

def pool12 : Array CpInfo := pool [(1, .methodref 2 3), (0, .class_ 4), (0, .nameAndType 5 6), (0, u "java/lang/Object"), (0, u "<init>"), (0, u "()V"), (0, .class_ 8), (0, u "java/util/LinkedHashMap"), (0, .methodref 7 3), (0, .fieldref 11 12), (0, .class_ 13), (0, .nameAndType 14 15), (0, u "com/example/legacy_to_latest/legacytolatest/EntityClass"), (0, u "fields"), (0, u "Ljava/util/Map;"), (0, .string 17), (0, u "kind"), (0, .methodref 19 20), (0, .class_ 21), (0, .nameAndType 22 23), (0, u "java/util/Objects"), (0, u "requireNonNull"), (0, u "(Ljava/lang/Object;Ljava/lang/String;)Ljava/lang/Object;"), (0, .class_ 25), (0, u "java/lang/String"), (0, .fieldref 11 27), (0, .nameAndType 17 28), (0, u "Ljava/lang/String;"), (0, .methodref 30 31), (0, .class_ 32), (0, .nameAndType 33 34), (0, u "java/util/Optional"), (0, u "orElse"), (0, u "(Ljava/lang/Object;)Ljava/lang/Object;"), (0, .class_ 36), (0, u "com/example/legacy_to_latest/legacytolatest/EntityClass$Morphia"), (0, .fieldref 11 38), (0, .nameAndType 39 40), (0, u "morphia"), (0, u "Lcom/example/legacy_to_latest/legacytolatest/EntityClass$Morphia;"), (0, .fieldref 11 42), (0, .nameAndType 43 28), (0, u "discriminator"), (0, .fieldref 11 45), (0, .nameAndType 46 47), (0, u "abstractClass"), (0, u "Z"), (0, .string 49), (0, u "className"), (0, .fieldref 11 51), (0, .nameAndType 49 28), (0, .string 53), (0, u "binaryName"), (0, .fieldref 11 55), (0, .nameAndType 53 28), (0, .string 57), (0, u "source"), (0, .fieldref 11 59), (0, .nameAndType 57 28), (0, .interfaceMethodref 61 62), (0, .class_ 63), (0, .nameAndType 64 65), (0, u "java/util/List"), (0, u "iterator"), (0, u "()Ljava/util/Iterator;"), (0, .interfaceMethodref 67 68), (0, .class_ 69), (0, .nameAndType 70 71), (0, u "java/util/Iterator"), (0, u "hasNext"), (0, u "()Z"), (9, u "()Ljava/lang/String;"), (5, .class_ 89), (1, u "java/util/Map"), (6, .interfaceMethodref 87 97), (0, .nameAndType 98 99), (0, u "copyOf"), (0, u "(Ljava/util/Map;)Ljava/util/Map;"), (0, .fieldref 11 101), (0, .nameAndType 102 15), (0, u "keyParts"), (0, .fieldref 11 104), (0, .nameAndType 105 28), (0, u "unreadSuperclass"), (3, u "(Ljava/lang/Object;)Ljava/util/Optional;"), (3, .methodref 30 114), (0, .nameAndType 115 116), (0, u "empty"), (0, u "()Ljava/util/Optional;"), (0, .methodref 35 118), (0, .nameAndType 119 81), (0, u "discriminatorKey"), (0, .methodref 30 121), (0, .nameAndType 122 109), (0, u "of"), (8, u "getDiscriminatorKey"), (44, u "SAVED_OR_LOADED"), (0, u "Ljava/util/function/Predicate;"), (38, u "(Ljava/lang/String;Ljava/util/Optional;Ljava/util/Optional;ZLjava/lang/String;Ljava/lang/String;Ljava/lang/String;Ljava/util/List;Ljava/util/Map;Ljava/util/Optional;)V")] 76

def k12c0 : Code := { maxStack := 3, maxLocals := 13, code := prog_6_method_1_code, exceptionTable := #[], attributes := #[] }
def k12m0 : Method := { name := "<init>", desc := "(Ljava/lang/String;Ljava/util/Optional;Ljava/util/Optional;ZLjava/lang/String;Ljava/lang/String;Ljava/lang/String;Ljava/util/List;Ljava/util/Map;Ljava/util/Optional;)V", sig := { parameters := [(.object "java/lang/String"), (.object "java/util/Optional"), (.object "java/util/Optional"), .boolean, (.object "java/lang/String"), (.object "java/lang/String"), (.object "java/lang/String"), (.object "java/util/List"), (.object "java/util/Map"), (.object "java/util/Optional")], returnType := none }, accessFlags := 0, code := some k12c0 }
def k12c1 : Code := { maxStack := 1, maxLocals := 2, code := prog_6_method_7_code, exceptionTable := #[], attributes := #[] }
def k12m1 : Method := { name := "getDiscriminatorKey", desc := "()Ljava/util/Optional;", sig := { parameters := [], returnType := some (.object "java/util/Optional") }, accessFlags := 0, code := some k12c1 }
/-- com/example/legacy_to_latest/legacytolatest/EntityClass -/
def k12 : Class := { plain "com/example/legacy_to_latest/legacytolatest/EntityClass" (some 0) with
  accessFlags := 48
  interfaces := #[]
  cf := some (fileOf pool12 11 #[.nestMembers #[35]] #[{ accessFlags := 0, nameIndex := 5, descriptorIndex := 216, attributes := #[] }, { accessFlags := 0, nameIndex := 131, descriptorIndex := 116, attributes := #[] }] 48 2 #[] #[{ accessFlags := 26, nameIndex := 176, descriptorIndex := 177, attributes := #[] }, { accessFlags := 18, nameIndex := 17, descriptorIndex := 28, attributes := #[] }, { accessFlags := 18, nameIndex := 39, descriptorIndex := 40, attributes := #[] }, { accessFlags := 18, nameIndex := 43, descriptorIndex := 28, attributes := #[] }, { accessFlags := 18, nameIndex := 46, descriptorIndex := 47, attributes := #[] }, { accessFlags := 18, nameIndex := 49, descriptorIndex := 28, attributes := #[] }, { accessFlags := 18, nameIndex := 53, descriptorIndex := 28, attributes := #[] }, { accessFlags := 18, nameIndex := 57, descriptorIndex := 28, attributes := #[] }, { accessFlags := 18, nameIndex := 14, descriptorIndex := 15, attributes := #[] }, { accessFlags := 18, nameIndex := 102, descriptorIndex := 15, attributes := #[] }, { accessFlags := 18, nameIndex := 105, descriptorIndex := 28, attributes := #[] }])
  fields := #[{ name := "SAVED_OR_LOADED", type := (.object "java/util/function/Predicate"), accessFlags := 26, slot := 0, constantValue := 0 }, { name := "kind", type := (.object "java/lang/String"), accessFlags := 18, slot := 0, constantValue := 0 }, { name := "morphia", type := (.object "com/example/legacy_to_latest/legacytolatest/EntityClass$Morphia"), accessFlags := 18, slot := 1, constantValue := 0 }, { name := "discriminator", type := (.object "java/lang/String"), accessFlags := 18, slot := 2, constantValue := 0 }, { name := "abstractClass", type := .boolean, accessFlags := 18, slot := 3, constantValue := 0 }, { name := "className", type := (.object "java/lang/String"), accessFlags := 18, slot := 4, constantValue := 0 }, { name := "binaryName", type := (.object "java/lang/String"), accessFlags := 18, slot := 5, constantValue := 0 }, { name := "source", type := (.object "java/lang/String"), accessFlags := 18, slot := 6, constantValue := 0 }, { name := "fields", type := (.object "java/util/Map"), accessFlags := 18, slot := 7, constantValue := 0 }, { name := "keyParts", type := (.object "java/util/Map"), accessFlags := 18, slot := 8, constantValue := 0 }, { name := "unreadSuperclass", type := (.object "java/lang/String"), accessFlags := 18, slot := 9, constantValue := 0 }]
  methods := #[k12m0, k12m1]
  instanceTypes := #[(.object "java/lang/String"), (.object "com/example/legacy_to_latest/legacytolatest/EntityClass$Morphia"), (.object "java/lang/String"), .boolean, (.object "java/lang/String"), (.object "java/lang/String"), (.object "java/lang/String"), (.object "java/util/Map"), (.object "java/util/Map"), (.object "java/lang/String")]
  staticTypes := #[(.object "java/util/function/Predicate")]
  resolved := Array.replicate 293 none
  statics := none }

def pool13 : Array CpInfo := pool [(8, .class_ 10), (1, u "java/lang/Iterable"), (24, .class_ 36), (0, u "java/lang/Object")] 25

/-- java/lang/Iterable -/
def k13 : Class := { plain "java/lang/Iterable" (some 0) with
  accessFlags := 1537
  interfaces := #[]
  cf := some (fileOf pool13 8 #[] #[] 1537 35 #[] #[])
  fields := #[]
  methods := #[]
  instanceTypes := #[]
  staticTypes := #[]
  resolved := Array.replicate 62 none
  statics := none }

def pool14 : Array CpInfo := pool [(10, .class_ 12), (1, u "java/util/Collection"), (47, .class_ 61), (0, u "java/lang/Object"), (0, .class_ 63), (0, u "java/lang/Iterable")] 51

/-- java/util/Collection -/
def k14 : Class := { plain "java/util/Collection" (some 0) with
  accessFlags := 1537
  interfaces := #[13]
  cf := some (fileOf pool14 10 #[] #[] 1537 60 #[62] #[])
  fields := #[]
  methods := #[]
  instanceTypes := #[]
  staticTypes := #[]
  resolved := Array.replicate 115 none
  statics := none }

def pool15 : Array CpInfo := pool [(1, .methodref 2 3), (0, .class_ 4), (0, .nameAndType 5 6), (0, u "java/lang/Object"), (0, u "<init>"), (0, u "()V"), (1, .class_ 10), (1, u "java/util/AbstractCollection"), (66, .class_ 78), (0, u "java/util/Collection")] 81

def k15c0 : Code := { maxStack := 1, maxLocals := 1, code := jdk_22_method_1_code, exceptionTable := #[], attributes := #[] }
def k15m0 : Method := { name := "<init>", desc := "()V", sig := { parameters := [], returnType := none }, accessFlags := 4, code := some k15c0 }
/-- java/util/AbstractCollection -/
def k15 : Class := { plain "java/util/AbstractCollection" (some 0) with
  accessFlags := 1057
  interfaces := #[14]
  cf := some (fileOf pool15 8 #[] #[{ accessFlags := 4, nameIndex := 5, descriptorIndex := 6, attributes := #[] }] 1057 2 #[77] #[])
  fields := #[]
  methods := #[k15m0]
  instanceTypes := #[]
  staticTypes := #[]
  resolved := Array.replicate 160 none
  statics := none }

def pool16 : Array CpInfo := pool [(8, .class_ 10), (1, u "java/util/SequencedCollection"), (15, .class_ 27), (0, u "java/lang/Object"), (0, .class_ 29), (0, u "java/util/Collection")] 27

/-- java/util/SequencedCollection -/
def k16 : Class := { plain "java/util/SequencedCollection" (some 0) with
  accessFlags := 1537
  interfaces := #[14]
  cf := some (fileOf pool16 8 #[] #[] 1537 26 #[28] #[])
  fields := #[]
  methods := #[]
  instanceTypes := #[]
  staticTypes := #[]
  resolved := Array.replicate 57 none
  statics := none }

def pool17 : Array CpInfo := pool [(8, .class_ 10), (1, u "java/util/List"), (92, .class_ 104), (0, u "java/lang/Object"), (15, .class_ 121), (0, u "java/util/SequencedCollection"), (1, u "iterator"), (0, u "()Ljava/util/Iterator;")] 126

def k17m0 : Method := { name := "iterator", desc := "()Ljava/util/Iterator;", sig := { parameters := [], returnType := some (.object "java/util/Iterator") }, accessFlags := 1025, code := none }
/-- java/util/List -/
def k17 : Class := { plain "java/util/List" (some 0) with
  accessFlags := 1537
  interfaces := #[16]
  cf := some (fileOf pool17 8 #[] #[{ accessFlags := 1025, nameIndex := 123, descriptorIndex := 124, attributes := #[] }] 1537 103 #[120] #[])
  fields := #[]
  methods := #[k17m0]
  instanceTypes := #[]
  staticTypes := #[]
  resolved := Array.replicate 251 none
  statics := none }

def pool18 : Array CpInfo := pool [(1, .methodref 2 3), (0, .class_ 4), (0, .nameAndType 5 6), (0, u "java/util/AbstractCollection"), (0, u "<init>"), (0, u "()V"), (0, .fieldref 8 9), (0, .class_ 10), (0, .nameAndType 11 12), (0, u "java/util/AbstractList"), (0, u "modCount"), (0, u "I"), (64, .class_ 78), (0, u "java/util/AbstractList$Itr"), (3, .class_ 83), (0, u "java/util/AbstractList$ListItr"), (9, .class_ 94), (0, u "java/util/AbstractList$RandomAccessSubList"), (3, .class_ 99), (0, u "java/util/AbstractList$SubList"), (33, .class_ 134), (0, u "java/util/List"), (73, .class_ 209), (0, u "java/util/AbstractList$SubList$1"), (0, .class_ 211), (0, u "java/util/AbstractList$RandomAccessSpliterator")] 6

def k18c0 : Code := { maxStack := 2, maxLocals := 1, code := jdk_39_method_1_code, exceptionTable := #[], attributes := #[] }
def k18m0 : Method := { name := "<init>", desc := "()V", sig := { parameters := [], returnType := none }, accessFlags := 4, code := some k18c0 }
/-- java/util/AbstractList -/
def k18 : Class := { plain "java/util/AbstractList" (some 15) with
  accessFlags := 1057
  interfaces := #[17]
  cf := some (fileOf pool18 8 #[.nestMembers #[93, 98, 208, 210, 82, 77]] #[{ accessFlags := 4, nameIndex := 5, descriptorIndex := 6, attributes := #[] }] 1057 2 #[133] #[{ accessFlags := 132, nameIndex := 11, descriptorIndex := 12, attributes := #[] }])
  fields := #[{ name := "modCount", type := .int, accessFlags := 132, slot := 0, constantValue := 0 }]
  methods := #[k18m0]
  instanceTypes := #[.int]
  staticTypes := #[]
  resolved := Array.replicate 218 none
  statics := none }

def pool19 : Array CpInfo := pool [(1, .class_ 2), (0, u "java/util/RandomAccess"), (0, .class_ 4), (0, u "java/lang/Object")] 2

/-- java/util/RandomAccess -/
def k19 : Class := { plain "java/util/RandomAccess" (some 0) with
  accessFlags := 1537
  interfaces := #[]
  cf := some (fileOf pool19 1 #[] #[] 1537 3 #[] #[])
  fields := #[]
  methods := #[]
  instanceTypes := #[]
  staticTypes := #[]
  resolved := Array.replicate 7 none
  statics := none }

def pool20 : Array CpInfo := pool [(1, .class_ 2), (0, u "java/lang/Cloneable"), (0, .class_ 4), (0, u "java/lang/Object")] 2

/-- java/lang/Cloneable -/
def k20 : Class := { plain "java/lang/Cloneable" (some 0) with
  accessFlags := 1537
  interfaces := #[]
  cf := some (fileOf pool20 1 #[] #[] 1537 3 #[] #[])
  fields := #[]
  methods := #[]
  instanceTypes := #[]
  staticTypes := #[]
  resolved := Array.replicate 7 none
  statics := none }

def pool21 : Array CpInfo := pool [(1, .methodref 2 3), (0, .class_ 4), (0, .nameAndType 5 6), (0, u "java/util/AbstractList"), (0, u "<init>"), (0, u "()V"), (2, .fieldref 10 11), (0, .class_ 12), (0, .nameAndType 13 14), (0, u "java/util/ArrayList"), (0, u "elementData"), (0, u "[Ljava/lang/Object;"), (2, u "EMPTY_ELEMENTDATA"), (21, .fieldref 10 40), (0, .nameAndType 41 14), (0, u "DEFAULTCAPACITY_EMPTY_ELEMENTDATA"), (8, u "size"), (0, u "I"), (96, .class_ 149), (0, u "java/util/List"), (16, u "iterator"), (0, u "()Ljava/util/Iterator;"), (94, .class_ 263), (0, u "java/util/ArrayList$ListItr"), (3, .class_ 268), (0, u "java/util/ArrayList$Itr"), (0, .methodref 267 270), (0, .nameAndType 5 271), (0, u "(Ljava/util/ArrayList;)V"), (4, .class_ 277), (0, u "java/util/ArrayList$SubList"), (12, .class_ 291), (0, u "java/util/ArrayList$ArrayListSpliterator"), (37, .class_ 330), (0, u "java/util/RandomAccess"), (0, .class_ 332), (0, u "java/lang/Cloneable"), (0, .class_ 334), (0, u "java/io/Serializable"), (0, u "serialVersionUID"), (0, u "J"), (3, u "DEFAULT_CAPACITY"), (159, .class_ 501), (0, u "java/util/ArrayList$SubList$2"), (0, .class_ 503), (0, u "java/util/ArrayList$SubList$1")] 5

def k21c0 : Code := { maxStack := 2, maxLocals := 1, code := jdk_38_method_2_code, exceptionTable := #[], attributes := #[] }
def k21m0 : Method := { name := "<init>", desc := "()V", sig := { parameters := [], returnType := none }, accessFlags := 1, code := some k21c0 }
def k21c1 : Code := { maxStack := 3, maxLocals := 1, code := jdk_38_method_55_code, exceptionTable := #[], attributes := #[] }
def k21m1 : Method := { name := "iterator", desc := "()Ljava/util/Iterator;", sig := { parameters := [], returnType := some (.object "java/util/Iterator") }, accessFlags := 1, code := some k21c1 }
/-- java/util/ArrayList -/
def k21 : Class := { plain "java/util/ArrayList" (some 18) with
  accessFlags := 33
  interfaces := #[17, 19, 20, 2]
  cf := some (fileOf pool21 10 #[.nestMembers #[290, 276, 500, 502, 262, 267]] #[{ accessFlags := 1, nameIndex := 5, descriptorIndex := 6, attributes := #[] }, { accessFlags := 1, nameIndex := 166, descriptorIndex := 167, attributes := #[] }] 33 2 #[148, 329, 331, 333] #[{ accessFlags := 26, nameIndex := 335, descriptorIndex := 336, attributes := #[] }, { accessFlags := 26, nameIndex := 340, descriptorIndex := 51, attributes := #[] }, { accessFlags := 26, nameIndex := 17, descriptorIndex := 14, attributes := #[] }, { accessFlags := 26, nameIndex := 41, descriptorIndex := 14, attributes := #[] }, { accessFlags := 128, nameIndex := 13, descriptorIndex := 14, attributes := #[] }, { accessFlags := 2, nameIndex := 50, descriptorIndex := 51, attributes := #[] }])
  fields := #[{ name := "serialVersionUID", type := .long, accessFlags := 26, slot := 0, constantValue := 0 }, { name := "DEFAULT_CAPACITY", type := .int, accessFlags := 26, slot := 1, constantValue := 0 }, { name := "EMPTY_ELEMENTDATA", type := (.array (.object "java/lang/Object")), accessFlags := 26, slot := 2, constantValue := 0 }, { name := "DEFAULTCAPACITY_EMPTY_ELEMENTDATA", type := (.array (.object "java/lang/Object")), accessFlags := 26, slot := 3, constantValue := 0 }, { name := "elementData", type := (.array (.object "java/lang/Object")), accessFlags := 128, slot := 1, constantValue := 0 }, { name := "size", type := .int, accessFlags := 2, slot := 2, constantValue := 0 }]
  methods := #[k21m0, k21m1]
  instanceTypes := #[.int, (.array (.object "java/lang/Object")), .int]
  staticTypes := #[.long, .int, (.array (.object "java/lang/Object")), (.array (.object "java/lang/Object"))]
  resolved := Array.replicate 509 none
  statics := some 3 }

def pool22 : Array CpInfo := pool [(1, .methodref 2 3), (0, .class_ 4), (0, .nameAndType 5 6), (0, u "java/lang/Object"), (0, u "<init>"), (0, u "()V"), (1, .class_ 10), (1, u "java/util/AbstractMap"), (42, .class_ 54), (0, u "java/util/Map"), (9, u "keySet"), (0, u "Ljava/util/Set;"), (0, .class_ 67), (0, u "java/util/AbstractMap$1"), (5, u "values"), (0, u "Ljava/util/Collection;"), (0, .class_ 76), (0, u "java/util/AbstractMap$2"), (104, .class_ 182), (0, u "java/util/AbstractMap$ViewCollection"), (0, .class_ 184), (0, u "java/util/AbstractMap$SimpleImmutableEntry"), (0, .class_ 186), (0, u "java/util/AbstractMap$SimpleEntry"), (0, .class_ 188), (0, u "java/util/AbstractMap$2$1"), (0, .class_ 190), (0, u "java/util/AbstractMap$1$1")] 5

def k22c0 : Code := { maxStack := 1, maxLocals := 1, code := jdk_71_method_1_code, exceptionTable := #[], attributes := #[] }
def k22m0 : Method := { name := "<init>", desc := "()V", sig := { parameters := [], returnType := none }, accessFlags := 4, code := some k22c0 }
/-- java/util/AbstractMap -/
def k22 : Class := { plain "java/util/AbstractMap" (some 0) with
  accessFlags := 1057
  interfaces := #[10]
  cf := some (fileOf pool22 8 #[.nestMembers #[181, 183, 185, 75, 187, 66, 189]] #[{ accessFlags := 4, nameIndex := 5, descriptorIndex := 6, attributes := #[] }] 1057 2 #[53] #[{ accessFlags := 128, nameIndex := 64, descriptorIndex := 65, attributes := #[] }, { accessFlags := 128, nameIndex := 73, descriptorIndex := 74, attributes := #[] }])
  fields := #[{ name := "keySet", type := (.object "java/util/Set"), accessFlags := 128, slot := 0, constantValue := 0 }, { name := "values", type := (.object "java/util/Collection"), accessFlags := 128, slot := 1, constantValue := 0 }]
  methods := #[k22m0]
  instanceTypes := #[(.object "java/util/Set"), (.object "java/util/Collection")]
  staticTypes := #[]
  resolved := Array.replicate 196 none
  statics := none }

def pool23 : Array CpInfo := pool [(40, .class_ 41), (0, u "java/util/HashMap"), (1, .methodref 44 45), (0, .class_ 46), (0, .nameAndType 47 48), (0, u "java/util/AbstractMap"), (0, u "<init>"), (0, u "()V"), (32, .fieldref 40 82), (0, .nameAndType 83 84), (0, u "loadFactor"), (0, u "F"), (5, u "threshold"), (0, u "I"), (0, .float 1061158912), (8, .class_ 103), (1, u "java/util/Map"), (0, u "size"), (2, u "table"), (0, u "[Ljava/util/HashMap$Node;"), (14, u "entrySet"), (39, .class_ 165), (1, u "java/util/HashMap$Node"), (14, .class_ 181), (0, u "java/util/HashMap$TreeNode"), (22, u "modCount"), (37, u "Ljava/util/Set;"), (0, .class_ 244), (0, u "java/util/HashMap$KeySet"), (18, .class_ 264), (0, u "java/util/HashMap$Values"), (3, .class_ 269), (0, u "java/util/HashMap$EntrySet"), (76, .class_ 348), (1, u "java/util/HashMap$UnsafeHolder"), (43, .class_ 393), (0, u "java/lang/Cloneable"), (0, .class_ 395), (0, u "java/io/Serializable"), (0, u "serialVersionUID"), (0, u "J"), (3, u "DEFAULT_INITIAL_CAPACITY"), (1, u "MAXIMUM_CAPACITY"), (0, u "DEFAULT_LOAD_FACTOR"), (0, u "TREEIFY_THRESHOLD"), (1, u "UNTREEIFY_THRESHOLD"), (1, u "MIN_TREEIFY_CAPACITY"), (186, .class_ 597), (0, u "java/util/HashMap$EntrySpliterator"), (0, .class_ 599), (0, u "java/util/HashMap$ValueSpliterator"), (0, .class_ 601), (0, u "java/util/HashMap$KeySpliterator"), (0, .class_ 603), (0, u "java/util/HashMap$HashMapSpliterator"), (0, .class_ 605), (0, u "java/util/HashMap$EntryIterator"), (0, .class_ 607), (0, u "java/util/HashMap$ValueIterator"), (0, .class_ 609), (0, u "java/util/HashMap$KeyIterator"), (0, .class_ 611), (0, u "java/util/HashMap$HashIterator")] 17

def k23c0 : Code := { maxStack := 2, maxLocals := 1, code := jdk_69_method_7_code, exceptionTable := #[], attributes := #[] }
def k23m0 : Method := { name := "<init>", desc := "()V", sig := { parameters := [], returnType := none }, accessFlags := 1, code := some k23c0 }
/-- java/util/HashMap -/
def k23 : Class := { plain "java/util/HashMap" (some 22) with
  accessFlags := 33
  interfaces := #[10, 20, 2]
  cf := some (fileOf pool23 40 #[.nestMembers #[180, 596, 598, 600, 602, 604, 606, 608, 610, 346, 268, 263, 243, 163]] #[{ accessFlags := 1, nameIndex := 47, descriptorIndex := 48, attributes := #[] }] 33 44 #[101, 392, 394] #[{ accessFlags := 26, nameIndex := 396, descriptorIndex := 397, attributes := #[] }, { accessFlags := 24, nameIndex := 401, descriptorIndex := 91, attributes := #[] }, { accessFlags := 24, nameIndex := 403, descriptorIndex := 91, attributes := #[] }, { accessFlags := 24, nameIndex := 404, descriptorIndex := 84, attributes := #[] }, { accessFlags := 24, nameIndex := 405, descriptorIndex := 91, attributes := #[] }, { accessFlags := 24, nameIndex := 407, descriptorIndex := 91, attributes := #[] }, { accessFlags := 24, nameIndex := 409, descriptorIndex := 91, attributes := #[] }, { accessFlags := 128, nameIndex := 107, descriptorIndex := 108, attributes := #[] }, { accessFlags := 128, nameIndex := 123, descriptorIndex := 242, attributes := #[] }, { accessFlags := 128, nameIndex := 104, descriptorIndex := 91, attributes := #[] }, { accessFlags := 128, nameIndex := 204, descriptorIndex := 91, attributes := #[] }, { accessFlags := 0, nameIndex := 90, descriptorIndex := 91, attributes := #[] }, { accessFlags := 16, nameIndex := 83, descriptorIndex := 84, attributes := #[] }])
  fields := #[{ name := "serialVersionUID", type := .long, accessFlags := 26, slot := 0, constantValue := 0 }, { name := "DEFAULT_INITIAL_CAPACITY", type := .int, accessFlags := 24, slot := 1, constantValue := 0 }, { name := "MAXIMUM_CAPACITY", type := .int, accessFlags := 24, slot := 2, constantValue := 0 }, { name := "DEFAULT_LOAD_FACTOR", type := .float, accessFlags := 24, slot := 3, constantValue := 0 }, { name := "TREEIFY_THRESHOLD", type := .int, accessFlags := 24, slot := 4, constantValue := 0 }, { name := "UNTREEIFY_THRESHOLD", type := .int, accessFlags := 24, slot := 5, constantValue := 0 }, { name := "MIN_TREEIFY_CAPACITY", type := .int, accessFlags := 24, slot := 6, constantValue := 0 }, { name := "table", type := (.array (.object "java/util/HashMap$Node")), accessFlags := 128, slot := 2, constantValue := 0 }, { name := "entrySet", type := (.object "java/util/Set"), accessFlags := 128, slot := 3, constantValue := 0 }, { name := "size", type := .int, accessFlags := 128, slot := 4, constantValue := 0 }, { name := "modCount", type := .int, accessFlags := 128, slot := 5, constantValue := 0 }, { name := "threshold", type := .int, accessFlags := 0, slot := 6, constantValue := 0 }, { name := "loadFactor", type := .float, accessFlags := 16, slot := 7, constantValue := 0 }]
  methods := #[k23m0]
  instanceTypes := #[(.object "java/util/Set"), (.object "java/util/Collection"), (.array (.object "java/util/HashMap$Node")), (.object "java/util/Set"), .int, .int, .int, .float]
  staticTypes := #[.long, .int, .int, .float, .int, .int, .int]
  resolved := Array.replicate 629 none
  statics := none }

def pool24 : Array CpInfo := pool [(2, .class_ 4), (1, u "java/util/SequencedMap"), (38, .class_ 44), (0, u "java/util/SequencedMap$1SeqKeySet"), (3, .class_ 49), (0, u "java/util/SequencedMap$1SeqValues"), (1, .class_ 52), (0, u "java/util/SequencedMap$1SeqEntrySet"), (1, .class_ 55), (0, u "java/lang/Object"), (0, .class_ 57), (0, u "java/util/Map")] 48

/-- java/util/SequencedMap -/
def k24 : Class := { plain "java/util/SequencedMap" (some 0) with
  accessFlags := 1537
  interfaces := #[10]
  cf := some (fileOf pool24 2 #[.nestMembers #[51, 48, 43]] #[] 1537 54 #[56] #[])
  fields := #[]
  methods := #[]
  instanceTypes := #[]
  staticTypes := #[]
  resolved := Array.replicate 106 none
  statics := none }

def pool25 : Array CpInfo := pool [(1, .fieldref 2 3), (0, .class_ 4), (0, .nameAndType 5 6), (0, u "java/util/LinkedHashMap"), (0, u "putMode"), (0, u "I"), (2, u "head"), (0, u "Ljava/util/LinkedHashMap$Entry;"), (2, u "tail"), (1, .class_ 17), (1, u "java/util/LinkedHashMap$Entry"), (5, .class_ 25), (1, u "java/util/HashMap"), (1, u "()V"), (2, u "<init>"), (33, .fieldref 2 65), (0, .nameAndType 66 67), (0, u "accessOrder"), (0, u "Z"), (19, .methodref 23 88), (0, .nameAndType 30 27), (32, .class_ 122), (0, u "java/util/LinkedHashMap$LinkedKeySet"), (20, .class_ 144), (0, u "java/util/LinkedHashMap$LinkedValues"), (9, .class_ 155), (0, u "java/util/LinkedHashMap$LinkedEntrySet"), (44, .class_ 201), (0, u "java/util/LinkedHashMap$ReversedLinkedHashMapView"), (3, .class_ 206), (0, u "java/util/SequencedMap"), (0, u "serialVersionUID"), (0, u "J"), (5, u "PUT_NORM"), (1, u "PUT_FIRST"), (1, u "PUT_LAST"), (143, .class_ 363), (0, u "java/util/LinkedHashMap$LinkedEntryIterator"), (0, .class_ 365), (0, u "java/util/LinkedHashMap$LinkedValueIterator"), (0, .class_ 367), (0, u "java/util/LinkedHashMap$LinkedKeyIterator"), (0, .class_ 369), (0, u "java/util/LinkedHashMap$LinkedHashIterator")] 16

def k25c0 : Code := { maxStack := 2, maxLocals := 1, code := jdk_94_method_16_code, exceptionTable := #[], attributes := #[] }
def k25m0 : Method := { name := "<init>", desc := "()V", sig := { parameters := [], returnType := none }, accessFlags := 1, code := some k25c0 }
/-- java/util/LinkedHashMap -/
def k25 : Class := { plain "java/util/LinkedHashMap" (some 23) with
  accessFlags := 33
  interfaces := #[24]
  cf := some (fileOf pool25 2 #[.nestMembers #[200, 362, 364, 366, 368, 154, 143, 121, 15]] #[{ accessFlags := 1, nameIndex := 30, descriptorIndex := 27, attributes := #[] }] 33 23 #[205] #[{ accessFlags := 26, nameIndex := 207, descriptorIndex := 208, attributes := #[] }, { accessFlags := 128, nameIndex := 9, descriptorIndex := 10, attributes := #[] }, { accessFlags := 128, nameIndex := 13, descriptorIndex := 10, attributes := #[] }, { accessFlags := 16, nameIndex := 66, descriptorIndex := 67, attributes := #[] }, { accessFlags := 24, nameIndex := 214, descriptorIndex := 6, attributes := #[] }, { accessFlags := 24, nameIndex := 216, descriptorIndex := 6, attributes := #[] }, { accessFlags := 24, nameIndex := 218, descriptorIndex := 6, attributes := #[] }, { accessFlags := 128, nameIndex := 5, descriptorIndex := 6, attributes := #[] }])
  fields := #[{ name := "serialVersionUID", type := .long, accessFlags := 26, slot := 0, constantValue := 0 }, { name := "head", type := (.object "java/util/LinkedHashMap$Entry"), accessFlags := 128, slot := 8, constantValue := 0 }, { name := "tail", type := (.object "java/util/LinkedHashMap$Entry"), accessFlags := 128, slot := 9, constantValue := 0 }, { name := "accessOrder", type := .boolean, accessFlags := 16, slot := 10, constantValue := 0 }, { name := "PUT_NORM", type := .int, accessFlags := 24, slot := 1, constantValue := 0 }, { name := "PUT_FIRST", type := .int, accessFlags := 24, slot := 2, constantValue := 0 }, { name := "PUT_LAST", type := .int, accessFlags := 24, slot := 3, constantValue := 0 }, { name := "putMode", type := .int, accessFlags := 128, slot := 11, constantValue := 0 }]
  methods := #[k25m0]
  instanceTypes := #[(.object "java/util/Set"), (.object "java/util/Collection"), (.array (.object "java/util/HashMap$Node")), (.object "java/util/Set"), .int, .int, .int, .float, (.object "java/util/LinkedHashMap$Entry"), (.object "java/util/LinkedHashMap$Entry"), .boolean, .int]
  staticTypes := #[.long, .int, .int, .int]
  resolved := Array.replicate 386 none
  statics := none }

def pool26 : Array CpInfo := pool [(2, .class_ 4), (1, u "java/lang/Object"), (0, u "<init>"), (0, u "()V"), (35, .class_ 44), (1, u "java/util/Objects"), (0, u "requireNonNull"), (0, u "(Ljava/lang/Object;)Ljava/lang/Object;"), (47, u "(Ljava/lang/Object;Ljava/lang/String;)Ljava/lang/Object;")] 89

def k26m0 : Method := { name := "<init>", desc := "()V", sig := { parameters := [], returnType := none }, accessFlags := 2, code := none }
def k26c1 : Code := { maxStack := 2, maxLocals := 1, code := jdk_31_method_10_code, exceptionTable := #[], attributes := #[] }
def k26m1 : Method := { name := "requireNonNull", desc := "(Ljava/lang/Object;)Ljava/lang/Object;", sig := { parameters := [(.object "java/lang/Object")], returnType := some (.object "java/lang/Object") }, accessFlags := 9, code := some k26c1 }
def k26c2 : Code := { maxStack := 3, maxLocals := 2, code := jdk_31_method_11_code, exceptionTable := #[], attributes := #[] }
def k26m2 : Method := { name := "requireNonNull", desc := "(Ljava/lang/Object;Ljava/lang/String;)Ljava/lang/Object;", sig := { parameters := [(.object "java/lang/Object"), (.object "java/lang/String")], returnType := some (.object "java/lang/Object") }, accessFlags := 9, code := some k26c2 }
/-- java/util/Objects -/
def k26 : Class := { plain "java/util/Objects" (some 0) with
  accessFlags := 49
  interfaces := #[]
  cf := some (fileOf pool26 42 #[] #[{ accessFlags := 2, nameIndex := 5, descriptorIndex := 6, attributes := #[] }, { accessFlags := 9, nameIndex := 45, descriptorIndex := 46, attributes := #[] }, { accessFlags := 9, nameIndex := 45, descriptorIndex := 94, attributes := #[] }] 49 2 #[] #[])
  fields := #[]
  methods := #[k26m0, k26m1, k26m2]
  instanceTypes := #[]
  staticTypes := #[]
  resolved := Array.replicate 184 none
  statics := none }

def pool27 : Array CpInfo := pool [(16, .class_ 18), (1, u "java/util/Iterator"), (0, u "hasNext"), (0, u "()Z"), (10, .class_ 32), (0, u "java/lang/Object")] 20

def k27m0 : Method := { name := "hasNext", desc := "()Z", sig := { parameters := [], returnType := some .boolean }, accessFlags := 1025, code := none }
/-- java/util/Iterator -/
def k27 : Class := { plain "java/util/Iterator" (some 0) with
  accessFlags := 1537
  interfaces := #[]
  cf := some (fileOf pool27 16 #[] #[{ accessFlags := 1025, nameIndex := 19, descriptorIndex := 20, attributes := #[] }] 1537 31 #[] #[])
  fields := #[]
  methods := #[k27m0]
  instanceTypes := #[]
  staticTypes := #[]
  resolved := Array.replicate 53 none
  statics := none }

def pool28 : Array CpInfo := pool [(1, .fieldref 2 3), (0, .class_ 4), (0, .nameAndType 5 6), (0, u "java/util/ArrayList$Itr"), (0, u "this$0"), (0, u "Ljava/util/ArrayList;"), (0, .methodref 8 9), (0, .class_ 10), (0, .nameAndType 11 12), (0, u "java/lang/Object"), (0, u "<init>"), (0, u "()V"), (0, .fieldref 2 14), (0, .nameAndType 15 16), (0, u "lastRet"), (0, u "I"), (0, .fieldref 18 19), (0, .class_ 20), (0, .nameAndType 21 16), (0, u "java/util/ArrayList"), (0, u "modCount"), (0, .fieldref 2 23), (0, .nameAndType 24 16), (0, u "expectedModCount"), (0, .fieldref 2 26), (0, .nameAndType 27 16), (0, u "cursor"), (0, .fieldref 18 29), (0, .nameAndType 30 16), (0, u "size"), (38, .class_ 70), (0, u "java/util/Iterator"), (0, u "(Ljava/util/ArrayList;)V"), (8, u "hasNext"), (0, u "()Z")] 22

def k28c0 : Code := { maxStack := 2, maxLocals := 2, code := jdk_49_method_1_code, exceptionTable := #[], attributes := #[] }
def k28m0 : Method := { name := "<init>", desc := "(Ljava/util/ArrayList;)V", sig := { parameters := [(.object "java/util/ArrayList")], returnType := none }, accessFlags := 0, code := some k28c0 }
def k28c1 : Code := { maxStack := 2, maxLocals := 1, code := jdk_49_method_2_code, exceptionTable := #[], attributes := #[] }
def k28m1 : Method := { name := "hasNext", desc := "()Z", sig := { parameters := [], returnType := some .boolean }, accessFlags := 1, code := some k28c1 }
/-- java/util/ArrayList$Itr -/
def k28 : Class := { plain "java/util/ArrayList$Itr" (some 0) with
  accessFlags := 32
  interfaces := #[27]
  cf := some (fileOf pool28 2 #[.nestHost 18] #[{ accessFlags := 0, nameIndex := 11, descriptorIndex := 71, attributes := #[] }, { accessFlags := 1, nameIndex := 80, descriptorIndex := 81, attributes := #[] }] 32 8 #[69] #[{ accessFlags := 0, nameIndex := 27, descriptorIndex := 16, attributes := #[] }, { accessFlags := 0, nameIndex := 15, descriptorIndex := 16, attributes := #[] }, { accessFlags := 0, nameIndex := 24, descriptorIndex := 16, attributes := #[] }, { accessFlags := 4112, nameIndex := 5, descriptorIndex := 6, attributes := #[] }])
  fields := #[{ name := "cursor", type := .int, accessFlags := 0, slot := 0, constantValue := 0 }, { name := "lastRet", type := .int, accessFlags := 0, slot := 1, constantValue := 0 }, { name := "expectedModCount", type := .int, accessFlags := 0, slot := 2, constantValue := 0 }, { name := "this$0", type := (.object "java/util/ArrayList"), accessFlags := 4112, slot := 3, constantValue := 0 }]
  methods := #[k28m0, k28m1]
  instanceTypes := #[.int, .int, .int, (.object "java/util/ArrayList")]
  staticTypes := #[]
  resolved := Array.replicate 104 none
  statics := none }

def pool29 : Array CpInfo := pool [(2, .class_ 4), (1, u "java/util/AbstractMap"), (0, u "<init>"), (0, u "()V"), (1, .class_ 10), (1, u "java/util/ImmutableCollections"), (3, .class_ 16), (1, u "java/util/ImmutableCollections$AbstractImmutableMap"), (2, .class_ 20), (0, u "java/io/Serializable")] 66

def k29m0 : Method := { name := "<init>", desc := "()V", sig := { parameters := [], returnType := none }, accessFlags := 0, code := none }
/-- java/util/ImmutableCollections$AbstractImmutableMap -/
def k29 : Class := { plain "java/util/ImmutableCollections$AbstractImmutableMap" (some 22) with
  accessFlags := 1056
  interfaces := #[2]
  cf := some (fileOf pool29 14 #[.nestHost 8] #[{ accessFlags := 0, nameIndex := 5, descriptorIndex := 6, attributes := #[] }] 1056 2 #[19] #[])
  fields := #[]
  methods := #[k29m0]
  instanceTypes := #[(.object "java/util/Set"), (.object "java/util/Collection")]
  staticTypes := #[]
  resolved := Array.replicate 87 none
  statics := none }

def pool30 : Array CpInfo := pool [(1, .class_ 2), (0, u "java/util/ImmutableCollections"), (1, .class_ 6), (1, u "java/util/ImmutableCollections$AbstractImmutableMap"), (10, .class_ 19), (1, u "java/util/ImmutableCollections$MapN"), (0, u "size"), (0, u "I"), (4, u "table"), (0, u "[Ljava/lang/Object;")] 121

/-- java/util/ImmutableCollections$MapN -/
def k30 : Class := { plain "java/util/ImmutableCollections$MapN" (some 29) with
  accessFlags := 48
  interfaces := #[]
  cf := some (fileOf pool30 17 #[.nestHost 1] #[] 48 4 #[] #[{ accessFlags := 16, nameIndex := 26, descriptorIndex := 27, attributes := #[] }, { accessFlags := 16, nameIndex := 20, descriptorIndex := 21, attributes := #[] }])
  fields := #[{ name := "table", type := (.array (.object "java/lang/Object")), accessFlags := 16, slot := 2, constantValue := 0 }, { name := "size", type := .int, accessFlags := 16, slot := 3, constantValue := 0 }]
  methods := #[]
  instanceTypes := #[(.object "java/util/Set"), (.object "java/util/Collection"), (.array (.object "java/lang/Object")), .int]
  staticTypes := #[]
  resolved := Array.replicate 149 none
  statics := none }

def pool31 : Array CpInfo := pool [(2, .class_ 4), (1, u "java/lang/Enum"), (0, u "name"), (0, u "Ljava/lang/String;"), (2, u "ordinal"), (0, u "I"), (1, .class_ 14), (1, u "java/lang/Object"), (4, u "hash"), (86, .class_ 108), (1, u "java/lang/Enum$EnumDesc"), (2, .class_ 112), (0, u "java/lang/constant/Constable"), (0, .class_ 114), (0, u "java/lang/Comparable"), (0, .class_ 116), (0, u "java/io/Serializable")] 87

/-- java/lang/Enum -/
def k31 : Class := { plain "java/lang/Enum" (some 0) with
  accessFlags := 1057
  interfaces := #[5, 3, 2]
  cf := some (fileOf pool31 2 #[.nestMembers #[106]] #[] 1057 12 #[111, 113, 115] #[{ accessFlags := 18, nameIndex := 5, descriptorIndex := 6, attributes := #[] }, { accessFlags := 18, nameIndex := 9, descriptorIndex := 10, attributes := #[] }, { accessFlags := 2, nameIndex := 19, descriptorIndex := 10, attributes := #[] }])
  fields := #[{ name := "name", type := (.object "java/lang/String"), accessFlags := 18, slot := 0, constantValue := 0 }, { name := "ordinal", type := .int, accessFlags := 18, slot := 1, constantValue := 0 }, { name := "hash", type := .int, accessFlags := 2, slot := 2, constantValue := 0 }]
  methods := #[]
  instanceTypes := #[(.object "java/lang/String"), .int, .int]
  staticTypes := #[]
  resolved := Array.replicate 204 none
  statics := none }

def pool32 : Array CpInfo := pool [(1, .class_ 2), (0, u "com/example/legacy_to_latest/legacytolatest/EntityClass$Morphia"), (2, u "V1"), (0, u "Lcom/example/legacy_to_latest/legacytolatest/EntityClass$Morphia;"), (2, u "V2"), (2, u "$VALUES"), (0, u "[Lcom/example/legacy_to_latest/legacytolatest/EntityClass$Morphia;"), (6, .class_ 22), (1, u "java/lang/Enum"), (6, .fieldref 1 30), (0, .nameAndType 31 32), (0, u "discriminatorKey"), (0, u "Ljava/lang/String;"), (20, u "()Ljava/lang/String;"), (6, .class_ 61), (0, u "com/example/legacy_to_latest/legacytolatest/EntityClass")] 2

def k32c0 : Code := { maxStack := 1, maxLocals := 1, code := prog_7_method_4_code, exceptionTable := #[], attributes := #[] }
def k32m0 : Method := { name := "discriminatorKey", desc := "()Ljava/lang/String;", sig := { parameters := [], returnType := some (.object "java/lang/String") }, accessFlags := 0, code := some k32c0 }
/-- com/example/legacy_to_latest/legacytolatest/EntityClass$Morphia -/
def k32 : Class := { plain "com/example/legacy_to_latest/legacytolatest/EntityClass$Morphia" (some 31) with
  accessFlags := 16432
  interfaces := #[]
  cf := some (fileOf pool32 1 #[.nestHost 60] #[{ accessFlags := 0, nameIndex := 31, descriptorIndex := 53, attributes := #[] }] 16432 20 #[] #[{ accessFlags := 16409, nameIndex := 5, descriptorIndex := 6, attributes := #[] }, { accessFlags := 16409, nameIndex := 9, descriptorIndex := 6, attributes := #[] }, { accessFlags := 18, nameIndex := 31, descriptorIndex := 32, attributes := #[] }, { accessFlags := 4122, nameIndex := 12, descriptorIndex := 13, attributes := #[] }])
  fields := #[{ name := "V1", type := (.object "com/example/legacy_to_latest/legacytolatest/EntityClass$Morphia"), accessFlags := 16409, slot := 0, constantValue := 0 }, { name := "V2", type := (.object "com/example/legacy_to_latest/legacytolatest/EntityClass$Morphia"), accessFlags := 16409, slot := 1, constantValue := 0 }, { name := "discriminatorKey", type := (.object "java/lang/String"), accessFlags := 18, slot := 3, constantValue := 0 }, { name := "$VALUES", type := (.array (.object "com/example/legacy_to_latest/legacytolatest/EntityClass$Morphia")), accessFlags := 4122, slot := 2, constantValue := 0 }]
  methods := #[k32m0]
  instanceTypes := #[(.object "java/lang/String"), .int, .int, (.object "java/lang/String")]
  staticTypes := #[(.object "com/example/legacy_to_latest/legacytolatest/EntityClass$Morphia"), (.object "com/example/legacy_to_latest/legacytolatest/EntityClass$Morphia"), (.array (.object "com/example/legacy_to_latest/legacytolatest/EntityClass$Morphia"))]
  resolved := Array.replicate 64 none
  statics := some 4 }

def pool33 : Array CpInfo := pool [(6, .class_ 8), (1, u "java/lang/Object"), (0, u "<init>"), (0, u "()V"), (1, .class_ 14), (1, u "java/lang/StringUTF16"), (31, u "$assertionsDisabled"), (0, u "Z"), (13, u "HI_BYTE_SHIFT"), (0, u "I"), (2, u "LO_BYTE_SHIFT"), (49, .methodref 12 116), (0, .nameAndType 117 118), (0, u "compress"), (0, u "([CI[BII)I"), (3, u "([CII)[B"), (138, u "coderFromArrayLen"), (0, u "([BI)B"), (106, .class_ 371), (1, u "java/lang/StringUTF16$LinesSpliterator"), (58, u "MAX_LENGTH"), (196, .class_ 628), (0, u "java/lang/StringUTF16$CodePointsSpliterator"), (0, .class_ 630), (0, u "java/lang/StringUTF16$CharsSpliterator")] 4

def k33m0 : Method := { name := "<init>", desc := "()V", sig := { parameters := [], returnType := none }, accessFlags := 0, code := none }
def k33c1 : Code := { maxStack := 2, maxLocals := 2, code := jdk_52_method_15_code, exceptionTable := #[], attributes := #[] }
def k33m1 : Method := { name := "coderFromArrayLen", desc := "([BI)B", sig := { parameters := [(.array .byte), .int], returnType := some .byte }, accessFlags := 8, code := some k33c1 }
def k33c2 : Code := { maxStack := 5, maxLocals := 6, code := jdk_52_method_16_code, exceptionTable := #[], attributes := #[] }
def k33m2 : Method := { name := "compress", desc := "([CII)[B", sig := { parameters := [(.array .char), .int, .int], returnType := some (.array .byte) }, accessFlags := 9, code := some k33c2 }
def k33c3 : Code := { maxStack := 3, maxLocals := 7, code := jdk_52_method_21_code, exceptionTable := #[], attributes := #[] }
def k33m3 : Method := { name := "compress", desc := "([CI[BII)I", sig := { parameters := [(.array .char), .int, (.array .byte), .int, .int], returnType := some .int }, accessFlags := 9, code := some k33c3 }
/-- java/lang/StringUTF16 -/
def k33 : Class := { plain "java/lang/StringUTF16" (some 0) with
  accessFlags := 48
  interfaces := #[]
  cf := some (fileOf pool33 12 #[.nestMembers #[627, 629, 369]] #[{ accessFlags := 0, nameIndex := 9, descriptorIndex := 10, attributes := #[] }, { accessFlags := 8, nameIndex := 261, descriptorIndex := 262, attributes := #[] }, { accessFlags := 9, nameIndex := 117, descriptorIndex := 122, attributes := #[] }, { accessFlags := 9, nameIndex := 117, descriptorIndex := 118, attributes := #[] }] 48 6 #[] #[{ accessFlags := 26, nameIndex := 61, descriptorIndex := 62, attributes := #[] }, { accessFlags := 26, nameIndex := 65, descriptorIndex := 62, attributes := #[] }, { accessFlags := 24, nameIndex := 430, descriptorIndex := 62, attributes := #[] }, { accessFlags := 4120, nameIndex := 46, descriptorIndex := 47, attributes := #[] }])
  fields := #[{ name := "HI_BYTE_SHIFT", type := .int, accessFlags := 26, slot := 0, constantValue := 0 }, { name := "LO_BYTE_SHIFT", type := .int, accessFlags := 26, slot := 1, constantValue := 0 }, { name := "MAX_LENGTH", type := .int, accessFlags := 24, slot := 2, constantValue := 0 }, { name := "$assertionsDisabled", type := .boolean, accessFlags := 4120, slot := 3, constantValue := 0 }]
  methods := #[k33m0, k33m1, k33m2, k33m3]
  instanceTypes := #[]
  staticTypes := #[.int, .int, .int, .boolean]
  resolved := Array.replicate 635 none
  statics := none }

def pool34 : Array CpInfo := pool [(2, .class_ 4), (1, u "java/lang/Object"), (0, u "<init>"), (0, u "()V"), (17, .class_ 26), (1, u "jdk/internal/util/Preconditions"), (28, .class_ 56), (0, u "jdk/internal/util/Preconditions$4"), (57, .class_ 115), (0, u "jdk/internal/util/Preconditions$1"), (7, u "SIOOBE_FORMATTER"), (0, u "Ljava/util/function/BiFunction;"), (0, .class_ 126), (0, u "jdk/internal/util/Preconditions$2"), (3, u "AIOOBE_FORMATTER"), (0, .class_ 132), (0, u "jdk/internal/util/Preconditions$3"), (3, u "IOOBE_FORMATTER")] 57

def k34m0 : Method := { name := "<init>", desc := "()V", sig := { parameters := [], returnType := none }, accessFlags := 1, code := none }
/-- jdk/internal/util/Preconditions -/
def k34 : Class := { plain "jdk/internal/util/Preconditions" (some 0) with
  accessFlags := 33
  interfaces := #[]
  cf := some (fileOf pool34 24 #[.nestMembers #[55, 131, 125, 114]] #[{ accessFlags := 1, nameIndex := 5, descriptorIndex := 6, attributes := #[] }] 33 2 #[] #[{ accessFlags := 25, nameIndex := 123, descriptorIndex := 124, attributes := #[] }, { accessFlags := 25, nameIndex := 130, descriptorIndex := 124, attributes := #[] }, { accessFlags := 25, nameIndex := 136, descriptorIndex := 124, attributes := #[] }])
  fields := #[{ name := "SIOOBE_FORMATTER", type := (.object "java/util/function/BiFunction"), accessFlags := 25, slot := 0, constantValue := 0 }, { name := "AIOOBE_FORMATTER", type := (.object "java/util/function/BiFunction"), accessFlags := 25, slot := 1, constantValue := 0 }, { name := "IOOBE_FORMATTER", type := (.object "java/util/function/BiFunction"), accessFlags := 25, slot := 2, constantValue := 0 }]
  methods := #[k34m0]
  instanceTypes := #[]
  staticTypes := #[(.object "java/util/function/BiFunction"), (.object "java/util/function/BiFunction"), (.object "java/util/function/BiFunction")]
  resolved := Array.replicate 194 none
  statics := some 5 }

def pool35 : Array CpInfo := pool [(9, u "<init>"), (6, .class_ 18), (1, u "java/lang/Object"), (0, u "()V"), (1, .class_ 23), (1, u "jdk/internal/util/ArraysSupport"), (0, u "LOG2_ARRAY_LONG_INDEX_SCALE"), (0, u "I"), (2, u "U"), (0, u "Ljdk/internal/misc/Unsafe;"), (8, u "BIG_ENDIAN"), (0, u "Z"), (8, u "LOG2_BYTE_BIT_SIZE"), (4, u "LOG2_ARRAY_INT_INDEX_SCALE"), (54, u "JLA"), (0, u "Ljdk/internal/access/JavaLangAccess;"), (11, u "LOG2_ARRAY_BOOLEAN_INDEX_SCALE"), (9, u "LOG2_ARRAY_BYTE_INDEX_SCALE"), (5, u "LOG2_ARRAY_CHAR_INDEX_SCALE"), (5, u "LOG2_ARRAY_SHORT_INDEX_SCALE"), (18, u "LOG2_ARRAY_FLOAT_INDEX_SCALE"), (24, u "LOG2_ARRAY_DOUBLE_INDEX_SCALE"), (89, u "T_BOOLEAN"), (2, u "T_CHAR"), (1, u "T_FLOAT"), (1, u "T_DOUBLE"), (1, u "T_BYTE"), (1, u "T_SHORT"), (1, u "T_INT"), (1, u "T_LONG"), (1, u "SOFT_MAX_ARRAY_LENGTH")] 83

def k35m0 : Method := { name := "<init>", desc := "()V", sig := { parameters := [], returnType := none }, accessFlags := 2, code := none }
/-- jdk/internal/util/ArraysSupport -/
def k35 : Class := { plain "jdk/internal/util/ArraysSupport" (some 0) with
  accessFlags := 33
  interfaces := #[]
  cf := some (fileOf pool35 21 #[] #[{ accessFlags := 2, nameIndex := 9, descriptorIndex := 19, attributes := #[] }] 33 16 #[] #[{ accessFlags := 24, nameIndex := 28, descriptorIndex := 29, attributes := #[] }, { accessFlags := 26, nameIndex := 38, descriptorIndex := 39, attributes := #[] }, { accessFlags := 25, nameIndex := 121, descriptorIndex := 25, attributes := #[] }, { accessFlags := 25, nameIndex := 131, descriptorIndex := 25, attributes := #[] }, { accessFlags := 25, nameIndex := 137, descriptorIndex := 25, attributes := #[] }, { accessFlags := 25, nameIndex := 143, descriptorIndex := 25, attributes := #[] }, { accessFlags := 25, nameIndex := 53, descriptorIndex := 25, attributes := #[] }, { accessFlags := 25, nameIndex := 24, descriptorIndex := 25, attributes := #[] }, { accessFlags := 25, nameIndex := 162, descriptorIndex := 25, attributes := #[] }, { accessFlags := 25, nameIndex := 187, descriptorIndex := 25, attributes := #[] }, { accessFlags := 26, nameIndex := 48, descriptorIndex := 25, attributes := #[] }, { accessFlags := 25, nameIndex := 277, descriptorIndex := 25, attributes := #[] }, { accessFlags := 25, nameIndex := 280, descriptorIndex := 25, attributes := #[] }, { accessFlags := 25, nameIndex := 282, descriptorIndex := 25, attributes := #[] }, { accessFlags := 25, nameIndex := 284, descriptorIndex := 25, attributes := #[] }, { accessFlags := 25, nameIndex := 286, descriptorIndex := 25, attributes := #[] }, { accessFlags := 25, nameIndex := 288, descriptorIndex := 25, attributes := #[] }, { accessFlags := 25, nameIndex := 290, descriptorIndex := 25, attributes := #[] }, { accessFlags := 25, nameIndex := 292, descriptorIndex := 25, attributes := #[] }, { accessFlags := 26, nameIndex := 108, descriptorIndex := 109, attributes := #[] }, { accessFlags := 25, nameIndex := 294, descriptorIndex := 25, attributes := #[] }])
  fields := #[{ name := "U", type := (.object "jdk/internal/misc/Unsafe"), accessFlags := 24, slot := 0, constantValue := 0 }, { name := "BIG_ENDIAN", type := .boolean, accessFlags := 26, slot := 1, constantValue := 0 }, { name := "LOG2_ARRAY_BOOLEAN_INDEX_SCALE", type := .int, accessFlags := 25, slot := 2, constantValue := 0 }, { name := "LOG2_ARRAY_BYTE_INDEX_SCALE", type := .int, accessFlags := 25, slot := 3, constantValue := 0 }, { name := "LOG2_ARRAY_CHAR_INDEX_SCALE", type := .int, accessFlags := 25, slot := 4, constantValue := 0 }, { name := "LOG2_ARRAY_SHORT_INDEX_SCALE", type := .int, accessFlags := 25, slot := 5, constantValue := 0 }, { name := "LOG2_ARRAY_INT_INDEX_SCALE", type := .int, accessFlags := 25, slot := 6, constantValue := 0 }, { name := "LOG2_ARRAY_LONG_INDEX_SCALE", type := .int, accessFlags := 25, slot := 7, constantValue := 0 }, { name := "LOG2_ARRAY_FLOAT_INDEX_SCALE", type := .int, accessFlags := 25, slot := 8, constantValue := 0 }, { name := "LOG2_ARRAY_DOUBLE_INDEX_SCALE", type := .int, accessFlags := 25, slot := 9, constantValue := 0 }, { name := "LOG2_BYTE_BIT_SIZE", type := .int, accessFlags := 26, slot := 10, constantValue := 0 }, { name := "T_BOOLEAN", type := .int, accessFlags := 25, slot := 11, constantValue := 0 }, { name := "T_CHAR", type := .int, accessFlags := 25, slot := 12, constantValue := 0 }, { name := "T_FLOAT", type := .int, accessFlags := 25, slot := 13, constantValue := 0 }, { name := "T_DOUBLE", type := .int, accessFlags := 25, slot := 14, constantValue := 0 }, { name := "T_BYTE", type := .int, accessFlags := 25, slot := 15, constantValue := 0 }, { name := "T_SHORT", type := .int, accessFlags := 25, slot := 16, constantValue := 0 }, { name := "T_INT", type := .int, accessFlags := 25, slot := 17, constantValue := 0 }, { name := "T_LONG", type := .int, accessFlags := 25, slot := 18, constantValue := 0 }, { name := "JLA", type := (.object "jdk/internal/access/JavaLangAccess"), accessFlags := 26, slot := 19, constantValue := 0 }, { name := "SOFT_MAX_ARRAY_LENGTH", type := .int, accessFlags := 25, slot := 20, constantValue := 0 }]
  methods := #[k35m0]
  instanceTypes := #[]
  staticTypes := #[(.object "jdk/internal/misc/Unsafe"), .boolean, .int, .int, .int, .int, .int, .int, .int, .int, .int, .int, .int, .int, .int, .int, .int, .int, .int, (.object "jdk/internal/access/JavaLangAccess"), .int]
  resolved := Array.replicate 378 none
  statics := none }

/-- the primitive byte -/
def k36 : Class := { plain "byte" none with kind := .primitive 'B', accessFlags := 0x411 }
/-- [B -/
def k37 : Class := { plain "[B" (some 0) with kind := .array 36 .byte, interfaces := #[20, 2], accessFlags := 1041 }

/-- the primitive char -/
def k38 : Class := { plain "char" none with kind := .primitive 'C', accessFlags := 0x411 }
/-- [C -/
def k39 : Class := { plain "[C" (some 0) with kind := .array 38 .char, interfaces := #[20, 2], accessFlags := 1041 }

/-- the primitive int -/
def k40 : Class := { plain "int" none with kind := .primitive 'I', accessFlags := 0x411 }
/-- [I -/
def k41 : Class := { plain "[I" (some 0) with kind := .array 40 .int, interfaces := #[20, 2], accessFlags := 1041 }

/-- [Ljava/lang/Object; -/
def k42 : Class := { plain "[Ljava/lang/Object;" (some 0) with kind := .array 0 (.object "java/lang/Object"), interfaces := #[20, 2], accessFlags := 1041 }

def heap : Heap := #[{ cls := 7, slots := #[.long 0, .int 1, .null, .int 0, .null, .int 0, .int 0], vm := .statics 7 },
  { cls := 9, slots := #[.ref 14], vm := .statics 9 },
  { cls := 11, slots := #[.long 0, .int 0, .null, .null, .null, .null, .null, .ref 13, .int 0, .int 0], vm := .statics 11 },
  { cls := 21, slots := #[.long 0, .int 0, .ref 15, .ref 16], vm := .statics 21 },
  { cls := 32, slots := #[.ref 7, .ref 8, .null], vm := .statics 32 },
  { cls := 34, slots := #[.null, .null, .null], vm := .statics 34 },
  { cls := 42, slots := #[], vm := .none },
  { cls := 32, slots := #[.null, .int 0, .int 0, .ref 9], vm := .none },
  { cls := 32, slots := #[.null, .int 1, .int 0, .ref 10], vm := .none },
  { cls := 7, slots := #[.ref 11, .int 0, .int 0, .int 0], vm := .none },
  { cls := 7, slots := #[.ref 12, .int 0, .int 0, .int 0], vm := .none },
  { cls := 37, slots := #[.int 99, .int 108, .int 97, .int 115, .int 115, .int 78, .int 97, .int 109, .int 101], vm := .none },
  { cls := 37, slots := #[.int 95, .int 116], vm := .none },
  { cls := 30, slots := #[.null, .null, .ref 6, .int 0], vm := .none },
  { cls := 9, slots := #[.null], vm := .none },
  { cls := 42, slots := #[], vm := .none },
  { cls := 42, slots := #[], vm := .none }]
def classes : Array Class := #[k0, k1, k2, k3, k4, k5, k6, k7, k8, k9, k10, k11, k12, k13, k14, k15, k16, k17, k18, k19, k20, k21, k22, k23, k24, k25, k26, k27, k28, k29, k30, k31, k32, k33, k34, k35, k36, k37, k38, k39, k40, k41, k42]
def interned : List (Array UInt16 × Addr) := []
def slotsUsed : Nat := 60
def theMethod : MethodId := ⟨1, 1⟩
def args0 : Array Value := #[.int 5, .int 70000, .int 7]
def aboutOver (below : List Frame) : State where
  vm := { classes := classes, interned := interned.toArray }
  heap := heap
  slotsUsed := slotsUsed
  threads := #[{ frames := .invoking theMethod args0 :: below }]
def below0 : List Frame := [.native { method := ⟨0, 0⟩, args := #[] }]
def about1 : State := aboutOver below0
def p0 : Program := .bare "" "" ""
def e0 : Env := launch0.env 0 0 0
theorem w_frames : about1.frames = Frame.invoking theMethod args0 :: below0 := rfl
set_option maxRecDepth 65536 in
theorem w_args : argsFit about1.vm theMethod args0 = true := by decide +kernel
set_option maxRecDepth 65536 in
theorem w_heap : heapFits about1 = true := by decide +kernel
set_option maxRecDepth 65536 in
theorem w_runnable : about1.curStatus? = some .runnable := by decide +kernel
set_option maxRecDepth 65536 in
theorem w_alone : about1.alone = true := by decide +kernel
set_option maxRecDepth 65536 in
theorem w_named : about1.methodNamed? x = some theMethod := by decide +kernel
set_option maxRecDepth 65536 in
theorem w_hears : about1.hears theMethod below0 = true := by decide +kernel
set_option maxRecDepth 65536 in
theorem w_ripe : about1.ripe theMethod args0 below0 = true := by decide +kernel
theorem w_running : about1.status = .running := rfl
set_option maxRecDepth 65536 in
theorem w_room : about1.hasRoom e0.platform room_1 = true :=
  launch0.hasRoom_least _ room_1 (by decide +kernel) (by decide +kernel) (by decide +kernel) (by decide +kernel) (by decide +kernel) (by decide +kernel)
theorem allAtoms_all (ts : List Jvm.Cond) (a : Array Jvm.Value) (st : Jvm.State) : (allAtoms ts).before a st = ts.all (fun c => c.before a st) := by
  induction ts with
  | nil => rfl
  | cons c t ih =>
    show (Jvm.Cond.and c (allAtoms t)).before a st = _
    rw [Jvm.Cond.before_and, ih, List.all_cons]
def words1 : List Jvm.Cond := Jvm.Cond.code x code maxLocals ret :: tables_1
/-- a 'code' word, met by the world's own term for the bytes: nothing is compared byte by byte -/
theorem code_word {y : MethodName} {bytes : ByteArray} {mx : Nat} {rt : Option FieldType} {a : Array Value} {s : State} {m : MethodId} {meth : Method} {c : Code} (h1 : s.methodNamed? y = some m) (h2 : s.vm.method? m = some meth) (h3 : meth.code = some c) (h4 : c.code = bytes)
    (h5 : (c.maxLocals == mx && c.exceptionTable.isEmpty && decide (c.maxStack ≤ mostOperands) && decide (meth.sig.returnType = rt) && !meth.locks && decide (parseMethodDescriptor y.desc = some meth.sig)) = true) : (Jvm.Cond.code y bytes mx rt).before a s = true := by
  simp only [Bool.and_eq_true, beq_iff_eq, Bool.not_eq_true', decide_eq_true_eq] at h5
  obtain ⟨⟨⟨⟨⟨g1, g2⟩, g3⟩, g4⟩, g5⟩, g6⟩ := h5
  simp [Cond.before, Cond.holds, Cond.value, h1, h2, h3, h4, g1, g2, g3, g4, g5, g6]
def isCode : Jvm.Cond → Bool
  | .code _ _ _ _ => true
  | _ => false
theorem all_split {L : List Jvm.Cond} {P : Jvm.Cond → Bool} (h1 : L.all (fun c => isCode c || P c) = true) (h2 : ∀ c ∈ L.filter isCode, P c = true) : L.all P = true := by
  refine List.all_eq_true.mpr fun c hc => ?_
  have h := List.all_eq_true.mp h1 c hc
  rcases Bool.eq_false_or_eq_true (isCode c) with hi | hi
  · exact h2 c (List.mem_filter.mpr ⟨hc, hi⟩)
  · simpa [hi] using h
set_option maxRecDepth 65536 in
theorem w_c0 : (Jvm.Cond.code x code maxLocals ret).before args0 about1 = true := code_word (m := ⟨1, 1⟩) (meth := k1m1) (c := k1c1) (by decide +kernel) rfl rfl rfl (by decide +kernel)
set_option maxRecDepth 65536 in
theorem w_c1 : (Jvm.Cond.code ({ cls := "java/lang/String", name := "valueOf", desc := "(C)Ljava/lang/String;" } : Jvm.MethodName) jdk_42_method_139_code (1 : Nat) (Option.some (Jvm.ClassFile.FieldType.object "java/lang/String"))).before args0 about1 = true := code_word (m := ⟨7, 3⟩) (meth := k7m3) (c := k7c3) (by decide +kernel) rfl rfl rfl (by decide +kernel)
set_option maxRecDepth 65536 in
theorem w_c2 : (Jvm.Cond.code ({ cls := "java/lang/StringLatin1", name := "canEncode", desc := "(C)Z" } : Jvm.MethodName) jdk_43_method_3_code (1 : Nat) (Option.some Jvm.ClassFile.FieldType.boolean)).before args0 about1 = true := code_word (m := ⟨8, 1⟩) (meth := k8m1) (c := k8c1) (by decide +kernel) rfl rfl rfl (by decide +kernel)
set_option maxRecDepth 65536 in
theorem w_c3 : (Jvm.Cond.code ({ cls := "java/lang/StringLatin1", name := "toBytes", desc := "(C)[B" } : Jvm.MethodName) jdk_43_method_46_code (1 : Nat) (Option.some (Jvm.ClassFile.FieldType.array Jvm.ClassFile.FieldType.byte))).before args0 about1 = true := code_word (m := ⟨8, 3⟩) (meth := k8m3) (c := k8c3) (by decide +kernel) rfl rfl rfl (by decide +kernel)
set_option maxRecDepth 65536 in
theorem w_c4 : (Jvm.Cond.code ({ cls := "java/lang/String", name := "<init>", desc := "([BB)V" } : Jvm.MethodName) jdk_42_method_151_code (3 : Nat) (Option.none : Option Jvm.ClassFile.FieldType)).before args0 about1 = true := code_word (m := ⟨7, 5⟩) (meth := k7m5) (c := k7c5) (by decide +kernel) rfl rfl rfl (by decide +kernel)
set_option maxRecDepth 65536 in
theorem w_c5 : (Jvm.Cond.code ({ cls := "java/lang/Object", name := "<init>", desc := "()V" } : Jvm.MethodName) object_method_1_code (1 : Nat) (Option.none : Option Jvm.ClassFile.FieldType)).before args0 about1 = true := code_word (m := ⟨0, 0⟩) (meth := k0m0) (c := k0c0) (by decide +kernel) rfl rfl rfl (by decide +kernel)
set_option maxRecDepth 65536 in
theorem w_c6 : (Jvm.Cond.code ({ cls := "java/util/Optional", name := "empty", desc := "()Ljava/util/Optional;" } : Jvm.MethodName) jdk_32_method_1_code (1 : Nat) (Option.some (Jvm.ClassFile.FieldType.object "java/util/Optional"))).before args0 about1 = true := code_word (m := ⟨9, 0⟩) (meth := k9m0) (c := k9c0) (by decide +kernel) rfl rfl rfl (by decide +kernel)
set_option maxRecDepth 65536 in
theorem w_c7 : (Jvm.Cond.code ({ cls := "java/util/Map", name := "of", desc := "()Ljava/util/Map;" } : Jvm.MethodName) jdk_72_method_26_code (0 : Nat) (Option.some (Jvm.ClassFile.FieldType.object "java/util/Map"))).before args0 about1 = true := code_word (m := ⟨10, 0⟩) (meth := k10m0) (c := k10c0) (by decide +kernel) rfl rfl rfl (by decide +kernel)
set_option maxRecDepth 65536 in
theorem w_c8 : (Jvm.Cond.code ({ cls := "java/util/ArrayList", name := "<init>", desc := "()V" } : Jvm.MethodName) jdk_38_method_2_code (1 : Nat) (Option.none : Option Jvm.ClassFile.FieldType)).before args0 about1 = true := code_word (m := ⟨21, 0⟩) (meth := k21m0) (c := k21c0) (by decide +kernel) rfl rfl rfl (by decide +kernel)
set_option maxRecDepth 65536 in
theorem w_c9 : (Jvm.Cond.code ({ cls := "java/util/AbstractList", name := "<init>", desc := "()V" } : Jvm.MethodName) jdk_39_method_1_code (1 : Nat) (Option.none : Option Jvm.ClassFile.FieldType)).before args0 about1 = true := code_word (m := ⟨18, 0⟩) (meth := k18m0) (c := k18c0) (by decide +kernel) rfl rfl rfl (by decide +kernel)
set_option maxRecDepth 65536 in
theorem w_c10 : (Jvm.Cond.code ({ cls := "java/util/AbstractCollection", name := "<init>", desc := "()V" } : Jvm.MethodName) jdk_22_method_1_code (1 : Nat) (Option.none : Option Jvm.ClassFile.FieldType)).before args0 about1 = true := code_word (m := ⟨15, 0⟩) (meth := k15m0) (c := k15c0) (by decide +kernel) rfl rfl rfl (by decide +kernel)
set_option maxRecDepth 65536 in
theorem w_c11 : (Jvm.Cond.code ({ cls := "com/example/legacy_to_latest/legacytolatest/EntityClass", name := "<init>", desc := "(Ljava/lang/String;Ljava/util/Optional;Ljava/util/Optional;ZLjava/lang/String;Ljava/lang/String;Ljava/lang/String;Ljava/util/List;Ljava/util/Map;Ljava/util/Optional;)V" } : Jvm.MethodName) prog_6_method_1_code (13 : Nat) (Option.none : Option Jvm.ClassFile.FieldType)).before args0 about1 = true := code_word (m := ⟨12, 0⟩) (meth := k12m0) (c := k12c0) (by decide +kernel) rfl rfl rfl (by decide +kernel)
set_option maxRecDepth 65536 in
theorem w_c12 : (Jvm.Cond.code ({ cls := "java/util/LinkedHashMap", name := "<init>", desc := "()V" } : Jvm.MethodName) jdk_94_method_16_code (1 : Nat) (Option.none : Option Jvm.ClassFile.FieldType)).before args0 about1 = true := code_word (m := ⟨25, 0⟩) (meth := k25m0) (c := k25c0) (by decide +kernel) rfl rfl rfl (by decide +kernel)
set_option maxRecDepth 65536 in
theorem w_c13 : (Jvm.Cond.code ({ cls := "java/util/HashMap", name := "<init>", desc := "()V" } : Jvm.MethodName) jdk_69_method_7_code (1 : Nat) (Option.none : Option Jvm.ClassFile.FieldType)).before args0 about1 = true := code_word (m := ⟨23, 0⟩) (meth := k23m0) (c := k23c0) (by decide +kernel) rfl rfl rfl (by decide +kernel)
set_option maxRecDepth 65536 in
theorem w_c14 : (Jvm.Cond.code ({ cls := "java/util/AbstractMap", name := "<init>", desc := "()V" } : Jvm.MethodName) jdk_71_method_1_code (1 : Nat) (Option.none : Option Jvm.ClassFile.FieldType)).before args0 about1 = true := code_word (m := ⟨22, 0⟩) (meth := k22m0) (c := k22c0) (by decide +kernel) rfl rfl rfl (by decide +kernel)
set_option maxRecDepth 65536 in
theorem w_c15 : (Jvm.Cond.code ({ cls := "java/util/Objects", name := "requireNonNull", desc := "(Ljava/lang/Object;Ljava/lang/String;)Ljava/lang/Object;" } : Jvm.MethodName) jdk_31_method_11_code (2 : Nat) (Option.some (Jvm.ClassFile.FieldType.object "java/lang/Object"))).before args0 about1 = true := code_word (m := ⟨26, 2⟩) (meth := k26m2) (c := k26c2) (by decide +kernel) rfl rfl rfl (by decide +kernel)
set_option maxRecDepth 65536 in
theorem w_c16 : (Jvm.Cond.code ({ cls := "java/util/Optional", name := "orElse", desc := "(Ljava/lang/Object;)Ljava/lang/Object;" } : Jvm.MethodName) jdk_32_method_15_code (2 : Nat) (Option.some (Jvm.ClassFile.FieldType.object "java/lang/Object"))).before args0 about1 = true := code_word (m := ⟨9, 6⟩) (meth := k9m6) (c := k9c6) (by decide +kernel) rfl rfl rfl (by decide +kernel)
set_option maxRecDepth 65536 in
theorem w_c17 : (Jvm.Cond.code ({ cls := "java/util/ArrayList", name := "iterator", desc := "()Ljava/util/Iterator;" } : Jvm.MethodName) jdk_38_method_55_code (1 : Nat) (Option.some (Jvm.ClassFile.FieldType.object "java/util/Iterator"))).before args0 about1 = true := code_word (m := ⟨21, 1⟩) (meth := k21m1) (c := k21c1) (by decide +kernel) rfl rfl rfl (by decide +kernel)
set_option maxRecDepth 65536 in
theorem w_c18 : (Jvm.Cond.code ({ cls := "java/util/ArrayList$Itr", name := "<init>", desc := "(Ljava/util/ArrayList;)V" } : Jvm.MethodName) jdk_49_method_1_code (2 : Nat) (Option.none : Option Jvm.ClassFile.FieldType)).before args0 about1 = true := code_word (m := ⟨28, 0⟩) (meth := k28m0) (c := k28c0) (by decide +kernel) rfl rfl rfl (by decide +kernel)
set_option maxRecDepth 65536 in
theorem w_c19 : (Jvm.Cond.code ({ cls := "java/util/ArrayList$Itr", name := "hasNext", desc := "()Z" } : Jvm.MethodName) jdk_49_method_2_code (1 : Nat) (Option.some Jvm.ClassFile.FieldType.boolean)).before args0 about1 = true := code_word (m := ⟨28, 1⟩) (meth := k28m1) (c := k28c1) (by decide +kernel) rfl rfl rfl (by decide +kernel)
set_option maxRecDepth 65536 in
theorem w_c20 : (Jvm.Cond.code ({ cls := "java/util/Map", name := "copyOf", desc := "(Ljava/util/Map;)Ljava/util/Map;" } : Jvm.MethodName) jdk_72_method_39_code (1 : Nat) (Option.some (Jvm.ClassFile.FieldType.object "java/util/Map"))).before args0 about1 = true := code_word (m := ⟨10, 1⟩) (meth := k10m1) (c := k10c1) (by decide +kernel) rfl rfl rfl (by decide +kernel)
set_option maxRecDepth 65536 in
theorem w_c21 : (Jvm.Cond.code ({ cls := "com/example/legacy_to_latest/legacytolatest/EntityClass", name := "getDiscriminatorKey", desc := "()Ljava/util/Optional;" } : Jvm.MethodName) prog_6_method_7_code (2 : Nat) (Option.some (Jvm.ClassFile.FieldType.object "java/util/Optional"))).before args0 about1 = true := code_word (m := ⟨12, 1⟩) (meth := k12m1) (c := k12c1) (by decide +kernel) rfl rfl rfl (by decide +kernel)
set_option maxRecDepth 65536 in
theorem w_c22 : (Jvm.Cond.code ({ cls := "java/util/Optional", name := "isEmpty", desc := "()Z" } : Jvm.MethodName) jdk_32_method_7_code (1 : Nat) (Option.some Jvm.ClassFile.FieldType.boolean)).before args0 about1 = true := code_word (m := ⟨9, 5⟩) (meth := k9m5) (c := k9c5) (by decide +kernel) rfl rfl rfl (by decide +kernel)
set_option maxRecDepth 65536 in
theorem w_c23 : (Jvm.Cond.code ({ cls := "java/util/Optional", name := "of", desc := "(Ljava/lang/Object;)Ljava/util/Optional;" } : Jvm.MethodName) jdk_32_method_3_code (1 : Nat) (Option.some (Jvm.ClassFile.FieldType.object "java/util/Optional"))).before args0 about1 = true := code_word (m := ⟨9, 2⟩) (meth := k9m2) (c := k9c2) (by decide +kernel) rfl rfl rfl (by decide +kernel)
set_option maxRecDepth 65536 in
theorem w_c24 : (Jvm.Cond.code ({ cls := "java/util/Objects", name := "requireNonNull", desc := "(Ljava/lang/Object;)Ljava/lang/Object;" } : Jvm.MethodName) jdk_31_method_10_code (1 : Nat) (Option.some (Jvm.ClassFile.FieldType.object "java/lang/Object"))).before args0 about1 = true := code_word (m := ⟨26, 1⟩) (meth := k26m1) (c := k26c1) (by decide +kernel) rfl rfl rfl (by decide +kernel)
set_option maxRecDepth 65536 in
theorem w_c25 : (Jvm.Cond.code ({ cls := "java/util/Optional", name := "<init>", desc := "(Ljava/lang/Object;)V" } : Jvm.MethodName) jdk_32_method_2_code (2 : Nat) (Option.none : Option Jvm.ClassFile.FieldType)).before args0 about1 = true := code_word (m := ⟨9, 1⟩) (meth := k9m1) (c := k9c1) (by decide +kernel) rfl rfl rfl (by decide +kernel)
set_option maxRecDepth 65536 in
theorem w_c26 : (Jvm.Cond.code ({ cls := "java/lang/String", name := "<init>", desc := "([C)V" } : Jvm.MethodName) jdk_42_method_3_code (2 : Nat) (Option.none : Option Jvm.ClassFile.FieldType)).before args0 about1 = true := code_word (m := ⟨7, 1⟩) (meth := k7m1) (c := k7c1) (by decide +kernel) rfl rfl rfl (by decide +kernel)
set_option maxRecDepth 65536 in
theorem w_c27 : (Jvm.Cond.code ({ cls := "java/lang/String", name := "<init>", desc := "([CIILjava/lang/Void;)V" } : Jvm.MethodName) jdk_42_method_149_code (6 : Nat) (Option.none : Option Jvm.ClassFile.FieldType)).before args0 about1 = true := code_word (m := ⟨7, 4⟩) (meth := k7m4) (c := k7c4) (by decide +kernel) rfl rfl rfl (by decide +kernel)
set_option maxRecDepth 65536 in
theorem w_c28 : (Jvm.Cond.code ({ cls := "java/lang/StringUTF16", name := "compress", desc := "([CII)[B" } : Jvm.MethodName) jdk_52_method_16_code (6 : Nat) (Option.some (Jvm.ClassFile.FieldType.array Jvm.ClassFile.FieldType.byte))).before args0 about1 = true := code_word (m := ⟨33, 2⟩) (meth := k33m2) (c := k33c2) (by decide +kernel) rfl rfl rfl (by decide +kernel)
set_option maxRecDepth 65536 in
theorem w_c29 : (Jvm.Cond.code ({ cls := "java/lang/StringUTF16", name := "compress", desc := "([CI[BII)I" } : Jvm.MethodName) jdk_52_method_21_code (7 : Nat) (Option.some Jvm.ClassFile.FieldType.int)).before args0 about1 = true := code_word (m := ⟨33, 3⟩) (meth := k33m3) (c := k33c3) (by decide +kernel) rfl rfl rfl (by decide +kernel)
set_option maxRecDepth 65536 in
theorem w_c30 : (Jvm.Cond.code ({ cls := "java/lang/StringUTF16", name := "coderFromArrayLen", desc := "([BI)B" } : Jvm.MethodName) jdk_52_method_15_code (2 : Nat) (Option.some Jvm.ClassFile.FieldType.byte)).before args0 about1 = true := code_word (m := ⟨33, 1⟩) (meth := k33m1) (c := k33c1) (by decide +kernel) rfl rfl rfl (by decide +kernel)
set_option maxRecDepth 65536 in
theorem w_c31 : (Jvm.Cond.code ({ cls := "com/example/legacy_to_latest/legacytolatest/EntityClass$Morphia", name := "discriminatorKey", desc := "()Ljava/lang/String;" } : Jvm.MethodName) prog_7_method_4_code (1 : Nat) (Option.some (Jvm.ClassFile.FieldType.object "java/lang/String"))).before args0 about1 = true := code_word (m := ⟨32, 0⟩) (meth := k32m0) (c := k32c0) (by decide +kernel) rfl rfl rfl (by decide +kernel)
set_option maxRecDepth 65536 in
theorem w_c32 : (Jvm.Cond.code ({ cls := "java/util/Optional", name := "isPresent", desc := "()Z" } : Jvm.MethodName) jdk_32_method_6_code (1 : Nat) (Option.some Jvm.ClassFile.FieldType.boolean)).before args0 about1 = true := code_word (m := ⟨9, 4⟩) (meth := k9m4) (c := k9c4) (by decide +kernel) rfl rfl rfl (by decide +kernel)
set_option maxRecDepth 65536 in
theorem w_c33 : (Jvm.Cond.code ({ cls := "java/util/Optional", name := "get", desc := "()Ljava/lang/Object;" } : Jvm.MethodName) jdk_32_method_5_code (1 : Nat) (Option.some (Jvm.ClassFile.FieldType.object "java/lang/Object"))).before args0 about1 = true := code_word (m := ⟨9, 3⟩) (meth := k9m3) (c := k9c3) (by decide +kernel) rfl rfl rfl (by decide +kernel)
set_option maxRecDepth 65536 in
theorem w_c34 : (Jvm.Cond.code ({ cls := "java/lang/String", name := "equals", desc := "(Ljava/lang/Object;)Z" } : Jvm.MethodName) jdk_42_method_66_code (3 : Nat) (Option.some Jvm.ClassFile.FieldType.boolean)).before args0 about1 = true := code_word (m := ⟨7, 2⟩) (meth := k7m2) (c := k7c2) (by decide +kernel) rfl rfl rfl (by decide +kernel)
set_option maxRecDepth 65536 in
theorem w_c35 : (Jvm.Cond.code ({ cls := "java/lang/StringLatin1", name := "equals", desc := "([B[B)Z" } : Jvm.MethodName) jdk_43_method_13_code (3 : Nat) (Option.some Jvm.ClassFile.FieldType.boolean)).before args0 about1 = true := code_word (m := ⟨8, 2⟩) (meth := k8m2) (c := k8c2) (by decide +kernel) rfl rfl rfl (by decide +kernel)
def codes1 : List Jvm.Cond := [Jvm.Cond.code x code maxLocals ret, Jvm.Cond.code ({ cls := "java/lang/String", name := "valueOf", desc := "(C)Ljava/lang/String;" } : Jvm.MethodName) jdk_42_method_139_code (1 : Nat) (Option.some (Jvm.ClassFile.FieldType.object "java/lang/String")), Jvm.Cond.code ({ cls := "java/lang/StringLatin1", name := "canEncode", desc := "(C)Z" } : Jvm.MethodName) jdk_43_method_3_code (1 : Nat) (Option.some Jvm.ClassFile.FieldType.boolean), Jvm.Cond.code ({ cls := "java/lang/StringLatin1", name := "toBytes", desc := "(C)[B" } : Jvm.MethodName) jdk_43_method_46_code (1 : Nat) (Option.some (Jvm.ClassFile.FieldType.array Jvm.ClassFile.FieldType.byte)), Jvm.Cond.code ({ cls := "java/lang/String", name := "<init>", desc := "([BB)V" } : Jvm.MethodName) jdk_42_method_151_code (3 : Nat) (Option.none : Option Jvm.ClassFile.FieldType), Jvm.Cond.code ({ cls := "java/lang/Object", name := "<init>", desc := "()V" } : Jvm.MethodName) object_method_1_code (1 : Nat) (Option.none : Option Jvm.ClassFile.FieldType), Jvm.Cond.code ({ cls := "java/util/Optional", name := "empty", desc := "()Ljava/util/Optional;" } : Jvm.MethodName) jdk_32_method_1_code (1 : Nat) (Option.some (Jvm.ClassFile.FieldType.object "java/util/Optional")), Jvm.Cond.code ({ cls := "java/util/Map", name := "of", desc := "()Ljava/util/Map;" } : Jvm.MethodName) jdk_72_method_26_code (0 : Nat) (Option.some (Jvm.ClassFile.FieldType.object "java/util/Map")), Jvm.Cond.code ({ cls := "java/util/ArrayList", name := "<init>", desc := "()V" } : Jvm.MethodName) jdk_38_method_2_code (1 : Nat) (Option.none : Option Jvm.ClassFile.FieldType), Jvm.Cond.code ({ cls := "java/util/AbstractList", name := "<init>", desc := "()V" } : Jvm.MethodName) jdk_39_method_1_code (1 : Nat) (Option.none : Option Jvm.ClassFile.FieldType), Jvm.Cond.code ({ cls := "java/util/AbstractCollection", name := "<init>", desc := "()V" } : Jvm.MethodName) jdk_22_method_1_code (1 : Nat) (Option.none : Option Jvm.ClassFile.FieldType), Jvm.Cond.code ({ cls := "com/example/legacy_to_latest/legacytolatest/EntityClass", name := "<init>", desc := "(Ljava/lang/String;Ljava/util/Optional;Ljava/util/Optional;ZLjava/lang/String;Ljava/lang/String;Ljava/lang/String;Ljava/util/List;Ljava/util/Map;Ljava/util/Optional;)V" } : Jvm.MethodName) prog_6_method_1_code (13 : Nat) (Option.none : Option Jvm.ClassFile.FieldType), Jvm.Cond.code ({ cls := "java/util/LinkedHashMap", name := "<init>", desc := "()V" } : Jvm.MethodName) jdk_94_method_16_code (1 : Nat) (Option.none : Option Jvm.ClassFile.FieldType), Jvm.Cond.code ({ cls := "java/util/HashMap", name := "<init>", desc := "()V" } : Jvm.MethodName) jdk_69_method_7_code (1 : Nat) (Option.none : Option Jvm.ClassFile.FieldType), Jvm.Cond.code ({ cls := "java/util/AbstractMap", name := "<init>", desc := "()V" } : Jvm.MethodName) jdk_71_method_1_code (1 : Nat) (Option.none : Option Jvm.ClassFile.FieldType), Jvm.Cond.code ({ cls := "java/util/Objects", name := "requireNonNull", desc := "(Ljava/lang/Object;Ljava/lang/String;)Ljava/lang/Object;" } : Jvm.MethodName) jdk_31_method_11_code (2 : Nat) (Option.some (Jvm.ClassFile.FieldType.object "java/lang/Object")), Jvm.Cond.code ({ cls := "java/util/Optional", name := "orElse", desc := "(Ljava/lang/Object;)Ljava/lang/Object;" } : Jvm.MethodName) jdk_32_method_15_code (2 : Nat) (Option.some (Jvm.ClassFile.FieldType.object "java/lang/Object")), Jvm.Cond.code ({ cls := "java/util/ArrayList", name := "iterator", desc := "()Ljava/util/Iterator;" } : Jvm.MethodName) jdk_38_method_55_code (1 : Nat) (Option.some (Jvm.ClassFile.FieldType.object "java/util/Iterator")), Jvm.Cond.code ({ cls := "java/util/ArrayList$Itr", name := "<init>", desc := "(Ljava/util/ArrayList;)V" } : Jvm.MethodName) jdk_49_method_1_code (2 : Nat) (Option.none : Option Jvm.ClassFile.FieldType), Jvm.Cond.code ({ cls := "java/util/ArrayList$Itr", name := "hasNext", desc := "()Z" } : Jvm.MethodName) jdk_49_method_2_code (1 : Nat) (Option.some Jvm.ClassFile.FieldType.boolean), Jvm.Cond.code ({ cls := "java/util/Map", name := "copyOf", desc := "(Ljava/util/Map;)Ljava/util/Map;" } : Jvm.MethodName) jdk_72_method_39_code (1 : Nat) (Option.some (Jvm.ClassFile.FieldType.object "java/util/Map")), Jvm.Cond.code ({ cls := "com/example/legacy_to_latest/legacytolatest/EntityClass", name := "getDiscriminatorKey", desc := "()Ljava/util/Optional;" } : Jvm.MethodName) prog_6_method_7_code (2 : Nat) (Option.some (Jvm.ClassFile.FieldType.object "java/util/Optional")), Jvm.Cond.code ({ cls := "java/util/Optional", name := "isEmpty", desc := "()Z" } : Jvm.MethodName) jdk_32_method_7_code (1 : Nat) (Option.some Jvm.ClassFile.FieldType.boolean), Jvm.Cond.code ({ cls := "java/util/Optional", name := "of", desc := "(Ljava/lang/Object;)Ljava/util/Optional;" } : Jvm.MethodName) jdk_32_method_3_code (1 : Nat) (Option.some (Jvm.ClassFile.FieldType.object "java/util/Optional")), Jvm.Cond.code ({ cls := "java/util/Objects", name := "requireNonNull", desc := "(Ljava/lang/Object;)Ljava/lang/Object;" } : Jvm.MethodName) jdk_31_method_10_code (1 : Nat) (Option.some (Jvm.ClassFile.FieldType.object "java/lang/Object")), Jvm.Cond.code ({ cls := "java/util/Optional", name := "<init>", desc := "(Ljava/lang/Object;)V" } : Jvm.MethodName) jdk_32_method_2_code (2 : Nat) (Option.none : Option Jvm.ClassFile.FieldType), Jvm.Cond.code ({ cls := "java/lang/String", name := "<init>", desc := "([C)V" } : Jvm.MethodName) jdk_42_method_3_code (2 : Nat) (Option.none : Option Jvm.ClassFile.FieldType), Jvm.Cond.code ({ cls := "java/lang/String", name := "<init>", desc := "([CIILjava/lang/Void;)V" } : Jvm.MethodName) jdk_42_method_149_code (6 : Nat) (Option.none : Option Jvm.ClassFile.FieldType), Jvm.Cond.code ({ cls := "java/lang/StringUTF16", name := "compress", desc := "([CII)[B" } : Jvm.MethodName) jdk_52_method_16_code (6 : Nat) (Option.some (Jvm.ClassFile.FieldType.array Jvm.ClassFile.FieldType.byte)), Jvm.Cond.code ({ cls := "java/lang/StringUTF16", name := "compress", desc := "([CI[BII)I" } : Jvm.MethodName) jdk_52_method_21_code (7 : Nat) (Option.some Jvm.ClassFile.FieldType.int), Jvm.Cond.code ({ cls := "java/lang/StringUTF16", name := "coderFromArrayLen", desc := "([BI)B" } : Jvm.MethodName) jdk_52_method_15_code (2 : Nat) (Option.some Jvm.ClassFile.FieldType.byte), Jvm.Cond.code ({ cls := "com/example/legacy_to_latest/legacytolatest/EntityClass$Morphia", name := "discriminatorKey", desc := "()Ljava/lang/String;" } : Jvm.MethodName) prog_7_method_4_code (1 : Nat) (Option.some (Jvm.ClassFile.FieldType.object "java/lang/String")), Jvm.Cond.code ({ cls := "java/util/Optional", name := "isPresent", desc := "()Z" } : Jvm.MethodName) jdk_32_method_6_code (1 : Nat) (Option.some Jvm.ClassFile.FieldType.boolean), Jvm.Cond.code ({ cls := "java/util/Optional", name := "get", desc := "()Ljava/lang/Object;" } : Jvm.MethodName) jdk_32_method_5_code (1 : Nat) (Option.some (Jvm.ClassFile.FieldType.object "java/lang/Object")), Jvm.Cond.code ({ cls := "java/lang/String", name := "equals", desc := "(Ljava/lang/Object;)Z" } : Jvm.MethodName) jdk_42_method_66_code (3 : Nat) (Option.some Jvm.ClassFile.FieldType.boolean), Jvm.Cond.code ({ cls := "java/lang/StringLatin1", name := "equals", desc := "([B[B)Z" } : Jvm.MethodName) jdk_43_method_13_code (3 : Nat) (Option.some Jvm.ClassFile.FieldType.boolean)]
set_option maxRecDepth 65536 in
theorem codes_eq : words1.filter isCode = codes1 := rfl
theorem w_codes : ∀ c ∈ words1.filter isCode, c.before args0 about1 = true := by
  rw [codes_eq]
  intro c hc
  simp only [codes1, List.mem_cons, List.not_mem_nil, or_false] at hc
  rcases hc with rfl | rfl | rfl | rfl | rfl | rfl | rfl | rfl | rfl | rfl | rfl | rfl | rfl | rfl | rfl | rfl | rfl | rfl | rfl | rfl | rfl | rfl | rfl | rfl | rfl | rfl | rfl | rfl | rfl | rfl | rfl | rfl | rfl | rfl | rfl | rfl
  · exact w_c0
  · exact w_c1
  · exact w_c2
  · exact w_c3
  · exact w_c4
  · exact w_c5
  · exact w_c6
  · exact w_c7
  · exact w_c8
  · exact w_c9
  · exact w_c10
  · exact w_c11
  · exact w_c12
  · exact w_c13
  · exact w_c14
  · exact w_c15
  · exact w_c16
  · exact w_c17
  · exact w_c18
  · exact w_c19
  · exact w_c20
  · exact w_c21
  · exact w_c22
  · exact w_c23
  · exact w_c24
  · exact w_c25
  · exact w_c26
  · exact w_c27
  · exact w_c28
  · exact w_c29
  · exact w_c30
  · exact w_c31
  · exact w_c32
  · exact w_c33
  · exact w_c34
  · exact w_c35
set_option maxRecDepth 65536 in
theorem w_t1 : (words1.take 24).all (fun c => isCode c || c.before args0 about1) = true := by decide +kernel
set_option maxRecDepth 65536 in
theorem w_t2 : ((words1.drop 24).take 24).all (fun c => isCode c || c.before args0 about1) = true := by decide +kernel
set_option maxRecDepth 65536 in
theorem w_t3 : (((words1.drop 24).drop 24).take 24).all (fun c => isCode c || c.before args0 about1) = true := by decide +kernel
set_option maxRecDepth 65536 in
theorem w_t4 : ((((words1.drop 24).drop 24).drop 24).take 24).all (fun c => isCode c || c.before args0 about1) = true := by decide +kernel
set_option maxRecDepth 65536 in
theorem w_t5 : (((((words1.drop 24).drop 24).drop 24).drop 24).take 24).all (fun c => isCode c || c.before args0 about1) = true := by decide +kernel
set_option maxRecDepth 65536 in
theorem w_t6 : ((((((words1.drop 24).drop 24).drop 24).drop 24).drop 24).take 24).all (fun c => isCode c || c.before args0 about1) = true := by decide +kernel
set_option maxRecDepth 65536 in
theorem w_t7 : (((((((words1.drop 24).drop 24).drop 24).drop 24).drop 24).drop 24).take 24).all (fun c => isCode c || c.before args0 about1) = true := by decide +kernel
set_option maxRecDepth 65536 in
theorem w_t8 : ((((((((words1.drop 24).drop 24).drop 24).drop 24).drop 24).drop 24).drop 24).take 24).all (fun c => isCode c || c.before args0 about1) = true := by decide +kernel
set_option maxRecDepth 65536 in
theorem w_t9 : (((((((((words1.drop 24).drop 24).drop 24).drop 24).drop 24).drop 24).drop 24).drop 24).take 24).all (fun c => isCode c || c.before args0 about1) = true := by decide +kernel
set_option maxRecDepth 65536 in
theorem w_t10 : ((((((((((words1.drop 24).drop 24).drop 24).drop 24).drop 24).drop 24).drop 24).drop 24).drop 24).take 24).all (fun c => isCode c || c.before args0 about1) = true := by decide +kernel
set_option maxRecDepth 65536 in
theorem w_t11 : ((((((((((words1.drop 24).drop 24).drop 24).drop 24).drop 24).drop 24).drop 24).drop 24).drop 24).drop 24).all (fun c => isCode c || c.before args0 about1) = true := by decide +kernel
theorem w_tables : (allAtoms (Jvm.Cond.code x code maxLocals ret :: tables_1)).before args0 about1 = true := by
  rw [allAtoms_all]
  show words1.all (fun c => c.before args0 about1) = true
  refine all_split ?_ w_codes
  rw [← List.take_append_drop 24 words1, List.all_append, w_t1, ← List.take_append_drop 24 (words1.drop 24), List.all_append, w_t2, ← List.take_append_drop 24 ((words1.drop 24).drop 24), List.all_append, w_t3, ← List.take_append_drop 24 (((words1.drop 24).drop 24).drop 24), List.all_append, w_t4, ← List.take_append_drop 24 ((((words1.drop 24).drop 24).drop 24).drop 24), List.all_append, w_t5, ← List.take_append_drop 24 (((((words1.drop 24).drop 24).drop 24).drop 24).drop 24), List.all_append, w_t6, ← List.take_append_drop 24 ((((((words1.drop 24).drop 24).drop 24).drop 24).drop 24).drop 24), List.all_append, w_t7, ← List.take_append_drop 24 (((((((words1.drop 24).drop 24).drop 24).drop 24).drop 24).drop 24).drop 24), List.all_append, w_t8, ← List.take_append_drop 24 ((((((((words1.drop 24).drop 24).drop 24).drop 24).drop 24).drop 24).drop 24).drop 24), List.all_append, w_t9, ← List.take_append_drop 24 (((((((((words1.drop 24).drop 24).drop 24).drop 24).drop 24).drop 24).drop 24).drop 24).drop 24), List.all_append, w_t10, w_t11]
  rfl
set_option maxRecDepth 65536 in
theorem w_rest : rest_1_c.before args0 about1 = true := by decide +kernel
set_option maxRecDepth 65536 in
theorem w_case : (Jvm.Cond.and given_1 narrow_1).before args0 about1 = true := by decide +kernel
set_option maxRecDepth 65536 in
theorem w_consts : constsHeld consts_1 about1 := Jvm.Lit.constsHeldB_iff.mp (by decide +kernel)
theorem w_applies : (headSpec (Jvm.Cond.code x code maxLocals ret :: tables_1) room_1).applies x e0.platform about1 = true :=
  (Spec.applies_iff w_frames).mpr ⟨w_running, w_runnable, w_alone, w_named, w_hears, w_ripe, w_room, w_tables⟩
theorem atStart : AtStart classFile x code maxLocals ret World_1 tables_1 room_1 Calls_1 rest_1 Pre_1 launch0 p0 e0 about1 theMethod args0 below0 :=
  ⟨lists_1, trivial, launch0.admits_env _ _ _, launch0.least_env, fairChoices_fair.cas, fairChoices_fair.clock, w_frames, w_args, w_heap, w_applies, ⟨w_consts, trivial⟩, w_rest, w_case⟩
end start1
theorem witness_1 : WitnessClaimed_1 := ⟨start1.p0, start1.e0, start1.about1, start1.theMethod, start1.args0, start1.below0, start1.atStart⟩
end Jvm.Pilot.@@N@@
