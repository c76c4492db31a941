import JvmDerived
import JvmDerived.Pilot.@@N@@Statement
import JvmDerived.Pilot.@@N@@Code
set_option linter.unusedVariables false
set_option linter.unusedSimpArgs false

namespace Jvm.Pilot.@@N@@
open Jvm Jvm.ClassFile Sem Op Lib Jvm.Free Jvm.Stand Jvm.LawKit Jvm.RoadKit Bundle Jvm.Pilot.@@N@@.Jvm.D
theorem d1_0 : decode jdk_29_method_70_code 0 = .ok (.lload_n 0, 1) := by decide +kernel
theorem d1_1 : decode jdk_29_method_70_code 1 = .ok (.lload_n 2, 1) := by decide +kernel
theorem d1_2 : decode jdk_29_method_70_code 2 = .ok (.lcmp, 1) := by decide +kernel
theorem d1_3 : decode jdk_29_method_70_code 3 = .ok (.ifCond .gt 7, 3) := by decide +kernel
theorem d1_6 : decode jdk_29_method_70_code 6 = .ok (.lload_n 0, 1) := by decide +kernel
theorem d1_7 : decode jdk_29_method_70_code 7 = .ok (.goto 4, 3) := by decide +kernel
theorem d1_10 : decode jdk_29_method_70_code 10 = .ok (.lload_n 2, 1) := by decide +kernel
theorem d1_11 : decode jdk_29_method_70_code 11 = .ok (.lreturn, 1) := by decide +kernel
theorem d2_0 : decode jdk_29_method_66_code 0 = .ok (.lload_n 0, 1) := by decide +kernel
theorem d2_1 : decode jdk_29_method_66_code 1 = .ok (.lload_n 2, 1) := by decide +kernel
theorem d2_2 : decode jdk_29_method_66_code 2 = .ok (.lcmp, 1) := by decide +kernel
theorem d2_3 : decode jdk_29_method_66_code 3 = .ok (.ifCond .lt 7, 3) := by decide +kernel
theorem d2_6 : decode jdk_29_method_66_code 6 = .ok (.lload_n 0, 1) := by decide +kernel
theorem d2_7 : decode jdk_29_method_66_code 7 = .ok (.goto 4, 3) := by decide +kernel
theorem d2_10 : decode jdk_29_method_66_code 10 = .ok (.lload_n 2, 1) := by decide +kernel
theorem d2_11 : decode jdk_29_method_66_code 11 = .ok (.lreturn, 1) := by decide +kernel
theorem d3_0 : decode prog_24_method_5_code 0 = .ok (.aload_n 0, 1) := by decide +kernel
theorem d3_1 : decode prog_24_method_5_code 1 = .ok (.getstatic 7, 3) := by decide +kernel
theorem d3_4 : decode prog_24_method_5_code 4 = .ok (.if_acmp .ne 17, 3) := by decide +kernel
theorem d3_7 : decode prog_24_method_5_code 7 = .ok (.lload_n 1, 1) := by decide +kernel
theorem d3_8 : decode prog_24_method_5_code 8 = .ok (.lload_n 3, 1) := by decide +kernel
theorem d3_9 : decode prog_24_method_5_code 9 = .ok (.lcmp, 1) := by decide +kernel
theorem d3_10 : decode prog_24_method_5_code 10 = .ok (.ifCond .ge 7, 3) := by decide +kernel
theorem d3_13 : decode prog_24_method_5_code 13 = .ok (.iconst 1, 1) := by decide +kernel
theorem d3_14 : decode prog_24_method_5_code 14 = .ok (.goto 18, 3) := by decide +kernel
theorem d3_17 : decode prog_24_method_5_code 17 = .ok (.iconst 0, 1) := by decide +kernel
theorem d3_18 : decode prog_24_method_5_code 18 = .ok (.goto 14, 3) := by decide +kernel
theorem d3_21 : decode prog_24_method_5_code 21 = .ok (.lload_n 1, 1) := by decide +kernel
theorem d3_22 : decode prog_24_method_5_code 22 = .ok (.lload_n 3, 1) := by decide +kernel
theorem d3_23 : decode prog_24_method_5_code 23 = .ok (.lcmp, 1) := by decide +kernel
theorem d3_24 : decode prog_24_method_5_code 24 = .ok (.ifCond .le 7, 3) := by decide +kernel
theorem d3_27 : decode prog_24_method_5_code 27 = .ok (.iconst 1, 1) := by decide +kernel
theorem d3_28 : decode prog_24_method_5_code 28 = .ok (.goto 4, 3) := by decide +kernel
theorem d3_31 : decode prog_24_method_5_code 31 = .ok (.iconst 0, 1) := by decide +kernel
theorem d3_32 : decode prog_24_method_5_code 32 = .ok (.ireturn, 1) := by decide +kernel
theorem pn_0 : plainName "com/example/chitragupta/chitragupta/core/Order" = true := by first | (simp [plainName, overriddenIn]; done) | decide +kernel
theorem pn_1 : plainName "com/example/chitragupta/chitragupta/core/OrderIsBetterPinLaw" = true := by first | (simp [plainName, overriddenIn]; done) | decide +kernel
theorem pd_0 : parseMethodDescriptor "(JJ)J" = some ⟨[.long, .long], some .long⟩ := by decide +kernel
theorem pd_1 : parseMethodDescriptor "(JJ)Z" = some ⟨[.long, .long], some .boolean⟩ := by decide +kernel
theorem own_osz {Z : State} {n0 : Nat} {h : Heap} (O : Old Z n0 h) : n0 ≤ h.size := O.1 ▸ O.2.1
theorem own_fo {s : State} {args : Array Value} {C f d : String} {a : Addr} {k : Int32} (ev : (Term.static C f d).eval args s none [] s = some (.ref a)) (h : (Cond.eq (Term.field (Term.static C f d) "java/lang/Enum" "ordinal" "I") (Term.int k)).value args s none s [] = some true) : s.fieldOf? a "java/lang/Enum" "ordinal" "I" = some (.int k) := by
  obtain ⟨x, y, h1, h2, h3, h4⟩ := cmp_v (Or.inl h)
  rw [fld_at ev] at h1
  have hy : y = .int k := by simpa [Term.eval] using h2.symm
  subst hy
  obtain ⟨z, rfl⟩ := h4
  have : (Cond.eq (Term.field (Term.static C f d) "java/lang/Enum" "ordinal" "I") (Term.int k)).value args s none s [] = some (decide (z = k)) := by simp [Cond.value, fld_at ev, h1, Term.int_eval]
  rw [h1, gotT this h]
theorem own_ne {s : State} {a b : Addr} {k j : Int32} (h1 : s.fieldOf? a "java/lang/Enum" "ordinal" "I" = some (.int k)) (h2 : s.fieldOf? b "java/lang/Enum" "ordinal" "I" = some (.int j)) (hn : k ≠ j) : a ≠ b := fun e => by
  subst e; rw [h1] at h2; exact hn (Value.int.inj (Option.some.inj h2))

theorem own_plain {wD wA : Addr} {a b lo hi : Int64} {d c1 c2 c3 c4 r : Int32} (hDA : ¬ wD = wA)
    (hlo : lo = (if (0 : Int32) < (lcmpW a b) then b else a)) (hhi : hi = (if (lcmpW a b) < (0 : Int32) then b else a))
    (hd : d = (if (lcmpW lo hi) = (0 : Int32) then (0 : Int32) else (1 : Int32)))
    (h1 : c1 = (if wD = wA then (if (lcmpW hi lo) < (0 : Int32) then (1 : Int32) else (0 : Int32)) else (if (0 : Int32) < (lcmpW hi lo) then (1 : Int32) else (0 : Int32))))
    (h2 : c2 = (if wD = wA then (if (lcmpW lo hi) < (0 : Int32) then (1 : Int32) else (0 : Int32)) else (if (0 : Int32) < (lcmpW lo hi) then (1 : Int32) else (0 : Int32))))
    (h3 : c3 = (if wA = wA then (if (lcmpW lo hi) < (0 : Int32) then (1 : Int32) else (0 : Int32)) else (if (0 : Int32) < (lcmpW lo hi) then (1 : Int32) else (0 : Int32))))
    (h4 : c4 = (if wA = wA then (if (lcmpW hi lo) < (0 : Int32) then (1 : Int32) else (0 : Int32)) else (if (0 : Int32) < (lcmpW hi lo) then (1 : Int32) else (0 : Int32))))
    (hr : r = (if c1 = d then (if c2 = (0 : Int32) then (if c3 = d then (if c4 = (0 : Int32) then (1 : Int32) else (0 : Int32)) else (0 : Int32)) else (0 : Int32)) else (0 : Int32))) : r = 1 := by
  simp only [lcW, lc_lt, lc_gt, lc_eq, if_neg hDA, if_true] at hlo hhi hd h1 h2 h3 h4
  have key : (lo = hi) ∨ (lo < hi ∧ ¬ hi < lo ∧ ¬ lo = hi) := by
    rw [hlo, hhi]
    by_cases p : a < b
    · have q : ¬ b < a := by rw [Int64.lt_iff_toInt_lt] at p ⊢; omega
      have u : ¬ a = b := fun e => by rw [Int64.lt_iff_toInt_lt, e] at p; omega
      simp [p, q, u]
    · by_cases q : b < a
      · have u : ¬ b = a := fun e => by rw [Int64.lt_iff_toInt_lt, e] at q; omega
        simp [p, q, u]
      · simp [p, q]
  clear hlo hhi
  subst hd h1 h2 h3 h4 hr
  rcases key with rfl | ⟨k1, k2, k3⟩
  · have u : ¬ lo < lo := by rw [Int64.lt_iff_toInt_lt]; omega
    simp [u]
  · simp [k1, k2, k3]

def Q1 (Z : State) (q1 : Int64) (q2 : Int64) (h0 : Heap) (n0 : Nat) (v : Option Value) (h : Heap) (L : List Loc) : Prop := v = some (.long (if (0 : Int32) < (lcmpW q1 q2) then q2 else q1)) ∧ Fr n0 L ∧ h = h0
theorem ef_1 (m : MethodId) (x0 : Int64) (x1 : Int64) : entryFrame m #[(.long x0), (.long x1)] 4 = mkF m 0 #[.val (.long x0), .second, .val (.long x1), .second] [] := by first | (simp [entryFrame, mkF, argsToLocals, Value.category]; done) | rfl
set_option maxRecDepth 65536 in
set_option maxHeartbeats 40000000 in
theorem rm1 (l : Launch) (Z : State) (a0 : Array Value) (hw : ∀ d ∈ tables_1, d.before a0 Z = true) (ws : List Jvm.Cond) (q1 : Int64) (q2 : Int64) (h0 : Heap) (n0 : Nat) (O0 : Old Z n0 h0) :
    MetFree l (⟨"java/lang/Math", "min", "(JJ)J"⟩ : MethodName) (head1 (Jvm.Cond.code (⟨"java/lang/Math", "min", "(JJ)J"⟩ : MethodName) jdk_29_method_70_code 4 (some .long) :: ws) ({ frames := 0, cells := 0, slots := 0, locals := 0 } : Room)) (fun a U => a = #[(.long q1), (.long q2)] ∧ Z.Warmed39 U.vm ∧ U.heap = h0) (fun _ _ _ _ _ => True) (fun _ U o U' => ∃ v L, o = .returned v ∧ Q1 Z q1 q2 h0 n0 v U'.heap L ∧ FrameEnd U o U' L ({ frames := 0, cells := 0, slots := 0, locals := 0 } : Room).cells ({ frames := 0, cells := 0, slots := 0, locals := 0 } : Room).slots) := by
  refine MetFree.of_bodySF (Jvm.Free.JP.mathPlain rfl (by decide +kernel)) hisR ?_
  intro p e s m args below meth c s₁ Bd hml0 hP hK
  obtain ⟨rfl, hZ, hh⟩ := hP
  have hx := Bd.exec
  have hby := Bd.bytes
  have hml : c.maxLocals = 4 := hml0
  have hown : s.vm.findClass "java/lang/Math" = some m.cls := findClass_of_methodNamed Bd.named
  have hnm := (name_of_methodNamed Bd.named Bd.method).1
  have X0 : Stand p l e ({ frames := 0, cells := 0, slots := 0, locals := 0 } : Room) s m #[(.long q1), (.long q2)] below meth c s₁ [] 0 0 := Stand.of_body Bd
  have e0 : s₁.heap = h0 := by rw [← hh, Bd.state]; rfl
  have N0 := Fr.nil n0
  have pre0 : ∀ t, Steps p.tables e below (s₁.setTop (mkF m 0 #[.val (.long q1), .second, .val (.long q2), .second] [])) t → Steps p.tables e below (s₁.setTop (entryFrame m #[(.long q1), (.long q2)] 4)) t := fun t k => castTop (ef_1 m q1 q2) k
  have sg1 : ∀ target, Steps p.tables e below (s₁.setTop (mkF m 3 #[.val (.long q1), .second, .val (.long q2), .second] [(.int (lcmpW q1 q2))])) target → Steps p.tables e below (s₁.setTop (mkF m 0 #[.val (.long q1), .second, .val (.long q2), .second] [])) target := by
    intro target kt
    show Steps p.tables e below (s₁.setTop (mkF m 0 #[.val (.long q1), .second, .val (.long q2), .second] [])) _
    refine XS.lloadN X0.here hx rfl (hb hby d1_0) rfl ?_
    show Steps p.tables e below (s₁.setTop (mkF m 1 #[.val (.long q1), .second, .val (.long q2), .second] [(.long q1)])) _
    refine XS.lloadN X0.here hx rfl (hb hby d1_1) rfl ?_
    show Steps p.tables e below (s₁.setTop (mkF m 2 #[.val (.long q1), .second, .val (.long q2), .second] [(.long q2), (.long q1)])) _
    refine XS.lcmp X0.here hx rfl (hb hby d1_2) rfl ?_
    exact kt
  by_cases hc2 : (0 : Int32) < (lcmpW q1 q2)
  · have sg3 : ∀ target, Steps p.tables e below (s₁.setTop (mkF m 11 #[.val (.long q1), .second, .val (.long q2), .second] [(.long q2)])) target → Steps p.tables e below (s₁.setTop (mkF m 3 #[.val (.long q1), .second, .val (.long q2), .second] [(.int (lcmpW q1 q2))])) target := by
      intro target kt
      show Steps p.tables e below (s₁.setTop (mkF m 3 #[.val (.long q1), .second, .val (.long q2), .second] [(.int (lcmpW q1 q2))])) _
      refine XS.ifYes X0.here hx rfl (pc0 := 3) (pc' := 10) rfl (hb hby d1_3) rfl ((if0 _ _).trans (tlt hc2).2.2.1) (by decide) (by decide) ?_
      show Steps p.tables e below (s₁.setTop (mkF m 10 #[.val (.long q1), .second, .val (.long q2), .second] [])) _
      refine XS.lloadN X0.here hx rfl (hb hby d1_10) rfl ?_
      exact kt
    obtain ⟨fs, hr, hrun, hended, hW, hsame⟩ := X0.leave (v := some (.long q2)) (fun h => by rw [Bd.returns] at h; cases h)
    refine ⟨_, _, pre0 _ (sg1 _ (sg3 _ (?_))), hrun, hended, _, _, rfl, ?_, ⟨_, rfl⟩, hW, hsame.mono (by decide) (by decide)⟩
    · show Steps p.tables e below (s₁.setTop (mkF m 11 #[.val (.long q1), .second, .val (.long q2), .second] [(.long q2)])) _
      jvm_step X0.here [X0.here.top, hx, (hb hby d1_11), X0.method', Bd.returns, narrow]
      first | (intro acts; rw [hr _ acts rfl rfl rfl]) | rw [hr _ _ rfl rfl rfl]
      exact Steps.refl _
    · show Q1 Z q1 q2 h0 n0 _ s₁.heap _
      rw [e0]
      exact ⟨(by rw [if_pos hc2]), N0, rfl⟩
  · have sg4 : ∀ target, Steps p.tables e below (s₁.setTop (mkF m 11 #[.val (.long q1), .second, .val (.long q2), .second] [(.long q1)])) target → Steps p.tables e below (s₁.setTop (mkF m 3 #[.val (.long q1), .second, .val (.long q2), .second] [(.int (lcmpW q1 q2))])) target := by
      intro target kt
      show Steps p.tables e below (s₁.setTop (mkF m 3 #[.val (.long q1), .second, .val (.long q2), .second] [(.int (lcmpW q1 q2))])) _
      refine XS.ifNo X0.here hx rfl (hb hby d1_3) rfl ((if0 _ _).trans (flt hc2).2.2.1) ?_
      show Steps p.tables e below (s₁.setTop (mkF m 6 #[.val (.long q1), .second, .val (.long q2), .second] [])) _
      refine XS.lloadN X0.here hx rfl (hb hby d1_6) rfl ?_
      show Steps p.tables e below (s₁.setTop (mkF m 7 #[.val (.long q1), .second, .val (.long q2), .second] [(.long q1)])) _
      refine XS.goto X0.here hx rfl (pc0 := 7) (pc' := 11) rfl (hb hby d1_7) (by decide) (by decide) ?_
      exact kt
    obtain ⟨fs, hr, hrun, hended, hW, hsame⟩ := X0.leave (v := some (.long q1)) (fun h => by rw [Bd.returns] at h; cases h)
    refine ⟨_, _, pre0 _ (sg1 _ (sg4 _ (?_))), hrun, hended, _, _, rfl, ?_, ⟨_, rfl⟩, hW, hsame.mono (by decide) (by decide)⟩
    · show Steps p.tables e below (s₁.setTop (mkF m 11 #[.val (.long q1), .second, .val (.long q2), .second] [(.long q1)])) _
      jvm_step X0.here [X0.here.top, hx, (hb hby d1_11), X0.method', Bd.returns, narrow]
      first | (intro acts; rw [hr _ acts rfl rfl rfl]) | rw [hr _ _ rfl rfl rfl]
      exact Steps.refl _
    · show Q1 Z q1 q2 h0 n0 _ s₁.heap _
      rw [e0]
      exact ⟨(by rw [if_neg hc2]), N0, rfl⟩
def Q2 (Z : State) (q1 : Int64) (q2 : Int64) (h0 : Heap) (n0 : Nat) (v : Option Value) (h : Heap) (L : List Loc) : Prop := v = some (.long (if (lcmpW q1 q2) < (0 : Int32) then q2 else q1)) ∧ Fr n0 L ∧ h = h0
theorem ef_2 (m : MethodId) (x0 : Int64) (x1 : Int64) : entryFrame m #[(.long x0), (.long x1)] 4 = mkF m 0 #[.val (.long x0), .second, .val (.long x1), .second] [] := by first | (simp [entryFrame, mkF, argsToLocals, Value.category]; done) | rfl
set_option maxRecDepth 65536 in
set_option maxHeartbeats 40000000 in
theorem rm2 (l : Launch) (Z : State) (a0 : Array Value) (hw : ∀ d ∈ tables_1, d.before a0 Z = true) (ws : List Jvm.Cond) (q1 : Int64) (q2 : Int64) (h0 : Heap) (n0 : Nat) (O0 : Old Z n0 h0) :
    MetFree l (⟨"java/lang/Math", "max", "(JJ)J"⟩ : MethodName) (head1 (Jvm.Cond.code (⟨"java/lang/Math", "max", "(JJ)J"⟩ : MethodName) jdk_29_method_66_code 4 (some .long) :: ws) ({ frames := 0, cells := 0, slots := 0, locals := 0 } : Room)) (fun a U => a = #[(.long q1), (.long q2)] ∧ Z.Warmed39 U.vm ∧ U.heap = h0) (fun _ _ _ _ _ => True) (fun _ U o U' => ∃ v L, o = .returned v ∧ Q2 Z q1 q2 h0 n0 v U'.heap L ∧ FrameEnd U o U' L ({ frames := 0, cells := 0, slots := 0, locals := 0 } : Room).cells ({ frames := 0, cells := 0, slots := 0, locals := 0 } : Room).slots) := by
  refine MetFree.of_bodySF (Jvm.Free.JP.mathPlain rfl (by decide +kernel)) hisR ?_
  intro p e s m args below meth c s₁ Bd hml0 hP hK
  obtain ⟨rfl, hZ, hh⟩ := hP
  have hx := Bd.exec
  have hby := Bd.bytes
  have hml : c.maxLocals = 4 := hml0
  have hown : s.vm.findClass "java/lang/Math" = some m.cls := findClass_of_methodNamed Bd.named
  have hnm := (name_of_methodNamed Bd.named Bd.method).1
  have X0 : Stand p l e ({ frames := 0, cells := 0, slots := 0, locals := 0 } : Room) s m #[(.long q1), (.long q2)] below meth c s₁ [] 0 0 := Stand.of_body Bd
  have e0 : s₁.heap = h0 := by rw [← hh, Bd.state]; rfl
  have N0 := Fr.nil n0
  have pre0 : ∀ t, Steps p.tables e below (s₁.setTop (mkF m 0 #[.val (.long q1), .second, .val (.long q2), .second] [])) t → Steps p.tables e below (s₁.setTop (entryFrame m #[(.long q1), (.long q2)] 4)) t := fun t k => castTop (ef_2 m q1 q2) k
  have sg1 : ∀ target, Steps p.tables e below (s₁.setTop (mkF m 3 #[.val (.long q1), .second, .val (.long q2), .second] [(.int (lcmpW q1 q2))])) target → Steps p.tables e below (s₁.setTop (mkF m 0 #[.val (.long q1), .second, .val (.long q2), .second] [])) target := by
    intro target kt
    show Steps p.tables e below (s₁.setTop (mkF m 0 #[.val (.long q1), .second, .val (.long q2), .second] [])) _
    refine XS.lloadN X0.here hx rfl (hb hby d2_0) rfl ?_
    show Steps p.tables e below (s₁.setTop (mkF m 1 #[.val (.long q1), .second, .val (.long q2), .second] [(.long q1)])) _
    refine XS.lloadN X0.here hx rfl (hb hby d2_1) rfl ?_
    show Steps p.tables e below (s₁.setTop (mkF m 2 #[.val (.long q1), .second, .val (.long q2), .second] [(.long q2), (.long q1)])) _
    refine XS.lcmp X0.here hx rfl (hb hby d2_2) rfl ?_
    exact kt
  by_cases hc2 : (lcmpW q1 q2) < (0 : Int32)
  · have sg3 : ∀ target, Steps p.tables e below (s₁.setTop (mkF m 11 #[.val (.long q1), .second, .val (.long q2), .second] [(.long q2)])) target → Steps p.tables e below (s₁.setTop (mkF m 3 #[.val (.long q1), .second, .val (.long q2), .second] [(.int (lcmpW q1 q2))])) target := by
      intro target kt
      show Steps p.tables e below (s₁.setTop (mkF m 3 #[.val (.long q1), .second, .val (.long q2), .second] [(.int (lcmpW q1 q2))])) _
      refine XS.ifYes X0.here hx rfl (pc0 := 3) (pc' := 10) rfl (hb hby d2_3) rfl ((if0 _ _).trans (tlt hc2).1) (by decide) (by decide) ?_
      show Steps p.tables e below (s₁.setTop (mkF m 10 #[.val (.long q1), .second, .val (.long q2), .second] [])) _
      refine XS.lloadN X0.here hx rfl (hb hby d2_10) rfl ?_
      exact kt
    obtain ⟨fs, hr, hrun, hended, hW, hsame⟩ := X0.leave (v := some (.long q2)) (fun h => by rw [Bd.returns] at h; cases h)
    refine ⟨_, _, pre0 _ (sg1 _ (sg3 _ (?_))), hrun, hended, _, _, rfl, ?_, ⟨_, rfl⟩, hW, hsame.mono (by decide) (by decide)⟩
    · show Steps p.tables e below (s₁.setTop (mkF m 11 #[.val (.long q1), .second, .val (.long q2), .second] [(.long q2)])) _
      jvm_step X0.here [X0.here.top, hx, (hb hby d2_11), X0.method', Bd.returns, narrow]
      first | (intro acts; rw [hr _ acts rfl rfl rfl]) | rw [hr _ _ rfl rfl rfl]
      exact Steps.refl _
    · show Q2 Z q1 q2 h0 n0 _ s₁.heap _
      rw [e0]
      exact ⟨(by rw [if_pos hc2]), N0, rfl⟩
  · have sg4 : ∀ target, Steps p.tables e below (s₁.setTop (mkF m 11 #[.val (.long q1), .second, .val (.long q2), .second] [(.long q1)])) target → Steps p.tables e below (s₁.setTop (mkF m 3 #[.val (.long q1), .second, .val (.long q2), .second] [(.int (lcmpW q1 q2))])) target := by
      intro target kt
      show Steps p.tables e below (s₁.setTop (mkF m 3 #[.val (.long q1), .second, .val (.long q2), .second] [(.int (lcmpW q1 q2))])) _
      refine XS.ifNo X0.here hx rfl (hb hby d2_3) rfl ((if0 _ _).trans (flt hc2).1) ?_
      show Steps p.tables e below (s₁.setTop (mkF m 6 #[.val (.long q1), .second, .val (.long q2), .second] [])) _
      refine XS.lloadN X0.here hx rfl (hb hby d2_6) rfl ?_
      show Steps p.tables e below (s₁.setTop (mkF m 7 #[.val (.long q1), .second, .val (.long q2), .second] [(.long q1)])) _
      refine XS.goto X0.here hx rfl (pc0 := 7) (pc' := 11) rfl (hb hby d2_7) (by decide) (by decide) ?_
      exact kt
    obtain ⟨fs, hr, hrun, hended, hW, hsame⟩ := X0.leave (v := some (.long q1)) (fun h => by rw [Bd.returns] at h; cases h)
    refine ⟨_, _, pre0 _ (sg1 _ (sg4 _ (?_))), hrun, hended, _, _, rfl, ?_, ⟨_, rfl⟩, hW, hsame.mono (by decide) (by decide)⟩
    · show Steps p.tables e below (s₁.setTop (mkF m 11 #[.val (.long q1), .second, .val (.long q2), .second] [(.long q1)])) _
      jvm_step X0.here [X0.here.top, hx, (hb hby d2_11), X0.method', Bd.returns, narrow]
      first | (intro acts; rw [hr _ acts rfl rfl rfl]) | rw [hr _ _ rfl rfl rfl]
      exact Steps.refl _
    · show Q2 Z q1 q2 h0 n0 _ s₁.heap _
      rw [e0]
      exact ⟨(by rw [if_neg hc2]), N0, rfl⟩
def Q3 (Z : State) (a1 : Addr) (q2 : Int64) (q3 : Int64) (wD : Addr) (wA : Addr) (h0 : Heap) (n0 : Nat) (v : Option Value) (h : Heap) (L : List Loc) : Prop := v = some (.int (if a1 = wA then (if (lcmpW q2 q3) < (0 : Int32) then (1 : Int32) else (0 : Int32)) else (if (0 : Int32) < (lcmpW q2 q3) then (1 : Int32) else (0 : Int32)))) ∧ Fr n0 L ∧ h = h0
theorem ef_3 (m : MethodId) (x0 : Addr) (x1 : Int64) (x2 : Int64) : entryFrame m #[(.ref x0), (.long x1), (.long x2)] 5 = mkF m 0 #[.val (.ref x0), .val (.long x1), .second, .val (.long x2), .second] [] := by first | (simp [entryFrame, mkF, argsToLocals, Value.category]; done) | rfl
set_option maxRecDepth 65536 in
set_option maxHeartbeats 40000000 in
theorem rm3 (l : Launch) (Z : State) (a0 : Array Value) (hw : ∀ d ∈ tables_1, d.before a0 Z = true) (ws : List Jvm.Cond) (a1 : Addr) (q2 : Int64) (q3 : Int64) (wD : Addr) (wA : Addr) (h0 : Heap) (n0 : Nat) (O0 : Old Z n0 h0) (S_DESC : Sta Z Z.heap "com/example/chitragupta/chitragupta/core/Order" "DESC" "Lcom/example/chitragupta/chitragupta/core/Order;" (.ref wD)) (S_ASC : Sta Z Z.heap "com/example/chitragupta/chitragupta/core/Order" "ASC" "Lcom/example/chitragupta/chitragupta/core/Order;" (.ref wA)) :
    MetFree l (⟨"com/example/chitragupta/chitragupta/core/Order", "isBetter", "(JJ)Z"⟩ : MethodName) (head1 (Jvm.Cond.code (⟨"com/example/chitragupta/chitragupta/core/Order", "isBetter", "(JJ)Z"⟩ : MethodName) prog_24_method_5_code 5 (some .boolean) :: ws) ({ frames := 0, cells := 0, slots := 0, locals := 0 } : Room)) (fun a U => a = #[(.ref a1), (.long q2), (.long q3)] ∧ Z.Warmed39 U.vm ∧ U.heap = h0) (fun _ _ _ _ _ => True) (fun _ U o U' => ∃ v L, o = .returned v ∧ Q3 Z a1 q2 q3 wD wA h0 n0 v U'.heap L ∧ FrameEnd U o U' L ({ frames := 0, cells := 0, slots := 0, locals := 0 } : Room).cells ({ frames := 0, cells := 0, slots := 0, locals := 0 } : Room).slots) := by
  refine MetFree.of_bodySF (plainFor_of_name pn_0) hisR ?_
  intro p e s m args below meth c s₁ Bd hml0 hP hK
  obtain ⟨rfl, hZ, hh⟩ := hP
  have hx := Bd.exec
  have hby := Bd.bytes
  have hml : c.maxLocals = 5 := hml0
  have hown : s.vm.findClass "com/example/chitragupta/chitragupta/core/Order" = some m.cls := findClass_of_methodNamed Bd.named
  have hnm := (name_of_methodNamed Bd.named Bd.method).1
  have X0 : Stand p l e ({ frames := 0, cells := 0, slots := 0, locals := 0 } : Room) s m #[(.ref a1), (.long q2), (.long q3)] below meth c s₁ [] 0 0 := Stand.of_body Bd
  have e0 : s₁.heap = h0 := by rw [← hh, Bd.state]; rfl
  have N0 := Fr.nil n0
  have pre0 : ∀ t, Steps p.tables e below (s₁.setTop (mkF m 0 #[.val (.ref a1), .val (.long q2), .second, .val (.long q3), .second] [])) t → Steps p.tables e below (s₁.setTop (entryFrame m #[(.ref a1), (.long q2), (.long q3)] 5)) t := fun t k => castTop (ef_3 m a1 q2 q3) k
  obtain ⟨T1, X1, e1, st1⟩ := getS2 X0 hx hZ hown (host := "") (Or.inl (hw _ (List.mem_of_getElem? (i := 15) rfl))) Via.refl e0 (S_ASC.ext O0.2) (g := (mkF m 1 #[.val (.ref a1), .val (.long q2), .second, .val (.long q3), .second] [(.ref a1)])) rfl (hb hby d3_1)
  have sg2 : ∀ target, Steps p.tables e below (T1.setTop (mkF m 4 #[.val (.ref a1), .val (.long q2), .second, .val (.long q3), .second] [(.ref wA), (.ref a1)])) target → Steps p.tables e below (s₁.setTop (mkF m 0 #[.val (.ref a1), .val (.long q2), .second, .val (.long q3), .second] [])) target := by
    intro target kt
    show Steps p.tables e below (s₁.setTop (mkF m 0 #[.val (.ref a1), .val (.long q2), .second, .val (.long q3), .second] [])) _
    refine XS.aloadN X0.here hx rfl (hb hby d3_0) rfl rfl ?_
    show Steps p.tables e below (s₁.setTop (mkF m 1 #[.val (.ref a1), .val (.long q2), .second, .val (.long q3), .second] [(.ref a1)])) _
    refine st1 _ ?_
    exact kt
  by_cases hc3 : a1 = wA
  · have sg4 : ∀ target, Steps p.tables e below (T1.setTop (mkF m 10 #[.val (.ref a1), .val (.long q2), .second, .val (.long q3), .second] [(.int (lcmpW q2 q3))])) target → Steps p.tables e below (T1.setTop (mkF m 4 #[.val (.ref a1), .val (.long q2), .second, .val (.long q3), .second] [(.ref wA), (.ref a1)])) target := by
      intro target kt
      show Steps p.tables e below (T1.setTop (mkF m 4 #[.val (.ref a1), .val (.long q2), .second, .val (.long q3), .second] [(.ref wA), (.ref a1)])) _
      refine Jvm.RoadKit.acmp (g := (mkF m 4 #[.val (.ref a1), .val (.long q2), .second, .val (.long q3), .second] [(.ref wA), (.ref a1)])) X1 hx rfl rfl rfl (pc0 := 4) (pc' := 7) (same := true) rfl (hb hby d3_4) rfl (decide_eq_true (congrArg Value.ref hc3)) (by decide) (by decide) ?_
      show Steps p.tables e below (T1.setTop (mkF m 7 #[.val (.ref a1), .val (.long q2), .second, .val (.long q3), .second] [])) _
      refine XS.lloadN X1.here hx rfl (hb hby d3_7) rfl ?_
      show Steps p.tables e below (T1.setTop (mkF m 8 #[.val (.ref a1), .val (.long q2), .second, .val (.long q3), .second] [(.long q2)])) _
      refine XS.lloadN X1.here hx rfl (hb hby d3_8) rfl ?_
      show Steps p.tables e below (T1.setTop (mkF m 9 #[.val (.ref a1), .val (.long q2), .second, .val (.long q3), .second] [(.long q3), (.long q2)])) _
      refine XS.lcmp X1.here hx rfl (hb hby d3_9) rfl ?_
      exact kt
    by_cases hc5 : (lcmpW q2 q3) < (0 : Int32)
    · have sg6 : ∀ target, Steps p.tables e below (T1.setTop (mkF m 32 #[.val (.ref a1), .val (.long q2), .second, .val (.long q3), .second] [(.int (1 : Int32))])) target → Steps p.tables e below (T1.setTop (mkF m 10 #[.val (.ref a1), .val (.long q2), .second, .val (.long q3), .second] [(.int (lcmpW q2 q3))])) target := by
        intro target kt
        show Steps p.tables e below (T1.setTop (mkF m 10 #[.val (.ref a1), .val (.long q2), .second, .val (.long q3), .second] [(.int (lcmpW q2 q3))])) _
        refine XS.ifNo X1.here hx rfl (hb hby d3_10) rfl ((if0 _ _).trans (tlt hc5).2.1) ?_
        show Steps p.tables e below (T1.setTop (mkF m 13 #[.val (.ref a1), .val (.long q2), .second, .val (.long q3), .second] [])) _
        refine XS.iconst X1.here hx rfl (hb hby d3_13) ?_
        show Steps p.tables e below (T1.setTop (mkF m 14 #[.val (.ref a1), .val (.long q2), .second, .val (.long q3), .second] [(.int (1 : Int32))])) _
        refine XS.goto X1.here hx rfl (pc0 := 14) (pc' := 32) rfl (hb hby d3_14) (by decide) (by decide) ?_
        exact kt
      obtain ⟨fs, hr, hrun, hended, hW, hsame⟩ := X1.leave (v := some (.int (1 : Int32))) (fun h => by rw [Bd.returns] at h; cases h)
      refine ⟨_, _, pre0 _ (sg2 _ (sg4 _ (sg6 _ (?_)))), hrun, hended, _, _, rfl, ?_, ⟨_, rfl⟩, hW, hsame.mono (by decide) (by decide)⟩
      · show Steps p.tables e below (T1.setTop (mkF m 32 #[.val (.ref a1), .val (.long q2), .second, .val (.long q3), .second] [(.int (1 : Int32))])) _
        exact retN X1 hx (t := .boolean) Bd.returns (by simp) (hb hby d3_32) hr
      · show Q3 Z a1 q2 q3 wD wA h0 n0 _ T1.heap _
        rw [e1]
        exact ⟨(by rw [if_pos hc3, if_pos hc5]), N0, rfl⟩
    · have sg7 : ∀ target, Steps p.tables e below (T1.setTop (mkF m 32 #[.val (.ref a1), .val (.long q2), .second, .val (.long q3), .second] [(.int (0 : Int32))])) target → Steps p.tables e below (T1.setTop (mkF m 10 #[.val (.ref a1), .val (.long q2), .second, .val (.long q3), .second] [(.int (lcmpW q2 q3))])) target := by
        intro target kt
        show Steps p.tables e below (T1.setTop (mkF m 10 #[.val (.ref a1), .val (.long q2), .second, .val (.long q3), .second] [(.int (lcmpW q2 q3))])) _
        refine XS.ifYes X1.here hx rfl (pc0 := 10) (pc' := 17) rfl (hb hby d3_10) rfl ((if0 _ _).trans (flt hc5).2.1) (by decide) (by decide) ?_
        show Steps p.tables e below (T1.setTop (mkF m 17 #[.val (.ref a1), .val (.long q2), .second, .val (.long q3), .second] [])) _
        refine XS.iconst X1.here hx rfl (hb hby d3_17) ?_
        show Steps p.tables e below (T1.setTop (mkF m 18 #[.val (.ref a1), .val (.long q2), .second, .val (.long q3), .second] [(.int (0 : Int32))])) _
        refine XS.goto X1.here hx rfl (pc0 := 18) (pc' := 32) rfl (hb hby d3_18) (by decide) (by decide) ?_
        exact kt
      obtain ⟨fs, hr, hrun, hended, hW, hsame⟩ := X1.leave (v := some (.int (0 : Int32))) (fun h => by rw [Bd.returns] at h; cases h)
      refine ⟨_, _, pre0 _ (sg2 _ (sg4 _ (sg7 _ (?_)))), hrun, hended, _, _, rfl, ?_, ⟨_, rfl⟩, hW, hsame.mono (by decide) (by decide)⟩
      · show Steps p.tables e below (T1.setTop (mkF m 32 #[.val (.ref a1), .val (.long q2), .second, .val (.long q3), .second] [(.int (0 : Int32))])) _
        exact retN X1 hx (t := .boolean) Bd.returns (by simp) (hb hby d3_32) hr
      · show Q3 Z a1 q2 q3 wD wA h0 n0 _ T1.heap _
        rw [e1]
        exact ⟨(by rw [if_pos hc3, if_neg hc5]), N0, rfl⟩
  · have sg8 : ∀ target, Steps p.tables e below (T1.setTop (mkF m 24 #[.val (.ref a1), .val (.long q2), .second, .val (.long q3), .second] [(.int (lcmpW q2 q3))])) target → Steps p.tables e below (T1.setTop (mkF m 4 #[.val (.ref a1), .val (.long q2), .second, .val (.long q3), .second] [(.ref wA), (.ref a1)])) target := by
      intro target kt
      show Steps p.tables e below (T1.setTop (mkF m 4 #[.val (.ref a1), .val (.long q2), .second, .val (.long q3), .second] [(.ref wA), (.ref a1)])) _
      refine Jvm.RoadKit.acmp (g := (mkF m 4 #[.val (.ref a1), .val (.long q2), .second, .val (.long q3), .second] [(.ref wA), (.ref a1)])) X1 hx rfl rfl rfl (pc0 := 4) (pc' := 21) (same := false) rfl (hb hby d3_4) rfl (decide_eq_false fun q => hc3 (Value.ref.inj q)) (by decide) (by decide) ?_
      show Steps p.tables e below (T1.setTop (mkF m 21 #[.val (.ref a1), .val (.long q2), .second, .val (.long q3), .second] [])) _
      refine XS.lloadN X1.here hx rfl (hb hby d3_21) rfl ?_
      show Steps p.tables e below (T1.setTop (mkF m 22 #[.val (.ref a1), .val (.long q2), .second, .val (.long q3), .second] [(.long q2)])) _
      refine XS.lloadN X1.here hx rfl (hb hby d3_22) rfl ?_
      show Steps p.tables e below (T1.setTop (mkF m 23 #[.val (.ref a1), .val (.long q2), .second, .val (.long q3), .second] [(.long q3), (.long q2)])) _
      refine XS.lcmp X1.here hx rfl (hb hby d3_23) rfl ?_
      exact kt
    by_cases hc9 : (0 : Int32) < (lcmpW q2 q3)
    · have sg10 : ∀ target, Steps p.tables e below (T1.setTop (mkF m 32 #[.val (.ref a1), .val (.long q2), .second, .val (.long q3), .second] [(.int (1 : Int32))])) target → Steps p.tables e below (T1.setTop (mkF m 24 #[.val (.ref a1), .val (.long q2), .second, .val (.long q3), .second] [(.int (lcmpW q2 q3))])) target := by
        intro target kt
        show Steps p.tables e below (T1.setTop (mkF m 24 #[.val (.ref a1), .val (.long q2), .second, .val (.long q3), .second] [(.int (lcmpW q2 q3))])) _
        refine XS.ifNo X1.here hx rfl (hb hby d3_24) rfl ((if0 _ _).trans (tlt hc9).2.2.2) ?_
        show Steps p.tables e below (T1.setTop (mkF m 27 #[.val (.ref a1), .val (.long q2), .second, .val (.long q3), .second] [])) _
        refine XS.iconst X1.here hx rfl (hb hby d3_27) ?_
        show Steps p.tables e below (T1.setTop (mkF m 28 #[.val (.ref a1), .val (.long q2), .second, .val (.long q3), .second] [(.int (1 : Int32))])) _
        refine XS.goto X1.here hx rfl (pc0 := 28) (pc' := 32) rfl (hb hby d3_28) (by decide) (by decide) ?_
        exact kt
      obtain ⟨fs, hr, hrun, hended, hW, hsame⟩ := X1.leave (v := some (.int (1 : Int32))) (fun h => by rw [Bd.returns] at h; cases h)
      refine ⟨_, _, pre0 _ (sg2 _ (sg8 _ (sg10 _ (?_)))), hrun, hended, _, _, rfl, ?_, ⟨_, rfl⟩, hW, hsame.mono (by decide) (by decide)⟩
      · show Steps p.tables e below (T1.setTop (mkF m 32 #[.val (.ref a1), .val (.long q2), .second, .val (.long q3), .second] [(.int (1 : Int32))])) _
        exact retN X1 hx (t := .boolean) Bd.returns (by simp) (hb hby d3_32) hr
      · show Q3 Z a1 q2 q3 wD wA h0 n0 _ T1.heap _
        rw [e1]
        exact ⟨(by rw [if_neg hc3, if_pos hc9]), N0, rfl⟩
    · have sg11 : ∀ target, Steps p.tables e below (T1.setTop (mkF m 32 #[.val (.ref a1), .val (.long q2), .second, .val (.long q3), .second] [(.int (0 : Int32))])) target → Steps p.tables e below (T1.setTop (mkF m 24 #[.val (.ref a1), .val (.long q2), .second, .val (.long q3), .second] [(.int (lcmpW q2 q3))])) target := by
        intro target kt
        show Steps p.tables e below (T1.setTop (mkF m 24 #[.val (.ref a1), .val (.long q2), .second, .val (.long q3), .second] [(.int (lcmpW q2 q3))])) _
        refine XS.ifYes X1.here hx rfl (pc0 := 24) (pc' := 31) rfl (hb hby d3_24) rfl ((if0 _ _).trans (flt hc9).2.2.2) (by decide) (by decide) ?_
        show Steps p.tables e below (T1.setTop (mkF m 31 #[.val (.ref a1), .val (.long q2), .second, .val (.long q3), .second] [])) _
        refine XS.iconst X1.here hx rfl (hb hby d3_31) ?_
        exact kt
      obtain ⟨fs, hr, hrun, hended, hW, hsame⟩ := X1.leave (v := some (.int (0 : Int32))) (fun h => by rw [Bd.returns] at h; cases h)
      refine ⟨_, _, pre0 _ (sg2 _ (sg8 _ (sg11 _ (?_)))), hrun, hended, _, _, rfl, ?_, ⟨_, rfl⟩, hW, hsame.mono (by decide) (by decide)⟩
      · show Steps p.tables e below (T1.setTop (mkF m 32 #[.val (.ref a1), .val (.long q2), .second, .val (.long q3), .second] [(.int (0 : Int32))])) _
        exact retN X1 hx (t := .boolean) Bd.returns (by simp) (hb hby d3_32) hr
      · show Q3 Z a1 q2 q3 wD wA h0 n0 _ T1.heap _
        rw [e1]
        exact ⟨(by rw [if_neg hc3, if_neg hc9]), N0, rfl⟩
def Q0 (Z : State) (q1 : Int64) (q2 : Int64) (wD : Addr) (wA : Addr) (h0 : Heap) (n0 : Nat) (v : Option Value) (h : Heap) (L : List Loc) : Prop := v = some (.int (1 : Int32)) ∧ Fr n0 L ∧ h = h0
theorem ef_0 (m : MethodId) (x0 : Int64) (x1 : Int64) : entryFrame m #[(.long x0), (.long x1)] maxLocals = mkF m 0 #[.val (.long x0), .second, .val (.long x1), .second, .unset, .unset, .unset, .unset, .unset, .unset, .unset, .unset, .unset] [] := by first | (simp [entryFrame, mkF, argsToLocals, Value.category, maxLocals]; done) | rfl
set_option maxRecDepth 65536 in
set_option maxHeartbeats 40000000 in
theorem rm0 (l : Launch) (Z : State) (a0 : Array Value) (hw : ∀ d ∈ tables_1, d.before a0 Z = true) (ws : List Jvm.Cond) (q1 : Int64) (q2 : Int64) (wD : Addr) (wA : Addr) (h0 : Heap) (n0 : Nat) (O0 : Old Z n0 h0) (hDA : ¬ wD = wA) (hXD : Exa Z Z.heap wD "com/example/chitragupta/chitragupta/core/Order") (hXA : Exa Z Z.heap wA "com/example/chitragupta/chitragupta/core/Order") (S_DESC : Sta Z Z.heap "com/example/chitragupta/chitragupta/core/Order" "DESC" "Lcom/example/chitragupta/chitragupta/core/Order;" (.ref wD)) (S_ASC : Sta Z Z.heap "com/example/chitragupta/chitragupta/core/Order" "ASC" "Lcom/example/chitragupta/chitragupta/core/Order;" (.ref wA)) :
    MetFree l x (head1 (Jvm.Cond.code x code maxLocals ret :: ws) room_1) (fun a U => a = #[(.long q1), (.long q2)] ∧ Z.Warmed39 U.vm ∧ U.heap = h0) (fun _ _ _ _ _ => True) (fun _ U o U' => ∃ v L, o = .returned v ∧ Q0 Z q1 q2 wD wA h0 n0 v U'.heap L ∧ FrameEnd U o U' L room_1.cells room_1.slots) := by
  refine MetFree.of_bodySF (plainFor_of_name pn_1) hisR ?_
  intro p e s m args below meth c s₁ Bd hml0 hP hK
  obtain ⟨rfl, hZ, hh⟩ := hP
  have hx := Bd.exec
  have hby := Bd.bytes
  have hml : c.maxLocals = 13 := hml0
  have hown : s.vm.findClass "com/example/chitragupta/chitragupta/core/OrderIsBetterPinLaw" = some m.cls := findClass_of_methodNamed Bd.named
  have hnm := (name_of_methodNamed Bd.named Bd.method).1
  have X0 : Stand p l e room_1 s m #[(.long q1), (.long q2)] below meth c s₁ [] 0 0 := Stand.of_body Bd
  have e0 : s₁.heap = h0 := by rw [← hh, Bd.state]; rfl
  have N0 := Fr.nil n0
  have pre0 : ∀ t, Steps p.tables e below (s₁.setTop (mkF m 0 #[.val (.long q1), .second, .val (.long q2), .second, .unset, .unset, .unset, .unset, .unset, .unset, .unset, .unset, .unset] [])) t → Steps p.tables e below (s₁.setTop (entryFrame m #[(.long q1), (.long q2)] maxLocals)) t := fun t k => castTop (ef_0 m q1 q2) k
  obtain ⟨_, _, ⟨T1, L1, k1, n1⟩, -, X1, ⟨Lc1, hQ1, l1, y1, z1⟩, st1⟩ := Jvm.LawKit.callS X0 hx (y := (⟨"java/lang/Math", "min", "(JJ)J"⟩ : MethodName)) hown (mvT hZ (hw _ (List.mem_of_getElem? (i := 0) rfl))) (mvT hZ (hw _ (List.mem_of_getElem? (i := 1) rfl))) (mvT hZ (hw _ (List.mem_of_getElem? (i := 2) rfl))) (mvT hZ (hw _ (List.mem_of_getElem? (i := 3) rfl))) (by decide) (backOf (W := 0) (rm1 l Z a0 hw [] q1 q2 h0 n0 O0 ) hZ (hw _ (List.mem_of_getElem? (i := 3) rfl)) (hw _ (List.mem_of_getElem? (i := 2) rfl)) (by decide) (by decide)) (g := (mkF m 2 #[.val (.long q1), .second, .val (.long q2), .second, .unset, .unset, .unset, .unset, .unset, .unset, .unset, .unset, .unset] [(.long q2), (.long q1)])) rfl (by rw [hml]; rfl) (argsL := [(.long q1), (.long q2)]) (rest := []) (lenOf pd_0 rfl) rfl (by show 2 * 0 + _ ≤ _; exact Nat.le_of_eq rfl) (hb hby at_2) (fun _ _ => ⟨rfl, e0, (by decide : 0 + 0 ≤ _), (by decide : 0 + 0 ≤ _)⟩)
  dsimp only [Pt.U, Pt.locs, Pt.cells, Pt.slots] at X1 l1 y1 z1 st1 hQ1
  subst l1 y1 z1
  obtain ⟨rfl, N1q, e1⟩ := hQ1
  have N1 := Fr.app N0 N1q
  obtain ⟨r1, hr1⟩ : ∃ z, z = (if (0 : Int32) < (lcmpW q1 q2) then q2 else q1) := ⟨_, rfl⟩
  rw [← hr1] at st1
  obtain ⟨_, _, ⟨T2, L2, k2, n2⟩, -, X2, ⟨Lc2, hQ2, l2, y2, z2⟩, st2⟩ := Jvm.LawKit.callS X1 hx (y := (⟨"java/lang/Math", "max", "(JJ)J"⟩ : MethodName)) hown (mvT hZ (hw _ (List.mem_of_getElem? (i := 4) rfl))) (mvT hZ (hw _ (List.mem_of_getElem? (i := 5) rfl))) (mvT hZ (hw _ (List.mem_of_getElem? (i := 2) rfl))) (mvT hZ (hw _ (List.mem_of_getElem? (i := 6) rfl))) (by decide) (backOf (W := 0) (rm2 l Z a0 hw [] q1 q2 h0 n0 O0 ) hZ (hw _ (List.mem_of_getElem? (i := 6) rfl)) (hw _ (List.mem_of_getElem? (i := 2) rfl)) (by decide) (by decide)) (g := (mkF m 9 #[.val (.long q1), .second, .val (.long q2), .second, .val (.long r1), .second, .unset, .unset, .unset, .unset, .unset, .unset, .unset] [(.long q2), (.long q1)])) rfl (by rw [hml]; rfl) (argsL := [(.long q1), (.long q2)]) (rest := []) (lenOf pd_0 rfl) rfl (by show 2 * 0 + _ ≤ _; exact Nat.le_of_eq rfl) (hb hby at_9) (fun _ _ => ⟨rfl, e1, (by decide : 0 + 0 ≤ _), (by decide : 0 + 0 ≤ _)⟩)
  dsimp only [Pt.U, Pt.locs, Pt.cells, Pt.slots] at X2 l2 y2 z2 st2 hQ2
  subst l2 y2 z2
  obtain ⟨rfl, N2q, e2⟩ := hQ2
  have N2 := Fr.app N1 N2q
  obtain ⟨r2, hr2⟩ : ∃ z, z = (if (lcmpW q1 q2) < (0 : Int32) then q2 else q1) := ⟨_, rfl⟩
  rw [← hr2] at st2
  have sg3 : ∀ target, Steps p.tables e below (T2.setTop (mkF m 14 #[.val (.long q1), .second, .val (.long q2), .second, .val (.long r1), .second, .val (.long r2), .second, .unset, .unset, .unset, .unset, .unset] [])) target → Steps p.tables e below (s₁.setTop (mkF m 0 #[.val (.long q1), .second, .val (.long q2), .second, .unset, .unset, .unset, .unset, .unset, .unset, .unset, .unset, .unset] [])) target := by
    intro target kt
    show Steps p.tables e below (s₁.setTop (mkF m 0 #[.val (.long q1), .second, .val (.long q2), .second, .unset, .unset, .unset, .unset, .unset, .unset, .unset, .unset, .unset] [])) _
    refine XS.lloadN X0.here hx rfl (hb hby at_0) rfl ?_
    show Steps p.tables e below (s₁.setTop (mkF m 1 #[.val (.long q1), .second, .val (.long q2), .second, .unset, .unset, .unset, .unset, .unset, .unset, .unset, .unset, .unset] [(.long q1)])) _
    refine XS.lloadN X0.here hx rfl (hb hby at_1) rfl ?_
    show Steps p.tables e below (s₁.setTop (mkF m 2 #[.val (.long q1), .second, .val (.long q2), .second, .unset, .unset, .unset, .unset, .unset, .unset, .unset, .unset, .unset] [(.long q2), (.long q1)])) _
    refine st1 _ ?_
    show Steps p.tables e below (T1.setTop (mkF m 5 #[.val (.long q1), .second, .val (.long q2), .second, .unset, .unset, .unset, .unset, .unset, .unset, .unset, .unset, .unset] [(.long r1)])) _
    refine XS.lstore X1.here hx rfl (hb hby at_5) rfl (l' := #[.val (.long q1), .second, .val (.long q2), .second, .val (.long r1), .second, .unset, .unset, .unset, .unset, .unset, .unset, .unset]) rfl ?_
    show Steps p.tables e below (T1.setTop (mkF m 7 #[.val (.long q1), .second, .val (.long q2), .second, .val (.long r1), .second, .unset, .unset, .unset, .unset, .unset, .unset, .unset] [])) _
    refine XS.lloadN X1.here hx rfl (hb hby at_7) rfl ?_
    show Steps p.tables e below (T1.setTop (mkF m 8 #[.val (.long q1), .second, .val (.long q2), .second, .val (.long r1), .second, .unset, .unset, .unset, .unset, .unset, .unset, .unset] [(.long q1)])) _
    refine XS.lloadN X1.here hx rfl (hb hby at_8) rfl ?_
    show Steps p.tables e below (T1.setTop (mkF m 9 #[.val (.long q1), .second, .val (.long q2), .second, .val (.long r1), .second, .unset, .unset, .unset, .unset, .unset, .unset, .unset] [(.long q2), (.long q1)])) _
    refine st2 _ ?_
    show Steps p.tables e below (T2.setTop (mkF m 12 #[.val (.long q1), .second, .val (.long q2), .second, .val (.long r1), .second, .unset, .unset, .unset, .unset, .unset, .unset, .unset] [(.long r2)])) _
    refine XS.lstore X2.here hx rfl (hb hby at_12) rfl (l' := #[.val (.long q1), .second, .val (.long q2), .second, .val (.long r1), .second, .val (.long r2), .second, .unset, .unset, .unset, .unset, .unset]) rfl ?_
    exact kt
  obtain ⟨T8, L8, v8_t0, X8, e8, N8, hv8_t0, sg8⟩ : ∃ (T' : State) (L' : List Loc) (v8_t0 : Int32), Stand p l e room_1 s m #[(.long q1), (.long q2)] below meth c T' L' 0 0 ∧ T'.heap = h0 ∧ Fr n0 L' ∧ v8_t0 = (if (lcmpW r1 r2) = (0 : Int32) then (0 : Int32) else (1 : Int32)) ∧ ∀ target, Steps p.tables e below (T'.setTop (mkF m 27 #[.val (.long q1), .second, .val (.long q2), .second, .val (.long r1), .second, .val (.long r2), .second, .unset, .unset, .unset, .unset, .unset] [(.int v8_t0)])) target → Steps p.tables e below (T2.setTop (mkF m 14 #[.val (.long q1), .second, .val (.long q2), .second, .val (.long r1), .second, .val (.long r2), .second, .unset, .unset, .unset, .unset, .unset] [])) target := by
    have sg4 : ∀ target, Steps p.tables e below (T2.setTop (mkF m 19 #[.val (.long q1), .second, .val (.long q2), .second, .val (.long r1), .second, .val (.long r2), .second, .unset, .unset, .unset, .unset, .unset] [(.int (lcmpW r1 r2))])) target → Steps p.tables e below (T2.setTop (mkF m 14 #[.val (.long q1), .second, .val (.long q2), .second, .val (.long r1), .second, .val (.long r2), .second, .unset, .unset, .unset, .unset, .unset] [])) target := by
      intro target kt
      show Steps p.tables e below (T2.setTop (mkF m 14 #[.val (.long q1), .second, .val (.long q2), .second, .val (.long r1), .second, .val (.long r2), .second, .unset, .unset, .unset, .unset, .unset] [])) _
      refine XS.lload X2.here hx rfl (hb hby at_14) rfl ?_
      show Steps p.tables e below (T2.setTop (mkF m 16 #[.val (.long q1), .second, .val (.long q2), .second, .val (.long r1), .second, .val (.long r2), .second, .unset, .unset, .unset, .unset, .unset] [(.long r1)])) _
      refine XS.lload X2.here hx rfl (hb hby at_16) rfl ?_
      show Steps p.tables e below (T2.setTop (mkF m 18 #[.val (.long q1), .second, .val (.long q2), .second, .val (.long r1), .second, .val (.long r2), .second, .unset, .unset, .unset, .unset, .unset] [(.long r2), (.long r1)])) _
      refine XS.lcmp X2.here hx rfl (hb hby at_18) rfl ?_
      exact kt
    by_cases hc5 : (lcmpW r1 r2) = (0 : Int32)
    · have sg6 : ∀ target, Steps p.tables e below (T2.setTop (mkF m 27 #[.val (.long q1), .second, .val (.long q2), .second, .val (.long r1), .second, .val (.long r2), .second, .unset, .unset, .unset, .unset, .unset] [(.int (0 : Int32))])) target → Steps p.tables e below (T2.setTop (mkF m 19 #[.val (.long q1), .second, .val (.long q2), .second, .val (.long r1), .second, .val (.long r2), .second, .unset, .unset, .unset, .unset, .unset] [(.int (lcmpW r1 r2))])) target := by
        intro target kt
        show Steps p.tables e below (T2.setTop (mkF m 19 #[.val (.long q1), .second, .val (.long q2), .second, .val (.long r1), .second, .val (.long r2), .second, .unset, .unset, .unset, .unset, .unset] [(.int (lcmpW r1 r2))])) _
        refine XS.ifYes X2.here hx rfl (pc0 := 19) (pc' := 26) rfl (hb hby at_19) rfl ((if0 _ _).trans (teq hc5).1) (by decide) (by decide) ?_
        show Steps p.tables e below (T2.setTop (mkF m 26 #[.val (.long q1), .second, .val (.long q2), .second, .val (.long r1), .second, .val (.long r2), .second, .unset, .unset, .unset, .unset, .unset] [])) _
        refine XS.iconst X2.here hx rfl (hb hby at_26) ?_
        exact kt
      exact ⟨T2, _, (0 : Int32), X2.mono (by decide) (by decide), e2, N2, (by rw [if_pos hc5]), fun target kt => sg4 _ (sg6 _ (kt))⟩
    · have sg7 : ∀ target, Steps p.tables e below (T2.setTop (mkF m 27 #[.val (.long q1), .second, .val (.long q2), .second, .val (.long r1), .second, .val (.long r2), .second, .unset, .unset, .unset, .unset, .unset] [(.int (1 : Int32))])) target → Steps p.tables e below (T2.setTop (mkF m 19 #[.val (.long q1), .second, .val (.long q2), .second, .val (.long r1), .second, .val (.long r2), .second, .unset, .unset, .unset, .unset, .unset] [(.int (lcmpW r1 r2))])) target := by
        intro target kt
        show Steps p.tables e below (T2.setTop (mkF m 19 #[.val (.long q1), .second, .val (.long q2), .second, .val (.long r1), .second, .val (.long r2), .second, .unset, .unset, .unset, .unset, .unset] [(.int (lcmpW r1 r2))])) _
        refine XS.ifNo X2.here hx rfl (hb hby at_19) rfl ((if0 _ _).trans (feq hc5).1) ?_
        show Steps p.tables e below (T2.setTop (mkF m 22 #[.val (.long q1), .second, .val (.long q2), .second, .val (.long r1), .second, .val (.long r2), .second, .unset, .unset, .unset, .unset, .unset] [])) _
        refine XS.iconst X2.here hx rfl (hb hby at_22) ?_
        show Steps p.tables e below (T2.setTop (mkF m 23 #[.val (.long q1), .second, .val (.long q2), .second, .val (.long r1), .second, .val (.long r2), .second, .unset, .unset, .unset, .unset, .unset] [(.int (1 : Int32))])) _
        refine XS.goto X2.here hx rfl (pc0 := 23) (pc' := 27) rfl (hb hby at_23) (by decide) (by decide) ?_
        exact kt
      exact ⟨T2, _, (1 : Int32), X2.mono (by decide) (by decide), e2, N2, (by rw [if_neg hc5]), fun target kt => sg4 _ (sg7 _ (kt))⟩
  obtain ⟨T9, X9, e9, st9⟩ := getS2 X8 hx hZ hown (host := "") (Or.inl (hw _ (List.mem_of_getElem? (i := 7) rfl))) Via.refl e8 (S_DESC.ext O0.2) (g := (mkF m 29 #[.val (.long q1), .second, .val (.long q2), .second, .val (.long r1), .second, .val (.long r2), .second, .val (.int v8_t0), .unset, .unset, .unset, .unset] [])) rfl (hb hby at_29)
  obtain ⟨cq10, kq10, q10a, q10b, q10c⟩ := isOf hZ e9 (hXD.ext O0.2)
  obtain ⟨_, _, ⟨T10, L10, k10, n10⟩, -, X10, ⟨Lc10, hQ10, l10, y10, z10⟩, st10⟩ := X9.virtualBack hx (y := (⟨"com/example/chitragupta/chitragupta/core/Order", "isBetter", "(JJ)Z"⟩ : MethodName)) (z := (⟨"com/example/chitragupta/chitragupta/core/Order", "isBetter", "(JJ)Z"⟩ : MethodName)) hown (mvT hZ (hw _ (List.mem_of_getElem? (i := 10) rfl))) (mvT hZ (hw _ (List.mem_of_getElem? (i := 11) rfl))) (notFace_of_selects (args := #[]) (mvT hZ (hw _ (List.mem_of_getElem? (i := 13) rfl)))) (mvT hZ (hw _ (List.mem_of_getElem? (i := 13) rfl))) (mvT hZ (hw _ (List.mem_of_getElem? (i := 12) rfl))) (by decide) (backOf (W := 0) (rm3 l Z a0 hw [] wD r2 r1 wD wA h0 n0 O0 S_DESC S_ASC) hZ (hw _ (List.mem_of_getElem? (i := 14) rfl)) (hw _ (List.mem_of_getElem? (i := 8) rfl)) (by decide) (by decide)) q10a q10c (g := (mkF m 36 #[.val (.long q1), .second, .val (.long q2), .second, .val (.long r1), .second, .val (.long r2), .second, .val (.int v8_t0), .unset, .unset, .unset, .unset] [(.long r1), (.long r2), (.ref wD)])) rfl (by rw [hml]; rfl) (Steps.refl _) (argsL := [(.long r2), (.long r1)]) (rest := []) (lenOf pd_1 rfl) rfl (by show 2 * 0 + _ ≤ _; exact Nat.le_of_eq rfl) (hb hby at_36) (fun _ _ => ⟨rfl, e9, (by decide : 0 + 0 ≤ _), (by decide : 0 + 0 ≤ _)⟩)
  dsimp only [Pt.U, Pt.locs, Pt.cells, Pt.slots] at X10 l10 y10 z10 st10 hQ10
  subst l10 y10 z10
  obtain ⟨rfl, N10q, e10⟩ := hQ10
  have N10 := Fr.app N8 N10q
  obtain ⟨r10, hr10⟩ : ∃ z, z = (if wD = wA then (if (lcmpW r2 r1) < (0 : Int32) then (1 : Int32) else (0 : Int32)) else (if (0 : Int32) < (lcmpW r2 r1) then (1 : Int32) else (0 : Int32))) := ⟨_, rfl⟩
  rw [← hr10] at st10
  obtain ⟨T11, X11, e11, st11⟩ := getS2 X10 hx hZ hown (host := "") (Or.inl (hw _ (List.mem_of_getElem? (i := 7) rfl))) Via.refl e10 (S_DESC.ext O0.2) (g := (mkF m 41 #[.val (.long q1), .second, .val (.long q2), .second, .val (.long r1), .second, .val (.long r2), .second, .val (.int v8_t0), .val (.int r10), .unset, .unset, .unset] [])) rfl (hb hby at_41)
  obtain ⟨cq12, kq12, q12a, q12b, q12c⟩ := isOf hZ e11 (hXD.ext O0.2)
  obtain ⟨_, _, ⟨T12, L12, k12, n12⟩, -, X12, ⟨Lc12, hQ12, l12, y12, z12⟩, st12⟩ := X11.virtualBack hx (y := (⟨"com/example/chitragupta/chitragupta/core/Order", "isBetter", "(JJ)Z"⟩ : MethodName)) (z := (⟨"com/example/chitragupta/chitragupta/core/Order", "isBetter", "(JJ)Z"⟩ : MethodName)) hown (mvT hZ (hw _ (List.mem_of_getElem? (i := 10) rfl))) (mvT hZ (hw _ (List.mem_of_getElem? (i := 11) rfl))) (notFace_of_selects (args := #[]) (mvT hZ (hw _ (List.mem_of_getElem? (i := 13) rfl)))) (mvT hZ (hw _ (List.mem_of_getElem? (i := 13) rfl))) (mvT hZ (hw _ (List.mem_of_getElem? (i := 12) rfl))) (by decide) (backOf (W := 0) (rm3 l Z a0 hw [] wD r1 r2 wD wA h0 n0 O0 S_DESC S_ASC) hZ (hw _ (List.mem_of_getElem? (i := 14) rfl)) (hw _ (List.mem_of_getElem? (i := 8) rfl)) (by decide) (by decide)) q12a q12c (g := (mkF m 48 #[.val (.long q1), .second, .val (.long q2), .second, .val (.long r1), .second, .val (.long r2), .second, .val (.int v8_t0), .val (.int r10), .unset, .unset, .unset] [(.long r2), (.long r1), (.ref wD)])) rfl (by rw [hml]; rfl) (Steps.refl _) (argsL := [(.long r1), (.long r2)]) (rest := []) (lenOf pd_1 rfl) rfl (by show 2 * 0 + _ ≤ _; exact Nat.le_of_eq rfl) (hb hby at_48) (fun _ _ => ⟨rfl, e11, (by decide : 0 + 0 ≤ _), (by decide : 0 + 0 ≤ _)⟩)
  dsimp only [Pt.U, Pt.locs, Pt.cells, Pt.slots] at X12 l12 y12 z12 st12 hQ12
  subst l12 y12 z12
  obtain ⟨rfl, N12q, e12⟩ := hQ12
  have N12 := Fr.app N10 N12q
  obtain ⟨r12, hr12⟩ : ∃ z, z = (if wD = wA then (if (lcmpW r1 r2) < (0 : Int32) then (1 : Int32) else (0 : Int32)) else (if (0 : Int32) < (lcmpW r1 r2) then (1 : Int32) else (0 : Int32))) := ⟨_, rfl⟩
  rw [← hr12] at st12
  obtain ⟨T13, X13, e13, st13⟩ := getS2 X12 hx hZ hown (host := "") (Or.inl (hw _ (List.mem_of_getElem? (i := 17) rfl))) Via.refl e12 (S_ASC.ext O0.2) (g := (mkF m 53 #[.val (.long q1), .second, .val (.long q2), .second, .val (.long r1), .second, .val (.long r2), .second, .val (.int v8_t0), .val (.int r10), .val (.int r12), .unset, .unset] [])) rfl (hb hby at_53)
  obtain ⟨cq14, kq14, q14a, q14b, q14c⟩ := isOf hZ e13 (hXA.ext O0.2)
  obtain ⟨_, _, ⟨T14, L14, k14, n14⟩, -, X14, ⟨Lc14, hQ14, l14, y14, z14⟩, st14⟩ := X13.virtualBack hx (y := (⟨"com/example/chitragupta/chitragupta/core/Order", "isBetter", "(JJ)Z"⟩ : MethodName)) (z := (⟨"com/example/chitragupta/chitragupta/core/Order", "isBetter", "(JJ)Z"⟩ : MethodName)) hown (mvT hZ (hw _ (List.mem_of_getElem? (i := 10) rfl))) (mvT hZ (hw _ (List.mem_of_getElem? (i := 11) rfl))) (notFace_of_selects (args := #[]) (mvT hZ (hw _ (List.mem_of_getElem? (i := 13) rfl)))) (mvT hZ (hw _ (List.mem_of_getElem? (i := 13) rfl))) (mvT hZ (hw _ (List.mem_of_getElem? (i := 12) rfl))) (by decide) (backOf (W := 0) (rm3 l Z a0 hw [] wA r1 r2 wD wA h0 n0 O0 S_DESC S_ASC) hZ (hw _ (List.mem_of_getElem? (i := 14) rfl)) (hw _ (List.mem_of_getElem? (i := 8) rfl)) (by decide) (by decide)) q14a q14c (g := (mkF m 60 #[.val (.long q1), .second, .val (.long q2), .second, .val (.long r1), .second, .val (.long r2), .second, .val (.int v8_t0), .val (.int r10), .val (.int r12), .unset, .unset] [(.long r2), (.long r1), (.ref wA)])) rfl (by rw [hml]; rfl) (Steps.refl _) (argsL := [(.long r1), (.long r2)]) (rest := []) (lenOf pd_1 rfl) rfl (by show 2 * 0 + _ ≤ _; exact Nat.le_of_eq rfl) (hb hby at_60) (fun _ _ => ⟨rfl, e13, (by decide : 0 + 0 ≤ _), (by decide : 0 + 0 ≤ _)⟩)
  dsimp only [Pt.U, Pt.locs, Pt.cells, Pt.slots] at X14 l14 y14 z14 st14 hQ14
  subst l14 y14 z14
  obtain ⟨rfl, N14q, e14⟩ := hQ14
  have N14 := Fr.app N12 N14q
  obtain ⟨r14, hr14⟩ : ∃ z, z = (if wA = wA then (if (lcmpW r1 r2) < (0 : Int32) then (1 : Int32) else (0 : Int32)) else (if (0 : Int32) < (lcmpW r1 r2) then (1 : Int32) else (0 : Int32))) := ⟨_, rfl⟩
  rw [← hr14] at st14
  obtain ⟨T15, X15, e15, st15⟩ := getS2 X14 hx hZ hown (host := "") (Or.inl (hw _ (List.mem_of_getElem? (i := 17) rfl))) Via.refl e14 (S_ASC.ext O0.2) (g := (mkF m 65 #[.val (.long q1), .second, .val (.long q2), .second, .val (.long r1), .second, .val (.long r2), .second, .val (.int v8_t0), .val (.int r10), .val (.int r12), .val (.int r14), .unset] [])) rfl (hb hby at_65)
  obtain ⟨cq16, kq16, q16a, q16b, q16c⟩ := isOf hZ e15 (hXA.ext O0.2)
  obtain ⟨_, _, ⟨T16, L16, k16, n16⟩, -, X16, ⟨Lc16, hQ16, l16, y16, z16⟩, st16⟩ := X15.virtualBack hx (y := (⟨"com/example/chitragupta/chitragupta/core/Order", "isBetter", "(JJ)Z"⟩ : MethodName)) (z := (⟨"com/example/chitragupta/chitragupta/core/Order", "isBetter", "(JJ)Z"⟩ : MethodName)) hown (mvT hZ (hw _ (List.mem_of_getElem? (i := 10) rfl))) (mvT hZ (hw _ (List.mem_of_getElem? (i := 11) rfl))) (notFace_of_selects (args := #[]) (mvT hZ (hw _ (List.mem_of_getElem? (i := 13) rfl)))) (mvT hZ (hw _ (List.mem_of_getElem? (i := 13) rfl))) (mvT hZ (hw _ (List.mem_of_getElem? (i := 12) rfl))) (by decide) (backOf (W := 0) (rm3 l Z a0 hw [] wA r2 r1 wD wA h0 n0 O0 S_DESC S_ASC) hZ (hw _ (List.mem_of_getElem? (i := 14) rfl)) (hw _ (List.mem_of_getElem? (i := 8) rfl)) (by decide) (by decide)) q16a q16c (g := (mkF m 72 #[.val (.long q1), .second, .val (.long q2), .second, .val (.long r1), .second, .val (.long r2), .second, .val (.int v8_t0), .val (.int r10), .val (.int r12), .val (.int r14), .unset] [(.long r1), (.long r2), (.ref wA)])) rfl (by rw [hml]; rfl) (Steps.refl _) (argsL := [(.long r2), (.long r1)]) (rest := []) (lenOf pd_1 rfl) rfl (by show 2 * 0 + _ ≤ _; exact Nat.le_of_eq rfl) (hb hby at_72) (fun _ _ => ⟨rfl, e15, (by decide : 0 + 0 ≤ _), (by decide : 0 + 0 ≤ _)⟩)
  dsimp only [Pt.U, Pt.locs, Pt.cells, Pt.slots] at X16 l16 y16 z16 st16 hQ16
  subst l16 y16 z16
  obtain ⟨rfl, N16q, e16⟩ := hQ16
  have N16 := Fr.app N14 N16q
  obtain ⟨r16, hr16⟩ : ∃ z, z = (if wA = wA then (if (lcmpW r2 r1) < (0 : Int32) then (1 : Int32) else (0 : Int32)) else (if (0 : Int32) < (lcmpW r2 r1) then (1 : Int32) else (0 : Int32))) := ⟨_, rfl⟩
  rw [← hr16] at st16
  have sg17 : ∀ target, Steps p.tables e below (T16.setTop (mkF m 77 #[.val (.long q1), .second, .val (.long q2), .second, .val (.long r1), .second, .val (.long r2), .second, .val (.int v8_t0), .val (.int r10), .val (.int r12), .val (.int r14), .val (.int r16)] [])) target → Steps p.tables e below (T8.setTop (mkF m 27 #[.val (.long q1), .second, .val (.long q2), .second, .val (.long r1), .second, .val (.long r2), .second, .unset, .unset, .unset, .unset, .unset] [(.int v8_t0)])) target := by
    intro target kt
    show Steps p.tables e below (T8.setTop (mkF m 27 #[.val (.long q1), .second, .val (.long q2), .second, .val (.long r1), .second, .val (.long r2), .second, .unset, .unset, .unset, .unset, .unset] [(.int v8_t0)])) _
    refine XS.istore X8.here hx rfl (hb hby at_27) rfl (l' := #[.val (.long q1), .second, .val (.long q2), .second, .val (.long r1), .second, .val (.long r2), .second, .val (.int v8_t0), .unset, .unset, .unset, .unset]) rfl ?_
    show Steps p.tables e below (T8.setTop (mkF m 29 #[.val (.long q1), .second, .val (.long q2), .second, .val (.long r1), .second, .val (.long r2), .second, .val (.int v8_t0), .unset, .unset, .unset, .unset] [])) _
    refine st9 _ ?_
    show Steps p.tables e below (T9.setTop (mkF m 32 #[.val (.long q1), .second, .val (.long q2), .second, .val (.long r1), .second, .val (.long r2), .second, .val (.int v8_t0), .unset, .unset, .unset, .unset] [(.ref wD)])) _
    refine XS.lload X9.here hx rfl (hb hby at_32) rfl ?_
    show Steps p.tables e below (T9.setTop (mkF m 34 #[.val (.long q1), .second, .val (.long q2), .second, .val (.long r1), .second, .val (.long r2), .second, .val (.int v8_t0), .unset, .unset, .unset, .unset] [(.long r2), (.ref wD)])) _
    refine XS.lload X9.here hx rfl (hb hby at_34) rfl ?_
    show Steps p.tables e below (T9.setTop (mkF m 36 #[.val (.long q1), .second, .val (.long q2), .second, .val (.long r1), .second, .val (.long r2), .second, .val (.int v8_t0), .unset, .unset, .unset, .unset] [(.long r1), (.long r2), (.ref wD)])) _
    refine st10.trans ?_
    show Steps p.tables e below (T10.setTop (mkF m 39 #[.val (.long q1), .second, .val (.long q2), .second, .val (.long r1), .second, .val (.long r2), .second, .val (.int v8_t0), .unset, .unset, .unset, .unset] [(.int r10)])) _
    refine XS.istore X10.here hx rfl (hb hby at_39) rfl (l' := #[.val (.long q1), .second, .val (.long q2), .second, .val (.long r1), .second, .val (.long r2), .second, .val (.int v8_t0), .val (.int r10), .unset, .unset, .unset]) rfl ?_
    show Steps p.tables e below (T10.setTop (mkF m 41 #[.val (.long q1), .second, .val (.long q2), .second, .val (.long r1), .second, .val (.long r2), .second, .val (.int v8_t0), .val (.int r10), .unset, .unset, .unset] [])) _
    refine st11 _ ?_
    show Steps p.tables e below (T11.setTop (mkF m 44 #[.val (.long q1), .second, .val (.long q2), .second, .val (.long r1), .second, .val (.long r2), .second, .val (.int v8_t0), .val (.int r10), .unset, .unset, .unset] [(.ref wD)])) _
    refine XS.lload X11.here hx rfl (hb hby at_44) rfl ?_
    show Steps p.tables e below (T11.setTop (mkF m 46 #[.val (.long q1), .second, .val (.long q2), .second, .val (.long r1), .second, .val (.long r2), .second, .val (.int v8_t0), .val (.int r10), .unset, .unset, .unset] [(.long r1), (.ref wD)])) _
    refine XS.lload X11.here hx rfl (hb hby at_46) rfl ?_
    show Steps p.tables e below (T11.setTop (mkF m 48 #[.val (.long q1), .second, .val (.long q2), .second, .val (.long r1), .second, .val (.long r2), .second, .val (.int v8_t0), .val (.int r10), .unset, .unset, .unset] [(.long r2), (.long r1), (.ref wD)])) _
    refine st12.trans ?_
    show Steps p.tables e below (T12.setTop (mkF m 51 #[.val (.long q1), .second, .val (.long q2), .second, .val (.long r1), .second, .val (.long r2), .second, .val (.int v8_t0), .val (.int r10), .unset, .unset, .unset] [(.int r12)])) _
    refine XS.istore X12.here hx rfl (hb hby at_51) rfl (l' := #[.val (.long q1), .second, .val (.long q2), .second, .val (.long r1), .second, .val (.long r2), .second, .val (.int v8_t0), .val (.int r10), .val (.int r12), .unset, .unset]) rfl ?_
    show Steps p.tables e below (T12.setTop (mkF m 53 #[.val (.long q1), .second, .val (.long q2), .second, .val (.long r1), .second, .val (.long r2), .second, .val (.int v8_t0), .val (.int r10), .val (.int r12), .unset, .unset] [])) _
    refine st13 _ ?_
    show Steps p.tables e below (T13.setTop (mkF m 56 #[.val (.long q1), .second, .val (.long q2), .second, .val (.long r1), .second, .val (.long r2), .second, .val (.int v8_t0), .val (.int r10), .val (.int r12), .unset, .unset] [(.ref wA)])) _
    refine XS.lload X13.here hx rfl (hb hby at_56) rfl ?_
    show Steps p.tables e below (T13.setTop (mkF m 58 #[.val (.long q1), .second, .val (.long q2), .second, .val (.long r1), .second, .val (.long r2), .second, .val (.int v8_t0), .val (.int r10), .val (.int r12), .unset, .unset] [(.long r1), (.ref wA)])) _
    refine XS.lload X13.here hx rfl (hb hby at_58) rfl ?_
    show Steps p.tables e below (T13.setTop (mkF m 60 #[.val (.long q1), .second, .val (.long q2), .second, .val (.long r1), .second, .val (.long r2), .second, .val (.int v8_t0), .val (.int r10), .val (.int r12), .unset, .unset] [(.long r2), (.long r1), (.ref wA)])) _
    refine st14.trans ?_
    show Steps p.tables e below (T14.setTop (mkF m 63 #[.val (.long q1), .second, .val (.long q2), .second, .val (.long r1), .second, .val (.long r2), .second, .val (.int v8_t0), .val (.int r10), .val (.int r12), .unset, .unset] [(.int r14)])) _
    refine XS.istore X14.here hx rfl (hb hby at_63) rfl (l' := #[.val (.long q1), .second, .val (.long q2), .second, .val (.long r1), .second, .val (.long r2), .second, .val (.int v8_t0), .val (.int r10), .val (.int r12), .val (.int r14), .unset]) rfl ?_
    show Steps p.tables e below (T14.setTop (mkF m 65 #[.val (.long q1), .second, .val (.long q2), .second, .val (.long r1), .second, .val (.long r2), .second, .val (.int v8_t0), .val (.int r10), .val (.int r12), .val (.int r14), .unset] [])) _
    refine st15 _ ?_
    show Steps p.tables e below (T15.setTop (mkF m 68 #[.val (.long q1), .second, .val (.long q2), .second, .val (.long r1), .second, .val (.long r2), .second, .val (.int v8_t0), .val (.int r10), .val (.int r12), .val (.int r14), .unset] [(.ref wA)])) _
    refine XS.lload X15.here hx rfl (hb hby at_68) rfl ?_
    show Steps p.tables e below (T15.setTop (mkF m 70 #[.val (.long q1), .second, .val (.long q2), .second, .val (.long r1), .second, .val (.long r2), .second, .val (.int v8_t0), .val (.int r10), .val (.int r12), .val (.int r14), .unset] [(.long r2), (.ref wA)])) _
    refine XS.lload X15.here hx rfl (hb hby at_70) rfl ?_
    show Steps p.tables e below (T15.setTop (mkF m 72 #[.val (.long q1), .second, .val (.long q2), .second, .val (.long r1), .second, .val (.long r2), .second, .val (.int v8_t0), .val (.int r10), .val (.int r12), .val (.int r14), .unset] [(.long r1), (.long r2), (.ref wA)])) _
    refine st16.trans ?_
    show Steps p.tables e below (T16.setTop (mkF m 75 #[.val (.long q1), .second, .val (.long q2), .second, .val (.long r1), .second, .val (.long r2), .second, .val (.int v8_t0), .val (.int r10), .val (.int r12), .val (.int r14), .unset] [(.int r16)])) _
    refine XS.istore X16.here hx rfl (hb hby at_75) rfl (l' := #[.val (.long q1), .second, .val (.long q2), .second, .val (.long r1), .second, .val (.long r2), .second, .val (.int v8_t0), .val (.int r10), .val (.int r12), .val (.int r14), .val (.int r16)]) rfl ?_
    exact kt
  obtain ⟨T31, L31, v31_t0, X31, e31, N31, hv31_t0, sg31⟩ : ∃ (T' : State) (L' : List Loc) (v31_t0 : Int32), Stand p l e room_1 s m #[(.long q1), (.long q2)] below meth c T' L' 0 0 ∧ T'.heap = h0 ∧ Fr n0 L' ∧ v31_t0 = (if r10 = v8_t0 then (if r12 = (0 : Int32) then (if r14 = v8_t0 then (if r16 = (0 : Int32) then (1 : Int32) else (0 : Int32)) else (0 : Int32)) else (0 : Int32)) else (0 : Int32)) ∧ ∀ target, Steps p.tables e below (T'.setTop (mkF m 106 #[.val (.long q1), .second, .val (.long q2), .second, .val (.long r1), .second, .val (.long r2), .second, .val (.int v8_t0), .val (.int r10), .val (.int r12), .val (.int r14), .val (.int r16)] [(.int v31_t0)])) target → Steps p.tables e below (T16.setTop (mkF m 77 #[.val (.long q1), .second, .val (.long q2), .second, .val (.long r1), .second, .val (.long r2), .second, .val (.int v8_t0), .val (.int r10), .val (.int r12), .val (.int r14), .val (.int r16)] [])) target := by
    have sg18 : ∀ target, Steps p.tables e below (T16.setTop (mkF m 81 #[.val (.long q1), .second, .val (.long q2), .second, .val (.long r1), .second, .val (.long r2), .second, .val (.int v8_t0), .val (.int r10), .val (.int r12), .val (.int r14), .val (.int r16)] [(.int v8_t0), (.int r10)])) target → Steps p.tables e below (T16.setTop (mkF m 77 #[.val (.long q1), .second, .val (.long q2), .second, .val (.long r1), .second, .val (.long r2), .second, .val (.int v8_t0), .val (.int r10), .val (.int r12), .val (.int r14), .val (.int r16)] [])) target := by
      intro target kt
      show Steps p.tables e below (T16.setTop (mkF m 77 #[.val (.long q1), .second, .val (.long q2), .second, .val (.long r1), .second, .val (.long r2), .second, .val (.int v8_t0), .val (.int r10), .val (.int r12), .val (.int r14), .val (.int r16)] [])) _
      refine XS.iload X16.here hx rfl (hb hby at_77) rfl ?_
      show Steps p.tables e below (T16.setTop (mkF m 79 #[.val (.long q1), .second, .val (.long q2), .second, .val (.long r1), .second, .val (.long r2), .second, .val (.int v8_t0), .val (.int r10), .val (.int r12), .val (.int r14), .val (.int r16)] [(.int r10)])) _
      refine XS.iload X16.here hx rfl (hb hby at_79) rfl ?_
      exact kt
    by_cases hc19 : r10 = v8_t0
    · have sg20 : ∀ target, Steps p.tables e below (T16.setTop (mkF m 86 #[.val (.long q1), .second, .val (.long q2), .second, .val (.long r1), .second, .val (.long r2), .second, .val (.int v8_t0), .val (.int r10), .val (.int r12), .val (.int r14), .val (.int r16)] [(.int r12)])) target → Steps p.tables e below (T16.setTop (mkF m 81 #[.val (.long q1), .second, .val (.long q2), .second, .val (.long r1), .second, .val (.long r2), .second, .val (.int v8_t0), .val (.int r10), .val (.int r12), .val (.int r14), .val (.int r16)] [(.int v8_t0), (.int r10)])) target := by
        intro target kt
        show Steps p.tables e below (T16.setTop (mkF m 81 #[.val (.long q1), .second, .val (.long q2), .second, .val (.long r1), .second, .val (.long r2), .second, .val (.int v8_t0), .val (.int r10), .val (.int r12), .val (.int r14), .val (.int r16)] [(.int v8_t0), (.int r10)])) _
        refine XS.icmpNo X16.here hx rfl (hb hby at_81) rfl (teq hc19).2 ?_
        show Steps p.tables e below (T16.setTop (mkF m 84 #[.val (.long q1), .second, .val (.long q2), .second, .val (.long r1), .second, .val (.long r2), .second, .val (.int v8_t0), .val (.int r10), .val (.int r12), .val (.int r14), .val (.int r16)] [])) _
        refine XS.iload X16.here hx rfl (hb hby at_84) rfl ?_
        exact kt
      by_cases hc21 : r12 = (0 : Int32)
      · have sg22 : ∀ target, Steps p.tables e below (T16.setTop (mkF m 93 #[.val (.long q1), .second, .val (.long q2), .second, .val (.long r1), .second, .val (.long r2), .second, .val (.int v8_t0), .val (.int r10), .val (.int r12), .val (.int r14), .val (.int r16)] [(.int v8_t0), (.int r14)])) target → Steps p.tables e below (T16.setTop (mkF m 86 #[.val (.long q1), .second, .val (.long q2), .second, .val (.long r1), .second, .val (.long r2), .second, .val (.int v8_t0), .val (.int r10), .val (.int r12), .val (.int r14), .val (.int r16)] [(.int r12)])) target := by
          intro target kt
          show Steps p.tables e below (T16.setTop (mkF m 86 #[.val (.long q1), .second, .val (.long q2), .second, .val (.long r1), .second, .val (.long r2), .second, .val (.int v8_t0), .val (.int r10), .val (.int r12), .val (.int r14), .val (.int r16)] [(.int r12)])) _
          refine XS.ifNo X16.here hx rfl (hb hby at_86) rfl ((if0 _ _).trans (teq hc21).2) ?_
          show Steps p.tables e below (T16.setTop (mkF m 89 #[.val (.long q1), .second, .val (.long q2), .second, .val (.long r1), .second, .val (.long r2), .second, .val (.int v8_t0), .val (.int r10), .val (.int r12), .val (.int r14), .val (.int r16)] [])) _
          refine XS.iload X16.here hx rfl (hb hby at_89) rfl ?_
          show Steps p.tables e below (T16.setTop (mkF m 91 #[.val (.long q1), .second, .val (.long q2), .second, .val (.long r1), .second, .val (.long r2), .second, .val (.int v8_t0), .val (.int r10), .val (.int r12), .val (.int r14), .val (.int r16)] [(.int r14)])) _
          refine XS.iload X16.here hx rfl (hb hby at_91) rfl ?_
          exact kt
        by_cases hc23 : r14 = v8_t0
        · have sg24 : ∀ target, Steps p.tables e below (T16.setTop (mkF m 98 #[.val (.long q1), .second, .val (.long q2), .second, .val (.long r1), .second, .val (.long r2), .second, .val (.int v8_t0), .val (.int r10), .val (.int r12), .val (.int r14), .val (.int r16)] [(.int r16)])) target → Steps p.tables e below (T16.setTop (mkF m 93 #[.val (.long q1), .second, .val (.long q2), .second, .val (.long r1), .second, .val (.long r2), .second, .val (.int v8_t0), .val (.int r10), .val (.int r12), .val (.int r14), .val (.int r16)] [(.int v8_t0), (.int r14)])) target := by
            intro target kt
            show Steps p.tables e below (T16.setTop (mkF m 93 #[.val (.long q1), .second, .val (.long q2), .second, .val (.long r1), .second, .val (.long r2), .second, .val (.int v8_t0), .val (.int r10), .val (.int r12), .val (.int r14), .val (.int r16)] [(.int v8_t0), (.int r14)])) _
            refine XS.icmpNo X16.here hx rfl (hb hby at_93) rfl (teq hc23).2 ?_
            show Steps p.tables e below (T16.setTop (mkF m 96 #[.val (.long q1), .second, .val (.long q2), .second, .val (.long r1), .second, .val (.long r2), .second, .val (.int v8_t0), .val (.int r10), .val (.int r12), .val (.int r14), .val (.int r16)] [])) _
            refine XS.iload X16.here hx rfl (hb hby at_96) rfl ?_
            exact kt
          by_cases hc25 : r16 = (0 : Int32)
          · have sg26 : ∀ target, Steps p.tables e below (T16.setTop (mkF m 106 #[.val (.long q1), .second, .val (.long q2), .second, .val (.long r1), .second, .val (.long r2), .second, .val (.int v8_t0), .val (.int r10), .val (.int r12), .val (.int r14), .val (.int r16)] [(.int (1 : Int32))])) target → Steps p.tables e below (T16.setTop (mkF m 98 #[.val (.long q1), .second, .val (.long q2), .second, .val (.long r1), .second, .val (.long r2), .second, .val (.int v8_t0), .val (.int r10), .val (.int r12), .val (.int r14), .val (.int r16)] [(.int r16)])) target := by
              intro target kt
              show Steps p.tables e below (T16.setTop (mkF m 98 #[.val (.long q1), .second, .val (.long q2), .second, .val (.long r1), .second, .val (.long r2), .second, .val (.int v8_t0), .val (.int r10), .val (.int r12), .val (.int r14), .val (.int r16)] [(.int r16)])) _
              refine XS.ifNo X16.here hx rfl (hb hby at_98) rfl ((if0 _ _).trans (teq hc25).2) ?_
              show Steps p.tables e below (T16.setTop (mkF m 101 #[.val (.long q1), .second, .val (.long q2), .second, .val (.long r1), .second, .val (.long r2), .second, .val (.int v8_t0), .val (.int r10), .val (.int r12), .val (.int r14), .val (.int r16)] [])) _
              refine XS.iconst X16.here hx rfl (hb hby at_101) ?_
              show Steps p.tables e below (T16.setTop (mkF m 102 #[.val (.long q1), .second, .val (.long q2), .second, .val (.long r1), .second, .val (.long r2), .second, .val (.int v8_t0), .val (.int r10), .val (.int r12), .val (.int r14), .val (.int r16)] [(.int (1 : Int32))])) _
              refine XS.goto X16.here hx rfl (pc0 := 102) (pc' := 106) rfl (hb hby at_102) (by decide) (by decide) ?_
              exact kt
            exact ⟨T16, _, (1 : Int32), X16.mono (by decide) (by decide), e16, N16, (by rw [if_pos hc19, if_pos hc21, if_pos hc23, if_pos hc25]), fun target kt => sg18 _ (sg20 _ (sg22 _ (sg24 _ (sg26 _ (kt)))))⟩
          · have sg27 : ∀ target, Steps p.tables e below (T16.setTop (mkF m 106 #[.val (.long q1), .second, .val (.long q2), .second, .val (.long r1), .second, .val (.long r2), .second, .val (.int v8_t0), .val (.int r10), .val (.int r12), .val (.int r14), .val (.int r16)] [(.int (0 : Int32))])) target → Steps p.tables e below (T16.setTop (mkF m 98 #[.val (.long q1), .second, .val (.long q2), .second, .val (.long r1), .second, .val (.long r2), .second, .val (.int v8_t0), .val (.int r10), .val (.int r12), .val (.int r14), .val (.int r16)] [(.int r16)])) target := by
              intro target kt
              show Steps p.tables e below (T16.setTop (mkF m 98 #[.val (.long q1), .second, .val (.long q2), .second, .val (.long r1), .second, .val (.long r2), .second, .val (.int v8_t0), .val (.int r10), .val (.int r12), .val (.int r14), .val (.int r16)] [(.int r16)])) _
              refine XS.ifYes X16.here hx rfl (pc0 := 98) (pc' := 105) rfl (hb hby at_98) rfl ((if0 _ _).trans (feq hc25).2) (by decide) (by decide) ?_
              show Steps p.tables e below (T16.setTop (mkF m 105 #[.val (.long q1), .second, .val (.long q2), .second, .val (.long r1), .second, .val (.long r2), .second, .val (.int v8_t0), .val (.int r10), .val (.int r12), .val (.int r14), .val (.int r16)] [])) _
              refine XS.iconst X16.here hx rfl (hb hby at_105) ?_
              exact kt
            exact ⟨T16, _, (0 : Int32), X16.mono (by decide) (by decide), e16, N16, (by rw [if_pos hc19, if_pos hc21, if_pos hc23, if_neg hc25]), fun target kt => sg18 _ (sg20 _ (sg22 _ (sg24 _ (sg27 _ (kt)))))⟩
        · have sg28 : ∀ target, Steps p.tables e below (T16.setTop (mkF m 106 #[.val (.long q1), .second, .val (.long q2), .second, .val (.long r1), .second, .val (.long r2), .second, .val (.int v8_t0), .val (.int r10), .val (.int r12), .val (.int r14), .val (.int r16)] [(.int (0 : Int32))])) target → Steps p.tables e below (T16.setTop (mkF m 93 #[.val (.long q1), .second, .val (.long q2), .second, .val (.long r1), .second, .val (.long r2), .second, .val (.int v8_t0), .val (.int r10), .val (.int r12), .val (.int r14), .val (.int r16)] [(.int v8_t0), (.int r14)])) target := by
            intro target kt
            show Steps p.tables e below (T16.setTop (mkF m 93 #[.val (.long q1), .second, .val (.long q2), .second, .val (.long r1), .second, .val (.long r2), .second, .val (.int v8_t0), .val (.int r10), .val (.int r12), .val (.int r14), .val (.int r16)] [(.int v8_t0), (.int r14)])) _
            refine XS.icmpYes X16.here hx rfl (pc0 := 93) (pc' := 105) rfl (hb hby at_93) rfl (feq hc23).2 (by decide) (by decide) ?_
            show Steps p.tables e below (T16.setTop (mkF m 105 #[.val (.long q1), .second, .val (.long q2), .second, .val (.long r1), .second, .val (.long r2), .second, .val (.int v8_t0), .val (.int r10), .val (.int r12), .val (.int r14), .val (.int r16)] [])) _
            refine XS.iconst X16.here hx rfl (hb hby at_105) ?_
            exact kt
          exact ⟨T16, _, (0 : Int32), X16.mono (by decide) (by decide), e16, N16, (by rw [if_pos hc19, if_pos hc21, if_neg hc23]), fun target kt => sg18 _ (sg20 _ (sg22 _ (sg28 _ (kt))))⟩
      · have sg29 : ∀ target, Steps p.tables e below (T16.setTop (mkF m 106 #[.val (.long q1), .second, .val (.long q2), .second, .val (.long r1), .second, .val (.long r2), .second, .val (.int v8_t0), .val (.int r10), .val (.int r12), .val (.int r14), .val (.int r16)] [(.int (0 : Int32))])) target → Steps p.tables e below (T16.setTop (mkF m 86 #[.val (.long q1), .second, .val (.long q2), .second, .val (.long r1), .second, .val (.long r2), .second, .val (.int v8_t0), .val (.int r10), .val (.int r12), .val (.int r14), .val (.int r16)] [(.int r12)])) target := by
          intro target kt
          show Steps p.tables e below (T16.setTop (mkF m 86 #[.val (.long q1), .second, .val (.long q2), .second, .val (.long r1), .second, .val (.long r2), .second, .val (.int v8_t0), .val (.int r10), .val (.int r12), .val (.int r14), .val (.int r16)] [(.int r12)])) _
          refine XS.ifYes X16.here hx rfl (pc0 := 86) (pc' := 105) rfl (hb hby at_86) rfl ((if0 _ _).trans (feq hc21).2) (by decide) (by decide) ?_
          show Steps p.tables e below (T16.setTop (mkF m 105 #[.val (.long q1), .second, .val (.long q2), .second, .val (.long r1), .second, .val (.long r2), .second, .val (.int v8_t0), .val (.int r10), .val (.int r12), .val (.int r14), .val (.int r16)] [])) _
          refine XS.iconst X16.here hx rfl (hb hby at_105) ?_
          exact kt
        exact ⟨T16, _, (0 : Int32), X16.mono (by decide) (by decide), e16, N16, (by rw [if_pos hc19, if_neg hc21]), fun target kt => sg18 _ (sg20 _ (sg29 _ (kt)))⟩
    · have sg30 : ∀ target, Steps p.tables e below (T16.setTop (mkF m 106 #[.val (.long q1), .second, .val (.long q2), .second, .val (.long r1), .second, .val (.long r2), .second, .val (.int v8_t0), .val (.int r10), .val (.int r12), .val (.int r14), .val (.int r16)] [(.int (0 : Int32))])) target → Steps p.tables e below (T16.setTop (mkF m 81 #[.val (.long q1), .second, .val (.long q2), .second, .val (.long r1), .second, .val (.long r2), .second, .val (.int v8_t0), .val (.int r10), .val (.int r12), .val (.int r14), .val (.int r16)] [(.int v8_t0), (.int r10)])) target := by
        intro target kt
        show Steps p.tables e below (T16.setTop (mkF m 81 #[.val (.long q1), .second, .val (.long q2), .second, .val (.long r1), .second, .val (.long r2), .second, .val (.int v8_t0), .val (.int r10), .val (.int r12), .val (.int r14), .val (.int r16)] [(.int v8_t0), (.int r10)])) _
        refine XS.icmpYes X16.here hx rfl (pc0 := 81) (pc' := 105) rfl (hb hby at_81) rfl (feq hc19).2 (by decide) (by decide) ?_
        show Steps p.tables e below (T16.setTop (mkF m 105 #[.val (.long q1), .second, .val (.long q2), .second, .val (.long r1), .second, .val (.long r2), .second, .val (.int v8_t0), .val (.int r10), .val (.int r12), .val (.int r14), .val (.int r16)] [])) _
        refine XS.iconst X16.here hx rfl (hb hby at_105) ?_
        exact kt
      exact ⟨T16, _, (0 : Int32), X16.mono (by decide) (by decide), e16, N16, (by rw [if_neg hc19]), fun target kt => sg18 _ (sg30 _ (kt))⟩
  have hfin : v31_t0 = 1 := own_plain hDA hr1 hr2 hv8_t0 hr10 hr12 hr14 hr16 hv31_t0
  subst hfin
  obtain ⟨fs, hr, hrun, hended, hW, hsame⟩ := X31.leave (v := some (.int (1 : Int32))) (fun h => by rw [Bd.returns] at h; cases h)
  refine ⟨_, _, pre0 _ (sg3 _ (sg8 _ (sg17 _ (sg31 _ (?_))))), hrun, hended, _, _, rfl, ?_, ⟨_, rfl⟩, hW, hsame.mono (by decide) (by decide)⟩
  · show Steps p.tables e below (T31.setTop (mkF m 106 #[.val (.long q1), .second, .val (.long q2), .second, .val (.long r1), .second, .val (.long r2), .second, .val (.int v8_t0), .val (.int r10), .val (.int r12), .val (.int r14), .val (.int r16)] [(.int (1 : Int32))])) _
    exact retN X31 hx (t := .boolean) Bd.returns (by simp) (hb hby at_106) hr
  · show Q0 Z q1 q2 wD wA h0 n0 _ T31.heap _
    rw [e31]
    exact ⟨rfl, N31, rfl⟩
set_option maxRecDepth 65536 in
set_option maxHeartbeats 40000000 in
theorem comes_1 {Post : Tables → Env → Array Value → State → Outcome → State → Prop} (hpost : ∀ tb e args s v u, (limb_1_1.after args s (.returned v) u = true ∧ limb_1_2.after args s (.returned v) u = true ∧ True) → FrameEnd s (.returned v) u (Jvm.fieldLocs frame_1_writes args s ++ Jvm.arrayLocs frame_1_arrays args s ++ Jvm.staticLocs frame_1_statics s) 0 0 → Post tb e args s (.returned v) u) :
    ArmFor flags0 classFile x code maxLocals ret World_1 tables_1 room_1 Calls_1 rest_1 Pre_1 Post := by
  intro l hfl _ _ p e ha hc hk s m args below hf hA hF happ hP
  obtain ⟨hcalls, hrest, hpre⟩ := hP
  obtain ⟨-, -, -, hnamed, -, -, -, hat⟩ := (Spec.applies_iff hf).mp happ
  obtain ⟨hg, hn⟩ := and_e (Cond.before_iff.mp (show (Jvm.Cond.and given_1 narrow_1).before args s = true from hpre))
  obtain ⟨g1, g2⟩ := and_e hg
  obtain ⟨g3, g4⟩ := and_e g2
  obtain ⟨n5, n6⟩ := and_e hn
  obtain ⟨n7, n8⟩ := and_e n6
  obtain ⟨n9, n10⟩ := and_e n8
  obtain ⟨w0, w1, rfl⟩ : ∃ w0 w1 : Value, args = #[w0, w1] := by
    have hs : args.size = 2 := by simpa [Cond.value, given_1] using g1
    obtain ⟨L⟩ := args
    match L, hs with
    | [w0, w1], _ => exact ⟨w0, w1, rfl⟩
  have hw := fun d (hd : d ∈ tables_1) => atoms_spec (ws := Jvm.Cond.code x code maxLocals ret :: tables_1) hat d (List.mem_cons_of_mem _ hd)
  have hfit : Fit s := fun {y c} hc i hi => by
    obtain ⟨ha, rfl⟩ := Array.getElem?_eq_some_iff.mp hc
    have q := List.all_eq_true.mp ((Array.all_eq_true_iff_forall_mem.mp hF) _ (Array.getElem_mem ha)) i (List.mem_range.mpr hi)
    simpa [Array.getElem?_eq_getElem hi] using q
  obtain ⟨i0, ei0⟩ := isL_v g3
  obtain rfl : w0 = (.long i0) := Option.some.inj ei0
  obtain ⟨i1, ei1⟩ := isL_v g4
  obtain rfl : w1 = (.long i1) := Option.some.inj ei1
  obtain ⟨wD, ev_DESC⟩ := exa_v n5
  have EX_DESC := Exa.start ev_DESC n5
  have SS_DESC := Sta.start ev_DESC (Or.inr ⟨(hw _ (List.mem_of_getElem? (i := 8) rfl)), (hw _ (List.mem_of_getElem? (i := 9) rfl))⟩)
  obtain ⟨wA, ev_ASC⟩ := exa_v n7
  have EX_ASC := Exa.start ev_ASC n7
  have SS_ASC := Sta.start ev_ASC (Or.inr ⟨(hw _ (List.mem_of_getElem? (i := 8) rfl)), (hw _ (List.mem_of_getElem? (i := 16) rfl))⟩)
  have oo_DESC := own_fo ev_DESC n9
  have oo_ASC := own_fo ev_ASC n10
  obtain ⟨n, o, h1, h2, h3, _, L, rfl, ⟨rfl, N, -⟩, hq⟩ := rm0 l s _ hw tables_1 i0 i1 wD wA s.heap s.heap.size (Old.start s) (own_ne oo_DESC oo_ASC (by decide)) EX_DESC EX_ASC SS_DESC SS_ASC p e ha hc hk s m _ below hf ((Spec.applies_iff_loose hf).mp happ).1 ⟨rfl, State.Warmed39.refl s, rfl⟩ trivial
  refine ⟨n, _, h1, h2, h3, hpost _ _ _ _ _ _ ⟨Cond.after_iff.mpr rfl, Cond.after_iff.mpr (eq_i res_at (Term.int_eval (1)) rfl), trivial⟩ ⟨hq.1, hq.2.1, (hq.2.2.sift fun y hy => Or.inr (N y hy)).mono (by decide) (by decide)⟩⟩
theorem main_1_1 : Claimed_1_1 := comes_1 fun _ _ _ _ _ _ h hF => ⟨h.1, hF⟩
theorem main_1_2 : Claimed_1_2 := comes_1 fun _ _ _ _ _ _ h hF => ⟨h.2.1, hF⟩
end Jvm.Pilot.@@N@@
namespace Jvm.Pilot.@@N@@
open Jvm Jvm.ClassFile Sem Op Lib Jvm.Free Jvm.Stand Jvm.Pilot.@@N@@.Jvm.D
/-! MADE BY PROGRAM (witnessworld.py) out of the Statement's table words and the real class files: 13 classes; the members and pool entries that the words name. The judged class is class 1, her method 1. -/
namespace start1
open Jvm.ClassFile
def u (s : String) : CpInfo := .utf8 (stringToUtf16 s)
/-- a pool by its gaps: so many unusable entries, then the entry; so many at the end -/
def gap : Nat → List CpInfo → List CpInfo
  | 0, r => r
  | n + 1, r => .unusable :: gap n r
def poolList (es : List (Nat × CpInfo)) (last : Nat) : List CpInfo := es.foldr (fun e r => gap e.1 (e.2 :: r)) (gap last [])
def pool (es : List (Nat × CpInfo)) (last : Nat) : Array CpInfo := ⟨poolList es last⟩
def fileOf (pool : Array CpInfo) (this : Nat) (attrs : Array Attribute := #[]) (ms : Array MethodInfo := #[]) (fl : Nat := 33) (sup : Nat := 0) (ifs : Array Nat := #[]) (fds : Array FieldInfo := #[]) : ClassFile where
  minorVersion := 0
  majorVersion := 65
  constantPool := pool
  accessFlags := fl
  thisClass := this
  superClass := sup
  interfaces := ifs
  fields := fds
  methods := ms
  attributes := attrs
def plain (name : String) (sup : Option ClassId) : Class where
  name := name
  kind := .ordinary
  loader := none
  accessFlags := 33
  super := sup
  interfaces := #[]
  cf := none
  fields := #[]
  methods := #[]
  instanceTypes := #[]
  staticTypes := #[]
  resolved := #[]
  callSites := []
  init := .initialized
  statics := none
  mirror := none

def pool0 : Array CpInfo := pool [(5, u "<init>"), (0, u "()V"), (1, .class_ 10), (1, u "java/lang/Object")] 113

def k0m0 : Method := { name := "<init>", desc := "()V", sig := { parameters := [], returnType := none }, accessFlags := 1, code := none }
/-- java/lang/Object -/
def k0 : Class := { plain "java/lang/Object" none with
  accessFlags := 33
  interfaces := #[]
  cf := some (fileOf pool0 8 #[] #[{ accessFlags := 1, nameIndex := 5, descriptorIndex := 6, attributes := #[] }] 33 0 #[] #[])
  fields := #[]
  methods := #[k0m0]
  instanceTypes := #[]
  staticTypes := #[]
  resolved := Array.replicate 124 none
  statics := none }

def pool1 : Array CpInfo := pool [(2, .class_ 4), (1, u "java/lang/Object"), (0, u "<init>"), (0, u "()V"), (0, .methodref 8 9), (0, .class_ 10), (0, .nameAndType 11 12), (0, u "java/lang/Math"), (0, u "min"), (0, u "(JJ)J"), (0, .methodref 8 14), (0, .nameAndType 15 12), (0, u "max"), (0, .fieldref 17 18), (0, .class_ 19), (0, .nameAndType 20 21), (0, u "com/example/chitragupta/chitragupta/core/Order"), (0, u "DESC"), (0, u "Lcom/example/chitragupta/chitragupta/core/Order;"), (0, .methodref 17 23), (0, .nameAndType 24 25), (0, u "isBetter"), (0, u "(JJ)Z"), (0, .fieldref 17 27), (0, .nameAndType 28 21), (0, u "ASC"), (0, .class_ 30), (0, u "com/example/chitragupta/chitragupta/core/OrderIsBetterPinLaw"), (2, u "law")] 3

def k1m0 : Method := { name := "<init>", desc := "()V", sig := { parameters := [], returnType := none }, accessFlags := 1, code := none }
def k1c1 : Code := { maxStack := 5, maxLocals := 13, code := code, exceptionTable := #[], attributes := #[] }
def k1m1 : Method := { name := "law", desc := "(JJ)Z", sig := { parameters := [.long, .long], returnType := some .boolean }, accessFlags := 9, code := some k1c1 }
/-- com/example/chitragupta/chitragupta/core/OrderIsBetterPinLaw -/
def k1 : Class := { plain "com/example/chitragupta/chitragupta/core/OrderIsBetterPinLaw" (some 0) with
  accessFlags := 49
  interfaces := #[]
  cf := some (fileOf pool1 29 #[] #[{ accessFlags := 1, nameIndex := 5, descriptorIndex := 6, attributes := #[] }, { accessFlags := 9, nameIndex := 33, descriptorIndex := 25, attributes := #[] }] 49 2 #[] #[])
  fields := #[]
  methods := #[k1m0, k1m1]
  instanceTypes := #[]
  staticTypes := #[]
  resolved := Array.replicate 37 none
  statics := none }

def pool2 : Array CpInfo := pool [(1, .class_ 2), (0, u "java/lang/Math"), (1, .class_ 6), (1, u "java/lang/Object"), (0, u "<init>"), (0, u "()V"), (89, .class_ 100), (1, u "java/lang/Math$RandomNumberGeneratorHolder"), (20, u "(JJ)J"), (50, u "negativeZeroFloatBits"), (0, u "J"), (2, u "negativeZeroDoubleBits"), (21, u "max"), (2, u "min"), (43, u "$assertionsDisabled"), (0, u "Z"), (91, u "twoToTheDoubleScaleDown"), (0, u "D"), (4, u "twoToTheDoubleScaleUp"), (9, u "E"), (3, u "PI"), (2, u "TAU"), (2, u "DEGREES_TO_RADIANS"), (0, u "RADIANS_TO_DEGREES")] 94

def k2m0 : Method := { name := "<init>", desc := "()V", sig := { parameters := [], returnType := none }, accessFlags := 2, code := none }
def k2c1 : Code := { maxStack := 4, maxLocals := 4, code := jdk_29_method_66_code, exceptionTable := #[], attributes := #[] }
def k2m1 : Method := { name := "max", desc := "(JJ)J", sig := { parameters := [.long, .long], returnType := some .long }, accessFlags := 9, code := some k2c1 }
def k2c2 : Code := { maxStack := 4, maxLocals := 4, code := jdk_29_method_70_code, exceptionTable := #[], attributes := #[] }
def k2m2 : Method := { name := "min", desc := "(JJ)J", sig := { parameters := [.long, .long], returnType := some .long }, accessFlags := 9, code := some k2c2 }
/-- java/lang/Math -/
def k2 : Class := { plain "java/lang/Math" (some 0) with
  accessFlags := 49
  interfaces := #[]
  cf := some (fileOf pool2 1 #[.nestMembers #[98]] #[{ accessFlags := 2, nameIndex := 7, descriptorIndex := 8, attributes := #[] }, { accessFlags := 9, nameIndex := 198, descriptorIndex := 121, attributes := #[] }, { accessFlags := 9, nameIndex := 201, descriptorIndex := 121, attributes := #[] }] 49 4 #[] #[{ accessFlags := 25, nameIndex := 354, descriptorIndex := 339, attributes := #[] }, { accessFlags := 25, nameIndex := 358, descriptorIndex := 339, attributes := #[] }, { accessFlags := 25, nameIndex := 361, descriptorIndex := 339, attributes := #[] }, { accessFlags := 26, nameIndex := 364, descriptorIndex := 339, attributes := #[] }, { accessFlags := 26, nameIndex := 365, descriptorIndex := 339, attributes := #[] }, { accessFlags := 26, nameIndex := 172, descriptorIndex := 173, attributes := #[] }, { accessFlags := 26, nameIndex := 176, descriptorIndex := 173, attributes := #[] }, { accessFlags := 8, nameIndex := 344, descriptorIndex := 339, attributes := #[] }, { accessFlags := 8, nameIndex := 338, descriptorIndex := 339, attributes := #[] }, { accessFlags := 4120, nameIndex := 245, descriptorIndex := 246, attributes := #[] }])
  fields := #[{ name := "E", type := .double, accessFlags := 25, slot := 0, constantValue := 0 }, { name := "PI", type := .double, accessFlags := 25, slot := 1, constantValue := 0 }, { name := "TAU", type := .double, accessFlags := 25, slot := 2, constantValue := 0 }, { name := "DEGREES_TO_RADIANS", type := .double, accessFlags := 26, slot := 3, constantValue := 0 }, { name := "RADIANS_TO_DEGREES", type := .double, accessFlags := 26, slot := 4, constantValue := 0 }, { name := "negativeZeroFloatBits", type := .long, accessFlags := 26, slot := 5, constantValue := 0 }, { name := "negativeZeroDoubleBits", type := .long, accessFlags := 26, slot := 6, constantValue := 0 }, { name := "twoToTheDoubleScaleUp", type := .double, accessFlags := 8, slot := 7, constantValue := 0 }, { name := "twoToTheDoubleScaleDown", type := .double, accessFlags := 8, slot := 8, constantValue := 0 }, { name := "$assertionsDisabled", type := .boolean, accessFlags := 4120, slot := 9, constantValue := 0 }]
  methods := #[k2m0, k2m1, k2m2]
  instanceTypes := #[]
  staticTypes := #[.double, .double, .double, .double, .double, .long, .long, .double, .double, .boolean]
  resolved := Array.replicate 460 none
  statics := none }

def pool3 : Array CpInfo := pool [(1, .class_ 2), (0, u "java/lang/constant/Constable"), (0, .class_ 4), (0, u "java/lang/Object")] 6

/-- java/lang/constant/Constable -/
def k3 : Class := { plain "java/lang/constant/Constable" (some 0) with
  accessFlags := 1537
  interfaces := #[]
  cf := some (fileOf pool3 1 #[] #[] 1537 3 #[] #[])
  fields := #[]
  methods := #[]
  instanceTypes := #[]
  staticTypes := #[]
  resolved := Array.replicate 11 none
  statics := none }

def pool4 : Array CpInfo := pool [(1, .class_ 2), (0, u "java/lang/Comparable"), (0, .class_ 4), (0, u "java/lang/Object")] 7

/-- java/lang/Comparable -/
def k4 : Class := { plain "java/lang/Comparable" (some 0) with
  accessFlags := 1537
  interfaces := #[]
  cf := some (fileOf pool4 1 #[] #[] 1537 3 #[] #[])
  fields := #[]
  methods := #[]
  instanceTypes := #[]
  staticTypes := #[]
  resolved := Array.replicate 12 none
  statics := none }

def pool5 : Array CpInfo := pool [(1, .class_ 2), (0, u "java/io/Serializable"), (0, .class_ 4), (0, u "java/lang/Object")] 2

/-- java/io/Serializable -/
def k5 : Class := { plain "java/io/Serializable" (some 0) with
  accessFlags := 1537
  interfaces := #[]
  cf := some (fileOf pool5 1 #[] #[] 1537 3 #[] #[])
  fields := #[]
  methods := #[]
  instanceTypes := #[]
  staticTypes := #[]
  resolved := Array.replicate 7 none
  statics := none }

def pool6 : Array CpInfo := pool [(2, .class_ 4), (1, u "java/lang/Enum"), (0, u "name"), (0, u "Ljava/lang/String;"), (2, u "ordinal"), (0, u "I"), (1, .class_ 14), (1, u "java/lang/Object"), (4, u "hash"), (86, .class_ 108), (1, u "java/lang/Enum$EnumDesc"), (2, .class_ 112), (0, u "java/lang/constant/Constable"), (0, .class_ 114), (0, u "java/lang/Comparable"), (0, .class_ 116), (0, u "java/io/Serializable")] 87

/-- java/lang/Enum -/
def k6 : Class := { plain "java/lang/Enum" (some 0) with
  accessFlags := 1057
  interfaces := #[3, 4, 5]
  cf := some (fileOf pool6 2 #[.nestMembers #[106]] #[] 1057 12 #[111, 113, 115] #[{ accessFlags := 18, nameIndex := 5, descriptorIndex := 6, attributes := #[] }, { accessFlags := 18, nameIndex := 9, descriptorIndex := 10, attributes := #[] }, { accessFlags := 2, nameIndex := 19, descriptorIndex := 10, attributes := #[] }])
  fields := #[{ name := "name", type := (.object "java/lang/String"), accessFlags := 18, slot := 0, constantValue := 0 }, { name := "ordinal", type := .int, accessFlags := 18, slot := 1, constantValue := 0 }, { name := "hash", type := .int, accessFlags := 2, slot := 2, constantValue := 0 }]
  methods := #[]
  instanceTypes := #[(.object "java/lang/String"), .int, .int]
  staticTypes := #[]
  resolved := Array.replicate 204 none
  statics := none }

def pool7 : Array CpInfo := pool [(1, .class_ 2), (0, u "com/example/chitragupta/chitragupta/core/Order"), (2, u "DESC"), (0, u "Lcom/example/chitragupta/chitragupta/core/Order;"), (0, .fieldref 1 8), (0, .nameAndType 9 6), (0, u "ASC"), (2, u "$VALUES"), (0, u "[Lcom/example/chitragupta/chitragupta/core/Order;"), (6, .class_ 22), (1, u "java/lang/Enum"), (44, u "isBetter"), (0, u "(JJ)Z")] 6

def k7c0 : Code := { maxStack := 4, maxLocals := 5, code := prog_24_method_5_code, exceptionTable := #[], attributes := #[] }
def k7m0 : Method := { name := "isBetter", desc := "(JJ)Z", sig := { parameters := [.long, .long], returnType := some .boolean }, accessFlags := 0, code := some k7c0 }
/-- com/example/chitragupta/chitragupta/core/Order -/
def k7 : Class := { plain "com/example/chitragupta/chitragupta/core/Order" (some 6) with
  accessFlags := 16433
  interfaces := #[]
  cf := some (fileOf pool7 1 #[] #[{ accessFlags := 0, nameIndex := 67, descriptorIndex := 68, attributes := #[] }] 16433 20 #[] #[{ accessFlags := 16409, nameIndex := 5, descriptorIndex := 6, attributes := #[] }, { accessFlags := 16409, nameIndex := 9, descriptorIndex := 6, attributes := #[] }, { accessFlags := 4122, nameIndex := 12, descriptorIndex := 13, attributes := #[] }])
  fields := #[{ name := "DESC", type := (.object "com/example/chitragupta/chitragupta/core/Order"), accessFlags := 16409, slot := 0, constantValue := 0 }, { name := "ASC", type := (.object "com/example/chitragupta/chitragupta/core/Order"), accessFlags := 16409, slot := 1, constantValue := 0 }, { name := "$VALUES", type := (.array (.object "com/example/chitragupta/chitragupta/core/Order")), accessFlags := 4122, slot := 2, constantValue := 0 }]
  methods := #[k7m0]
  instanceTypes := #[(.object "java/lang/String"), .int, .int]
  staticTypes := #[(.object "com/example/chitragupta/chitragupta/core/Order"), (.object "com/example/chitragupta/chitragupta/core/Order"), (.array (.object "com/example/chitragupta/chitragupta/core/Order"))]
  resolved := Array.replicate 75 none
  statics := some 0 }

def pool8 : Array CpInfo := pool [(1, u "java/lang/Cloneable"), (0, .class_ 1), (0, u "java/lang/Object"), (0, .class_ 3)] 3

/-- java/lang/Cloneable -/
def k8 : Class := { plain "java/lang/Cloneable" (some 0) with
  accessFlags := 1537
  interfaces := #[]
  cf := some (fileOf pool8 2 #[] #[] 1537 4 #[] #[])
  fields := #[]
  methods := #[]
  instanceTypes := #[]
  staticTypes := #[]
  resolved := Array.replicate 8 none
  statics := none }

/-- the primitive byte -/
def k9 : Class := { plain "byte" none with kind := .primitive 'B', accessFlags := 0x411 }
/-- [B -/
def k10 : Class := { plain "[B" (some 0) with kind := .array 9 .byte, interfaces := #[8, 5], accessFlags := 1041 }

/-- the primitive int -/
def k11 : Class := { plain "int" none with kind := .primitive 'I', accessFlags := 0x411 }
/-- [I -/
def k12 : Class := { plain "[I" (some 0) with kind := .array 11 .int, interfaces := #[8, 5], accessFlags := 1041 }

def heap : Heap := #[{ cls := 7, slots := #[.ref 1, .ref 2, .null], vm := .statics 7 },
  { cls := 7, slots := #[.null, .int 0, .int 0], vm := .none },
  { cls := 7, slots := #[.null, .int 1, .int 0], vm := .none }]
def classes : Array Class := #[k0, k1, k2, k3, k4, k5, k6, k7, k8, k9, k10, k11, k12]
def interned : List (Array UInt16 × Addr) := []
def slotsUsed : Nat := 9
def theMethod : MethodId := ⟨1, 1⟩
def args0 : Array Value := #[.long 5, .long 7]
def aboutOver (below : List Frame) : State where
  vm := { classes := classes, interned := interned.toArray }
  heap := heap
  slotsUsed := slotsUsed
  threads := #[{ frames := .invoking theMethod args0 :: below }]
def below0 : List Frame := [.native { method := ⟨0, 0⟩, args := #[] }]
def about1 : State := aboutOver below0
def p0 : Program := .bare "" "" ""
def e0 : Env := launch0.env 0 0 0
theorem w_frames : about1.frames = Frame.invoking theMethod args0 :: below0 := rfl
set_option maxRecDepth 65536 in
theorem w_args : argsFit about1.vm theMethod args0 = true := by decide +kernel
set_option maxRecDepth 65536 in
theorem w_heap : heapFits about1 = true := by decide +kernel
set_option maxRecDepth 65536 in
theorem w_runnable : about1.curStatus? = some .runnable := by decide +kernel
set_option maxRecDepth 65536 in
theorem w_alone : about1.alone = true := by decide +kernel
set_option maxRecDepth 65536 in
theorem w_named : about1.methodNamed? x = some theMethod := by decide +kernel
set_option maxRecDepth 65536 in
theorem w_hears : about1.hears theMethod below0 = true := by decide +kernel
set_option maxRecDepth 65536 in
theorem w_ripe : about1.ripe theMethod args0 below0 = true := by decide +kernel
theorem w_running : about1.status = .running := rfl
set_option maxRecDepth 65536 in
theorem w_room : about1.hasRoom e0.platform room_1 = true :=
  launch0.hasRoom_least _ room_1 (by decide +kernel) (by decide +kernel) (by decide +kernel) (by decide +kernel) (by decide +kernel) (by decide +kernel)
theorem allAtoms_all (ts : List Jvm.Cond) (a : Array Jvm.Value) (st : Jvm.State) : (allAtoms ts).before a st = ts.all (fun c => c.before a st) := by
  induction ts with
  | nil => rfl
  | cons c t ih =>
    show (Jvm.Cond.and c (allAtoms t)).before a st = _
    rw [Jvm.Cond.before_and, ih, List.all_cons]
def words1 : List Jvm.Cond := Jvm.Cond.code x code maxLocals ret :: tables_1
/-- a 'code' word, met by the world's own term for the bytes: nothing is compared byte by byte -/
theorem code_word {y : MethodName} {bytes : ByteArray} {mx : Nat} {rt : Option FieldType} {a : Array Value} {s : State} {m : MethodId} {meth : Method} {c : Code} (h1 : s.methodNamed? y = some m) (h2 : s.vm.method? m = some meth) (h3 : meth.code = some c) (h4 : c.code = bytes)
    (h5 : (c.maxLocals == mx && c.exceptionTable.isEmpty && decide (c.maxStack ≤ mostOperands) && decide (meth.sig.returnType = rt) && !meth.locks && decide (parseMethodDescriptor y.desc = some meth.sig)) = true) : (Jvm.Cond.code y bytes mx rt).before a s = true := by
  simp only [Bool.and_eq_true, beq_iff_eq, Bool.not_eq_true', decide_eq_true_eq] at h5
  obtain ⟨⟨⟨⟨⟨g1, g2⟩, g3⟩, g4⟩, g5⟩, g6⟩ := h5
  simp [Cond.before, Cond.holds, Cond.value, h1, h2, h3, h4, g1, g2, g3, g4, g5, g6]
def isCode : Jvm.Cond → Bool
  | .code _ _ _ _ => true
  | _ => false
theorem all_split {L : List Jvm.Cond} {P : Jvm.Cond → Bool} (h1 : L.all (fun c => isCode c || P c) = true) (h2 : ∀ c ∈ L.filter isCode, P c = true) : L.all P = true := by
  refine List.all_eq_true.mpr fun c hc => ?_
  have h := List.all_eq_true.mp h1 c hc
  rcases Bool.eq_false_or_eq_true (isCode c) with hi | hi
  · exact h2 c (List.mem_filter.mpr ⟨hc, hi⟩)
  · simpa [hi] using h
set_option maxRecDepth 65536 in
theorem w_c0 : (Jvm.Cond.code x code maxLocals ret).before args0 about1 = true := code_word (m := ⟨1, 1⟩) (meth := k1m1) (c := k1c1) (by decide +kernel) rfl rfl rfl (by decide +kernel)
set_option maxRecDepth 65536 in
theorem w_c1 : (Jvm.Cond.code ({ cls := "java/lang/Math", name := "min", desc := "(JJ)J" } : Jvm.MethodName) jdk_29_method_70_code (4 : Nat) (Option.some Jvm.ClassFile.FieldType.long)).before args0 about1 = true := code_word (m := ⟨2, 2⟩) (meth := k2m2) (c := k2c2) (by decide +kernel) rfl rfl rfl (by decide +kernel)
set_option maxRecDepth 65536 in
theorem w_c2 : (Jvm.Cond.code ({ cls := "java/lang/Math", name := "max", desc := "(JJ)J" } : Jvm.MethodName) jdk_29_method_66_code (4 : Nat) (Option.some Jvm.ClassFile.FieldType.long)).before args0 about1 = true := code_word (m := ⟨2, 1⟩) (meth := k2m1) (c := k2c1) (by decide +kernel) rfl rfl rfl (by decide +kernel)
set_option maxRecDepth 65536 in
theorem w_c3 : (Jvm.Cond.code ({ cls := "com/example/chitragupta/chitragupta/core/Order", name := "isBetter", desc := "(JJ)Z" } : Jvm.MethodName) prog_24_method_5_code (5 : Nat) (Option.some Jvm.ClassFile.FieldType.boolean)).before args0 about1 = true := code_word (m := ⟨7, 0⟩) (meth := k7m0) (c := k7c0) (by decide +kernel) rfl rfl rfl (by decide +kernel)
def codes1 : List Jvm.Cond := [Jvm.Cond.code x code maxLocals ret, Jvm.Cond.code ({ cls := "java/lang/Math", name := "min", desc := "(JJ)J" } : Jvm.MethodName) jdk_29_method_70_code (4 : Nat) (Option.some Jvm.ClassFile.FieldType.long), Jvm.Cond.code ({ cls := "java/lang/Math", name := "max", desc := "(JJ)J" } : Jvm.MethodName) jdk_29_method_66_code (4 : Nat) (Option.some Jvm.ClassFile.FieldType.long), Jvm.Cond.code ({ cls := "com/example/chitragupta/chitragupta/core/Order", name := "isBetter", desc := "(JJ)Z" } : Jvm.MethodName) prog_24_method_5_code (5 : Nat) (Option.some Jvm.ClassFile.FieldType.boolean)]
set_option maxRecDepth 65536 in
theorem codes_eq : words1.filter isCode = codes1 := rfl
theorem w_codes : ∀ c ∈ words1.filter isCode, c.before args0 about1 = true := by
  rw [codes_eq]
  intro c hc
  simp only [codes1, List.mem_cons, List.not_mem_nil, or_false] at hc
  rcases hc with rfl | rfl | rfl | rfl
  · exact w_c0
  · exact w_c1
  · exact w_c2
  · exact w_c3
set_option maxRecDepth 65536 in
theorem w_t1 : words1.all (fun c => isCode c || c.before args0 about1) = true := by decide +kernel
theorem w_tables : (allAtoms (Jvm.Cond.code x code maxLocals ret :: tables_1)).before args0 about1 = true := by
  rw [allAtoms_all]
  show words1.all (fun c => c.before args0 about1) = true
  refine all_split ?_ w_codes
  rw [w_t1]
set_option maxRecDepth 65536 in
theorem w_case : (Jvm.Cond.and given_1 narrow_1).before args0 about1 = true := by decide +kernel
theorem w_applies : (headSpec (Jvm.Cond.code x code maxLocals ret :: tables_1) room_1).applies x e0.platform about1 = true :=
  (Spec.applies_iff w_frames).mpr ⟨w_running, w_runnable, w_alone, w_named, w_hears, w_ripe, w_room, w_tables⟩
theorem atStart : AtStart classFile x code maxLocals ret World_1 tables_1 room_1 Calls_1 rest_1 Pre_1 launch0 p0 e0 about1 theMethod args0 below0 :=
  ⟨lists_1, trivial, launch0.admits_env _ _ _, launch0.least_env, fairChoices_fair.cas, fairChoices_fair.clock, w_frames, w_args, w_heap, w_applies, trivial, trivial, w_case⟩
end start1
theorem witness_1 : WitnessClaimed_1 := ⟨start1.p0, start1.e0, start1.about1, start1.theMethod, start1.args0, start1.below0, start1.atStart⟩
end Jvm.Pilot.@@N@@
