import JvmDerived
import JvmDerived.Pilot.@@N@@Statement
import JvmDerived.Pilot.@@N@@Code
set_option linter.unusedVariables false
set_option linter.unusedSimpArgs false

namespace Jvm.Pilot.@@N@@
open Jvm Jvm.ClassFile Sem Op Lib Jvm.Free Jvm.Stand Jvm.LawKit Jvm.RoadKit Bundle Jvm.Pilot.@@N@@.Jvm.D
theorem d1_0 : decode method_2_code 0 = .ok (.iload_n 0, 1) := by decide +kernel
theorem d1_1 : decode method_2_code 1 = .ok (.ldc 7, 2) := by decide +kernel
theorem d1_3 : decode method_2_code 3 = .ok (.iand, 1) := by decide +kernel
theorem d1_4 : decode method_2_code 4 = .ok (.iconst 3, 1) := by decide +kernel
theorem d1_5 : decode method_2_code 5 = .ok (.irem, 1) := by decide +kernel
theorem d1_6 : decode method_2_code 6 = .ok (.istore_n 1, 1) := by decide +kernel
theorem d1_7 : decode method_2_code 7 = .ok (.iload_n 1, 1) := by decide +kernel
theorem d1_8 : decode method_2_code 8 = .ok (.ifCond .ne 7, 3) := by decide +kernel
theorem d1_11 : decode method_2_code 11 = .ok (.getstatic 8, 3) := by decide +kernel
theorem d1_14 : decode method_2_code 14 = .ok (.areturn, 1) := by decide +kernel
theorem d1_15 : decode method_2_code 15 = .ok (.iload_n 1, 1) := by decide +kernel
theorem d1_16 : decode method_2_code 16 = .ok (.iconst 1, 1) := by decide +kernel
theorem d1_17 : decode method_2_code 17 = .ok (.if_icmp .ne 7, 3) := by decide +kernel
theorem d1_20 : decode method_2_code 20 = .ok (.getstatic 14, 3) := by decide +kernel
theorem d1_23 : decode method_2_code 23 = .ok (.areturn, 1) := by decide +kernel
theorem d1_24 : decode method_2_code 24 = .ok (.getstatic 17, 3) := by decide +kernel
theorem d1_27 : decode method_2_code 27 = .ok (.areturn, 1) := by decide +kernel
theorem d2_0 : decode prog_59_method_5_code 0 = .ok (.aload_n 0, 1) := by decide +kernel
theorem d2_1 : decode prog_59_method_5_code 1 = .ok (.getstatic 10, 3) := by decide +kernel
theorem d2_4 : decode prog_59_method_5_code 4 = .ok (.if_acmp .eq 19, 3) := by decide +kernel
theorem d2_7 : decode prog_59_method_5_code 7 = .ok (.aload_n 1, 1) := by decide +kernel
theorem d2_8 : decode prog_59_method_5_code 8 = .ok (.getstatic 10, 3) := by decide +kernel
theorem d2_11 : decode prog_59_method_5_code 11 = .ok (.if_acmp .eq 12, 3) := by decide +kernel
theorem d2_14 : decode prog_59_method_5_code 14 = .ok (.aload_n 0, 1) := by decide +kernel
theorem d2_15 : decode prog_59_method_5_code 15 = .ok (.aload_n 1, 1) := by decide +kernel
theorem d2_16 : decode prog_59_method_5_code 16 = .ok (.if_acmp .eq 7, 3) := by decide +kernel
theorem d2_19 : decode prog_59_method_5_code 19 = .ok (.iconst 1, 1) := by decide +kernel
theorem d2_20 : decode prog_59_method_5_code 20 = .ok (.goto 4, 3) := by decide +kernel
theorem d2_23 : decode prog_59_method_5_code 23 = .ok (.iconst 0, 1) := by decide +kernel
theorem d2_24 : decode prog_59_method_5_code 24 = .ok (.ireturn, 1) := by decide +kernel
theorem pn_0 : plainName "com/example/muninn/muninn/store/NodeKindExcludesPinLaw" = true := by first | (simp [plainName, overriddenIn]; done) | decide +kernel
theorem pn_1 : plainName "com/example/muninn/muninn/store/NodeKind" = true := by first | (simp [plainName, overriddenIn]; done) | decide +kernel
theorem pd_0 : parseMethodDescriptor "(I)Lcom/example/muninn/muninn/store/NodeKind;" = some ⟨[.int], some (.object "com/example/muninn/muninn/store/NodeKind")⟩ := by decide +kernel
theorem pd_1 : parseMethodDescriptor "(Lcom/example/muninn/muninn/store/NodeKind;)Z" = some ⟨[(.object "com/example/muninn/muninn/store/NodeKind")], some .boolean⟩ := by decide +kernel
theorem own_osz {Z : State} {n0 : Nat} {h : Heap} (O : Old Z n0 h) : n0 ≤ h.size := O.1 ▸ O.2.1
theorem own_fo {s : State} {args : Array Value} {C f d : String} {a : Addr} {k : Int32} (ev : (Term.static C f d).eval args s none [] s = some (.ref a)) (h : (Cond.eq (Term.field (Term.static C f d) "java/lang/Enum" "ordinal" "I") (Term.int k)).value args s none s [] = some true) : s.fieldOf? a "java/lang/Enum" "ordinal" "I" = some (.int k) := by
  obtain ⟨x, y, h1, h2, h3, h4⟩ := cmp_v (Or.inl h)
  rw [fld_at ev] at h1
  have hy : y = .int k := by simpa [Term.eval] using h2.symm
  subst hy
  obtain ⟨z, rfl⟩ := h4
  have : (Cond.eq (Term.field (Term.static C f d) "java/lang/Enum" "ordinal" "I") (Term.int k)).value args s none s [] = some (decide (z = k)) := by simp [Cond.value, fld_at ev, h1, Term.int_eval]
  rw [h1, gotT this h]
theorem own_ne {s : State} {a b : Addr} {k j : Int32} (h1 : s.fieldOf? a "java/lang/Enum" "ordinal" "I" = some (.int k)) (h2 : s.fieldOf? b "java/lang/Enum" "ordinal" "I" = some (.int j)) (hn : k ≠ j) : a ≠ b := fun e => by
  subst e; rw [h1] at h2; exact hn (Value.int.inj (Option.some.inj h2))

theorem own_exa3 {Z : State} {h : Heap} {C : String} {a wE wA wG : Addr} {k : Int32} (hE : Exa Z h wE C) (hA : Exa Z h wA C) (hG : Exa Z h wG C) (ha : a = (if k = 0 then wE else (if k = 1 then wA else wG))) : Exa Z h a C := by
  rw [ha]; split
  · exact hE
  · split
    · exact hA
    · exact hG
theorem own_plain {wE wA wG a b : Addr} {k1 k2 e x r : Int32} (hEA : wE ≠ wA) (hEG : wE ≠ wG) (hAG : wA ≠ wG)
    (ha : a = (if k1 = 0 then wE else (if k1 = 1 then wA else wG))) (hb : b = (if k2 = 0 then wE else (if k2 = 1 then wA else wG)))
    (he : e = (if a = wE then (if b = wA then (1 : Int32) else (if a = wA then (if b = wE then (1 : Int32) else (0 : Int32)) else (0 : Int32))) else (if a = wA then (if b = wE then (1 : Int32) else (0 : Int32)) else (0 : Int32))))
    (hx : x = (if a = wG then (0 : Int32) else (if b = wG then (0 : Int32) else (if a = b then (0 : Int32) else (1 : Int32)))))
    (hr : r = (if x = e then (1 : Int32) else (0 : Int32))) : r = 1 := by
  have h1 : a = wE ∨ a = wA ∨ a = wG := by
    rw [ha]; split
    · exact Or.inl rfl
    · split
      · exact Or.inr (Or.inl rfl)
      · exact Or.inr (Or.inr rfl)
  have h2 : b = wE ∨ b = wA ∨ b = wG := by
    rw [hb]; split
    · exact Or.inl rfl
    · split
      · exact Or.inr (Or.inl rfl)
      · exact Or.inr (Or.inr rfl)
  clear ha hb
  subst he hx hr
  rcases h1 with rfl | rfl | rfl <;> rcases h2 with rfl | rfl | rfl <;> simp [hEA, hEG, hAG, Ne.symm hEA, Ne.symm hEG, Ne.symm hAG]

def Q1 (Z : State) (p1 : Int32) (wE : Addr) (wA : Addr) (wG : Addr) (h0 : Heap) (n0 : Nat) (v : Option Value) (h : Heap) (L : List Loc) : Prop := v = some (.ref (if ((p1 &&& (2147483647 : Int32)) % (3 : Int32)) = (0 : Int32) then wE else (if ((p1 &&& (2147483647 : Int32)) % (3 : Int32)) = (1 : Int32) then wA else wG))) ∧ Fr n0 L ∧ h = h0
theorem ef_1 (m : MethodId) (x0 : Int32) : entryFrame m #[(.int x0)] 2 = mkF m 0 #[.val (.int x0), .unset] [] := by first | (simp [entryFrame, mkF, argsToLocals, Value.category]; done) | rfl
set_option maxRecDepth 65536 in
set_option maxHeartbeats 40000000 in
theorem rm1 (l : Launch) (Z : State) (a0 : Array Value) (hw : ∀ d ∈ tables_1, d.before a0 Z = true) (ws : List Jvm.Cond) (p1 : Int32) (wE : Addr) (wA : Addr) (wG : Addr) (h0 : Heap) (n0 : Nat) (O0 : Old Z n0 h0) (S_ENTITY : Sta Z Z.heap "com/example/muninn/muninn/store/NodeKind" "ENTITY" "Lcom/example/muninn/muninn/store/NodeKind;" (.ref wE)) (S_ACTIVITY : Sta Z Z.heap "com/example/muninn/muninn/store/NodeKind" "ACTIVITY" "Lcom/example/muninn/muninn/store/NodeKind;" (.ref wA)) (S_AGENT : Sta Z Z.heap "com/example/muninn/muninn/store/NodeKind" "AGENT" "Lcom/example/muninn/muninn/store/NodeKind;" (.ref wG)) :
    MetFree l (⟨"com/example/muninn/muninn/store/NodeKindExcludesPinLaw", "kind", "(I)Lcom/example/muninn/muninn/store/NodeKind;"⟩ : MethodName) (head1 (Jvm.Cond.code (⟨"com/example/muninn/muninn/store/NodeKindExcludesPinLaw", "kind", "(I)Lcom/example/muninn/muninn/store/NodeKind;"⟩ : MethodName) method_2_code 2 (some (.object "com/example/muninn/muninn/store/NodeKind")) :: ws) ({ frames := 0, cells := 0, slots := 0, locals := 0 } : Room)) (fun a U => a = #[(.int p1)] ∧ Z.Warmed39 U.vm ∧ U.heap = h0) (fun _ _ _ _ _ => True) (fun _ U o U' => ∃ v L, o = .returned v ∧ Q1 Z p1 wE wA wG h0 n0 v U'.heap L ∧ FrameEnd U o U' L ({ frames := 0, cells := 0, slots := 0, locals := 0 } : Room).cells ({ frames := 0, cells := 0, slots := 0, locals := 0 } : Room).slots) := by
  refine MetFree.of_bodySF (plainFor_of_name pn_0) hisR ?_
  intro p e s m args below meth c s₁ Bd hml0 hP hK
  obtain ⟨rfl, hZ, hh⟩ := hP
  have hx := Bd.exec
  have hby := Bd.bytes
  have hml : c.maxLocals = 2 := hml0
  have hown : s.vm.findClass "com/example/muninn/muninn/store/NodeKindExcludesPinLaw" = some m.cls := findClass_of_methodNamed Bd.named
  have hnm := (name_of_methodNamed Bd.named Bd.method).1
  have X0 : Stand p l e ({ frames := 0, cells := 0, slots := 0, locals := 0 } : Room) s m #[(.int p1)] below meth c s₁ [] 0 0 := Stand.of_body Bd
  have e0 : s₁.heap = h0 := by rw [← hh, Bd.state]; rfl
  have N0 := Fr.nil n0
  have pre0 : ∀ t, Steps p.tables e below (s₁.setTop (mkF m 0 #[.val (.int p1), .unset] [])) t → Steps p.tables e below (s₁.setTop (entryFrame m #[(.int p1)] 2)) t := fun t k => castTop (ef_1 m p1) k
  have sg1 : ∀ target, Steps p.tables e below (s₁.setTop (mkF m 8 #[.val (.int p1), .val (.int ((p1 &&& (2147483647 : Int32)) % (3 : Int32)))] [(.int ((p1 &&& (2147483647 : Int32)) % (3 : Int32)))])) target → Steps p.tables e below (s₁.setTop (mkF m 0 #[.val (.int p1), .unset] [])) target := by
    intro target kt
    show Steps p.tables e below (s₁.setTop (mkF m 0 #[.val (.int p1), .unset] [])) _
    refine XS.iloadN X0.here hx rfl (hb hby d1_0) rfl ?_
    show Steps p.tables e below (s₁.setTop (mkF m 1 #[.val (.int p1), .unset] [(.int p1)])) _
    refine X0.ldcInt hx hown (mvT hZ (hw _ (List.mem_of_getElem? (i := 4) rfl))) (g := (mkF m 1 #[.val (.int p1), .unset] [(.int p1)])) rfl (hb hby d1_1) _ ?_
    show Steps p.tables e below (s₁.setTop (mkF m 3 #[.val (.int p1), .unset] [(.int (2147483647 : Int32)), (.int p1)])) _
    refine XS.iand X0.here hx rfl (hb hby d1_3) rfl ?_
    show Steps p.tables e below (s₁.setTop (mkF m 4 #[.val (.int p1), .unset] [(.int (p1 &&& (2147483647 : Int32)))])) _
    refine XS.iconst X0.here hx rfl (hb hby d1_4) ?_
    show Steps p.tables e below (s₁.setTop (mkF m 5 #[.val (.int p1), .unset] [(.int (3 : Int32)), (.int (p1 &&& (2147483647 : Int32)))])) _
    refine iremM (g := (mkF m 5 #[.val (.int p1), .unset] [(.int (3 : Int32)), (.int (p1 &&& (2147483647 : Int32)))])) X0 hx rfl (hb hby d1_5) rfl (by decide) ?_
    show Steps p.tables e below (s₁.setTop (mkF m 6 #[.val (.int p1), .unset] [(.int ((p1 &&& (2147483647 : Int32)) % (3 : Int32)))])) _
    refine XS.istoreN X0.here hx rfl (hb hby d1_6) rfl (l' := #[.val (.int p1), .val (.int ((p1 &&& (2147483647 : Int32)) % (3 : Int32)))]) rfl ?_
    show Steps p.tables e below (s₁.setTop (mkF m 7 #[.val (.int p1), .val (.int ((p1 &&& (2147483647 : Int32)) % (3 : Int32)))] [])) _
    refine XS.iloadN X0.here hx rfl (hb hby d1_7) rfl ?_
    exact kt
  by_cases hc2 : ((p1 &&& (2147483647 : Int32)) % (3 : Int32)) = (0 : Int32)
  · obtain ⟨T3, X3, e3, st3⟩ := getS2 X0 hx hZ hown (host := "") (Or.inl (hw _ (List.mem_of_getElem? (i := 5) rfl))) Via.refl e0 (S_ENTITY.ext O0.2) (g := (mkF m 11 #[.val (.int p1), .val (.int ((p1 &&& (2147483647 : Int32)) % (3 : Int32)))] [])) rfl (hb hby d1_11)
    have sg4 : ∀ target, Steps p.tables e below (T3.setTop (mkF m 14 #[.val (.int p1), .val (.int ((p1 &&& (2147483647 : Int32)) % (3 : Int32)))] [(.ref wE)])) target → Steps p.tables e below (s₁.setTop (mkF m 8 #[.val (.int p1), .val (.int ((p1 &&& (2147483647 : Int32)) % (3 : Int32)))] [(.int ((p1 &&& (2147483647 : Int32)) % (3 : Int32)))])) target := by
      intro target kt
      show Steps p.tables e below (s₁.setTop (mkF m 8 #[.val (.int p1), .val (.int ((p1 &&& (2147483647 : Int32)) % (3 : Int32)))] [(.int ((p1 &&& (2147483647 : Int32)) % (3 : Int32)))])) _
      refine XS.ifNo X0.here hx rfl (hb hby d1_8) rfl ((if0 _ _).trans (teq hc2).2) ?_
      show Steps p.tables e below (s₁.setTop (mkF m 11 #[.val (.int p1), .val (.int ((p1 &&& (2147483647 : Int32)) % (3 : Int32)))] [])) _
      refine st3 _ ?_
      exact kt
    obtain ⟨fs, hr, hrun, hended, hW, hsame⟩ := X3.leave (v := some (.ref wE)) (fun h => by rw [Bd.returns] at h; cases h)
    refine ⟨_, _, pre0 _ (sg1 _ (sg4 _ (?_))), hrun, hended, _, _, rfl, ?_, ⟨_, rfl⟩, hW, hsame.mono (by decide) (by decide)⟩
    · show Steps p.tables e below (T3.setTop (mkF m 14 #[.val (.int p1), .val (.int ((p1 &&& (2147483647 : Int32)) % (3 : Int32)))] [(.ref wE)])) _
      jvm_step X3.here [X3.here.top, hx, (hb hby d1_14), X3.method', Bd.returns, Value.isRef, FieldType.isReference]
      first | (intro acts; rw [hr _ acts rfl rfl rfl]) | rw [hr _ _ rfl rfl rfl]
      exact Steps.refl _
    · show Q1 Z p1 wE wA wG h0 n0 _ T3.heap _
      rw [e3]
      exact ⟨(by rw [if_pos hc2]), N0, rfl⟩
  · have sg5 : ∀ target, Steps p.tables e below (s₁.setTop (mkF m 17 #[.val (.int p1), .val (.int ((p1 &&& (2147483647 : Int32)) % (3 : Int32)))] [(.int (1 : Int32)), (.int ((p1 &&& (2147483647 : Int32)) % (3 : Int32)))])) target → Steps p.tables e below (s₁.setTop (mkF m 8 #[.val (.int p1), .val (.int ((p1 &&& (2147483647 : Int32)) % (3 : Int32)))] [(.int ((p1 &&& (2147483647 : Int32)) % (3 : Int32)))])) target := by
      intro target kt
      show Steps p.tables e below (s₁.setTop (mkF m 8 #[.val (.int p1), .val (.int ((p1 &&& (2147483647 : Int32)) % (3 : Int32)))] [(.int ((p1 &&& (2147483647 : Int32)) % (3 : Int32)))])) _
      refine XS.ifYes X0.here hx rfl (pc0 := 8) (pc' := 15) rfl (hb hby d1_8) rfl ((if0 _ _).trans (feq hc2).2) (by decide) (by decide) ?_
      show Steps p.tables e below (s₁.setTop (mkF m 15 #[.val (.int p1), .val (.int ((p1 &&& (2147483647 : Int32)) % (3 : Int32)))] [])) _
      refine XS.iloadN X0.here hx rfl (hb hby d1_15) rfl ?_
      show Steps p.tables e below (s₁.setTop (mkF m 16 #[.val (.int p1), .val (.int ((p1 &&& (2147483647 : Int32)) % (3 : Int32)))] [(.int ((p1 &&& (2147483647 : Int32)) % (3 : Int32)))])) _
      refine XS.iconst X0.here hx rfl (hb hby d1_16) ?_
      exact kt
    by_cases hc6 : ((p1 &&& (2147483647 : Int32)) % (3 : Int32)) = (1 : Int32)
    · obtain ⟨T7, X7, e7, st7⟩ := getS2 X0 hx hZ hown (host := "") (Or.inl (hw _ (List.mem_of_getElem? (i := 8) rfl))) Via.refl e0 (S_ACTIVITY.ext O0.2) (g := (mkF m 20 #[.val (.int p1), .val (.int ((p1 &&& (2147483647 : Int32)) % (3 : Int32)))] [])) rfl (hb hby d1_20)
      have sg8 : ∀ target, Steps p.tables e below (T7.setTop (mkF m 23 #[.val (.int p1), .val (.int ((p1 &&& (2147483647 : Int32)) % (3 : Int32)))] [(.ref wA)])) target → Steps p.tables e below (s₁.setTop (mkF m 17 #[.val (.int p1), .val (.int ((p1 &&& (2147483647 : Int32)) % (3 : Int32)))] [(.int (1 : Int32)), (.int ((p1 &&& (2147483647 : Int32)) % (3 : Int32)))])) target := by
        intro target kt
        show Steps p.tables e below (s₁.setTop (mkF m 17 #[.val (.int p1), .val (.int ((p1 &&& (2147483647 : Int32)) % (3 : Int32)))] [(.int (1 : Int32)), (.int ((p1 &&& (2147483647 : Int32)) % (3 : Int32)))])) _
        refine XS.icmpNo X0.here hx rfl (hb hby d1_17) rfl (teq hc6).2 ?_
        show Steps p.tables e below (s₁.setTop (mkF m 20 #[.val (.int p1), .val (.int ((p1 &&& (2147483647 : Int32)) % (3 : Int32)))] [])) _
        refine st7 _ ?_
        exact kt
      obtain ⟨fs, hr, hrun, hended, hW, hsame⟩ := X7.leave (v := some (.ref wA)) (fun h => by rw [Bd.returns] at h; cases h)
      refine ⟨_, _, pre0 _ (sg1 _ (sg5 _ (sg8 _ (?_)))), hrun, hended, _, _, rfl, ?_, ⟨_, rfl⟩, hW, hsame.mono (by decide) (by decide)⟩
      · show Steps p.tables e below (T7.setTop (mkF m 23 #[.val (.int p1), .val (.int ((p1 &&& (2147483647 : Int32)) % (3 : Int32)))] [(.ref wA)])) _
        jvm_step X7.here [X7.here.top, hx, (hb hby d1_23), X7.method', Bd.returns, Value.isRef, FieldType.isReference]
        first | (intro acts; rw [hr _ acts rfl rfl rfl]) | rw [hr _ _ rfl rfl rfl]
        exact Steps.refl _
      · show Q1 Z p1 wE wA wG h0 n0 _ T7.heap _
        rw [e7]
        exact ⟨(by rw [if_neg hc2, if_pos hc6]), N0, rfl⟩
    · obtain ⟨T9, X9, e9, st9⟩ := getS2 X0 hx hZ hown (host := "") (Or.inl (hw _ (List.mem_of_getElem? (i := 17) rfl))) Via.refl e0 (S_AGENT.ext O0.2) (g := (mkF m 24 #[.val (.int p1), .val (.int ((p1 &&& (2147483647 : Int32)) % (3 : Int32)))] [])) rfl (hb hby d1_24)
      have sg10 : ∀ target, Steps p.tables e below (T9.setTop (mkF m 27 #[.val (.int p1), .val (.int ((p1 &&& (2147483647 : Int32)) % (3 : Int32)))] [(.ref wG)])) target → Steps p.tables e below (s₁.setTop (mkF m 17 #[.val (.int p1), .val (.int ((p1 &&& (2147483647 : Int32)) % (3 : Int32)))] [(.int (1 : Int32)), (.int ((p1 &&& (2147483647 : Int32)) % (3 : Int32)))])) target := by
        intro target kt
        show Steps p.tables e below (s₁.setTop (mkF m 17 #[.val (.int p1), .val (.int ((p1 &&& (2147483647 : Int32)) % (3 : Int32)))] [(.int (1 : Int32)), (.int ((p1 &&& (2147483647 : Int32)) % (3 : Int32)))])) _
        refine XS.icmpYes X0.here hx rfl (pc0 := 17) (pc' := 24) rfl (hb hby d1_17) rfl (feq hc6).2 (by decide) (by decide) ?_
        show Steps p.tables e below (s₁.setTop (mkF m 24 #[.val (.int p1), .val (.int ((p1 &&& (2147483647 : Int32)) % (3 : Int32)))] [])) _
        refine st9 _ ?_
        exact kt
      obtain ⟨fs, hr, hrun, hended, hW, hsame⟩ := X9.leave (v := some (.ref wG)) (fun h => by rw [Bd.returns] at h; cases h)
      refine ⟨_, _, pre0 _ (sg1 _ (sg5 _ (sg10 _ (?_)))), hrun, hended, _, _, rfl, ?_, ⟨_, rfl⟩, hW, hsame.mono (by decide) (by decide)⟩
      · show Steps p.tables e below (T9.setTop (mkF m 27 #[.val (.int p1), .val (.int ((p1 &&& (2147483647 : Int32)) % (3 : Int32)))] [(.ref wG)])) _
        jvm_step X9.here [X9.here.top, hx, (hb hby d1_27), X9.method', Bd.returns, Value.isRef, FieldType.isReference]
        first | (intro acts; rw [hr _ acts rfl rfl rfl]) | rw [hr _ _ rfl rfl rfl]
        exact Steps.refl _
      · show Q1 Z p1 wE wA wG h0 n0 _ T9.heap _
        rw [e9]
        exact ⟨(by rw [if_neg hc2, if_neg hc6]), N0, rfl⟩
def Q2 (Z : State) (a1 : Addr) (a2 : Addr) (wE : Addr) (wA : Addr) (wG : Addr) (h0 : Heap) (n0 : Nat) (v : Option Value) (h : Heap) (L : List Loc) : Prop := v = some (.int (if a1 = wG then (0 : Int32) else (if a2 = wG then (0 : Int32) else (if a1 = a2 then (0 : Int32) else (1 : Int32))))) ∧ Fr n0 L ∧ h = h0
theorem ef_2 (m : MethodId) (x0 : Addr) (x1 : Addr) : entryFrame m #[(.ref x0), (.ref x1)] 2 = mkF m 0 #[.val (.ref x0), .val (.ref x1)] [] := by first | (simp [entryFrame, mkF, argsToLocals, Value.category]; done) | rfl
set_option maxRecDepth 65536 in
set_option maxHeartbeats 40000000 in
theorem rm2 (l : Launch) (Z : State) (a0 : Array Value) (hw : ∀ d ∈ tables_1, d.before a0 Z = true) (ws : List Jvm.Cond) (a1 : Addr) (a2 : Addr) (wE : Addr) (wA : Addr) (wG : Addr) (h0 : Heap) (n0 : Nat) (O0 : Old Z n0 h0) (S_ENTITY : Sta Z Z.heap "com/example/muninn/muninn/store/NodeKind" "ENTITY" "Lcom/example/muninn/muninn/store/NodeKind;" (.ref wE)) (S_ACTIVITY : Sta Z Z.heap "com/example/muninn/muninn/store/NodeKind" "ACTIVITY" "Lcom/example/muninn/muninn/store/NodeKind;" (.ref wA)) (S_AGENT : Sta Z Z.heap "com/example/muninn/muninn/store/NodeKind" "AGENT" "Lcom/example/muninn/muninn/store/NodeKind;" (.ref wG)) :
    MetFree l (⟨"com/example/muninn/muninn/store/NodeKind", "excludes", "(Lcom/example/muninn/muninn/store/NodeKind;)Z"⟩ : MethodName) (head1 (Jvm.Cond.code (⟨"com/example/muninn/muninn/store/NodeKind", "excludes", "(Lcom/example/muninn/muninn/store/NodeKind;)Z"⟩ : MethodName) prog_59_method_5_code 2 (some .boolean) :: ws) ({ frames := 0, cells := 0, slots := 0, locals := 0 } : Room)) (fun a U => a = #[(.ref a1), (.ref a2)] ∧ Z.Warmed39 U.vm ∧ U.heap = h0) (fun _ _ _ _ _ => True) (fun _ U o U' => ∃ v L, o = .returned v ∧ Q2 Z a1 a2 wE wA wG h0 n0 v U'.heap L ∧ FrameEnd U o U' L ({ frames := 0, cells := 0, slots := 0, locals := 0 } : Room).cells ({ frames := 0, cells := 0, slots := 0, locals := 0 } : Room).slots) := by
  refine MetFree.of_bodySF (plainFor_of_name pn_1) hisR ?_
  intro p e s m args below meth c s₁ Bd hml0 hP hK
  obtain ⟨rfl, hZ, hh⟩ := hP
  have hx := Bd.exec
  have hby := Bd.bytes
  have hml : c.maxLocals = 2 := hml0
  have hown : s.vm.findClass "com/example/muninn/muninn/store/NodeKind" = some m.cls := findClass_of_methodNamed Bd.named
  have hnm := (name_of_methodNamed Bd.named Bd.method).1
  have X0 : Stand p l e ({ frames := 0, cells := 0, slots := 0, locals := 0 } : Room) s m #[(.ref a1), (.ref a2)] below meth c s₁ [] 0 0 := Stand.of_body Bd
  have e0 : s₁.heap = h0 := by rw [← hh, Bd.state]; rfl
  have N0 := Fr.nil n0
  have pre0 : ∀ t, Steps p.tables e below (s₁.setTop (mkF m 0 #[.val (.ref a1), .val (.ref a2)] [])) t → Steps p.tables e below (s₁.setTop (entryFrame m #[(.ref a1), (.ref a2)] 2)) t := fun t k => castTop (ef_2 m a1 a2) k
  obtain ⟨T1, X1, e1, st1⟩ := getS2 X0 hx hZ hown (host := "") (Or.inl (hw _ (List.mem_of_getElem? (i := 15) rfl))) Via.refl e0 (S_AGENT.ext O0.2) (g := (mkF m 1 #[.val (.ref a1), .val (.ref a2)] [(.ref a1)])) rfl (hb hby d2_1)
  have sg2 : ∀ target, Steps p.tables e below (T1.setTop (mkF m 4 #[.val (.ref a1), .val (.ref a2)] [(.ref wG), (.ref a1)])) target → Steps p.tables e below (s₁.setTop (mkF m 0 #[.val (.ref a1), .val (.ref a2)] [])) target := by
    intro target kt
    show Steps p.tables e below (s₁.setTop (mkF m 0 #[.val (.ref a1), .val (.ref a2)] [])) _
    refine XS.aloadN X0.here hx rfl (hb hby d2_0) rfl rfl ?_
    show Steps p.tables e below (s₁.setTop (mkF m 1 #[.val (.ref a1), .val (.ref a2)] [(.ref a1)])) _
    refine st1 _ ?_
    exact kt
  by_cases hc3 : a1 = wG
  · have sg4 : ∀ target, Steps p.tables e below (T1.setTop (mkF m 24 #[.val (.ref a1), .val (.ref a2)] [(.int (0 : Int32))])) target → Steps p.tables e below (T1.setTop (mkF m 4 #[.val (.ref a1), .val (.ref a2)] [(.ref wG), (.ref a1)])) target := by
      intro target kt
      show Steps p.tables e below (T1.setTop (mkF m 4 #[.val (.ref a1), .val (.ref a2)] [(.ref wG), (.ref a1)])) _
      refine Jvm.RoadKit.acmp (g := (mkF m 4 #[.val (.ref a1), .val (.ref a2)] [(.ref wG), (.ref a1)])) X1 hx rfl rfl rfl (pc0 := 4) (pc' := 23) (same := true) rfl (hb hby d2_4) rfl (decide_eq_true (congrArg Value.ref hc3)) (by decide) (by decide) ?_
      show Steps p.tables e below (T1.setTop (mkF m 23 #[.val (.ref a1), .val (.ref a2)] [])) _
      refine XS.iconst X1.here hx rfl (hb hby d2_23) ?_
      exact kt
    obtain ⟨fs, hr, hrun, hended, hW, hsame⟩ := X1.leave (v := some (.int (0 : Int32))) (fun h => by rw [Bd.returns] at h; cases h)
    refine ⟨_, _, pre0 _ (sg2 _ (sg4 _ (?_))), hrun, hended, _, _, rfl, ?_, ⟨_, rfl⟩, hW, hsame.mono (by decide) (by decide)⟩
    · show Steps p.tables e below (T1.setTop (mkF m 24 #[.val (.ref a1), .val (.ref a2)] [(.int (0 : Int32))])) _
      exact retN X1 hx (t := .boolean) Bd.returns (by simp) (hb hby d2_24) hr
    · show Q2 Z a1 a2 wE wA wG h0 n0 _ T1.heap _
      rw [e1]
      exact ⟨(by rw [if_pos hc3]), N0, rfl⟩
  · obtain ⟨T5, X5, e5, st5⟩ := getS2 X1 hx hZ hown (host := "") (Or.inl (hw _ (List.mem_of_getElem? (i := 15) rfl))) Via.refl e1 (S_AGENT.ext O0.2) (g := (mkF m 8 #[.val (.ref a1), .val (.ref a2)] [(.ref a2)])) rfl (hb hby d2_8)
    have sg6 : ∀ target, Steps p.tables e below (T5.setTop (mkF m 11 #[.val (.ref a1), .val (.ref a2)] [(.ref wG), (.ref a2)])) target → Steps p.tables e below (T1.setTop (mkF m 4 #[.val (.ref a1), .val (.ref a2)] [(.ref wG), (.ref a1)])) target := by
      intro target kt
      show Steps p.tables e below (T1.setTop (mkF m 4 #[.val (.ref a1), .val (.ref a2)] [(.ref wG), (.ref a1)])) _
      refine Jvm.RoadKit.acmp (g := (mkF m 4 #[.val (.ref a1), .val (.ref a2)] [(.ref wG), (.ref a1)])) X1 hx rfl rfl rfl (pc0 := 4) (pc' := 7) (same := false) rfl (hb hby d2_4) rfl (decide_eq_false fun q => hc3 (Value.ref.inj q)) (by decide) (by decide) ?_
      show Steps p.tables e below (T1.setTop (mkF m 7 #[.val (.ref a1), .val (.ref a2)] [])) _
      refine XS.aloadN X1.here hx rfl (hb hby d2_7) rfl rfl ?_
      show Steps p.tables e below (T1.setTop (mkF m 8 #[.val (.ref a1), .val (.ref a2)] [(.ref a2)])) _
      refine st5 _ ?_
      exact kt
    by_cases hc7 : a2 = wG
    · have sg8 : ∀ target, Steps p.tables e below (T5.setTop (mkF m 24 #[.val (.ref a1), .val (.ref a2)] [(.int (0 : Int32))])) target → Steps p.tables e below (T5.setTop (mkF m 11 #[.val (.ref a1), .val (.ref a2)] [(.ref wG), (.ref a2)])) target := by
        intro target kt
        show Steps p.tables e below (T5.setTop (mkF m 11 #[.val (.ref a1), .val (.ref a2)] [(.ref wG), (.ref a2)])) _
        refine Jvm.RoadKit.acmp (g := (mkF m 11 #[.val (.ref a1), .val (.ref a2)] [(.ref wG), (.ref a2)])) X5 hx rfl rfl rfl (pc0 := 11) (pc' := 23) (same := true) rfl (hb hby d2_11) rfl (decide_eq_true (congrArg Value.ref hc7)) (by decide) (by decide) ?_
        show Steps p.tables e below (T5.setTop (mkF m 23 #[.val (.ref a1), .val (.ref a2)] [])) _
        refine XS.iconst X5.here hx rfl (hb hby d2_23) ?_
        exact kt
      obtain ⟨fs, hr, hrun, hended, hW, hsame⟩ := X5.leave (v := some (.int (0 : Int32))) (fun h => by rw [Bd.returns] at h; cases h)
      refine ⟨_, _, pre0 _ (sg2 _ (sg6 _ (sg8 _ (?_)))), hrun, hended, _, _, rfl, ?_, ⟨_, rfl⟩, hW, hsame.mono (by decide) (by decide)⟩
      · show Steps p.tables e below (T5.setTop (mkF m 24 #[.val (.ref a1), .val (.ref a2)] [(.int (0 : Int32))])) _
        exact retN X5 hx (t := .boolean) Bd.returns (by simp) (hb hby d2_24) hr
      · show Q2 Z a1 a2 wE wA wG h0 n0 _ T5.heap _
        rw [e5]
        exact ⟨(by rw [if_neg hc3, if_pos hc7]), N0, rfl⟩
    · have sg9 : ∀ target, Steps p.tables e below (T5.setTop (mkF m 16 #[.val (.ref a1), .val (.ref a2)] [(.ref a2), (.ref a1)])) target → Steps p.tables e below (T5.setTop (mkF m 11 #[.val (.ref a1), .val (.ref a2)] [(.ref wG), (.ref a2)])) target := by
        intro target kt
        show Steps p.tables e below (T5.setTop (mkF m 11 #[.val (.ref a1), .val (.ref a2)] [(.ref wG), (.ref a2)])) _
        refine Jvm.RoadKit.acmp (g := (mkF m 11 #[.val (.ref a1), .val (.ref a2)] [(.ref wG), (.ref a2)])) X5 hx rfl rfl rfl (pc0 := 11) (pc' := 14) (same := false) rfl (hb hby d2_11) rfl (decide_eq_false fun q => hc7 (Value.ref.inj q)) (by decide) (by decide) ?_
        show Steps p.tables e below (T5.setTop (mkF m 14 #[.val (.ref a1), .val (.ref a2)] [])) _
        refine XS.aloadN X5.here hx rfl (hb hby d2_14) rfl rfl ?_
        show Steps p.tables e below (T5.setTop (mkF m 15 #[.val (.ref a1), .val (.ref a2)] [(.ref a1)])) _
        refine XS.aloadN X5.here hx rfl (hb hby d2_15) rfl rfl ?_
        exact kt
      by_cases hc10 : a1 = a2
      · have sg11 : ∀ target, Steps p.tables e below (T5.setTop (mkF m 24 #[.val (.ref a1), .val (.ref a2)] [(.int (0 : Int32))])) target → Steps p.tables e below (T5.setTop (mkF m 16 #[.val (.ref a1), .val (.ref a2)] [(.ref a2), (.ref a1)])) target := by
          intro target kt
          show Steps p.tables e below (T5.setTop (mkF m 16 #[.val (.ref a1), .val (.ref a2)] [(.ref a2), (.ref a1)])) _
          refine Jvm.RoadKit.acmp (g := (mkF m 16 #[.val (.ref a1), .val (.ref a2)] [(.ref a2), (.ref a1)])) X5 hx rfl rfl rfl (pc0 := 16) (pc' := 23) (same := true) rfl (hb hby d2_16) rfl (decide_eq_true (congrArg Value.ref hc10)) (by decide) (by decide) ?_
          show Steps p.tables e below (T5.setTop (mkF m 23 #[.val (.ref a1), .val (.ref a2)] [])) _
          refine XS.iconst X5.here hx rfl (hb hby d2_23) ?_
          exact kt
        obtain ⟨fs, hr, hrun, hended, hW, hsame⟩ := X5.leave (v := some (.int (0 : Int32))) (fun h => by rw [Bd.returns] at h; cases h)
        refine ⟨_, _, pre0 _ (sg2 _ (sg6 _ (sg9 _ (sg11 _ (?_))))), hrun, hended, _, _, rfl, ?_, ⟨_, rfl⟩, hW, hsame.mono (by decide) (by decide)⟩
        · show Steps p.tables e below (T5.setTop (mkF m 24 #[.val (.ref a1), .val (.ref a2)] [(.int (0 : Int32))])) _
          exact retN X5 hx (t := .boolean) Bd.returns (by simp) (hb hby d2_24) hr
        · show Q2 Z a1 a2 wE wA wG h0 n0 _ T5.heap _
          rw [e5]
          exact ⟨(by rw [if_neg hc3, if_neg hc7, if_pos hc10]), N0, rfl⟩
      · have sg12 : ∀ target, Steps p.tables e below (T5.setTop (mkF m 24 #[.val (.ref a1), .val (.ref a2)] [(.int (1 : Int32))])) target → Steps p.tables e below (T5.setTop (mkF m 16 #[.val (.ref a1), .val (.ref a2)] [(.ref a2), (.ref a1)])) target := by
          intro target kt
          show Steps p.tables e below (T5.setTop (mkF m 16 #[.val (.ref a1), .val (.ref a2)] [(.ref a2), (.ref a1)])) _
          refine Jvm.RoadKit.acmp (g := (mkF m 16 #[.val (.ref a1), .val (.ref a2)] [(.ref a2), (.ref a1)])) X5 hx rfl rfl rfl (pc0 := 16) (pc' := 19) (same := false) rfl (hb hby d2_16) rfl (decide_eq_false fun q => hc10 (Value.ref.inj q)) (by decide) (by decide) ?_
          show Steps p.tables e below (T5.setTop (mkF m 19 #[.val (.ref a1), .val (.ref a2)] [])) _
          refine XS.iconst X5.here hx rfl (hb hby d2_19) ?_
          show Steps p.tables e below (T5.setTop (mkF m 20 #[.val (.ref a1), .val (.ref a2)] [(.int (1 : Int32))])) _
          refine XS.goto X5.here hx rfl (pc0 := 20) (pc' := 24) rfl (hb hby d2_20) (by decide) (by decide) ?_
          exact kt
        obtain ⟨fs, hr, hrun, hended, hW, hsame⟩ := X5.leave (v := some (.int (1 : Int32))) (fun h => by rw [Bd.returns] at h; cases h)
        refine ⟨_, _, pre0 _ (sg2 _ (sg6 _ (sg9 _ (sg12 _ (?_))))), hrun, hended, _, _, rfl, ?_, ⟨_, rfl⟩, hW, hsame.mono (by decide) (by decide)⟩
        · show Steps p.tables e below (T5.setTop (mkF m 24 #[.val (.ref a1), .val (.ref a2)] [(.int (1 : Int32))])) _
          exact retN X5 hx (t := .boolean) Bd.returns (by simp) (hb hby d2_24) hr
        · show Q2 Z a1 a2 wE wA wG h0 n0 _ T5.heap _
          rw [e5]
          exact ⟨(by rw [if_neg hc3, if_neg hc7, if_neg hc10]), N0, rfl⟩
def Q0 (Z : State) (p1 : Int32) (p2 : Int32) (wE : Addr) (wA : Addr) (wG : Addr) (h0 : Heap) (n0 : Nat) (v : Option Value) (h : Heap) (L : List Loc) : Prop := v = some (.int (1 : Int32)) ∧ Fr n0 L ∧ h = h0
theorem ef_0 (m : MethodId) (x0 : Int32) (x1 : Int32) : entryFrame m #[(.int x0), (.int x1)] maxLocals = mkF m 0 #[.val (.int x0), .val (.int x1), .unset, .unset, .unset] [] := by first | (simp [entryFrame, mkF, argsToLocals, Value.category, maxLocals]; done) | rfl
set_option maxRecDepth 65536 in
set_option maxHeartbeats 40000000 in
theorem rm0 (l : Launch) (Z : State) (a0 : Array Value) (hw : ∀ d ∈ tables_1, d.before a0 Z = true) (ws : List Jvm.Cond) (p1 : Int32) (p2 : Int32) (wE : Addr) (wA : Addr) (wG : Addr) (h0 : Heap) (n0 : Nat) (O0 : Old Z n0 h0) (hEA : wE ≠ wA) (hEG : wE ≠ wG) (hAG : wA ≠ wG) (hXE : Exa Z Z.heap wE "com/example/muninn/muninn/store/NodeKind") (hXA : Exa Z Z.heap wA "com/example/muninn/muninn/store/NodeKind") (hXG : Exa Z Z.heap wG "com/example/muninn/muninn/store/NodeKind") (S_ENTITY : Sta Z Z.heap "com/example/muninn/muninn/store/NodeKind" "ENTITY" "Lcom/example/muninn/muninn/store/NodeKind;" (.ref wE)) (S_ACTIVITY : Sta Z Z.heap "com/example/muninn/muninn/store/NodeKind" "ACTIVITY" "Lcom/example/muninn/muninn/store/NodeKind;" (.ref wA)) (S_AGENT : Sta Z Z.heap "com/example/muninn/muninn/store/NodeKind" "AGENT" "Lcom/example/muninn/muninn/store/NodeKind;" (.ref wG)) :
    MetFree l x (head1 (Jvm.Cond.code x code maxLocals ret :: ws) room_1) (fun a U => a = #[(.int p1), (.int p2)] ∧ Z.Warmed39 U.vm ∧ U.heap = h0) (fun _ _ _ _ _ => True) (fun _ U o U' => ∃ v L, o = .returned v ∧ Q0 Z p1 p2 wE wA wG h0 n0 v U'.heap L ∧ FrameEnd U o U' L room_1.cells room_1.slots) := by
  refine MetFree.of_bodySF (plainFor_of_name pn_0) hisR ?_
  intro p e s m args below meth c s₁ Bd hml0 hP hK
  obtain ⟨rfl, hZ, hh⟩ := hP
  have hx := Bd.exec
  have hby := Bd.bytes
  have hml : c.maxLocals = 5 := hml0
  have hown : s.vm.findClass "com/example/muninn/muninn/store/NodeKindExcludesPinLaw" = some m.cls := findClass_of_methodNamed Bd.named
  have hnm := (name_of_methodNamed Bd.named Bd.method).1
  have X0 : Stand p l e room_1 s m #[(.int p1), (.int p2)] below meth c s₁ [] 0 0 := Stand.of_body Bd
  have e0 : s₁.heap = h0 := by rw [← hh, Bd.state]; rfl
  have N0 := Fr.nil n0
  have pre0 : ∀ t, Steps p.tables e below (s₁.setTop (mkF m 0 #[.val (.int p1), .val (.int p2), .unset, .unset, .unset] [])) t → Steps p.tables e below (s₁.setTop (entryFrame m #[(.int p1), (.int p2)] maxLocals)) t := fun t k => castTop (ef_0 m p1 p2) k
  obtain ⟨_, _, ⟨T1, L1, k1, n1⟩, -, X1, ⟨Lc1, hQ1, l1, y1, z1⟩, st1⟩ := Jvm.LawKit.callS X0 hx (y := (⟨"com/example/muninn/muninn/store/NodeKindExcludesPinLaw", "kind", "(I)Lcom/example/muninn/muninn/store/NodeKind;"⟩ : MethodName)) hown (mvT hZ (hw _ (List.mem_of_getElem? (i := 0) rfl))) (mvT hZ (hw _ (List.mem_of_getElem? (i := 1) rfl))) (mvT hZ (hw _ (List.mem_of_getElem? (i := 2) rfl))) (mvT hZ (hw _ (List.mem_of_getElem? (i := 3) rfl))) (by decide) (backOf (W := 0) (rm1 l Z a0 hw [] p1 wE wA wG h0 n0 O0 S_ENTITY S_ACTIVITY S_AGENT) hZ (hw _ (List.mem_of_getElem? (i := 3) rfl)) (hw _ (List.mem_of_getElem? (i := 2) rfl)) (by decide) (by decide)) (g := (mkF m 1 #[.val (.int p1), .val (.int p2), .unset, .unset, .unset] [(.int p1)])) rfl (by rw [hml]; rfl) (argsL := [(.int p1)]) (rest := []) (lenOf pd_0 rfl) rfl (by show 2 * 0 + _ ≤ _; exact Nat.le_of_eq rfl) (hb hby at_1) (fun _ _ => ⟨rfl, e0, (by decide : 0 + 0 ≤ _), (by decide : 0 + 0 ≤ _)⟩)
  dsimp only [Pt.U, Pt.locs, Pt.cells, Pt.slots] at X1 l1 y1 z1 st1 hQ1
  subst l1 y1 z1
  obtain ⟨rfl, N1q, e1⟩ := hQ1
  have N1 := Fr.app N0 N1q
  obtain ⟨r1, hr1⟩ : ∃ z, z = (if ((p1 &&& (2147483647 : Int32)) % (3 : Int32)) = (0 : Int32) then wE else (if ((p1 &&& (2147483647 : Int32)) % (3 : Int32)) = (1 : Int32) then wA else wG)) := ⟨_, rfl⟩
  rw [← hr1] at st1
  obtain ⟨_, _, ⟨T2, L2, k2, n2⟩, -, X2, ⟨Lc2, hQ2, l2, y2, z2⟩, st2⟩ := Jvm.LawKit.callS X1 hx (y := (⟨"com/example/muninn/muninn/store/NodeKindExcludesPinLaw", "kind", "(I)Lcom/example/muninn/muninn/store/NodeKind;"⟩ : MethodName)) hown (mvT hZ (hw _ (List.mem_of_getElem? (i := 0) rfl))) (mvT hZ (hw _ (List.mem_of_getElem? (i := 1) rfl))) (mvT hZ (hw _ (List.mem_of_getElem? (i := 2) rfl))) (mvT hZ (hw _ (List.mem_of_getElem? (i := 3) rfl))) (by decide) (backOf (W := 0) (rm1 l Z a0 hw [] p2 wE wA wG h0 n0 O0 S_ENTITY S_ACTIVITY S_AGENT) hZ (hw _ (List.mem_of_getElem? (i := 3) rfl)) (hw _ (List.mem_of_getElem? (i := 2) rfl)) (by decide) (by decide)) (g := (mkF m 6 #[.val (.int p1), .val (.int p2), .val (.ref r1), .unset, .unset] [(.int p2)])) rfl (by rw [hml]; rfl) (argsL := [(.int p2)]) (rest := []) (lenOf pd_0 rfl) rfl (by show 2 * 0 + _ ≤ _; exact Nat.le_of_eq rfl) (hb hby at_6) (fun _ _ => ⟨rfl, e1, (by decide : 0 + 0 ≤ _), (by decide : 0 + 0 ≤ _)⟩)
  dsimp only [Pt.U, Pt.locs, Pt.cells, Pt.slots] at X2 l2 y2 z2 st2 hQ2
  subst l2 y2 z2
  obtain ⟨rfl, N2q, e2⟩ := hQ2
  have N2 := Fr.app N1 N2q
  obtain ⟨r2, hr2⟩ : ∃ z, z = (if ((p2 &&& (2147483647 : Int32)) % (3 : Int32)) = (0 : Int32) then wE else (if ((p2 &&& (2147483647 : Int32)) % (3 : Int32)) = (1 : Int32) then wA else wG)) := ⟨_, rfl⟩
  rw [← hr2] at st2
  have A_r : Exa Z Z.heap r1 "com/example/muninn/muninn/store/NodeKind" := own_exa3 hXE hXA hXG hr1
  have sg3 : ∀ target, Steps p.tables e below (T2.setTop (mkF m 10 #[.val (.int p1), .val (.int p2), .val (.ref r1), .val (.ref r2), .unset] [])) target → Steps p.tables e below (s₁.setTop (mkF m 0 #[.val (.int p1), .val (.int p2), .unset, .unset, .unset] [])) target := by
    intro target kt
    show Steps p.tables e below (s₁.setTop (mkF m 0 #[.val (.int p1), .val (.int p2), .unset, .unset, .unset] [])) _
    refine XS.iloadN X0.here hx rfl (hb hby at_0) rfl ?_
    show Steps p.tables e below (s₁.setTop (mkF m 1 #[.val (.int p1), .val (.int p2), .unset, .unset, .unset] [(.int p1)])) _
    refine st1 _ ?_
    show Steps p.tables e below (T1.setTop (mkF m 4 #[.val (.int p1), .val (.int p2), .unset, .unset, .unset] [(.ref r1)])) _
    refine XS.astoreN X1.here hx rfl (hb hby at_4) rfl rfl (l' := #[.val (.int p1), .val (.int p2), .val (.ref r1), .unset, .unset]) rfl ?_
    show Steps p.tables e below (T1.setTop (mkF m 5 #[.val (.int p1), .val (.int p2), .val (.ref r1), .unset, .unset] [])) _
    refine XS.iloadN X1.here hx rfl (hb hby at_5) rfl ?_
    show Steps p.tables e below (T1.setTop (mkF m 6 #[.val (.int p1), .val (.int p2), .val (.ref r1), .unset, .unset] [(.int p2)])) _
    refine st2 _ ?_
    show Steps p.tables e below (T2.setTop (mkF m 9 #[.val (.int p1), .val (.int p2), .val (.ref r1), .unset, .unset] [(.ref r2)])) _
    refine XS.astoreN X2.here hx rfl (hb hby at_9) rfl rfl (l' := #[.val (.int p1), .val (.int p2), .val (.ref r1), .val (.ref r2), .unset]) rfl ?_
    exact kt
  obtain ⟨T29, L29, v29_t0, X29, e29, N29, hv29_t0, sg29⟩ : ∃ (T' : State) (L' : List Loc) (v29_t0 : Int32), Stand p l e room_1 s m #[(.int p1), (.int p2)] below meth c T' L' 0 0 ∧ T'.heap = h0 ∧ Fr n0 L' ∧ v29_t0 = (if r1 = wE then (if r2 = wA then (1 : Int32) else (if r1 = wA then (if r2 = wE then (1 : Int32) else (0 : Int32)) else (0 : Int32))) else (if r1 = wA then (if r2 = wE then (1 : Int32) else (0 : Int32)) else (0 : Int32))) ∧ ∀ target, Steps p.tables e below (T'.setTop (mkF m 43 #[.val (.int p1), .val (.int p2), .val (.ref r1), .val (.ref r2), .unset] [(.int v29_t0)])) target → Steps p.tables e below (T2.setTop (mkF m 10 #[.val (.int p1), .val (.int p2), .val (.ref r1), .val (.ref r2), .unset] [])) target := by
    obtain ⟨T4, X4, e4, st4⟩ := getS2 X2 hx hZ hown (host := "") (Or.inl (hw _ (List.mem_of_getElem? (i := 5) rfl))) Via.refl e2 (S_ENTITY.ext O0.2) (g := (mkF m 11 #[.val (.int p1), .val (.int p2), .val (.ref r1), .val (.ref r2), .unset] [(.ref r1)])) rfl (hb hby at_11)
    have sg5 : ∀ target, Steps p.tables e below (T4.setTop (mkF m 14 #[.val (.int p1), .val (.int p2), .val (.ref r1), .val (.ref r2), .unset] [(.ref wE), (.ref r1)])) target → Steps p.tables e below (T2.setTop (mkF m 10 #[.val (.int p1), .val (.int p2), .val (.ref r1), .val (.ref r2), .unset] [])) target := by
      intro target kt
      show Steps p.tables e below (T2.setTop (mkF m 10 #[.val (.int p1), .val (.int p2), .val (.ref r1), .val (.ref r2), .unset] [])) _
      refine XS.aloadN X2.here hx rfl (hb hby at_10) rfl rfl ?_
      show Steps p.tables e below (T2.setTop (mkF m 11 #[.val (.int p1), .val (.int p2), .val (.ref r1), .val (.ref r2), .unset] [(.ref r1)])) _
      refine st4 _ ?_
      exact kt
    by_cases hc6 : r1 = wE
    · obtain ⟨T7, X7, e7, st7⟩ := getS2 X4 hx hZ hown (host := "") (Or.inl (hw _ (List.mem_of_getElem? (i := 8) rfl))) Via.refl e4 (S_ACTIVITY.ext O0.2) (g := (mkF m 18 #[.val (.int p1), .val (.int p2), .val (.ref r1), .val (.ref r2), .unset] [(.ref r2)])) rfl (hb hby at_18)
      have sg8 : ∀ target, Steps p.tables e below (T7.setTop (mkF m 21 #[.val (.int p1), .val (.int p2), .val (.ref r1), .val (.ref r2), .unset] [(.ref wA), (.ref r2)])) target → Steps p.tables e below (T4.setTop (mkF m 14 #[.val (.int p1), .val (.int p2), .val (.ref r1), .val (.ref r2), .unset] [(.ref wE), (.ref r1)])) target := by
        intro target kt
        show Steps p.tables e below (T4.setTop (mkF m 14 #[.val (.int p1), .val (.int p2), .val (.ref r1), .val (.ref r2), .unset] [(.ref wE), (.ref r1)])) _
        refine Jvm.RoadKit.acmp (g := (mkF m 14 #[.val (.int p1), .val (.int p2), .val (.ref r1), .val (.ref r2), .unset] [(.ref wE), (.ref r1)])) X4 hx rfl rfl rfl (pc0 := 14) (pc' := 17) (same := true) rfl (hb hby at_14) rfl (decide_eq_true (congrArg Value.ref hc6)) (by decide) (by decide) ?_
        show Steps p.tables e below (T4.setTop (mkF m 17 #[.val (.int p1), .val (.int p2), .val (.ref r1), .val (.ref r2), .unset] [])) _
        refine XS.aloadN X4.here hx rfl (hb hby at_17) rfl rfl ?_
        show Steps p.tables e below (T4.setTop (mkF m 18 #[.val (.int p1), .val (.int p2), .val (.ref r1), .val (.ref r2), .unset] [(.ref r2)])) _
        refine st7 _ ?_
        exact kt
      by_cases hc9 : r2 = wA
      · have sg10 : ∀ target, Steps p.tables e below (T7.setTop (mkF m 43 #[.val (.int p1), .val (.int p2), .val (.ref r1), .val (.ref r2), .unset] [(.int (1 : Int32))])) target → Steps p.tables e below (T7.setTop (mkF m 21 #[.val (.int p1), .val (.int p2), .val (.ref r1), .val (.ref r2), .unset] [(.ref wA), (.ref r2)])) target := by
          intro target kt
          show Steps p.tables e below (T7.setTop (mkF m 21 #[.val (.int p1), .val (.int p2), .val (.ref r1), .val (.ref r2), .unset] [(.ref wA), (.ref r2)])) _
          refine Jvm.RoadKit.acmp (g := (mkF m 21 #[.val (.int p1), .val (.int p2), .val (.ref r1), .val (.ref r2), .unset] [(.ref wA), (.ref r2)])) X7 hx rfl rfl rfl (pc0 := 21) (pc' := 38) (same := true) rfl (hb hby at_21) rfl (decide_eq_true (congrArg Value.ref hc9)) (by decide) (by decide) ?_
          show Steps p.tables e below (T7.setTop (mkF m 38 #[.val (.int p1), .val (.int p2), .val (.ref r1), .val (.ref r2), .unset] [])) _
          refine XS.iconst X7.here hx rfl (hb hby at_38) ?_
          show Steps p.tables e below (T7.setTop (mkF m 39 #[.val (.int p1), .val (.int p2), .val (.ref r1), .val (.ref r2), .unset] [(.int (1 : Int32))])) _
          refine XS.goto X7.here hx rfl (pc0 := 39) (pc' := 43) rfl (hb hby at_39) (by decide) (by decide) ?_
          exact kt
        exact ⟨T7, _, (1 : Int32), X7.mono (by decide) (by decide), e7, N2, (by rw [if_pos hc6, if_pos hc9]), fun target kt => sg5 _ (sg8 _ (sg10 _ (kt)))⟩
      · obtain ⟨T11, X11, e11, st11⟩ := getS2 X7 hx hZ hown (host := "") (Or.inl (hw _ (List.mem_of_getElem? (i := 8) rfl))) Via.refl e7 (S_ACTIVITY.ext O0.2) (g := (mkF m 25 #[.val (.int p1), .val (.int p2), .val (.ref r1), .val (.ref r2), .unset] [(.ref r1)])) rfl (hb hby at_25)
        have sg12 : ∀ target, Steps p.tables e below (T11.setTop (mkF m 28 #[.val (.int p1), .val (.int p2), .val (.ref r1), .val (.ref r2), .unset] [(.ref wA), (.ref r1)])) target → Steps p.tables e below (T7.setTop (mkF m 21 #[.val (.int p1), .val (.int p2), .val (.ref r1), .val (.ref r2), .unset] [(.ref wA), (.ref r2)])) target := by
          intro target kt
          show Steps p.tables e below (T7.setTop (mkF m 21 #[.val (.int p1), .val (.int p2), .val (.ref r1), .val (.ref r2), .unset] [(.ref wA), (.ref r2)])) _
          refine Jvm.RoadKit.acmp (g := (mkF m 21 #[.val (.int p1), .val (.int p2), .val (.ref r1), .val (.ref r2), .unset] [(.ref wA), (.ref r2)])) X7 hx rfl rfl rfl (pc0 := 21) (pc' := 24) (same := false) rfl (hb hby at_21) rfl (decide_eq_false fun q => hc9 (Value.ref.inj q)) (by decide) (by decide) ?_
          show Steps p.tables e below (T7.setTop (mkF m 24 #[.val (.int p1), .val (.int p2), .val (.ref r1), .val (.ref r2), .unset] [])) _
          refine XS.aloadN X7.here hx rfl (hb hby at_24) rfl rfl ?_
          show Steps p.tables e below (T7.setTop (mkF m 25 #[.val (.int p1), .val (.int p2), .val (.ref r1), .val (.ref r2), .unset] [(.ref r1)])) _
          refine st11 _ ?_
          exact kt
        by_cases hc13 : r1 = wA
        · obtain ⟨T14, X14, e14, st14⟩ := getS2 X11 hx hZ hown (host := "") (Or.inl (hw _ (List.mem_of_getElem? (i := 5) rfl))) Via.refl e11 (S_ENTITY.ext O0.2) (g := (mkF m 32 #[.val (.int p1), .val (.int p2), .val (.ref r1), .val (.ref r2), .unset] [(.ref r2)])) rfl (hb hby at_32)
          have sg15 : ∀ target, Steps p.tables e below (T14.setTop (mkF m 35 #[.val (.int p1), .val (.int p2), .val (.ref r1), .val (.ref r2), .unset] [(.ref wE), (.ref r2)])) target → Steps p.tables e below (T11.setTop (mkF m 28 #[.val (.int p1), .val (.int p2), .val (.ref r1), .val (.ref r2), .unset] [(.ref wA), (.ref r1)])) target := by
            intro target kt
            show Steps p.tables e below (T11.setTop (mkF m 28 #[.val (.int p1), .val (.int p2), .val (.ref r1), .val (.ref r2), .unset] [(.ref wA), (.ref r1)])) _
            refine Jvm.RoadKit.acmp (g := (mkF m 28 #[.val (.int p1), .val (.int p2), .val (.ref r1), .val (.ref r2), .unset] [(.ref wA), (.ref r1)])) X11 hx rfl rfl rfl (pc0 := 28) (pc' := 31) (same := true) rfl (hb hby at_28) rfl (decide_eq_true (congrArg Value.ref hc13)) (by decide) (by decide) ?_
            show Steps p.tables e below (T11.setTop (mkF m 31 #[.val (.int p1), .val (.int p2), .val (.ref r1), .val (.ref r2), .unset] [])) _
            refine XS.aloadN X11.here hx rfl (hb hby at_31) rfl rfl ?_
            show Steps p.tables e below (T11.setTop (mkF m 32 #[.val (.int p1), .val (.int p2), .val (.ref r1), .val (.ref r2), .unset] [(.ref r2)])) _
            refine st14 _ ?_
            exact kt
          by_cases hc16 : r2 = wE
          · have sg17 : ∀ target, Steps p.tables e below (T14.setTop (mkF m 43 #[.val (.int p1), .val (.int p2), .val (.ref r1), .val (.ref r2), .unset] [(.int (1 : Int32))])) target → Steps p.tables e below (T14.setTop (mkF m 35 #[.val (.int p1), .val (.int p2), .val (.ref r1), .val (.ref r2), .unset] [(.ref wE), (.ref r2)])) target := by
              intro target kt
              show Steps p.tables e below (T14.setTop (mkF m 35 #[.val (.int p1), .val (.int p2), .val (.ref r1), .val (.ref r2), .unset] [(.ref wE), (.ref r2)])) _
              refine Jvm.RoadKit.acmp (g := (mkF m 35 #[.val (.int p1), .val (.int p2), .val (.ref r1), .val (.ref r2), .unset] [(.ref wE), (.ref r2)])) X14 hx rfl rfl rfl (pc0 := 35) (pc' := 38) (same := true) rfl (hb hby at_35) rfl (decide_eq_true (congrArg Value.ref hc16)) (by decide) (by decide) ?_
              show Steps p.tables e below (T14.setTop (mkF m 38 #[.val (.int p1), .val (.int p2), .val (.ref r1), .val (.ref r2), .unset] [])) _
              refine XS.iconst X14.here hx rfl (hb hby at_38) ?_
              show Steps p.tables e below (T14.setTop (mkF m 39 #[.val (.int p1), .val (.int p2), .val (.ref r1), .val (.ref r2), .unset] [(.int (1 : Int32))])) _
              refine XS.goto X14.here hx rfl (pc0 := 39) (pc' := 43) rfl (hb hby at_39) (by decide) (by decide) ?_
              exact kt
            exact ⟨T14, _, (1 : Int32), X14.mono (by decide) (by decide), e14, N2, (by rw [if_pos hc6, if_neg hc9, if_pos hc13, if_pos hc16]), fun target kt => sg5 _ (sg8 _ (sg12 _ (sg15 _ (sg17 _ (kt)))))⟩
          · have sg18 : ∀ target, Steps p.tables e below (T14.setTop (mkF m 43 #[.val (.int p1), .val (.int p2), .val (.ref r1), .val (.ref r2), .unset] [(.int (0 : Int32))])) target → Steps p.tables e below (T14.setTop (mkF m 35 #[.val (.int p1), .val (.int p2), .val (.ref r1), .val (.ref r2), .unset] [(.ref wE), (.ref r2)])) target := by
              intro target kt
              show Steps p.tables e below (T14.setTop (mkF m 35 #[.val (.int p1), .val (.int p2), .val (.ref r1), .val (.ref r2), .unset] [(.ref wE), (.ref r2)])) _
              refine Jvm.RoadKit.acmp (g := (mkF m 35 #[.val (.int p1), .val (.int p2), .val (.ref r1), .val (.ref r2), .unset] [(.ref wE), (.ref r2)])) X14 hx rfl rfl rfl (pc0 := 35) (pc' := 42) (same := false) rfl (hb hby at_35) rfl (decide_eq_false fun q => hc16 (Value.ref.inj q)) (by decide) (by decide) ?_
              show Steps p.tables e below (T14.setTop (mkF m 42 #[.val (.int p1), .val (.int p2), .val (.ref r1), .val (.ref r2), .unset] [])) _
              refine XS.iconst X14.here hx rfl (hb hby at_42) ?_
              exact kt
            exact ⟨T14, _, (0 : Int32), X14.mono (by decide) (by decide), e14, N2, (by rw [if_pos hc6, if_neg hc9, if_pos hc13, if_neg hc16]), fun target kt => sg5 _ (sg8 _ (sg12 _ (sg15 _ (sg18 _ (kt)))))⟩
        · have sg19 : ∀ target, Steps p.tables e below (T11.setTop (mkF m 43 #[.val (.int p1), .val (.int p2), .val (.ref r1), .val (.ref r2), .unset] [(.int (0 : Int32))])) target → Steps p.tables e below (T11.setTop (mkF m 28 #[.val (.int p1), .val (.int p2), .val (.ref r1), .val (.ref r2), .unset] [(.ref wA), (.ref r1)])) target := by
            intro target kt
            show Steps p.tables e below (T11.setTop (mkF m 28 #[.val (.int p1), .val (.int p2), .val (.ref r1), .val (.ref r2), .unset] [(.ref wA), (.ref r1)])) _
            refine Jvm.RoadKit.acmp (g := (mkF m 28 #[.val (.int p1), .val (.int p2), .val (.ref r1), .val (.ref r2), .unset] [(.ref wA), (.ref r1)])) X11 hx rfl rfl rfl (pc0 := 28) (pc' := 42) (same := false) rfl (hb hby at_28) rfl (decide_eq_false fun q => hc13 (Value.ref.inj q)) (by decide) (by decide) ?_
            show Steps p.tables e below (T11.setTop (mkF m 42 #[.val (.int p1), .val (.int p2), .val (.ref r1), .val (.ref r2), .unset] [])) _
            refine XS.iconst X11.here hx rfl (hb hby at_42) ?_
            exact kt
          exact ⟨T11, _, (0 : Int32), X11.mono (by decide) (by decide), e11, N2, (by rw [if_pos hc6, if_neg hc9, if_neg hc13]), fun target kt => sg5 _ (sg8 _ (sg12 _ (sg19 _ (kt))))⟩
    · obtain ⟨T20, X20, e20, st20⟩ := getS2 X4 hx hZ hown (host := "") (Or.inl (hw _ (List.mem_of_getElem? (i := 8) rfl))) Via.refl e4 (S_ACTIVITY.ext O0.2) (g := (mkF m 25 #[.val (.int p1), .val (.int p2), .val (.ref r1), .val (.ref r2), .unset] [(.ref r1)])) rfl (hb hby at_25)
      have sg21 : ∀ target, Steps p.tables e below (T20.setTop (mkF m 28 #[.val (.int p1), .val (.int p2), .val (.ref r1), .val (.ref r2), .unset] [(.ref wA), (.ref r1)])) target → Steps p.tables e below (T4.setTop (mkF m 14 #[.val (.int p1), .val (.int p2), .val (.ref r1), .val (.ref r2), .unset] [(.ref wE), (.ref r1)])) target := by
        intro target kt
        show Steps p.tables e below (T4.setTop (mkF m 14 #[.val (.int p1), .val (.int p2), .val (.ref r1), .val (.ref r2), .unset] [(.ref wE), (.ref r1)])) _
        refine Jvm.RoadKit.acmp (g := (mkF m 14 #[.val (.int p1), .val (.int p2), .val (.ref r1), .val (.ref r2), .unset] [(.ref wE), (.ref r1)])) X4 hx rfl rfl rfl (pc0 := 14) (pc' := 24) (same := false) rfl (hb hby at_14) rfl (decide_eq_false fun q => hc6 (Value.ref.inj q)) (by decide) (by decide) ?_
        show Steps p.tables e below (T4.setTop (mkF m 24 #[.val (.int p1), .val (.int p2), .val (.ref r1), .val (.ref r2), .unset] [])) _
        refine XS.aloadN X4.here hx rfl (hb hby at_24) rfl rfl ?_
        show Steps p.tables e below (T4.setTop (mkF m 25 #[.val (.int p1), .val (.int p2), .val (.ref r1), .val (.ref r2), .unset] [(.ref r1)])) _
        refine st20 _ ?_
        exact kt
      by_cases hc22 : r1 = wA
      · obtain ⟨T23, X23, e23, st23⟩ := getS2 X20 hx hZ hown (host := "") (Or.inl (hw _ (List.mem_of_getElem? (i := 5) rfl))) Via.refl e20 (S_ENTITY.ext O0.2) (g := (mkF m 32 #[.val (.int p1), .val (.int p2), .val (.ref r1), .val (.ref r2), .unset] [(.ref r2)])) rfl (hb hby at_32)
        have sg24 : ∀ target, Steps p.tables e below (T23.setTop (mkF m 35 #[.val (.int p1), .val (.int p2), .val (.ref r1), .val (.ref r2), .unset] [(.ref wE), (.ref r2)])) target → Steps p.tables e below (T20.setTop (mkF m 28 #[.val (.int p1), .val (.int p2), .val (.ref r1), .val (.ref r2), .unset] [(.ref wA), (.ref r1)])) target := by
          intro target kt
          show Steps p.tables e below (T20.setTop (mkF m 28 #[.val (.int p1), .val (.int p2), .val (.ref r1), .val (.ref r2), .unset] [(.ref wA), (.ref r1)])) _
          refine Jvm.RoadKit.acmp (g := (mkF m 28 #[.val (.int p1), .val (.int p2), .val (.ref r1), .val (.ref r2), .unset] [(.ref wA), (.ref r1)])) X20 hx rfl rfl rfl (pc0 := 28) (pc' := 31) (same := true) rfl (hb hby at_28) rfl (decide_eq_true (congrArg Value.ref hc22)) (by decide) (by decide) ?_
          show Steps p.tables e below (T20.setTop (mkF m 31 #[.val (.int p1), .val (.int p2), .val (.ref r1), .val (.ref r2), .unset] [])) _
          refine XS.aloadN X20.here hx rfl (hb hby at_31) rfl rfl ?_
          show Steps p.tables e below (T20.setTop (mkF m 32 #[.val (.int p1), .val (.int p2), .val (.ref r1), .val (.ref r2), .unset] [(.ref r2)])) _
          refine st23 _ ?_
          exact kt
        by_cases hc25 : r2 = wE
        · have sg26 : ∀ target, Steps p.tables e below (T23.setTop (mkF m 43 #[.val (.int p1), .val (.int p2), .val (.ref r1), .val (.ref r2), .unset] [(.int (1 : Int32))])) target → Steps p.tables e below (T23.setTop (mkF m 35 #[.val (.int p1), .val (.int p2), .val (.ref r1), .val (.ref r2), .unset] [(.ref wE), (.ref r2)])) target := by
            intro target kt
            show Steps p.tables e below (T23.setTop (mkF m 35 #[.val (.int p1), .val (.int p2), .val (.ref r1), .val (.ref r2), .unset] [(.ref wE), (.ref r2)])) _
            refine Jvm.RoadKit.acmp (g := (mkF m 35 #[.val (.int p1), .val (.int p2), .val (.ref r1), .val (.ref r2), .unset] [(.ref wE), (.ref r2)])) X23 hx rfl rfl rfl (pc0 := 35) (pc' := 38) (same := true) rfl (hb hby at_35) rfl (decide_eq_true (congrArg Value.ref hc25)) (by decide) (by decide) ?_
            show Steps p.tables e below (T23.setTop (mkF m 38 #[.val (.int p1), .val (.int p2), .val (.ref r1), .val (.ref r2), .unset] [])) _
            refine XS.iconst X23.here hx rfl (hb hby at_38) ?_
            show Steps p.tables e below (T23.setTop (mkF m 39 #[.val (.int p1), .val (.int p2), .val (.ref r1), .val (.ref r2), .unset] [(.int (1 : Int32))])) _
            refine XS.goto X23.here hx rfl (pc0 := 39) (pc' := 43) rfl (hb hby at_39) (by decide) (by decide) ?_
            exact kt
          exact ⟨T23, _, (1 : Int32), X23.mono (by decide) (by decide), e23, N2, (by rw [if_neg hc6, if_pos hc22, if_pos hc25]), fun target kt => sg5 _ (sg21 _ (sg24 _ (sg26 _ (kt))))⟩
        · have sg27 : ∀ target, Steps p.tables e below (T23.setTop (mkF m 43 #[.val (.int p1), .val (.int p2), .val (.ref r1), .val (.ref r2), .unset] [(.int (0 : Int32))])) target → Steps p.tables e below (T23.setTop (mkF m 35 #[.val (.int p1), .val (.int p2), .val (.ref r1), .val (.ref r2), .unset] [(.ref wE), (.ref r2)])) target := by
            intro target kt
            show Steps p.tables e below (T23.setTop (mkF m 35 #[.val (.int p1), .val (.int p2), .val (.ref r1), .val (.ref r2), .unset] [(.ref wE), (.ref r2)])) _
            refine Jvm.RoadKit.acmp (g := (mkF m 35 #[.val (.int p1), .val (.int p2), .val (.ref r1), .val (.ref r2), .unset] [(.ref wE), (.ref r2)])) X23 hx rfl rfl rfl (pc0 := 35) (pc' := 42) (same := false) rfl (hb hby at_35) rfl (decide_eq_false fun q => hc25 (Value.ref.inj q)) (by decide) (by decide) ?_
            show Steps p.tables e below (T23.setTop (mkF m 42 #[.val (.int p1), .val (.int p2), .val (.ref r1), .val (.ref r2), .unset] [])) _
            refine XS.iconst X23.here hx rfl (hb hby at_42) ?_
            exact kt
          exact ⟨T23, _, (0 : Int32), X23.mono (by decide) (by decide), e23, N2, (by rw [if_neg hc6, if_pos hc22, if_neg hc25]), fun target kt => sg5 _ (sg21 _ (sg24 _ (sg27 _ (kt))))⟩
      · have sg28 : ∀ target, Steps p.tables e below (T20.setTop (mkF m 43 #[.val (.int p1), .val (.int p2), .val (.ref r1), .val (.ref r2), .unset] [(.int (0 : Int32))])) target → Steps p.tables e below (T20.setTop (mkF m 28 #[.val (.int p1), .val (.int p2), .val (.ref r1), .val (.ref r2), .unset] [(.ref wA), (.ref r1)])) target := by
          intro target kt
          show Steps p.tables e below (T20.setTop (mkF m 28 #[.val (.int p1), .val (.int p2), .val (.ref r1), .val (.ref r2), .unset] [(.ref wA), (.ref r1)])) _
          refine Jvm.RoadKit.acmp (g := (mkF m 28 #[.val (.int p1), .val (.int p2), .val (.ref r1), .val (.ref r2), .unset] [(.ref wA), (.ref r1)])) X20 hx rfl rfl rfl (pc0 := 28) (pc' := 42) (same := false) rfl (hb hby at_28) rfl (decide_eq_false fun q => hc22 (Value.ref.inj q)) (by decide) (by decide) ?_
          show Steps p.tables e below (T20.setTop (mkF m 42 #[.val (.int p1), .val (.int p2), .val (.ref r1), .val (.ref r2), .unset] [])) _
          refine XS.iconst X20.here hx rfl (hb hby at_42) ?_
          exact kt
        exact ⟨T20, _, (0 : Int32), X20.mono (by decide) (by decide), e20, N2, (by rw [if_neg hc6, if_neg hc22]), fun target kt => sg5 _ (sg21 _ (sg28 _ (kt)))⟩
  obtain ⟨cq30, kq30, q30a, q30b, q30c⟩ := isOf hZ e29 (A_r.ext O0.2)
  obtain ⟨_, _, ⟨T30, L30, k30, n30⟩, -, X30, ⟨Lc30, hQ30, l30, y30, z30⟩, st30⟩ := X29.virtualBack hx (y := (⟨"com/example/muninn/muninn/store/NodeKind", "excludes", "(Lcom/example/muninn/muninn/store/NodeKind;)Z"⟩ : MethodName)) (z := (⟨"com/example/muninn/muninn/store/NodeKind", "excludes", "(Lcom/example/muninn/muninn/store/NodeKind;)Z"⟩ : MethodName)) hown (mvT hZ (hw _ (List.mem_of_getElem? (i := 10) rfl))) (mvT hZ (hw _ (List.mem_of_getElem? (i := 11) rfl))) (notFace_of_selects (args := #[]) (mvT hZ (hw _ (List.mem_of_getElem? (i := 13) rfl)))) (mvT hZ (hw _ (List.mem_of_getElem? (i := 13) rfl))) (mvT hZ (hw _ (List.mem_of_getElem? (i := 12) rfl))) (by decide) (backOf (W := 0) (rm2 l Z a0 hw [] r1 r2 wE wA wG h0 n0 O0 S_ENTITY S_ACTIVITY S_AGENT) hZ (hw _ (List.mem_of_getElem? (i := 14) rfl)) (hw _ (List.mem_of_getElem? (i := 6) rfl)) (by decide) (by decide)) q30a q30c (g := (mkF m 47 #[.val (.int p1), .val (.int p2), .val (.ref r1), .val (.ref r2), .val (.int v29_t0)] [(.ref r2), (.ref r1)])) rfl (by rw [hml]; rfl) (Steps.refl _) (argsL := [(.ref r2)]) (rest := []) (lenOf pd_1 rfl) rfl (by show 2 * 0 + _ ≤ _; exact Nat.le_of_eq rfl) (hb hby at_47) (fun _ _ => ⟨rfl, e29, (by decide : 0 + 0 ≤ _), (by decide : 0 + 0 ≤ _)⟩)
  dsimp only [Pt.U, Pt.locs, Pt.cells, Pt.slots] at X30 l30 y30 z30 st30 hQ30
  subst l30 y30 z30
  obtain ⟨rfl, N30q, e30⟩ := hQ30
  have N30 := Fr.app N29 N30q
  obtain ⟨r30, hr30⟩ : ∃ z, z = (if r1 = wG then (0 : Int32) else (if r2 = wG then (0 : Int32) else (if r1 = r2 then (0 : Int32) else (1 : Int32)))) := ⟨_, rfl⟩
  rw [← hr30] at st30
  have sg31 : ∀ target, Steps p.tables e below (T30.setTop (mkF m 50 #[.val (.int p1), .val (.int p2), .val (.ref r1), .val (.ref r2), .val (.int v29_t0)] [(.int r30)])) target → Steps p.tables e below (T29.setTop (mkF m 43 #[.val (.int p1), .val (.int p2), .val (.ref r1), .val (.ref r2), .unset] [(.int v29_t0)])) target := by
    intro target kt
    show Steps p.tables e below (T29.setTop (mkF m 43 #[.val (.int p1), .val (.int p2), .val (.ref r1), .val (.ref r2), .unset] [(.int v29_t0)])) _
    refine XS.istore X29.here hx rfl (hb hby at_43) rfl (l' := #[.val (.int p1), .val (.int p2), .val (.ref r1), .val (.ref r2), .val (.int v29_t0)]) rfl ?_
    show Steps p.tables e below (T29.setTop (mkF m 45 #[.val (.int p1), .val (.int p2), .val (.ref r1), .val (.ref r2), .val (.int v29_t0)] [])) _
    refine XS.aloadN X29.here hx rfl (hb hby at_45) rfl rfl ?_
    show Steps p.tables e below (T29.setTop (mkF m 46 #[.val (.int p1), .val (.int p2), .val (.ref r1), .val (.ref r2), .val (.int v29_t0)] [(.ref r1)])) _
    refine XS.aloadN X29.here hx rfl (hb hby at_46) rfl rfl ?_
    show Steps p.tables e below (T29.setTop (mkF m 47 #[.val (.int p1), .val (.int p2), .val (.ref r1), .val (.ref r2), .val (.int v29_t0)] [(.ref r2), (.ref r1)])) _
    refine st30.trans ?_
    exact kt
  obtain ⟨T36, L36, v36_t0, X36, e36, N36, hv36_t0, sg36⟩ : ∃ (T' : State) (L' : List Loc) (v36_t0 : Int32), Stand p l e room_1 s m #[(.int p1), (.int p2)] below meth c T' L' 0 0 ∧ T'.heap = h0 ∧ Fr n0 L' ∧ v36_t0 = (if r30 = v29_t0 then (1 : Int32) else (0 : Int32)) ∧ ∀ target, Steps p.tables e below (T'.setTop (mkF m 60 #[.val (.int p1), .val (.int p2), .val (.ref r1), .val (.ref r2), .val (.int v29_t0)] [(.int v36_t0)])) target → Steps p.tables e below (T30.setTop (mkF m 50 #[.val (.int p1), .val (.int p2), .val (.ref r1), .val (.ref r2), .val (.int v29_t0)] [(.int r30)])) target := by
    have sg32 : ∀ target, Steps p.tables e below (T30.setTop (mkF m 52 #[.val (.int p1), .val (.int p2), .val (.ref r1), .val (.ref r2), .val (.int v29_t0)] [(.int v29_t0), (.int r30)])) target → Steps p.tables e below (T30.setTop (mkF m 50 #[.val (.int p1), .val (.int p2), .val (.ref r1), .val (.ref r2), .val (.int v29_t0)] [(.int r30)])) target := by
      intro target kt
      show Steps p.tables e below (T30.setTop (mkF m 50 #[.val (.int p1), .val (.int p2), .val (.ref r1), .val (.ref r2), .val (.int v29_t0)] [(.int r30)])) _
      refine XS.iload X30.here hx rfl (hb hby at_50) rfl ?_
      exact kt
    by_cases hc33 : r30 = v29_t0
    · have sg34 : ∀ target, Steps p.tables e below (T30.setTop (mkF m 60 #[.val (.int p1), .val (.int p2), .val (.ref r1), .val (.ref r2), .val (.int v29_t0)] [(.int (1 : Int32))])) target → Steps p.tables e below (T30.setTop (mkF m 52 #[.val (.int p1), .val (.int p2), .val (.ref r1), .val (.ref r2), .val (.int v29_t0)] [(.int v29_t0), (.int r30)])) target := by
        intro target kt
        show Steps p.tables e below (T30.setTop (mkF m 52 #[.val (.int p1), .val (.int p2), .val (.ref r1), .val (.ref r2), .val (.int v29_t0)] [(.int v29_t0), (.int r30)])) _
        refine XS.icmpNo X30.here hx rfl (hb hby at_52) rfl (teq hc33).2 ?_
        show Steps p.tables e below (T30.setTop (mkF m 55 #[.val (.int p1), .val (.int p2), .val (.ref r1), .val (.ref r2), .val (.int v29_t0)] [])) _
        refine XS.iconst X30.here hx rfl (hb hby at_55) ?_
        show Steps p.tables e below (T30.setTop (mkF m 56 #[.val (.int p1), .val (.int p2), .val (.ref r1), .val (.ref r2), .val (.int v29_t0)] [(.int (1 : Int32))])) _
        refine XS.goto X30.here hx rfl (pc0 := 56) (pc' := 60) rfl (hb hby at_56) (by decide) (by decide) ?_
        exact kt
      exact ⟨T30, _, (1 : Int32), X30.mono (by decide) (by decide), e30, N30, (by rw [if_pos hc33]), fun target kt => sg32 _ (sg34 _ (kt))⟩
    · have sg35 : ∀ target, Steps p.tables e below (T30.setTop (mkF m 60 #[.val (.int p1), .val (.int p2), .val (.ref r1), .val (.ref r2), .val (.int v29_t0)] [(.int (0 : Int32))])) target → Steps p.tables e below (T30.setTop (mkF m 52 #[.val (.int p1), .val (.int p2), .val (.ref r1), .val (.ref r2), .val (.int v29_t0)] [(.int v29_t0), (.int r30)])) target := by
        intro target kt
        show Steps p.tables e below (T30.setTop (mkF m 52 #[.val (.int p1), .val (.int p2), .val (.ref r1), .val (.ref r2), .val (.int v29_t0)] [(.int v29_t0), (.int r30)])) _
        refine XS.icmpYes X30.here hx rfl (pc0 := 52) (pc' := 59) rfl (hb hby at_52) rfl (feq hc33).2 (by decide) (by decide) ?_
        show Steps p.tables e below (T30.setTop (mkF m 59 #[.val (.int p1), .val (.int p2), .val (.ref r1), .val (.ref r2), .val (.int v29_t0)] [])) _
        refine XS.iconst X30.here hx rfl (hb hby at_59) ?_
        exact kt
      exact ⟨T30, _, (0 : Int32), X30.mono (by decide) (by decide), e30, N30, (by rw [if_neg hc33]), fun target kt => sg32 _ (sg35 _ (kt))⟩
  have hfin : v36_t0 = 1 := own_plain hEA hEG hAG hr1 hr2 hv29_t0 hr30 hv36_t0
  subst hfin
  obtain ⟨fs, hr, hrun, hended, hW, hsame⟩ := X36.leave (v := some (.int (1 : Int32))) (fun h => by rw [Bd.returns] at h; cases h)
  refine ⟨_, _, pre0 _ (sg3 _ (sg29 _ (sg31 _ (sg36 _ (?_))))), hrun, hended, _, _, rfl, ?_, ⟨_, rfl⟩, hW, hsame.mono (by decide) (by decide)⟩
  · show Steps p.tables e below (T36.setTop (mkF m 60 #[.val (.int p1), .val (.int p2), .val (.ref r1), .val (.ref r2), .val (.int v29_t0)] [(.int (1 : Int32))])) _
    exact retN X36 hx (t := .boolean) Bd.returns (by simp) (hb hby at_60) hr
  · show Q0 Z p1 p2 wE wA wG h0 n0 _ T36.heap _
    rw [e36]
    exact ⟨rfl, N36, rfl⟩
set_option maxRecDepth 65536 in
set_option maxHeartbeats 40000000 in
theorem comes_1 {Post : Tables → Env → Array Value → State → Outcome → State → Prop} (hpost : ∀ tb e args s v u, (limb_1_1.after args s (.returned v) u = true ∧ limb_1_2.after args s (.returned v) u = true ∧ True) → FrameEnd s (.returned v) u (Jvm.fieldLocs frame_1_writes args s ++ Jvm.arrayLocs frame_1_arrays args s ++ Jvm.staticLocs frame_1_statics s) 0 0 → Post tb e args s (.returned v) u) :
    ArmFor flags0 classFile x code maxLocals ret World_1 tables_1 room_1 Calls_1 rest_1 Pre_1 Post := by
  intro l hfl _ _ p e ha hc hk s m args below hf hA hF happ hP
  obtain ⟨hcalls, hrest, hpre⟩ := hP
  obtain ⟨-, -, -, hnamed, -, -, -, hat⟩ := (Spec.applies_iff hf).mp happ
  obtain ⟨hg, hn⟩ := and_e (Cond.before_iff.mp (show (Jvm.Cond.and given_1 narrow_1).before args s = true from hpre))
  obtain ⟨g1, g2⟩ := and_e hg
  obtain ⟨g3, g4⟩ := and_e g2
  obtain ⟨n5, n6⟩ := and_e hn
  obtain ⟨n7, n8⟩ := and_e n6
  obtain ⟨n9, n10⟩ := and_e n8
  obtain ⟨n11, n12⟩ := and_e n10
  obtain ⟨n13, n14⟩ := and_e n12
  obtain ⟨w0, w1, rfl⟩ : ∃ w0 w1 : Value, args = #[w0, w1] := by
    have hs : args.size = 2 := by simpa [Cond.value, given_1] using g1
    obtain ⟨L⟩ := args
    match L, hs with
    | [w0, w1], _ => exact ⟨w0, w1, rfl⟩
  have hw := fun d (hd : d ∈ tables_1) => atoms_spec (ws := Jvm.Cond.code x code maxLocals ret :: tables_1) hat d (List.mem_cons_of_mem _ hd)
  have hfit : Fit s := fun {y c} hc i hi => by
    obtain ⟨ha, rfl⟩ := Array.getElem?_eq_some_iff.mp hc
    have q := List.all_eq_true.mp ((Array.all_eq_true_iff_forall_mem.mp hF) _ (Array.getElem_mem ha)) i (List.mem_range.mpr hi)
    simpa [Array.getElem?_eq_getElem hi] using q
  obtain ⟨i0, ei0⟩ := is_v g3
  obtain rfl : w0 = (.int i0) := Option.some.inj ei0
  obtain ⟨i1, ei1⟩ := is_v g4
  obtain rfl : w1 = (.int i1) := Option.some.inj ei1
  obtain ⟨wE, ev_ENTITY⟩ := exa_v n5
  have EX_ENTITY := Exa.start ev_ENTITY n5
  have SS_ENTITY := Sta.start ev_ENTITY (Or.inr ⟨(hw _ (List.mem_of_getElem? (i := 6) rfl)), (hw _ (List.mem_of_getElem? (i := 7) rfl))⟩)
  obtain ⟨wA, ev_ACTIVITY⟩ := exa_v n7
  have EX_ACTIVITY := Exa.start ev_ACTIVITY n7
  have SS_ACTIVITY := Sta.start ev_ACTIVITY (Or.inr ⟨(hw _ (List.mem_of_getElem? (i := 6) rfl)), (hw _ (List.mem_of_getElem? (i := 9) rfl))⟩)
  obtain ⟨wG, ev_AGENT⟩ := exa_v n13
  have EX_AGENT := Exa.start ev_AGENT n13
  have SS_AGENT := Sta.start ev_AGENT (Or.inr ⟨(hw _ (List.mem_of_getElem? (i := 6) rfl)), (hw _ (List.mem_of_getElem? (i := 16) rfl))⟩)
  have oo_ENTITY := own_fo ev_ENTITY n9
  have oo_ACTIVITY := own_fo ev_ACTIVITY n11
  have oo_AGENT := own_fo ev_AGENT n14
  obtain ⟨n, o, h1, h2, h3, _, L, rfl, ⟨rfl, N, -⟩, hq⟩ := rm0 l s _ hw tables_1 i0 i1 wE wA wG s.heap s.heap.size (Old.start s) (own_ne oo_ENTITY oo_ACTIVITY (by decide)) (own_ne oo_ENTITY oo_AGENT (by decide)) (own_ne oo_ACTIVITY oo_AGENT (by decide)) EX_ENTITY EX_ACTIVITY EX_AGENT SS_ENTITY SS_ACTIVITY SS_AGENT p e ha hc hk s m _ below hf ((Spec.applies_iff_loose hf).mp happ).1 ⟨rfl, State.Warmed39.refl s, rfl⟩ trivial
  refine ⟨n, _, h1, h2, h3, hpost _ _ _ _ _ _ ⟨Cond.after_iff.mpr rfl, Cond.after_iff.mpr (eq_i res_at (Term.int_eval (1)) rfl), trivial⟩ ⟨hq.1, hq.2.1, (hq.2.2.sift fun y hy => Or.inr (N y hy)).mono (by decide) (by decide)⟩⟩
theorem main_1_1 : Claimed_1_1 := comes_1 fun _ _ _ _ _ _ h hF => ⟨h.1, hF⟩
theorem main_1_2 : Claimed_1_2 := comes_1 fun _ _ _ _ _ _ h hF => ⟨h.2.1, hF⟩
end Jvm.Pilot.@@N@@
namespace Jvm.Pilot.@@N@@
open Jvm Jvm.ClassFile Sem Op Lib Jvm.Free Jvm.Stand Jvm.Pilot.@@N@@.Jvm.D
/-! MADE BY PROGRAM (witnessworld.py) out of the Statement's table words and the real class files: 12 classes; the members and pool entries that the words name. The judged class is class 1, her method 2. -/
namespace start1
open Jvm.ClassFile
def u (s : String) : CpInfo := .utf8 (stringToUtf16 s)
/-- a pool by its gaps: so many unusable entries, then the entry; so many at the end -/
def gap : Nat → List CpInfo → List CpInfo
  | 0, r => r
  | n + 1, r => .unusable :: gap n r
def poolList (es : List (Nat × CpInfo)) (last : Nat) : List CpInfo := es.foldr (fun e r => gap e.1 (e.2 :: r)) (gap last [])
def pool (es : List (Nat × CpInfo)) (last : Nat) : Array CpInfo := ⟨poolList es last⟩
def fileOf (pool : Array CpInfo) (this : Nat) (attrs : Array Attribute := #[]) (ms : Array MethodInfo := #[]) (fl : Nat := 33) (sup : Nat := 0) (ifs : Array Nat := #[]) (fds : Array FieldInfo := #[]) : ClassFile where
  minorVersion := 0
  majorVersion := 65
  constantPool := pool
  accessFlags := fl
  thisClass := this
  superClass := sup
  interfaces := ifs
  fields := fds
  methods := ms
  attributes := attrs
def plain (name : String) (sup : Option ClassId) : Class where
  name := name
  kind := .ordinary
  loader := none
  accessFlags := 33
  super := sup
  interfaces := #[]
  cf := none
  fields := #[]
  methods := #[]
  instanceTypes := #[]
  staticTypes := #[]
  resolved := #[]
  callSites := []
  init := .initialized
  statics := none
  mirror := none

def pool0 : Array CpInfo := pool [(5, u "<init>"), (0, u "()V"), (1, .class_ 10), (1, u "java/lang/Object")] 113

def k0m0 : Method := { name := "<init>", desc := "()V", sig := { parameters := [], returnType := none }, accessFlags := 1, code := none }
/-- java/lang/Object -/
def k0 : Class := { plain "java/lang/Object" none with
  accessFlags := 33
  interfaces := #[]
  cf := some (fileOf pool0 8 #[] #[{ accessFlags := 1, nameIndex := 5, descriptorIndex := 6, attributes := #[] }] 33 0 #[] #[])
  fields := #[]
  methods := #[k0m0]
  instanceTypes := #[]
  staticTypes := #[]
  resolved := Array.replicate 124 none
  statics := none }

def pool1 : Array CpInfo := pool [(2, .class_ 4), (1, u "java/lang/Object"), (0, u "<init>"), (0, u "()V"), (0, .integer 2147483647), (0, .fieldref 9 10), (0, .class_ 11), (0, .nameAndType 12 13), (0, u "com/example/muninn/muninn/store/NodeKind"), (0, u "ENTITY"), (0, u "Lcom/example/muninn/muninn/store/NodeKind;"), (0, .fieldref 9 15), (0, .nameAndType 16 13), (0, u "ACTIVITY"), (0, .fieldref 9 18), (0, .nameAndType 19 13), (0, u "AGENT"), (0, .methodref 21 22), (0, .class_ 23), (0, .nameAndType 24 25), (0, u "com/example/muninn/muninn/store/NodeKindExcludesPinLaw"), (0, u "kind"), (0, u "(I)Lcom/example/muninn/muninn/store/NodeKind;"), (0, .methodref 9 27), (0, .nameAndType 28 29), (0, u "excludes"), (0, u "(Lcom/example/muninn/muninn/store/NodeKind;)Z"), (3, u "law"), (0, u "(II)Z")] 2

def k1m0 : Method := { name := "<init>", desc := "()V", sig := { parameters := [], returnType := none }, accessFlags := 1, code := none }
def k1c1 : Code := { maxStack := 2, maxLocals := 2, code := method_2_code, exceptionTable := #[], attributes := #[] }
def k1m1 : Method := { name := "kind", desc := "(I)Lcom/example/muninn/muninn/store/NodeKind;", sig := { parameters := [.int], returnType := some (.object "com/example/muninn/muninn/store/NodeKind") }, accessFlags := 10, code := some k1c1 }
def k1c2 : Code := { maxStack := 2, maxLocals := 5, code := code, exceptionTable := #[], attributes := #[] }
def k1m2 : Method := { name := "law", desc := "(II)Z", sig := { parameters := [.int, .int], returnType := some .boolean }, accessFlags := 9, code := some k1c2 }
/-- com/example/muninn/muninn/store/NodeKindExcludesPinLaw -/
def k1 : Class := { plain "com/example/muninn/muninn/store/NodeKindExcludesPinLaw" (some 0) with
  accessFlags := 49
  interfaces := #[]
  cf := some (fileOf pool1 21 #[] #[{ accessFlags := 1, nameIndex := 5, descriptorIndex := 6, attributes := #[] }, { accessFlags := 10, nameIndex := 24, descriptorIndex := 25, attributes := #[] }, { accessFlags := 9, nameIndex := 33, descriptorIndex := 34, attributes := #[] }] 49 2 #[] #[])
  fields := #[]
  methods := #[k1m0, k1m1, k1m2]
  instanceTypes := #[]
  staticTypes := #[]
  resolved := Array.replicate 37 none
  statics := none }

def pool2 : Array CpInfo := pool [(1, .class_ 2), (0, u "java/lang/constant/Constable"), (0, .class_ 4), (0, u "java/lang/Object")] 6

/-- java/lang/constant/Constable -/
def k2 : Class := { plain "java/lang/constant/Constable" (some 0) with
  accessFlags := 1537
  interfaces := #[]
  cf := some (fileOf pool2 1 #[] #[] 1537 3 #[] #[])
  fields := #[]
  methods := #[]
  instanceTypes := #[]
  staticTypes := #[]
  resolved := Array.replicate 11 none
  statics := none }

def pool3 : Array CpInfo := pool [(1, .class_ 2), (0, u "java/lang/Comparable"), (0, .class_ 4), (0, u "java/lang/Object")] 7

/-- java/lang/Comparable -/
def k3 : Class := { plain "java/lang/Comparable" (some 0) with
  accessFlags := 1537
  interfaces := #[]
  cf := some (fileOf pool3 1 #[] #[] 1537 3 #[] #[])
  fields := #[]
  methods := #[]
  instanceTypes := #[]
  staticTypes := #[]
  resolved := Array.replicate 12 none
  statics := none }

def pool4 : Array CpInfo := pool [(1, .class_ 2), (0, u "java/io/Serializable"), (0, .class_ 4), (0, u "java/lang/Object")] 2

/-- java/io/Serializable -/
def k4 : Class := { plain "java/io/Serializable" (some 0) with
  accessFlags := 1537
  interfaces := #[]
  cf := some (fileOf pool4 1 #[] #[] 1537 3 #[] #[])
  fields := #[]
  methods := #[]
  instanceTypes := #[]
  staticTypes := #[]
  resolved := Array.replicate 7 none
  statics := none }

def pool5 : Array CpInfo := pool [(2, .class_ 4), (1, u "java/lang/Enum"), (0, u "name"), (0, u "Ljava/lang/String;"), (2, u "ordinal"), (0, u "I"), (1, .class_ 14), (1, u "java/lang/Object"), (4, u "hash"), (86, .class_ 108), (1, u "java/lang/Enum$EnumDesc"), (2, .class_ 112), (0, u "java/lang/constant/Constable"), (0, .class_ 114), (0, u "java/lang/Comparable"), (0, .class_ 116), (0, u "java/io/Serializable")] 87

/-- java/lang/Enum -/
def k5 : Class := { plain "java/lang/Enum" (some 0) with
  accessFlags := 1057
  interfaces := #[2, 3, 4]
  cf := some (fileOf pool5 2 #[.nestMembers #[106]] #[] 1057 12 #[111, 113, 115] #[{ accessFlags := 18, nameIndex := 5, descriptorIndex := 6, attributes := #[] }, { accessFlags := 18, nameIndex := 9, descriptorIndex := 10, attributes := #[] }, { accessFlags := 2, nameIndex := 19, descriptorIndex := 10, attributes := #[] }])
  fields := #[{ name := "name", type := (.object "java/lang/String"), accessFlags := 18, slot := 0, constantValue := 0 }, { name := "ordinal", type := .int, accessFlags := 18, slot := 1, constantValue := 0 }, { name := "hash", type := .int, accessFlags := 2, slot := 2, constantValue := 0 }]
  methods := #[]
  instanceTypes := #[(.object "java/lang/String"), .int, .int]
  staticTypes := #[]
  resolved := Array.replicate 204 none
  statics := none }

def pool6 : Array CpInfo := pool [(1, .class_ 2), (0, u "com/example/muninn/muninn/store/NodeKind"), (2, u "ENTITY"), (0, u "Lcom/example/muninn/muninn/store/NodeKind;"), (2, u "ACTIVITY"), (0, .fieldref 1 11), (0, .nameAndType 12 6), (0, u "AGENT"), (2, u "$VALUES"), (0, u "[Lcom/example/muninn/muninn/store/NodeKind;"), (6, .class_ 25), (1, u "java/lang/Enum"), (8, u "provName"), (0, u "Ljava/lang/String;"), (40, u "excludes"), (0, u "(Lcom/example/muninn/muninn/store/NodeKind;)Z")] 22

def k6c0 : Code := { maxStack := 2, maxLocals := 2, code := prog_59_method_5_code, exceptionTable := #[], attributes := #[] }
def k6m0 : Method := { name := "excludes", desc := "(Lcom/example/muninn/muninn/store/NodeKind;)Z", sig := { parameters := [(.object "com/example/muninn/muninn/store/NodeKind")], returnType := some .boolean }, accessFlags := 0, code := some k6c0 }
/-- com/example/muninn/muninn/store/NodeKind -/
def k6 : Class := { plain "com/example/muninn/muninn/store/NodeKind" (some 5) with
  accessFlags := 16433
  interfaces := #[]
  cf := some (fileOf pool6 1 #[] #[{ accessFlags := 0, nameIndex := 76, descriptorIndex := 77, attributes := #[] }] 16433 23 #[] #[{ accessFlags := 16409, nameIndex := 5, descriptorIndex := 6, attributes := #[] }, { accessFlags := 16409, nameIndex := 9, descriptorIndex := 6, attributes := #[] }, { accessFlags := 16409, nameIndex := 12, descriptorIndex := 6, attributes := #[] }, { accessFlags := 18, nameIndex := 34, descriptorIndex := 35, attributes := #[] }, { accessFlags := 4122, nameIndex := 15, descriptorIndex := 16, attributes := #[] }])
  fields := #[{ name := "ENTITY", type := (.object "com/example/muninn/muninn/store/NodeKind"), accessFlags := 16409, slot := 0, constantValue := 0 }, { name := "ACTIVITY", type := (.object "com/example/muninn/muninn/store/NodeKind"), accessFlags := 16409, slot := 1, constantValue := 0 }, { name := "AGENT", type := (.object "com/example/muninn/muninn/store/NodeKind"), accessFlags := 16409, slot := 2, constantValue := 0 }, { name := "provName", type := (.object "java/lang/String"), accessFlags := 18, slot := 3, constantValue := 0 }, { name := "$VALUES", type := (.array (.object "com/example/muninn/muninn/store/NodeKind")), accessFlags := 4122, slot := 3, constantValue := 0 }]
  methods := #[k6m0]
  instanceTypes := #[(.object "java/lang/String"), .int, .int, (.object "java/lang/String")]
  staticTypes := #[(.object "com/example/muninn/muninn/store/NodeKind"), (.object "com/example/muninn/muninn/store/NodeKind"), (.object "com/example/muninn/muninn/store/NodeKind"), (.array (.object "com/example/muninn/muninn/store/NodeKind"))]
  resolved := Array.replicate 100 none
  statics := some 0 }

def pool7 : Array CpInfo := pool [(1, u "java/lang/Cloneable"), (0, .class_ 1), (0, u "java/lang/Object"), (0, .class_ 3)] 3

/-- java/lang/Cloneable -/
def k7 : Class := { plain "java/lang/Cloneable" (some 0) with
  accessFlags := 1537
  interfaces := #[]
  cf := some (fileOf pool7 2 #[] #[] 1537 4 #[] #[])
  fields := #[]
  methods := #[]
  instanceTypes := #[]
  staticTypes := #[]
  resolved := Array.replicate 8 none
  statics := none }

/-- the primitive byte -/
def k8 : Class := { plain "byte" none with kind := .primitive 'B', accessFlags := 0x411 }
/-- [B -/
def k9 : Class := { plain "[B" (some 0) with kind := .array 8 .byte, interfaces := #[7, 4], accessFlags := 1041 }

/-- the primitive int -/
def k10 : Class := { plain "int" none with kind := .primitive 'I', accessFlags := 0x411 }
/-- [I -/
def k11 : Class := { plain "[I" (some 0) with kind := .array 10 .int, interfaces := #[7, 4], accessFlags := 1041 }

def heap : Heap := #[{ cls := 6, slots := #[.ref 1, .ref 2, .ref 3, .null], vm := .statics 6 },
  { cls := 6, slots := #[.null, .int 0, .int 0, .null], vm := .none },
  { cls := 6, slots := #[.null, .int 1, .int 0, .null], vm := .none },
  { cls := 6, slots := #[.null, .int 2, .int 0, .null], vm := .none }]
def classes : Array Class := #[k0, k1, k2, k3, k4, k5, k6, k7, k8, k9, k10, k11]
def interned : List (Array UInt16 × Addr) := []
def slotsUsed : Nat := 16
def theMethod : MethodId := ⟨1, 2⟩
def args0 : Array Value := #[.int 5, .int 7]
def aboutOver (below : List Frame) : State where
  vm := { classes := classes, interned := interned.toArray }
  heap := heap
  slotsUsed := slotsUsed
  threads := #[{ frames := .invoking theMethod args0 :: below }]
def below0 : List Frame := [.native { method := ⟨0, 0⟩, args := #[] }]
def about1 : State := aboutOver below0
def p0 : Program := .bare "" "" ""
def e0 : Env := launch0.env 0 0 0
theorem w_frames : about1.frames = Frame.invoking theMethod args0 :: below0 := rfl
set_option maxRecDepth 65536 in
theorem w_args : argsFit about1.vm theMethod args0 = true := by decide +kernel
set_option maxRecDepth 65536 in
theorem w_heap : heapFits about1 = true := by decide +kernel
set_option maxRecDepth 65536 in
theorem w_runnable : about1.curStatus? = some .runnable := by decide +kernel
set_option maxRecDepth 65536 in
theorem w_alone : about1.alone = true := by decide +kernel
set_option maxRecDepth 65536 in
theorem w_named : about1.methodNamed? x = some theMethod := by decide +kernel
set_option maxRecDepth 65536 in
theorem w_hears : about1.hears theMethod below0 = true := by decide +kernel
set_option maxRecDepth 65536 in
theorem w_ripe : about1.ripe theMethod args0 below0 = true := by decide +kernel
theorem w_running : about1.status = .running := rfl
set_option maxRecDepth 65536 in
theorem w_room : about1.hasRoom e0.platform room_1 = true :=
  launch0.hasRoom_least _ room_1 (by decide +kernel) (by decide +kernel) (by decide +kernel) (by decide +kernel) (by decide +kernel) (by decide +kernel)
theorem allAtoms_all (ts : List Jvm.Cond) (a : Array Jvm.Value) (st : Jvm.State) : (allAtoms ts).before a st = ts.all (fun c => c.before a st) := by
  induction ts with
  | nil => rfl
  | cons c t ih =>
    show (Jvm.Cond.and c (allAtoms t)).before a st = _
    rw [Jvm.Cond.before_and, ih, List.all_cons]
def words1 : List Jvm.Cond := Jvm.Cond.code x code maxLocals ret :: tables_1
/-- a 'code' word, met by the world's own term for the bytes: nothing is compared byte by byte -/
theorem code_word {y : MethodName} {bytes : ByteArray} {mx : Nat} {rt : Option FieldType} {a : Array Value} {s : State} {m : MethodId} {meth : Method} {c : Code} (h1 : s.methodNamed? y = some m) (h2 : s.vm.method? m = some meth) (h3 : meth.code = some c) (h4 : c.code = bytes)
    (h5 : (c.maxLocals == mx && c.exceptionTable.isEmpty && decide (c.maxStack ≤ mostOperands) && decide (meth.sig.returnType = rt) && !meth.locks && decide (parseMethodDescriptor y.desc = some meth.sig)) = true) : (Jvm.Cond.code y bytes mx rt).before a s = true := by
  simp only [Bool.and_eq_true, beq_iff_eq, Bool.not_eq_true', decide_eq_true_eq] at h5
  obtain ⟨⟨⟨⟨⟨g1, g2⟩, g3⟩, g4⟩, g5⟩, g6⟩ := h5
  simp [Cond.before, Cond.holds, Cond.value, h1, h2, h3, h4, g1, g2, g3, g4, g5, g6]
def isCode : Jvm.Cond → Bool
  | .code _ _ _ _ => true
  | _ => false
theorem all_split {L : List Jvm.Cond} {P : Jvm.Cond → Bool} (h1 : L.all (fun c => isCode c || P c) = true) (h2 : ∀ c ∈ L.filter isCode, P c = true) : L.all P = true := by
  refine List.all_eq_true.mpr fun c hc => ?_
  have h := List.all_eq_true.mp h1 c hc
  rcases Bool.eq_false_or_eq_true (isCode c) with hi | hi
  · exact h2 c (List.mem_filter.mpr ⟨hc, hi⟩)
  · simpa [hi] using h
set_option maxRecDepth 65536 in
theorem w_c0 : (Jvm.Cond.code x code maxLocals ret).before args0 about1 = true := code_word (m := ⟨1, 2⟩) (meth := k1m2) (c := k1c2) (by decide +kernel) rfl rfl rfl (by decide +kernel)
set_option maxRecDepth 65536 in
theorem w_c1 : (Jvm.Cond.code ({ cls := "com/example/muninn/muninn/store/NodeKindExcludesPinLaw", name := "kind", desc := "(I)Lcom/example/muninn/muninn/store/NodeKind;" } : Jvm.MethodName) method_2_code (2 : Nat) (Option.some (Jvm.ClassFile.FieldType.object "com/example/muninn/muninn/store/NodeKind"))).before args0 about1 = true := code_word (m := ⟨1, 1⟩) (meth := k1m1) (c := k1c1) (by decide +kernel) rfl rfl rfl (by decide +kernel)
set_option maxRecDepth 65536 in
theorem w_c2 : (Jvm.Cond.code ({ cls := "com/example/muninn/muninn/store/NodeKind", name := "excludes", desc := "(Lcom/example/muninn/muninn/store/NodeKind;)Z" } : Jvm.MethodName) prog_59_method_5_code (2 : Nat) (Option.some Jvm.ClassFile.FieldType.boolean)).before args0 about1 = true := code_word (m := ⟨6, 0⟩) (meth := k6m0) (c := k6c0) (by decide +kernel) rfl rfl rfl (by decide +kernel)
def codes1 : List Jvm.Cond := [Jvm.Cond.code x code maxLocals ret, Jvm.Cond.code ({ cls := "com/example/muninn/muninn/store/NodeKindExcludesPinLaw", name := "kind", desc := "(I)Lcom/example/muninn/muninn/store/NodeKind;" } : Jvm.MethodName) method_2_code (2 : Nat) (Option.some (Jvm.ClassFile.FieldType.object "com/example/muninn/muninn/store/NodeKind")), Jvm.Cond.code ({ cls := "com/example/muninn/muninn/store/NodeKind", name := "excludes", desc := "(Lcom/example/muninn/muninn/store/NodeKind;)Z" } : Jvm.MethodName) prog_59_method_5_code (2 : Nat) (Option.some Jvm.ClassFile.FieldType.boolean)]
set_option maxRecDepth 65536 in
theorem codes_eq : words1.filter isCode = codes1 := rfl
theorem w_codes : ∀ c ∈ words1.filter isCode, c.before args0 about1 = true := by
  rw [codes_eq]
  intro c hc
  simp only [codes1, List.mem_cons, List.not_mem_nil, or_false] at hc
  rcases hc with rfl | rfl | rfl
  · exact w_c0
  · exact w_c1
  · exact w_c2
set_option maxRecDepth 65536 in
theorem w_t1 : words1.all (fun c => isCode c || c.before args0 about1) = true := by decide +kernel
theorem w_tables : (allAtoms (Jvm.Cond.code x code maxLocals ret :: tables_1)).before args0 about1 = true := by
  rw [allAtoms_all]
  show words1.all (fun c => c.before args0 about1) = true
  refine all_split ?_ w_codes
  rw [w_t1]
set_option maxRecDepth 65536 in
theorem w_case : (Jvm.Cond.and given_1 narrow_1).before args0 about1 = true := by decide +kernel
theorem w_applies : (headSpec (Jvm.Cond.code x code maxLocals ret :: tables_1) room_1).applies x e0.platform about1 = true :=
  (Spec.applies_iff w_frames).mpr ⟨w_running, w_runnable, w_alone, w_named, w_hears, w_ripe, w_room, w_tables⟩
theorem atStart : AtStart classFile x code maxLocals ret World_1 tables_1 room_1 Calls_1 rest_1 Pre_1 launch0 p0 e0 about1 theMethod args0 below0 :=
  ⟨lists_1, trivial, launch0.admits_env _ _ _, launch0.least_env, fairChoices_fair.cas, fairChoices_fair.clock, w_frames, w_args, w_heap, w_applies, trivial, trivial, w_case⟩
end start1
theorem witness_1 : WitnessClaimed_1 := ⟨start1.p0, start1.e0, start1.about1, start1.theMethod, start1.args0, start1.below0, start1.atStart⟩
end Jvm.Pilot.@@N@@
