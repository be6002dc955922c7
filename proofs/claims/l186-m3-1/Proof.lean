import JvmDerived
import JvmDerived.Pilot.@@N@@Statement
import JvmDerived.Pilot.@@N@@Code
set_option linter.unusedVariables false
set_option linter.unusedSimpArgs false
namespace Jvm.RoadKit
open Sem ClassFile Op Lib Jvm.Stand Jvm.Free Jvm.LawKit
section New
variable {p : Program} {l : Launch} {e : Env} {R : Room} {s : State} {m : MethodId} {args : Array Value} {below : List Frame} {meth : Method} {c : Code} {T : State} {locs : List Loc} {cells slots : Nat}
theorem retI (X : Stand p l e R s m args below meth c T locs cells slots) (hx : p.tables.exec = Jvm.exec) {pc : Nat} {Ls : Array Slot} {z : Int32} {rest : List Value} (hret : meth.sig.returnType = some .int) (hd : decode c.code pc = .ok (.ireturn, 1)) {fs : List Frame}
    (hl : ∀ (f : JFrame) (acts : List Action), f.method = m → f.locked = none → f.entered = [] → (doReturn e (T.setTop f) acts (some (.int z))).1 = T.setFrames fs) : Steps p.tables e below (T.setTop (mkF m pc Ls (.int z :: rest))) (T.setFrames fs) := by
  have hm' : T.vm.method? m = some meth := X.method'
  have hn : narrow .int (.int z) = .int z := rfl
  show Steps p.tables e below (T.setTop { method := m, pc := pc, locals := Ls, stack := _ :: rest, locked := none }) _
  jvm_step X.here [X.here.top, hx, hd, hm', hret, hn]
  first | (intro acts; rw [hl _ acts rfl rfl rfl]) | rw [hl _ _ rfl rfl rfl]
  exact Steps.refl _
end New
end Jvm.RoadKit
namespace Jvm.Pilot.@@N@@
open Jvm Jvm.ClassFile Sem Op Lib Jvm.Free Jvm.Stand Jvm.LawKit Jvm.RoadKit Bundle Jvm.Pilot.@@N@@.Jvm.D

theorem own_mask (x : Int32) : 0 ≤ (x &&& (2147483647 : Int32)).toInt ∧ (x &&& (2147483647 : Int32)).toInt ≤ 2147483647 := by
  have q := c_and x (2147483647 : Int32) (by decide)
  have e : (2147483647 : Int32).toInt = 2147483647 := by decide
  omega
theorem d1_0 : decode jdk_89_method_89_code 0 = .ok (.iload_n 0, 1) := by decide +kernel
theorem d1_1 : decode jdk_89_method_89_code 1 = .ok (.sipush 159, 3) := by decide +kernel
theorem d1_4 : decode jdk_89_method_89_code 4 = .ok (.if_icmp .gt 19, 3) := by decide +kernel
theorem d1_7 : decode jdk_89_method_89_code 7 = .ok (.iload_n 0, 1) := by decide +kernel
theorem d1_8 : decode jdk_89_method_89_code 8 = .ok (.bipush 127, 2) := by decide +kernel
theorem d1_10 : decode jdk_89_method_89_code 10 = .ok (.if_icmp .ge 9, 3) := by decide +kernel
theorem d1_13 : decode jdk_89_method_89_code 13 = .ok (.iload_n 0, 1) := by decide +kernel
theorem d1_14 : decode jdk_89_method_89_code 14 = .ok (.iconst 5, 1) := by decide +kernel
theorem d1_15 : decode jdk_89_method_89_code 15 = .ok (.iushr, 1) := by decide +kernel
theorem d1_16 : decode jdk_89_method_89_code 16 = .ok (.ifCond .ne 7, 3) := by decide +kernel
theorem d1_19 : decode jdk_89_method_89_code 19 = .ok (.iconst 1, 1) := by decide +kernel
theorem d1_20 : decode jdk_89_method_89_code 20 = .ok (.goto 4, 3) := by decide +kernel
theorem d1_23 : decode jdk_89_method_89_code 23 = .ok (.iconst 0, 1) := by decide +kernel
theorem d1_24 : decode jdk_89_method_89_code 24 = .ok (.ireturn, 1) := by decide +kernel
theorem pn1 : plainName "java/lang/Character" = true := by first | (simp [plainName, overriddenIn]; done) | decide +kernel
theorem ef1 (m : MethodId) (x0 : Int32) : entryFrame m #[(.int x0)] 1 = mkF m 0 #[.val (.int x0)] [] := by first | (simp [entryFrame, mkF, argsToLocals, Value.category]; done) | rfl
def own_F1 (x0 : Int32) : Int32 := (if (159 : Int32) < x0 then (0 : Int32) else (if x0 < (127 : Int32) then (if ((x0.toUInt32 >>> ((5 : Int32) &&& 31).toUInt32).toInt32) = (0 : Int32) then (1 : Int32) else (0 : Int32)) else (1 : Int32)))
def Q1 (Z : State) (x0 : Int32) (h0 : Heap) (n0 : Nat) (v : Option Value) (h : Heap) (L : List Loc) : Prop := v = some (.int (own_F1 x0)) ∧ Fr n0 L ∧ h = h0
set_option maxRecDepth 65536 in
set_option maxHeartbeats 40000000 in
theorem rm1 (l : Launch) (Z : State) (a0 : Array Value) (hw : ∀ d ∈ tables_1, d.before a0 Z = true) (ws : List Jvm.Cond) (x0 : Int32) (h0 : Heap) (n0 : Nat) (Z0 : n0 ≤ h0.size) :
    MetFree l (⟨"java/lang/Character", "isISOControl", "(I)Z"⟩ : MethodName) (head1 (Jvm.Cond.code (⟨"java/lang/Character", "isISOControl", "(I)Z"⟩ : MethodName) jdk_89_method_89_code 1 (some .boolean) :: ws) ({ frames := 0, cells := 0, slots := 0, locals := 0 } : Room)) (fun a U => a = #[(.int x0)] ∧ Z.Warmed39 U.vm ∧ U.heap = h0) (fun _ _ _ _ _ => True) (fun _ U o U' => ∃ v L, o = .returned v ∧ Q1 Z x0 h0 n0 v U'.heap L ∧ FrameEnd U o U' L ({ frames := 0, cells := 0, slots := 0, locals := 0 } : Room).cells ({ frames := 0, cells := 0, slots := 0, locals := 0 } : Room).slots) := by
  refine MetFree.of_bodySF (plainFor_of_name pn1) hisR ?_
  intro p e s m args below meth c s₁ Bd hml0 hP hK
  obtain ⟨rfl, hZ, hh⟩ := hP
  have hx := Bd.exec
  have hby := Bd.bytes
  have hml : c.maxLocals = 1 := hml0
  have hown : s.vm.findClass "java/lang/Character" = some m.cls := findClass_of_methodNamed Bd.named
  have hnm := (name_of_methodNamed Bd.named Bd.method).1
  have X0 : Stand p l e ({ frames := 0, cells := 0, slots := 0, locals := 0 } : Room) s m #[(.int x0)] below meth c s₁ [] 0 0 := Stand.of_body Bd
  have e0 : s₁.heap = h0 := by rw [← hh, Bd.state]; rfl
  have N0 := Fr.nil n0
  have pre0 : Steps p.tables e below (s₁.setTop (entryFrame m #[(.int x0)] 1)) (s₁.setTop (mkF m 0 #[.val (.int x0)] [])) := castTop (ef1 m x0) (Steps.refl _)
  obtain ⟨v1, hv1⟩ : ∃ z : Int32, z = (if (159 : Int32) < x0 then (0 : Int32) else (if x0 < (127 : Int32) then (if ((x0.toUInt32 >>> ((5 : Int32) &&& 31).toUInt32).toInt32) = (0 : Int32) then (1 : Int32) else (0 : Int32)) else (1 : Int32))) := ⟨_, rfl⟩
  have st2 : Steps p.tables e below (s₁.setTop (mkF m 0 #[.val (.int x0)] [])) (s₁.setTop (mkF m 24 #[.val (.int x0)] [(.int v1)])) := by
    subst v1
    refine XS.iloadN X0.here hx rfl (hb hby d1_0) rfl ?_
    show Steps p.tables e below (s₁.setTop (mkF m 1 #[.val (.int x0)] [(.int x0)])) _
    refine XS.sipush X0.here hx rfl (hb hby d1_1) ?_
    show Steps p.tables e below (s₁.setTop (mkF m 4 #[.val (.int x0)] [(.int (159 : Int32)), (.int x0)])) _
    refine Steps.trans (s₂ := s₁.setTop (mkF m 24 #[.val (.int x0)] [(.int (if (159 : Int32) < x0 then (0 : Int32) else (if x0 < (127 : Int32) then (if ((x0.toUInt32 >>> ((5 : Int32) &&& 31).toUInt32).toInt32) = (0 : Int32) then (1 : Int32) else (0 : Int32)) else (1 : Int32))))])) ?_ ?_
    · by_cases hc4 : (159 : Int32) < x0
      · simp only [if_pos hc4]
        refine XS.icmpYes X0.here hx rfl (pc0 := 4) (pc' := 23) rfl (hb hby d1_4) rfl (tlt hc4).2.2.1 (by decide) (by decide) ?_
        show Steps p.tables e below (s₁.setTop (mkF m 23 #[.val (.int x0)] [])) _
        refine XS.iconst X0.here hx rfl (hb hby d1_23) ?_
        show Steps p.tables e below (s₁.setTop (mkF m 24 #[.val (.int x0)] [(.int (0 : Int32))])) _
        exact Steps.refl _
      · simp only [if_neg hc4]
        refine XS.icmpNo X0.here hx rfl (hb hby d1_4) rfl (flt hc4).2.2.1 ?_
        show Steps p.tables e below (s₁.setTop (mkF m 7 #[.val (.int x0)] [])) _
        refine XS.iloadN X0.here hx rfl (hb hby d1_7) rfl ?_
        show Steps p.tables e below (s₁.setTop (mkF m 8 #[.val (.int x0)] [(.int x0)])) _
        refine XS.bipush X0.here hx rfl (hb hby d1_8) ?_
        show Steps p.tables e below (s₁.setTop (mkF m 10 #[.val (.int x0)] [(.int (127 : Int32)), (.int x0)])) _
        refine Steps.trans (s₂ := s₁.setTop (mkF m 24 #[.val (.int x0)] [(.int (if x0 < (127 : Int32) then (if ((x0.toUInt32 >>> ((5 : Int32) &&& 31).toUInt32).toInt32) = (0 : Int32) then (1 : Int32) else (0 : Int32)) else (1 : Int32)))])) ?_ ?_
        · by_cases hc10 : x0 < (127 : Int32)
          · simp only [if_pos hc10]
            refine XS.icmpNo X0.here hx rfl (hb hby d1_10) rfl (tlt hc10).2.1 ?_
            show Steps p.tables e below (s₁.setTop (mkF m 13 #[.val (.int x0)] [])) _
            refine XS.iloadN X0.here hx rfl (hb hby d1_13) rfl ?_
            show Steps p.tables e below (s₁.setTop (mkF m 14 #[.val (.int x0)] [(.int x0)])) _
            refine XS.iconst X0.here hx rfl (hb hby d1_14) ?_
            show Steps p.tables e below (s₁.setTop (mkF m 15 #[.val (.int x0)] [(.int (5 : Int32)), (.int x0)])) _
            refine XS.iushr X0.here hx rfl (hb hby d1_15) rfl ?_
            show Steps p.tables e below (s₁.setTop (mkF m 16 #[.val (.int x0)] [(.int ((x0.toUInt32 >>> ((5 : Int32) &&& 31).toUInt32).toInt32))])) _
            refine Steps.trans (s₂ := s₁.setTop (mkF m 24 #[.val (.int x0)] [(.int (if ((x0.toUInt32 >>> ((5 : Int32) &&& 31).toUInt32).toInt32) = (0 : Int32) then (1 : Int32) else (0 : Int32)))])) ?_ ?_
            · by_cases hc16 : ((x0.toUInt32 >>> ((5 : Int32) &&& 31).toUInt32).toInt32) = (0 : Int32)
              · simp only [if_pos hc16]
                refine XS.ifNo X0.here hx rfl (hb hby d1_16) rfl ((if0 _ _).trans (teq hc16).2) ?_
                show Steps p.tables e below (s₁.setTop (mkF m 19 #[.val (.int x0)] [])) _
                refine XS.iconst X0.here hx rfl (hb hby d1_19) ?_
                show Steps p.tables e below (s₁.setTop (mkF m 20 #[.val (.int x0)] [(.int (1 : Int32))])) _
                refine XS.goto X0.here hx rfl (pc0 := 20) (pc' := 24) rfl (hb hby d1_20) (by decide) (by decide) ?_
                show Steps p.tables e below (s₁.setTop (mkF m 24 #[.val (.int x0)] [(.int (1 : Int32))])) _
                exact Steps.refl _
              · simp only [if_neg hc16]
                refine XS.ifYes X0.here hx rfl (pc0 := 16) (pc' := 23) rfl (hb hby d1_16) rfl ((if0 _ _).trans (feq hc16).2) (by decide) (by decide) ?_
                show Steps p.tables e below (s₁.setTop (mkF m 23 #[.val (.int x0)] [])) _
                refine XS.iconst X0.here hx rfl (hb hby d1_23) ?_
                show Steps p.tables e below (s₁.setTop (mkF m 24 #[.val (.int x0)] [(.int (0 : Int32))])) _
                exact Steps.refl _
            show Steps p.tables e below (s₁.setTop (mkF m 24 #[.val (.int x0)] [(.int (if ((x0.toUInt32 >>> ((5 : Int32) &&& 31).toUInt32).toInt32) = (0 : Int32) then (1 : Int32) else (0 : Int32)))])) _
            exact Steps.refl _
          · simp only [if_neg hc10]
            refine XS.icmpYes X0.here hx rfl (pc0 := 10) (pc' := 19) rfl (hb hby d1_10) rfl (flt hc10).2.1 (by decide) (by decide) ?_
            show Steps p.tables e below (s₁.setTop (mkF m 19 #[.val (.int x0)] [])) _
            refine XS.iconst X0.here hx rfl (hb hby d1_19) ?_
            show Steps p.tables e below (s₁.setTop (mkF m 20 #[.val (.int x0)] [(.int (1 : Int32))])) _
            refine XS.goto X0.here hx rfl (pc0 := 20) (pc' := 24) rfl (hb hby d1_20) (by decide) (by decide) ?_
            show Steps p.tables e below (s₁.setTop (mkF m 24 #[.val (.int x0)] [(.int (1 : Int32))])) _
            exact Steps.refl _
        show Steps p.tables e below (s₁.setTop (mkF m 24 #[.val (.int x0)] [(.int (if x0 < (127 : Int32) then (if ((x0.toUInt32 >>> ((5 : Int32) &&& 31).toUInt32).toInt32) = (0 : Int32) then (1 : Int32) else (0 : Int32)) else (1 : Int32)))])) _
        exact Steps.refl _
    show Steps p.tables e below (s₁.setTop (mkF m 24 #[.val (.int x0)] [(.int (if (159 : Int32) < x0 then (0 : Int32) else (if x0 < (127 : Int32) then (if ((x0.toUInt32 >>> ((5 : Int32) &&& 31).toUInt32).toInt32) = (0 : Int32) then (1 : Int32) else (0 : Int32)) else (1 : Int32))))])) _
    exact Steps.refl _
  have pre2 := pre0.trans st2
  obtain ⟨fs, hr, hrun, hended, hW, hsame⟩ := X0.leave (v := some (.int (nar .boolean v1))) (fun h => by rw [Bd.returns] at h; cases h)
  refine ⟨_, _, pre2.trans ?_, hrun, hended, _, _, rfl, ?_, ⟨_, rfl⟩, hW, hsame.mono (by decide) (by decide)⟩
  · show Steps p.tables e below (s₁.setTop (mkF m 24 #[.val (.int x0)] [(.int v1)])) _
    exact retN X0 hx (t := .boolean) Bd.returns (by simp) (hb hby d1_24) hr
  · show Q1 Z x0 h0 n0 _ s₁.heap _
    rw [e0]
    have hF : own_F1 x0 = v1 := by
      subst v1
      simp only [own_F1]
    have hN : nar .boolean v1 = v1 := by
      subst v1
      repeat' split
      all_goals rfl
    exact ⟨by rw [hF, hN], N0, rfl⟩
theorem own_b1 (x : Int32) : own_F1 x = (0 : Int32) ∨ own_F1 x = (1 : Int32) := by
  simp only [own_F1]
  repeat' split
  all_goals first | exact Or.inl rfl | exact Or.inr rfl
theorem own_nar {x : Int32} (h : x = (0 : Int32) ∨ x = (1 : Int32)) : nar .boolean x = x := by rcases h with rfl | rfl <;> rfl
theorem d2_0 : decode jdk_89_method_88_code 0 = .ok (.iload_n 0, 1) := by decide +kernel
theorem d2_1 : decode jdk_89_method_88_code 1 = .ok (.invokestatic 266, 3) := by decide +kernel
theorem d2_4 : decode jdk_89_method_88_code 4 = .ok (.ireturn, 1) := by decide +kernel
theorem pn2 : plainName "java/lang/Character" = true := by first | (simp [plainName, overriddenIn]; done) | decide +kernel
theorem pd2_0 : parseMethodDescriptor "(I)Z" = some ⟨[.int], some .boolean⟩ := by decide +kernel
theorem ef2 (m : MethodId) (x0 : Int32) : entryFrame m #[(.int x0)] 1 = mkF m 0 #[.val (.int x0)] [] := by first | (simp [entryFrame, mkF, argsToLocals, Value.category]; done) | rfl
def own_F2 (x0 : Int32) : Int32 := (own_F1 x0)
def Q2 (Z : State) (x0 : Int32) (h0 : Heap) (n0 : Nat) (v : Option Value) (h : Heap) (L : List Loc) : Prop := v = some (.int (own_F2 x0)) ∧ Fr n0 L ∧ h = h0
set_option maxRecDepth 65536 in
set_option maxHeartbeats 40000000 in
theorem rm2 (l : Launch) (Z : State) (a0 : Array Value) (hw : ∀ d ∈ tables_1, d.before a0 Z = true) (ws : List Jvm.Cond) (x0 : Int32) (h0 : Heap) (n0 : Nat) (Z0 : n0 ≤ h0.size) :
    MetFree l (⟨"java/lang/Character", "isISOControl", "(C)Z"⟩ : MethodName) (head1 (Jvm.Cond.code (⟨"java/lang/Character", "isISOControl", "(C)Z"⟩ : MethodName) jdk_89_method_88_code 1 (some .boolean) :: ws) ({ frames := 1, cells := 0, slots := 0, locals := 12 } : Room)) (fun a U => a = #[(.int x0)] ∧ Z.Warmed39 U.vm ∧ U.heap = h0) (fun _ _ _ _ _ => True) (fun _ U o U' => ∃ v L, o = .returned v ∧ Q2 Z x0 h0 n0 v U'.heap L ∧ FrameEnd U o U' L ({ frames := 1, cells := 0, slots := 0, locals := 12 } : Room).cells ({ frames := 1, cells := 0, slots := 0, locals := 12 } : Room).slots) := by
  refine MetFree.of_bodySF (plainFor_of_name pn2) hisR ?_
  intro p e s m args below meth c s₁ Bd hml0 hP hK
  obtain ⟨rfl, hZ, hh⟩ := hP
  have hx := Bd.exec
  have hby := Bd.bytes
  have hml : c.maxLocals = 1 := hml0
  have hown : s.vm.findClass "java/lang/Character" = some m.cls := findClass_of_methodNamed Bd.named
  have hnm := (name_of_methodNamed Bd.named Bd.method).1
  have X0 : Stand p l e ({ frames := 1, cells := 0, slots := 0, locals := 12 } : Room) s m #[(.int x0)] below meth c s₁ [] 0 0 := Stand.of_body Bd
  have e0 : s₁.heap = h0 := by rw [← hh, Bd.state]; rfl
  have N0 := Fr.nil n0
  have pre0 : Steps p.tables e below (s₁.setTop (entryFrame m #[(.int x0)] 1)) (s₁.setTop (mkF m 0 #[.val (.int x0)] [])) := castTop (ef2 m x0) (Steps.refl _)
  have st1 : Steps p.tables e below (s₁.setTop (mkF m 0 #[.val (.int x0)] [])) (s₁.setTop (mkF m 1 #[.val (.int x0)] [(.int x0)])) := by
    refine XS.iloadN X0.here hx rfl (hb hby d2_0) rfl ?_
    show Steps p.tables e below (s₁.setTop (mkF m 1 #[.val (.int x0)] [(.int x0)])) _
    exact Steps.refl _
  have pre1 := pre0.trans st1
  obtain ⟨_, _, ⟨T2, L2, k2, n2⟩, -, X2, ⟨Lc2, hQ2, l2, y2, z2⟩, st2⟩ := Jvm.LawKit.callS X0 hx (y := (⟨"java/lang/Character", "isISOControl", "(I)Z"⟩ : MethodName)) hown (mvT hZ (hw _ (List.mem_of_getElem? (i := 9) rfl))) (mvT hZ (hw _ (List.mem_of_getElem? (i := 10) rfl))) (mvT hZ (hw _ (List.mem_of_getElem? (i := 7) rfl))) (mvT hZ (hw _ (List.mem_of_getElem? (i := 11) rfl))) (by decide) (backOf (W := 0) (rm1 l Z a0 hw [] x0 h0 n0 Z0) hZ (hw _ (List.mem_of_getElem? (i := 11) rfl)) (hw _ (List.mem_of_getElem? (i := 7) rfl)) (by decide) (by decide)) (g := (mkF m 1 #[.val (.int x0)] [(.int x0)])) rfl (by rw [hml]; rfl) (argsL := [(.int x0)]) (rest := []) (lenOf pd2_0 rfl) rfl (by show 2 * 0 + _ ≤ _; exact Nat.le_of_eq rfl) (hb hby d2_1) (fun _ _ => ⟨rfl, e0, (by decide : 0 + 0 ≤ _), (by decide : 0 + 0 ≤ _)⟩)
  dsimp only [Pt.U, Pt.locs, Pt.cells, Pt.slots] at X2 l2 y2 z2 st2 hQ2
  subst l2 y2 z2
  obtain ⟨rfl, Nq2, e2⟩ := hQ2
  have N2 := Fr.app N0 Nq2
  have pre2 : Steps p.tables e below (s₁.setTop (entryFrame m #[(.int x0)] 1)) (T2.setTop (mkF m 4 #[.val (.int x0)] [(.int (own_F1 x0))])) := pre1.trans (st2 _ (Steps.refl _))
  obtain ⟨fs, hr, hrun, hended, hW, hsame⟩ := X2.leave (v := some (.int (nar .boolean (own_F1 x0)))) (fun h => by rw [Bd.returns] at h; cases h)
  refine ⟨_, _, pre2.trans ?_, hrun, hended, _, _, rfl, ?_, ⟨_, rfl⟩, hW, hsame.mono (by decide) (by decide)⟩
  · show Steps p.tables e below (T2.setTop (mkF m 4 #[.val (.int x0)] [(.int (own_F1 x0))])) _
    exact retN X2 hx (t := .boolean) Bd.returns (by simp) (hb hby d2_4) hr
  · show Q2 Z x0 h0 n0 _ T2.heap _
    rw [e2]
    have hF : own_F2 x0 = (own_F1 x0) := by
      simp only [own_F2]
    have hN : nar .boolean (own_F1 x0) = (own_F1 x0) := by
      exact own_nar (own_b1 _)
    exact ⟨by rw [hF, hN], N2, rfl⟩
theorem d3_0 : decode prog_60_method_2_code 0 = .ok (.iload_n 0, 1) := by decide +kernel
theorem d3_1 : decode prog_60_method_2_code 1 = .ok (.invokestatic 7, 3) := by decide +kernel
theorem d3_4 : decode prog_60_method_2_code 4 = .ok (.ifCond .ne 17, 3) := by decide +kernel
theorem d3_7 : decode prog_60_method_2_code 7 = .ok (.iload_n 0, 1) := by decide +kernel
theorem d3_8 : decode prog_60_method_2_code 8 = .ok (.sipush 8232, 3) := by decide +kernel
theorem d3_11 : decode prog_60_method_2_code 11 = .ok (.if_icmp .eq 10, 3) := by decide +kernel
theorem d3_14 : decode prog_60_method_2_code 14 = .ok (.iload_n 0, 1) := by decide +kernel
theorem d3_15 : decode prog_60_method_2_code 15 = .ok (.sipush 8233, 3) := by decide +kernel
theorem d3_18 : decode prog_60_method_2_code 18 = .ok (.if_icmp .ne 7, 3) := by decide +kernel
theorem d3_21 : decode prog_60_method_2_code 21 = .ok (.iconst 1, 1) := by decide +kernel
theorem d3_22 : decode prog_60_method_2_code 22 = .ok (.goto 4, 3) := by decide +kernel
theorem d3_25 : decode prog_60_method_2_code 25 = .ok (.iconst 0, 1) := by decide +kernel
theorem d3_26 : decode prog_60_method_2_code 26 = .ok (.ireturn, 1) := by decide +kernel
theorem pn3 : plainName "com/example/nestmine/nestmine/OneLine" = true := by first | (simp [plainName, overriddenIn]; done) | decide +kernel
theorem pd3_0 : parseMethodDescriptor "(C)Z" = some ⟨[.char], some .boolean⟩ := by decide +kernel
theorem ef3 (m : MethodId) (x0 : Int32) : entryFrame m #[(.int x0)] 1 = mkF m 0 #[.val (.int x0)] [] := by first | (simp [entryFrame, mkF, argsToLocals, Value.category]; done) | rfl
def own_F3 (x0 : Int32) : Int32 := (if (own_F2 x0) = (0 : Int32) then (if x0 = (8232 : Int32) then (1 : Int32) else (if x0 = (8233 : Int32) then (1 : Int32) else (0 : Int32))) else (1 : Int32))
def Q3 (Z : State) (x0 : Int32) (h0 : Heap) (n0 : Nat) (v : Option Value) (h : Heap) (L : List Loc) : Prop := v = some (.int (own_F3 x0)) ∧ Fr n0 L ∧ h = h0
set_option maxRecDepth 65536 in
set_option maxHeartbeats 40000000 in
theorem rm3 (l : Launch) (Z : State) (a0 : Array Value) (hw : ∀ d ∈ tables_1, d.before a0 Z = true) (ws : List Jvm.Cond) (x0 : Int32) (h0 : Heap) (n0 : Nat) (Z0 : n0 ≤ h0.size) :
    MetFree l (⟨"com/example/nestmine/nestmine/OneLine", "mustEscape", "(C)Z"⟩ : MethodName) (head1 (Jvm.Cond.code (⟨"com/example/nestmine/nestmine/OneLine", "mustEscape", "(C)Z"⟩ : MethodName) prog_60_method_2_code 1 (some .boolean) :: ws) ({ frames := 2, cells := 0, slots := 0, locals := 24 } : Room)) (fun a U => a = #[(.int x0)] ∧ Z.Warmed39 U.vm ∧ U.heap = h0) (fun _ _ _ _ _ => True) (fun _ U o U' => ∃ v L, o = .returned v ∧ Q3 Z x0 h0 n0 v U'.heap L ∧ FrameEnd U o U' L ({ frames := 2, cells := 0, slots := 0, locals := 24 } : Room).cells ({ frames := 2, cells := 0, slots := 0, locals := 24 } : Room).slots) := by
  refine MetFree.of_bodySF (plainFor_of_name pn3) hisR ?_
  intro p e s m args below meth c s₁ Bd hml0 hP hK
  obtain ⟨rfl, hZ, hh⟩ := hP
  have hx := Bd.exec
  have hby := Bd.bytes
  have hml : c.maxLocals = 1 := hml0
  have hown : s.vm.findClass "com/example/nestmine/nestmine/OneLine" = some m.cls := findClass_of_methodNamed Bd.named
  have hnm := (name_of_methodNamed Bd.named Bd.method).1
  have X0 : Stand p l e ({ frames := 2, cells := 0, slots := 0, locals := 24 } : Room) s m #[(.int x0)] below meth c s₁ [] 0 0 := Stand.of_body Bd
  have e0 : s₁.heap = h0 := by rw [← hh, Bd.state]; rfl
  have N0 := Fr.nil n0
  have pre0 : Steps p.tables e below (s₁.setTop (entryFrame m #[(.int x0)] 1)) (s₁.setTop (mkF m 0 #[.val (.int x0)] [])) := castTop (ef3 m x0) (Steps.refl _)
  have st1 : Steps p.tables e below (s₁.setTop (mkF m 0 #[.val (.int x0)] [])) (s₁.setTop (mkF m 1 #[.val (.int x0)] [(.int x0)])) := by
    refine XS.iloadN X0.here hx rfl (hb hby d3_0) rfl ?_
    show Steps p.tables e below (s₁.setTop (mkF m 1 #[.val (.int x0)] [(.int x0)])) _
    exact Steps.refl _
  have pre1 := pre0.trans st1
  obtain ⟨_, _, ⟨T2, L2, k2, n2⟩, -, X2, ⟨Lc2, hQ2, l2, y2, z2⟩, st2⟩ := Jvm.LawKit.callS X0 hx (y := (⟨"java/lang/Character", "isISOControl", "(C)Z"⟩ : MethodName)) hown (mvT hZ (hw _ (List.mem_of_getElem? (i := 5) rfl))) (mvT hZ (hw _ (List.mem_of_getElem? (i := 6) rfl))) (mvT hZ (hw _ (List.mem_of_getElem? (i := 7) rfl))) (mvT hZ (hw _ (List.mem_of_getElem? (i := 8) rfl))) (by decide) (backOf (W := 0) (rm2 l Z a0 hw [] x0 h0 n0 Z0) hZ (hw _ (List.mem_of_getElem? (i := 8) rfl)) (hw _ (List.mem_of_getElem? (i := 7) rfl)) (by decide) (by decide)) (g := (mkF m 1 #[.val (.int x0)] [(.int x0)])) rfl (by rw [hml]; rfl) (argsL := [(.int x0)]) (rest := []) (lenOf pd3_0 rfl) rfl (by show 2 * 0 + _ ≤ _; exact Nat.le_of_eq rfl) (hb hby d3_1) (fun _ _ => ⟨rfl, e0, (by decide : 0 + 0 ≤ _), (by decide : 0 + 0 ≤ _)⟩)
  dsimp only [Pt.U, Pt.locs, Pt.cells, Pt.slots] at X2 l2 y2 z2 st2 hQ2
  subst l2 y2 z2
  obtain ⟨rfl, Nq2, e2⟩ := hQ2
  have N2 := Fr.app N0 Nq2
  have pre2 : Steps p.tables e below (s₁.setTop (entryFrame m #[(.int x0)] 1)) (T2.setTop (mkF m 4 #[.val (.int x0)] [(.int (own_F2 x0))])) := pre1.trans (st2 _ (Steps.refl _))
  obtain ⟨v3, hv3⟩ : ∃ z : Int32, z = (if (own_F2 x0) = (0 : Int32) then (if x0 = (8232 : Int32) then (1 : Int32) else (if x0 = (8233 : Int32) then (1 : Int32) else (0 : Int32))) else (1 : Int32)) := ⟨_, rfl⟩
  have st4 : Steps p.tables e below (T2.setTop (mkF m 4 #[.val (.int x0)] [(.int (own_F2 x0))])) (T2.setTop (mkF m 26 #[.val (.int x0)] [(.int v3)])) := by
    subst v3
    refine Steps.trans (s₂ := T2.setTop (mkF m 26 #[.val (.int x0)] [(.int (if (own_F2 x0) = (0 : Int32) then (if x0 = (8232 : Int32) then (1 : Int32) else (if x0 = (8233 : Int32) then (1 : Int32) else (0 : Int32))) else (1 : Int32)))])) ?_ ?_
    · by_cases hc4 : (own_F2 x0) = (0 : Int32)
      · simp only [if_pos hc4]
        refine XS.ifNo X2.here hx rfl (hb hby d3_4) rfl ((if0 _ _).trans (teq hc4).2) ?_
        show Steps p.tables e below (T2.setTop (mkF m 7 #[.val (.int x0)] [])) _
        refine XS.iloadN X2.here hx rfl (hb hby d3_7) rfl ?_
        show Steps p.tables e below (T2.setTop (mkF m 8 #[.val (.int x0)] [(.int x0)])) _
        refine XS.sipush X2.here hx rfl (hb hby d3_8) ?_
        show Steps p.tables e below (T2.setTop (mkF m 11 #[.val (.int x0)] [(.int (8232 : Int32)), (.int x0)])) _
        refine Steps.trans (s₂ := T2.setTop (mkF m 26 #[.val (.int x0)] [(.int (if x0 = (8232 : Int32) then (1 : Int32) else (if x0 = (8233 : Int32) then (1 : Int32) else (0 : Int32))))])) ?_ ?_
        · by_cases hc11 : x0 = (8232 : Int32)
          · simp only [if_pos hc11]
            refine XS.icmpYes X2.here hx rfl (pc0 := 11) (pc' := 21) rfl (hb hby d3_11) rfl (teq hc11).1 (by decide) (by decide) ?_
            show Steps p.tables e below (T2.setTop (mkF m 21 #[.val (.int x0)] [])) _
            refine XS.iconst X2.here hx rfl (hb hby d3_21) ?_
            show Steps p.tables e below (T2.setTop (mkF m 22 #[.val (.int x0)] [(.int (1 : Int32))])) _
            refine XS.goto X2.here hx rfl (pc0 := 22) (pc' := 26) rfl (hb hby d3_22) (by decide) (by decide) ?_
            show Steps p.tables e below (T2.setTop (mkF m 26 #[.val (.int x0)] [(.int (1 : Int32))])) _
            exact Steps.refl _
          · simp only [if_neg hc11]
            refine XS.icmpNo X2.here hx rfl (hb hby d3_11) rfl (feq hc11).1 ?_
            show Steps p.tables e below (T2.setTop (mkF m 14 #[.val (.int x0)] [])) _
            refine XS.iloadN X2.here hx rfl (hb hby d3_14) rfl ?_
            show Steps p.tables e below (T2.setTop (mkF m 15 #[.val (.int x0)] [(.int x0)])) _
            refine XS.sipush X2.here hx rfl (hb hby d3_15) ?_
            show Steps p.tables e below (T2.setTop (mkF m 18 #[.val (.int x0)] [(.int (8233 : Int32)), (.int x0)])) _
            refine Steps.trans (s₂ := T2.setTop (mkF m 26 #[.val (.int x0)] [(.int (if x0 = (8233 : Int32) then (1 : Int32) else (0 : Int32)))])) ?_ ?_
            · by_cases hc18 : x0 = (8233 : Int32)
              · simp only [if_pos hc18]
                refine XS.icmpNo X2.here hx rfl (hb hby d3_18) rfl (teq hc18).2 ?_
                show Steps p.tables e below (T2.setTop (mkF m 21 #[.val (.int x0)] [])) _
                refine XS.iconst X2.here hx rfl (hb hby d3_21) ?_
                show Steps p.tables e below (T2.setTop (mkF m 22 #[.val (.int x0)] [(.int (1 : Int32))])) _
                refine XS.goto X2.here hx rfl (pc0 := 22) (pc' := 26) rfl (hb hby d3_22) (by decide) (by decide) ?_
                show Steps p.tables e below (T2.setTop (mkF m 26 #[.val (.int x0)] [(.int (1 : Int32))])) _
                exact Steps.refl _
              · simp only [if_neg hc18]
                refine XS.icmpYes X2.here hx rfl (pc0 := 18) (pc' := 25) rfl (hb hby d3_18) rfl (feq hc18).2 (by decide) (by decide) ?_
                show Steps p.tables e below (T2.setTop (mkF m 25 #[.val (.int x0)] [])) _
                refine XS.iconst X2.here hx rfl (hb hby d3_25) ?_
                show Steps p.tables e below (T2.setTop (mkF m 26 #[.val (.int x0)] [(.int (0 : Int32))])) _
                exact Steps.refl _
            show Steps p.tables e below (T2.setTop (mkF m 26 #[.val (.int x0)] [(.int (if x0 = (8233 : Int32) then (1 : Int32) else (0 : Int32)))])) _
            exact Steps.refl _
        show Steps p.tables e below (T2.setTop (mkF m 26 #[.val (.int x0)] [(.int (if x0 = (8232 : Int32) then (1 : Int32) else (if x0 = (8233 : Int32) then (1 : Int32) else (0 : Int32))))])) _
        exact Steps.refl _
      · simp only [if_neg hc4]
        refine XS.ifYes X2.here hx rfl (pc0 := 4) (pc' := 21) rfl (hb hby d3_4) rfl ((if0 _ _).trans (feq hc4).2) (by decide) (by decide) ?_
        show Steps p.tables e below (T2.setTop (mkF m 21 #[.val (.int x0)] [])) _
        refine XS.iconst X2.here hx rfl (hb hby d3_21) ?_
        show Steps p.tables e below (T2.setTop (mkF m 22 #[.val (.int x0)] [(.int (1 : Int32))])) _
        refine XS.goto X2.here hx rfl (pc0 := 22) (pc' := 26) rfl (hb hby d3_22) (by decide) (by decide) ?_
        show Steps p.tables e below (T2.setTop (mkF m 26 #[.val (.int x0)] [(.int (1 : Int32))])) _
        exact Steps.refl _
    show Steps p.tables e below (T2.setTop (mkF m 26 #[.val (.int x0)] [(.int (if (own_F2 x0) = (0 : Int32) then (if x0 = (8232 : Int32) then (1 : Int32) else (if x0 = (8233 : Int32) then (1 : Int32) else (0 : Int32))) else (1 : Int32)))])) _
    exact Steps.refl _
  have pre4 := pre2.trans st4
  obtain ⟨fs, hr, hrun, hended, hW, hsame⟩ := X2.leave (v := some (.int (nar .boolean v3))) (fun h => by rw [Bd.returns] at h; cases h)
  refine ⟨_, _, pre4.trans ?_, hrun, hended, _, _, rfl, ?_, ⟨_, rfl⟩, hW, hsame.mono (by decide) (by decide)⟩
  · show Steps p.tables e below (T2.setTop (mkF m 26 #[.val (.int x0)] [(.int v3)])) _
    exact retN X2 hx (t := .boolean) Bd.returns (by simp) (hb hby d3_26) hr
  · show Q3 Z x0 h0 n0 _ T2.heap _
    rw [e2]
    have hF : own_F3 x0 = v3 := by
      subst v3
      simp only [own_F3]
    have hN : nar .boolean v3 = v3 := by
      refine own_nar ?_
      subst hv3
      repeat' split
      all_goals first | exact Or.inl rfl | exact Or.inr rfl
    exact ⟨by rw [hF, hN], N2, rfl⟩
theorem d4_0 : decode method_2_code 0 = .ok (.iload_n 0, 1) := by decide +kernel
theorem d4_1 : decode method_2_code 1 = .ok (.bipush 31, 2) := by decide +kernel
theorem d4_3 : decode method_2_code 3 = .ok (.if_icmp .gt 5, 3) := by decide +kernel
theorem d4_6 : decode method_2_code 6 = .ok (.iconst 1, 1) := by decide +kernel
theorem d4_7 : decode method_2_code 7 = .ok (.ireturn, 1) := by decide +kernel
theorem d4_8 : decode method_2_code 8 = .ok (.iload_n 0, 1) := by decide +kernel
theorem d4_9 : decode method_2_code 9 = .ok (.bipush 127, 2) := by decide +kernel
theorem d4_11 : decode method_2_code 11 = .ok (.if_icmp .lt 12, 3) := by decide +kernel
theorem d4_14 : decode method_2_code 14 = .ok (.iload_n 0, 1) := by decide +kernel
theorem d4_15 : decode method_2_code 15 = .ok (.sipush 159, 3) := by decide +kernel
theorem d4_18 : decode method_2_code 18 = .ok (.if_icmp .gt 5, 3) := by decide +kernel
theorem d4_21 : decode method_2_code 21 = .ok (.iconst 1, 1) := by decide +kernel
theorem d4_22 : decode method_2_code 22 = .ok (.ireturn, 1) := by decide +kernel
theorem d4_23 : decode method_2_code 23 = .ok (.iload_n 0, 1) := by decide +kernel
theorem d4_24 : decode method_2_code 24 = .ok (.sipush 8232, 3) := by decide +kernel
theorem d4_27 : decode method_2_code 27 = .ok (.if_icmp .eq 10, 3) := by decide +kernel
theorem d4_30 : decode method_2_code 30 = .ok (.iload_n 0, 1) := by decide +kernel
theorem d4_31 : decode method_2_code 31 = .ok (.sipush 8233, 3) := by decide +kernel
theorem d4_34 : decode method_2_code 34 = .ok (.if_icmp .ne 5, 3) := by decide +kernel
theorem d4_37 : decode method_2_code 37 = .ok (.iconst 1, 1) := by decide +kernel
theorem d4_38 : decode method_2_code 38 = .ok (.ireturn, 1) := by decide +kernel
theorem d4_39 : decode method_2_code 39 = .ok (.iconst 0, 1) := by decide +kernel
theorem d4_40 : decode method_2_code 40 = .ok (.ireturn, 1) := by decide +kernel
theorem pn4 : plainName "com/example/nestmine/nestmine/OneLineMustEscapePinLaw" = true := by first | (simp [plainName, overriddenIn]; done) | decide +kernel
theorem ef4 (m : MethodId) (x0 : Int32) : entryFrame m #[(.int x0)] 1 = mkF m 0 #[.val (.int x0)] [] := by first | (simp [entryFrame, mkF, argsToLocals, Value.category]; done) | rfl
def own_F4 (x0 : Int32) : Int32 := (if (31 : Int32) < x0 then (if x0 < (127 : Int32) then (if x0 = (8232 : Int32) then (1 : Int32) else (if x0 = (8233 : Int32) then (1 : Int32) else (0 : Int32))) else (if (159 : Int32) < x0 then (if x0 = (8232 : Int32) then (1 : Int32) else (if x0 = (8233 : Int32) then (1 : Int32) else (0 : Int32))) else (1 : Int32))) else (1 : Int32))
def Q4 (Z : State) (x0 : Int32) (h0 : Heap) (n0 : Nat) (v : Option Value) (h : Heap) (L : List Loc) : Prop := v = some (.int (own_F4 x0)) ∧ Fr n0 L ∧ h = h0
set_option maxRecDepth 65536 in
set_option maxHeartbeats 40000000 in
theorem rm4 (l : Launch) (Z : State) (a0 : Array Value) (hw : ∀ d ∈ tables_1, d.before a0 Z = true) (ws : List Jvm.Cond) (x0 : Int32) (h0 : Heap) (n0 : Nat) (Z0 : n0 ≤ h0.size) :
    MetFree l (⟨"com/example/nestmine/nestmine/OneLineMustEscapePinLaw", "expected", "(I)Z"⟩ : MethodName) (head1 (Jvm.Cond.code (⟨"com/example/nestmine/nestmine/OneLineMustEscapePinLaw", "expected", "(I)Z"⟩ : MethodName) method_2_code 1 (some .boolean) :: ws) ({ frames := 0, cells := 0, slots := 0, locals := 0 } : Room)) (fun a U => a = #[(.int x0)] ∧ Z.Warmed39 U.vm ∧ U.heap = h0) (fun _ _ _ _ _ => True) (fun _ U o U' => ∃ v L, o = .returned v ∧ Q4 Z x0 h0 n0 v U'.heap L ∧ FrameEnd U o U' L ({ frames := 0, cells := 0, slots := 0, locals := 0 } : Room).cells ({ frames := 0, cells := 0, slots := 0, locals := 0 } : Room).slots) := by
  refine MetFree.of_bodySF (plainFor_of_name pn4) hisR ?_
  intro p e s m args below meth c s₁ Bd hml0 hP hK
  obtain ⟨rfl, hZ, hh⟩ := hP
  have hx := Bd.exec
  have hby := Bd.bytes
  have hml : c.maxLocals = 1 := hml0
  have hown : s.vm.findClass "com/example/nestmine/nestmine/OneLineMustEscapePinLaw" = some m.cls := findClass_of_methodNamed Bd.named
  have hnm := (name_of_methodNamed Bd.named Bd.method).1
  have X0 : Stand p l e ({ frames := 0, cells := 0, slots := 0, locals := 0 } : Room) s m #[(.int x0)] below meth c s₁ [] 0 0 := Stand.of_body Bd
  have e0 : s₁.heap = h0 := by rw [← hh, Bd.state]; rfl
  have N0 := Fr.nil n0
  have pre0 : Steps p.tables e below (s₁.setTop (entryFrame m #[(.int x0)] 1)) (s₁.setTop (mkF m 0 #[.val (.int x0)] [])) := castTop (ef4 m x0) (Steps.refl _)
  have st1 : Steps p.tables e below (s₁.setTop (mkF m 0 #[.val (.int x0)] [])) (s₁.setTop (mkF m 3 #[.val (.int x0)] [(.int (31 : Int32)), (.int x0)])) := by
    refine XS.iloadN X0.here hx rfl (hb hby d4_0) rfl ?_
    show Steps p.tables e below (s₁.setTop (mkF m 1 #[.val (.int x0)] [(.int x0)])) _
    refine XS.bipush X0.here hx rfl (hb hby d4_1) ?_
    show Steps p.tables e below (s₁.setTop (mkF m 3 #[.val (.int x0)] [(.int (31 : Int32)), (.int x0)])) _
    exact Steps.refl _
  have pre1 := pre0.trans st1
  by_cases hc3 : (31 : Int32) < x0
  · have st2 : Steps p.tables e below (s₁.setTop (mkF m 3 #[.val (.int x0)] [(.int (31 : Int32)), (.int x0)])) (s₁.setTop (mkF m 8 #[.val (.int x0)] [])) := by
      refine XS.icmpYes X0.here hx rfl (pc0 := 3) (pc' := 8) rfl (hb hby d4_3) rfl (tlt hc3).2.2.1 (by decide) (by decide) ?_
      exact Steps.refl _
    have pre2 := pre1.trans st2
    have st3 : Steps p.tables e below (s₁.setTop (mkF m 8 #[.val (.int x0)] [])) (s₁.setTop (mkF m 11 #[.val (.int x0)] [(.int (127 : Int32)), (.int x0)])) := by
      refine XS.iloadN X0.here hx rfl (hb hby d4_8) rfl ?_
      show Steps p.tables e below (s₁.setTop (mkF m 9 #[.val (.int x0)] [(.int x0)])) _
      refine XS.bipush X0.here hx rfl (hb hby d4_9) ?_
      show Steps p.tables e below (s₁.setTop (mkF m 11 #[.val (.int x0)] [(.int (127 : Int32)), (.int x0)])) _
      exact Steps.refl _
    have pre3 := pre2.trans st3
    by_cases hc11 : x0 < (127 : Int32)
    · have st4 : Steps p.tables e below (s₁.setTop (mkF m 11 #[.val (.int x0)] [(.int (127 : Int32)), (.int x0)])) (s₁.setTop (mkF m 23 #[.val (.int x0)] [])) := by
        refine XS.icmpYes X0.here hx rfl (pc0 := 11) (pc' := 23) rfl (hb hby d4_11) rfl (tlt hc11).1 (by decide) (by decide) ?_
        exact Steps.refl _
      have pre4 := pre3.trans st4
      have st5 : Steps p.tables e below (s₁.setTop (mkF m 23 #[.val (.int x0)] [])) (s₁.setTop (mkF m 27 #[.val (.int x0)] [(.int (8232 : Int32)), (.int x0)])) := by
        refine XS.iloadN X0.here hx rfl (hb hby d4_23) rfl ?_
        show Steps p.tables e below (s₁.setTop (mkF m 24 #[.val (.int x0)] [(.int x0)])) _
        refine XS.sipush X0.here hx rfl (hb hby d4_24) ?_
        show Steps p.tables e below (s₁.setTop (mkF m 27 #[.val (.int x0)] [(.int (8232 : Int32)), (.int x0)])) _
        exact Steps.refl _
      have pre5 := pre4.trans st5
      by_cases hc27 : x0 = (8232 : Int32)
      · have st6 : Steps p.tables e below (s₁.setTop (mkF m 27 #[.val (.int x0)] [(.int (8232 : Int32)), (.int x0)])) (s₁.setTop (mkF m 37 #[.val (.int x0)] [])) := by
          refine XS.icmpYes X0.here hx rfl (pc0 := 27) (pc' := 37) rfl (hb hby d4_27) rfl (teq hc27).1 (by decide) (by decide) ?_
          exact Steps.refl _
        have pre6 := pre5.trans st6
        have st7 : Steps p.tables e below (s₁.setTop (mkF m 37 #[.val (.int x0)] [])) (s₁.setTop (mkF m 38 #[.val (.int x0)] [(.int (1 : Int32))])) := by
          refine XS.iconst X0.here hx rfl (hb hby d4_37) ?_
          show Steps p.tables e below (s₁.setTop (mkF m 38 #[.val (.int x0)] [(.int (1 : Int32))])) _
          exact Steps.refl _
        have pre7 := pre6.trans st7
        obtain ⟨fs, hr, hrun, hended, hW, hsame⟩ := X0.leave (v := some (.int (1 : Int32))) (fun h => by rw [Bd.returns] at h; cases h)
        refine ⟨_, _, pre7.trans ?_, hrun, hended, _, _, rfl, ?_, ⟨_, rfl⟩, hW, hsame.mono (by decide) (by decide)⟩
        · show Steps p.tables e below (s₁.setTop (mkF m 38 #[.val (.int x0)] [(.int (1 : Int32))])) _
          exact retN X0 hx (t := .boolean) Bd.returns (by simp) (hb hby d4_38) hr
        · show Q4 Z x0 h0 n0 _ s₁.heap _
          rw [e0]
          have hF : own_F4 x0 = (1 : Int32) := by
            simp only [own_F4, if_pos hc3, if_pos hc11, if_pos hc27]
          exact ⟨by rw [hF], N0, rfl⟩
      · have st8 : Steps p.tables e below (s₁.setTop (mkF m 27 #[.val (.int x0)] [(.int (8232 : Int32)), (.int x0)])) (s₁.setTop (mkF m 30 #[.val (.int x0)] [])) := by
          refine XS.icmpNo X0.here hx rfl (hb hby d4_27) rfl (feq hc27).1 ?_
          exact Steps.refl _
        have pre8 := pre5.trans st8
        have st9 : Steps p.tables e below (s₁.setTop (mkF m 30 #[.val (.int x0)] [])) (s₁.setTop (mkF m 34 #[.val (.int x0)] [(.int (8233 : Int32)), (.int x0)])) := by
          refine XS.iloadN X0.here hx rfl (hb hby d4_30) rfl ?_
          show Steps p.tables e below (s₁.setTop (mkF m 31 #[.val (.int x0)] [(.int x0)])) _
          refine XS.sipush X0.here hx rfl (hb hby d4_31) ?_
          show Steps p.tables e below (s₁.setTop (mkF m 34 #[.val (.int x0)] [(.int (8233 : Int32)), (.int x0)])) _
          exact Steps.refl _
        have pre9 := pre8.trans st9
        by_cases hc34 : x0 = (8233 : Int32)
        · have st10 : Steps p.tables e below (s₁.setTop (mkF m 34 #[.val (.int x0)] [(.int (8233 : Int32)), (.int x0)])) (s₁.setTop (mkF m 37 #[.val (.int x0)] [])) := by
            refine XS.icmpNo X0.here hx rfl (hb hby d4_34) rfl (teq hc34).2 ?_
            exact Steps.refl _
          have pre10 := pre9.trans st10
          have st11 : Steps p.tables e below (s₁.setTop (mkF m 37 #[.val (.int x0)] [])) (s₁.setTop (mkF m 38 #[.val (.int x0)] [(.int (1 : Int32))])) := by
            refine XS.iconst X0.here hx rfl (hb hby d4_37) ?_
            show Steps p.tables e below (s₁.setTop (mkF m 38 #[.val (.int x0)] [(.int (1 : Int32))])) _
            exact Steps.refl _
          have pre11 := pre10.trans st11
          obtain ⟨fs, hr, hrun, hended, hW, hsame⟩ := X0.leave (v := some (.int (1 : Int32))) (fun h => by rw [Bd.returns] at h; cases h)
          refine ⟨_, _, pre11.trans ?_, hrun, hended, _, _, rfl, ?_, ⟨_, rfl⟩, hW, hsame.mono (by decide) (by decide)⟩
          · show Steps p.tables e below (s₁.setTop (mkF m 38 #[.val (.int x0)] [(.int (1 : Int32))])) _
            exact retN X0 hx (t := .boolean) Bd.returns (by simp) (hb hby d4_38) hr
          · show Q4 Z x0 h0 n0 _ s₁.heap _
            rw [e0]
            have hF : own_F4 x0 = (1 : Int32) := by
              simp only [own_F4, if_pos hc3, if_pos hc11, if_neg hc27, if_pos hc34]
            exact ⟨by rw [hF], N0, rfl⟩
        · have st12 : Steps p.tables e below (s₁.setTop (mkF m 34 #[.val (.int x0)] [(.int (8233 : Int32)), (.int x0)])) (s₁.setTop (mkF m 39 #[.val (.int x0)] [])) := by
            refine XS.icmpYes X0.here hx rfl (pc0 := 34) (pc' := 39) rfl (hb hby d4_34) rfl (feq hc34).2 (by decide) (by decide) ?_
            exact Steps.refl _
          have pre12 := pre9.trans st12
          have st13 : Steps p.tables e below (s₁.setTop (mkF m 39 #[.val (.int x0)] [])) (s₁.setTop (mkF m 40 #[.val (.int x0)] [(.int (0 : Int32))])) := by
            refine XS.iconst X0.here hx rfl (hb hby d4_39) ?_
            show Steps p.tables e below (s₁.setTop (mkF m 40 #[.val (.int x0)] [(.int (0 : Int32))])) _
            exact Steps.refl _
          have pre13 := pre12.trans st13
          obtain ⟨fs, hr, hrun, hended, hW, hsame⟩ := X0.leave (v := some (.int (0 : Int32))) (fun h => by rw [Bd.returns] at h; cases h)
          refine ⟨_, _, pre13.trans ?_, hrun, hended, _, _, rfl, ?_, ⟨_, rfl⟩, hW, hsame.mono (by decide) (by decide)⟩
          · show Steps p.tables e below (s₁.setTop (mkF m 40 #[.val (.int x0)] [(.int (0 : Int32))])) _
            exact retN X0 hx (t := .boolean) Bd.returns (by simp) (hb hby d4_40) hr
          · show Q4 Z x0 h0 n0 _ s₁.heap _
            rw [e0]
            have hF : own_F4 x0 = (0 : Int32) := by
              simp only [own_F4, if_pos hc3, if_pos hc11, if_neg hc27, if_neg hc34]
            exact ⟨by rw [hF], N0, rfl⟩
    · have st14 : Steps p.tables e below (s₁.setTop (mkF m 11 #[.val (.int x0)] [(.int (127 : Int32)), (.int x0)])) (s₁.setTop (mkF m 14 #[.val (.int x0)] [])) := by
        refine XS.icmpNo X0.here hx rfl (hb hby d4_11) rfl (flt hc11).1 ?_
        exact Steps.refl _
      have pre14 := pre3.trans st14
      have st15 : Steps p.tables e below (s₁.setTop (mkF m 14 #[.val (.int x0)] [])) (s₁.setTop (mkF m 18 #[.val (.int x0)] [(.int (159 : Int32)), (.int x0)])) := by
        refine XS.iloadN X0.here hx rfl (hb hby d4_14) rfl ?_
        show Steps p.tables e below (s₁.setTop (mkF m 15 #[.val (.int x0)] [(.int x0)])) _
        refine XS.sipush X0.here hx rfl (hb hby d4_15) ?_
        show Steps p.tables e below (s₁.setTop (mkF m 18 #[.val (.int x0)] [(.int (159 : Int32)), (.int x0)])) _
        exact Steps.refl _
      have pre15 := pre14.trans st15
      by_cases hc18 : (159 : Int32) < x0
      · have st16 : Steps p.tables e below (s₁.setTop (mkF m 18 #[.val (.int x0)] [(.int (159 : Int32)), (.int x0)])) (s₁.setTop (mkF m 23 #[.val (.int x0)] [])) := by
          refine XS.icmpYes X0.here hx rfl (pc0 := 18) (pc' := 23) rfl (hb hby d4_18) rfl (tlt hc18).2.2.1 (by decide) (by decide) ?_
          exact Steps.refl _
        have pre16 := pre15.trans st16
        have st17 : Steps p.tables e below (s₁.setTop (mkF m 23 #[.val (.int x0)] [])) (s₁.setTop (mkF m 27 #[.val (.int x0)] [(.int (8232 : Int32)), (.int x0)])) := by
          refine XS.iloadN X0.here hx rfl (hb hby d4_23) rfl ?_
          show Steps p.tables e below (s₁.setTop (mkF m 24 #[.val (.int x0)] [(.int x0)])) _
          refine XS.sipush X0.here hx rfl (hb hby d4_24) ?_
          show Steps p.tables e below (s₁.setTop (mkF m 27 #[.val (.int x0)] [(.int (8232 : Int32)), (.int x0)])) _
          exact Steps.refl _
        have pre17 := pre16.trans st17
        by_cases hc27 : x0 = (8232 : Int32)
        · have st18 : Steps p.tables e below (s₁.setTop (mkF m 27 #[.val (.int x0)] [(.int (8232 : Int32)), (.int x0)])) (s₁.setTop (mkF m 37 #[.val (.int x0)] [])) := by
            refine XS.icmpYes X0.here hx rfl (pc0 := 27) (pc' := 37) rfl (hb hby d4_27) rfl (teq hc27).1 (by decide) (by decide) ?_
            exact Steps.refl _
          have pre18 := pre17.trans st18
          have st19 : Steps p.tables e below (s₁.setTop (mkF m 37 #[.val (.int x0)] [])) (s₁.setTop (mkF m 38 #[.val (.int x0)] [(.int (1 : Int32))])) := by
            refine XS.iconst X0.here hx rfl (hb hby d4_37) ?_
            show Steps p.tables e below (s₁.setTop (mkF m 38 #[.val (.int x0)] [(.int (1 : Int32))])) _
            exact Steps.refl _
          have pre19 := pre18.trans st19
          obtain ⟨fs, hr, hrun, hended, hW, hsame⟩ := X0.leave (v := some (.int (1 : Int32))) (fun h => by rw [Bd.returns] at h; cases h)
          refine ⟨_, _, pre19.trans ?_, hrun, hended, _, _, rfl, ?_, ⟨_, rfl⟩, hW, hsame.mono (by decide) (by decide)⟩
          · show Steps p.tables e below (s₁.setTop (mkF m 38 #[.val (.int x0)] [(.int (1 : Int32))])) _
            exact retN X0 hx (t := .boolean) Bd.returns (by simp) (hb hby d4_38) hr
          · show Q4 Z x0 h0 n0 _ s₁.heap _
            rw [e0]
            have hF : own_F4 x0 = (1 : Int32) := by
              simp only [own_F4, if_pos hc3, if_neg hc11, if_pos hc18, if_pos hc27]
            exact ⟨by rw [hF], N0, rfl⟩
        · have st20 : Steps p.tables e below (s₁.setTop (mkF m 27 #[.val (.int x0)] [(.int (8232 : Int32)), (.int x0)])) (s₁.setTop (mkF m 30 #[.val (.int x0)] [])) := by
            refine XS.icmpNo X0.here hx rfl (hb hby d4_27) rfl (feq hc27).1 ?_
            exact Steps.refl _
          have pre20 := pre17.trans st20
          have st21 : Steps p.tables e below (s₁.setTop (mkF m 30 #[.val (.int x0)] [])) (s₁.setTop (mkF m 34 #[.val (.int x0)] [(.int (8233 : Int32)), (.int x0)])) := by
            refine XS.iloadN X0.here hx rfl (hb hby d4_30) rfl ?_
            show Steps p.tables e below (s₁.setTop (mkF m 31 #[.val (.int x0)] [(.int x0)])) _
            refine XS.sipush X0.here hx rfl (hb hby d4_31) ?_
            show Steps p.tables e below (s₁.setTop (mkF m 34 #[.val (.int x0)] [(.int (8233 : Int32)), (.int x0)])) _
            exact Steps.refl _
          have pre21 := pre20.trans st21
          by_cases hc34 : x0 = (8233 : Int32)
          · have st22 : Steps p.tables e below (s₁.setTop (mkF m 34 #[.val (.int x0)] [(.int (8233 : Int32)), (.int x0)])) (s₁.setTop (mkF m 37 #[.val (.int x0)] [])) := by
              refine XS.icmpNo X0.here hx rfl (hb hby d4_34) rfl (teq hc34).2 ?_
              exact Steps.refl _
            have pre22 := pre21.trans st22
            have st23 : Steps p.tables e below (s₁.setTop (mkF m 37 #[.val (.int x0)] [])) (s₁.setTop (mkF m 38 #[.val (.int x0)] [(.int (1 : Int32))])) := by
              refine XS.iconst X0.here hx rfl (hb hby d4_37) ?_
              show Steps p.tables e below (s₁.setTop (mkF m 38 #[.val (.int x0)] [(.int (1 : Int32))])) _
              exact Steps.refl _
            have pre23 := pre22.trans st23
            obtain ⟨fs, hr, hrun, hended, hW, hsame⟩ := X0.leave (v := some (.int (1 : Int32))) (fun h => by rw [Bd.returns] at h; cases h)
            refine ⟨_, _, pre23.trans ?_, hrun, hended, _, _, rfl, ?_, ⟨_, rfl⟩, hW, hsame.mono (by decide) (by decide)⟩
            · show Steps p.tables e below (s₁.setTop (mkF m 38 #[.val (.int x0)] [(.int (1 : Int32))])) _
              exact retN X0 hx (t := .boolean) Bd.returns (by simp) (hb hby d4_38) hr
            · show Q4 Z x0 h0 n0 _ s₁.heap _
              rw [e0]
              have hF : own_F4 x0 = (1 : Int32) := by
                simp only [own_F4, if_pos hc3, if_neg hc11, if_pos hc18, if_neg hc27, if_pos hc34]
              exact ⟨by rw [hF], N0, rfl⟩
          · have st24 : Steps p.tables e below (s₁.setTop (mkF m 34 #[.val (.int x0)] [(.int (8233 : Int32)), (.int x0)])) (s₁.setTop (mkF m 39 #[.val (.int x0)] [])) := by
              refine XS.icmpYes X0.here hx rfl (pc0 := 34) (pc' := 39) rfl (hb hby d4_34) rfl (feq hc34).2 (by decide) (by decide) ?_
              exact Steps.refl _
            have pre24 := pre21.trans st24
            have st25 : Steps p.tables e below (s₁.setTop (mkF m 39 #[.val (.int x0)] [])) (s₁.setTop (mkF m 40 #[.val (.int x0)] [(.int (0 : Int32))])) := by
              refine XS.iconst X0.here hx rfl (hb hby d4_39) ?_
              show Steps p.tables e below (s₁.setTop (mkF m 40 #[.val (.int x0)] [(.int (0 : Int32))])) _
              exact Steps.refl _
            have pre25 := pre24.trans st25
            obtain ⟨fs, hr, hrun, hended, hW, hsame⟩ := X0.leave (v := some (.int (0 : Int32))) (fun h => by rw [Bd.returns] at h; cases h)
            refine ⟨_, _, pre25.trans ?_, hrun, hended, _, _, rfl, ?_, ⟨_, rfl⟩, hW, hsame.mono (by decide) (by decide)⟩
            · show Steps p.tables e below (s₁.setTop (mkF m 40 #[.val (.int x0)] [(.int (0 : Int32))])) _
              exact retN X0 hx (t := .boolean) Bd.returns (by simp) (hb hby d4_40) hr
            · show Q4 Z x0 h0 n0 _ s₁.heap _
              rw [e0]
              have hF : own_F4 x0 = (0 : Int32) := by
                simp only [own_F4, if_pos hc3, if_neg hc11, if_pos hc18, if_neg hc27, if_neg hc34]
              exact ⟨by rw [hF], N0, rfl⟩
      · have st26 : Steps p.tables e below (s₁.setTop (mkF m 18 #[.val (.int x0)] [(.int (159 : Int32)), (.int x0)])) (s₁.setTop (mkF m 21 #[.val (.int x0)] [])) := by
          refine XS.icmpNo X0.here hx rfl (hb hby d4_18) rfl (flt hc18).2.2.1 ?_
          exact Steps.refl _
        have pre26 := pre15.trans st26
        have st27 : Steps p.tables e below (s₁.setTop (mkF m 21 #[.val (.int x0)] [])) (s₁.setTop (mkF m 22 #[.val (.int x0)] [(.int (1 : Int32))])) := by
          refine XS.iconst X0.here hx rfl (hb hby d4_21) ?_
          show Steps p.tables e below (s₁.setTop (mkF m 22 #[.val (.int x0)] [(.int (1 : Int32))])) _
          exact Steps.refl _
        have pre27 := pre26.trans st27
        obtain ⟨fs, hr, hrun, hended, hW, hsame⟩ := X0.leave (v := some (.int (1 : Int32))) (fun h => by rw [Bd.returns] at h; cases h)
        refine ⟨_, _, pre27.trans ?_, hrun, hended, _, _, rfl, ?_, ⟨_, rfl⟩, hW, hsame.mono (by decide) (by decide)⟩
        · show Steps p.tables e below (s₁.setTop (mkF m 22 #[.val (.int x0)] [(.int (1 : Int32))])) _
          exact retN X0 hx (t := .boolean) Bd.returns (by simp) (hb hby d4_22) hr
        · show Q4 Z x0 h0 n0 _ s₁.heap _
          rw [e0]
          have hF : own_F4 x0 = (1 : Int32) := by
            simp only [own_F4, if_pos hc3, if_neg hc11, if_neg hc18]
          exact ⟨by rw [hF], N0, rfl⟩
  · have st28 : Steps p.tables e below (s₁.setTop (mkF m 3 #[.val (.int x0)] [(.int (31 : Int32)), (.int x0)])) (s₁.setTop (mkF m 6 #[.val (.int x0)] [])) := by
      refine XS.icmpNo X0.here hx rfl (hb hby d4_3) rfl (flt hc3).2.2.1 ?_
      exact Steps.refl _
    have pre28 := pre1.trans st28
    have st29 : Steps p.tables e below (s₁.setTop (mkF m 6 #[.val (.int x0)] [])) (s₁.setTop (mkF m 7 #[.val (.int x0)] [(.int (1 : Int32))])) := by
      refine XS.iconst X0.here hx rfl (hb hby d4_6) ?_
      show Steps p.tables e below (s₁.setTop (mkF m 7 #[.val (.int x0)] [(.int (1 : Int32))])) _
      exact Steps.refl _
    have pre29 := pre28.trans st29
    obtain ⟨fs, hr, hrun, hended, hW, hsame⟩ := X0.leave (v := some (.int (1 : Int32))) (fun h => by rw [Bd.returns] at h; cases h)
    refine ⟨_, _, pre29.trans ?_, hrun, hended, _, _, rfl, ?_, ⟨_, rfl⟩, hW, hsame.mono (by decide) (by decide)⟩
    · show Steps p.tables e below (s₁.setTop (mkF m 7 #[.val (.int x0)] [(.int (1 : Int32))])) _
      exact retN X0 hx (t := .boolean) Bd.returns (by simp) (hb hby d4_7) hr
    · show Q4 Z x0 h0 n0 _ s₁.heap _
      rw [e0]
      have hF : own_F4 x0 = (1 : Int32) := by
        simp only [own_F4, if_neg hc3]
      exact ⟨by rw [hF], N0, rfl⟩
theorem own_eq (c : Int32) (h0 : 0 ≤ c.toInt) (h1 : c.toInt < 65536) : own_F3 c = own_F4 c := by
  have s := c_iushr c (5 : Int32) 5 (by decide) (by decide)
  have e0 : (0 : Int32).toInt = 0 := by decide
  have e1 : (159 : Int32).toInt = 159 := by decide
  have e2 : (127 : Int32).toInt = 127 := by decide
  have e3 : (31 : Int32).toInt = 31 := by decide
  have e4 : (8232 : Int32).toInt = 8232 := by decide
  have e5 : (8233 : Int32).toInt = 8233 := by decide
  have z1 : ¬ ((1 : Int32).toInt = 0) := by decide
  simp only [own_F3, own_F2, own_F1, own_F4, Int32.lt_iff_toInt_lt, ← Int32.toInt_inj, e0, e1, e2, e3, e4, e5, s]
  repeat' split
  all_goals first | rfl | omega | (simp_all; omega)
theorem own_chr (x : Int32) : 0 ≤ (x.toUInt32.toUInt16.toUInt32.toInt32).toInt ∧ (x.toUInt32.toUInt16.toUInt32.toInt32).toInt < 65536 := (c_i2c x).2
theorem own_get (L : List Int32) (k : Nat) : ∃ z, (L.map Value.int).getD k (.int (0 : Int32)) = .int z := by
  rw [List.getD_eq_getElem?_getD, List.getElem?_map]
  cases L[k]? with
  | none => exact ⟨0, rfl⟩
  | some z => exact ⟨z, rfl⟩
theorem own_idx (x : Int32) : ¬ ((((x.toUInt32 >>> ((1 : Int32) &&& 31).toUInt32).toInt32) &&& (7 : Int32)) < 0) ∧ (((x.toUInt32 >>> ((1 : Int32) &&& 31).toUInt32).toInt32) &&& (7 : Int32)) < (8 : Int32) := by
  have q := c_and ((x.toUInt32 >>> ((1 : Int32) &&& 31).toUInt32).toInt32) (7 : Int32) (by decide)
  have e0 : (0 : Int32).toInt = 0 := by decide
  have e1 : (7 : Int32).toInt = 7 := by decide
  have e2 : (8 : Int32).toInt = 8 := by decide
  rw [Int32.lt_iff_toInt_lt, Int32.lt_iff_toInt_lt]
  omega
theorem pn0 : plainName "com/example/nestmine/nestmine/OneLineMustEscapePinLaw" = true := by first | (simp [plainName, overriddenIn]; done) | decide +kernel
theorem pd0_0 : parseMethodDescriptor "(C)Z" = some ⟨[.char], some .boolean⟩ := by decide +kernel
theorem pd0_1 : parseMethodDescriptor "(I)Z" = some ⟨[.int], some .boolean⟩ := by decide +kernel
theorem ef0 (m : MethodId) (x0 : Int32) (x1 : Int32) : entryFrame m #[(.int x0), (.int x1)] maxLocals = mkF m 0 #[.val (.int x0), .val (.int x1), .unset, .unset, .unset, .unset] [] := by first | (simp [entryFrame, mkF, argsToLocals, Value.category, maxLocals]; done) | rfl
def Q0 (Z : State) (x0 : Int32) (x1 : Int32) (h0 : Heap) (n0 : Nat) (v : Option Value) (h : Heap) (L : List Loc) : Prop := v = some (.int 1) ∧ Fr n0 L
set_option maxRecDepth 65536 in
set_option maxHeartbeats 40000000 in
theorem rm0 (l : Launch) (Z : State) (a0 : Array Value) (hw : ∀ d ∈ tables_1, d.before a0 Z = true) (ws : List Jvm.Cond) (x0 : Int32) (x1 : Int32) (h0 : Heap) (n0 : Nat) (Z0 : n0 ≤ h0.size) :
    MetFree l x (head1 (Jvm.Cond.code x code maxLocals ret :: ws) room_1) (fun a U => a = #[(.int x0), (.int x1)] ∧ Z.Warmed39 U.vm ∧ U.heap = h0) (fun _ _ _ _ _ => True) (fun _ U o U' => ∃ v L, o = .returned v ∧ Q0 Z x0 x1 h0 n0 v U'.heap L ∧ FrameEnd U o U' L room_1.cells room_1.slots) := by
  refine MetFree.of_bodySF (plainFor_of_name pn0) hisR ?_
  intro p e s m args below meth c s₁ Bd hml0 hP hK
  obtain ⟨rfl, hZ, hh⟩ := hP
  have hx := Bd.exec
  have hby := Bd.bytes
  have hml : c.maxLocals = 6 := hml0
  have hown : s.vm.findClass "com/example/nestmine/nestmine/OneLineMustEscapePinLaw" = some m.cls := findClass_of_methodNamed Bd.named
  have hnm := (name_of_methodNamed Bd.named Bd.method).1
  have X0 : Stand p l e room_1 s m #[(.int x0), (.int x1)] below meth c s₁ [] 0 0 := Stand.of_body Bd
  have e0 : s₁.heap = h0 := by rw [← hh, Bd.state]; rfl
  have N0 := Fr.nil n0
  have pre0 : Steps p.tables e below (s₁.setTop (entryFrame m #[(.int x0), (.int x1)] maxLocals)) (s₁.setTop (mkF m 0 #[.val (.int x0), .val (.int x1), .unset, .unset, .unset, .unset] [])) := castTop (ef0 m x0 x1) (Steps.refl _)
  have K0 := Keep.refl h0 []
  have st1 : Steps p.tables e below (s₁.setTop (mkF m 0 #[.val (.int x0), .val (.int x1), .unset, .unset, .unset, .unset] [])) (s₁.setTop (mkF m 2 #[.val (.int x0), .val (.int x1), .unset, .unset, .unset, .unset] [(.int (8 : Int32))])) := by
    refine XS.bipush X0.here hx rfl (hb hby at_0) ?_
    show Steps p.tables e below (s₁.setTop (mkF m 2 #[.val (.int x0), .val (.int x1), .unset, .unset, .unset, .unset] [(.int (8 : Int32))])) _
    exact Steps.refl _
  have pre1 := pre0.trans st1
  obtain ⟨T2, h2, k2, X2, e2, E2, A2, st2⟩ := newP X0 hx hZ (hw _ (List.mem_of_getElem? (i := 0) rfl)) e0 (g := (mkF m 2 #[.val (.int x0), .val (.int x1), .unset, .unset, .unset, .unset] [(.int (8 : Int32))])) rfl (hb hby at_2) rfl (by decide) (cap := 8) (by decide) (by decide) (by decide) (by decide)
  obtain ⟨b2, g2⟩ : ∃ z, z = h0.size := ⟨_, rfl⟩
  rw [← g2] at A2 st2
  have pre2 : Steps p.tables e below (s₁.setTop (entryFrame m #[(.int x0), (.int x1)] maxLocals)) (T2.setTop (mkF m 4 #[.val (.int x0), .val (.int x1), .unset, .unset, .unset, .unset] [(.ref b2)])) := pre1.trans (st2 _ (Steps.refl _))
  have gn2 : n0 ≤ b2 := Nat.le_trans Z0 (Nat.le_of_eq g2.symm)
  have sz2 : h0.size ≤ b2 := Nat.le_trans K0.1 (Nat.le_of_eq g2.symm)
  have K2 := K0.ext E2
  have Z2 : n0 ≤ h2.size := Nat.le_trans Z0 E2.1
  have F3 : Arv Z h2 b2 k2 .int (8 : Int32) [(.int (0 : Int32)), (.int (0 : Int32)), (.int (0 : Int32)), (.int (0 : Int32)), (.int (0 : Int32)), (.int (0 : Int32)), (.int (0 : Int32)), (.int (0 : Int32))] (.int (0 : Int32)) := (Arv.new A2 (by decide)).pad (pad_rep [] (.int (0 : Int32)) 8)
  have st4 : Steps p.tables e below (T2.setTop (mkF m 4 #[.val (.int x0), .val (.int x1), .unset, .unset, .unset, .unset] [(.ref b2)])) (T2.setTop (mkF m 7 #[.val (.int x0), .val (.int x1), .unset, .unset, .unset, .unset] [(.int (0 : Int32)), (.int (0 : Int32)), (.ref b2), (.ref b2)])) := by
    refine XS.dup X2.here hx rfl (hb hby at_4) rfl rfl ?_
    show Steps p.tables e below (T2.setTop (mkF m 5 #[.val (.int x0), .val (.int x1), .unset, .unset, .unset, .unset] [(.ref b2), (.ref b2)])) _
    refine XS.iconst X2.here hx rfl (hb hby at_5) ?_
    show Steps p.tables e below (T2.setTop (mkF m 6 #[.val (.int x0), .val (.int x1), .unset, .unset, .unset, .unset] [(.int (0 : Int32)), (.ref b2), (.ref b2)])) _
    refine XS.iconst X2.here hx rfl (hb hby at_6) ?_
    show Steps p.tables e below (T2.setTop (mkF m 7 #[.val (.int x0), .val (.int x1), .unset, .unset, .unset, .unset] [(.int (0 : Int32)), (.int (0 : Int32)), (.ref b2), (.ref b2)])) _
    exact Steps.refl _
  have pre4 := pre2.trans st4
  obtain ⟨cl5, Ar5, q5, S5, G5, H5, J5⟩ := id F3
  have in5 : ¬ ((0 : Int32) < 0 ∨ cl5.slots.size ≤ ((0 : Int32)).toNatClampNeg) := inb_of S5 ⟨by decide, by decide⟩
  obtain ⟨T5, h5, X5, e5, W5, st5⟩ := stI X2 hx hZ e2 Ar5 (j := (0 : Int32)) in5 (g := (mkF m 7 #[.val (.int x0), .val (.int x1), .unset, .unset, .unset, .unset] [(.int (0 : Int32)), (.int (0 : Int32)), (.ref b2), (.ref b2)])) rfl rfl (hb hby at_7)
  have pre5 : Steps p.tables e below (s₁.setTop (entryFrame m #[(.int x0), (.int x1)] maxLocals)) (T5.setTop (mkF m 8 #[.val (.int x0), .val (.int x1), .unset, .unset, .unset, .unset] [(.ref b2)])) := pre4.trans (st5 _ (Steps.refl _))
  have K5 := K2.wr W5 (Or.inr sz2)
  have Z5 : n0 ≤ h5.size := Nat.le_trans Z2 (Keep.of_wr W5).1
  have V5 : Arv Z h5 b2 k2 .int (8 : Int32) [(.int (0 : Int32)), (.int (0 : Int32)), (.int (0 : Int32)), (.int (0 : Int32)), (.int (0 : Int32)), (.int (0 : Int32)), (.int (0 : Int32)), (.int (0 : Int32))] (.int (0 : Int32)) := Arv.set Ar5 q5 S5 G5 H5 J5 rfl W5 0 rfl (Nat.le_of_ble_eq_true rfl)
  have N5 := Fr.snoc X5 N0 gn2
  have st7 : Steps p.tables e below (T5.setTop (mkF m 8 #[.val (.int x0), .val (.int x1), .unset, .unset, .unset, .unset] [(.ref b2)])) (T5.setTop (mkF m 12 #[.val (.int x0), .val (.int x1), .unset, .unset, .unset, .unset] [(.int (31 : Int32)), (.int (1 : Int32)), (.ref b2), (.ref b2)])) := by
    refine XS.dup X5.here hx rfl (hb hby at_8) rfl rfl ?_
    show Steps p.tables e below (T5.setTop (mkF m 9 #[.val (.int x0), .val (.int x1), .unset, .unset, .unset, .unset] [(.ref b2), (.ref b2)])) _
    refine XS.iconst X5.here hx rfl (hb hby at_9) ?_
    show Steps p.tables e below (T5.setTop (mkF m 10 #[.val (.int x0), .val (.int x1), .unset, .unset, .unset, .unset] [(.int (1 : Int32)), (.ref b2), (.ref b2)])) _
    refine XS.bipush X5.here hx rfl (hb hby at_10) ?_
    show Steps p.tables e below (T5.setTop (mkF m 12 #[.val (.int x0), .val (.int x1), .unset, .unset, .unset, .unset] [(.int (31 : Int32)), (.int (1 : Int32)), (.ref b2), (.ref b2)])) _
    exact Steps.refl _
  have pre7 := pre5.trans st7
  obtain ⟨cl8, Ar8, q8, S8, G8, H8, J8⟩ := id V5
  have in8 : ¬ ((1 : Int32) < 0 ∨ cl8.slots.size ≤ ((1 : Int32)).toNatClampNeg) := inb_of S8 ⟨by decide, by decide⟩
  obtain ⟨T8, h8, X8, e8, W8, st8⟩ := stI X5 hx hZ e5 Ar8 (j := (1 : Int32)) in8 (g := (mkF m 12 #[.val (.int x0), .val (.int x1), .unset, .unset, .unset, .unset] [(.int (31 : Int32)), (.int (1 : Int32)), (.ref b2), (.ref b2)])) rfl rfl (hb hby at_12)
  have pre8 : Steps p.tables e below (s₁.setTop (entryFrame m #[(.int x0), (.int x1)] maxLocals)) (T8.setTop (mkF m 13 #[.val (.int x0), .val (.int x1), .unset, .unset, .unset, .unset] [(.ref b2)])) := pre7.trans (st8 _ (Steps.refl _))
  have K8 := K5.wr W8 (Or.inr sz2)
  have Z8 : n0 ≤ h8.size := Nat.le_trans Z5 (Keep.of_wr W8).1
  have V8 : Arv Z h8 b2 k2 .int (8 : Int32) [(.int (0 : Int32)), (.int (31 : Int32)), (.int (0 : Int32)), (.int (0 : Int32)), (.int (0 : Int32)), (.int (0 : Int32)), (.int (0 : Int32)), (.int (0 : Int32))] (.int (0 : Int32)) := Arv.set Ar8 q8 S8 G8 H8 J8 rfl W8 1 rfl (Nat.le_of_ble_eq_true rfl)
  have N8 := Fr.snoc X8 N5 gn2
  have st10 : Steps p.tables e below (T8.setTop (mkF m 13 #[.val (.int x0), .val (.int x1), .unset, .unset, .unset, .unset] [(.ref b2)])) (T8.setTop (mkF m 17 #[.val (.int x0), .val (.int x1), .unset, .unset, .unset, .unset] [(.int (32 : Int32)), (.int (2 : Int32)), (.ref b2), (.ref b2)])) := by
    refine XS.dup X8.here hx rfl (hb hby at_13) rfl rfl ?_
    show Steps p.tables e below (T8.setTop (mkF m 14 #[.val (.int x0), .val (.int x1), .unset, .unset, .unset, .unset] [(.ref b2), (.ref b2)])) _
    refine XS.iconst X8.here hx rfl (hb hby at_14) ?_
    show Steps p.tables e below (T8.setTop (mkF m 15 #[.val (.int x0), .val (.int x1), .unset, .unset, .unset, .unset] [(.int (2 : Int32)), (.ref b2), (.ref b2)])) _
    refine XS.bipush X8.here hx rfl (hb hby at_15) ?_
    show Steps p.tables e below (T8.setTop (mkF m 17 #[.val (.int x0), .val (.int x1), .unset, .unset, .unset, .unset] [(.int (32 : Int32)), (.int (2 : Int32)), (.ref b2), (.ref b2)])) _
    exact Steps.refl _
  have pre10 := pre8.trans st10
  obtain ⟨cl11, Ar11, q11, S11, G11, H11, J11⟩ := id V8
  have in11 : ¬ ((2 : Int32) < 0 ∨ cl11.slots.size ≤ ((2 : Int32)).toNatClampNeg) := inb_of S11 ⟨by decide, by decide⟩
  obtain ⟨T11, h11, X11, e11, W11, st11⟩ := stI X8 hx hZ e8 Ar11 (j := (2 : Int32)) in11 (g := (mkF m 17 #[.val (.int x0), .val (.int x1), .unset, .unset, .unset, .unset] [(.int (32 : Int32)), (.int (2 : Int32)), (.ref b2), (.ref b2)])) rfl rfl (hb hby at_17)
  have pre11 : Steps p.tables e below (s₁.setTop (entryFrame m #[(.int x0), (.int x1)] maxLocals)) (T11.setTop (mkF m 18 #[.val (.int x0), .val (.int x1), .unset, .unset, .unset, .unset] [(.ref b2)])) := pre10.trans (st11 _ (Steps.refl _))
  have K11 := K8.wr W11 (Or.inr sz2)
  have Z11 : n0 ≤ h11.size := Nat.le_trans Z8 (Keep.of_wr W11).1
  have V11 : Arv Z h11 b2 k2 .int (8 : Int32) [(.int (0 : Int32)), (.int (31 : Int32)), (.int (32 : Int32)), (.int (0 : Int32)), (.int (0 : Int32)), (.int (0 : Int32)), (.int (0 : Int32)), (.int (0 : Int32))] (.int (0 : Int32)) := Arv.set Ar11 q11 S11 G11 H11 J11 rfl W11 2 rfl (Nat.le_of_ble_eq_true rfl)
  have N11 := Fr.snoc X11 N8 gn2
  have st13 : Steps p.tables e below (T11.setTop (mkF m 18 #[.val (.int x0), .val (.int x1), .unset, .unset, .unset, .unset] [(.ref b2)])) (T11.setTop (mkF m 22 #[.val (.int x0), .val (.int x1), .unset, .unset, .unset, .unset] [(.int (127 : Int32)), (.int (3 : Int32)), (.ref b2), (.ref b2)])) := by
    refine XS.dup X11.here hx rfl (hb hby at_18) rfl rfl ?_
    show Steps p.tables e below (T11.setTop (mkF m 19 #[.val (.int x0), .val (.int x1), .unset, .unset, .unset, .unset] [(.ref b2), (.ref b2)])) _
    refine XS.iconst X11.here hx rfl (hb hby at_19) ?_
    show Steps p.tables e below (T11.setTop (mkF m 20 #[.val (.int x0), .val (.int x1), .unset, .unset, .unset, .unset] [(.int (3 : Int32)), (.ref b2), (.ref b2)])) _
    refine XS.bipush X11.here hx rfl (hb hby at_20) ?_
    show Steps p.tables e below (T11.setTop (mkF m 22 #[.val (.int x0), .val (.int x1), .unset, .unset, .unset, .unset] [(.int (127 : Int32)), (.int (3 : Int32)), (.ref b2), (.ref b2)])) _
    exact Steps.refl _
  have pre13 := pre11.trans st13
  obtain ⟨cl14, Ar14, q14, S14, G14, H14, J14⟩ := id V11
  have in14 : ¬ ((3 : Int32) < 0 ∨ cl14.slots.size ≤ ((3 : Int32)).toNatClampNeg) := inb_of S14 ⟨by decide, by decide⟩
  obtain ⟨T14, h14, X14, e14, W14, st14⟩ := stI X11 hx hZ e11 Ar14 (j := (3 : Int32)) in14 (g := (mkF m 22 #[.val (.int x0), .val (.int x1), .unset, .unset, .unset, .unset] [(.int (127 : Int32)), (.int (3 : Int32)), (.ref b2), (.ref b2)])) rfl rfl (hb hby at_22)
  have pre14 : Steps p.tables e below (s₁.setTop (entryFrame m #[(.int x0), (.int x1)] maxLocals)) (T14.setTop (mkF m 23 #[.val (.int x0), .val (.int x1), .unset, .unset, .unset, .unset] [(.ref b2)])) := pre13.trans (st14 _ (Steps.refl _))
  have K14 := K11.wr W14 (Or.inr sz2)
  have Z14 : n0 ≤ h14.size := Nat.le_trans Z11 (Keep.of_wr W14).1
  have V14 : Arv Z h14 b2 k2 .int (8 : Int32) [(.int (0 : Int32)), (.int (31 : Int32)), (.int (32 : Int32)), (.int (127 : Int32)), (.int (0 : Int32)), (.int (0 : Int32)), (.int (0 : Int32)), (.int (0 : Int32))] (.int (0 : Int32)) := Arv.set Ar14 q14 S14 G14 H14 J14 rfl W14 3 rfl (Nat.le_of_ble_eq_true rfl)
  have N14 := Fr.snoc X14 N11 gn2
  have st16 : Steps p.tables e below (T14.setTop (mkF m 23 #[.val (.int x0), .val (.int x1), .unset, .unset, .unset, .unset] [(.ref b2)])) (T14.setTop (mkF m 28 #[.val (.int x0), .val (.int x1), .unset, .unset, .unset, .unset] [(.int (159 : Int32)), (.int (4 : Int32)), (.ref b2), (.ref b2)])) := by
    refine XS.dup X14.here hx rfl (hb hby at_23) rfl rfl ?_
    show Steps p.tables e below (T14.setTop (mkF m 24 #[.val (.int x0), .val (.int x1), .unset, .unset, .unset, .unset] [(.ref b2), (.ref b2)])) _
    refine XS.iconst X14.here hx rfl (hb hby at_24) ?_
    show Steps p.tables e below (T14.setTop (mkF m 25 #[.val (.int x0), .val (.int x1), .unset, .unset, .unset, .unset] [(.int (4 : Int32)), (.ref b2), (.ref b2)])) _
    refine XS.sipush X14.here hx rfl (hb hby at_25) ?_
    show Steps p.tables e below (T14.setTop (mkF m 28 #[.val (.int x0), .val (.int x1), .unset, .unset, .unset, .unset] [(.int (159 : Int32)), (.int (4 : Int32)), (.ref b2), (.ref b2)])) _
    exact Steps.refl _
  have pre16 := pre14.trans st16
  obtain ⟨cl17, Ar17, q17, S17, G17, H17, J17⟩ := id V14
  have in17 : ¬ ((4 : Int32) < 0 ∨ cl17.slots.size ≤ ((4 : Int32)).toNatClampNeg) := inb_of S17 ⟨by decide, by decide⟩
  obtain ⟨T17, h17, X17, e17, W17, st17⟩ := stI X14 hx hZ e14 Ar17 (j := (4 : Int32)) in17 (g := (mkF m 28 #[.val (.int x0), .val (.int x1), .unset, .unset, .unset, .unset] [(.int (159 : Int32)), (.int (4 : Int32)), (.ref b2), (.ref b2)])) rfl rfl (hb hby at_28)
  have pre17 : Steps p.tables e below (s₁.setTop (entryFrame m #[(.int x0), (.int x1)] maxLocals)) (T17.setTop (mkF m 29 #[.val (.int x0), .val (.int x1), .unset, .unset, .unset, .unset] [(.ref b2)])) := pre16.trans (st17 _ (Steps.refl _))
  have K17 := K14.wr W17 (Or.inr sz2)
  have Z17 : n0 ≤ h17.size := Nat.le_trans Z14 (Keep.of_wr W17).1
  have V17 : Arv Z h17 b2 k2 .int (8 : Int32) [(.int (0 : Int32)), (.int (31 : Int32)), (.int (32 : Int32)), (.int (127 : Int32)), (.int (159 : Int32)), (.int (0 : Int32)), (.int (0 : Int32)), (.int (0 : Int32))] (.int (0 : Int32)) := Arv.set Ar17 q17 S17 G17 H17 J17 rfl W17 4 rfl (Nat.le_of_ble_eq_true rfl)
  have N17 := Fr.snoc X17 N14 gn2
  have st19 : Steps p.tables e below (T17.setTop (mkF m 29 #[.val (.int x0), .val (.int x1), .unset, .unset, .unset, .unset] [(.ref b2)])) (T17.setTop (mkF m 34 #[.val (.int x0), .val (.int x1), .unset, .unset, .unset, .unset] [(.int (160 : Int32)), (.int (5 : Int32)), (.ref b2), (.ref b2)])) := by
    refine XS.dup X17.here hx rfl (hb hby at_29) rfl rfl ?_
    show Steps p.tables e below (T17.setTop (mkF m 30 #[.val (.int x0), .val (.int x1), .unset, .unset, .unset, .unset] [(.ref b2), (.ref b2)])) _
    refine XS.iconst X17.here hx rfl (hb hby at_30) ?_
    show Steps p.tables e below (T17.setTop (mkF m 31 #[.val (.int x0), .val (.int x1), .unset, .unset, .unset, .unset] [(.int (5 : Int32)), (.ref b2), (.ref b2)])) _
    refine XS.sipush X17.here hx rfl (hb hby at_31) ?_
    show Steps p.tables e below (T17.setTop (mkF m 34 #[.val (.int x0), .val (.int x1), .unset, .unset, .unset, .unset] [(.int (160 : Int32)), (.int (5 : Int32)), (.ref b2), (.ref b2)])) _
    exact Steps.refl _
  have pre19 := pre17.trans st19
  obtain ⟨cl20, Ar20, q20, S20, G20, H20, J20⟩ := id V17
  have in20 : ¬ ((5 : Int32) < 0 ∨ cl20.slots.size ≤ ((5 : Int32)).toNatClampNeg) := inb_of S20 ⟨by decide, by decide⟩
  obtain ⟨T20, h20, X20, e20, W20, st20⟩ := stI X17 hx hZ e17 Ar20 (j := (5 : Int32)) in20 (g := (mkF m 34 #[.val (.int x0), .val (.int x1), .unset, .unset, .unset, .unset] [(.int (160 : Int32)), (.int (5 : Int32)), (.ref b2), (.ref b2)])) rfl rfl (hb hby at_34)
  have pre20 : Steps p.tables e below (s₁.setTop (entryFrame m #[(.int x0), (.int x1)] maxLocals)) (T20.setTop (mkF m 35 #[.val (.int x0), .val (.int x1), .unset, .unset, .unset, .unset] [(.ref b2)])) := pre19.trans (st20 _ (Steps.refl _))
  have K20 := K17.wr W20 (Or.inr sz2)
  have Z20 : n0 ≤ h20.size := Nat.le_trans Z17 (Keep.of_wr W20).1
  have V20 : Arv Z h20 b2 k2 .int (8 : Int32) [(.int (0 : Int32)), (.int (31 : Int32)), (.int (32 : Int32)), (.int (127 : Int32)), (.int (159 : Int32)), (.int (160 : Int32)), (.int (0 : Int32)), (.int (0 : Int32))] (.int (0 : Int32)) := Arv.set Ar20 q20 S20 G20 H20 J20 rfl W20 5 rfl (Nat.le_of_ble_eq_true rfl)
  have N20 := Fr.snoc X20 N17 gn2
  have st22 : Steps p.tables e below (T20.setTop (mkF m 35 #[.val (.int x0), .val (.int x1), .unset, .unset, .unset, .unset] [(.ref b2)])) (T20.setTop (mkF m 41 #[.val (.int x0), .val (.int x1), .unset, .unset, .unset, .unset] [(.int (8232 : Int32)), (.int (6 : Int32)), (.ref b2), (.ref b2)])) := by
    refine XS.dup X20.here hx rfl (hb hby at_35) rfl rfl ?_
    show Steps p.tables e below (T20.setTop (mkF m 36 #[.val (.int x0), .val (.int x1), .unset, .unset, .unset, .unset] [(.ref b2), (.ref b2)])) _
    refine XS.bipush X20.here hx rfl (hb hby at_36) ?_
    show Steps p.tables e below (T20.setTop (mkF m 38 #[.val (.int x0), .val (.int x1), .unset, .unset, .unset, .unset] [(.int (6 : Int32)), (.ref b2), (.ref b2)])) _
    refine XS.sipush X20.here hx rfl (hb hby at_38) ?_
    show Steps p.tables e below (T20.setTop (mkF m 41 #[.val (.int x0), .val (.int x1), .unset, .unset, .unset, .unset] [(.int (8232 : Int32)), (.int (6 : Int32)), (.ref b2), (.ref b2)])) _
    exact Steps.refl _
  have pre22 := pre20.trans st22
  obtain ⟨cl23, Ar23, q23, S23, G23, H23, J23⟩ := id V20
  have in23 : ¬ ((6 : Int32) < 0 ∨ cl23.slots.size ≤ ((6 : Int32)).toNatClampNeg) := inb_of S23 ⟨by decide, by decide⟩
  obtain ⟨T23, h23, X23, e23, W23, st23⟩ := stI X20 hx hZ e20 Ar23 (j := (6 : Int32)) in23 (g := (mkF m 41 #[.val (.int x0), .val (.int x1), .unset, .unset, .unset, .unset] [(.int (8232 : Int32)), (.int (6 : Int32)), (.ref b2), (.ref b2)])) rfl rfl (hb hby at_41)
  have pre23 : Steps p.tables e below (s₁.setTop (entryFrame m #[(.int x0), (.int x1)] maxLocals)) (T23.setTop (mkF m 42 #[.val (.int x0), .val (.int x1), .unset, .unset, .unset, .unset] [(.ref b2)])) := pre22.trans (st23 _ (Steps.refl _))
  have K23 := K20.wr W23 (Or.inr sz2)
  have Z23 : n0 ≤ h23.size := Nat.le_trans Z20 (Keep.of_wr W23).1
  have V23 : Arv Z h23 b2 k2 .int (8 : Int32) [(.int (0 : Int32)), (.int (31 : Int32)), (.int (32 : Int32)), (.int (127 : Int32)), (.int (159 : Int32)), (.int (160 : Int32)), (.int (8232 : Int32)), (.int (0 : Int32))] (.int (0 : Int32)) := Arv.set Ar23 q23 S23 G23 H23 J23 rfl W23 6 rfl (Nat.le_of_ble_eq_true rfl)
  have N23 := Fr.snoc X23 N20 gn2
  have st25 : Steps p.tables e below (T23.setTop (mkF m 42 #[.val (.int x0), .val (.int x1), .unset, .unset, .unset, .unset] [(.ref b2)])) (T23.setTop (mkF m 48 #[.val (.int x0), .val (.int x1), .unset, .unset, .unset, .unset] [(.int (8233 : Int32)), (.int (7 : Int32)), (.ref b2), (.ref b2)])) := by
    refine XS.dup X23.here hx rfl (hb hby at_42) rfl rfl ?_
    show Steps p.tables e below (T23.setTop (mkF m 43 #[.val (.int x0), .val (.int x1), .unset, .unset, .unset, .unset] [(.ref b2), (.ref b2)])) _
    refine XS.bipush X23.here hx rfl (hb hby at_43) ?_
    show Steps p.tables e below (T23.setTop (mkF m 45 #[.val (.int x0), .val (.int x1), .unset, .unset, .unset, .unset] [(.int (7 : Int32)), (.ref b2), (.ref b2)])) _
    refine XS.sipush X23.here hx rfl (hb hby at_45) ?_
    show Steps p.tables e below (T23.setTop (mkF m 48 #[.val (.int x0), .val (.int x1), .unset, .unset, .unset, .unset] [(.int (8233 : Int32)), (.int (7 : Int32)), (.ref b2), (.ref b2)])) _
    exact Steps.refl _
  have pre25 := pre23.trans st25
  obtain ⟨cl26, Ar26, q26, S26, G26, H26, J26⟩ := id V23
  have in26 : ¬ ((7 : Int32) < 0 ∨ cl26.slots.size ≤ ((7 : Int32)).toNatClampNeg) := inb_of S26 ⟨by decide, by decide⟩
  obtain ⟨T26, h26, X26, e26, W26, st26⟩ := stI X23 hx hZ e23 Ar26 (j := (7 : Int32)) in26 (g := (mkF m 48 #[.val (.int x0), .val (.int x1), .unset, .unset, .unset, .unset] [(.int (8233 : Int32)), (.int (7 : Int32)), (.ref b2), (.ref b2)])) rfl rfl (hb hby at_48)
  have pre26 : Steps p.tables e below (s₁.setTop (entryFrame m #[(.int x0), (.int x1)] maxLocals)) (T26.setTop (mkF m 49 #[.val (.int x0), .val (.int x1), .unset, .unset, .unset, .unset] [(.ref b2)])) := pre25.trans (st26 _ (Steps.refl _))
  have K26 := K23.wr W26 (Or.inr sz2)
  have Z26 : n0 ≤ h26.size := Nat.le_trans Z23 (Keep.of_wr W26).1
  have V26 : Arv Z h26 b2 k2 .int (8 : Int32) [(.int (0 : Int32)), (.int (31 : Int32)), (.int (32 : Int32)), (.int (127 : Int32)), (.int (159 : Int32)), (.int (160 : Int32)), (.int (8232 : Int32)), (.int (8233 : Int32))] (.int (0 : Int32)) := Arv.set Ar26 q26 S26 G26 H26 J26 rfl W26 7 rfl (Nat.le_of_ble_eq_true rfl)
  have N26 := Fr.snoc X26 N23 gn2
  obtain ⟨v28, hv28⟩ : ∃ z : Int32, z = (x1 &&& (1 : Int32)) := ⟨_, rfl⟩
  have st29 : Steps p.tables e below (T26.setTop (mkF m 49 #[.val (.int x0), .val (.int x1), .unset, .unset, .unset, .unset] [(.ref b2)])) (T26.setTop (mkF m 53 #[.val (.int x0), .val (.int x1), .val (.ref b2), .unset, .unset, .unset] [(.int v28)])) := by
    subst v28
    refine XS.astoreN X26.here hx rfl (hb hby at_49) rfl rfl (l' := #[.val (.int x0), .val (.int x1), .val (.ref b2), .unset, .unset, .unset]) rfl ?_
    show Steps p.tables e below (T26.setTop (mkF m 50 #[.val (.int x0), .val (.int x1), .val (.ref b2), .unset, .unset, .unset] [])) _
    refine XS.iloadN X26.here hx rfl (hb hby at_50) rfl ?_
    show Steps p.tables e below (T26.setTop (mkF m 51 #[.val (.int x0), .val (.int x1), .val (.ref b2), .unset, .unset, .unset] [(.int x1)])) _
    refine XS.iconst X26.here hx rfl (hb hby at_51) ?_
    show Steps p.tables e below (T26.setTop (mkF m 52 #[.val (.int x0), .val (.int x1), .val (.ref b2), .unset, .unset, .unset] [(.int (1 : Int32)), (.int x1)])) _
    refine XS.iand X26.here hx rfl (hb hby at_52) rfl ?_
    show Steps p.tables e below (T26.setTop (mkF m 53 #[.val (.int x0), .val (.int x1), .val (.ref b2), .unset, .unset, .unset] [(.int (x1 &&& (1 : Int32)))])) _
    exact Steps.refl _
  have pre29 := pre26.trans st29
  by_cases hc53 : v28 = (0 : Int32)
  · have st30 : Steps p.tables e below (T26.setTop (mkF m 53 #[.val (.int x0), .val (.int x1), .val (.ref b2), .unset, .unset, .unset] [(.int v28)])) (T26.setTop (mkF m 56 #[.val (.int x0), .val (.int x1), .val (.ref b2), .unset, .unset, .unset] [])) := by
      refine XS.ifNo X26.here hx rfl (hb hby at_53) rfl ((if0 _ _).trans (teq hc53).2) ?_
      exact Steps.refl _
    have pre30 := pre29.trans st30
    obtain ⟨v31, hv31⟩ : ∃ z : Int32, z = (x0.toUInt32.toUInt16.toUInt32.toInt32) := ⟨_, rfl⟩
    have st32 : Steps p.tables e below (T26.setTop (mkF m 56 #[.val (.int x0), .val (.int x1), .val (.ref b2), .unset, .unset, .unset] [])) (T26.setTop (mkF m 90 #[.val (.int x0), .val (.int x1), .val (.ref b2), .val (.int v31), .val (.int v31), .unset] [(.int v31)])) := by
      subst v31
      refine XS.iloadN X26.here hx rfl (hb hby at_56) rfl ?_
      show Steps p.tables e below (T26.setTop (mkF m 57 #[.val (.int x0), .val (.int x1), .val (.ref b2), .unset, .unset, .unset] [(.int x0)])) _
      refine XS.i2c X26.here hx rfl (hb hby at_57) rfl ?_
      show Steps p.tables e below (T26.setTop (mkF m 58 #[.val (.int x0), .val (.int x1), .val (.ref b2), .unset, .unset, .unset] [(.int (x0.toUInt32.toUInt16.toUInt32.toInt32))])) _
      refine XS.istoreN X26.here hx rfl (hb hby at_58) rfl (l' := #[.val (.int x0), .val (.int x1), .val (.ref b2), .val (.int (x0.toUInt32.toUInt16.toUInt32.toInt32)), .unset, .unset]) rfl ?_
      show Steps p.tables e below (T26.setTop (mkF m 59 #[.val (.int x0), .val (.int x1), .val (.ref b2), .val (.int (x0.toUInt32.toUInt16.toUInt32.toInt32)), .unset, .unset] [])) _
      refine XS.goto X26.here hx rfl (pc0 := 59) (pc' := 86) rfl (hb hby at_59) (by decide) (by decide) ?_
      show Steps p.tables e below (T26.setTop (mkF m 86 #[.val (.int x0), .val (.int x1), .val (.ref b2), .val (.int (x0.toUInt32.toUInt16.toUInt32.toInt32)), .unset, .unset] [])) _
      refine XS.iloadN X26.here hx rfl (hb hby at_86) rfl ?_
      show Steps p.tables e below (T26.setTop (mkF m 87 #[.val (.int x0), .val (.int x1), .val (.ref b2), .val (.int (x0.toUInt32.toUInt16.toUInt32.toInt32)), .unset, .unset] [(.int (x0.toUInt32.toUInt16.toUInt32.toInt32))])) _
      refine XS.istore X26.here hx rfl (hb hby at_87) rfl (l' := #[.val (.int x0), .val (.int x1), .val (.ref b2), .val (.int (x0.toUInt32.toUInt16.toUInt32.toInt32)), .val (.int (x0.toUInt32.toUInt16.toUInt32.toInt32)), .unset]) rfl ?_
      show Steps p.tables e below (T26.setTop (mkF m 89 #[.val (.int x0), .val (.int x1), .val (.ref b2), .val (.int (x0.toUInt32.toUInt16.toUInt32.toInt32)), .val (.int (x0.toUInt32.toUInt16.toUInt32.toInt32)), .unset] [])) _
      refine XS.iloadN X26.here hx rfl (hb hby at_89) rfl ?_
      show Steps p.tables e below (T26.setTop (mkF m 90 #[.val (.int x0), .val (.int x1), .val (.ref b2), .val (.int (x0.toUInt32.toUInt16.toUInt32.toInt32)), .val (.int (x0.toUInt32.toUInt16.toUInt32.toInt32)), .unset] [(.int (x0.toUInt32.toUInt16.toUInt32.toInt32))])) _
      exact Steps.refl _
    have pre32 := pre30.trans st32
    obtain ⟨_, _, ⟨T33, L33, k33, n33⟩, -, X33, ⟨Lc33, hQ33, l33, y33, z33⟩, st33⟩ := Jvm.LawKit.callS X26 hx (y := (⟨"com/example/nestmine/nestmine/OneLine", "mustEscape", "(C)Z"⟩ : MethodName)) hown (mvT hZ (hw _ (List.mem_of_getElem? (i := 1) rfl))) (mvT hZ (hw _ (List.mem_of_getElem? (i := 2) rfl))) (mvT hZ (hw _ (List.mem_of_getElem? (i := 3) rfl))) (mvT hZ (hw _ (List.mem_of_getElem? (i := 4) rfl))) (by decide) (backOf (W := 0) (rm3 l Z a0 hw [] v31 h26 n0 Z26) hZ (hw _ (List.mem_of_getElem? (i := 4) rfl)) (hw _ (List.mem_of_getElem? (i := 3) rfl)) (by decide) (by decide)) (g := (mkF m 90 #[.val (.int x0), .val (.int x1), .val (.ref b2), .val (.int v31), .val (.int v31), .unset] [(.int v31)])) rfl (by rw [hml]; rfl) (argsL := [(.int v31)]) (rest := []) (lenOf pd0_0 rfl) rfl (by show 2 * 0 + _ ≤ _; exact Nat.le_of_eq rfl) (hb hby at_90) (fun _ _ => ⟨rfl, e26, (by decide : 1 + 0 ≤ _), (by decide : 8 + 0 ≤ _)⟩)
    dsimp only [Pt.U, Pt.locs, Pt.cells, Pt.slots] at X33 l33 y33 z33 st33 hQ33
    subst l33 y33 z33
    obtain ⟨rfl, Nq33, e33⟩ := hQ33
    have N33 := Fr.app N26 Nq33
    have pre33 : Steps p.tables e below (s₁.setTop (entryFrame m #[(.int x0), (.int x1)] maxLocals)) (T33.setTop (mkF m 93 #[.val (.int x0), .val (.int x1), .val (.ref b2), .val (.int v31), .val (.int v31), .unset] [(.int (own_F3 v31))])) := pre32.trans (st33 _ (Steps.refl _))
    obtain ⟨v34, hv34⟩ : ∃ z : Int32, z = (own_F3 v31) := ⟨_, rfl⟩
    have st35 : Steps p.tables e below (T33.setTop (mkF m 93 #[.val (.int x0), .val (.int x1), .val (.ref b2), .val (.int v31), .val (.int v31), .unset] [(.int (own_F3 v31))])) (T33.setTop (mkF m 95 #[.val (.int x0), .val (.int x1), .val (.ref b2), .val (.int v31), .val (.int v31), .unset] [(.int v31), (.int v34)])) := by
      subst v34
      refine XS.iload X33.here hx rfl (hb hby at_93) rfl ?_
      show Steps p.tables e below (T33.setTop (mkF m 95 #[.val (.int x0), .val (.int x1), .val (.ref b2), .val (.int v31), .val (.int v31), .unset] [(.int v31), (.int (own_F3 v31))])) _
      exact Steps.refl _
    have pre35 := pre33.trans st35
    obtain ⟨_, _, ⟨T36, L36, k36, n36⟩, -, X36, ⟨Lc36, hQ36, l36, y36, z36⟩, st36⟩ := Jvm.LawKit.callS X33 hx (y := (⟨"com/example/nestmine/nestmine/OneLineMustEscapePinLaw", "expected", "(I)Z"⟩ : MethodName)) hown (mvT hZ (hw _ (List.mem_of_getElem? (i := 12) rfl))) (mvT hZ (hw _ (List.mem_of_getElem? (i := 13) rfl))) (mvT hZ (hw _ (List.mem_of_getElem? (i := 14) rfl))) (mvT hZ (hw _ (List.mem_of_getElem? (i := 15) rfl))) (by decide) (backOf (W := 1) (rm4 l Z a0 hw [] v31 h26 n0 Z26) hZ (hw _ (List.mem_of_getElem? (i := 15) rfl)) (hw _ (List.mem_of_getElem? (i := 14) rfl)) (by decide) (by decide)) (g := (mkF m 95 #[.val (.int x0), .val (.int x1), .val (.ref b2), .val (.int v31), .val (.int v31), .unset] [(.int v31), (.int v34)])) rfl (by rw [hml]; rfl) (argsL := [(.int v31)]) (rest := [(.int v34)]) (lenOf pd0_1 rfl) rfl (by show 2 * 0 + _ ≤ _; exact Nat.le_of_eq rfl) (hb hby at_95) (fun _ _ => ⟨rfl, e33, (by decide : 1 + 0 ≤ _), (by decide : 8 + 0 ≤ _)⟩)
    dsimp only [Pt.U, Pt.locs, Pt.cells, Pt.slots] at X36 l36 y36 z36 st36 hQ36
    subst l36 y36 z36
    obtain ⟨rfl, Nq36, e36⟩ := hQ36
    have N36 := Fr.app N33 Nq36
    have pre36 : Steps p.tables e below (s₁.setTop (entryFrame m #[(.int x0), (.int x1)] maxLocals)) (T36.setTop (mkF m 98 #[.val (.int x0), .val (.int x1), .val (.ref b2), .val (.int v31), .val (.int v31), .unset] [(.int (own_F4 v31)), (.int v34)])) := pre35.trans (st36 _ (Steps.refl _))
    have hc98 : v34 = (own_F4 v31) := by
      rw [hv34]
      have hr := own_chr x0
      rw [← hv31] at hr
      exact own_eq _ hr.1 hr.2
    have st37 : Steps p.tables e below (T36.setTop (mkF m 98 #[.val (.int x0), .val (.int x1), .val (.ref b2), .val (.int v31), .val (.int v31), .unset] [(.int (own_F4 v31)), (.int v34)])) (T36.setTop (mkF m 101 #[.val (.int x0), .val (.int x1), .val (.ref b2), .val (.int v31), .val (.int v31), .unset] [])) := by
      refine XS.icmpNo X36.here hx rfl (hb hby at_98) rfl (teq hc98).2 ?_
      exact Steps.refl _
    have pre37 := pre36.trans st37
    have st38 : Steps p.tables e below (T36.setTop (mkF m 101 #[.val (.int x0), .val (.int x1), .val (.ref b2), .val (.int v31), .val (.int v31), .unset] [])) (T36.setTop (mkF m 106 #[.val (.int x0), .val (.int x1), .val (.ref b2), .val (.int v31), .val (.int v31), .unset] [(.int (1 : Int32))])) := by
      refine XS.iconst X36.here hx rfl (hb hby at_101) ?_
      show Steps p.tables e below (T36.setTop (mkF m 102 #[.val (.int x0), .val (.int x1), .val (.ref b2), .val (.int v31), .val (.int v31), .unset] [(.int (1 : Int32))])) _
      refine XS.goto X36.here hx rfl (pc0 := 102) (pc' := 106) rfl (hb hby at_102) (by decide) (by decide) ?_
      show Steps p.tables e below (T36.setTop (mkF m 106 #[.val (.int x0), .val (.int x1), .val (.ref b2), .val (.int v31), .val (.int v31), .unset] [(.int (1 : Int32))])) _
      exact Steps.refl _
    have pre38 := pre37.trans st38
    obtain ⟨fs, hr, hrun, hended, hW, hsame⟩ := X36.leave (v := some (.int (1 : Int32))) (fun h => by rw [Bd.returns] at h; cases h)
    refine ⟨_, _, pre38.trans ?_, hrun, hended, _, _, rfl, ?_, ⟨_, rfl⟩, hW, hsame.mono (by decide) (by decide)⟩
    · show Steps p.tables e below (T36.setTop (mkF m 106 #[.val (.int x0), .val (.int x1), .val (.ref b2), .val (.int v31), .val (.int v31), .unset] [(.int (1 : Int32))])) _
      exact retN X36 hx (t := .boolean) Bd.returns (by simp) (hb hby at_106) hr
    · show Q0 Z x0 x1 h0 n0 _ T36.heap _
      rw [e36]
      exact ⟨rfl, N36⟩
  · have st39 : Steps p.tables e below (T26.setTop (mkF m 53 #[.val (.int x0), .val (.int x1), .val (.ref b2), .unset, .unset, .unset] [(.int v28)])) (T26.setTop (mkF m 62 #[.val (.int x0), .val (.int x1), .val (.ref b2), .unset, .unset, .unset] [])) := by
      refine XS.ifYes X26.here hx rfl (pc0 := 53) (pc' := 62) rfl (hb hby at_53) rfl ((if0 _ _).trans (feq hc53).2) (by decide) (by decide) ?_
      exact Steps.refl _
    have pre39 := pre29.trans st39
    obtain ⟨v40, hv40⟩ : ∃ z : Int32, z = (((x1.toUInt32 >>> ((1 : Int32) &&& 31).toUInt32).toInt32) &&& (7 : Int32)) := ⟨_, rfl⟩
    have st41 : Steps p.tables e below (T26.setTop (mkF m 62 #[.val (.int x0), .val (.int x1), .val (.ref b2), .unset, .unset, .unset] [])) (T26.setTop (mkF m 69 #[.val (.int x0), .val (.int x1), .val (.ref b2), .unset, .unset, .unset] [(.int v40), (.ref b2)])) := by
      subst v40
      refine XS.aloadN X26.here hx rfl (hb hby at_62) rfl rfl ?_
      show Steps p.tables e below (T26.setTop (mkF m 63 #[.val (.int x0), .val (.int x1), .val (.ref b2), .unset, .unset, .unset] [(.ref b2)])) _
      refine XS.iloadN X26.here hx rfl (hb hby at_63) rfl ?_
      show Steps p.tables e below (T26.setTop (mkF m 64 #[.val (.int x0), .val (.int x1), .val (.ref b2), .unset, .unset, .unset] [(.int x1), (.ref b2)])) _
      refine XS.iconst X26.here hx rfl (hb hby at_64) ?_
      show Steps p.tables e below (T26.setTop (mkF m 65 #[.val (.int x0), .val (.int x1), .val (.ref b2), .unset, .unset, .unset] [(.int (1 : Int32)), (.int x1), (.ref b2)])) _
      refine XS.iushr X26.here hx rfl (hb hby at_65) rfl ?_
      show Steps p.tables e below (T26.setTop (mkF m 66 #[.val (.int x0), .val (.int x1), .val (.ref b2), .unset, .unset, .unset] [(.int ((x1.toUInt32 >>> ((1 : Int32) &&& 31).toUInt32).toInt32)), (.ref b2)])) _
      refine XS.bipush X26.here hx rfl (hb hby at_66) ?_
      show Steps p.tables e below (T26.setTop (mkF m 68 #[.val (.int x0), .val (.int x1), .val (.ref b2), .unset, .unset, .unset] [(.int (7 : Int32)), (.int ((x1.toUInt32 >>> ((1 : Int32) &&& 31).toUInt32).toInt32)), (.ref b2)])) _
      refine XS.iand X26.here hx rfl (hb hby at_68) rfl ?_
      show Steps p.tables e below (T26.setTop (mkF m 69 #[.val (.int x0), .val (.int x1), .val (.ref b2), .unset, .unset, .unset] [(.int (((x1.toUInt32 >>> ((1 : Int32) &&& 31).toUInt32).toInt32) &&& (7 : Int32))), (.ref b2)])) _
      exact Steps.refl _
    have pre41 := pre39.trans st41
    obtain ⟨cl42, Ar42, q42, S42, G42, H42, J42⟩ := id V26
    have in42 : ¬ (v40 < 0 ∨ cl42.slots.size ≤ (v40).toNatClampNeg) := inb_of S42 (by rw [hv40]; exact own_idx _)
    obtain ⟨z42, hz42⟩ := own_get [(0 : Int32), (31 : Int32), (32 : Int32), (127 : Int32), (159 : Int32), (160 : Int32), (8232 : Int32), (8233 : Int32)] (v40).toNatClampNeg
    have at42 : cl42.slots[(v40).toNatClampNeg]? = some (.int z42) := Has.at H42 in42 hz42
    have st42 : Steps p.tables e below (T26.setTop (mkF m 69 #[.val (.int x0), .val (.int x1), .val (.ref b2), .unset, .unset, .unset] [(.int v40), (.ref b2)])) (T26.setTop (mkF m 70 #[.val (.int x0), .val (.int x1), .val (.ref b2), .unset, .unset, .unset] [(.int z42)])) := X26.iaload hx (j := v40) (v := (.int z42)) (by rw [e26]; exact Ar42.1) (State.isArrayOf_alike hZ.alike Ar42.2.1) Ar42.2.2 in42 at42 (g := (mkF m 69 #[.val (.int x0), .val (.int x1), .val (.ref b2), .unset, .unset, .unset] [(.int v40), (.ref b2)])) rfl rfl (hb hby at_69) _ (Steps.refl _)
    have pre42 := pre41.trans st42
    obtain ⟨v43, hv43⟩ : ∃ z : Int32, z = ((x0 &&& (3 : Int32)) - (1 : Int32)) := ⟨_, rfl⟩
    obtain ⟨v44, hv44⟩ : ∃ z : Int32, z = ((z42 + v43).toUInt32.toUInt16.toUInt32.toInt32) := ⟨_, rfl⟩
    have st45 : Steps p.tables e below (T26.setTop (mkF m 70 #[.val (.int x0), .val (.int x1), .val (.ref b2), .unset, .unset, .unset] [(.int z42)])) (T26.setTop (mkF m 90 #[.val (.int x0), .val (.int x1), .val (.ref b2), .val (.int v44), .val (.int v44), .val (.int v43)] [(.int v44)])) := by
      subst v44 v43
      refine XS.istore X26.here hx rfl (hb hby at_70) rfl (l' := #[.val (.int x0), .val (.int x1), .val (.ref b2), .unset, .val (.int z42), .unset]) rfl ?_
      show Steps p.tables e below (T26.setTop (mkF m 72 #[.val (.int x0), .val (.int x1), .val (.ref b2), .unset, .val (.int z42), .unset] [])) _
      refine XS.iloadN X26.here hx rfl (hb hby at_72) rfl ?_
      show Steps p.tables e below (T26.setTop (mkF m 73 #[.val (.int x0), .val (.int x1), .val (.ref b2), .unset, .val (.int z42), .unset] [(.int x0)])) _
      refine XS.iconst X26.here hx rfl (hb hby at_73) ?_
      show Steps p.tables e below (T26.setTop (mkF m 74 #[.val (.int x0), .val (.int x1), .val (.ref b2), .unset, .val (.int z42), .unset] [(.int (3 : Int32)), (.int x0)])) _
      refine XS.iand X26.here hx rfl (hb hby at_74) rfl ?_
      show Steps p.tables e below (T26.setTop (mkF m 75 #[.val (.int x0), .val (.int x1), .val (.ref b2), .unset, .val (.int z42), .unset] [(.int (x0 &&& (3 : Int32)))])) _
      refine XS.iconst X26.here hx rfl (hb hby at_75) ?_
      show Steps p.tables e below (T26.setTop (mkF m 76 #[.val (.int x0), .val (.int x1), .val (.ref b2), .unset, .val (.int z42), .unset] [(.int (1 : Int32)), (.int (x0 &&& (3 : Int32)))])) _
      refine XS.isub X26.here hx rfl (hb hby at_76) rfl ?_
      show Steps p.tables e below (T26.setTop (mkF m 77 #[.val (.int x0), .val (.int x1), .val (.ref b2), .unset, .val (.int z42), .unset] [(.int ((x0 &&& (3 : Int32)) - (1 : Int32)))])) _
      refine XS.istore X26.here hx rfl (hb hby at_77) rfl (l' := #[.val (.int x0), .val (.int x1), .val (.ref b2), .unset, .val (.int z42), .val (.int ((x0 &&& (3 : Int32)) - (1 : Int32)))]) rfl ?_
      show Steps p.tables e below (T26.setTop (mkF m 79 #[.val (.int x0), .val (.int x1), .val (.ref b2), .unset, .val (.int z42), .val (.int ((x0 &&& (3 : Int32)) - (1 : Int32)))] [])) _
      refine XS.iload X26.here hx rfl (hb hby at_79) rfl ?_
      show Steps p.tables e below (T26.setTop (mkF m 81 #[.val (.int x0), .val (.int x1), .val (.ref b2), .unset, .val (.int z42), .val (.int ((x0 &&& (3 : Int32)) - (1 : Int32)))] [(.int z42)])) _
      refine XS.iload X26.here hx rfl (hb hby at_81) rfl ?_
      show Steps p.tables e below (T26.setTop (mkF m 83 #[.val (.int x0), .val (.int x1), .val (.ref b2), .unset, .val (.int z42), .val (.int ((x0 &&& (3 : Int32)) - (1 : Int32)))] [(.int ((x0 &&& (3 : Int32)) - (1 : Int32))), (.int z42)])) _
      refine XS.iadd X26.here hx rfl (hb hby at_83) rfl ?_
      show Steps p.tables e below (T26.setTop (mkF m 84 #[.val (.int x0), .val (.int x1), .val (.ref b2), .unset, .val (.int z42), .val (.int ((x0 &&& (3 : Int32)) - (1 : Int32)))] [(.int (z42 + ((x0 &&& (3 : Int32)) - (1 : Int32))))])) _
      refine XS.i2c X26.here hx rfl (hb hby at_84) rfl ?_
      show Steps p.tables e below (T26.setTop (mkF m 85 #[.val (.int x0), .val (.int x1), .val (.ref b2), .unset, .val (.int z42), .val (.int ((x0 &&& (3 : Int32)) - (1 : Int32)))] [(.int ((z42 + ((x0 &&& (3 : Int32)) - (1 : Int32))).toUInt32.toUInt16.toUInt32.toInt32))])) _
      refine XS.istoreN X26.here hx rfl (hb hby at_85) rfl (l' := #[.val (.int x0), .val (.int x1), .val (.ref b2), .val (.int ((z42 + ((x0 &&& (3 : Int32)) - (1 : Int32))).toUInt32.toUInt16.toUInt32.toInt32)), .val (.int z42), .val (.int ((x0 &&& (3 : Int32)) - (1 : Int32)))]) rfl ?_
      show Steps p.tables e below (T26.setTop (mkF m 86 #[.val (.int x0), .val (.int x1), .val (.ref b2), .val (.int ((z42 + ((x0 &&& (3 : Int32)) - (1 : Int32))).toUInt32.toUInt16.toUInt32.toInt32)), .val (.int z42), .val (.int ((x0 &&& (3 : Int32)) - (1 : Int32)))] [])) _
      refine XS.iloadN X26.here hx rfl (hb hby at_86) rfl ?_
      show Steps p.tables e below (T26.setTop (mkF m 87 #[.val (.int x0), .val (.int x1), .val (.ref b2), .val (.int ((z42 + ((x0 &&& (3 : Int32)) - (1 : Int32))).toUInt32.toUInt16.toUInt32.toInt32)), .val (.int z42), .val (.int ((x0 &&& (3 : Int32)) - (1 : Int32)))] [(.int ((z42 + ((x0 &&& (3 : Int32)) - (1 : Int32))).toUInt32.toUInt16.toUInt32.toInt32))])) _
      refine XS.istore X26.here hx rfl (hb hby at_87) rfl (l' := #[.val (.int x0), .val (.int x1), .val (.ref b2), .val (.int ((z42 + ((x0 &&& (3 : Int32)) - (1 : Int32))).toUInt32.toUInt16.toUInt32.toInt32)), .val (.int ((z42 + ((x0 &&& (3 : Int32)) - (1 : Int32))).toUInt32.toUInt16.toUInt32.toInt32)), .val (.int ((x0 &&& (3 : Int32)) - (1 : Int32)))]) rfl ?_
      show Steps p.tables e below (T26.setTop (mkF m 89 #[.val (.int x0), .val (.int x1), .val (.ref b2), .val (.int ((z42 + ((x0 &&& (3 : Int32)) - (1 : Int32))).toUInt32.toUInt16.toUInt32.toInt32)), .val (.int ((z42 + ((x0 &&& (3 : Int32)) - (1 : Int32))).toUInt32.toUInt16.toUInt32.toInt32)), .val (.int ((x0 &&& (3 : Int32)) - (1 : Int32)))] [])) _
      refine XS.iloadN X26.here hx rfl (hb hby at_89) rfl ?_
      show Steps p.tables e below (T26.setTop (mkF m 90 #[.val (.int x0), .val (.int x1), .val (.ref b2), .val (.int ((z42 + ((x0 &&& (3 : Int32)) - (1 : Int32))).toUInt32.toUInt16.toUInt32.toInt32)), .val (.int ((z42 + ((x0 &&& (3 : Int32)) - (1 : Int32))).toUInt32.toUInt16.toUInt32.toInt32)), .val (.int ((x0 &&& (3 : Int32)) - (1 : Int32)))] [(.int ((z42 + ((x0 &&& (3 : Int32)) - (1 : Int32))).toUInt32.toUInt16.toUInt32.toInt32))])) _
      exact Steps.refl _
    have pre45 := pre42.trans st45
    obtain ⟨_, _, ⟨T46, L46, k46, n46⟩, -, X46, ⟨Lc46, hQ46, l46, y46, z46⟩, st46⟩ := Jvm.LawKit.callS X26 hx (y := (⟨"com/example/nestmine/nestmine/OneLine", "mustEscape", "(C)Z"⟩ : MethodName)) hown (mvT hZ (hw _ (List.mem_of_getElem? (i := 1) rfl))) (mvT hZ (hw _ (List.mem_of_getElem? (i := 2) rfl))) (mvT hZ (hw _ (List.mem_of_getElem? (i := 3) rfl))) (mvT hZ (hw _ (List.mem_of_getElem? (i := 4) rfl))) (by decide) (backOf (W := 0) (rm3 l Z a0 hw [] v44 h26 n0 Z26) hZ (hw _ (List.mem_of_getElem? (i := 4) rfl)) (hw _ (List.mem_of_getElem? (i := 3) rfl)) (by decide) (by decide)) (g := (mkF m 90 #[.val (.int x0), .val (.int x1), .val (.ref b2), .val (.int v44), .val (.int v44), .val (.int v43)] [(.int v44)])) rfl (by rw [hml]; rfl) (argsL := [(.int v44)]) (rest := []) (lenOf pd0_0 rfl) rfl (by show 2 * 0 + _ ≤ _; exact Nat.le_of_eq rfl) (hb hby at_90) (fun _ _ => ⟨rfl, e26, (by decide : 1 + 0 ≤ _), (by decide : 8 + 0 ≤ _)⟩)
    dsimp only [Pt.U, Pt.locs, Pt.cells, Pt.slots] at X46 l46 y46 z46 st46 hQ46
    subst l46 y46 z46
    obtain ⟨rfl, Nq46, e46⟩ := hQ46
    have N46 := Fr.app N26 Nq46
    have pre46 : Steps p.tables e below (s₁.setTop (entryFrame m #[(.int x0), (.int x1)] maxLocals)) (T46.setTop (mkF m 93 #[.val (.int x0), .val (.int x1), .val (.ref b2), .val (.int v44), .val (.int v44), .val (.int v43)] [(.int (own_F3 v44))])) := pre45.trans (st46 _ (Steps.refl _))
    obtain ⟨v47, hv47⟩ : ∃ z : Int32, z = (own_F3 v44) := ⟨_, rfl⟩
    have st48 : Steps p.tables e below (T46.setTop (mkF m 93 #[.val (.int x0), .val (.int x1), .val (.ref b2), .val (.int v44), .val (.int v44), .val (.int v43)] [(.int (own_F3 v44))])) (T46.setTop (mkF m 95 #[.val (.int x0), .val (.int x1), .val (.ref b2), .val (.int v44), .val (.int v44), .val (.int v43)] [(.int v44), (.int v47)])) := by
      subst v47
      refine XS.iload X46.here hx rfl (hb hby at_93) rfl ?_
      show Steps p.tables e below (T46.setTop (mkF m 95 #[.val (.int x0), .val (.int x1), .val (.ref b2), .val (.int v44), .val (.int v44), .val (.int v43)] [(.int v44), (.int (own_F3 v44))])) _
      exact Steps.refl _
    have pre48 := pre46.trans st48
    obtain ⟨_, _, ⟨T49, L49, k49, n49⟩, -, X49, ⟨Lc49, hQ49, l49, y49, z49⟩, st49⟩ := Jvm.LawKit.callS X46 hx (y := (⟨"com/example/nestmine/nestmine/OneLineMustEscapePinLaw", "expected", "(I)Z"⟩ : MethodName)) hown (mvT hZ (hw _ (List.mem_of_getElem? (i := 12) rfl))) (mvT hZ (hw _ (List.mem_of_getElem? (i := 13) rfl))) (mvT hZ (hw _ (List.mem_of_getElem? (i := 14) rfl))) (mvT hZ (hw _ (List.mem_of_getElem? (i := 15) rfl))) (by decide) (backOf (W := 1) (rm4 l Z a0 hw [] v44 h26 n0 Z26) hZ (hw _ (List.mem_of_getElem? (i := 15) rfl)) (hw _ (List.mem_of_getElem? (i := 14) rfl)) (by decide) (by decide)) (g := (mkF m 95 #[.val (.int x0), .val (.int x1), .val (.ref b2), .val (.int v44), .val (.int v44), .val (.int v43)] [(.int v44), (.int v47)])) rfl (by rw [hml]; rfl) (argsL := [(.int v44)]) (rest := [(.int v47)]) (lenOf pd0_1 rfl) rfl (by show 2 * 0 + _ ≤ _; exact Nat.le_of_eq rfl) (hb hby at_95) (fun _ _ => ⟨rfl, e46, (by decide : 1 + 0 ≤ _), (by decide : 8 + 0 ≤ _)⟩)
    dsimp only [Pt.U, Pt.locs, Pt.cells, Pt.slots] at X49 l49 y49 z49 st49 hQ49
    subst l49 y49 z49
    obtain ⟨rfl, Nq49, e49⟩ := hQ49
    have N49 := Fr.app N46 Nq49
    have pre49 : Steps p.tables e below (s₁.setTop (entryFrame m #[(.int x0), (.int x1)] maxLocals)) (T49.setTop (mkF m 98 #[.val (.int x0), .val (.int x1), .val (.ref b2), .val (.int v44), .val (.int v44), .val (.int v43)] [(.int (own_F4 v44)), (.int v47)])) := pre48.trans (st49 _ (Steps.refl _))
    have hc98 : v47 = (own_F4 v44) := by
      rw [hv47]
      have hr := own_chr (z42 + v43)
      rw [← hv44] at hr
      exact own_eq _ hr.1 hr.2
    have st50 : Steps p.tables e below (T49.setTop (mkF m 98 #[.val (.int x0), .val (.int x1), .val (.ref b2), .val (.int v44), .val (.int v44), .val (.int v43)] [(.int (own_F4 v44)), (.int v47)])) (T49.setTop (mkF m 101 #[.val (.int x0), .val (.int x1), .val (.ref b2), .val (.int v44), .val (.int v44), .val (.int v43)] [])) := by
      refine XS.icmpNo X49.here hx rfl (hb hby at_98) rfl (teq hc98).2 ?_
      exact Steps.refl _
    have pre50 := pre49.trans st50
    have st51 : Steps p.tables e below (T49.setTop (mkF m 101 #[.val (.int x0), .val (.int x1), .val (.ref b2), .val (.int v44), .val (.int v44), .val (.int v43)] [])) (T49.setTop (mkF m 106 #[.val (.int x0), .val (.int x1), .val (.ref b2), .val (.int v44), .val (.int v44), .val (.int v43)] [(.int (1 : Int32))])) := by
      refine XS.iconst X49.here hx rfl (hb hby at_101) ?_
      show Steps p.tables e below (T49.setTop (mkF m 102 #[.val (.int x0), .val (.int x1), .val (.ref b2), .val (.int v44), .val (.int v44), .val (.int v43)] [(.int (1 : Int32))])) _
      refine XS.goto X49.here hx rfl (pc0 := 102) (pc' := 106) rfl (hb hby at_102) (by decide) (by decide) ?_
      show Steps p.tables e below (T49.setTop (mkF m 106 #[.val (.int x0), .val (.int x1), .val (.ref b2), .val (.int v44), .val (.int v44), .val (.int v43)] [(.int (1 : Int32))])) _
      exact Steps.refl _
    have pre51 := pre50.trans st51
    obtain ⟨fs, hr, hrun, hended, hW, hsame⟩ := X49.leave (v := some (.int (1 : Int32))) (fun h => by rw [Bd.returns] at h; cases h)
    refine ⟨_, _, pre51.trans ?_, hrun, hended, _, _, rfl, ?_, ⟨_, rfl⟩, hW, hsame.mono (by decide) (by decide)⟩
    · show Steps p.tables e below (T49.setTop (mkF m 106 #[.val (.int x0), .val (.int x1), .val (.ref b2), .val (.int v44), .val (.int v44), .val (.int v43)] [(.int (1 : Int32))])) _
      exact retN X49 hx (t := .boolean) Bd.returns (by simp) (hb hby at_106) hr
    · show Q0 Z x0 x1 h0 n0 _ T49.heap _
      rw [e49]
      exact ⟨rfl, N49⟩
set_option maxRecDepth 65536 in
set_option maxHeartbeats 40000000 in
theorem comes_1 {Post : Tables → Env → Array Value → State → Outcome → State → Prop} (hpost : ∀ tb e args s v u, (limb_1_1.after args s (.returned v) u = true ∧ limb_1_2.after args s (.returned v) u = true ∧ True) → FrameEnd s (.returned v) u (Jvm.fieldLocs frame_1_writes args s ++ Jvm.arrayLocs frame_1_arrays args s ++ Jvm.staticLocs frame_1_statics s) 16 128 → Post tb e args s (.returned v) u) :
    ArmFor flags0 classFile x code maxLocals ret World_1 tables_1 room_1 Calls_1 rest_1 Pre_1 Post := by
  intro l hfl _ _ p e ha hc hk s m args below hf hA hF happ hP
  obtain ⟨hcalls, hrest, hpre⟩ := hP
  obtain ⟨-, -, -, hnamed, -, -, -, hat⟩ := (Spec.applies_iff hf).mp happ
  obtain ⟨hg, hn⟩ := and_e (Cond.before_iff.mp (show (Jvm.Cond.and given_1 narrow_1).before args s = true from hpre))
  obtain ⟨g1, g2⟩ := and_e hg
  obtain ⟨g3, g4⟩ := and_e g2
  obtain ⟨w0, w1, rfl⟩ : ∃ w0 w1 : Value, args = #[w0, w1] := by
    have hs : args.size = 2 := by simpa [Cond.value, given_1] using g1
    obtain ⟨L⟩ := args
    match L, hs with
    | [w0, w1], _ => exact ⟨w0, w1, rfl⟩
  have hw := fun d (hd : d ∈ tables_1) => atoms_spec (ws := Jvm.Cond.code x code maxLocals ret :: tables_1) hat d (List.mem_cons_of_mem _ hd)
  obtain ⟨i0, ei0⟩ := is_v g3
  obtain rfl : w0 = (.int i0) := Option.some.inj ei0
  obtain ⟨i1, ei1⟩ := is_v g4
  obtain rfl : w1 = (.int i1) := Option.some.inj ei1
  obtain ⟨n, o, h1, h2, h3, _, L, rfl, ⟨rfl, N⟩, hq⟩ := rm0 l s _ hw tables_1 i0 i1 s.heap s.heap.size (Nat.le_refl _) p e ha hc hk s m _ below hf ((Spec.applies_iff_loose hf).mp happ).1 ⟨rfl, State.Warmed39.refl s, rfl⟩ trivial
  refine ⟨n, _, h1, h2, h3, hpost _ _ _ _ _ _ ⟨Cond.after_iff.mpr rfl, Cond.after_iff.mpr (eq_i res_at (Term.int_eval (1)) rfl), trivial⟩ ⟨hq.1, hq.2.1, (hq.2.2.sift fun y hy => Or.inr (N y hy)).mono (by decide) (by decide)⟩⟩
theorem main_1_1 : Claimed_1_1 := comes_1 fun _ _ _ _ _ _ h hF => ⟨h.1, hF⟩
theorem main_1_2 : Claimed_1_2 := comes_1 fun _ _ _ _ _ _ h hF => ⟨h.2.1, hF⟩
end Jvm.Pilot.@@N@@
namespace Jvm.Pilot.@@N@@
open Jvm Jvm.ClassFile Sem Op Lib Jvm.Free Jvm.Stand Jvm.Pilot.@@N@@.Jvm.D
/-! MADE BY PROGRAM (witnessworld.py) out of the Statement's table words and the real class files: 12 classes; the members and pool entries that the words name. The judged class is class 1, her method 2. -/
namespace start1
open Jvm.ClassFile
def u (s : String) : CpInfo := .utf8 (stringToUtf16 s)
/-- a pool by its gaps: so many unusable entries, then the entry; so many at the end -/
def gap : Nat → List CpInfo → List CpInfo
  | 0, r => r
  | n + 1, r => .unusable :: gap n r
def poolList (es : List (Nat × CpInfo)) (last : Nat) : List CpInfo := es.foldr (fun e r => gap e.1 (e.2 :: r)) (gap last [])
def pool (es : List (Nat × CpInfo)) (last : Nat) : Array CpInfo := ⟨poolList es last⟩
def fileOf (pool : Array CpInfo) (this : Nat) (attrs : Array Attribute := #[]) (ms : Array MethodInfo := #[]) (fl : Nat := 33) (sup : Nat := 0) (ifs : Array Nat := #[]) (fds : Array FieldInfo := #[]) : ClassFile where
  minorVersion := 0
  majorVersion := 65
  constantPool := pool
  accessFlags := fl
  thisClass := this
  superClass := sup
  interfaces := ifs
  fields := fds
  methods := ms
  attributes := attrs
def plain (name : String) (sup : Option ClassId) : Class where
  name := name
  kind := .ordinary
  loader := none
  accessFlags := 33
  super := sup
  interfaces := #[]
  cf := none
  fields := #[]
  methods := #[]
  instanceTypes := #[]
  staticTypes := #[]
  resolved := #[]
  callSites := []
  init := .initialized
  statics := none
  mirror := none

def pool0 : Array CpInfo := pool [(5, u "<init>"), (0, u "()V"), (1, .class_ 10), (1, u "java/lang/Object")] 113

def k0m0 : Method := { name := "<init>", desc := "()V", sig := { parameters := [], returnType := none }, accessFlags := 1, code := none }
/-- java/lang/Object -/
def k0 : Class := { plain "java/lang/Object" none with
  accessFlags := 33
  interfaces := #[]
  cf := some (fileOf pool0 8 #[] #[{ accessFlags := 1, nameIndex := 5, descriptorIndex := 6, attributes := #[] }] 33 0 #[] #[])
  fields := #[]
  methods := #[k0m0]
  instanceTypes := #[]
  staticTypes := #[]
  resolved := Array.replicate 124 none
  statics := none }

def pool1 : Array CpInfo := pool [(2, .class_ 4), (1, u "java/lang/Object"), (0, u "<init>"), (0, u "()V"), (0, .methodref 8 9), (0, .class_ 10), (0, .nameAndType 11 12), (0, u "com/example/nestmine/nestmine/OneLine"), (0, u "mustEscape"), (0, u "(C)Z"), (0, .methodref 14 15), (0, .class_ 16), (0, .nameAndType 17 18), (0, u "com/example/nestmine/nestmine/OneLineMustEscapePinLaw"), (0, u "expected"), (0, u "(I)Z"), (3, u "law"), (0, u "(II)Z")] 4

def k1m0 : Method := { name := "<init>", desc := "()V", sig := { parameters := [], returnType := none }, accessFlags := 2, code := none }
def k1c1 : Code := { maxStack := 2, maxLocals := 1, code := method_2_code, exceptionTable := #[], attributes := #[] }
def k1m1 : Method := { name := "expected", desc := "(I)Z", sig := { parameters := [.int], returnType := some .boolean }, accessFlags := 10, code := some k1c1 }
def k1c2 : Code := { maxStack := 4, maxLocals := 6, code := code, exceptionTable := #[], attributes := #[] }
def k1m2 : Method := { name := "law", desc := "(II)Z", sig := { parameters := [.int, .int], returnType := some .boolean }, accessFlags := 9, code := some k1c2 }
/-- com/example/nestmine/nestmine/OneLineMustEscapePinLaw -/
def k1 : Class := { plain "com/example/nestmine/nestmine/OneLineMustEscapePinLaw" (some 0) with
  accessFlags := 49
  interfaces := #[]
  cf := some (fileOf pool1 14 #[] #[{ accessFlags := 2, nameIndex := 5, descriptorIndex := 6, attributes := #[] }, { accessFlags := 10, nameIndex := 17, descriptorIndex := 18, attributes := #[] }, { accessFlags := 9, nameIndex := 22, descriptorIndex := 23, attributes := #[] }] 49 2 #[] #[])
  fields := #[]
  methods := #[k1m0, k1m1, k1m2]
  instanceTypes := #[]
  staticTypes := #[]
  resolved := Array.replicate 28 none
  statics := none }

def pool2 : Array CpInfo := pool [(2, .class_ 4), (1, u "java/lang/Object"), (0, u "<init>"), (0, u "()V"), (0, .methodref 8 9), (0, .class_ 10), (0, .nameAndType 11 12), (0, u "java/lang/Character"), (0, u "isISOControl"), (0, u "(C)Z"), (0, .class_ 14), (0, u "com/example/nestmine/nestmine/OneLine"), (39, u "mustEscape"), (11, u "LINE_SEPARATOR"), (0, u "C"), (2, u "PARAGRAPH_SEPARATOR")] 8

def k2m0 : Method := { name := "<init>", desc := "()V", sig := { parameters := [], returnType := none }, accessFlags := 2, code := none }
def k2c1 : Code := { maxStack := 2, maxLocals := 1, code := prog_60_method_2_code, exceptionTable := #[], attributes := #[] }
def k2m1 : Method := { name := "mustEscape", desc := "(C)Z", sig := { parameters := [.char], returnType := some .boolean }, accessFlags := 8, code := some k2c1 }
/-- com/example/nestmine/nestmine/OneLine -/
def k2 : Class := { plain "com/example/nestmine/nestmine/OneLine" (some 0) with
  accessFlags := 49
  interfaces := #[]
  cf := some (fileOf pool2 13 #[] #[{ accessFlags := 2, nameIndex := 5, descriptorIndex := 6, attributes := #[] }, { accessFlags := 8, nameIndex := 54, descriptorIndex := 12, attributes := #[] }] 49 2 #[] #[{ accessFlags := 26, nameIndex := 66, descriptorIndex := 67, attributes := #[] }, { accessFlags := 26, nameIndex := 70, descriptorIndex := 67, attributes := #[] }])
  fields := #[{ name := "LINE_SEPARATOR", type := .char, accessFlags := 26, slot := 0, constantValue := 0 }, { name := "PARAGRAPH_SEPARATOR", type := .char, accessFlags := 26, slot := 1, constantValue := 0 }]
  methods := #[k2m0, k2m1]
  instanceTypes := #[]
  staticTypes := #[.char, .char]
  resolved := Array.replicate 79 none
  statics := none }

def pool3 : Array CpInfo := pool [(1, .class_ 2), (0, u "java/io/Serializable"), (0, .class_ 4), (0, u "java/lang/Object")] 2

/-- java/io/Serializable -/
def k3 : Class := { plain "java/io/Serializable" (some 0) with
  accessFlags := 1537
  interfaces := #[]
  cf := some (fileOf pool3 1 #[] #[] 1537 3 #[] #[])
  fields := #[]
  methods := #[]
  instanceTypes := #[]
  staticTypes := #[]
  resolved := Array.replicate 7 none
  statics := none }

def pool4 : Array CpInfo := pool [(1, .class_ 2), (0, u "java/lang/Comparable"), (0, .class_ 4), (0, u "java/lang/Object")] 7

/-- java/lang/Comparable -/
def k4 : Class := { plain "java/lang/Comparable" (some 0) with
  accessFlags := 1537
  interfaces := #[]
  cf := some (fileOf pool4 1 #[] #[] 1537 3 #[] #[])
  fields := #[]
  methods := #[]
  instanceTypes := #[]
  staticTypes := #[]
  resolved := Array.replicate 12 none
  statics := none }

def pool5 : Array CpInfo := pool [(1, .class_ 2), (0, u "java/lang/constant/Constable"), (0, .class_ 4), (0, u "java/lang/Object")] 6

/-- java/lang/constant/Constable -/
def k5 : Class := { plain "java/lang/constant/Constable" (some 0) with
  accessFlags := 1537
  interfaces := #[]
  cf := some (fileOf pool5 1 #[] #[] 1537 3 #[] #[])
  fields := #[]
  methods := #[]
  instanceTypes := #[]
  staticTypes := #[]
  resolved := Array.replicate 11 none
  statics := none }

def pool6 : Array CpInfo := pool [(1, .class_ 2), (0, u "java/lang/Character"), (18, u "value"), (0, u "C"), (19, .class_ 44), (1, u "java/lang/Object"), (3, .class_ 50), (1, u "java/lang/Character$CharacterCache"), (30, u "(C)Z"), (32, u "(I)Z"), (151, .methodref 1 267), (0, .nameAndType 268 114), (0, u "isISOControl"), (15, u "$assertionsDisabled"), (0, u "Z"), (21, .class_ 309), (1, u "java/lang/Character$UnicodeBlock"), (73, u "TYPE"), (0, u "Ljava/lang/Class;"), (0, .class_ 386), (0, u "java/io/Serializable"), (0, .class_ 388), (0, u "java/lang/Comparable"), (0, .class_ 390), (0, u "java/lang/constant/Constable"), (0, u "MIN_RADIX"), (0, u "I"), (2, u "MAX_RADIX"), (1, u "MIN_VALUE"), (1, u "MAX_VALUE"), (3, u "UNASSIGNED"), (0, u "B"), (0, u "UPPERCASE_LETTER"), (1, u "LOWERCASE_LETTER"), (0, u "TITLECASE_LETTER"), (1, u "MODIFIER_LETTER"), (1, u "OTHER_LETTER"), (1, u "NON_SPACING_MARK"), (1, u "ENCLOSING_MARK"), (1, u "COMBINING_SPACING_MARK"), (1, u "DECIMAL_DIGIT_NUMBER"), (1, u "LETTER_NUMBER"), (1, u "OTHER_NUMBER"), (1, u "SPACE_SEPARATOR"), (1, u "LINE_SEPARATOR"), (1, u "PARAGRAPH_SEPARATOR"), (1, u "CONTROL"), (1, u "FORMAT"), (1, u "PRIVATE_USE"), (1, u "SURROGATE"), (1, u "DASH_PUNCTUATION"), (1, u "START_PUNCTUATION"), (1, u "END_PUNCTUATION"), (1, u "CONNECTOR_PUNCTUATION"), (1, u "OTHER_PUNCTUATION"), (1, u "MATH_SYMBOL"), (1, u "CURRENCY_SYMBOL"), (1, u "MODIFIER_SYMBOL"), (1, u "OTHER_SYMBOL"), (1, u "INITIAL_QUOTE_PUNCTUATION"), (1, u "FINAL_QUOTE_PUNCTUATION"), (1, u "ERROR"), (1, u "DIRECTIONALITY_UNDEFINED"), (0, u "DIRECTIONALITY_LEFT_TO_RIGHT"), (0, u "DIRECTIONALITY_RIGHT_TO_LEFT"), (0, u "DIRECTIONALITY_RIGHT_TO_LEFT_ARABIC"), (0, u "DIRECTIONALITY_EUROPEAN_NUMBER"), (0, u "DIRECTIONALITY_EUROPEAN_NUMBER_SEPARATOR"), (0, u "DIRECTIONALITY_EUROPEAN_NUMBER_TERMINATOR"), (0, u "DIRECTIONALITY_ARABIC_NUMBER"), (0, u "DIRECTIONALITY_COMMON_NUMBER_SEPARATOR"), (0, u "DIRECTIONALITY_NONSPACING_MARK"), (0, u "DIRECTIONALITY_BOUNDARY_NEUTRAL"), (0, u "DIRECTIONALITY_PARAGRAPH_SEPARATOR"), (0, u "DIRECTIONALITY_SEGMENT_SEPARATOR"), (0, u "DIRECTIONALITY_WHITESPACE"), (0, u "DIRECTIONALITY_OTHER_NEUTRALS"), (0, u "DIRECTIONALITY_LEFT_TO_RIGHT_EMBEDDING"), (0, u "DIRECTIONALITY_LEFT_TO_RIGHT_OVERRIDE"), (0, u "DIRECTIONALITY_RIGHT_TO_LEFT_EMBEDDING"), (0, u "DIRECTIONALITY_RIGHT_TO_LEFT_OVERRIDE"), (1, u "DIRECTIONALITY_POP_DIRECTIONAL_FORMAT"), (0, u "DIRECTIONALITY_LEFT_TO_RIGHT_ISOLATE"), (0, u "DIRECTIONALITY_RIGHT_TO_LEFT_ISOLATE"), (0, u "DIRECTIONALITY_FIRST_STRONG_ISOLATE"), (0, u "DIRECTIONALITY_POP_DIRECTIONAL_ISOLATE"), (0, u "MIN_HIGH_SURROGATE"), (0, u "MAX_HIGH_SURROGATE"), (1, u "MIN_LOW_SURROGATE"), (0, u "MAX_LOW_SURROGATE"), (1, u "MIN_SURROGATE"), (0, u "MAX_SURROGATE"), (0, u "MIN_SUPPLEMENTARY_CODE_POINT"), (0, u "MIN_CODE_POINT"), (0, u "MAX_CODE_POINT"), (1, u "serialVersionUID"), (0, u "J"), (2, u "SIZE"), (0, u "BYTES"), (88, .class_ 596), (0, u "java/lang/Character$UnicodeScript"), (0, .class_ 598), (0, u "java/lang/Character$Subset")] 5

def k6c0 : Code := { maxStack := 1, maxLocals := 1, code := jdk_89_method_88_code, exceptionTable := #[], attributes := #[] }
def k6m0 : Method := { name := "isISOControl", desc := "(C)Z", sig := { parameters := [.char], returnType := some .boolean }, accessFlags := 9, code := some k6c0 }
def k6c1 : Code := { maxStack := 2, maxLocals := 1, code := jdk_89_method_89_code, exceptionTable := #[], attributes := #[] }
def k6m1 : Method := { name := "isISOControl", desc := "(I)Z", sig := { parameters := [.int], returnType := some .boolean }, accessFlags := 9, code := some k6c1 }
/-- java/lang/Character -/
def k6 : Class := { plain "java/lang/Character" (some 0) with
  accessFlags := 49
  interfaces := #[3, 4, 5]
  cf := some (fileOf pool6 1 #[.nestMembers #[48, 595, 307, 597]] #[{ accessFlags := 9, nameIndex := 268, descriptorIndex := 81, attributes := #[] }, { accessFlags := 9, nameIndex := 268, descriptorIndex := 114, attributes := #[] }] 49 42 #[385, 387, 389] #[{ accessFlags := 25, nameIndex := 391, descriptorIndex := 392, attributes := #[] }, { accessFlags := 25, nameIndex := 395, descriptorIndex := 392, attributes := #[] }, { accessFlags := 25, nameIndex := 397, descriptorIndex := 22, attributes := #[] }, { accessFlags := 25, nameIndex := 399, descriptorIndex := 22, attributes := #[] }, { accessFlags := 25, nameIndex := 383, descriptorIndex := 384, attributes := #[] }, { accessFlags := 25, nameIndex := 403, descriptorIndex := 404, attributes := #[] }, { accessFlags := 25, nameIndex := 405, descriptorIndex := 404, attributes := #[] }, { accessFlags := 25, nameIndex := 407, descriptorIndex := 404, attributes := #[] }, { accessFlags := 25, nameIndex := 408, descriptorIndex := 404, attributes := #[] }, { accessFlags := 25, nameIndex := 410, descriptorIndex := 404, attributes := #[] }, { accessFlags := 25, nameIndex := 412, descriptorIndex := 404, attributes := #[] }, { accessFlags := 25, nameIndex := 414, descriptorIndex := 404, attributes := #[] }, { accessFlags := 25, nameIndex := 416, descriptorIndex := 404, attributes := #[] }, { accessFlags := 25, nameIndex := 418, descriptorIndex := 404, attributes := #[] }, { accessFlags := 25, nameIndex := 420, descriptorIndex := 404, attributes := #[] }, { accessFlags := 25, nameIndex := 422, descriptorIndex := 404, attributes := #[] }, { accessFlags := 25, nameIndex := 424, descriptorIndex := 404, attributes := #[] }, { accessFlags := 25, nameIndex := 426, descriptorIndex := 404, attributes := #[] }, { accessFlags := 25, nameIndex := 428, descriptorIndex := 404, attributes := #[] }, { accessFlags := 25, nameIndex := 430, descriptorIndex := 404, attributes := #[] }, { accessFlags := 25, nameIndex := 432, descriptorIndex := 404, attributes := #[] }, { accessFlags := 25, nameIndex := 434, descriptorIndex := 404, attributes := #[] }, { accessFlags := 25, nameIndex := 436, descriptorIndex := 404, attributes := #[] }, { accessFlags := 25, nameIndex := 438, descriptorIndex := 404, attributes := #[] }, { accessFlags := 25, nameIndex := 440, descriptorIndex := 404, attributes := #[] }, { accessFlags := 25, nameIndex := 442, descriptorIndex := 404, attributes := #[] }, { accessFlags := 25, nameIndex := 444, descriptorIndex := 404, attributes := #[] }, { accessFlags := 25, nameIndex := 446, descriptorIndex := 404, attributes := #[] }, { accessFlags := 25, nameIndex := 448, descriptorIndex := 404, attributes := #[] }, { accessFlags := 25, nameIndex := 450, descriptorIndex := 404, attributes := #[] }, { accessFlags := 25, nameIndex := 452, descriptorIndex := 404, attributes := #[] }, { accessFlags := 25, nameIndex := 454, descriptorIndex := 404, attributes := #[] }, { accessFlags := 25, nameIndex := 456, descriptorIndex := 404, attributes := #[] }, { accessFlags := 25, nameIndex := 458, descriptorIndex := 404, attributes := #[] }, { accessFlags := 25, nameIndex := 460, descriptorIndex := 404, attributes := #[] }, { accessFlags := 24, nameIndex := 462, descriptorIndex := 392, attributes := #[] }, { accessFlags := 25, nameIndex := 464, descriptorIndex := 404, attributes := #[] }, { accessFlags := 25, nameIndex := 465, descriptorIndex := 404, attributes := #[] }, { accessFlags := 25, nameIndex := 466, descriptorIndex := 404, attributes := #[] }, { accessFlags := 25, nameIndex := 467, descriptorIndex := 404, attributes := #[] }, { accessFlags := 25, nameIndex := 468, descriptorIndex := 404, attributes := #[] }, { accessFlags := 25, nameIndex := 469, descriptorIndex := 404, attributes := #[] }, { accessFlags := 25, nameIndex := 470, descriptorIndex := 404, attributes := #[] }, { accessFlags := 25, nameIndex := 471, descriptorIndex := 404, attributes := #[] }, { accessFlags := 25, nameIndex := 472, descriptorIndex := 404, attributes := #[] }, { accessFlags := 25, nameIndex := 473, descriptorIndex := 404, attributes := #[] }, { accessFlags := 25, nameIndex := 474, descriptorIndex := 404, attributes := #[] }, { accessFlags := 25, nameIndex := 475, descriptorIndex := 404, attributes := #[] }, { accessFlags := 25, nameIndex := 476, descriptorIndex := 404, attributes := #[] }, { accessFlags := 25, nameIndex := 477, descriptorIndex := 404, attributes := #[] }, { accessFlags := 25, nameIndex := 478, descriptorIndex := 404, attributes := #[] }, { accessFlags := 25, nameIndex := 479, descriptorIndex := 404, attributes := #[] }, { accessFlags := 25, nameIndex := 480, descriptorIndex := 404, attributes := #[] }, { accessFlags := 25, nameIndex := 481, descriptorIndex := 404, attributes := #[] }, { accessFlags := 25, nameIndex := 482, descriptorIndex := 404, attributes := #[] }, { accessFlags := 25, nameIndex := 484, descriptorIndex := 404, attributes := #[] }, { accessFlags := 25, nameIndex := 485, descriptorIndex := 404, attributes := #[] }, { accessFlags := 25, nameIndex := 486, descriptorIndex := 404, attributes := #[] }, { accessFlags := 25, nameIndex := 487, descriptorIndex := 404, attributes := #[] }, { accessFlags := 25, nameIndex := 488, descriptorIndex := 404, attributes := #[] }, { accessFlags := 25, nameIndex := 489, descriptorIndex := 22, attributes := #[] }, { accessFlags := 25, nameIndex := 490, descriptorIndex := 22, attributes := #[] }, { accessFlags := 25, nameIndex := 492, descriptorIndex := 22, attributes := #[] }, { accessFlags := 25, nameIndex := 493, descriptorIndex := 22, attributes := #[] }, { accessFlags := 25, nameIndex := 495, descriptorIndex := 22, attributes := #[] }, { accessFlags := 25, nameIndex := 496, descriptorIndex := 22, attributes := #[] }, { accessFlags := 25, nameIndex := 497, descriptorIndex := 392, attributes := #[] }, { accessFlags := 25, nameIndex := 498, descriptorIndex := 392, attributes := #[] }, { accessFlags := 25, nameIndex := 499, descriptorIndex := 392, attributes := #[] }, { accessFlags := 18, nameIndex := 21, descriptorIndex := 22, attributes := #[] }, { accessFlags := 26, nameIndex := 501, descriptorIndex := 502, attributes := #[] }, { accessFlags := 25, nameIndex := 505, descriptorIndex := 392, attributes := #[] }, { accessFlags := 25, nameIndex := 506, descriptorIndex := 392, attributes := #[] }, { accessFlags := 4120, nameIndex := 284, descriptorIndex := 285, attributes := #[] }])
  fields := #[{ name := "MIN_RADIX", type := .int, accessFlags := 25, slot := 0, constantValue := 0 }, { name := "MAX_RADIX", type := .int, accessFlags := 25, slot := 1, constantValue := 0 }, { name := "MIN_VALUE", type := .char, accessFlags := 25, slot := 2, constantValue := 0 }, { name := "MAX_VALUE", type := .char, accessFlags := 25, slot := 3, constantValue := 0 }, { name := "TYPE", type := (.object "java/lang/Class"), accessFlags := 25, slot := 4, constantValue := 0 }, { name := "UNASSIGNED", type := .byte, accessFlags := 25, slot := 5, constantValue := 0 }, { name := "UPPERCASE_LETTER", type := .byte, accessFlags := 25, slot := 6, constantValue := 0 }, { name := "LOWERCASE_LETTER", type := .byte, accessFlags := 25, slot := 7, constantValue := 0 }, { name := "TITLECASE_LETTER", type := .byte, accessFlags := 25, slot := 8, constantValue := 0 }, { name := "MODIFIER_LETTER", type := .byte, accessFlags := 25, slot := 9, constantValue := 0 }, { name := "OTHER_LETTER", type := .byte, accessFlags := 25, slot := 10, constantValue := 0 }, { name := "NON_SPACING_MARK", type := .byte, accessFlags := 25, slot := 11, constantValue := 0 }, { name := "ENCLOSING_MARK", type := .byte, accessFlags := 25, slot := 12, constantValue := 0 }, { name := "COMBINING_SPACING_MARK", type := .byte, accessFlags := 25, slot := 13, constantValue := 0 }, { name := "DECIMAL_DIGIT_NUMBER", type := .byte, accessFlags := 25, slot := 14, constantValue := 0 }, { name := "LETTER_NUMBER", type := .byte, accessFlags := 25, slot := 15, constantValue := 0 }, { name := "OTHER_NUMBER", type := .byte, accessFlags := 25, slot := 16, constantValue := 0 }, { name := "SPACE_SEPARATOR", type := .byte, accessFlags := 25, slot := 17, constantValue := 0 }, { name := "LINE_SEPARATOR", type := .byte, accessFlags := 25, slot := 18, constantValue := 0 }, { name := "PARAGRAPH_SEPARATOR", type := .byte, accessFlags := 25, slot := 19, constantValue := 0 }, { name := "CONTROL", type := .byte, accessFlags := 25, slot := 20, constantValue := 0 }, { name := "FORMAT", type := .byte, accessFlags := 25, slot := 21, constantValue := 0 }, { name := "PRIVATE_USE", type := .byte, accessFlags := 25, slot := 22, constantValue := 0 }, { name := "SURROGATE", type := .byte, accessFlags := 25, slot := 23, constantValue := 0 }, { name := "DASH_PUNCTUATION", type := .byte, accessFlags := 25, slot := 24, constantValue := 0 }, { name := "START_PUNCTUATION", type := .byte, accessFlags := 25, slot := 25, constantValue := 0 }, { name := "END_PUNCTUATION", type := .byte, accessFlags := 25, slot := 26, constantValue := 0 }, { name := "CONNECTOR_PUNCTUATION", type := .byte, accessFlags := 25, slot := 27, constantValue := 0 }, { name := "OTHER_PUNCTUATION", type := .byte, accessFlags := 25, slot := 28, constantValue := 0 }, { name := "MATH_SYMBOL", type := .byte, accessFlags := 25, slot := 29, constantValue := 0 }, { name := "CURRENCY_SYMBOL", type := .byte, accessFlags := 25, slot := 30, constantValue := 0 }, { name := "MODIFIER_SYMBOL", type := .byte, accessFlags := 25, slot := 31, constantValue := 0 }, { name := "OTHER_SYMBOL", type := .byte, accessFlags := 25, slot := 32, constantValue := 0 }, { name := "INITIAL_QUOTE_PUNCTUATION", type := .byte, accessFlags := 25, slot := 33, constantValue := 0 }, { name := "FINAL_QUOTE_PUNCTUATION", type := .byte, accessFlags := 25, slot := 34, constantValue := 0 }, { name := "ERROR", type := .int, accessFlags := 24, slot := 35, constantValue := 0 }, { name := "DIRECTIONALITY_UNDEFINED", type := .byte, accessFlags := 25, slot := 36, constantValue := 0 }, { name := "DIRECTIONALITY_LEFT_TO_RIGHT", type := .byte, accessFlags := 25, slot := 37, constantValue := 0 }, { name := "DIRECTIONALITY_RIGHT_TO_LEFT", type := .byte, accessFlags := 25, slot := 38, constantValue := 0 }, { name := "DIRECTIONALITY_RIGHT_TO_LEFT_ARABIC", type := .byte, accessFlags := 25, slot := 39, constantValue := 0 }, { name := "DIRECTIONALITY_EUROPEAN_NUMBER", type := .byte, accessFlags := 25, slot := 40, constantValue := 0 }, { name := "DIRECTIONALITY_EUROPEAN_NUMBER_SEPARATOR", type := .byte, accessFlags := 25, slot := 41, constantValue := 0 }, { name := "DIRECTIONALITY_EUROPEAN_NUMBER_TERMINATOR", type := .byte, accessFlags := 25, slot := 42, constantValue := 0 }, { name := "DIRECTIONALITY_ARABIC_NUMBER", type := .byte, accessFlags := 25, slot := 43, constantValue := 0 }, { name := "DIRECTIONALITY_COMMON_NUMBER_SEPARATOR", type := .byte, accessFlags := 25, slot := 44, constantValue := 0 }, { name := "DIRECTIONALITY_NONSPACING_MARK", type := .byte, accessFlags := 25, slot := 45, constantValue := 0 }, { name := "DIRECTIONALITY_BOUNDARY_NEUTRAL", type := .byte, accessFlags := 25, slot := 46, constantValue := 0 }, { name := "DIRECTIONALITY_PARAGRAPH_SEPARATOR", type := .byte, accessFlags := 25, slot := 47, constantValue := 0 }, { name := "DIRECTIONALITY_SEGMENT_SEPARATOR", type := .byte, accessFlags := 25, slot := 48, constantValue := 0 }, { name := "DIRECTIONALITY_WHITESPACE", type := .byte, accessFlags := 25, slot := 49, constantValue := 0 }, { name := "DIRECTIONALITY_OTHER_NEUTRALS", type := .byte, accessFlags := 25, slot := 50, constantValue := 0 }, { name := "DIRECTIONALITY_LEFT_TO_RIGHT_EMBEDDING", type := .byte, accessFlags := 25, slot := 51, constantValue := 0 }, { name := "DIRECTIONALITY_LEFT_TO_RIGHT_OVERRIDE", type := .byte, accessFlags := 25, slot := 52, constantValue := 0 }, { name := "DIRECTIONALITY_RIGHT_TO_LEFT_EMBEDDING", type := .byte, accessFlags := 25, slot := 53, constantValue := 0 }, { name := "DIRECTIONALITY_RIGHT_TO_LEFT_OVERRIDE", type := .byte, accessFlags := 25, slot := 54, constantValue := 0 }, { name := "DIRECTIONALITY_POP_DIRECTIONAL_FORMAT", type := .byte, accessFlags := 25, slot := 55, constantValue := 0 }, { name := "DIRECTIONALITY_LEFT_TO_RIGHT_ISOLATE", type := .byte, accessFlags := 25, slot := 56, constantValue := 0 }, { name := "DIRECTIONALITY_RIGHT_TO_LEFT_ISOLATE", type := .byte, accessFlags := 25, slot := 57, constantValue := 0 }, { name := "DIRECTIONALITY_FIRST_STRONG_ISOLATE", type := .byte, accessFlags := 25, slot := 58, constantValue := 0 }, { name := "DIRECTIONALITY_POP_DIRECTIONAL_ISOLATE", type := .byte, accessFlags := 25, slot := 59, constantValue := 0 }, { name := "MIN_HIGH_SURROGATE", type := .char, accessFlags := 25, slot := 60, constantValue := 0 }, { name := "MAX_HIGH_SURROGATE", type := .char, accessFlags := 25, slot := 61, constantValue := 0 }, { name := "MIN_LOW_SURROGATE", type := .char, accessFlags := 25, slot := 62, constantValue := 0 }, { name := "MAX_LOW_SURROGATE", type := .char, accessFlags := 25, slot := 63, constantValue := 0 }, { name := "MIN_SURROGATE", type := .char, accessFlags := 25, slot := 64, constantValue := 0 }, { name := "MAX_SURROGATE", type := .char, accessFlags := 25, slot := 65, constantValue := 0 }, { name := "MIN_SUPPLEMENTARY_CODE_POINT", type := .int, accessFlags := 25, slot := 66, constantValue := 0 }, { name := "MIN_CODE_POINT", type := .int, accessFlags := 25, slot := 67, constantValue := 0 }, { name := "MAX_CODE_POINT", type := .int, accessFlags := 25, slot := 68, constantValue := 0 }, { name := "value", type := .char, accessFlags := 18, slot := 0, constantValue := 0 }, { name := "serialVersionUID", type := .long, accessFlags := 26, slot := 69, constantValue := 0 }, { name := "SIZE", type := .int, accessFlags := 25, slot := 70, constantValue := 0 }, { name := "BYTES", type := .int, accessFlags := 25, slot := 71, constantValue := 0 }, { name := "$assertionsDisabled", type := .boolean, accessFlags := 4120, slot := 72, constantValue := 0 }]
  methods := #[k6m0, k6m1]
  instanceTypes := #[.char]
  staticTypes := #[.int, .int, .char, .char, (.object "java/lang/Class"), .byte, .byte, .byte, .byte, .byte, .byte, .byte, .byte, .byte, .byte, .byte, .byte, .byte, .byte, .byte, .byte, .byte, .byte, .byte, .byte, .byte, .byte, .byte, .byte, .byte, .byte, .byte, .byte, .byte, .byte, .int, .byte, .byte, .byte, .byte, .byte, .byte, .byte, .byte, .byte, .byte, .byte, .byte, .byte, .byte, .byte, .byte, .byte, .byte, .byte, .byte, .byte, .byte, .byte, .byte, .char, .char, .char, .char, .char, .char, .int, .int, .int, .long, .int, .int, .boolean]
  resolved := Array.replicate 604 none
  statics := none }

def pool7 : Array CpInfo := pool [(1, u "java/lang/Cloneable"), (0, .class_ 1), (0, u "java/lang/Object"), (0, .class_ 3)] 3

/-- java/lang/Cloneable -/
def k7 : Class := { plain "java/lang/Cloneable" (some 0) with
  accessFlags := 1537
  interfaces := #[]
  cf := some (fileOf pool7 2 #[] #[] 1537 4 #[] #[])
  fields := #[]
  methods := #[]
  instanceTypes := #[]
  staticTypes := #[]
  resolved := Array.replicate 8 none
  statics := none }

/-- the primitive byte -/
def k8 : Class := { plain "byte" none with kind := .primitive 'B', accessFlags := 0x411 }
/-- [B -/
def k9 : Class := { plain "[B" (some 0) with kind := .array 8 .byte, interfaces := #[7, 3], accessFlags := 1041 }

/-- the primitive int -/
def k10 : Class := { plain "int" none with kind := .primitive 'I', accessFlags := 0x411 }
/-- [I -/
def k11 : Class := { plain "[I" (some 0) with kind := .array 10 .int, interfaces := #[7, 3], accessFlags := 1041 }

def heap : Heap := #[]
def classes : Array Class := #[k0, k1, k2, k3, k4, k5, k6, k7, k8, k9, k10, k11]
def interned : List (Array UInt16 × Addr) := []
def slotsUsed : Nat := 0
def theMethod : MethodId := ⟨1, 2⟩
def args0 : Array Value := #[.int 5, .int 77]
def aboutOver (below : List Frame) : State where
  vm := { classes := classes, interned := interned.toArray }
  heap := heap
  slotsUsed := slotsUsed
  threads := #[{ frames := .invoking theMethod args0 :: below }]
def below0 : List Frame := [.native { method := ⟨0, 0⟩, args := #[] }]
def about1 : State := aboutOver below0
def p0 : Program := .bare "" "" ""
def e0 : Env := launch0.env 0 0 0
theorem w_frames : about1.frames = Frame.invoking theMethod args0 :: below0 := rfl
set_option maxRecDepth 65536 in
theorem w_args : argsFit about1.vm theMethod args0 = true := by decide +kernel
set_option maxRecDepth 65536 in
theorem w_heap : heapFits about1 = true := by decide +kernel
set_option maxRecDepth 65536 in
theorem w_runnable : about1.curStatus? = some .runnable := by decide +kernel
set_option maxRecDepth 65536 in
theorem w_alone : about1.alone = true := by decide +kernel
set_option maxRecDepth 65536 in
theorem w_named : about1.methodNamed? x = some theMethod := by decide +kernel
set_option maxRecDepth 65536 in
theorem w_hears : about1.hears theMethod below0 = true := by decide +kernel
set_option maxRecDepth 65536 in
theorem w_ripe : about1.ripe theMethod args0 below0 = true := by decide +kernel
theorem w_running : about1.status = .running := rfl
set_option maxRecDepth 65536 in
theorem w_room : about1.hasRoom e0.platform room_1 = true :=
  launch0.hasRoom_least _ room_1 (by decide +kernel) (by decide +kernel) (by decide +kernel) (by decide +kernel) (by decide +kernel) (by decide +kernel)
theorem allAtoms_all (ts : List Jvm.Cond) (a : Array Jvm.Value) (st : Jvm.State) : (allAtoms ts).before a st = ts.all (fun c => c.before a st) := by
  induction ts with
  | nil => rfl
  | cons c t ih =>
    show (Jvm.Cond.and c (allAtoms t)).before a st = _
    rw [Jvm.Cond.before_and, ih, List.all_cons]
def words1 : List Jvm.Cond := Jvm.Cond.code x code maxLocals ret :: tables_1
/-- a 'code' word, met by the world's own term for the bytes: nothing is compared byte by byte -/
theorem code_word {y : MethodName} {bytes : ByteArray} {mx : Nat} {rt : Option FieldType} {a : Array Value} {s : State} {m : MethodId} {meth : Method} {c : Code} (h1 : s.methodNamed? y = some m) (h2 : s.vm.method? m = some meth) (h3 : meth.code = some c) (h4 : c.code = bytes)
    (h5 : (c.maxLocals == mx && c.exceptionTable.isEmpty && decide (c.maxStack ≤ mostOperands) && decide (meth.sig.returnType = rt) && !meth.locks && decide (parseMethodDescriptor y.desc = some meth.sig)) = true) : (Jvm.Cond.code y bytes mx rt).before a s = true := by
  simp only [Bool.and_eq_true, beq_iff_eq, Bool.not_eq_true', decide_eq_true_eq] at h5
  obtain ⟨⟨⟨⟨⟨g1, g2⟩, g3⟩, g4⟩, g5⟩, g6⟩ := h5
  simp [Cond.before, Cond.holds, Cond.value, h1, h2, h3, h4, g1, g2, g3, g4, g5, g6]
def isCode : Jvm.Cond → Bool
  | .code _ _ _ _ => true
  | _ => false
theorem all_split {L : List Jvm.Cond} {P : Jvm.Cond → Bool} (h1 : L.all (fun c => isCode c || P c) = true) (h2 : ∀ c ∈ L.filter isCode, P c = true) : L.all P = true := by
  refine List.all_eq_true.mpr fun c hc => ?_
  have h := List.all_eq_true.mp h1 c hc
  rcases Bool.eq_false_or_eq_true (isCode c) with hi | hi
  · exact h2 c (List.mem_filter.mpr ⟨hc, hi⟩)
  · simpa [hi] using h
set_option maxRecDepth 65536 in
theorem w_c0 : (Jvm.Cond.code x code maxLocals ret).before args0 about1 = true := code_word (m := ⟨1, 2⟩) (meth := k1m2) (c := k1c2) (by decide +kernel) rfl rfl rfl (by decide +kernel)
set_option maxRecDepth 65536 in
theorem w_c1 : (Jvm.Cond.code ({ cls := "com/example/nestmine/nestmine/OneLine", name := "mustEscape", desc := "(C)Z" } : Jvm.MethodName) prog_60_method_2_code (1 : Nat) (Option.some Jvm.ClassFile.FieldType.boolean)).before args0 about1 = true := code_word (m := ⟨2, 1⟩) (meth := k2m1) (c := k2c1) (by decide +kernel) rfl rfl rfl (by decide +kernel)
set_option maxRecDepth 65536 in
theorem w_c2 : (Jvm.Cond.code ({ cls := "java/lang/Character", name := "isISOControl", desc := "(C)Z" } : Jvm.MethodName) jdk_89_method_88_code (1 : Nat) (Option.some Jvm.ClassFile.FieldType.boolean)).before args0 about1 = true := code_word (m := ⟨6, 0⟩) (meth := k6m0) (c := k6c0) (by decide +kernel) rfl rfl rfl (by decide +kernel)
set_option maxRecDepth 65536 in
theorem w_c3 : (Jvm.Cond.code ({ cls := "java/lang/Character", name := "isISOControl", desc := "(I)Z" } : Jvm.MethodName) jdk_89_method_89_code (1 : Nat) (Option.some Jvm.ClassFile.FieldType.boolean)).before args0 about1 = true := code_word (m := ⟨6, 1⟩) (meth := k6m1) (c := k6c1) (by decide +kernel) rfl rfl rfl (by decide +kernel)
set_option maxRecDepth 65536 in
theorem w_c4 : (Jvm.Cond.code ({ cls := "com/example/nestmine/nestmine/OneLineMustEscapePinLaw", name := "expected", desc := "(I)Z" } : Jvm.MethodName) method_2_code (1 : Nat) (Option.some Jvm.ClassFile.FieldType.boolean)).before args0 about1 = true := code_word (m := ⟨1, 1⟩) (meth := k1m1) (c := k1c1) (by decide +kernel) rfl rfl rfl (by decide +kernel)
def codes1 : List Jvm.Cond := [Jvm.Cond.code x code maxLocals ret, Jvm.Cond.code ({ cls := "com/example/nestmine/nestmine/OneLine", name := "mustEscape", desc := "(C)Z" } : Jvm.MethodName) prog_60_method_2_code (1 : Nat) (Option.some Jvm.ClassFile.FieldType.boolean), Jvm.Cond.code ({ cls := "java/lang/Character", name := "isISOControl", desc := "(C)Z" } : Jvm.MethodName) jdk_89_method_88_code (1 : Nat) (Option.some Jvm.ClassFile.FieldType.boolean), Jvm.Cond.code ({ cls := "java/lang/Character", name := "isISOControl", desc := "(I)Z" } : Jvm.MethodName) jdk_89_method_89_code (1 : Nat) (Option.some Jvm.ClassFile.FieldType.boolean), Jvm.Cond.code ({ cls := "com/example/nestmine/nestmine/OneLineMustEscapePinLaw", name := "expected", desc := "(I)Z" } : Jvm.MethodName) method_2_code (1 : Nat) (Option.some Jvm.ClassFile.FieldType.boolean)]
set_option maxRecDepth 65536 in
theorem codes_eq : words1.filter isCode = codes1 := rfl
theorem w_codes : ∀ c ∈ words1.filter isCode, c.before args0 about1 = true := by
  rw [codes_eq]
  intro c hc
  simp only [codes1, List.mem_cons, List.not_mem_nil, or_false] at hc
  rcases hc with rfl | rfl | rfl | rfl | rfl
  · exact w_c0
  · exact w_c1
  · exact w_c2
  · exact w_c3
  · exact w_c4
set_option maxRecDepth 65536 in
theorem w_t1 : words1.all (fun c => isCode c || c.before args0 about1) = true := by decide +kernel
theorem w_tables : (allAtoms (Jvm.Cond.code x code maxLocals ret :: tables_1)).before args0 about1 = true := by
  rw [allAtoms_all]
  show words1.all (fun c => c.before args0 about1) = true
  refine all_split ?_ w_codes
  rw [w_t1]
set_option maxRecDepth 65536 in
theorem w_case : (Jvm.Cond.and given_1 narrow_1).before args0 about1 = true := by decide +kernel
theorem w_applies : (headSpec (Jvm.Cond.code x code maxLocals ret :: tables_1) room_1).applies x e0.platform about1 = true :=
  (Spec.applies_iff w_frames).mpr ⟨w_running, w_runnable, w_alone, w_named, w_hears, w_ripe, w_room, w_tables⟩
theorem atStart : AtStart classFile x code maxLocals ret World_1 tables_1 room_1 Calls_1 rest_1 Pre_1 launch0 p0 e0 about1 theMethod args0 below0 :=
  ⟨lists_1, trivial, launch0.admits_env _ _ _, launch0.least_env, fairChoices_fair.cas, fairChoices_fair.clock, w_frames, w_args, w_heap, w_applies, trivial, trivial, w_case⟩
end start1
theorem witness_1 : WitnessClaimed_1 := ⟨start1.p0, start1.e0, start1.about1, start1.theMethod, start1.args0, start1.below0, start1.atStart⟩
end Jvm.Pilot.@@N@@
