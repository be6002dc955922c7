import JvmDerived
import JvmDerived.Pilot.@@N@@Statement
import JvmDerived.Pilot.@@N@@Code
set_option linter.unusedVariables false
set_option linter.unusedSimpArgs false
namespace Jvm.RoadKit
open Sem ClassFile Op Lib Jvm.Stand Jvm.Free Jvm.LawKit
section New
variable {p : Program} {l : Launch} {e : Env} {R : Room} {s : State} {m : MethodId} {args : Array Value} {below : List Frame} {meth : Method} {c : Code} {T : State} {locs : List Loc} {cells slots : Nat}
theorem retI (X : Stand p l e R s m args below meth c T locs cells slots) (hx : p.tables.exec = Jvm.exec) {pc : Nat} {Ls : Array Slot} {z : Int32} {rest : List Value} (hret : meth.sig.returnType = some .int) (hd : decode c.code pc = .ok (.ireturn, 1)) {fs : List Frame}
    (hl : ∀ (f : JFrame) (acts : List Action), f.method = m → f.locked = none → f.entered = [] → (doReturn e (T.setTop f) acts (some (.int z))).1 = T.setFrames fs) : Steps p.tables e below (T.setTop (mkF m pc Ls (.int z :: rest))) (T.setFrames fs) := by
  have hm' : T.vm.method? m = some meth := X.method'
  have hn : narrow .int (.int z) = .int z := rfl
  show Steps p.tables e below (T.setTop { method := m, pc := pc, locals := Ls, stack := _ :: rest, locked := none }) _
  jvm_step X.here [X.here.top, hx, hd, hm', hret, hn]
  first | (intro acts; rw [hl _ acts rfl rfl rfl]) | rw [hl _ _ rfl rfl rfl]
  exact Steps.refl _
end New
end Jvm.RoadKit
namespace Jvm.Pilot.@@N@@
open Jvm Jvm.ClassFile Sem Op Lib Jvm.Free Jvm.Stand Jvm.LawKit Jvm.RoadKit Bundle Jvm.Pilot.@@N@@.Jvm.D

theorem d1_0 : decode jdk_33_method_47_code 0 = .ok (.iload_n 0, 1) := by decide +kernel
theorem d1_1 : decode jdk_33_method_47_code 1 = .ok (.ifCond .gt 14, 3) := by decide +kernel
theorem d1_4 : decode jdk_33_method_47_code 4 = .ok (.iload_n 0, 1) := by decide +kernel
theorem d1_5 : decode jdk_33_method_47_code 5 = .ok (.ifCond .ne 8, 3) := by decide +kernel
theorem d1_8 : decode jdk_33_method_47_code 8 = .ok (.bipush 32, 2) := by decide +kernel
theorem d1_10 : decode jdk_33_method_47_code 10 = .ok (.goto 4, 3) := by decide +kernel
theorem d1_13 : decode jdk_33_method_47_code 13 = .ok (.iconst 0, 1) := by decide +kernel
theorem d1_14 : decode jdk_33_method_47_code 14 = .ok (.ireturn, 1) := by decide +kernel
theorem d1_15 : decode jdk_33_method_47_code 15 = .ok (.bipush 31, 2) := by decide +kernel
theorem d1_17 : decode jdk_33_method_47_code 17 = .ok (.istore_n 1, 1) := by decide +kernel
theorem d1_18 : decode jdk_33_method_47_code 18 = .ok (.iload_n 0, 1) := by decide +kernel
theorem d1_19 : decode jdk_33_method_47_code 19 = .ok (.ldc_w 264, 3) := by decide +kernel
theorem d1_22 : decode jdk_33_method_47_code 22 = .ok (.if_icmp .lt 11, 3) := by decide +kernel
theorem d1_25 : decode jdk_33_method_47_code 25 = .ok (.iinc 1 (-16), 3) := by decide +kernel
theorem d1_28 : decode jdk_33_method_47_code 28 = .ok (.iload_n 0, 1) := by decide +kernel
theorem d1_29 : decode jdk_33_method_47_code 29 = .ok (.bipush 16, 2) := by decide +kernel
theorem d1_31 : decode jdk_33_method_47_code 31 = .ok (.iushr, 1) := by decide +kernel
theorem d1_32 : decode jdk_33_method_47_code 32 = .ok (.istore_n 0, 1) := by decide +kernel
theorem d1_33 : decode jdk_33_method_47_code 33 = .ok (.iload_n 0, 1) := by decide +kernel
theorem d1_34 : decode jdk_33_method_47_code 34 = .ok (.sipush 256, 3) := by decide +kernel
theorem d1_37 : decode jdk_33_method_47_code 37 = .ok (.if_icmp .lt 11, 3) := by decide +kernel
theorem d1_40 : decode jdk_33_method_47_code 40 = .ok (.iinc 1 (-8), 3) := by decide +kernel
theorem d1_43 : decode jdk_33_method_47_code 43 = .ok (.iload_n 0, 1) := by decide +kernel
theorem d1_44 : decode jdk_33_method_47_code 44 = .ok (.bipush 8, 2) := by decide +kernel
theorem d1_46 : decode jdk_33_method_47_code 46 = .ok (.iushr, 1) := by decide +kernel
theorem d1_47 : decode jdk_33_method_47_code 47 = .ok (.istore_n 0, 1) := by decide +kernel
theorem d1_48 : decode jdk_33_method_47_code 48 = .ok (.iload_n 0, 1) := by decide +kernel
theorem d1_49 : decode jdk_33_method_47_code 49 = .ok (.bipush 16, 2) := by decide +kernel
theorem d1_51 : decode jdk_33_method_47_code 51 = .ok (.if_icmp .lt 10, 3) := by decide +kernel
theorem d1_54 : decode jdk_33_method_47_code 54 = .ok (.iinc 1 (-4), 3) := by decide +kernel
theorem d1_57 : decode jdk_33_method_47_code 57 = .ok (.iload_n 0, 1) := by decide +kernel
theorem d1_58 : decode jdk_33_method_47_code 58 = .ok (.iconst 4, 1) := by decide +kernel
theorem d1_59 : decode jdk_33_method_47_code 59 = .ok (.iushr, 1) := by decide +kernel
theorem d1_60 : decode jdk_33_method_47_code 60 = .ok (.istore_n 0, 1) := by decide +kernel
theorem d1_61 : decode jdk_33_method_47_code 61 = .ok (.iload_n 0, 1) := by decide +kernel
theorem d1_62 : decode jdk_33_method_47_code 62 = .ok (.iconst 4, 1) := by decide +kernel
theorem d1_63 : decode jdk_33_method_47_code 63 = .ok (.if_icmp .lt 10, 3) := by decide +kernel
theorem d1_66 : decode jdk_33_method_47_code 66 = .ok (.iinc 1 (-2), 3) := by decide +kernel
theorem d1_69 : decode jdk_33_method_47_code 69 = .ok (.iload_n 0, 1) := by decide +kernel
theorem d1_70 : decode jdk_33_method_47_code 70 = .ok (.iconst 2, 1) := by decide +kernel
theorem d1_71 : decode jdk_33_method_47_code 71 = .ok (.iushr, 1) := by decide +kernel
theorem d1_72 : decode jdk_33_method_47_code 72 = .ok (.istore_n 0, 1) := by decide +kernel
theorem d1_73 : decode jdk_33_method_47_code 73 = .ok (.iload_n 1, 1) := by decide +kernel
theorem d1_74 : decode jdk_33_method_47_code 74 = .ok (.iload_n 0, 1) := by decide +kernel
theorem d1_75 : decode jdk_33_method_47_code 75 = .ok (.iconst 1, 1) := by decide +kernel
theorem d1_76 : decode jdk_33_method_47_code 76 = .ok (.iushr, 1) := by decide +kernel
theorem d1_77 : decode jdk_33_method_47_code 77 = .ok (.isub, 1) := by decide +kernel
theorem d1_78 : decode jdk_33_method_47_code 78 = .ok (.ireturn, 1) := by decide +kernel
theorem pn1 : plainName "java/lang/Integer" = true := by first | (simp [plainName, overriddenIn]; done) | decide +kernel
theorem ef1 (m : MethodId) (x0 : Int32) : entryFrame m #[(.int x0)] 2 = mkF m 0 #[.val (.int x0), .unset] [] := by first | (simp [entryFrame, mkF, argsToLocals, Value.category]; done) | rfl
def own_F1 (x0 : Int32) : Int32 := (if (0 : Int32) < x0 then (let v3 := (if x0 < (65536 : Int32) then (31 : Int32) else ((31 : Int32) + (-16 : Int32))); let v4 := (if x0 < (65536 : Int32) then x0 else ((x0.toUInt32 >>> ((16 : Int32) &&& 31).toUInt32).toInt32)); let v6 := (if v4 < (256 : Int32) then v3 else (v3 + (-8 : Int32))); let v7 := (if v4 < (256 : Int32) then v4 else ((v4.toUInt32 >>> ((8 : Int32) &&& 31).toUInt32).toInt32)); let v9 := (if v7 < (16 : Int32) then v6 else (v6 + (-4 : Int32))); let v10 := (if v7 < (16 : Int32) then v7 else ((v7.toUInt32 >>> ((4 : Int32) &&& 31).toUInt32).toInt32)); let v12 := (if v10 < (4 : Int32) then v9 else (v9 + (-2 : Int32))); let v13 := (if v10 < (4 : Int32) then v10 else ((v10.toUInt32 >>> ((2 : Int32) &&& 31).toUInt32).toInt32)); let v15 := (v12 - ((v13.toUInt32 >>> ((1 : Int32) &&& 31).toUInt32).toInt32)); v15) else (let v18 := (if x0 = (0 : Int32) then (32 : Int32) else (0 : Int32)); v18))
def Q1 (Z : State) (x0 : Int32) (h0 : Heap) (n0 : Nat) (v : Option Value) (h : Heap) (L : List Loc) : Prop := v = some (.int (own_F1 x0)) ∧ Fr n0 L ∧ h = h0
set_option maxRecDepth 65536 in
set_option maxHeartbeats 40000000 in
theorem rm1 (l : Launch) (Z : State) (a0 : Array Value) (hw : ∀ d ∈ tables_1, d.before a0 Z = true) (ws : List Jvm.Cond) (x0 : Int32) (h0 : Heap) (n0 : Nat) (Z0 : n0 ≤ h0.size) :
    MetFree l (⟨"java/lang/Integer", "numberOfLeadingZeros", "(I)I"⟩ : MethodName) (head1 (Jvm.Cond.code (⟨"java/lang/Integer", "numberOfLeadingZeros", "(I)I"⟩ : MethodName) jdk_33_method_47_code 2 (some .int) :: ws) ({ frames := 0, cells := 0, slots := 0, locals := 0 } : Room)) (fun a U => a = #[(.int x0)] ∧ Z.Warmed39 U.vm ∧ U.heap = h0) (fun _ _ _ _ _ => True) (fun _ U o U' => ∃ v L, o = .returned v ∧ Q1 Z x0 h0 n0 v U'.heap L ∧ FrameEnd U o U' L ({ frames := 0, cells := 0, slots := 0, locals := 0 } : Room).cells ({ frames := 0, cells := 0, slots := 0, locals := 0 } : Room).slots) := by
  refine MetFree.of_bodySF (plainFor_of_name pn1) hisR ?_
  intro p e s m args below meth c s₁ Bd hml0 hP hK
  obtain ⟨rfl, hZ, hh⟩ := hP
  have hx := Bd.exec
  have hby := Bd.bytes
  have hml : c.maxLocals = 2 := hml0
  have hown : s.vm.findClass "java/lang/Integer" = some m.cls := findClass_of_methodNamed Bd.named
  have hnm := (name_of_methodNamed Bd.named Bd.method).1
  have X0 : Stand p l e ({ frames := 0, cells := 0, slots := 0, locals := 0 } : Room) s m #[(.int x0)] below meth c s₁ [] 0 0 := Stand.of_body Bd
  have e0 : s₁.heap = h0 := by rw [← hh, Bd.state]; rfl
  have N0 := Fr.nil n0
  have pre0 : Steps p.tables e below (s₁.setTop (entryFrame m #[(.int x0)] 2)) (s₁.setTop (mkF m 0 #[.val (.int x0), .unset] [])) := castTop (ef1 m x0) (Steps.refl _)
  have st1 : Steps p.tables e below (s₁.setTop (mkF m 0 #[.val (.int x0), .unset] [])) (s₁.setTop (mkF m 1 #[.val (.int x0), .unset] [(.int x0)])) := by
    refine XS.iloadN X0.here hx rfl (hb hby d1_0) rfl ?_
    show Steps p.tables e below (s₁.setTop (mkF m 1 #[.val (.int x0), .unset] [(.int x0)])) _
    exact Steps.refl _
  have pre1 := pre0.trans st1
  by_cases hc1 : (0 : Int32) < x0
  · have st2 : Steps p.tables e below (s₁.setTop (mkF m 1 #[.val (.int x0), .unset] [(.int x0)])) (s₁.setTop (mkF m 15 #[.val (.int x0), .unset] [])) := by
      refine XS.ifYes X0.here hx rfl (pc0 := 1) (pc' := 15) rfl (hb hby d1_1) rfl ((if0 _ _).trans (tlt hc1).2.2.1) (by decide) (by decide) ?_
      exact Steps.refl _
    have pre2 := pre1.trans st2
    obtain ⟨v3, hv3⟩ : ∃ z : Int32, z = (if x0 < (65536 : Int32) then (31 : Int32) else ((31 : Int32) + (-16 : Int32))) := ⟨_, rfl⟩
    obtain ⟨v4, hv4⟩ : ∃ z : Int32, z = (if x0 < (65536 : Int32) then x0 else ((x0.toUInt32 >>> ((16 : Int32) &&& 31).toUInt32).toInt32)) := ⟨_, rfl⟩
    have st5 : Steps p.tables e below (s₁.setTop (mkF m 15 #[.val (.int x0), .unset] [])) (s₁.setTop (mkF m 33 #[.val (.int v4), .val (.int v3)] [])) := by
      subst v4 v3
      refine XS.bipush X0.here hx rfl (hb hby d1_15) ?_
      show Steps p.tables e below (s₁.setTop (mkF m 17 #[.val (.int x0), .unset] [(.int (31 : Int32))])) _
      refine XS.istoreN X0.here hx rfl (hb hby d1_17) rfl (l' := #[.val (.int x0), .val (.int (31 : Int32))]) rfl ?_
      show Steps p.tables e below (s₁.setTop (mkF m 18 #[.val (.int x0), .val (.int (31 : Int32))] [])) _
      refine XS.iloadN X0.here hx rfl (hb hby d1_18) rfl ?_
      show Steps p.tables e below (s₁.setTop (mkF m 19 #[.val (.int x0), .val (.int (31 : Int32))] [(.int x0)])) _
      refine X0.ldcWInt hx hown (mvT hZ (hw _ (List.mem_of_getElem? (i := 17) rfl))) (g := (mkF m 19 #[.val (.int x0), .val (.int (31 : Int32))] [(.int x0)])) rfl (hb hby d1_19) _ ?_
      show Steps p.tables e below (s₁.setTop (mkF m 22 #[.val (.int x0), .val (.int (31 : Int32))] [(.int (65536 : Int32)), (.int x0)])) _
      refine Steps.trans (s₂ := s₁.setTop (mkF m 33 #[.val (.int (if x0 < (65536 : Int32) then x0 else ((x0.toUInt32 >>> ((16 : Int32) &&& 31).toUInt32).toInt32))), .val (.int (if x0 < (65536 : Int32) then (31 : Int32) else ((31 : Int32) + (-16 : Int32))))] [])) ?_ ?_
      · by_cases hc22 : x0 < (65536 : Int32)
        · refine XS.icmpYes X0.here hx rfl (pc0 := 22) (pc' := 33) rfl (hb hby d1_22) rfl (tlt hc22).1 (by decide) (by decide) ?_
          show Steps p.tables e below (s₁.setTop (mkF m 33 #[.val (.int x0), .val (.int (31 : Int32))] [])) _
          try simp only [if_pos hc22]
          exact Steps.refl _
        · refine XS.icmpNo X0.here hx rfl (hb hby d1_22) rfl (flt hc22).1 ?_
          show Steps p.tables e below (s₁.setTop (mkF m 25 #[.val (.int x0), .val (.int (31 : Int32))] [])) _
          refine XS.iinc X0.here hx rfl (hb hby d1_25) rfl (l' := #[.val (.int x0), .val (.int ((31 : Int32) + (-16 : Int32)))]) rfl ?_
          show Steps p.tables e below (s₁.setTop (mkF m 28 #[.val (.int x0), .val (.int ((31 : Int32) + (-16 : Int32)))] [])) _
          refine XS.iloadN X0.here hx rfl (hb hby d1_28) rfl ?_
          show Steps p.tables e below (s₁.setTop (mkF m 29 #[.val (.int x0), .val (.int ((31 : Int32) + (-16 : Int32)))] [(.int x0)])) _
          refine XS.bipush X0.here hx rfl (hb hby d1_29) ?_
          show Steps p.tables e below (s₁.setTop (mkF m 31 #[.val (.int x0), .val (.int ((31 : Int32) + (-16 : Int32)))] [(.int (16 : Int32)), (.int x0)])) _
          refine XS.iushr X0.here hx rfl (hb hby d1_31) rfl ?_
          show Steps p.tables e below (s₁.setTop (mkF m 32 #[.val (.int x0), .val (.int ((31 : Int32) + (-16 : Int32)))] [(.int ((x0.toUInt32 >>> ((16 : Int32) &&& 31).toUInt32).toInt32))])) _
          refine XS.istoreN X0.here hx rfl (hb hby d1_32) rfl (l' := #[.val (.int ((x0.toUInt32 >>> ((16 : Int32) &&& 31).toUInt32).toInt32)), .val (.int ((31 : Int32) + (-16 : Int32)))]) rfl ?_
          show Steps p.tables e below (s₁.setTop (mkF m 33 #[.val (.int ((x0.toUInt32 >>> ((16 : Int32) &&& 31).toUInt32).toInt32)), .val (.int ((31 : Int32) + (-16 : Int32)))] [])) _
          try simp only [if_neg hc22]
          exact Steps.refl _
      show Steps p.tables e below (s₁.setTop (mkF m 33 #[.val (.int (if x0 < (65536 : Int32) then x0 else ((x0.toUInt32 >>> ((16 : Int32) &&& 31).toUInt32).toInt32))), .val (.int (if x0 < (65536 : Int32) then (31 : Int32) else ((31 : Int32) + (-16 : Int32))))] [])) _
      exact Steps.refl _
    have pre5 := pre2.trans st5
    obtain ⟨v6, hv6⟩ : ∃ z : Int32, z = (if v4 < (256 : Int32) then v3 else (v3 + (-8 : Int32))) := ⟨_, rfl⟩
    obtain ⟨v7, hv7⟩ : ∃ z : Int32, z = (if v4 < (256 : Int32) then v4 else ((v4.toUInt32 >>> ((8 : Int32) &&& 31).toUInt32).toInt32)) := ⟨_, rfl⟩
    have st8 : Steps p.tables e below (s₁.setTop (mkF m 33 #[.val (.int v4), .val (.int v3)] [])) (s₁.setTop (mkF m 48 #[.val (.int v7), .val (.int v6)] [])) := by
      subst v7 v6
      refine XS.iloadN X0.here hx rfl (hb hby d1_33) rfl ?_
      show Steps p.tables e below (s₁.setTop (mkF m 34 #[.val (.int v4), .val (.int v3)] [(.int v4)])) _
      refine XS.sipush X0.here hx rfl (hb hby d1_34) ?_
      show Steps p.tables e below (s₁.setTop (mkF m 37 #[.val (.int v4), .val (.int v3)] [(.int (256 : Int32)), (.int v4)])) _
      refine Steps.trans (s₂ := s₁.setTop (mkF m 48 #[.val (.int (if v4 < (256 : Int32) then v4 else ((v4.toUInt32 >>> ((8 : Int32) &&& 31).toUInt32).toInt32))), .val (.int (if v4 < (256 : Int32) then v3 else (v3 + (-8 : Int32))))] [])) ?_ ?_
      · by_cases hc37 : v4 < (256 : Int32)
        · refine XS.icmpYes X0.here hx rfl (pc0 := 37) (pc' := 48) rfl (hb hby d1_37) rfl (tlt hc37).1 (by decide) (by decide) ?_
          show Steps p.tables e below (s₁.setTop (mkF m 48 #[.val (.int v4), .val (.int v3)] [])) _
          try simp only [if_pos hc37]
          exact Steps.refl _
        · refine XS.icmpNo X0.here hx rfl (hb hby d1_37) rfl (flt hc37).1 ?_
          show Steps p.tables e below (s₁.setTop (mkF m 40 #[.val (.int v4), .val (.int v3)] [])) _
          refine XS.iinc X0.here hx rfl (hb hby d1_40) rfl (l' := #[.val (.int v4), .val (.int (v3 + (-8 : Int32)))]) rfl ?_
          show Steps p.tables e below (s₁.setTop (mkF m 43 #[.val (.int v4), .val (.int (v3 + (-8 : Int32)))] [])) _
          refine XS.iloadN X0.here hx rfl (hb hby d1_43) rfl ?_
          show Steps p.tables e below (s₁.setTop (mkF m 44 #[.val (.int v4), .val (.int (v3 + (-8 : Int32)))] [(.int v4)])) _
          refine XS.bipush X0.here hx rfl (hb hby d1_44) ?_
          show Steps p.tables e below (s₁.setTop (mkF m 46 #[.val (.int v4), .val (.int (v3 + (-8 : Int32)))] [(.int (8 : Int32)), (.int v4)])) _
          refine XS.iushr X0.here hx rfl (hb hby d1_46) rfl ?_
          show Steps p.tables e below (s₁.setTop (mkF m 47 #[.val (.int v4), .val (.int (v3 + (-8 : Int32)))] [(.int ((v4.toUInt32 >>> ((8 : Int32) &&& 31).toUInt32).toInt32))])) _
          refine XS.istoreN X0.here hx rfl (hb hby d1_47) rfl (l' := #[.val (.int ((v4.toUInt32 >>> ((8 : Int32) &&& 31).toUInt32).toInt32)), .val (.int (v3 + (-8 : Int32)))]) rfl ?_
          show Steps p.tables e below (s₁.setTop (mkF m 48 #[.val (.int ((v4.toUInt32 >>> ((8 : Int32) &&& 31).toUInt32).toInt32)), .val (.int (v3 + (-8 : Int32)))] [])) _
          try simp only [if_neg hc37]
          exact Steps.refl _
      show Steps p.tables e below (s₁.setTop (mkF m 48 #[.val (.int (if v4 < (256 : Int32) then v4 else ((v4.toUInt32 >>> ((8 : Int32) &&& 31).toUInt32).toInt32))), .val (.int (if v4 < (256 : Int32) then v3 else (v3 + (-8 : Int32))))] [])) _
      exact Steps.refl _
    have pre8 := pre5.trans st8
    obtain ⟨v9, hv9⟩ : ∃ z : Int32, z = (if v7 < (16 : Int32) then v6 else (v6 + (-4 : Int32))) := ⟨_, rfl⟩
    obtain ⟨v10, hv10⟩ : ∃ z : Int32, z = (if v7 < (16 : Int32) then v7 else ((v7.toUInt32 >>> ((4 : Int32) &&& 31).toUInt32).toInt32)) := ⟨_, rfl⟩
    have st11 : Steps p.tables e below (s₁.setTop (mkF m 48 #[.val (.int v7), .val (.int v6)] [])) (s₁.setTop (mkF m 61 #[.val (.int v10), .val (.int v9)] [])) := by
      subst v10 v9
      refine XS.iloadN X0.here hx rfl (hb hby d1_48) rfl ?_
      show Steps p.tables e below (s₁.setTop (mkF m 49 #[.val (.int v7), .val (.int v6)] [(.int v7)])) _
      refine XS.bipush X0.here hx rfl (hb hby d1_49) ?_
      show Steps p.tables e below (s₁.setTop (mkF m 51 #[.val (.int v7), .val (.int v6)] [(.int (16 : Int32)), (.int v7)])) _
      refine Steps.trans (s₂ := s₁.setTop (mkF m 61 #[.val (.int (if v7 < (16 : Int32) then v7 else ((v7.toUInt32 >>> ((4 : Int32) &&& 31).toUInt32).toInt32))), .val (.int (if v7 < (16 : Int32) then v6 else (v6 + (-4 : Int32))))] [])) ?_ ?_
      · by_cases hc51 : v7 < (16 : Int32)
        · refine XS.icmpYes X0.here hx rfl (pc0 := 51) (pc' := 61) rfl (hb hby d1_51) rfl (tlt hc51).1 (by decide) (by decide) ?_
          show Steps p.tables e below (s₁.setTop (mkF m 61 #[.val (.int v7), .val (.int v6)] [])) _
          try simp only [if_pos hc51]
          exact Steps.refl _
        · refine XS.icmpNo X0.here hx rfl (hb hby d1_51) rfl (flt hc51).1 ?_
          show Steps p.tables e below (s₁.setTop (mkF m 54 #[.val (.int v7), .val (.int v6)] [])) _
          refine XS.iinc X0.here hx rfl (hb hby d1_54) rfl (l' := #[.val (.int v7), .val (.int (v6 + (-4 : Int32)))]) rfl ?_
          show Steps p.tables e below (s₁.setTop (mkF m 57 #[.val (.int v7), .val (.int (v6 + (-4 : Int32)))] [])) _
          refine XS.iloadN X0.here hx rfl (hb hby d1_57) rfl ?_
          show Steps p.tables e below (s₁.setTop (mkF m 58 #[.val (.int v7), .val (.int (v6 + (-4 : Int32)))] [(.int v7)])) _
          refine XS.iconst X0.here hx rfl (hb hby d1_58) ?_
          show Steps p.tables e below (s₁.setTop (mkF m 59 #[.val (.int v7), .val (.int (v6 + (-4 : Int32)))] [(.int (4 : Int32)), (.int v7)])) _
          refine XS.iushr X0.here hx rfl (hb hby d1_59) rfl ?_
          show Steps p.tables e below (s₁.setTop (mkF m 60 #[.val (.int v7), .val (.int (v6 + (-4 : Int32)))] [(.int ((v7.toUInt32 >>> ((4 : Int32) &&& 31).toUInt32).toInt32))])) _
          refine XS.istoreN X0.here hx rfl (hb hby d1_60) rfl (l' := #[.val (.int ((v7.toUInt32 >>> ((4 : Int32) &&& 31).toUInt32).toInt32)), .val (.int (v6 + (-4 : Int32)))]) rfl ?_
          show Steps p.tables e below (s₁.setTop (mkF m 61 #[.val (.int ((v7.toUInt32 >>> ((4 : Int32) &&& 31).toUInt32).toInt32)), .val (.int (v6 + (-4 : Int32)))] [])) _
          try simp only [if_neg hc51]
          exact Steps.refl _
      show Steps p.tables e below (s₁.setTop (mkF m 61 #[.val (.int (if v7 < (16 : Int32) then v7 else ((v7.toUInt32 >>> ((4 : Int32) &&& 31).toUInt32).toInt32))), .val (.int (if v7 < (16 : Int32) then v6 else (v6 + (-4 : Int32))))] [])) _
      exact Steps.refl _
    have pre11 := pre8.trans st11
    obtain ⟨v12, hv12⟩ : ∃ z : Int32, z = (if v10 < (4 : Int32) then v9 else (v9 + (-2 : Int32))) := ⟨_, rfl⟩
    obtain ⟨v13, hv13⟩ : ∃ z : Int32, z = (if v10 < (4 : Int32) then v10 else ((v10.toUInt32 >>> ((2 : Int32) &&& 31).toUInt32).toInt32)) := ⟨_, rfl⟩
    have st14 : Steps p.tables e below (s₁.setTop (mkF m 61 #[.val (.int v10), .val (.int v9)] [])) (s₁.setTop (mkF m 73 #[.val (.int v13), .val (.int v12)] [])) := by
      subst v13 v12
      refine XS.iloadN X0.here hx rfl (hb hby d1_61) rfl ?_
      show Steps p.tables e below (s₁.setTop (mkF m 62 #[.val (.int v10), .val (.int v9)] [(.int v10)])) _
      refine XS.iconst X0.here hx rfl (hb hby d1_62) ?_
      show Steps p.tables e below (s₁.setTop (mkF m 63 #[.val (.int v10), .val (.int v9)] [(.int (4 : Int32)), (.int v10)])) _
      refine Steps.trans (s₂ := s₁.setTop (mkF m 73 #[.val (.int (if v10 < (4 : Int32) then v10 else ((v10.toUInt32 >>> ((2 : Int32) &&& 31).toUInt32).toInt32))), .val (.int (if v10 < (4 : Int32) then v9 else (v9 + (-2 : Int32))))] [])) ?_ ?_
      · by_cases hc63 : v10 < (4 : Int32)
        · refine XS.icmpYes X0.here hx rfl (pc0 := 63) (pc' := 73) rfl (hb hby d1_63) rfl (tlt hc63).1 (by decide) (by decide) ?_
          show Steps p.tables e below (s₁.setTop (mkF m 73 #[.val (.int v10), .val (.int v9)] [])) _
          try simp only [if_pos hc63]
          exact Steps.refl _
        · refine XS.icmpNo X0.here hx rfl (hb hby d1_63) rfl (flt hc63).1 ?_
          show Steps p.tables e below (s₁.setTop (mkF m 66 #[.val (.int v10), .val (.int v9)] [])) _
          refine XS.iinc X0.here hx rfl (hb hby d1_66) rfl (l' := #[.val (.int v10), .val (.int (v9 + (-2 : Int32)))]) rfl ?_
          show Steps p.tables e below (s₁.setTop (mkF m 69 #[.val (.int v10), .val (.int (v9 + (-2 : Int32)))] [])) _
          refine XS.iloadN X0.here hx rfl (hb hby d1_69) rfl ?_
          show Steps p.tables e below (s₁.setTop (mkF m 70 #[.val (.int v10), .val (.int (v9 + (-2 : Int32)))] [(.int v10)])) _
          refine XS.iconst X0.here hx rfl (hb hby d1_70) ?_
          show Steps p.tables e below (s₁.setTop (mkF m 71 #[.val (.int v10), .val (.int (v9 + (-2 : Int32)))] [(.int (2 : Int32)), (.int v10)])) _
          refine XS.iushr X0.here hx rfl (hb hby d1_71) rfl ?_
          show Steps p.tables e below (s₁.setTop (mkF m 72 #[.val (.int v10), .val (.int (v9 + (-2 : Int32)))] [(.int ((v10.toUInt32 >>> ((2 : Int32) &&& 31).toUInt32).toInt32))])) _
          refine XS.istoreN X0.here hx rfl (hb hby d1_72) rfl (l' := #[.val (.int ((v10.toUInt32 >>> ((2 : Int32) &&& 31).toUInt32).toInt32)), .val (.int (v9 + (-2 : Int32)))]) rfl ?_
          show Steps p.tables e below (s₁.setTop (mkF m 73 #[.val (.int ((v10.toUInt32 >>> ((2 : Int32) &&& 31).toUInt32).toInt32)), .val (.int (v9 + (-2 : Int32)))] [])) _
          try simp only [if_neg hc63]
          exact Steps.refl _
      show Steps p.tables e below (s₁.setTop (mkF m 73 #[.val (.int (if v10 < (4 : Int32) then v10 else ((v10.toUInt32 >>> ((2 : Int32) &&& 31).toUInt32).toInt32))), .val (.int (if v10 < (4 : Int32) then v9 else (v9 + (-2 : Int32))))] [])) _
      exact Steps.refl _
    have pre14 := pre11.trans st14
    obtain ⟨v15, hv15⟩ : ∃ z : Int32, z = (v12 - ((v13.toUInt32 >>> ((1 : Int32) &&& 31).toUInt32).toInt32)) := ⟨_, rfl⟩
    have st16 : Steps p.tables e below (s₁.setTop (mkF m 73 #[.val (.int v13), .val (.int v12)] [])) (s₁.setTop (mkF m 78 #[.val (.int v13), .val (.int v12)] [(.int v15)])) := by
      subst v15
      refine XS.iloadN X0.here hx rfl (hb hby d1_73) rfl ?_
      show Steps p.tables e below (s₁.setTop (mkF m 74 #[.val (.int v13), .val (.int v12)] [(.int v12)])) _
      refine XS.iloadN X0.here hx rfl (hb hby d1_74) rfl ?_
      show Steps p.tables e below (s₁.setTop (mkF m 75 #[.val (.int v13), .val (.int v12)] [(.int v13), (.int v12)])) _
      refine XS.iconst X0.here hx rfl (hb hby d1_75) ?_
      show Steps p.tables e below (s₁.setTop (mkF m 76 #[.val (.int v13), .val (.int v12)] [(.int (1 : Int32)), (.int v13), (.int v12)])) _
      refine XS.iushr X0.here hx rfl (hb hby d1_76) rfl ?_
      show Steps p.tables e below (s₁.setTop (mkF m 77 #[.val (.int v13), .val (.int v12)] [(.int ((v13.toUInt32 >>> ((1 : Int32) &&& 31).toUInt32).toInt32)), (.int v12)])) _
      refine XS.isub X0.here hx rfl (hb hby d1_77) rfl ?_
      show Steps p.tables e below (s₁.setTop (mkF m 78 #[.val (.int v13), .val (.int v12)] [(.int (v12 - ((v13.toUInt32 >>> ((1 : Int32) &&& 31).toUInt32).toInt32)))])) _
      exact Steps.refl _
    have pre16 := pre14.trans st16
    obtain ⟨fs, hr, hrun, hended, hW, hsame⟩ := X0.leave (v := some (.int v15)) (fun h => by rw [Bd.returns] at h; cases h)
    refine ⟨_, _, pre16.trans ?_, hrun, hended, _, _, rfl, ?_, ⟨_, rfl⟩, hW, hsame.mono (by decide) (by decide)⟩
    · show Steps p.tables e below (s₁.setTop (mkF m 78 #[.val (.int v13), .val (.int v12)] [(.int v15)])) _
      exact retI X0 hx Bd.returns (hb hby d1_78) hr
    · show Q1 Z x0 h0 n0 _ s₁.heap _
      rw [e0]
      have hF : own_F1 x0 = v15 := by
        subst v15 v13 v12 v10 v9 v7 v6 v4 v3
        unfold own_F1
        rw [if_pos hc1]
        all_goals rfl
      exact ⟨by rw [hF], N0, rfl⟩
  · have st17 : Steps p.tables e below (s₁.setTop (mkF m 1 #[.val (.int x0), .unset] [(.int x0)])) (s₁.setTop (mkF m 4 #[.val (.int x0), .unset] [])) := by
      refine XS.ifNo X0.here hx rfl (hb hby d1_1) rfl ((if0 _ _).trans (flt hc1).2.2.1) ?_
      exact Steps.refl _
    have pre17 := pre1.trans st17
    obtain ⟨v18, hv18⟩ : ∃ z : Int32, z = (if x0 = (0 : Int32) then (32 : Int32) else (0 : Int32)) := ⟨_, rfl⟩
    have st19 : Steps p.tables e below (s₁.setTop (mkF m 4 #[.val (.int x0), .unset] [])) (s₁.setTop (mkF m 14 #[.val (.int x0), .unset] [(.int v18)])) := by
      subst v18
      refine XS.iloadN X0.here hx rfl (hb hby d1_4) rfl ?_
      show Steps p.tables e below (s₁.setTop (mkF m 5 #[.val (.int x0), .unset] [(.int x0)])) _
      refine Steps.trans (s₂ := s₁.setTop (mkF m 14 #[.val (.int x0), .unset] [(.int (if x0 = (0 : Int32) then (32 : Int32) else (0 : Int32)))])) ?_ ?_
      · by_cases hc5 : x0 = (0 : Int32)
        · refine XS.ifNo X0.here hx rfl (hb hby d1_5) rfl ((if0 _ _).trans (teq hc5).2) ?_
          show Steps p.tables e below (s₁.setTop (mkF m 8 #[.val (.int x0), .unset] [])) _
          refine XS.bipush X0.here hx rfl (hb hby d1_8) ?_
          show Steps p.tables e below (s₁.setTop (mkF m 10 #[.val (.int x0), .unset] [(.int (32 : Int32))])) _
          refine XS.goto X0.here hx rfl (pc0 := 10) (pc' := 14) rfl (hb hby d1_10) (by decide) (by decide) ?_
          show Steps p.tables e below (s₁.setTop (mkF m 14 #[.val (.int x0), .unset] [(.int (32 : Int32))])) _
          try simp only [if_pos hc5]
          exact Steps.refl _
        · refine XS.ifYes X0.here hx rfl (pc0 := 5) (pc' := 13) rfl (hb hby d1_5) rfl ((if0 _ _).trans (feq hc5).2) (by decide) (by decide) ?_
          show Steps p.tables e below (s₁.setTop (mkF m 13 #[.val (.int x0), .unset] [])) _
          refine XS.iconst X0.here hx rfl (hb hby d1_13) ?_
          show Steps p.tables e below (s₁.setTop (mkF m 14 #[.val (.int x0), .unset] [(.int (0 : Int32))])) _
          try simp only [if_neg hc5]
          exact Steps.refl _
      show Steps p.tables e below (s₁.setTop (mkF m 14 #[.val (.int x0), .unset] [(.int (if x0 = (0 : Int32) then (32 : Int32) else (0 : Int32)))])) _
      exact Steps.refl _
    have pre19 := pre17.trans st19
    obtain ⟨fs, hr, hrun, hended, hW, hsame⟩ := X0.leave (v := some (.int v18)) (fun h => by rw [Bd.returns] at h; cases h)
    refine ⟨_, _, pre19.trans ?_, hrun, hended, _, _, rfl, ?_, ⟨_, rfl⟩, hW, hsame.mono (by decide) (by decide)⟩
    · show Steps p.tables e below (s₁.setTop (mkF m 14 #[.val (.int x0), .unset] [(.int v18)])) _
      exact retI X0 hx Bd.returns (hb hby d1_14) hr
    · show Q1 Z x0 h0 n0 _ s₁.heap _
      rw [e0]
      have hF : own_F1 x0 = v18 := by
        subst v18
        unfold own_F1
        rw [if_neg hc1]
        all_goals rfl
      exact ⟨by rw [hF], N0, rfl⟩
theorem d2_0 : decode jdk_35_method_48_code 0 = .ok (.lload_n 0, 1) := by decide +kernel
theorem d2_1 : decode jdk_35_method_48_code 1 = .ok (.bipush 32, 2) := by decide +kernel
theorem d2_3 : decode jdk_35_method_48_code 3 = .ok (.lushr, 1) := by decide +kernel
theorem d2_4 : decode jdk_35_method_48_code 4 = .ok (.l2i, 1) := by decide +kernel
theorem d2_5 : decode jdk_35_method_48_code 5 = .ok (.istore_n 2, 1) := by decide +kernel
theorem d2_6 : decode jdk_35_method_48_code 6 = .ok (.iload_n 2, 1) := by decide +kernel
theorem d2_7 : decode jdk_35_method_48_code 7 = .ok (.ifCond .ne 14, 3) := by decide +kernel
theorem d2_10 : decode jdk_35_method_48_code 10 = .ok (.bipush 32, 2) := by decide +kernel
theorem d2_12 : decode jdk_35_method_48_code 12 = .ok (.lload_n 0, 1) := by decide +kernel
theorem d2_13 : decode jdk_35_method_48_code 13 = .ok (.l2i, 1) := by decide +kernel
theorem d2_14 : decode jdk_35_method_48_code 14 = .ok (.invokestatic 308, 3) := by decide +kernel
theorem d2_17 : decode jdk_35_method_48_code 17 = .ok (.iadd, 1) := by decide +kernel
theorem d2_18 : decode jdk_35_method_48_code 18 = .ok (.goto 7, 3) := by decide +kernel
theorem d2_21 : decode jdk_35_method_48_code 21 = .ok (.iload_n 2, 1) := by decide +kernel
theorem d2_22 : decode jdk_35_method_48_code 22 = .ok (.invokestatic 308, 3) := by decide +kernel
theorem d2_25 : decode jdk_35_method_48_code 25 = .ok (.ireturn, 1) := by decide +kernel
theorem pn2 : plainName "java/lang/Long" = true := by first | (simp [plainName, overriddenIn]; done) | decide +kernel
theorem pd2_0 : parseMethodDescriptor "(I)I" = some ⟨[.int], some .int⟩ := by decide +kernel
theorem ef2 (m : MethodId) (x0 : Int64) : entryFrame m #[(.long x0)] 3 = mkF m 0 #[.val (.long x0), .second, .unset] [] := by first | (simp [entryFrame, mkF, argsToLocals, Value.category]; done) | rfl
def own_F2 (x0 : Int64) : Int32 := (if (((x0.toUInt64 >>> ((32 : Int32) &&& 0x3f).toInt64.toUInt64).toInt64).toInt32) = (0 : Int32) then ((32 : Int32) + (own_F1 (x0.toInt32))) else (own_F1 (((x0.toUInt64 >>> ((32 : Int32) &&& 0x3f).toInt64.toUInt64).toInt64).toInt32)))
def Q2 (Z : State) (x0 : Int64) (h0 : Heap) (n0 : Nat) (v : Option Value) (h : Heap) (L : List Loc) : Prop := v = some (.int (own_F2 x0)) ∧ Fr n0 L ∧ h = h0
set_option maxRecDepth 65536 in
set_option maxHeartbeats 40000000 in
theorem rm2 (l : Launch) (Z : State) (a0 : Array Value) (hw : ∀ d ∈ tables_1, d.before a0 Z = true) (ws : List Jvm.Cond) (x0 : Int64) (h0 : Heap) (n0 : Nat) (Z0 : n0 ≤ h0.size) :
    MetFree l (⟨"java/lang/Long", "numberOfLeadingZeros", "(J)I"⟩ : MethodName) (head1 (Jvm.Cond.code (⟨"java/lang/Long", "numberOfLeadingZeros", "(J)I"⟩ : MethodName) jdk_35_method_48_code 3 (some .int) :: ws) ({ frames := 1, cells := 0, slots := 0, locals := 14 } : Room)) (fun a U => a = #[(.long x0)] ∧ Z.Warmed39 U.vm ∧ U.heap = h0) (fun _ _ _ _ _ => True) (fun _ U o U' => ∃ v L, o = .returned v ∧ Q2 Z x0 h0 n0 v U'.heap L ∧ FrameEnd U o U' L ({ frames := 1, cells := 0, slots := 0, locals := 14 } : Room).cells ({ frames := 1, cells := 0, slots := 0, locals := 14 } : Room).slots) := by
  refine MetFree.of_bodySF (plainFor_of_name pn2) hisR ?_
  intro p e s m args below meth c s₁ Bd hml0 hP hK
  obtain ⟨rfl, hZ, hh⟩ := hP
  have hx := Bd.exec
  have hby := Bd.bytes
  have hml : c.maxLocals = 3 := hml0
  have hown : s.vm.findClass "java/lang/Long" = some m.cls := findClass_of_methodNamed Bd.named
  have hnm := (name_of_methodNamed Bd.named Bd.method).1
  have X0 : Stand p l e ({ frames := 1, cells := 0, slots := 0, locals := 14 } : Room) s m #[(.long x0)] below meth c s₁ [] 0 0 := Stand.of_body Bd
  have e0 : s₁.heap = h0 := by rw [← hh, Bd.state]; rfl
  have N0 := Fr.nil n0
  have pre0 : Steps p.tables e below (s₁.setTop (entryFrame m #[(.long x0)] 3)) (s₁.setTop (mkF m 0 #[.val (.long x0), .second, .unset] [])) := castTop (ef2 m x0) (Steps.refl _)
  obtain ⟨v1, hv1⟩ : ∃ z : Int32, z = (((x0.toUInt64 >>> ((32 : Int32) &&& 0x3f).toInt64.toUInt64).toInt64).toInt32) := ⟨_, rfl⟩
  have st2 : Steps p.tables e below (s₁.setTop (mkF m 0 #[.val (.long x0), .second, .unset] [])) (s₁.setTop (mkF m 7 #[.val (.long x0), .second, .val (.int v1)] [(.int v1)])) := by
    subst v1
    refine XS.lloadN X0.here hx rfl (hb hby d2_0) rfl ?_
    show Steps p.tables e below (s₁.setTop (mkF m 1 #[.val (.long x0), .second, .unset] [(.long x0)])) _
    refine XS.bipush X0.here hx rfl (hb hby d2_1) ?_
    show Steps p.tables e below (s₁.setTop (mkF m 3 #[.val (.long x0), .second, .unset] [(.int (32 : Int32)), (.long x0)])) _
    refine XS.lushr X0.here hx rfl (hb hby d2_3) rfl ?_
    show Steps p.tables e below (s₁.setTop (mkF m 4 #[.val (.long x0), .second, .unset] [(.long ((x0.toUInt64 >>> ((32 : Int32) &&& 0x3f).toInt64.toUInt64).toInt64))])) _
    refine XS.l2i X0.here hx rfl (hb hby d2_4) rfl ?_
    show Steps p.tables e below (s₁.setTop (mkF m 5 #[.val (.long x0), .second, .unset] [(.int (((x0.toUInt64 >>> ((32 : Int32) &&& 0x3f).toInt64.toUInt64).toInt64).toInt32))])) _
    refine XS.istoreN X0.here hx rfl (hb hby d2_5) rfl (l' := #[.val (.long x0), .second, .val (.int (((x0.toUInt64 >>> ((32 : Int32) &&& 0x3f).toInt64.toUInt64).toInt64).toInt32))]) rfl ?_
    show Steps p.tables e below (s₁.setTop (mkF m 6 #[.val (.long x0), .second, .val (.int (((x0.toUInt64 >>> ((32 : Int32) &&& 0x3f).toInt64.toUInt64).toInt64).toInt32))] [])) _
    refine XS.iloadN X0.here hx rfl (hb hby d2_6) rfl ?_
    show Steps p.tables e below (s₁.setTop (mkF m 7 #[.val (.long x0), .second, .val (.int (((x0.toUInt64 >>> ((32 : Int32) &&& 0x3f).toInt64.toUInt64).toInt64).toInt32))] [(.int (((x0.toUInt64 >>> ((32 : Int32) &&& 0x3f).toInt64.toUInt64).toInt64).toInt32))])) _
    exact Steps.refl _
  have pre2 := pre0.trans st2
  by_cases hc7 : v1 = (0 : Int32)
  · have st3 : Steps p.tables e below (s₁.setTop (mkF m 7 #[.val (.long x0), .second, .val (.int v1)] [(.int v1)])) (s₁.setTop (mkF m 10 #[.val (.long x0), .second, .val (.int v1)] [])) := by
      refine XS.ifNo X0.here hx rfl (hb hby d2_7) rfl ((if0 _ _).trans (teq hc7).2) ?_
      exact Steps.refl _
    have pre3 := pre2.trans st3
    obtain ⟨v4, hv4⟩ : ∃ z : Int32, z = (x0.toInt32) := ⟨_, rfl⟩
    have st5 : Steps p.tables e below (s₁.setTop (mkF m 10 #[.val (.long x0), .second, .val (.int v1)] [])) (s₁.setTop (mkF m 14 #[.val (.long x0), .second, .val (.int v1)] [(.int v4), (.int (32 : Int32))])) := by
      subst v4
      refine XS.bipush X0.here hx rfl (hb hby d2_10) ?_
      show Steps p.tables e below (s₁.setTop (mkF m 12 #[.val (.long x0), .second, .val (.int v1)] [(.int (32 : Int32))])) _
      refine XS.lloadN X0.here hx rfl (hb hby d2_12) rfl ?_
      show Steps p.tables e below (s₁.setTop (mkF m 13 #[.val (.long x0), .second, .val (.int v1)] [(.long x0), (.int (32 : Int32))])) _
      refine XS.l2i X0.here hx rfl (hb hby d2_13) rfl ?_
      show Steps p.tables e below (s₁.setTop (mkF m 14 #[.val (.long x0), .second, .val (.int v1)] [(.int (x0.toInt32)), (.int (32 : Int32))])) _
      exact Steps.refl _
    have pre5 := pre3.trans st5
    obtain ⟨_, _, ⟨T6, L6, k6, n6⟩, -, X6, ⟨Lc6, hQ6, l6, y6, z6⟩, st6⟩ := Jvm.LawKit.callS X0 hx (y := (⟨"java/lang/Integer", "numberOfLeadingZeros", "(I)I"⟩ : MethodName)) hown (mvT hZ (hw _ (List.mem_of_getElem? (i := 13) rfl))) (mvT hZ (hw _ (List.mem_of_getElem? (i := 14) rfl))) (mvT hZ (hw _ (List.mem_of_getElem? (i := 15) rfl))) (mvT hZ (hw _ (List.mem_of_getElem? (i := 16) rfl))) (by decide) (backOf (W := 1) (rm1 l Z a0 hw [] v4 h0 n0 Z0) hZ (hw _ (List.mem_of_getElem? (i := 16) rfl)) (hw _ (List.mem_of_getElem? (i := 15) rfl)) (by decide) (by decide)) (g := (mkF m 14 #[.val (.long x0), .second, .val (.int v1)] [(.int v4), (.int (32 : Int32))])) rfl (by rw [hml]; rfl) (argsL := [(.int v4)]) (rest := [(.int (32 : Int32))]) (lenOf pd2_0 rfl) rfl (by show 2 * 0 + _ ≤ _; exact Nat.le_of_eq rfl) (hb hby d2_14) (fun _ _ => ⟨rfl, e0, (by decide : 0 + 0 ≤ _), (by decide : 0 + 0 ≤ _)⟩)
    dsimp only [Pt.U, Pt.locs, Pt.cells, Pt.slots] at X6 l6 y6 z6 st6 hQ6
    subst l6 y6 z6
    obtain ⟨rfl, Nq6, e6⟩ := hQ6
    have N6 := Fr.app N0 Nq6
    have pre6 : Steps p.tables e below (s₁.setTop (entryFrame m #[(.long x0)] 3)) (T6.setTop (mkF m 17 #[.val (.long x0), .second, .val (.int v1)] [(.int (own_F1 v4)), (.int (32 : Int32))])) := pre5.trans (st6 _ (Steps.refl _))
    obtain ⟨v7, hv7⟩ : ∃ z : Int32, z = ((32 : Int32) + (own_F1 v4)) := ⟨_, rfl⟩
    have st8 : Steps p.tables e below (T6.setTop (mkF m 17 #[.val (.long x0), .second, .val (.int v1)] [(.int (own_F1 v4)), (.int (32 : Int32))])) (T6.setTop (mkF m 25 #[.val (.long x0), .second, .val (.int v1)] [(.int v7)])) := by
      subst v7
      refine XS.iadd X6.here hx rfl (hb hby d2_17) rfl ?_
      show Steps p.tables e below (T6.setTop (mkF m 18 #[.val (.long x0), .second, .val (.int v1)] [(.int ((32 : Int32) + (own_F1 v4)))])) _
      refine XS.goto X6.here hx rfl (pc0 := 18) (pc' := 25) rfl (hb hby d2_18) (by decide) (by decide) ?_
      show Steps p.tables e below (T6.setTop (mkF m 25 #[.val (.long x0), .second, .val (.int v1)] [(.int ((32 : Int32) + (own_F1 v4)))])) _
      exact Steps.refl _
    have pre8 := pre6.trans st8
    obtain ⟨fs, hr, hrun, hended, hW, hsame⟩ := X6.leave (v := some (.int v7)) (fun h => by rw [Bd.returns] at h; cases h)
    refine ⟨_, _, pre8.trans ?_, hrun, hended, _, _, rfl, ?_, ⟨_, rfl⟩, hW, hsame.mono (by decide) (by decide)⟩
    · show Steps p.tables e below (T6.setTop (mkF m 25 #[.val (.long x0), .second, .val (.int v1)] [(.int v7)])) _
      exact retI X6 hx Bd.returns (hb hby d2_25) hr
    · show Q2 Z x0 h0 n0 _ T6.heap _
      rw [e6]
      have hF : own_F2 x0 = v7 := by
        subst v7 v4 v1
        simp only [own_F2, if_pos hc7]
      exact ⟨by rw [hF], N6, rfl⟩
  · have st9 : Steps p.tables e below (s₁.setTop (mkF m 7 #[.val (.long x0), .second, .val (.int v1)] [(.int v1)])) (s₁.setTop (mkF m 21 #[.val (.long x0), .second, .val (.int v1)] [])) := by
      refine XS.ifYes X0.here hx rfl (pc0 := 7) (pc' := 21) rfl (hb hby d2_7) rfl ((if0 _ _).trans (feq hc7).2) (by decide) (by decide) ?_
      exact Steps.refl _
    have pre9 := pre2.trans st9
    have st10 : Steps p.tables e below (s₁.setTop (mkF m 21 #[.val (.long x0), .second, .val (.int v1)] [])) (s₁.setTop (mkF m 22 #[.val (.long x0), .second, .val (.int v1)] [(.int v1)])) := by
      refine XS.iloadN X0.here hx rfl (hb hby d2_21) rfl ?_
      show Steps p.tables e below (s₁.setTop (mkF m 22 #[.val (.long x0), .second, .val (.int v1)] [(.int v1)])) _
      exact Steps.refl _
    have pre10 := pre9.trans st10
    obtain ⟨_, _, ⟨T11, L11, k11, n11⟩, -, X11, ⟨Lc11, hQ11, l11, y11, z11⟩, st11⟩ := Jvm.LawKit.callS X0 hx (y := (⟨"java/lang/Integer", "numberOfLeadingZeros", "(I)I"⟩ : MethodName)) hown (mvT hZ (hw _ (List.mem_of_getElem? (i := 13) rfl))) (mvT hZ (hw _ (List.mem_of_getElem? (i := 14) rfl))) (mvT hZ (hw _ (List.mem_of_getElem? (i := 15) rfl))) (mvT hZ (hw _ (List.mem_of_getElem? (i := 16) rfl))) (by decide) (backOf (W := 0) (rm1 l Z a0 hw [] v1 h0 n0 Z0) hZ (hw _ (List.mem_of_getElem? (i := 16) rfl)) (hw _ (List.mem_of_getElem? (i := 15) rfl)) (by decide) (by decide)) (g := (mkF m 22 #[.val (.long x0), .second, .val (.int v1)] [(.int v1)])) rfl (by rw [hml]; rfl) (argsL := [(.int v1)]) (rest := []) (lenOf pd2_0 rfl) rfl (by show 2 * 0 + _ ≤ _; exact Nat.le_of_eq rfl) (hb hby d2_22) (fun _ _ => ⟨rfl, e0, (by decide : 0 + 0 ≤ _), (by decide : 0 + 0 ≤ _)⟩)
    dsimp only [Pt.U, Pt.locs, Pt.cells, Pt.slots] at X11 l11 y11 z11 st11 hQ11
    subst l11 y11 z11
    obtain ⟨rfl, Nq11, e11⟩ := hQ11
    have N11 := Fr.app N0 Nq11
    have pre11 : Steps p.tables e below (s₁.setTop (entryFrame m #[(.long x0)] 3)) (T11.setTop (mkF m 25 #[.val (.long x0), .second, .val (.int v1)] [(.int (own_F1 v1))])) := pre10.trans (st11 _ (Steps.refl _))
    obtain ⟨fs, hr, hrun, hended, hW, hsame⟩ := X11.leave (v := some (.int (own_F1 v1))) (fun h => by rw [Bd.returns] at h; cases h)
    refine ⟨_, _, pre11.trans ?_, hrun, hended, _, _, rfl, ?_, ⟨_, rfl⟩, hW, hsame.mono (by decide) (by decide)⟩
    · show Steps p.tables e below (T11.setTop (mkF m 25 #[.val (.long x0), .second, .val (.int v1)] [(.int (own_F1 v1))])) _
      exact retI X11 hx Bd.returns (hb hby d2_25) hr
    · show Q2 Z x0 h0 n0 _ T11.heap _
      rw [e11]
      have hF : own_F2 x0 = (own_F1 v1) := by
        subst v1
        simp only [own_F2, if_neg hc7]
      exact ⟨by rw [hF], N11, rfl⟩
theorem d3_0 : decode prog_37_method_4_code 0 = .ok (.lload_n 0, 1) := by decide +kernel
theorem d3_1 : decode prog_37_method_4_code 1 = .ok (.lconst 1, 1) := by decide +kernel
theorem d3_2 : decode prog_37_method_4_code 2 = .ok (.lcmp, 1) := by decide +kernel
theorem d3_3 : decode prog_37_method_4_code 3 = .ok (.ifCond .gt 7, 3) := by decide +kernel
theorem d3_6 : decode prog_37_method_4_code 6 = .ok (.iconst 0, 1) := by decide +kernel
theorem d3_7 : decode prog_37_method_4_code 7 = .ok (.goto 12, 3) := by decide +kernel
theorem d3_10 : decode prog_37_method_4_code 10 = .ok (.bipush 64, 2) := by decide +kernel
theorem d3_12 : decode prog_37_method_4_code 12 = .ok (.lload_n 0, 1) := by decide +kernel
theorem d3_13 : decode prog_37_method_4_code 13 = .ok (.lconst 1, 1) := by decide +kernel
theorem d3_14 : decode prog_37_method_4_code 14 = .ok (.lsub, 1) := by decide +kernel
theorem d3_15 : decode prog_37_method_4_code 15 = .ok (.invokestatic 32, 3) := by decide +kernel
theorem d3_18 : decode prog_37_method_4_code 18 = .ok (.isub, 1) := by decide +kernel
theorem d3_19 : decode prog_37_method_4_code 19 = .ok (.ireturn, 1) := by decide +kernel
theorem pn3 : plainName "com/example/evident_ledger/evidentledger/MerkleTree" = true := by first | (simp [plainName, overriddenIn]; done) | decide +kernel
theorem pd3_0 : parseMethodDescriptor "(J)I" = some ⟨[.long], some .int⟩ := by decide +kernel
theorem ef3 (m : MethodId) (x0 : Int64) : entryFrame m #[(.long x0)] 2 = mkF m 0 #[.val (.long x0), .second] [] := by first | (simp [entryFrame, mkF, argsToLocals, Value.category]; done) | rfl
def own_F3 (x0 : Int64) : Int32 := (if (1 : Int64) < x0 then ((64 : Int32) - (own_F2 (x0 - (1 : Int64)))) else (0 : Int32))
def Q3 (Z : State) (x0 : Int64) (h0 : Heap) (n0 : Nat) (v : Option Value) (h : Heap) (L : List Loc) : Prop := v = some (.int (own_F3 x0)) ∧ Fr n0 L ∧ h = h0
set_option maxRecDepth 65536 in
set_option maxHeartbeats 40000000 in
theorem rm3 (l : Launch) (Z : State) (a0 : Array Value) (hw : ∀ d ∈ tables_1, d.before a0 Z = true) (ws : List Jvm.Cond) (x0 : Int64) (h0 : Heap) (n0 : Nat) (Z0 : n0 ≤ h0.size) :
    MetFree l (⟨"com/example/evident_ledger/evidentledger/MerkleTree", "height", "(J)I"⟩ : MethodName) (head1 (Jvm.Cond.code (⟨"com/example/evident_ledger/evidentledger/MerkleTree", "height", "(J)I"⟩ : MethodName) prog_37_method_4_code 2 (some .int) :: ws) ({ frames := 2, cells := 0, slots := 0, locals := 29 } : Room)) (fun a U => a = #[(.long x0)] ∧ Z.Warmed39 U.vm ∧ U.heap = h0) (fun _ _ _ _ _ => True) (fun _ U o U' => ∃ v L, o = .returned v ∧ Q3 Z x0 h0 n0 v U'.heap L ∧ FrameEnd U o U' L ({ frames := 2, cells := 0, slots := 0, locals := 29 } : Room).cells ({ frames := 2, cells := 0, slots := 0, locals := 29 } : Room).slots) := by
  refine MetFree.of_bodySF (plainFor_of_name pn3) hisR ?_
  intro p e s m args below meth c s₁ Bd hml0 hP hK
  obtain ⟨rfl, hZ, hh⟩ := hP
  have hx := Bd.exec
  have hby := Bd.bytes
  have hml : c.maxLocals = 2 := hml0
  have hown : s.vm.findClass "com/example/evident_ledger/evidentledger/MerkleTree" = some m.cls := findClass_of_methodNamed Bd.named
  have hnm := (name_of_methodNamed Bd.named Bd.method).1
  have X0 : Stand p l e ({ frames := 2, cells := 0, slots := 0, locals := 29 } : Room) s m #[(.long x0)] below meth c s₁ [] 0 0 := Stand.of_body Bd
  have e0 : s₁.heap = h0 := by rw [← hh, Bd.state]; rfl
  have N0 := Fr.nil n0
  have pre0 : Steps p.tables e below (s₁.setTop (entryFrame m #[(.long x0)] 2)) (s₁.setTop (mkF m 0 #[.val (.long x0), .second] [])) := castTop (ef3 m x0) (Steps.refl _)
  have st1 : Steps p.tables e below (s₁.setTop (mkF m 0 #[.val (.long x0), .second] [])) (s₁.setTop (mkF m 3 #[.val (.long x0), .second] [(.int (lcmpW x0 (1 : Int64)))])) := by
    refine XS.lloadN X0.here hx rfl (hb hby d3_0) rfl ?_
    show Steps p.tables e below (s₁.setTop (mkF m 1 #[.val (.long x0), .second] [(.long x0)])) _
    refine XS.lconst X0.here hx rfl (hb hby d3_1) ?_
    show Steps p.tables e below (s₁.setTop (mkF m 2 #[.val (.long x0), .second] [(.long (1 : Int64)), (.long x0)])) _
    refine XS.lcmp X0.here hx rfl (hb hby d3_2) rfl ?_
    show Steps p.tables e below (s₁.setTop (mkF m 3 #[.val (.long x0), .second] [(.int (lcmpW x0 (1 : Int64)))])) _
    exact Steps.refl _
  have pre1 := pre0.trans st1
  by_cases hc3 : (1 : Int64) < x0
  · have st2 : Steps p.tables e below (s₁.setTop (mkF m 3 #[.val (.long x0), .second] [(.int (lcmpW x0 (1 : Int64)))])) (s₁.setTop (mkF m 10 #[.val (.long x0), .second] [])) := by
      refine XS.ifYes X0.here hx rfl (pc0 := 3) (pc' := 10) rfl (hb hby d3_3) rfl ((if0 _ _).trans (tlt ((lw_gt x0 (1 : Int64)).mpr hc3)).2.2.1) (by decide) (by decide) ?_
      exact Steps.refl _
    have pre2 := pre1.trans st2
    obtain ⟨v3, hv3⟩ : ∃ z : Int64, z = (x0 - (1 : Int64)) := ⟨_, rfl⟩
    have st4 : Steps p.tables e below (s₁.setTop (mkF m 10 #[.val (.long x0), .second] [])) (s₁.setTop (mkF m 15 #[.val (.long x0), .second] [(.long v3), (.int (64 : Int32))])) := by
      subst v3
      refine XS.bipush X0.here hx rfl (hb hby d3_10) ?_
      show Steps p.tables e below (s₁.setTop (mkF m 12 #[.val (.long x0), .second] [(.int (64 : Int32))])) _
      refine XS.lloadN X0.here hx rfl (hb hby d3_12) rfl ?_
      show Steps p.tables e below (s₁.setTop (mkF m 13 #[.val (.long x0), .second] [(.long x0), (.int (64 : Int32))])) _
      refine XS.lconst X0.here hx rfl (hb hby d3_13) ?_
      show Steps p.tables e below (s₁.setTop (mkF m 14 #[.val (.long x0), .second] [(.long (1 : Int64)), (.long x0), (.int (64 : Int32))])) _
      refine XS.lsub X0.here hx rfl (hb hby d3_14) rfl ?_
      show Steps p.tables e below (s₁.setTop (mkF m 15 #[.val (.long x0), .second] [(.long (x0 - (1 : Int64))), (.int (64 : Int32))])) _
      exact Steps.refl _
    have pre4 := pre2.trans st4
    obtain ⟨_, _, ⟨T5, L5, k5, n5⟩, -, X5, ⟨Lc5, hQ5, l5, y5, z5⟩, st5⟩ := Jvm.LawKit.callS X0 hx (y := (⟨"java/lang/Long", "numberOfLeadingZeros", "(J)I"⟩ : MethodName)) hown (mvT hZ (hw _ (List.mem_of_getElem? (i := 9) rfl))) (mvT hZ (hw _ (List.mem_of_getElem? (i := 10) rfl))) (mvT hZ (hw _ (List.mem_of_getElem? (i := 11) rfl))) (mvT hZ (hw _ (List.mem_of_getElem? (i := 12) rfl))) (by decide) (backOf (W := 1) (rm2 l Z a0 hw [] v3 h0 n0 Z0) hZ (hw _ (List.mem_of_getElem? (i := 12) rfl)) (hw _ (List.mem_of_getElem? (i := 11) rfl)) (by decide) (by decide)) (g := (mkF m 15 #[.val (.long x0), .second] [(.long v3), (.int (64 : Int32))])) rfl (by rw [hml]; rfl) (argsL := [(.long v3)]) (rest := [(.int (64 : Int32))]) (lenOf pd3_0 rfl) rfl (by show 2 * 0 + _ ≤ _; exact Nat.le_of_eq rfl) (hb hby d3_15) (fun _ _ => ⟨rfl, e0, (by decide : 0 + 0 ≤ _), (by decide : 0 + 0 ≤ _)⟩)
    dsimp only [Pt.U, Pt.locs, Pt.cells, Pt.slots] at X5 l5 y5 z5 st5 hQ5
    subst l5 y5 z5
    obtain ⟨rfl, Nq5, e5⟩ := hQ5
    have N5 := Fr.app N0 Nq5
    have pre5 : Steps p.tables e below (s₁.setTop (entryFrame m #[(.long x0)] 2)) (T5.setTop (mkF m 18 #[.val (.long x0), .second] [(.int (own_F2 v3)), (.int (64 : Int32))])) := pre4.trans (st5 _ (Steps.refl _))
    obtain ⟨v6, hv6⟩ : ∃ z : Int32, z = ((64 : Int32) - (own_F2 v3)) := ⟨_, rfl⟩
    have st7 : Steps p.tables e below (T5.setTop (mkF m 18 #[.val (.long x0), .second] [(.int (own_F2 v3)), (.int (64 : Int32))])) (T5.setTop (mkF m 19 #[.val (.long x0), .second] [(.int v6)])) := by
      subst v6
      refine XS.isub X5.here hx rfl (hb hby d3_18) rfl ?_
      show Steps p.tables e below (T5.setTop (mkF m 19 #[.val (.long x0), .second] [(.int ((64 : Int32) - (own_F2 v3)))])) _
      exact Steps.refl _
    have pre7 := pre5.trans st7
    obtain ⟨fs, hr, hrun, hended, hW, hsame⟩ := X5.leave (v := some (.int v6)) (fun h => by rw [Bd.returns] at h; cases h)
    refine ⟨_, _, pre7.trans ?_, hrun, hended, _, _, rfl, ?_, ⟨_, rfl⟩, hW, hsame.mono (by decide) (by decide)⟩
    · show Steps p.tables e below (T5.setTop (mkF m 19 #[.val (.long x0), .second] [(.int v6)])) _
      exact retI X5 hx Bd.returns (hb hby d3_19) hr
    · show Q3 Z x0 h0 n0 _ T5.heap _
      rw [e5]
      have hF : own_F3 x0 = v6 := by
        subst v6 v3
        simp only [own_F3, if_pos hc3]
      exact ⟨by rw [hF], N5, rfl⟩
  · have st8 : Steps p.tables e below (s₁.setTop (mkF m 3 #[.val (.long x0), .second] [(.int (lcmpW x0 (1 : Int64)))])) (s₁.setTop (mkF m 6 #[.val (.long x0), .second] [])) := by
      refine XS.ifNo X0.here hx rfl (hb hby d3_3) rfl ((if0 _ _).trans (flt (fun q => hc3 ((lw_gt x0 (1 : Int64)).mp q))).2.2.1) ?_
      exact Steps.refl _
    have pre8 := pre1.trans st8
    have st9 : Steps p.tables e below (s₁.setTop (mkF m 6 #[.val (.long x0), .second] [])) (s₁.setTop (mkF m 19 #[.val (.long x0), .second] [(.int (0 : Int32))])) := by
      refine XS.iconst X0.here hx rfl (hb hby d3_6) ?_
      show Steps p.tables e below (s₁.setTop (mkF m 7 #[.val (.long x0), .second] [(.int (0 : Int32))])) _
      refine XS.goto X0.here hx rfl (pc0 := 7) (pc' := 19) rfl (hb hby d3_7) (by decide) (by decide) ?_
      show Steps p.tables e below (s₁.setTop (mkF m 19 #[.val (.long x0), .second] [(.int (0 : Int32))])) _
      exact Steps.refl _
    have pre9 := pre8.trans st9
    obtain ⟨fs, hr, hrun, hended, hW, hsame⟩ := X0.leave (v := some (.int (0 : Int32))) (fun h => by rw [Bd.returns] at h; cases h)
    refine ⟨_, _, pre9.trans ?_, hrun, hended, _, _, rfl, ?_, ⟨_, rfl⟩, hW, hsame.mono (by decide) (by decide)⟩
    · show Steps p.tables e below (s₁.setTop (mkF m 19 #[.val (.long x0), .second] [(.int (0 : Int32))])) _
      exact retI X0 hx Bd.returns (hb hby d3_19) hr
    · show Q3 Z x0 h0 n0 _ s₁.heap _
      rw [e0]
      have hF : own_F3 x0 = (0 : Int32) := by
        simp only [own_F3, if_neg hc3]
      exact ⟨by rw [hF], N0, rfl⟩
theorem d4_0 : decode method_2_code 0 = .ok (.iload_n 0, 1) := by decide +kernel
theorem d4_1 : decode method_2_code 1 = .ok (.iconst 3, 1) := by decide +kernel
theorem d4_2 : decode method_2_code 2 = .ok (.iand, 1) := by decide +kernel
theorem d4_3 : decode method_2_code 3 = .ok (.istore 5, 2) := by decide +kernel
theorem d4_5 : decode method_2_code 5 = .ok (.iload 5, 2) := by decide +kernel
theorem d4_7 : decode method_2_code 7 = .ok (.iconst 1, 1) := by decide +kernel
theorem d4_8 : decode method_2_code 8 = .ok (.if_icmp .ne 9, 3) := by decide +kernel
theorem d4_11 : decode method_2_code 11 = .ok (.lload_n 1, 1) := by decide +kernel
theorem d4_12 : decode method_2_code 12 = .ok (.ldc2_w 7, 3) := by decide +kernel
theorem d4_15 : decode method_2_code 15 = .ok (.land, 1) := by decide +kernel
theorem d4_16 : decode method_2_code 16 = .ok (.lreturn, 1) := by decide +kernel
theorem d4_17 : decode method_2_code 17 = .ok (.iload 5, 2) := by decide +kernel
theorem d4_19 : decode method_2_code 19 = .ok (.iconst 2, 1) := by decide +kernel
theorem d4_20 : decode method_2_code 20 = .ok (.if_icmp .ne 29, 3) := by decide +kernel
theorem d4_23 : decode method_2_code 23 = .ok (.lconst 1, 1) := by decide +kernel
theorem d4_24 : decode method_2_code 24 = .ok (.lload_n 3, 1) := by decide +kernel
theorem d4_25 : decode method_2_code 25 = .ok (.ldc2_w 9, 3) := by decide +kernel
theorem d4_28 : decode method_2_code 28 = .ok (.land, 1) := by decide +kernel
theorem d4_29 : decode method_2_code 29 = .ok (.l2i, 1) := by decide +kernel
theorem d4_30 : decode method_2_code 30 = .ok (.lshl, 1) := by decide +kernel
theorem d4_31 : decode method_2_code 31 = .ok (.lload_n 3, 1) := by decide +kernel
theorem d4_32 : decode method_2_code 32 = .ok (.bipush 6, 2) := by decide +kernel
theorem d4_34 : decode method_2_code 34 = .ok (.lshr, 1) := by decide +kernel
theorem d4_35 : decode method_2_code 35 = .ok (.ldc2_w 11, 3) := by decide +kernel
theorem d4_38 : decode method_2_code 38 = .ok (.land, 1) := by decide +kernel
theorem d4_39 : decode method_2_code 39 = .ok (.ladd, 1) := by decide +kernel
theorem d4_40 : decode method_2_code 40 = .ok (.ldc2_w 13, 3) := by decide +kernel
theorem d4_43 : decode method_2_code 43 = .ok (.lsub, 1) := by decide +kernel
theorem d4_44 : decode method_2_code 44 = .ok (.ldc2_w 17, 3) := by decide +kernel
theorem d4_47 : decode method_2_code 47 = .ok (.land, 1) := by decide +kernel
theorem d4_48 : decode method_2_code 48 = .ok (.lreturn, 1) := by decide +kernel
theorem d4_49 : decode method_2_code 49 = .ok (.lload_n 1, 1) := by decide +kernel
theorem d4_50 : decode method_2_code 50 = .ok (.ldc2_w 17, 3) := by decide +kernel
theorem d4_53 : decode method_2_code 53 = .ok (.land, 1) := by decide +kernel
theorem d4_54 : decode method_2_code 54 = .ok (.lreturn, 1) := by decide +kernel
theorem pn4 : plainName "com/example/evident_ledger/evidentledger/MerkleTreeHeightPinLaw" = true := by first | (simp [plainName, overriddenIn]; done) | decide +kernel
theorem ef4 (m : MethodId) (x0 : Int32) (x1 : Int64) (x2 : Int64) : entryFrame m #[(.int x0), (.long x1), (.long x2)] 6 = mkF m 0 #[.val (.int x0), .val (.long x1), .second, .val (.long x2), .second, .unset] [] := by first | (simp [entryFrame, mkF, argsToLocals, Value.category]; done) | rfl
def own_F4 (x0 : Int32) (x1 : Int64) (x2 : Int64) : Int64 := (if (x0 &&& (3 : Int32)) = (1 : Int32) then (x1 &&& (255 : Int64)) else (if (x0 &&& (3 : Int32)) = (2 : Int32) then (((((1 : Int64) <<< (((x2 &&& (63 : Int64)).toInt32) &&& 0x3f).toInt64) + ((x2 >>> ((6 : Int32) &&& 0x3f).toInt64) &&& (3 : Int64))) - (2 : Int64)) &&& (9223372036854775807 : Int64)) else (x1 &&& (9223372036854775807 : Int64))))
def Q4 (Z : State) (x0 : Int32) (x1 : Int64) (x2 : Int64) (h0 : Heap) (n0 : Nat) (v : Option Value) (h : Heap) (L : List Loc) : Prop := v = some (.long (own_F4 x0 x1 x2)) ∧ Fr n0 L ∧ h = h0
set_option maxRecDepth 65536 in
set_option maxHeartbeats 40000000 in
theorem rm4 (l : Launch) (Z : State) (a0 : Array Value) (hw : ∀ d ∈ tables_1, d.before a0 Z = true) (ws : List Jvm.Cond) (x0 : Int32) (x1 : Int64) (x2 : Int64) (h0 : Heap) (n0 : Nat) (Z0 : n0 ≤ h0.size) :
    MetFree l (⟨"com/example/evident_ledger/evidentledger/MerkleTreeHeightPinLaw", "drawSize", "(IJJ)J"⟩ : MethodName) (head1 (Jvm.Cond.code (⟨"com/example/evident_ledger/evidentledger/MerkleTreeHeightPinLaw", "drawSize", "(IJJ)J"⟩ : MethodName) method_2_code 6 (some .long) :: ws) ({ frames := 0, cells := 0, slots := 0, locals := 0 } : Room)) (fun a U => a = #[(.int x0), (.long x1), (.long x2)] ∧ Z.Warmed39 U.vm ∧ U.heap = h0) (fun _ _ _ _ _ => True) (fun _ U o U' => ∃ v L, o = .returned v ∧ Q4 Z x0 x1 x2 h0 n0 v U'.heap L ∧ FrameEnd U o U' L ({ frames := 0, cells := 0, slots := 0, locals := 0 } : Room).cells ({ frames := 0, cells := 0, slots := 0, locals := 0 } : Room).slots) := by
  refine MetFree.of_bodySF (plainFor_of_name pn4) hisR ?_
  intro p e s m args below meth c s₁ Bd hml0 hP hK
  obtain ⟨rfl, hZ, hh⟩ := hP
  have hx := Bd.exec
  have hby := Bd.bytes
  have hml : c.maxLocals = 6 := hml0
  have hown : s.vm.findClass "com/example/evident_ledger/evidentledger/MerkleTreeHeightPinLaw" = some m.cls := findClass_of_methodNamed Bd.named
  have hnm := (name_of_methodNamed Bd.named Bd.method).1
  have X0 : Stand p l e ({ frames := 0, cells := 0, slots := 0, locals := 0 } : Room) s m #[(.int x0), (.long x1), (.long x2)] below meth c s₁ [] 0 0 := Stand.of_body Bd
  have e0 : s₁.heap = h0 := by rw [← hh, Bd.state]; rfl
  have N0 := Fr.nil n0
  have pre0 : Steps p.tables e below (s₁.setTop (entryFrame m #[(.int x0), (.long x1), (.long x2)] 6)) (s₁.setTop (mkF m 0 #[.val (.int x0), .val (.long x1), .second, .val (.long x2), .second, .unset] [])) := castTop (ef4 m x0 x1 x2) (Steps.refl _)
  obtain ⟨v1, hv1⟩ : ∃ z : Int32, z = (x0 &&& (3 : Int32)) := ⟨_, rfl⟩
  have st2 : Steps p.tables e below (s₁.setTop (mkF m 0 #[.val (.int x0), .val (.long x1), .second, .val (.long x2), .second, .unset] [])) (s₁.setTop (mkF m 8 #[.val (.int x0), .val (.long x1), .second, .val (.long x2), .second, .val (.int v1)] [(.int (1 : Int32)), (.int v1)])) := by
    subst v1
    refine XS.iloadN X0.here hx rfl (hb hby d4_0) rfl ?_
    show Steps p.tables e below (s₁.setTop (mkF m 1 #[.val (.int x0), .val (.long x1), .second, .val (.long x2), .second, .unset] [(.int x0)])) _
    refine XS.iconst X0.here hx rfl (hb hby d4_1) ?_
    show Steps p.tables e below (s₁.setTop (mkF m 2 #[.val (.int x0), .val (.long x1), .second, .val (.long x2), .second, .unset] [(.int (3 : Int32)), (.int x0)])) _
    refine XS.iand X0.here hx rfl (hb hby d4_2) rfl ?_
    show Steps p.tables e below (s₁.setTop (mkF m 3 #[.val (.int x0), .val (.long x1), .second, .val (.long x2), .second, .unset] [(.int (x0 &&& (3 : Int32)))])) _
    refine XS.istore X0.here hx rfl (hb hby d4_3) rfl (l' := #[.val (.int x0), .val (.long x1), .second, .val (.long x2), .second, .val (.int (x0 &&& (3 : Int32)))]) rfl ?_
    show Steps p.tables e below (s₁.setTop (mkF m 5 #[.val (.int x0), .val (.long x1), .second, .val (.long x2), .second, .val (.int (x0 &&& (3 : Int32)))] [])) _
    refine XS.iload X0.here hx rfl (hb hby d4_5) rfl ?_
    show Steps p.tables e below (s₁.setTop (mkF m 7 #[.val (.int x0), .val (.long x1), .second, .val (.long x2), .second, .val (.int (x0 &&& (3 : Int32)))] [(.int (x0 &&& (3 : Int32)))])) _
    refine XS.iconst X0.here hx rfl (hb hby d4_7) ?_
    show Steps p.tables e below (s₁.setTop (mkF m 8 #[.val (.int x0), .val (.long x1), .second, .val (.long x2), .second, .val (.int (x0 &&& (3 : Int32)))] [(.int (1 : Int32)), (.int (x0 &&& (3 : Int32)))])) _
    exact Steps.refl _
  have pre2 := pre0.trans st2
  by_cases hc8 : v1 = (1 : Int32)
  · have st3 : Steps p.tables e below (s₁.setTop (mkF m 8 #[.val (.int x0), .val (.long x1), .second, .val (.long x2), .second, .val (.int v1)] [(.int (1 : Int32)), (.int v1)])) (s₁.setTop (mkF m 11 #[.val (.int x0), .val (.long x1), .second, .val (.long x2), .second, .val (.int v1)] [])) := by
      refine XS.icmpNo X0.here hx rfl (hb hby d4_8) rfl (teq hc8).2 ?_
      exact Steps.refl _
    have pre3 := pre2.trans st3
    obtain ⟨v4, hv4⟩ : ∃ z : Int64, z = (x1 &&& (255 : Int64)) := ⟨_, rfl⟩
    have st5 : Steps p.tables e below (s₁.setTop (mkF m 11 #[.val (.int x0), .val (.long x1), .second, .val (.long x2), .second, .val (.int v1)] [])) (s₁.setTop (mkF m 16 #[.val (.int x0), .val (.long x1), .second, .val (.long x2), .second, .val (.int v1)] [(.long v4)])) := by
      subst v4
      refine XS.lloadN X0.here hx rfl (hb hby d4_11) rfl ?_
      show Steps p.tables e below (s₁.setTop (mkF m 12 #[.val (.int x0), .val (.long x1), .second, .val (.long x2), .second, .val (.int v1)] [(.long x1)])) _
      refine X0.ldc2Long hx hown (mvT hZ (hw _ (List.mem_of_getElem? (i := 21) rfl))) (g := (mkF m 12 #[.val (.int x0), .val (.long x1), .second, .val (.long x2), .second, .val (.int v1)] [(.long x1)])) rfl (hb hby d4_12) _ ?_
      show Steps p.tables e below (s₁.setTop (mkF m 15 #[.val (.int x0), .val (.long x1), .second, .val (.long x2), .second, .val (.int v1)] [(.long (255 : Int64)), (.long x1)])) _
      refine XS.land X0.here hx rfl (hb hby d4_15) rfl ?_
      show Steps p.tables e below (s₁.setTop (mkF m 16 #[.val (.int x0), .val (.long x1), .second, .val (.long x2), .second, .val (.int v1)] [(.long (x1 &&& (255 : Int64)))])) _
      exact Steps.refl _
    have pre5 := pre3.trans st5
    obtain ⟨fs, hr, hrun, hended, hW, hsame⟩ := X0.leave (v := some (.long v4)) (fun h => by rw [Bd.returns] at h; cases h)
    refine ⟨_, _, pre5.trans ?_, hrun, hended, _, _, rfl, ?_, ⟨_, rfl⟩, hW, hsame.mono (by decide) (by decide)⟩
    · show Steps p.tables e below (s₁.setTop (mkF m 16 #[.val (.int x0), .val (.long x1), .second, .val (.long x2), .second, .val (.int v1)] [(.long v4)])) _
      jvm_step X0.here [X0.here.top, hx, (hb hby d4_16), X0.method', Bd.returns, narrow]
      first | (intro acts; rw [hr _ acts rfl rfl rfl]) | rw [hr _ _ rfl rfl rfl]
      exact Steps.refl _
    · show Q4 Z x0 x1 x2 h0 n0 _ s₁.heap _
      rw [e0]
      have hF : own_F4 x0 x1 x2 = v4 := by
        subst v4 v1
        simp only [own_F4, if_pos hc8]
      exact ⟨by rw [hF], N0, rfl⟩
  · have st6 : Steps p.tables e below (s₁.setTop (mkF m 8 #[.val (.int x0), .val (.long x1), .second, .val (.long x2), .second, .val (.int v1)] [(.int (1 : Int32)), (.int v1)])) (s₁.setTop (mkF m 17 #[.val (.int x0), .val (.long x1), .second, .val (.long x2), .second, .val (.int v1)] [])) := by
      refine XS.icmpYes X0.here hx rfl (pc0 := 8) (pc' := 17) rfl (hb hby d4_8) rfl (feq hc8).2 (by decide) (by decide) ?_
      exact Steps.refl _
    have pre6 := pre2.trans st6
    have st7 : Steps p.tables e below (s₁.setTop (mkF m 17 #[.val (.int x0), .val (.long x1), .second, .val (.long x2), .second, .val (.int v1)] [])) (s₁.setTop (mkF m 20 #[.val (.int x0), .val (.long x1), .second, .val (.long x2), .second, .val (.int v1)] [(.int (2 : Int32)), (.int v1)])) := by
      refine XS.iload X0.here hx rfl (hb hby d4_17) rfl ?_
      show Steps p.tables e below (s₁.setTop (mkF m 19 #[.val (.int x0), .val (.long x1), .second, .val (.long x2), .second, .val (.int v1)] [(.int v1)])) _
      refine XS.iconst X0.here hx rfl (hb hby d4_19) ?_
      show Steps p.tables e below (s₁.setTop (mkF m 20 #[.val (.int x0), .val (.long x1), .second, .val (.long x2), .second, .val (.int v1)] [(.int (2 : Int32)), (.int v1)])) _
      exact Steps.refl _
    have pre7 := pre6.trans st7
    by_cases hc20 : v1 = (2 : Int32)
    · have st8 : Steps p.tables e below (s₁.setTop (mkF m 20 #[.val (.int x0), .val (.long x1), .second, .val (.long x2), .second, .val (.int v1)] [(.int (2 : Int32)), (.int v1)])) (s₁.setTop (mkF m 23 #[.val (.int x0), .val (.long x1), .second, .val (.long x2), .second, .val (.int v1)] [])) := by
        refine XS.icmpNo X0.here hx rfl (hb hby d4_20) rfl (teq hc20).2 ?_
        exact Steps.refl _
      have pre8 := pre7.trans st8
      obtain ⟨v9, hv9⟩ : ∃ z : Int64, z = (((((1 : Int64) <<< (((x2 &&& (63 : Int64)).toInt32) &&& 0x3f).toInt64) + ((x2 >>> ((6 : Int32) &&& 0x3f).toInt64) &&& (3 : Int64))) - (2 : Int64)) &&& (9223372036854775807 : Int64)) := ⟨_, rfl⟩
      have st10 : Steps p.tables e below (s₁.setTop (mkF m 23 #[.val (.int x0), .val (.long x1), .second, .val (.long x2), .second, .val (.int v1)] [])) (s₁.setTop (mkF m 48 #[.val (.int x0), .val (.long x1), .second, .val (.long x2), .second, .val (.int v1)] [(.long v9)])) := by
        subst v9
        refine XS.lconst X0.here hx rfl (hb hby d4_23) ?_
        show Steps p.tables e below (s₁.setTop (mkF m 24 #[.val (.int x0), .val (.long x1), .second, .val (.long x2), .second, .val (.int v1)] [(.long (1 : Int64))])) _
        refine XS.lloadN X0.here hx rfl (hb hby d4_24) rfl ?_
        show Steps p.tables e below (s₁.setTop (mkF m 25 #[.val (.int x0), .val (.long x1), .second, .val (.long x2), .second, .val (.int v1)] [(.long x2), (.long (1 : Int64))])) _
        refine X0.ldc2Long hx hown (mvT hZ (hw _ (List.mem_of_getElem? (i := 18) rfl))) (g := (mkF m 25 #[.val (.int x0), .val (.long x1), .second, .val (.long x2), .second, .val (.int v1)] [(.long x2), (.long (1 : Int64))])) rfl (hb hby d4_25) _ ?_
        show Steps p.tables e below (s₁.setTop (mkF m 28 #[.val (.int x0), .val (.long x1), .second, .val (.long x2), .second, .val (.int v1)] [(.long (63 : Int64)), (.long x2), (.long (1 : Int64))])) _
        refine XS.land X0.here hx rfl (hb hby d4_28) rfl ?_
        show Steps p.tables e below (s₁.setTop (mkF m 29 #[.val (.int x0), .val (.long x1), .second, .val (.long x2), .second, .val (.int v1)] [(.long (x2 &&& (63 : Int64))), (.long (1 : Int64))])) _
        refine XS.l2i X0.here hx rfl (hb hby d4_29) rfl ?_
        show Steps p.tables e below (s₁.setTop (mkF m 30 #[.val (.int x0), .val (.long x1), .second, .val (.long x2), .second, .val (.int v1)] [(.int ((x2 &&& (63 : Int64)).toInt32)), (.long (1 : Int64))])) _
        refine XS.lshl X0.here hx rfl (hb hby d4_30) rfl ?_
        show Steps p.tables e below (s₁.setTop (mkF m 31 #[.val (.int x0), .val (.long x1), .second, .val (.long x2), .second, .val (.int v1)] [(.long ((1 : Int64) <<< (((x2 &&& (63 : Int64)).toInt32) &&& 0x3f).toInt64))])) _
        refine XS.lloadN X0.here hx rfl (hb hby d4_31) rfl ?_
        show Steps p.tables e below (s₁.setTop (mkF m 32 #[.val (.int x0), .val (.long x1), .second, .val (.long x2), .second, .val (.int v1)] [(.long x2), (.long ((1 : Int64) <<< (((x2 &&& (63 : Int64)).toInt32) &&& 0x3f).toInt64))])) _
        refine XS.bipush X0.here hx rfl (hb hby d4_32) ?_
        show Steps p.tables e below (s₁.setTop (mkF m 34 #[.val (.int x0), .val (.long x1), .second, .val (.long x2), .second, .val (.int v1)] [(.int (6 : Int32)), (.long x2), (.long ((1 : Int64) <<< (((x2 &&& (63 : Int64)).toInt32) &&& 0x3f).toInt64))])) _
        refine XS.lshr X0.here hx rfl (hb hby d4_34) rfl ?_
        show Steps p.tables e below (s₁.setTop (mkF m 35 #[.val (.int x0), .val (.long x1), .second, .val (.long x2), .second, .val (.int v1)] [(.long (x2 >>> ((6 : Int32) &&& 0x3f).toInt64)), (.long ((1 : Int64) <<< (((x2 &&& (63 : Int64)).toInt32) &&& 0x3f).toInt64))])) _
        refine X0.ldc2Long hx hown (mvT hZ (hw _ (List.mem_of_getElem? (i := 19) rfl))) (g := (mkF m 35 #[.val (.int x0), .val (.long x1), .second, .val (.long x2), .second, .val (.int v1)] [(.long (x2 >>> ((6 : Int32) &&& 0x3f).toInt64)), (.long ((1 : Int64) <<< (((x2 &&& (63 : Int64)).toInt32) &&& 0x3f).toInt64))])) rfl (hb hby d4_35) _ ?_
        show Steps p.tables e below (s₁.setTop (mkF m 38 #[.val (.int x0), .val (.long x1), .second, .val (.long x2), .second, .val (.int v1)] [(.long (3 : Int64)), (.long (x2 >>> ((6 : Int32) &&& 0x3f).toInt64)), (.long ((1 : Int64) <<< (((x2 &&& (63 : Int64)).toInt32) &&& 0x3f).toInt64))])) _
        refine XS.land X0.here hx rfl (hb hby d4_38) rfl ?_
        show Steps p.tables e below (s₁.setTop (mkF m 39 #[.val (.int x0), .val (.long x1), .second, .val (.long x2), .second, .val (.int v1)] [(.long ((x2 >>> ((6 : Int32) &&& 0x3f).toInt64) &&& (3 : Int64))), (.long ((1 : Int64) <<< (((x2 &&& (63 : Int64)).toInt32) &&& 0x3f).toInt64))])) _
        refine XS.ladd X0.here hx rfl (hb hby d4_39) rfl ?_
        show Steps p.tables e below (s₁.setTop (mkF m 40 #[.val (.int x0), .val (.long x1), .second, .val (.long x2), .second, .val (.int v1)] [(.long (((1 : Int64) <<< (((x2 &&& (63 : Int64)).toInt32) &&& 0x3f).toInt64) + ((x2 >>> ((6 : Int32) &&& 0x3f).toInt64) &&& (3 : Int64))))])) _
        refine X0.ldc2Long hx hown (mvT hZ (hw _ (List.mem_of_getElem? (i := 20) rfl))) (g := (mkF m 40 #[.val (.int x0), .val (.long x1), .second, .val (.long x2), .second, .val (.int v1)] [(.long (((1 : Int64) <<< (((x2 &&& (63 : Int64)).toInt32) &&& 0x3f).toInt64) + ((x2 >>> ((6 : Int32) &&& 0x3f).toInt64) &&& (3 : Int64))))])) rfl (hb hby d4_40) _ ?_
        show Steps p.tables e below (s₁.setTop (mkF m 43 #[.val (.int x0), .val (.long x1), .second, .val (.long x2), .second, .val (.int v1)] [(.long (2 : Int64)), (.long (((1 : Int64) <<< (((x2 &&& (63 : Int64)).toInt32) &&& 0x3f).toInt64) + ((x2 >>> ((6 : Int32) &&& 0x3f).toInt64) &&& (3 : Int64))))])) _
        refine XS.lsub X0.here hx rfl (hb hby d4_43) rfl ?_
        show Steps p.tables e below (s₁.setTop (mkF m 44 #[.val (.int x0), .val (.long x1), .second, .val (.long x2), .second, .val (.int v1)] [(.long ((((1 : Int64) <<< (((x2 &&& (63 : Int64)).toInt32) &&& 0x3f).toInt64) + ((x2 >>> ((6 : Int32) &&& 0x3f).toInt64) &&& (3 : Int64))) - (2 : Int64)))])) _
        refine X0.ldc2Long hx hown (mvT hZ (hw _ (List.mem_of_getElem? (i := 4) rfl))) (g := (mkF m 44 #[.val (.int x0), .val (.long x1), .second, .val (.long x2), .second, .val (.int v1)] [(.long ((((1 : Int64) <<< (((x2 &&& (63 : Int64)).toInt32) &&& 0x3f).toInt64) + ((x2 >>> ((6 : Int32) &&& 0x3f).toInt64) &&& (3 : Int64))) - (2 : Int64)))])) rfl (hb hby d4_44) _ ?_
        show Steps p.tables e below (s₁.setTop (mkF m 47 #[.val (.int x0), .val (.long x1), .second, .val (.long x2), .second, .val (.int v1)] [(.long (9223372036854775807 : Int64)), (.long ((((1 : Int64) <<< (((x2 &&& (63 : Int64)).toInt32) &&& 0x3f).toInt64) + ((x2 >>> ((6 : Int32) &&& 0x3f).toInt64) &&& (3 : Int64))) - (2 : Int64)))])) _
        refine XS.land X0.here hx rfl (hb hby d4_47) rfl ?_
        show Steps p.tables e below (s₁.setTop (mkF m 48 #[.val (.int x0), .val (.long x1), .second, .val (.long x2), .second, .val (.int v1)] [(.long (((((1 : Int64) <<< (((x2 &&& (63 : Int64)).toInt32) &&& 0x3f).toInt64) + ((x2 >>> ((6 : Int32) &&& 0x3f).toInt64) &&& (3 : Int64))) - (2 : Int64)) &&& (9223372036854775807 : Int64)))])) _
        exact Steps.refl _
      have pre10 := pre8.trans st10
      obtain ⟨fs, hr, hrun, hended, hW, hsame⟩ := X0.leave (v := some (.long v9)) (fun h => by rw [Bd.returns] at h; cases h)
      refine ⟨_, _, pre10.trans ?_, hrun, hended, _, _, rfl, ?_, ⟨_, rfl⟩, hW, hsame.mono (by decide) (by decide)⟩
      · show Steps p.tables e below (s₁.setTop (mkF m 48 #[.val (.int x0), .val (.long x1), .second, .val (.long x2), .second, .val (.int v1)] [(.long v9)])) _
        jvm_step X0.here [X0.here.top, hx, (hb hby d4_48), X0.method', Bd.returns, narrow]
        first | (intro acts; rw [hr _ acts rfl rfl rfl]) | rw [hr _ _ rfl rfl rfl]
        exact Steps.refl _
      · show Q4 Z x0 x1 x2 h0 n0 _ s₁.heap _
        rw [e0]
        have hF : own_F4 x0 x1 x2 = v9 := by
          subst v9 v1
          simp only [own_F4, if_neg hc8, if_pos hc20]
        exact ⟨by rw [hF], N0, rfl⟩
    · have st11 : Steps p.tables e below (s₁.setTop (mkF m 20 #[.val (.int x0), .val (.long x1), .second, .val (.long x2), .second, .val (.int v1)] [(.int (2 : Int32)), (.int v1)])) (s₁.setTop (mkF m 49 #[.val (.int x0), .val (.long x1), .second, .val (.long x2), .second, .val (.int v1)] [])) := by
        refine XS.icmpYes X0.here hx rfl (pc0 := 20) (pc' := 49) rfl (hb hby d4_20) rfl (feq hc20).2 (by decide) (by decide) ?_
        exact Steps.refl _
      have pre11 := pre7.trans st11
      obtain ⟨v12, hv12⟩ : ∃ z : Int64, z = (x1 &&& (9223372036854775807 : Int64)) := ⟨_, rfl⟩
      have st13 : Steps p.tables e below (s₁.setTop (mkF m 49 #[.val (.int x0), .val (.long x1), .second, .val (.long x2), .second, .val (.int v1)] [])) (s₁.setTop (mkF m 54 #[.val (.int x0), .val (.long x1), .second, .val (.long x2), .second, .val (.int v1)] [(.long v12)])) := by
        subst v12
        refine XS.lloadN X0.here hx rfl (hb hby d4_49) rfl ?_
        show Steps p.tables e below (s₁.setTop (mkF m 50 #[.val (.int x0), .val (.long x1), .second, .val (.long x2), .second, .val (.int v1)] [(.long x1)])) _
        refine X0.ldc2Long hx hown (mvT hZ (hw _ (List.mem_of_getElem? (i := 4) rfl))) (g := (mkF m 50 #[.val (.int x0), .val (.long x1), .second, .val (.long x2), .second, .val (.int v1)] [(.long x1)])) rfl (hb hby d4_50) _ ?_
        show Steps p.tables e below (s₁.setTop (mkF m 53 #[.val (.int x0), .val (.long x1), .second, .val (.long x2), .second, .val (.int v1)] [(.long (9223372036854775807 : Int64)), (.long x1)])) _
        refine XS.land X0.here hx rfl (hb hby d4_53) rfl ?_
        show Steps p.tables e below (s₁.setTop (mkF m 54 #[.val (.int x0), .val (.long x1), .second, .val (.long x2), .second, .val (.int v1)] [(.long (x1 &&& (9223372036854775807 : Int64)))])) _
        exact Steps.refl _
      have pre13 := pre11.trans st13
      obtain ⟨fs, hr, hrun, hended, hW, hsame⟩ := X0.leave (v := some (.long v12)) (fun h => by rw [Bd.returns] at h; cases h)
      refine ⟨_, _, pre13.trans ?_, hrun, hended, _, _, rfl, ?_, ⟨_, rfl⟩, hW, hsame.mono (by decide) (by decide)⟩
      · show Steps p.tables e below (s₁.setTop (mkF m 54 #[.val (.int x0), .val (.long x1), .second, .val (.long x2), .second, .val (.int v1)] [(.long v12)])) _
        jvm_step X0.here [X0.here.top, hx, (hb hby d4_54), X0.method', Bd.returns, narrow]
        first | (intro acts; rw [hr _ acts rfl rfl rfl]) | rw [hr _ _ rfl rfl rfl]
        exact Steps.refl _
      · show Q4 Z x0 x1 x2 h0 n0 _ s₁.heap _
        rw [e0]
        have hF : own_F4 x0 x1 x2 = v12 := by
          subst v12 v1
          simp only [own_F4, if_neg hc8, if_neg hc20]
        exact ⟨by rw [hF], N0, rfl⟩
theorem own_s16 {i n i' n' : Int32} (hi : i' = (if i < (65536 : Int32) then i else ((i.toUInt32 >>> ((16 : Int32) &&& 31).toUInt32).toInt32))) (hn : n' = (if i < (65536 : Int32) then n else (n + (-16 : Int32)))) (h1 : 1 ≤ i.toInt) (h2 : i.toInt < 2147483648) (h3 : 0 ≤ n.toInt) (h4 : n.toInt ≤ 31) :
    (i'.toInt = i.toInt ∧ n'.toInt = n.toInt ∧ 1 ≤ i'.toInt ∧ i'.toInt < 65536) ∨ (i'.toInt = i.toInt / 65536 ∧ n'.toInt = n.toInt - 16 ∧ 1 ≤ i'.toInt ∧ i'.toInt < 65536) := by
  have eB : (65536 : Int32).toInt = 65536 := by decide
  have eb : (-16 : Int32).toInt = -16 := by decide
  have s := c_iushr i (16 : Int32) 16 (by decide) (by decide)
  have a := c_iadd n (-16 : Int32)
  have r := rng32 (n + (-16 : Int32))
  have ep : ((2 ^ 16 : Nat) : Int) = 65536 := by decide
  rw [ep] at s
  by_cases c : i < (65536 : Int32)
  · rw [if_pos c] at hi hn
    rw [Int32.lt_iff_toInt_lt] at c
    subst hi hn
    left; omega
  · rw [if_neg c] at hi hn
    rw [Int32.lt_iff_toInt_lt] at c
    subst hi hn
    right; omega
theorem own_s8 {i n i' n' : Int32} (hi : i' = (if i < (256 : Int32) then i else ((i.toUInt32 >>> ((8 : Int32) &&& 31).toUInt32).toInt32))) (hn : n' = (if i < (256 : Int32) then n else (n + (-8 : Int32)))) (h1 : 1 ≤ i.toInt) (h2 : i.toInt < 65536) (h3 : 0 ≤ n.toInt) (h4 : n.toInt ≤ 31) :
    (i'.toInt = i.toInt ∧ n'.toInt = n.toInt ∧ 1 ≤ i'.toInt ∧ i'.toInt < 256) ∨ (i'.toInt = i.toInt / 256 ∧ n'.toInt = n.toInt - 8 ∧ 1 ≤ i'.toInt ∧ i'.toInt < 256) := by
  have eB : (256 : Int32).toInt = 256 := by decide
  have eb : (-8 : Int32).toInt = -8 := by decide
  have s := c_iushr i (8 : Int32) 8 (by decide) (by decide)
  have a := c_iadd n (-8 : Int32)
  have r := rng32 (n + (-8 : Int32))
  have ep : ((2 ^ 8 : Nat) : Int) = 256 := by decide
  rw [ep] at s
  by_cases c : i < (256 : Int32)
  · rw [if_pos c] at hi hn
    rw [Int32.lt_iff_toInt_lt] at c
    subst hi hn
    left; omega
  · rw [if_neg c] at hi hn
    rw [Int32.lt_iff_toInt_lt] at c
    subst hi hn
    right; omega
theorem own_s4 {i n i' n' : Int32} (hi : i' = (if i < (16 : Int32) then i else ((i.toUInt32 >>> ((4 : Int32) &&& 31).toUInt32).toInt32))) (hn : n' = (if i < (16 : Int32) then n else (n + (-4 : Int32)))) (h1 : 1 ≤ i.toInt) (h2 : i.toInt < 256) (h3 : 0 ≤ n.toInt) (h4 : n.toInt ≤ 31) :
    (i'.toInt = i.toInt ∧ n'.toInt = n.toInt ∧ 1 ≤ i'.toInt ∧ i'.toInt < 16) ∨ (i'.toInt = i.toInt / 16 ∧ n'.toInt = n.toInt - 4 ∧ 1 ≤ i'.toInt ∧ i'.toInt < 16) := by
  have eB : (16 : Int32).toInt = 16 := by decide
  have eb : (-4 : Int32).toInt = -4 := by decide
  have s := c_iushr i (4 : Int32) 4 (by decide) (by decide)
  have a := c_iadd n (-4 : Int32)
  have r := rng32 (n + (-4 : Int32))
  have ep : ((2 ^ 4 : Nat) : Int) = 16 := by decide
  rw [ep] at s
  by_cases c : i < (16 : Int32)
  · rw [if_pos c] at hi hn
    rw [Int32.lt_iff_toInt_lt] at c
    subst hi hn
    left; omega
  · rw [if_neg c] at hi hn
    rw [Int32.lt_iff_toInt_lt] at c
    subst hi hn
    right; omega
theorem own_s2 {i n i' n' : Int32} (hi : i' = (if i < (4 : Int32) then i else ((i.toUInt32 >>> ((2 : Int32) &&& 31).toUInt32).toInt32))) (hn : n' = (if i < (4 : Int32) then n else (n + (-2 : Int32)))) (h1 : 1 ≤ i.toInt) (h2 : i.toInt < 16) (h3 : 0 ≤ n.toInt) (h4 : n.toInt ≤ 31) :
    (i'.toInt = i.toInt ∧ n'.toInt = n.toInt ∧ 1 ≤ i'.toInt ∧ i'.toInt < 4) ∨ (i'.toInt = i.toInt / 4 ∧ n'.toInt = n.toInt - 2 ∧ 1 ≤ i'.toInt ∧ i'.toInt < 4) := by
  have eB : (4 : Int32).toInt = 4 := by decide
  have eb : (-2 : Int32).toInt = -2 := by decide
  have s := c_iushr i (2 : Int32) 2 (by decide) (by decide)
  have a := c_iadd n (-2 : Int32)
  have r := rng32 (n + (-2 : Int32))
  have ep : ((2 ^ 2 : Nat) : Int) = 4 := by decide
  rw [ep] at s
  by_cases c : i < (4 : Int32)
  · rw [if_pos c] at hi hn
    rw [Int32.lt_iff_toInt_lt] at c
    subst hi hn
    left; omega
  · rw [if_neg c] at hi hn
    rw [Int32.lt_iff_toInt_lt] at c
    subst hi hn
    right; omega
theorem own_n32 (x : Int32) (h : 0 < x.toInt) : ∃ k : Nat, k ≤ 30 ∧ (own_F1 x).toInt = 31 - k ∧ (2 : Int) ^ k ≤ x.toInt ∧ x.toInt < 2 ^ (k + 1) := by
  have e0 : (0 : Int32).toInt = 0 := by decide
  have e31 : (31 : Int32).toInt = 31 := by decide
  have hc : (0 : Int32) < x := by rw [Int32.lt_iff_toInt_lt]; omega
  have hx := rng32 x
  obtain ⟨n1, hn1⟩ : ∃ z : Int32, z = (if x < (65536 : Int32) then (31 : Int32) else ((31 : Int32) + (-16 : Int32))) := ⟨_, rfl⟩
  obtain ⟨i1, hi1⟩ : ∃ z : Int32, z = (if x < (65536 : Int32) then x else ((x.toUInt32 >>> ((16 : Int32) &&& 31).toUInt32).toInt32)) := ⟨_, rfl⟩
  obtain ⟨n2, hn2⟩ : ∃ z : Int32, z = (if i1 < (256 : Int32) then n1 else (n1 + (-8 : Int32))) := ⟨_, rfl⟩
  obtain ⟨i2, hi2⟩ : ∃ z : Int32, z = (if i1 < (256 : Int32) then i1 else ((i1.toUInt32 >>> ((8 : Int32) &&& 31).toUInt32).toInt32)) := ⟨_, rfl⟩
  obtain ⟨n3, hn3⟩ : ∃ z : Int32, z = (if i2 < (16 : Int32) then n2 else (n2 + (-4 : Int32))) := ⟨_, rfl⟩
  obtain ⟨i3, hi3⟩ : ∃ z : Int32, z = (if i2 < (16 : Int32) then i2 else ((i2.toUInt32 >>> ((4 : Int32) &&& 31).toUInt32).toInt32)) := ⟨_, rfl⟩
  obtain ⟨n4, hn4⟩ : ∃ z : Int32, z = (if i3 < (4 : Int32) then n3 else (n3 + (-2 : Int32))) := ⟨_, rfl⟩
  obtain ⟨i4, hi4⟩ : ∃ z : Int32, z = (if i3 < (4 : Int32) then i3 else ((i3.toUInt32 >>> ((2 : Int32) &&& 31).toUInt32).toInt32)) := ⟨_, rfl⟩
  have hF : own_F1 x = (n4 - ((i4.toUInt32 >>> ((1 : Int32) &&& 31).toUInt32).toInt32)) := by
    subst hi4 hn4 hi3 hn3 hi2 hn2 hi1 hn1
    unfold own_F1
    rw [if_pos hc]
    all_goals rfl
  have sf := c_iushr i4 (1 : Int32) 1 (by decide) (by decide)
  have ep : ((2 ^ 1 : Nat) : Int) = 2 := by decide
  rw [ep] at sf
  have sg := c_isub n4 ((i4.toUInt32 >>> ((1 : Int32) &&& 31).toUInt32).toInt32)
  have sr := rng32 (n4 - ((i4.toUInt32 >>> ((1 : Int32) &&& 31).toUInt32).toInt32))
  rw [← hF] at sg sr
  rcases own_s16 hi1 hn1 (by omega) (by omega) (by omega) (by omega) with q1 | q1
  · rcases own_s8 hi2 hn2 (by omega) (by omega) (by omega) (by omega) with q2 | q2
    · rcases own_s4 hi3 hn3 (by omega) (by omega) (by omega) (by omega) with q3 | q3
      · rcases own_s2 hi4 hn4 (by omega) (by omega) (by omega) (by omega) with q4 | q4
        · by_cases cc : i4.toInt < 2
          · exact ⟨0, by decide, by omega, by omega, by omega⟩
          · exact ⟨1, by decide, by omega, by omega, by omega⟩
        · by_cases cc : i4.toInt < 2
          · exact ⟨2, by decide, by omega, by omega, by omega⟩
          · exact ⟨3, by decide, by omega, by omega, by omega⟩
      · rcases own_s2 hi4 hn4 (by omega) (by omega) (by omega) (by omega) with q4 | q4
        · by_cases cc : i4.toInt < 2
          · exact ⟨4, by decide, by omega, by omega, by omega⟩
          · exact ⟨5, by decide, by omega, by omega, by omega⟩
        · by_cases cc : i4.toInt < 2
          · exact ⟨6, by decide, by omega, by omega, by omega⟩
          · exact ⟨7, by decide, by omega, by omega, by omega⟩
    · rcases own_s4 hi3 hn3 (by omega) (by omega) (by omega) (by omega) with q3 | q3
      · rcases own_s2 hi4 hn4 (by omega) (by omega) (by omega) (by omega) with q4 | q4
        · by_cases cc : i4.toInt < 2
          · exact ⟨8, by decide, by omega, by omega, by omega⟩
          · exact ⟨9, by decide, by omega, by omega, by omega⟩
        · by_cases cc : i4.toInt < 2
          · exact ⟨10, by decide, by omega, by omega, by omega⟩
          · exact ⟨11, by decide, by omega, by omega, by omega⟩
      · rcases own_s2 hi4 hn4 (by omega) (by omega) (by omega) (by omega) with q4 | q4
        · by_cases cc : i4.toInt < 2
          · exact ⟨12, by decide, by omega, by omega, by omega⟩
          · exact ⟨13, by decide, by omega, by omega, by omega⟩
        · by_cases cc : i4.toInt < 2
          · exact ⟨14, by decide, by omega, by omega, by omega⟩
          · exact ⟨15, by decide, by omega, by omega, by omega⟩
  · rcases own_s8 hi2 hn2 (by omega) (by omega) (by omega) (by omega) with q2 | q2
    · rcases own_s4 hi3 hn3 (by omega) (by omega) (by omega) (by omega) with q3 | q3
      · rcases own_s2 hi4 hn4 (by omega) (by omega) (by omega) (by omega) with q4 | q4
        · by_cases cc : i4.toInt < 2
          · exact ⟨16, by decide, by omega, by omega, by omega⟩
          · exact ⟨17, by decide, by omega, by omega, by omega⟩
        · by_cases cc : i4.toInt < 2
          · exact ⟨18, by decide, by omega, by omega, by omega⟩
          · exact ⟨19, by decide, by omega, by omega, by omega⟩
      · rcases own_s2 hi4 hn4 (by omega) (by omega) (by omega) (by omega) with q4 | q4
        · by_cases cc : i4.toInt < 2
          · exact ⟨20, by decide, by omega, by omega, by omega⟩
          · exact ⟨21, by decide, by omega, by omega, by omega⟩
        · by_cases cc : i4.toInt < 2
          · exact ⟨22, by decide, by omega, by omega, by omega⟩
          · exact ⟨23, by decide, by omega, by omega, by omega⟩
    · rcases own_s4 hi3 hn3 (by omega) (by omega) (by omega) (by omega) with q3 | q3
      · rcases own_s2 hi4 hn4 (by omega) (by omega) (by omega) (by omega) with q4 | q4
        · by_cases cc : i4.toInt < 2
          · exact ⟨24, by decide, by omega, by omega, by omega⟩
          · exact ⟨25, by decide, by omega, by omega, by omega⟩
        · by_cases cc : i4.toInt < 2
          · exact ⟨26, by decide, by omega, by omega, by omega⟩
          · exact ⟨27, by decide, by omega, by omega, by omega⟩
      · rcases own_s2 hi4 hn4 (by omega) (by omega) (by omega) (by omega) with q4 | q4
        · by_cases cc : i4.toInt < 2
          · exact ⟨28, by decide, by omega, by omega, by omega⟩
          · exact ⟨29, by decide, by omega, by omega, by omega⟩
        · by_cases cc : i4.toInt < 2
          · exact ⟨30, by decide, by omega, by omega, by omega⟩
          · exfalso; omega
theorem own_neg32 (x : Int32) (h : x.toInt < 0) : (own_F1 x).toInt = 0 := by
  have e0 : (0 : Int32).toInt = 0 := by decide
  have hc : ¬ (0 : Int32) < x := by rw [Int32.lt_iff_toInt_lt]; omega
  have hz : ¬ x = (0 : Int32) := by rw [← Int32.toInt_inj]; omega
  have hF : own_F1 x = (0 : Int32) := by
    unfold own_F1
    rw [if_neg hc]
    simp only [if_neg hz]
  rw [hF, e0]
theorem own_n64 (x : Int64) (h : 0 < x.toInt) : ∃ k : Nat, k ≤ 62 ∧ (own_F2 x).toInt = 63 - k ∧ (2 : Int) ^ k ≤ x.toInt ∧ x.toInt < 2 ^ (k + 1) := by
  have e32 : (32 : Int32).toInt = 32 := by decide
  have e0 : (0 : Int32).toInt = 0 := by decide
  have hx := rng64 x
  have s := c_lushr x (32 : Int32) 32 (by decide) (by decide)
  have ep : ((2 ^ 32 : Nat) : Int) = 4294967296 := by decide
  rw [ep] at s
  obtain ⟨hi, hhi⟩ : ∃ z : Int32, z = (((x.toUInt64 >>> ((32 : Int32) &&& 0x3f).toInt64.toUInt64).toInt64).toInt32) := ⟨_, rfl⟩
  have c1 := c_l2i ((x.toUInt64 >>> ((32 : Int32) &&& 0x3f).toInt64.toUInt64).toInt64)
  rw [← hhi] at c1
  have r1 := rng32 hi
  have hv : hi.toInt = x.toInt / 4294967296 := by omega
  by_cases z : hi = (0 : Int32)
  · have hF : own_F2 x = ((32 : Int32) + own_F1 (x.toInt32)) := by
      simp only [own_F2]
      rw [← hhi, if_pos z]
    have zi : hi.toInt = 0 := by rw [z, e0]
    have c2 := c_l2i x
    have r2 := rng32 x.toInt32
    have a := c_iadd (32 : Int32) (own_F1 x.toInt32)
    have ar := rng32 ((32 : Int32) + own_F1 x.toInt32)
    rw [← hF] at a ar
    by_cases b : x.toInt < 2147483648
    · obtain ⟨k, k1, k2, k3, k4⟩ := own_n32 x.toInt32 (by omega)
      have ex : x.toInt32.toInt = x.toInt := by omega
      rw [ex] at k3 k4
      exact ⟨k, by omega, by omega, k3, k4⟩
    · have k := own_neg32 x.toInt32 (by omega)
      exact ⟨31, by decide, by omega, by omega, by omega⟩
  · have hF : own_F2 x = own_F1 hi := by
      simp only [own_F2]
      rw [← hhi, if_neg z]
    have zi : hi.toInt ≠ 0 := by rw [← e0]; intro q; exact z (Int32.toInt_inj.mp q)
    obtain ⟨k, k1, k2, k3, k4⟩ := own_n32 hi (by omega)
    have p1 : (2 : Int) ^ (k + 32) = 2 ^ k * 4294967296 := by rw [Int.pow_add]; rfl
    have p2 : (2 : Int) ^ (k + 32 + 1) = 2 ^ k * 8589934592 := by rw [Nat.add_assoc, Int.pow_add]; rfl
    have p3 : (2 : Int) ^ (k + 1) = 2 ^ k * 2 := by rw [Int.pow_add]; rfl
    refine ⟨k + 32, by omega, by rw [hF]; omega, ?_, ?_⟩
    · rw [p1]; omega
    · rw [p2]; rw [p3] at k4; omega
theorem own_shl {q : Int32} {k : Nat} (hk : q.toInt = k) (h : k ≤ 62) : ((1 : Int64) <<< (q &&& 0x3f).toInt64).toInt = 2 ^ k := by
  have hn : q.toBitVec.toNat % 64 = k := by
    have e : q.toBitVec.toInt = k := hk
    rw [BitVec.toInt_eq_toNat_cond] at e
    have := q.toBitVec.isLt
    split at e <;> omega
  have s := c_lshl (1 : Int64) q k hn
  have e1 : (1 : Int64).toInt = 1 := by decide
  have r := rng64 ((1 : Int64) <<< (q &&& 0x3f).toInt64)
  have p : (2 : Nat) ^ k ≤ 2 ^ 62 := Nat.pow_le_pow_right (by decide) h
  have p0 : 0 < (2 : Nat) ^ k := Nat.pow_pos (by decide)
  have p' : ((2 ^ k : Nat) : Int) = (2 : Int) ^ k := by simp
  rw [e1] at s
  have e62 : (2 : Nat) ^ 62 = 4611686018427387904 := by decide
  rw [← p']
  omega
theorem own_size {m : Int32} {a b v : Int64} (h : v = own_F4 m a b) : 0 ≤ v.toInt := by
  have k1 := fun p => c_maskL p (9223372036854775807 : Int64) 63 (by decide) (by decide)
  have k2 := fun p => c_maskL p (255 : Int64) 8 (by decide) (by decide)
  subst h
  simp only [own_F4]
  repeat' split
  all_goals first | (rw [k1]; omega) | (rw [k2]; omega)
theorem own_law {s : Int64} {h : Int32} (hs : 0 ≤ s.toInt) (hh : h = own_F3 s) : (¬ h < (0 : Int32)) ∧ (¬ (63 : Int32) < h) ∧ (¬ (1 : Int64) < s → h = (0 : Int32)) ∧ ((1 : Int64) < s → (¬ h = (0 : Int32)) ∧ ((1 : Int64) <<< ((h - (1 : Int32)) &&& 0x3f).toInt64) < s ∧ (¬ h = (63 : Int32) → ¬ ((1 : Int64) <<< (h &&& 0x3f).toInt64) < s)) := by
  have e0 : (0 : Int32).toInt = 0 := by decide
  have e1 : (1 : Int64).toInt = 1 := by decide
  have e2 : (1 : Int32).toInt = 1 := by decide
  have e63 : (63 : Int32).toInt = 63 := by decide
  have e64 : (64 : Int32).toInt = 64 := by decide
  by_cases c : (1 : Int64) < s
  · have hF : h = ((64 : Int32) - own_F2 (s - (1 : Int64))) := by rw [hh]; simp only [own_F3, if_pos c]
    have c' := c
    rw [Int64.lt_iff_toInt_lt, e1] at c'
    have a := c_lsub s (1 : Int64)
    have ar := rng64 (s - (1 : Int64))
    have sr := rng64 s
    have ev : (s - (1 : Int64)).toInt = s.toInt - 1 := by omega
    obtain ⟨k, k1, k2, k3, k4⟩ := own_n64 (s - (1 : Int64)) (by omega)
    have b := c_isub (64 : Int32) (own_F2 (s - (1 : Int64)))
    have br := rng32 ((64 : Int32) - own_F2 (s - (1 : Int64)))
    rw [← hF] at b br
    have hk : h.toInt = k + 1 := by omega
    have d := c_isub h (1 : Int32)
    have dr := rng32 (h - (1 : Int32))
    have q1 := own_shl (q := h - (1 : Int32)) (k := k) (by omega) k1
    refine ⟨by rw [Int32.lt_iff_toInt_lt]; omega, by rw [Int32.lt_iff_toInt_lt]; omega, fun n => absurd c n, fun _ => ⟨by rw [← Int32.toInt_inj]; omega, ?_, fun n => ?_⟩⟩
    · rw [Int64.lt_iff_toInt_lt, q1]; omega
    · have n' : ¬ h.toInt = 63 := by rw [← e63]; intro q; exact n (Int32.toInt_inj.mp q)
      have q2 := own_shl (q := h) (k := k + 1) (by omega) (by omega)
      rw [Int64.lt_iff_toInt_lt, q2]; omega
  · have hF : h = (0 : Int32) := by rw [hh]; simp only [own_F3, if_neg c]
    subst hF
    exact ⟨by decide, by decide, fun _ => rfl, fun n => absurd n c⟩
theorem pn0 : plainName "com/example/evident_ledger/evidentledger/MerkleTreeHeightPinLaw" = true := by first | (simp [plainName, overriddenIn]; done) | decide +kernel
theorem pd0_0 : parseMethodDescriptor "(IJJ)J" = some ⟨[.int, .long, .long], some .long⟩ := by decide +kernel
theorem pd0_1 : parseMethodDescriptor "(J)I" = some ⟨[.long], some .int⟩ := by decide +kernel
theorem ef0 (m : MethodId) (x0 : Int32) (x1 : Int64) (x2 : Int64) : entryFrame m #[(.int x0), (.long x1), (.long x2)] maxLocals = mkF m 0 #[.val (.int x0), .val (.long x1), .second, .val (.long x2), .second, .unset, .unset, .unset, .unset, .unset] [] := by first | (simp [entryFrame, mkF, argsToLocals, Value.category, maxLocals]; done) | rfl
def Q0 (Z : State) (x0 : Int32) (x1 : Int64) (x2 : Int64) (h0 : Heap) (n0 : Nat) (v : Option Value) (h : Heap) (L : List Loc) : Prop := v = some (.int 1) ∧ Fr n0 L
set_option maxRecDepth 65536 in
set_option maxHeartbeats 40000000 in
theorem rm0 (l : Launch) (Z : State) (a0 : Array Value) (hw : ∀ d ∈ tables_1, d.before a0 Z = true) (ws : List Jvm.Cond) (x0 : Int32) (x1 : Int64) (x2 : Int64) (h0 : Heap) (n0 : Nat) (Z0 : n0 ≤ h0.size) :
    MetFree l x (head1 (Jvm.Cond.code x code maxLocals ret :: ws) room_1) (fun a U => a = #[(.int x0), (.long x1), (.long x2)] ∧ Z.Warmed39 U.vm ∧ U.heap = h0) (fun _ _ _ _ _ => True) (fun _ U o U' => ∃ v L, o = .returned v ∧ Q0 Z x0 x1 x2 h0 n0 v U'.heap L ∧ FrameEnd U o U' L room_1.cells room_1.slots) := by
  refine MetFree.of_bodySF (plainFor_of_name pn0) hisR ?_
  intro p e s m args below meth c s₁ Bd hml0 hP hK
  obtain ⟨rfl, hZ, hh⟩ := hP
  have hx := Bd.exec
  have hby := Bd.bytes
  have hml : c.maxLocals = 10 := hml0
  have hown : s.vm.findClass "com/example/evident_ledger/evidentledger/MerkleTreeHeightPinLaw" = some m.cls := findClass_of_methodNamed Bd.named
  have hnm := (name_of_methodNamed Bd.named Bd.method).1
  have X0 : Stand p l e room_1 s m #[(.int x0), (.long x1), (.long x2)] below meth c s₁ [] 0 0 := Stand.of_body Bd
  have e0 : s₁.heap = h0 := by rw [← hh, Bd.state]; rfl
  have N0 := Fr.nil n0
  have pre0 : Steps p.tables e below (s₁.setTop (entryFrame m #[(.int x0), (.long x1), (.long x2)] maxLocals)) (s₁.setTop (mkF m 0 #[.val (.int x0), .val (.long x1), .second, .val (.long x2), .second, .unset, .unset, .unset, .unset, .unset] [])) := castTop (ef0 m x0 x1 x2) (Steps.refl _)
  have K0 := Keep.refl h0 []
  have st1 : Steps p.tables e below (s₁.setTop (mkF m 0 #[.val (.int x0), .val (.long x1), .second, .val (.long x2), .second, .unset, .unset, .unset, .unset, .unset] [])) (s₁.setTop (mkF m 3 #[.val (.int x0), .val (.long x1), .second, .val (.long x2), .second, .unset, .unset, .unset, .unset, .unset] [(.long x2), (.long x1), (.int x0)])) := by
    refine XS.iloadN X0.here hx rfl (hb hby at_0) rfl ?_
    show Steps p.tables e below (s₁.setTop (mkF m 1 #[.val (.int x0), .val (.long x1), .second, .val (.long x2), .second, .unset, .unset, .unset, .unset, .unset] [(.int x0)])) _
    refine XS.lloadN X0.here hx rfl (hb hby at_1) rfl ?_
    show Steps p.tables e below (s₁.setTop (mkF m 2 #[.val (.int x0), .val (.long x1), .second, .val (.long x2), .second, .unset, .unset, .unset, .unset, .unset] [(.long x1), (.int x0)])) _
    refine XS.lloadN X0.here hx rfl (hb hby at_2) rfl ?_
    show Steps p.tables e below (s₁.setTop (mkF m 3 #[.val (.int x0), .val (.long x1), .second, .val (.long x2), .second, .unset, .unset, .unset, .unset, .unset] [(.long x2), (.long x1), (.int x0)])) _
    exact Steps.refl _
  have pre1 := pre0.trans st1
  obtain ⟨_, _, ⟨T2, L2, k2, n2⟩, -, X2, ⟨Lc2, hQ2, l2, y2, z2⟩, st2⟩ := Jvm.LawKit.callS X0 hx (y := (⟨"com/example/evident_ledger/evidentledger/MerkleTreeHeightPinLaw", "drawSize", "(IJJ)J"⟩ : MethodName)) hown (mvT hZ (hw _ (List.mem_of_getElem? (i := 0) rfl))) (mvT hZ (hw _ (List.mem_of_getElem? (i := 1) rfl))) (mvT hZ (hw _ (List.mem_of_getElem? (i := 2) rfl))) (mvT hZ (hw _ (List.mem_of_getElem? (i := 3) rfl))) (by decide) (backOf (W := 0) (rm4 l Z a0 hw [] x0 x1 x2 h0 n0 Z0) hZ (hw _ (List.mem_of_getElem? (i := 3) rfl)) (hw _ (List.mem_of_getElem? (i := 2) rfl)) (by decide) (by decide)) (g := (mkF m 3 #[.val (.int x0), .val (.long x1), .second, .val (.long x2), .second, .unset, .unset, .unset, .unset, .unset] [(.long x2), (.long x1), (.int x0)])) rfl (by rw [hml]; rfl) (argsL := [(.int x0), (.long x1), (.long x2)]) (rest := []) (lenOf pd0_0 rfl) rfl (by show 2 * 0 + _ ≤ _; exact Nat.le_of_eq rfl) (hb hby at_3) (fun _ _ => ⟨rfl, e0, (by decide : 0 + 0 ≤ _), (by decide : 0 + 0 ≤ _)⟩)
  dsimp only [Pt.U, Pt.locs, Pt.cells, Pt.slots] at X2 l2 y2 z2 st2 hQ2
  subst l2 y2 z2
  obtain ⟨rfl, Nq2, e2⟩ := hQ2
  have N2 := Fr.app N0 Nq2
  have pre2 : Steps p.tables e below (s₁.setTop (entryFrame m #[(.int x0), (.long x1), (.long x2)] maxLocals)) (T2.setTop (mkF m 6 #[.val (.int x0), .val (.long x1), .second, .val (.long x2), .second, .unset, .unset, .unset, .unset, .unset] [(.long (own_F4 x0 x1 x2))])) := pre1.trans (st2 _ (Steps.refl _))
  obtain ⟨v3, hv3⟩ : ∃ z : Int64, z = (own_F4 x0 x1 x2) := ⟨_, rfl⟩
  have st4 : Steps p.tables e below (T2.setTop (mkF m 6 #[.val (.int x0), .val (.long x1), .second, .val (.long x2), .second, .unset, .unset, .unset, .unset, .unset] [(.long (own_F4 x0 x1 x2))])) (T2.setTop (mkF m 10 #[.val (.int x0), .val (.long x1), .second, .val (.long x2), .second, .val (.long v3), .second, .unset, .unset, .unset] [(.long v3)])) := by
    subst v3
    refine XS.lstore X2.here hx rfl (hb hby at_6) rfl (l' := #[.val (.int x0), .val (.long x1), .second, .val (.long x2), .second, .val (.long (own_F4 x0 x1 x2)), .second, .unset, .unset, .unset]) rfl ?_
    show Steps p.tables e below (T2.setTop (mkF m 8 #[.val (.int x0), .val (.long x1), .second, .val (.long x2), .second, .val (.long (own_F4 x0 x1 x2)), .second, .unset, .unset, .unset] [])) _
    refine XS.lload X2.here hx rfl (hb hby at_8) rfl ?_
    show Steps p.tables e below (T2.setTop (mkF m 10 #[.val (.int x0), .val (.long x1), .second, .val (.long x2), .second, .val (.long (own_F4 x0 x1 x2)), .second, .unset, .unset, .unset] [(.long (own_F4 x0 x1 x2))])) _
    exact Steps.refl _
  have pre4 := pre2.trans st4
  obtain ⟨_, _, ⟨T5, L5, k5, n5⟩, -, X5, ⟨Lc5, hQ5, l5, y5, z5⟩, st5⟩ := Jvm.LawKit.callS X2 hx (y := (⟨"com/example/evident_ledger/evidentledger/MerkleTree", "height", "(J)I"⟩ : MethodName)) hown (mvT hZ (hw _ (List.mem_of_getElem? (i := 5) rfl))) (mvT hZ (hw _ (List.mem_of_getElem? (i := 6) rfl))) (mvT hZ (hw _ (List.mem_of_getElem? (i := 7) rfl))) (mvT hZ (hw _ (List.mem_of_getElem? (i := 8) rfl))) (by decide) (backOf (W := 0) (rm3 l Z a0 hw [] v3 h0 n0 Z0) hZ (hw _ (List.mem_of_getElem? (i := 8) rfl)) (hw _ (List.mem_of_getElem? (i := 7) rfl)) (by decide) (by decide)) (g := (mkF m 10 #[.val (.int x0), .val (.long x1), .second, .val (.long x2), .second, .val (.long v3), .second, .unset, .unset, .unset] [(.long v3)])) rfl (by rw [hml]; rfl) (argsL := [(.long v3)]) (rest := []) (lenOf pd0_1 rfl) rfl (by show 2 * 0 + _ ≤ _; exact Nat.le_of_eq rfl) (hb hby at_10) (fun _ _ => ⟨rfl, e2, (by decide : 0 + 0 ≤ _), (by decide : 0 + 0 ≤ _)⟩)
  dsimp only [Pt.U, Pt.locs, Pt.cells, Pt.slots] at X5 l5 y5 z5 st5 hQ5
  subst l5 y5 z5
  obtain ⟨rfl, Nq5, e5⟩ := hQ5
  have N5 := Fr.app N2 Nq5
  have pre5 : Steps p.tables e below (s₁.setTop (entryFrame m #[(.int x0), (.long x1), (.long x2)] maxLocals)) (T5.setTop (mkF m 13 #[.val (.int x0), .val (.long x1), .second, .val (.long x2), .second, .val (.long v3), .second, .unset, .unset, .unset] [(.int (own_F3 v3))])) := pre4.trans (st5 _ (Steps.refl _))
  obtain ⟨v6, hv6⟩ : ∃ z : Int32, z = (own_F3 v3) := ⟨_, rfl⟩
  have st7 : Steps p.tables e below (T5.setTop (mkF m 13 #[.val (.int x0), .val (.long x1), .second, .val (.long x2), .second, .val (.long v3), .second, .unset, .unset, .unset] [(.int (own_F3 v3))])) (T5.setTop (mkF m 17 #[.val (.int x0), .val (.long x1), .second, .val (.long x2), .second, .val (.long v3), .second, .val (.int v6), .unset, .unset] [(.int v6)])) := by
    subst v6
    refine XS.istore X5.here hx rfl (hb hby at_13) rfl (l' := #[.val (.int x0), .val (.long x1), .second, .val (.long x2), .second, .val (.long v3), .second, .val (.int (own_F3 v3)), .unset, .unset]) rfl ?_
    show Steps p.tables e below (T5.setTop (mkF m 15 #[.val (.int x0), .val (.long x1), .second, .val (.long x2), .second, .val (.long v3), .second, .val (.int (own_F3 v3)), .unset, .unset] [])) _
    refine XS.iload X5.here hx rfl (hb hby at_15) rfl ?_
    show Steps p.tables e below (T5.setTop (mkF m 17 #[.val (.int x0), .val (.long x1), .second, .val (.long x2), .second, .val (.long v3), .second, .val (.int (own_F3 v3)), .unset, .unset] [(.int (own_F3 v3))])) _
    exact Steps.refl _
  have pre7 := pre5.trans st7
  have hc17 : ¬ (v6 < (0 : Int32)) := by
    exact (own_law (own_size hv3) hv6).1
  have st8 : Steps p.tables e below (T5.setTop (mkF m 17 #[.val (.int x0), .val (.long x1), .second, .val (.long x2), .second, .val (.long v3), .second, .val (.int v6), .unset, .unset] [(.int v6)])) (T5.setTop (mkF m 20 #[.val (.int x0), .val (.long x1), .second, .val (.long x2), .second, .val (.long v3), .second, .val (.int v6), .unset, .unset] [])) := by
    refine XS.ifNo X5.here hx rfl (hb hby at_17) rfl ((if0 _ _).trans (flt hc17).1) ?_
    exact Steps.refl _
  have pre8 := pre7.trans st8
  have st9 : Steps p.tables e below (T5.setTop (mkF m 20 #[.val (.int x0), .val (.long x1), .second, .val (.long x2), .second, .val (.long v3), .second, .val (.int v6), .unset, .unset] [])) (T5.setTop (mkF m 24 #[.val (.int x0), .val (.long x1), .second, .val (.long x2), .second, .val (.long v3), .second, .val (.int v6), .unset, .unset] [(.int (63 : Int32)), (.int v6)])) := by
    refine XS.iload X5.here hx rfl (hb hby at_20) rfl ?_
    show Steps p.tables e below (T5.setTop (mkF m 22 #[.val (.int x0), .val (.long x1), .second, .val (.long x2), .second, .val (.long v3), .second, .val (.int v6), .unset, .unset] [(.int v6)])) _
    refine XS.bipush X5.here hx rfl (hb hby at_22) ?_
    show Steps p.tables e below (T5.setTop (mkF m 24 #[.val (.int x0), .val (.long x1), .second, .val (.long x2), .second, .val (.long v3), .second, .val (.int v6), .unset, .unset] [(.int (63 : Int32)), (.int v6)])) _
    exact Steps.refl _
  have pre9 := pre8.trans st9
  have hc24 : ¬ ((63 : Int32) < v6) := by
    exact (own_law (own_size hv3) hv6).2.1
  have st10 : Steps p.tables e below (T5.setTop (mkF m 24 #[.val (.int x0), .val (.long x1), .second, .val (.long x2), .second, .val (.long v3), .second, .val (.int v6), .unset, .unset] [(.int (63 : Int32)), (.int v6)])) (T5.setTop (mkF m 29 #[.val (.int x0), .val (.long x1), .second, .val (.long x2), .second, .val (.long v3), .second, .val (.int v6), .unset, .unset] [])) := by
    refine XS.icmpYes X5.here hx rfl (pc0 := 24) (pc' := 29) rfl (hb hby at_24) rfl (flt hc24).2.2.2 (by decide) (by decide) ?_
    exact Steps.refl _
  have pre10 := pre9.trans st10
  have st11 : Steps p.tables e below (T5.setTop (mkF m 29 #[.val (.int x0), .val (.long x1), .second, .val (.long x2), .second, .val (.long v3), .second, .val (.int v6), .unset, .unset] [])) (T5.setTop (mkF m 33 #[.val (.int x0), .val (.long x1), .second, .val (.long x2), .second, .val (.long v3), .second, .val (.int v6), .unset, .unset] [(.int (lcmpW v3 (1 : Int64)))])) := by
    refine XS.lload X5.here hx rfl (hb hby at_29) rfl ?_
    show Steps p.tables e below (T5.setTop (mkF m 31 #[.val (.int x0), .val (.long x1), .second, .val (.long x2), .second, .val (.long v3), .second, .val (.int v6), .unset, .unset] [(.long v3)])) _
    refine XS.lconst X5.here hx rfl (hb hby at_31) ?_
    show Steps p.tables e below (T5.setTop (mkF m 32 #[.val (.int x0), .val (.long x1), .second, .val (.long x2), .second, .val (.long v3), .second, .val (.int v6), .unset, .unset] [(.long (1 : Int64)), (.long v3)])) _
    refine XS.lcmp X5.here hx rfl (hb hby at_32) rfl ?_
    show Steps p.tables e below (T5.setTop (mkF m 33 #[.val (.int x0), .val (.long x1), .second, .val (.long x2), .second, .val (.long v3), .second, .val (.int v6), .unset, .unset] [(.int (lcmpW v3 (1 : Int64)))])) _
    exact Steps.refl _
  have pre11 := pre10.trans st11
  by_cases hc33 : (1 : Int64) < v3
  · have st12 : Steps p.tables e below (T5.setTop (mkF m 33 #[.val (.int x0), .val (.long x1), .second, .val (.long x2), .second, .val (.long v3), .second, .val (.int v6), .unset, .unset] [(.int (lcmpW v3 (1 : Int64)))])) (T5.setTop (mkF m 47 #[.val (.int x0), .val (.long x1), .second, .val (.long x2), .second, .val (.long v3), .second, .val (.int v6), .unset, .unset] [])) := by
      refine XS.ifYes X5.here hx rfl (pc0 := 33) (pc' := 47) rfl (hb hby at_33) rfl ((if0 _ _).trans (tlt ((lw_gt v3 (1 : Int64)).mpr hc33)).2.2.1) (by decide) (by decide) ?_
      exact Steps.refl _
    have pre12 := pre11.trans st12
    have st13 : Steps p.tables e below (T5.setTop (mkF m 47 #[.val (.int x0), .val (.long x1), .second, .val (.long x2), .second, .val (.long v3), .second, .val (.int v6), .unset, .unset] [])) (T5.setTop (mkF m 49 #[.val (.int x0), .val (.long x1), .second, .val (.long x2), .second, .val (.long v3), .second, .val (.int v6), .unset, .unset] [(.int v6)])) := by
      refine XS.iload X5.here hx rfl (hb hby at_47) rfl ?_
      show Steps p.tables e below (T5.setTop (mkF m 49 #[.val (.int x0), .val (.long x1), .second, .val (.long x2), .second, .val (.long v3), .second, .val (.int v6), .unset, .unset] [(.int v6)])) _
      exact Steps.refl _
    have pre13 := pre12.trans st13
    have hc49 : ¬ (v6 = (0 : Int32)) := by
      exact ((own_law (own_size hv3) hv6).2.2.2 hc33).1
    have st14 : Steps p.tables e below (T5.setTop (mkF m 49 #[.val (.int x0), .val (.long x1), .second, .val (.long x2), .second, .val (.long v3), .second, .val (.int v6), .unset, .unset] [(.int v6)])) (T5.setTop (mkF m 54 #[.val (.int x0), .val (.long x1), .second, .val (.long x2), .second, .val (.long v3), .second, .val (.int v6), .unset, .unset] [])) := by
      refine XS.ifYes X5.here hx rfl (pc0 := 49) (pc' := 54) rfl (hb hby at_49) rfl ((if0 _ _).trans (feq hc49).2) (by decide) (by decide) ?_
      exact Steps.refl _
    have pre14 := pre13.trans st14
    obtain ⟨v15, hv15⟩ : ∃ z : Int32, z = (if ((1 : Int64) <<< ((v6 - (1 : Int32)) &&& 0x3f).toInt64) < v3 then (1 : Int32) else (0 : Int32)) := ⟨_, rfl⟩
    obtain ⟨v16, hv16⟩ : ∃ z : Int32, z = (if v6 = (63 : Int32) then (1 : Int32) else (if ((1 : Int64) <<< (v6 &&& 0x3f).toInt64) < v3 then (0 : Int32) else (1 : Int32))) := ⟨_, rfl⟩
    have st17 : Steps p.tables e below (T5.setTop (mkF m 54 #[.val (.int x0), .val (.long x1), .second, .val (.long x2), .second, .val (.long v3), .second, .val (.int v6), .unset, .unset] [])) (T5.setTop (mkF m 99 #[.val (.int x0), .val (.long x1), .second, .val (.long x2), .second, .val (.long v3), .second, .val (.int v6), .val (.int v15), .val (.int v16)] [(.int v15)])) := by
      subst v16 v15
      refine XS.lconst X5.here hx rfl (hb hby at_54) ?_
      show Steps p.tables e below (T5.setTop (mkF m 55 #[.val (.int x0), .val (.long x1), .second, .val (.long x2), .second, .val (.long v3), .second, .val (.int v6), .unset, .unset] [(.long (1 : Int64))])) _
      refine XS.iload X5.here hx rfl (hb hby at_55) rfl ?_
      show Steps p.tables e below (T5.setTop (mkF m 57 #[.val (.int x0), .val (.long x1), .second, .val (.long x2), .second, .val (.long v3), .second, .val (.int v6), .unset, .unset] [(.int v6), (.long (1 : Int64))])) _
      refine XS.iconst X5.here hx rfl (hb hby at_57) ?_
      show Steps p.tables e below (T5.setTop (mkF m 58 #[.val (.int x0), .val (.long x1), .second, .val (.long x2), .second, .val (.long v3), .second, .val (.int v6), .unset, .unset] [(.int (1 : Int32)), (.int v6), (.long (1 : Int64))])) _
      refine XS.isub X5.here hx rfl (hb hby at_58) rfl ?_
      show Steps p.tables e below (T5.setTop (mkF m 59 #[.val (.int x0), .val (.long x1), .second, .val (.long x2), .second, .val (.long v3), .second, .val (.int v6), .unset, .unset] [(.int (v6 - (1 : Int32))), (.long (1 : Int64))])) _
      refine XS.lshl X5.here hx rfl (hb hby at_59) rfl ?_
      show Steps p.tables e below (T5.setTop (mkF m 60 #[.val (.int x0), .val (.long x1), .second, .val (.long x2), .second, .val (.long v3), .second, .val (.int v6), .unset, .unset] [(.long ((1 : Int64) <<< ((v6 - (1 : Int32)) &&& 0x3f).toInt64))])) _
      refine XS.lload X5.here hx rfl (hb hby at_60) rfl ?_
      show Steps p.tables e below (T5.setTop (mkF m 62 #[.val (.int x0), .val (.long x1), .second, .val (.long x2), .second, .val (.long v3), .second, .val (.int v6), .unset, .unset] [(.long v3), (.long ((1 : Int64) <<< ((v6 - (1 : Int32)) &&& 0x3f).toInt64))])) _
      refine XS.lcmp X5.here hx rfl (hb hby at_62) rfl ?_
      show Steps p.tables e below (T5.setTop (mkF m 63 #[.val (.int x0), .val (.long x1), .second, .val (.long x2), .second, .val (.long v3), .second, .val (.int v6), .unset, .unset] [(.int (lcmpW ((1 : Int64) <<< ((v6 - (1 : Int32)) &&& 0x3f).toInt64) v3))])) _
      refine Steps.trans (s₂ := T5.setTop (mkF m 71 #[.val (.int x0), .val (.long x1), .second, .val (.long x2), .second, .val (.long v3), .second, .val (.int v6), .unset, .unset] [(.int (if ((1 : Int64) <<< ((v6 - (1 : Int32)) &&& 0x3f).toInt64) < v3 then (1 : Int32) else (0 : Int32)))])) ?_ ?_
      · by_cases hc63 : ((1 : Int64) <<< ((v6 - (1 : Int32)) &&& 0x3f).toInt64) < v3
        · refine XS.ifNo X5.here hx rfl (hb hby at_63) rfl ((if0 _ _).trans (tlt ((lw_lt ((1 : Int64) <<< ((v6 - (1 : Int32)) &&& 0x3f).toInt64) v3).mpr hc63)).2.1) ?_
          show Steps p.tables e below (T5.setTop (mkF m 66 #[.val (.int x0), .val (.long x1), .second, .val (.long x2), .second, .val (.long v3), .second, .val (.int v6), .unset, .unset] [])) _
          refine XS.iconst X5.here hx rfl (hb hby at_66) ?_
          show Steps p.tables e below (T5.setTop (mkF m 67 #[.val (.int x0), .val (.long x1), .second, .val (.long x2), .second, .val (.long v3), .second, .val (.int v6), .unset, .unset] [(.int (1 : Int32))])) _
          refine XS.goto X5.here hx rfl (pc0 := 67) (pc' := 71) rfl (hb hby at_67) (by decide) (by decide) ?_
          show Steps p.tables e below (T5.setTop (mkF m 71 #[.val (.int x0), .val (.long x1), .second, .val (.long x2), .second, .val (.long v3), .second, .val (.int v6), .unset, .unset] [(.int (1 : Int32))])) _
          try simp only [if_pos hc63]
          exact Steps.refl _
        · refine XS.ifYes X5.here hx rfl (pc0 := 63) (pc' := 70) rfl (hb hby at_63) rfl ((if0 _ _).trans (flt (fun q => hc63 ((lw_lt ((1 : Int64) <<< ((v6 - (1 : Int32)) &&& 0x3f).toInt64) v3).mp q))).2.1) (by decide) (by decide) ?_
          show Steps p.tables e below (T5.setTop (mkF m 70 #[.val (.int x0), .val (.long x1), .second, .val (.long x2), .second, .val (.long v3), .second, .val (.int v6), .unset, .unset] [])) _
          refine XS.iconst X5.here hx rfl (hb hby at_70) ?_
          show Steps p.tables e below (T5.setTop (mkF m 71 #[.val (.int x0), .val (.long x1), .second, .val (.long x2), .second, .val (.long v3), .second, .val (.int v6), .unset, .unset] [(.int (0 : Int32))])) _
          try simp only [if_neg hc63]
          exact Steps.refl _
      show Steps p.tables e below (T5.setTop (mkF m 71 #[.val (.int x0), .val (.long x1), .second, .val (.long x2), .second, .val (.long v3), .second, .val (.int v6), .unset, .unset] [(.int (if ((1 : Int64) <<< ((v6 - (1 : Int32)) &&& 0x3f).toInt64) < v3 then (1 : Int32) else (0 : Int32)))])) _
      refine XS.istore X5.here hx rfl (hb hby at_71) rfl (l' := #[.val (.int x0), .val (.long x1), .second, .val (.long x2), .second, .val (.long v3), .second, .val (.int v6), .val (.int (if ((1 : Int64) <<< ((v6 - (1 : Int32)) &&& 0x3f).toInt64) < v3 then (1 : Int32) else (0 : Int32))), .unset]) rfl ?_
      show Steps p.tables e below (T5.setTop (mkF m 73 #[.val (.int x0), .val (.long x1), .second, .val (.long x2), .second, .val (.long v3), .second, .val (.int v6), .val (.int (if ((1 : Int64) <<< ((v6 - (1 : Int32)) &&& 0x3f).toInt64) < v3 then (1 : Int32) else (0 : Int32))), .unset] [])) _
      refine XS.iload X5.here hx rfl (hb hby at_73) rfl ?_
      show Steps p.tables e below (T5.setTop (mkF m 75 #[.val (.int x0), .val (.long x1), .second, .val (.long x2), .second, .val (.long v3), .second, .val (.int v6), .val (.int (if ((1 : Int64) <<< ((v6 - (1 : Int32)) &&& 0x3f).toInt64) < v3 then (1 : Int32) else (0 : Int32))), .unset] [(.int v6)])) _
      refine XS.bipush X5.here hx rfl (hb hby at_75) ?_
      show Steps p.tables e below (T5.setTop (mkF m 77 #[.val (.int x0), .val (.long x1), .second, .val (.long x2), .second, .val (.long v3), .second, .val (.int v6), .val (.int (if ((1 : Int64) <<< ((v6 - (1 : Int32)) &&& 0x3f).toInt64) < v3 then (1 : Int32) else (0 : Int32))), .unset] [(.int (63 : Int32)), (.int v6)])) _
      refine Steps.trans (s₂ := T5.setTop (mkF m 95 #[.val (.int x0), .val (.long x1), .second, .val (.long x2), .second, .val (.long v3), .second, .val (.int v6), .val (.int (if ((1 : Int64) <<< ((v6 - (1 : Int32)) &&& 0x3f).toInt64) < v3 then (1 : Int32) else (0 : Int32))), .unset] [(.int (if v6 = (63 : Int32) then (1 : Int32) else (if ((1 : Int64) <<< (v6 &&& 0x3f).toInt64) < v3 then (0 : Int32) else (1 : Int32))))])) ?_ ?_
      · by_cases hc77 : v6 = (63 : Int32)
        · refine XS.icmpYes X5.here hx rfl (pc0 := 77) (pc' := 90) rfl (hb hby at_77) rfl (teq hc77).1 (by decide) (by decide) ?_
          show Steps p.tables e below (T5.setTop (mkF m 90 #[.val (.int x0), .val (.long x1), .second, .val (.long x2), .second, .val (.long v3), .second, .val (.int v6), .val (.int (if ((1 : Int64) <<< ((v6 - (1 : Int32)) &&& 0x3f).toInt64) < v3 then (1 : Int32) else (0 : Int32))), .unset] [])) _
          refine XS.iconst X5.here hx rfl (hb hby at_90) ?_
          show Steps p.tables e below (T5.setTop (mkF m 91 #[.val (.int x0), .val (.long x1), .second, .val (.long x2), .second, .val (.long v3), .second, .val (.int v6), .val (.int (if ((1 : Int64) <<< ((v6 - (1 : Int32)) &&& 0x3f).toInt64) < v3 then (1 : Int32) else (0 : Int32))), .unset] [(.int (1 : Int32))])) _
          refine XS.goto X5.here hx rfl (pc0 := 91) (pc' := 95) rfl (hb hby at_91) (by decide) (by decide) ?_
          show Steps p.tables e below (T5.setTop (mkF m 95 #[.val (.int x0), .val (.long x1), .second, .val (.long x2), .second, .val (.long v3), .second, .val (.int v6), .val (.int (if ((1 : Int64) <<< ((v6 - (1 : Int32)) &&& 0x3f).toInt64) < v3 then (1 : Int32) else (0 : Int32))), .unset] [(.int (1 : Int32))])) _
          try simp only [if_pos hc77]
          exact Steps.refl _
        · refine XS.icmpNo X5.here hx rfl (hb hby at_77) rfl (feq hc77).1 ?_
          show Steps p.tables e below (T5.setTop (mkF m 80 #[.val (.int x0), .val (.long x1), .second, .val (.long x2), .second, .val (.long v3), .second, .val (.int v6), .val (.int (if ((1 : Int64) <<< ((v6 - (1 : Int32)) &&& 0x3f).toInt64) < v3 then (1 : Int32) else (0 : Int32))), .unset] [])) _
          refine XS.lload X5.here hx rfl (hb hby at_80) rfl ?_
          show Steps p.tables e below (T5.setTop (mkF m 82 #[.val (.int x0), .val (.long x1), .second, .val (.long x2), .second, .val (.long v3), .second, .val (.int v6), .val (.int (if ((1 : Int64) <<< ((v6 - (1 : Int32)) &&& 0x3f).toInt64) < v3 then (1 : Int32) else (0 : Int32))), .unset] [(.long v3)])) _
          refine XS.lconst X5.here hx rfl (hb hby at_82) ?_
          show Steps p.tables e below (T5.setTop (mkF m 83 #[.val (.int x0), .val (.long x1), .second, .val (.long x2), .second, .val (.long v3), .second, .val (.int v6), .val (.int (if ((1 : Int64) <<< ((v6 - (1 : Int32)) &&& 0x3f).toInt64) < v3 then (1 : Int32) else (0 : Int32))), .unset] [(.long (1 : Int64)), (.long v3)])) _
          refine XS.iload X5.here hx rfl (hb hby at_83) rfl ?_
          show Steps p.tables e below (T5.setTop (mkF m 85 #[.val (.int x0), .val (.long x1), .second, .val (.long x2), .second, .val (.long v3), .second, .val (.int v6), .val (.int (if ((1 : Int64) <<< ((v6 - (1 : Int32)) &&& 0x3f).toInt64) < v3 then (1 : Int32) else (0 : Int32))), .unset] [(.int v6), (.long (1 : Int64)), (.long v3)])) _
          refine XS.lshl X5.here hx rfl (hb hby at_85) rfl ?_
          show Steps p.tables e below (T5.setTop (mkF m 86 #[.val (.int x0), .val (.long x1), .second, .val (.long x2), .second, .val (.long v3), .second, .val (.int v6), .val (.int (if ((1 : Int64) <<< ((v6 - (1 : Int32)) &&& 0x3f).toInt64) < v3 then (1 : Int32) else (0 : Int32))), .unset] [(.long ((1 : Int64) <<< (v6 &&& 0x3f).toInt64)), (.long v3)])) _
          refine XS.lcmp X5.here hx rfl (hb hby at_86) rfl ?_
          show Steps p.tables e below (T5.setTop (mkF m 87 #[.val (.int x0), .val (.long x1), .second, .val (.long x2), .second, .val (.long v3), .second, .val (.int v6), .val (.int (if ((1 : Int64) <<< ((v6 - (1 : Int32)) &&& 0x3f).toInt64) < v3 then (1 : Int32) else (0 : Int32))), .unset] [(.int (lcmpW v3 ((1 : Int64) <<< (v6 &&& 0x3f).toInt64)))])) _
          refine Steps.trans (s₂ := T5.setTop (mkF m 95 #[.val (.int x0), .val (.long x1), .second, .val (.long x2), .second, .val (.long v3), .second, .val (.int v6), .val (.int (if ((1 : Int64) <<< ((v6 - (1 : Int32)) &&& 0x3f).toInt64) < v3 then (1 : Int32) else (0 : Int32))), .unset] [(.int (if ((1 : Int64) <<< (v6 &&& 0x3f).toInt64) < v3 then (0 : Int32) else (1 : Int32)))])) ?_ ?_
          · by_cases hc87 : ((1 : Int64) <<< (v6 &&& 0x3f).toInt64) < v3
            · refine XS.ifYes X5.here hx rfl (pc0 := 87) (pc' := 94) rfl (hb hby at_87) rfl ((if0 _ _).trans (tlt ((lw_gt v3 ((1 : Int64) <<< (v6 &&& 0x3f).toInt64)).mpr hc87)).2.2.1) (by decide) (by decide) ?_
              show Steps p.tables e below (T5.setTop (mkF m 94 #[.val (.int x0), .val (.long x1), .second, .val (.long x2), .second, .val (.long v3), .second, .val (.int v6), .val (.int (if ((1 : Int64) <<< ((v6 - (1 : Int32)) &&& 0x3f).toInt64) < v3 then (1 : Int32) else (0 : Int32))), .unset] [])) _
              refine XS.iconst X5.here hx rfl (hb hby at_94) ?_
              show Steps p.tables e below (T5.setTop (mkF m 95 #[.val (.int x0), .val (.long x1), .second, .val (.long x2), .second, .val (.long v3), .second, .val (.int v6), .val (.int (if ((1 : Int64) <<< ((v6 - (1 : Int32)) &&& 0x3f).toInt64) < v3 then (1 : Int32) else (0 : Int32))), .unset] [(.int (0 : Int32))])) _
              try simp only [if_pos hc87]
              exact Steps.refl _
            · refine XS.ifNo X5.here hx rfl (hb hby at_87) rfl ((if0 _ _).trans (flt (fun q => hc87 ((lw_gt v3 ((1 : Int64) <<< (v6 &&& 0x3f).toInt64)).mp q))).2.2.1) ?_
              show Steps p.tables e below (T5.setTop (mkF m 90 #[.val (.int x0), .val (.long x1), .second, .val (.long x2), .second, .val (.long v3), .second, .val (.int v6), .val (.int (if ((1 : Int64) <<< ((v6 - (1 : Int32)) &&& 0x3f).toInt64) < v3 then (1 : Int32) else (0 : Int32))), .unset] [])) _
              refine XS.iconst X5.here hx rfl (hb hby at_90) ?_
              show Steps p.tables e below (T5.setTop (mkF m 91 #[.val (.int x0), .val (.long x1), .second, .val (.long x2), .second, .val (.long v3), .second, .val (.int v6), .val (.int (if ((1 : Int64) <<< ((v6 - (1 : Int32)) &&& 0x3f).toInt64) < v3 then (1 : Int32) else (0 : Int32))), .unset] [(.int (1 : Int32))])) _
              refine XS.goto X5.here hx rfl (pc0 := 91) (pc' := 95) rfl (hb hby at_91) (by decide) (by decide) ?_
              show Steps p.tables e below (T5.setTop (mkF m 95 #[.val (.int x0), .val (.long x1), .second, .val (.long x2), .second, .val (.long v3), .second, .val (.int v6), .val (.int (if ((1 : Int64) <<< ((v6 - (1 : Int32)) &&& 0x3f).toInt64) < v3 then (1 : Int32) else (0 : Int32))), .unset] [(.int (1 : Int32))])) _
              try simp only [if_neg hc87]
              exact Steps.refl _
          show Steps p.tables e below (T5.setTop (mkF m 95 #[.val (.int x0), .val (.long x1), .second, .val (.long x2), .second, .val (.long v3), .second, .val (.int v6), .val (.int (if ((1 : Int64) <<< ((v6 - (1 : Int32)) &&& 0x3f).toInt64) < v3 then (1 : Int32) else (0 : Int32))), .unset] [(.int (if ((1 : Int64) <<< (v6 &&& 0x3f).toInt64) < v3 then (0 : Int32) else (1 : Int32)))])) _
          try simp only [if_neg hc77]
          exact Steps.refl _
      show Steps p.tables e below (T5.setTop (mkF m 95 #[.val (.int x0), .val (.long x1), .second, .val (.long x2), .second, .val (.long v3), .second, .val (.int v6), .val (.int (if ((1 : Int64) <<< ((v6 - (1 : Int32)) &&& 0x3f).toInt64) < v3 then (1 : Int32) else (0 : Int32))), .unset] [(.int (if v6 = (63 : Int32) then (1 : Int32) else (if ((1 : Int64) <<< (v6 &&& 0x3f).toInt64) < v3 then (0 : Int32) else (1 : Int32))))])) _
      refine XS.istore X5.here hx rfl (hb hby at_95) rfl (l' := #[.val (.int x0), .val (.long x1), .second, .val (.long x2), .second, .val (.long v3), .second, .val (.int v6), .val (.int (if ((1 : Int64) <<< ((v6 - (1 : Int32)) &&& 0x3f).toInt64) < v3 then (1 : Int32) else (0 : Int32))), .val (.int (if v6 = (63 : Int32) then (1 : Int32) else (if ((1 : Int64) <<< (v6 &&& 0x3f).toInt64) < v3 then (0 : Int32) else (1 : Int32))))]) rfl ?_
      show Steps p.tables e below (T5.setTop (mkF m 97 #[.val (.int x0), .val (.long x1), .second, .val (.long x2), .second, .val (.long v3), .second, .val (.int v6), .val (.int (if ((1 : Int64) <<< ((v6 - (1 : Int32)) &&& 0x3f).toInt64) < v3 then (1 : Int32) else (0 : Int32))), .val (.int (if v6 = (63 : Int32) then (1 : Int32) else (if ((1 : Int64) <<< (v6 &&& 0x3f).toInt64) < v3 then (0 : Int32) else (1 : Int32))))] [])) _
      refine XS.iload X5.here hx rfl (hb hby at_97) rfl ?_
      show Steps p.tables e below (T5.setTop (mkF m 99 #[.val (.int x0), .val (.long x1), .second, .val (.long x2), .second, .val (.long v3), .second, .val (.int v6), .val (.int (if ((1 : Int64) <<< ((v6 - (1 : Int32)) &&& 0x3f).toInt64) < v3 then (1 : Int32) else (0 : Int32))), .val (.int (if v6 = (63 : Int32) then (1 : Int32) else (if ((1 : Int64) <<< (v6 &&& 0x3f).toInt64) < v3 then (0 : Int32) else (1 : Int32))))] [(.int (if ((1 : Int64) <<< ((v6 - (1 : Int32)) &&& 0x3f).toInt64) < v3 then (1 : Int32) else (0 : Int32)))])) _
      exact Steps.refl _
    have pre17 := pre14.trans st17
    have hc99 : ¬ (v15 = (0 : Int32)) := by
      rw [hv15, if_pos ((own_law (own_size hv3) hv6).2.2.2 hc33).2.1]
      decide
    have st18 : Steps p.tables e below (T5.setTop (mkF m 99 #[.val (.int x0), .val (.long x1), .second, .val (.long x2), .second, .val (.long v3), .second, .val (.int v6), .val (.int v15), .val (.int v16)] [(.int v15)])) (T5.setTop (mkF m 102 #[.val (.int x0), .val (.long x1), .second, .val (.long x2), .second, .val (.long v3), .second, .val (.int v6), .val (.int v15), .val (.int v16)] [])) := by
      refine XS.ifNo X5.here hx rfl (hb hby at_99) rfl ((if0 _ _).trans (feq hc99).1) ?_
      exact Steps.refl _
    have pre18 := pre17.trans st18
    have st19 : Steps p.tables e below (T5.setTop (mkF m 102 #[.val (.int x0), .val (.long x1), .second, .val (.long x2), .second, .val (.long v3), .second, .val (.int v6), .val (.int v15), .val (.int v16)] [])) (T5.setTop (mkF m 104 #[.val (.int x0), .val (.long x1), .second, .val (.long x2), .second, .val (.long v3), .second, .val (.int v6), .val (.int v15), .val (.int v16)] [(.int v16)])) := by
      refine XS.iload X5.here hx rfl (hb hby at_102) rfl ?_
      show Steps p.tables e below (T5.setTop (mkF m 104 #[.val (.int x0), .val (.long x1), .second, .val (.long x2), .second, .val (.long v3), .second, .val (.int v6), .val (.int v15), .val (.int v16)] [(.int v16)])) _
      exact Steps.refl _
    have pre19 := pre18.trans st19
    have hc104 : ¬ (v16 = (0 : Int32)) := by
      rw [hv16]
      by_cases c : v6 = (63 : Int32)
      · rw [if_pos c]; decide
      · rw [if_neg c, if_neg (((own_law (own_size hv3) hv6).2.2.2 hc33).2.2 c)]; decide
    have st20 : Steps p.tables e below (T5.setTop (mkF m 104 #[.val (.int x0), .val (.long x1), .second, .val (.long x2), .second, .val (.long v3), .second, .val (.int v6), .val (.int v15), .val (.int v16)] [(.int v16)])) (T5.setTop (mkF m 107 #[.val (.int x0), .val (.long x1), .second, .val (.long x2), .second, .val (.long v3), .second, .val (.int v6), .val (.int v15), .val (.int v16)] [])) := by
      refine XS.ifNo X5.here hx rfl (hb hby at_104) rfl ((if0 _ _).trans (feq hc104).1) ?_
      exact Steps.refl _
    have pre20 := pre19.trans st20
    have st21 : Steps p.tables e below (T5.setTop (mkF m 107 #[.val (.int x0), .val (.long x1), .second, .val (.long x2), .second, .val (.long v3), .second, .val (.int v6), .val (.int v15), .val (.int v16)] [])) (T5.setTop (mkF m 112 #[.val (.int x0), .val (.long x1), .second, .val (.long x2), .second, .val (.long v3), .second, .val (.int v6), .val (.int v15), .val (.int v16)] [(.int (1 : Int32))])) := by
      refine XS.iconst X5.here hx rfl (hb hby at_107) ?_
      show Steps p.tables e below (T5.setTop (mkF m 108 #[.val (.int x0), .val (.long x1), .second, .val (.long x2), .second, .val (.long v3), .second, .val (.int v6), .val (.int v15), .val (.int v16)] [(.int (1 : Int32))])) _
      refine XS.goto X5.here hx rfl (pc0 := 108) (pc' := 112) rfl (hb hby at_108) (by decide) (by decide) ?_
      show Steps p.tables e below (T5.setTop (mkF m 112 #[.val (.int x0), .val (.long x1), .second, .val (.long x2), .second, .val (.long v3), .second, .val (.int v6), .val (.int v15), .val (.int v16)] [(.int (1 : Int32))])) _
      exact Steps.refl _
    have pre21 := pre20.trans st21
    obtain ⟨fs, hr, hrun, hended, hW, hsame⟩ := X5.leave (v := some (.int (1 : Int32))) (fun h => by rw [Bd.returns] at h; cases h)
    refine ⟨_, _, pre21.trans ?_, hrun, hended, _, _, rfl, ?_, ⟨_, rfl⟩, hW, hsame.mono (by decide) (by decide)⟩
    · show Steps p.tables e below (T5.setTop (mkF m 112 #[.val (.int x0), .val (.long x1), .second, .val (.long x2), .second, .val (.long v3), .second, .val (.int v6), .val (.int v15), .val (.int v16)] [(.int (1 : Int32))])) _
      exact retN X5 hx (t := .boolean) Bd.returns (by simp) (hb hby at_112) hr
    · show Q0 Z x0 x1 x2 h0 n0 _ T5.heap _
      rw [e5]
      exact ⟨rfl, N5⟩
  · have st22 : Steps p.tables e below (T5.setTop (mkF m 33 #[.val (.int x0), .val (.long x1), .second, .val (.long x2), .second, .val (.long v3), .second, .val (.int v6), .unset, .unset] [(.int (lcmpW v3 (1 : Int64)))])) (T5.setTop (mkF m 36 #[.val (.int x0), .val (.long x1), .second, .val (.long x2), .second, .val (.long v3), .second, .val (.int v6), .unset, .unset] [])) := by
      refine XS.ifNo X5.here hx rfl (hb hby at_33) rfl ((if0 _ _).trans (flt (fun q => hc33 ((lw_gt v3 (1 : Int64)).mp q))).2.2.1) ?_
      exact Steps.refl _
    have pre22 := pre11.trans st22
    have st23 : Steps p.tables e below (T5.setTop (mkF m 36 #[.val (.int x0), .val (.long x1), .second, .val (.long x2), .second, .val (.long v3), .second, .val (.int v6), .unset, .unset] [])) (T5.setTop (mkF m 38 #[.val (.int x0), .val (.long x1), .second, .val (.long x2), .second, .val (.long v3), .second, .val (.int v6), .unset, .unset] [(.int v6)])) := by
      refine XS.iload X5.here hx rfl (hb hby at_36) rfl ?_
      show Steps p.tables e below (T5.setTop (mkF m 38 #[.val (.int x0), .val (.long x1), .second, .val (.long x2), .second, .val (.long v3), .second, .val (.int v6), .unset, .unset] [(.int v6)])) _
      exact Steps.refl _
    have pre23 := pre22.trans st23
    have hc38 : v6 = (0 : Int32) := by
      exact (own_law (own_size hv3) hv6).2.2.1 hc33
    have st24 : Steps p.tables e below (T5.setTop (mkF m 38 #[.val (.int x0), .val (.long x1), .second, .val (.long x2), .second, .val (.long v3), .second, .val (.int v6), .unset, .unset] [(.int v6)])) (T5.setTop (mkF m 41 #[.val (.int x0), .val (.long x1), .second, .val (.long x2), .second, .val (.long v3), .second, .val (.int v6), .unset, .unset] [])) := by
      refine XS.ifNo X5.here hx rfl (hb hby at_38) rfl ((if0 _ _).trans (teq hc38).2) ?_
      exact Steps.refl _
    have pre24 := pre23.trans st24
    have st25 : Steps p.tables e below (T5.setTop (mkF m 41 #[.val (.int x0), .val (.long x1), .second, .val (.long x2), .second, .val (.long v3), .second, .val (.int v6), .unset, .unset] [])) (T5.setTop (mkF m 46 #[.val (.int x0), .val (.long x1), .second, .val (.long x2), .second, .val (.long v3), .second, .val (.int v6), .unset, .unset] [(.int (1 : Int32))])) := by
      refine XS.iconst X5.here hx rfl (hb hby at_41) ?_
      show Steps p.tables e below (T5.setTop (mkF m 42 #[.val (.int x0), .val (.long x1), .second, .val (.long x2), .second, .val (.long v3), .second, .val (.int v6), .unset, .unset] [(.int (1 : Int32))])) _
      refine XS.goto X5.here hx rfl (pc0 := 42) (pc' := 46) rfl (hb hby at_42) (by decide) (by decide) ?_
      show Steps p.tables e below (T5.setTop (mkF m 46 #[.val (.int x0), .val (.long x1), .second, .val (.long x2), .second, .val (.long v3), .second, .val (.int v6), .unset, .unset] [(.int (1 : Int32))])) _
      exact Steps.refl _
    have pre25 := pre24.trans st25
    obtain ⟨fs, hr, hrun, hended, hW, hsame⟩ := X5.leave (v := some (.int (1 : Int32))) (fun h => by rw [Bd.returns] at h; cases h)
    refine ⟨_, _, pre25.trans ?_, hrun, hended, _, _, rfl, ?_, ⟨_, rfl⟩, hW, hsame.mono (by decide) (by decide)⟩
    · show Steps p.tables e below (T5.setTop (mkF m 46 #[.val (.int x0), .val (.long x1), .second, .val (.long x2), .second, .val (.long v3), .second, .val (.int v6), .unset, .unset] [(.int (1 : Int32))])) _
      exact retN X5 hx (t := .boolean) Bd.returns (by simp) (hb hby at_46) hr
    · show Q0 Z x0 x1 x2 h0 n0 _ T5.heap _
      rw [e5]
      exact ⟨rfl, N5⟩
set_option maxRecDepth 65536 in
set_option maxHeartbeats 40000000 in
theorem comes_1 {Post : Tables → Env → Array Value → State → Outcome → State → Prop} (hpost : ∀ tb e args s v u, (limb_1_1.after args s (.returned v) u = true ∧ limb_1_2.after args s (.returned v) u = true ∧ True) → FrameEnd s (.returned v) u (Jvm.fieldLocs frame_1_writes args s ++ Jvm.arrayLocs frame_1_arrays args s ++ Jvm.staticLocs frame_1_statics s) 0 0 → Post tb e args s (.returned v) u) :
    ArmFor flags0 classFile x code maxLocals ret World_1 tables_1 room_1 Calls_1 rest_1 Pre_1 Post := by
  intro l hfl _ _ p e ha hc hk s m args below hf hA hF happ hP
  obtain ⟨hcalls, hrest, hpre⟩ := hP
  obtain ⟨-, -, -, hnamed, -, -, -, hat⟩ := (Spec.applies_iff hf).mp happ
  obtain ⟨hg, hn⟩ := and_e (Cond.before_iff.mp (show (Jvm.Cond.and given_1 narrow_1).before args s = true from hpre))
  obtain ⟨g1, g2⟩ := and_e hg
  obtain ⟨g3, g4⟩ := and_e g2
  obtain ⟨g5, g6⟩ := and_e g4
  obtain ⟨w0, w1, w2, rfl⟩ : ∃ w0 w1 w2 : Value, args = #[w0, w1, w2] := by
    have hs : args.size = 3 := by simpa [Cond.value, given_1] using g1
    obtain ⟨L⟩ := args
    match L, hs with
    | [w0, w1, w2], _ => exact ⟨w0, w1, w2, rfl⟩
  have hw := fun d (hd : d ∈ tables_1) => atoms_spec (ws := Jvm.Cond.code x code maxLocals ret :: tables_1) hat d (List.mem_cons_of_mem _ hd)
  obtain ⟨i0, ei0⟩ := is_v g3
  obtain rfl : w0 = (.int i0) := Option.some.inj ei0
  obtain ⟨i1, ei1⟩ := isL_v g5
  obtain rfl : w1 = (.long i1) := Option.some.inj ei1
  obtain ⟨i2, ei2⟩ := isL_v g6
  obtain rfl : w2 = (.long i2) := Option.some.inj ei2
  obtain ⟨n, o, h1, h2, h3, _, L, rfl, ⟨rfl, N⟩, hq⟩ := rm0 l s _ hw tables_1 i0 i1 i2 s.heap s.heap.size (Nat.le_refl _) p e ha hc hk s m _ below hf ((Spec.applies_iff_loose hf).mp happ).1 ⟨rfl, State.Warmed39.refl s, rfl⟩ trivial
  refine ⟨n, _, h1, h2, h3, hpost _ _ _ _ _ _ ⟨Cond.after_iff.mpr rfl, Cond.after_iff.mpr (eq_i res_at (Term.int_eval (1)) rfl), trivial⟩ ⟨hq.1, hq.2.1, (hq.2.2.sift fun y hy => Or.inr (N y hy)).mono (by decide) (by decide)⟩⟩
theorem main_1_1 : Claimed_1_1 := comes_1 fun _ _ _ _ _ _ h hF => ⟨h.1, hF⟩
theorem main_1_2 : Claimed_1_2 := comes_1 fun _ _ _ _ _ _ h hF => ⟨h.2.1, hF⟩
end Jvm.Pilot.@@N@@
namespace Jvm.Pilot.@@N@@
open Jvm Jvm.ClassFile Sem Op Lib Jvm.Free Jvm.Stand Jvm.Pilot.@@N@@.Jvm.D
/-! MADE BY PROGRAM (witnessworld.py) out of the Statement's table words and the real class files: 15 classes; the members and pool entries that the words name. The judged class is class 1, her method 2. -/
namespace start1
open Jvm.ClassFile
def u (s : String) : CpInfo := .utf8 (stringToUtf16 s)
/-- a pool by its gaps: so many unusable entries, then the entry; so many at the end -/
def gap : Nat → List CpInfo → List CpInfo
  | 0, r => r
  | n + 1, r => .unusable :: gap n r
def poolList (es : List (Nat × CpInfo)) (last : Nat) : List CpInfo := es.foldr (fun e r => gap e.1 (e.2 :: r)) (gap last [])
def pool (es : List (Nat × CpInfo)) (last : Nat) : Array CpInfo := ⟨poolList es last⟩
def fileOf (pool : Array CpInfo) (this : Nat) (attrs : Array Attribute := #[]) (ms : Array MethodInfo := #[]) (fl : Nat := 33) (sup : Nat := 0) (ifs : Array Nat := #[]) (fds : Array FieldInfo := #[]) : ClassFile where
  minorVersion := 0
  majorVersion := 65
  constantPool := pool
  accessFlags := fl
  thisClass := this
  superClass := sup
  interfaces := ifs
  fields := fds
  methods := ms
  attributes := attrs
def plain (name : String) (sup : Option ClassId) : Class where
  name := name
  kind := .ordinary
  loader := none
  accessFlags := 33
  super := sup
  interfaces := #[]
  cf := none
  fields := #[]
  methods := #[]
  instanceTypes := #[]
  staticTypes := #[]
  resolved := #[]
  callSites := []
  init := .initialized
  statics := none
  mirror := none

def pool0 : Array CpInfo := pool [(5, u "<init>"), (0, u "()V"), (1, .class_ 10), (1, u "java/lang/Object")] 113

def k0m0 : Method := { name := "<init>", desc := "()V", sig := { parameters := [], returnType := none }, accessFlags := 1, code := none }
/-- java/lang/Object -/
def k0 : Class := { plain "java/lang/Object" none with
  accessFlags := 33
  interfaces := #[]
  cf := some (fileOf pool0 8 #[] #[{ accessFlags := 1, nameIndex := 5, descriptorIndex := 6, attributes := #[] }] 33 0 #[] #[])
  fields := #[]
  methods := #[k0m0]
  instanceTypes := #[]
  staticTypes := #[]
  resolved := Array.replicate 124 none
  statics := none }

def pool1 : Array CpInfo := pool [(2, .class_ 4), (1, u "java/lang/Object"), (0, u "<init>"), (0, u "()V"), (0, .long 255), (1, .long 63), (1, .long 3), (1, .long 2), (3, .long 9223372036854775807), (1, .methodref 20 21), (0, .class_ 22), (0, .nameAndType 23 24), (0, u "com/example/evident_ledger/evidentledger/MerkleTreeHeightPinLaw"), (0, u "drawSize"), (0, u "(IJJ)J"), (0, .methodref 26 27), (0, .class_ 28), (0, .nameAndType 29 30), (0, u "com/example/evident_ledger/evidentledger/MerkleTree"), (0, u "height"), (0, u "(J)I"), (3, u "law"), (0, u "(IJJ)Z")] 2

def k1m0 : Method := { name := "<init>", desc := "()V", sig := { parameters := [], returnType := none }, accessFlags := 2, code := none }
def k1c1 : Code := { maxStack := 6, maxLocals := 6, code := method_2_code, exceptionTable := #[], attributes := #[] }
def k1m1 : Method := { name := "drawSize", desc := "(IJJ)J", sig := { parameters := [.int, .long, .long], returnType := some .long }, accessFlags := 10, code := some k1c1 }
def k1c2 : Code := { maxStack := 5, maxLocals := 10, code := code, exceptionTable := #[], attributes := #[] }
def k1m2 : Method := { name := "law", desc := "(IJJ)Z", sig := { parameters := [.int, .long, .long], returnType := some .boolean }, accessFlags := 9, code := some k1c2 }
/-- com/example/evident_ledger/evidentledger/MerkleTreeHeightPinLaw -/
def k1 : Class := { plain "com/example/evident_ledger/evidentledger/MerkleTreeHeightPinLaw" (some 0) with
  accessFlags := 49
  interfaces := #[]
  cf := some (fileOf pool1 20 #[] #[{ accessFlags := 2, nameIndex := 5, descriptorIndex := 6, attributes := #[] }, { accessFlags := 10, nameIndex := 23, descriptorIndex := 24, attributes := #[] }, { accessFlags := 9, nameIndex := 34, descriptorIndex := 35, attributes := #[] }] 49 2 #[] #[])
  fields := #[]
  methods := #[k1m0, k1m1, k1m2]
  instanceTypes := #[]
  staticTypes := #[]
  resolved := Array.replicate 38 none
  statics := none }

def pool2 : Array CpInfo := pool [(2, .class_ 4), (1, u "java/lang/Object"), (0, u "<init>"), (0, u "()V"), (4, .class_ 13), (1, u "com/example/evident_ledger/evidentledger/MerkleTree"), (0, u "subtrees"), (0, u "Ljava/util/List;"), (1, u "[B"), (2, u "LEAF"), (8, u "NODE"), (0, .class_ 31), (0, u "java/lang/Long"), (0, .methodref 30 33), (0, .nameAndType 34 35), (0, u "numberOfLeadingZeros"), (0, u "(J)I"), (8, u "size"), (0, u "J"), (69, u "HASH_BYTES"), (0, u "I"), (8, u "height"), (15, .class_ 142), (0, u "com/example/evident_ledger/evidentledger/MerkleTree$ConsistencyPath"), (0, .class_ 144), (0, u "com/example/evident_ledger/evidentledger/MerkleTree$AuditPath"), (0, .class_ 146), (0, u "com/example/evident_ledger/evidentledger/MerkleTree$Subtrees"), (0, .class_ 148), (0, u "com/example/evident_ledger/evidentledger/MerkleTree$Subtrees$1"), (0, .class_ 150), (0, u "com/example/evident_ledger/evidentledger/MerkleTree$Subtree")] 19

def k2m0 : Method := { name := "<init>", desc := "()V", sig := { parameters := [], returnType := none }, accessFlags := 0, code := none }
def k2c1 : Code := { maxStack := 5, maxLocals := 2, code := prog_37_method_4_code, exceptionTable := #[], attributes := #[] }
def k2m1 : Method := { name := "height", desc := "(J)I", sig := { parameters := [.long], returnType := some .int }, accessFlags := 8, code := some k2c1 }
/-- com/example/evident_ledger/evidentledger/MerkleTree -/
def k2 : Class := { plain "com/example/evident_ledger/evidentledger/MerkleTree" (some 0) with
  accessFlags := 32
  interfaces := #[]
  cf := some (fileOf pool2 11 #[.nestMembers #[141, 143, 145, 147, 149]] #[{ accessFlags := 0, nameIndex := 5, descriptorIndex := 6, attributes := #[] }, { accessFlags := 8, nameIndex := 125, descriptorIndex := 35, attributes := #[] }] 32 2 #[] #[{ accessFlags := 24, nameIndex := 115, descriptorIndex := 116, attributes := #[] }, { accessFlags := 26, nameIndex := 20, descriptorIndex := 17, attributes := #[] }, { accessFlags := 26, nameIndex := 29, descriptorIndex := 17, attributes := #[] }, { accessFlags := 18, nameIndex := 14, descriptorIndex := 15, attributes := #[] }, { accessFlags := 2, nameIndex := 44, descriptorIndex := 45, attributes := #[] }])
  fields := #[{ name := "HASH_BYTES", type := .int, accessFlags := 24, slot := 0, constantValue := 0 }, { name := "LEAF", type := (.array .byte), accessFlags := 26, slot := 1, constantValue := 0 }, { name := "NODE", type := (.array .byte), accessFlags := 26, slot := 2, constantValue := 0 }, { name := "subtrees", type := (.object "java/util/List"), accessFlags := 18, slot := 0, constantValue := 0 }, { name := "size", type := .long, accessFlags := 2, slot := 1, constantValue := 0 }]
  methods := #[k2m0, k2m1]
  instanceTypes := #[(.object "java/util/List"), .long]
  staticTypes := #[.int, (.array .byte), (.array .byte)]
  resolved := Array.replicate 170 none
  statics := none }

def pool3 : Array CpInfo := pool [(1, .class_ 2), (0, u "java/io/Serializable"), (0, .class_ 4), (0, u "java/lang/Object")] 2

/-- java/io/Serializable -/
def k3 : Class := { plain "java/io/Serializable" (some 0) with
  accessFlags := 1537
  interfaces := #[]
  cf := some (fileOf pool3 1 #[] #[] 1537 3 #[] #[])
  fields := #[]
  methods := #[]
  instanceTypes := #[]
  staticTypes := #[]
  resolved := Array.replicate 7 none
  statics := none }

def pool4 : Array CpInfo := pool [(2, .class_ 4), (1, u "java/lang/Object"), (0, u "<init>"), (0, u "()V"), (1, .class_ 10), (1, u "java/lang/Number"), (2, .class_ 14), (0, u "java/io/Serializable"), (0, u "serialVersionUID"), (0, u "J")] 20

def k4m0 : Method := { name := "<init>", desc := "()V", sig := { parameters := [], returnType := none }, accessFlags := 1, code := none }
/-- java/lang/Number -/
def k4 : Class := { plain "java/lang/Number" (some 0) with
  accessFlags := 1057
  interfaces := #[3]
  cf := some (fileOf pool4 8 #[] #[{ accessFlags := 1, nameIndex := 5, descriptorIndex := 6, attributes := #[] }] 1057 2 #[13] #[{ accessFlags := 26, nameIndex := 15, descriptorIndex := 16, attributes := #[] }])
  fields := #[{ name := "serialVersionUID", type := .long, accessFlags := 26, slot := 0, constantValue := 0 }]
  methods := #[k4m0]
  instanceTypes := #[]
  staticTypes := #[.long]
  resolved := Array.replicate 37 none
  statics := none }

def pool5 : Array CpInfo := pool [(1, .class_ 2), (0, u "java/lang/Comparable"), (0, .class_ 4), (0, u "java/lang/Object")] 7

/-- java/lang/Comparable -/
def k5 : Class := { plain "java/lang/Comparable" (some 0) with
  accessFlags := 1537
  interfaces := #[]
  cf := some (fileOf pool5 1 #[] #[] 1537 3 #[] #[])
  fields := #[]
  methods := #[]
  instanceTypes := #[]
  staticTypes := #[]
  resolved := Array.replicate 12 none
  statics := none }

def pool6 : Array CpInfo := pool [(1, .class_ 2), (0, u "java/lang/constant/Constable"), (0, .class_ 4), (0, u "java/lang/Object")] 6

/-- java/lang/constant/Constable -/
def k6 : Class := { plain "java/lang/constant/Constable" (some 0) with
  accessFlags := 1537
  interfaces := #[]
  cf := some (fileOf pool6 1 #[] #[] 1537 3 #[] #[])
  fields := #[]
  methods := #[]
  instanceTypes := #[]
  staticTypes := #[]
  resolved := Array.replicate 11 none
  statics := none }

def pool7 : Array CpInfo := pool [(1, .class_ 2), (0, u "java/lang/constant/ConstantDesc"), (0, .class_ 4), (0, u "java/lang/Object")] 32

/-- java/lang/constant/ConstantDesc -/
def k7 : Class := { plain "java/lang/constant/ConstantDesc" (some 0) with
  accessFlags := 1537
  interfaces := #[]
  cf := some (fileOf pool7 1 #[] #[] 1537 3 #[] #[])
  fields := #[]
  methods := #[]
  instanceTypes := #[]
  staticTypes := #[]
  resolved := Array.replicate 37 none
  statics := none }

def pool8 : Array CpInfo := pool [(1, .class_ 2), (0, u "java/lang/Long"), (15, .class_ 20), (1, u "java/lang/Integer"), (79, u "numberOfLeadingZeros"), (0, u "(J)I"), (133, .class_ 237), (1, u "java/lang/Long$LongCache"), (33, .class_ 272), (0, u "java/lang/Number"), (2, u "value"), (0, u "J"), (31, .methodref 18 309), (0, .nameAndType 100 310), (0, u "(I)I"), (50, u "TYPE"), (0, u "Ljava/lang/Class;"), (0, .class_ 364), (0, u "java/lang/Comparable"), (0, .class_ 366), (0, u "java/lang/constant/Constable"), (0, .class_ 368), (0, u "java/lang/constant/ConstantDesc"), (0, u "MIN_VALUE"), (1, u "MAX_VALUE"), (4, u "SIZE"), (0, u "I"), (1, u "BYTES"), (1, u "serialVersionUID")] 142

def k8c0 : Code := { maxStack := 3, maxLocals := 3, code := jdk_35_method_48_code, exceptionTable := #[], attributes := #[] }
def k8m0 : Method := { name := "numberOfLeadingZeros", desc := "(J)I", sig := { parameters := [.long], returnType := some .int }, accessFlags := 9, code := some k8c0 }
/-- java/lang/Long -/
def k8 : Class := { plain "java/lang/Long" (some 4) with
  accessFlags := 49
  interfaces := #[5, 6, 7]
  cf := some (fileOf pool8 1 #[.nestMembers #[235]] #[{ accessFlags := 9, nameIndex := 100, descriptorIndex := 101, attributes := #[] }] 49 271 #[363, 365, 367] #[{ accessFlags := 25, nameIndex := 369, descriptorIndex := 276, attributes := #[] }, { accessFlags := 25, nameIndex := 371, descriptorIndex := 276, attributes := #[] }, { accessFlags := 25, nameIndex := 361, descriptorIndex := 362, attributes := #[] }, { accessFlags := 18, nameIndex := 275, descriptorIndex := 276, attributes := #[] }, { accessFlags := 25, nameIndex := 376, descriptorIndex := 377, attributes := #[] }, { accessFlags := 25, nameIndex := 379, descriptorIndex := 377, attributes := #[] }, { accessFlags := 26, nameIndex := 381, descriptorIndex := 276, attributes := #[] }])
  fields := #[{ name := "MIN_VALUE", type := .long, accessFlags := 25, slot := 0, constantValue := 0 }, { name := "MAX_VALUE", type := .long, accessFlags := 25, slot := 1, constantValue := 0 }, { name := "TYPE", type := (.object "java/lang/Class"), accessFlags := 25, slot := 2, constantValue := 0 }, { name := "value", type := .long, accessFlags := 18, slot := 0, constantValue := 0 }, { name := "SIZE", type := .int, accessFlags := 25, slot := 3, constantValue := 0 }, { name := "BYTES", type := .int, accessFlags := 25, slot := 4, constantValue := 0 }, { name := "serialVersionUID", type := .long, accessFlags := 26, slot := 5, constantValue := 0 }]
  methods := #[k8m0]
  instanceTypes := #[.long]
  staticTypes := #[.long, .long, (.object "java/lang/Class"), .int, .int, .long]
  resolved := Array.replicate 524 none
  statics := none }

def pool9 : Array CpInfo := pool [(1, .class_ 2), (0, u "java/lang/Integer"), (16, u "digits"), (0, u "[C"), (32, u "numberOfLeadingZeros"), (0, u "(I)I"), (30, u "DigitOnes"), (0, u "[B"), (2, u "DigitTens"), (99, .class_ 190), (0, u "java/lang/Integer$IntegerCache"), (3, u "I"), (8, .class_ 204), (0, u "java/lang/Number"), (2, u "value"), (56, .integer 65536), (37, u "TYPE"), (0, u "Ljava/lang/Class;"), (0, .class_ 305), (0, u "java/lang/Comparable"), (0, .class_ 307), (0, u "java/lang/constant/Constable"), (0, .class_ 309), (0, u "java/lang/constant/ConstantDesc"), (0, u "MIN_VALUE"), (1, u "MAX_VALUE"), (3, u "SIZE"), (1, u "BYTES"), (1, u "serialVersionUID"), (0, u "J")] 131

def k9c0 : Code := { maxStack := 3, maxLocals := 2, code := jdk_33_method_47_code, exceptionTable := #[], attributes := #[] }
def k9m0 : Method := { name := "numberOfLeadingZeros", desc := "(I)I", sig := { parameters := [.int], returnType := some .int }, accessFlags := 9, code := some k9c0 }
/-- java/lang/Integer -/
def k9 : Class := { plain "java/lang/Integer" (some 4) with
  accessFlags := 49
  interfaces := #[5, 6, 7]
  cf := some (fileOf pool9 1 #[.nestMembers #[189]] #[{ accessFlags := 9, nameIndex := 53, descriptorIndex := 54, attributes := #[] }] 49 203 #[304, 306, 308] #[{ accessFlags := 25, nameIndex := 310, descriptorIndex := 194, attributes := #[] }, { accessFlags := 25, nameIndex := 312, descriptorIndex := 194, attributes := #[] }, { accessFlags := 25, nameIndex := 302, descriptorIndex := 303, attributes := #[] }, { accessFlags := 24, nameIndex := 19, descriptorIndex := 20, attributes := #[] }, { accessFlags := 24, nameIndex := 89, descriptorIndex := 86, attributes := #[] }, { accessFlags := 24, nameIndex := 85, descriptorIndex := 86, attributes := #[] }, { accessFlags := 18, nameIndex := 207, descriptorIndex := 194, attributes := #[] }, { accessFlags := 25, nameIndex := 316, descriptorIndex := 194, attributes := #[] }, { accessFlags := 25, nameIndex := 318, descriptorIndex := 194, attributes := #[] }, { accessFlags := 26, nameIndex := 320, descriptorIndex := 321, attributes := #[] }])
  fields := #[{ name := "MIN_VALUE", type := .int, accessFlags := 25, slot := 0, constantValue := 0 }, { name := "MAX_VALUE", type := .int, accessFlags := 25, slot := 1, constantValue := 0 }, { name := "TYPE", type := (.object "java/lang/Class"), accessFlags := 25, slot := 2, constantValue := 0 }, { name := "digits", type := (.array .char), accessFlags := 24, slot := 3, constantValue := 0 }, { name := "DigitTens", type := (.array .byte), accessFlags := 24, slot := 4, constantValue := 0 }, { name := "DigitOnes", type := (.array .byte), accessFlags := 24, slot := 5, constantValue := 0 }, { name := "value", type := .int, accessFlags := 18, slot := 0, constantValue := 0 }, { name := "SIZE", type := .int, accessFlags := 25, slot := 6, constantValue := 0 }, { name := "BYTES", type := .int, accessFlags := 25, slot := 7, constantValue := 0 }, { name := "serialVersionUID", type := .long, accessFlags := 26, slot := 8, constantValue := 0 }]
  methods := #[k9m0]
  instanceTypes := #[.int]
  staticTypes := #[.int, .int, (.object "java/lang/Class"), (.array .char), (.array .byte), (.array .byte), .int, .int, .long]
  resolved := Array.replicate 453 none
  statics := none }

def pool10 : Array CpInfo := pool [(1, u "java/lang/Cloneable"), (0, .class_ 1), (0, u "java/lang/Object"), (0, .class_ 3)] 3

/-- java/lang/Cloneable -/
def k10 : Class := { plain "java/lang/Cloneable" (some 0) with
  accessFlags := 1537
  interfaces := #[]
  cf := some (fileOf pool10 2 #[] #[] 1537 4 #[] #[])
  fields := #[]
  methods := #[]
  instanceTypes := #[]
  staticTypes := #[]
  resolved := Array.replicate 8 none
  statics := none }

/-- the primitive byte -/
def k11 : Class := { plain "byte" none with kind := .primitive 'B', accessFlags := 0x411 }
/-- [B -/
def k12 : Class := { plain "[B" (some 0) with kind := .array 11 .byte, interfaces := #[10, 3], accessFlags := 1041 }

/-- the primitive int -/
def k13 : Class := { plain "int" none with kind := .primitive 'I', accessFlags := 0x411 }
/-- [I -/
def k14 : Class := { plain "[I" (some 0) with kind := .array 13 .int, interfaces := #[10, 3], accessFlags := 1041 }

def heap : Heap := #[]
def classes : Array Class := #[k0, k1, k2, k3, k4, k5, k6, k7, k8, k9, k10, k11, k12, k13, k14]
def interned : List (Array UInt16 × Addr) := []
def slotsUsed : Nat := 0
def theMethod : MethodId := ⟨1, 2⟩
def args0 : Array Value := #[.int 5, .long 77, .long 12]
def aboutOver (below : List Frame) : State where
  vm := { classes := classes, interned := interned.toArray }
  heap := heap
  slotsUsed := slotsUsed
  threads := #[{ frames := .invoking theMethod args0 :: below }]
def below0 : List Frame := [.native { method := ⟨0, 0⟩, args := #[] }]
def about1 : State := aboutOver below0
def p0 : Program := .bare "" "" ""
def e0 : Env := launch0.env 0 0 0
theorem w_frames : about1.frames = Frame.invoking theMethod args0 :: below0 := rfl
set_option maxRecDepth 65536 in
theorem w_args : argsFit about1.vm theMethod args0 = true := by decide +kernel
set_option maxRecDepth 65536 in
theorem w_heap : heapFits about1 = true := by decide +kernel
set_option maxRecDepth 65536 in
theorem w_runnable : about1.curStatus? = some .runnable := by decide +kernel
set_option maxRecDepth 65536 in
theorem w_alone : about1.alone = true := by decide +kernel
set_option maxRecDepth 65536 in
theorem w_named : about1.methodNamed? x = some theMethod := by decide +kernel
set_option maxRecDepth 65536 in
theorem w_hears : about1.hears theMethod below0 = true := by decide +kernel
set_option maxRecDepth 65536 in
theorem w_ripe : about1.ripe theMethod args0 below0 = true := by decide +kernel
theorem w_running : about1.status = .running := rfl
set_option maxRecDepth 65536 in
theorem w_room : about1.hasRoom e0.platform room_1 = true :=
  launch0.hasRoom_least _ room_1 (by decide +kernel) (by decide +kernel) (by decide +kernel) (by decide +kernel) (by decide +kernel) (by decide +kernel)
theorem allAtoms_all (ts : List Jvm.Cond) (a : Array Jvm.Value) (st : Jvm.State) : (allAtoms ts).before a st = ts.all (fun c => c.before a st) := by
  induction ts with
  | nil => rfl
  | cons c t ih =>
    show (Jvm.Cond.and c (allAtoms t)).before a st = _
    rw [Jvm.Cond.before_and, ih, List.all_cons]
def words1 : List Jvm.Cond := Jvm.Cond.code x code maxLocals ret :: tables_1
/-- a 'code' word, met by the world's own term for the bytes: nothing is compared byte by byte -/
theorem code_word {y : MethodName} {bytes : ByteArray} {mx : Nat} {rt : Option FieldType} {a : Array Value} {s : State} {m : MethodId} {meth : Method} {c : Code} (h1 : s.methodNamed? y = some m) (h2 : s.vm.method? m = some meth) (h3 : meth.code = some c) (h4 : c.code = bytes)
    (h5 : (c.maxLocals == mx && c.exceptionTable.isEmpty && decide (c.maxStack ≤ mostOperands) && decide (meth.sig.returnType = rt) && !meth.locks && decide (parseMethodDescriptor y.desc = some meth.sig)) = true) : (Jvm.Cond.code y bytes mx rt).before a s = true := by
  simp only [Bool.and_eq_true, beq_iff_eq, Bool.not_eq_true', decide_eq_true_eq] at h5
  obtain ⟨⟨⟨⟨⟨g1, g2⟩, g3⟩, g4⟩, g5⟩, g6⟩ := h5
  simp [Cond.before, Cond.holds, Cond.value, h1, h2, h3, h4, g1, g2, g3, g4, g5, g6]
def isCode : Jvm.Cond → Bool
  | .code _ _ _ _ => true
  | _ => false
theorem all_split {L : List Jvm.Cond} {P : Jvm.Cond → Bool} (h1 : L.all (fun c => isCode c || P c) = true) (h2 : ∀ c ∈ L.filter isCode, P c = true) : L.all P = true := by
  refine List.all_eq_true.mpr fun c hc => ?_
  have h := List.all_eq_true.mp h1 c hc
  rcases Bool.eq_false_or_eq_true (isCode c) with hi | hi
  · exact h2 c (List.mem_filter.mpr ⟨hc, hi⟩)
  · simpa [hi] using h
set_option maxRecDepth 65536 in
theorem w_c0 : (Jvm.Cond.code x code maxLocals ret).before args0 about1 = true := code_word (m := ⟨1, 2⟩) (meth := k1m2) (c := k1c2) (by decide +kernel) rfl rfl rfl (by decide +kernel)
set_option maxRecDepth 65536 in
theorem w_c1 : (Jvm.Cond.code ({ cls := "com/example/evident_ledger/evidentledger/MerkleTreeHeightPinLaw", name := "drawSize", desc := "(IJJ)J" } : Jvm.MethodName) method_2_code (6 : Nat) (Option.some Jvm.ClassFile.FieldType.long)).before args0 about1 = true := code_word (m := ⟨1, 1⟩) (meth := k1m1) (c := k1c1) (by decide +kernel) rfl rfl rfl (by decide +kernel)
set_option maxRecDepth 65536 in
theorem w_c2 : (Jvm.Cond.code ({ cls := "com/example/evident_ledger/evidentledger/MerkleTree", name := "height", desc := "(J)I" } : Jvm.MethodName) prog_37_method_4_code (2 : Nat) (Option.some Jvm.ClassFile.FieldType.int)).before args0 about1 = true := code_word (m := ⟨2, 1⟩) (meth := k2m1) (c := k2c1) (by decide +kernel) rfl rfl rfl (by decide +kernel)
set_option maxRecDepth 65536 in
theorem w_c3 : (Jvm.Cond.code ({ cls := "java/lang/Long", name := "numberOfLeadingZeros", desc := "(J)I" } : Jvm.MethodName) jdk_35_method_48_code (3 : Nat) (Option.some Jvm.ClassFile.FieldType.int)).before args0 about1 = true := code_word (m := ⟨8, 0⟩) (meth := k8m0) (c := k8c0) (by decide +kernel) rfl rfl rfl (by decide +kernel)
set_option maxRecDepth 65536 in
theorem w_c4 : (Jvm.Cond.code ({ cls := "java/lang/Integer", name := "numberOfLeadingZeros", desc := "(I)I" } : Jvm.MethodName) jdk_33_method_47_code (2 : Nat) (Option.some Jvm.ClassFile.FieldType.int)).before args0 about1 = true := code_word (m := ⟨9, 0⟩) (meth := k9m0) (c := k9c0) (by decide +kernel) rfl rfl rfl (by decide +kernel)
def codes1 : List Jvm.Cond := [Jvm.Cond.code x code maxLocals ret, Jvm.Cond.code ({ cls := "com/example/evident_ledger/evidentledger/MerkleTreeHeightPinLaw", name := "drawSize", desc := "(IJJ)J" } : Jvm.MethodName) method_2_code (6 : Nat) (Option.some Jvm.ClassFile.FieldType.long), Jvm.Cond.code ({ cls := "com/example/evident_ledger/evidentledger/MerkleTree", name := "height", desc := "(J)I" } : Jvm.MethodName) prog_37_method_4_code (2 : Nat) (Option.some Jvm.ClassFile.FieldType.int), Jvm.Cond.code ({ cls := "java/lang/Long", name := "numberOfLeadingZeros", desc := "(J)I" } : Jvm.MethodName) jdk_35_method_48_code (3 : Nat) (Option.some Jvm.ClassFile.FieldType.int), Jvm.Cond.code ({ cls := "java/lang/Integer", name := "numberOfLeadingZeros", desc := "(I)I" } : Jvm.MethodName) jdk_33_method_47_code (2 : Nat) (Option.some Jvm.ClassFile.FieldType.int)]
set_option maxRecDepth 65536 in
theorem codes_eq : words1.filter isCode = codes1 := rfl
theorem w_codes : ∀ c ∈ words1.filter isCode, c.before args0 about1 = true := by
  rw [codes_eq]
  intro c hc
  simp only [codes1, List.mem_cons, List.not_mem_nil, or_false] at hc
  rcases hc with rfl | rfl | rfl | rfl | rfl
  · exact w_c0
  · exact w_c1
  · exact w_c2
  · exact w_c3
  · exact w_c4
set_option maxRecDepth 65536 in
theorem w_t1 : words1.all (fun c => isCode c || c.before args0 about1) = true := by decide +kernel
theorem w_tables : (allAtoms (Jvm.Cond.code x code maxLocals ret :: tables_1)).before args0 about1 = true := by
  rw [allAtoms_all]
  show words1.all (fun c => c.before args0 about1) = true
  refine all_split ?_ w_codes
  rw [w_t1]
set_option maxRecDepth 65536 in
theorem w_case : (Jvm.Cond.and given_1 narrow_1).before args0 about1 = true := by decide +kernel
theorem w_applies : (headSpec (Jvm.Cond.code x code maxLocals ret :: tables_1) room_1).applies x e0.platform about1 = true :=
  (Spec.applies_iff w_frames).mpr ⟨w_running, w_runnable, w_alone, w_named, w_hears, w_ripe, w_room, w_tables⟩
theorem atStart : AtStart classFile x code maxLocals ret World_1 tables_1 room_1 Calls_1 rest_1 Pre_1 launch0 p0 e0 about1 theMethod args0 below0 :=
  ⟨lists_1, trivial, launch0.admits_env _ _ _, launch0.least_env, fairChoices_fair.cas, fairChoices_fair.clock, w_frames, w_args, w_heap, w_applies, trivial, trivial, w_case⟩
end start1
theorem witness_1 : WitnessClaimed_1 := ⟨start1.p0, start1.e0, start1.about1, start1.theMethod, start1.args0, start1.below0, start1.atStart⟩
end Jvm.Pilot.@@N@@
