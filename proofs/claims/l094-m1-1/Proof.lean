import JvmDerived
import JvmDerived.Pilot.@@N@@Statement
import JvmDerived.Pilot.@@N@@Code
set_option linter.unusedVariables false
set_option linter.unusedSimpArgs false
namespace Jvm.RoadKit
open Sem ClassFile Op Lib Jvm.Stand Jvm.Free Jvm.LawKit
section New
variable {p : Program} {l : Launch} {e : Env} {R : Room} {s : State} {m : MethodId} {args : Array Value} {below : List Frame} {meth : Method} {c : Code} {T : State} {locs : List Loc} {cells slots : Nat}
theorem retI (X : Stand p l e R s m args below meth c T locs cells slots) (hx : p.tables.exec = Jvm.exec) {pc : Nat} {Ls : Array Slot} {z : Int32} {rest : List Value} (hret : meth.sig.returnType = some .int) (hd : decode c.code pc = .ok (.ireturn, 1)) {fs : List Frame}
    (hl : ∀ (f : JFrame) (acts : List Action), f.method = m → f.locked = none → f.entered = [] → (doReturn e (T.setTop f) acts (some (.int z))).1 = T.setFrames fs) : Steps p.tables e below (T.setTop (mkF m pc Ls (.int z :: rest))) (T.setFrames fs) := by
  have hm' : T.vm.method? m = some meth := X.method'
  have hn : narrow .int (.int z) = .int z := rfl
  show Steps p.tables e below (T.setTop { method := m, pc := pc, locals := Ls, stack := _ :: rest, locked := none }) _
  jvm_step X.here [X.here.top, hx, hd, hm', hret, hn]
  first | (intro acts; rw [hl _ acts rfl rfl rfl]) | rw [hl _ _ rfl rfl rfl]
  exact Steps.refl _
end New
end Jvm.RoadKit
namespace Jvm.Pilot.@@N@@
open Jvm Jvm.ClassFile Sem Op Lib Jvm.Free Jvm.Stand Jvm.LawKit Jvm.RoadKit Bundle Jvm.Pilot.@@N@@.Jvm.D

theorem own_mask (x : Int32) : 0 ≤ (x &&& (2147483647 : Int32)).toInt ∧ (x &&& (2147483647 : Int32)).toInt ≤ 2147483647 := by
  have q := c_and x (2147483647 : Int32) (by decide)
  have e : (2147483647 : Int32).toInt = 2147483647 := by decide
  omega
theorem d1_0 : decode prog_19_method_1_code 0 = .ok (.aload_n 0, 1) := by decide +kernel
theorem d1_1 : decode prog_19_method_1_code 1 = .ok (.invokespecial 1, 3) := by decide +kernel
theorem d1_4 : decode prog_19_method_1_code 4 = .ok (.aload_n 0, 1) := by decide +kernel
theorem d1_5 : decode prog_19_method_1_code 5 = .ok (.iconst 2, 1) := by decide +kernel
theorem d1_6 : decode prog_19_method_1_code 6 = .ok (.newarray .int, 2) := by decide +kernel
theorem d1_8 : decode prog_19_method_1_code 8 = .ok (.putfield 7, 3) := by decide +kernel
theorem d1_11 : decode prog_19_method_1_code 11 = .ok (.aload_n 0, 1) := by decide +kernel
theorem d1_12 : decode prog_19_method_1_code 12 = .ok (.iconst 2, 1) := by decide +kernel
theorem d1_13 : decode prog_19_method_1_code 13 = .ok (.newarray .int, 2) := by decide +kernel
theorem d1_15 : decode prog_19_method_1_code 15 = .ok (.putfield 13, 3) := by decide +kernel
theorem d1_18 : decode prog_19_method_1_code 18 = .ok (.aload_n 0, 1) := by decide +kernel
theorem d1_19 : decode prog_19_method_1_code 19 = .ok (.iconst 1, 1) := by decide +kernel
theorem d1_20 : decode prog_19_method_1_code 20 = .ok (.newarray .int, 2) := by decide +kernel
theorem d1_22 : decode prog_19_method_1_code 22 = .ok (.putfield 16, 3) := by decide +kernel
theorem d1_25 : decode prog_19_method_1_code 25 = .ok (.aload_n 0, 1) := by decide +kernel
theorem d1_26 : decode prog_19_method_1_code 26 = .ok (.iconst 1, 1) := by decide +kernel
theorem d1_27 : decode prog_19_method_1_code 27 = .ok (.newarray .int, 2) := by decide +kernel
theorem d1_29 : decode prog_19_method_1_code 29 = .ok (.putfield 19, 3) := by decide +kernel
theorem d1_32 : decode prog_19_method_1_code 32 = .ok (.return_, 1) := by decide +kernel
theorem pn1 : plainName "com/example/portia/portia/index/Postings" = true := by first | (simp [plainName, overriddenIn]; done) | decide +kernel
theorem ef1 (m : MethodId) (x0 : Addr) : entryFrame m #[(.ref x0)] 1 = mkF m 0 #[.val (.ref x0)] [] := by first | (simp [entryFrame, mkF, argsToLocals, Value.category]; done) | rfl
def Q1 (Z : State) (x0 : Addr) (u0 : Value) (u1 : Value) (u2 : Value) (u3 : Value) (h0 : Heap) (n0 : Nat) (v : Option Value) (h : Heap) (L : List Loc) : Prop := ∃ (ao : Addr), ∃ (ko : ClassId), ∃ (af : Addr), ∃ (kf : ClassId), ∃ (ai : Addr), ∃ (ki : ClassId), ∃ (al : Addr), ∃ (kl : ClassId), v = none ∧ Fr n0 L ∧ Keep h0 h [x0] ∧ Exa Z h x0 "com/example/portia/portia/index/Postings" ∧ Fld Z h x0 "com/example/portia/portia/index/Postings" "ordinals" "[I" (.ref ao) ∧ Fld Z h x0 "com/example/portia/portia/index/Postings" "frequencies" "[I" (.ref af) ∧ Fld Z h x0 "com/example/portia/portia/index/Postings" "size" "I" (.int (0 : Int32)) ∧ Fld Z h x0 "com/example/portia/portia/index/Postings" "documentFrequency" "I" (.int (0 : Int32)) ∧ Fld Z h x0 "com/example/portia/portia/index/Postings" "impactFrequencies" "[I" (.ref ai) ∧ Fld Z h x0 "com/example/portia/portia/index/Postings" "impactLengths" "[I" (.ref al) ∧ Fld Z h x0 "com/example/portia/portia/index/Postings" "impactCount" "I" (.int (0 : Int32)) ∧ Arv Z h ao ko .int (2 : Int32) [(.int (0 : Int32)), (.int (0 : Int32))] (.int (0 : Int32)) ∧ Arv Z h af kf .int (2 : Int32) [(.int (0 : Int32)), (.int (0 : Int32))] (.int (0 : Int32)) ∧ Arv Z h ai ki .int (1 : Int32) [(.int (0 : Int32))] (.int (0 : Int32)) ∧ Arv Z h al kl .int (1 : Int32) [(.int (0 : Int32))] (.int (0 : Int32)) ∧ h0.size ≤ ao ∧ h0.size ≤ af ∧ h0.size ≤ ai ∧ h0.size ≤ al ∧ ao ≠ af ∧ ao ≠ ai ∧ ao ≠ al ∧ af ≠ ai ∧ af ≠ al ∧ ai ≠ al
set_option maxRecDepth 65536 in
set_option maxHeartbeats 40000000 in
theorem rm1 (l : Launch) (Z : State) (a0 : Array Value) (hw : ∀ d ∈ tables_1, d.before a0 Z = true) (ws : List Jvm.Cond) (x0 : Addr) (u0 : Value) (u1 : Value) (u2 : Value) (u3 : Value) (h0 : Heap) (n0 : Nat) (Z0 : n0 ≤ h0.size) (B0 : Exa Z h0 x0 "com/example/portia/portia/index/Postings") (B1 : Fld Z h0 x0 "com/example/portia/portia/index/Postings" "ordinals" "[I" u0) (B2 : Fld Z h0 x0 "com/example/portia/portia/index/Postings" "frequencies" "[I" u1) (B3 : Fld Z h0 x0 "com/example/portia/portia/index/Postings" "size" "I" (.int (0 : Int32))) (B4 : Fld Z h0 x0 "com/example/portia/portia/index/Postings" "documentFrequency" "I" (.int (0 : Int32))) (B5 : Fld Z h0 x0 "com/example/portia/portia/index/Postings" "impactFrequencies" "[I" u2) (B6 : Fld Z h0 x0 "com/example/portia/portia/index/Postings" "impactLengths" "[I" u3) (B7 : Fld Z h0 x0 "com/example/portia/portia/index/Postings" "impactCount" "I" (.int (0 : Int32))) (g_x0 : n0 ≤ x0) :
    MetFree l (⟨"com/example/portia/portia/index/Postings", "<init>", "()V"⟩ : MethodName) (head1 (Jvm.Cond.code (⟨"com/example/portia/portia/index/Postings", "<init>", "()V"⟩ : MethodName) prog_19_method_1_code 1 none :: ws) ({ frames := 1, cells := 4, slots := 6, locals := 12 } : Room)) (fun a U => a = #[(.ref x0)] ∧ Z.Warmed39 U.vm ∧ U.heap = h0) (fun _ _ _ _ _ => True) (fun _ U o U' => ∃ v L, o = .returned v ∧ Q1 Z x0 u0 u1 u2 u3 h0 n0 v U'.heap L ∧ FrameEnd U o U' L ({ frames := 1, cells := 4, slots := 6, locals := 12 } : Room).cells ({ frames := 1, cells := 4, slots := 6, locals := 12 } : Room).slots) := by
  refine MetFree.of_bodySF (plainFor_of_name pn1) hisR ?_
  intro p e s m args below meth c s₁ Bd hml0 hP hK
  obtain ⟨rfl, hZ, hh⟩ := hP
  have hx := Bd.exec
  have hby := Bd.bytes
  have hml : c.maxLocals = 1 := hml0
  have hown : s.vm.findClass "com/example/portia/portia/index/Postings" = some m.cls := findClass_of_methodNamed Bd.named
  have hnm := (name_of_methodNamed Bd.named Bd.method).1
  have X0 : Stand p l e ({ frames := 1, cells := 4, slots := 6, locals := 12 } : Room) s m #[(.ref x0)] below meth c s₁ [] 0 0 := Stand.of_body Bd
  have e0 : s₁.heap = h0 := by rw [← hh, Bd.state]; rfl
  have N0 := Fr.nil n0
  have pre0 : Steps p.tables e below (s₁.setTop (entryFrame m #[(.ref x0)] 1)) (s₁.setTop (mkF m 0 #[.val (.ref x0)] [])) := castTop (ef1 m x0) (Steps.refl _)
  have K0 := Keep.refl h0 [x0]
  have st1 : Steps p.tables e below (s₁.setTop (mkF m 0 #[.val (.ref x0)] [])) (s₁.setTop (mkF m 1 #[.val (.ref x0)] [(.ref x0)])) := by
    refine XS.aloadN X0.here hx rfl (hb hby d1_0) rfl rfl ?_
    show Steps p.tables e below (s₁.setTop (mkF m 1 #[.val (.ref x0)] [(.ref x0)])) _
    exact Steps.refl _
  have pre1 := pre0.trans st1
  obtain ⟨T2, X2, e2, st2⟩ := initO X0 hx hZ hown (hw _ (List.mem_of_getElem? (i := 10) rfl)) (hw _ (List.mem_of_getElem? (i := 11) rfl)) (hw _ (List.mem_of_getElem? (i := 12) rfl)) e0 (g := (mkF m 1 #[.val (.ref x0)] [(.ref x0)])) rfl (by rw [hml]; rfl) rfl (hb hby d1_1) (by decide) (W := 0) (by show 2 * 0 + _ ≤ _; exact Nat.le_of_eq rfl) (by decide)
  have pre2 : Steps p.tables e below (s₁.setTop (entryFrame m #[(.ref x0)] 1)) (T2.setTop (mkF m 4 #[.val (.ref x0)] [])) := pre1.trans (st2 _ (Steps.refl _))
  have st3 : Steps p.tables e below (T2.setTop (mkF m 4 #[.val (.ref x0)] [])) (T2.setTop (mkF m 6 #[.val (.ref x0)] [(.int (2 : Int32)), (.ref x0)])) := by
    refine XS.aloadN X2.here hx rfl (hb hby d1_4) rfl rfl ?_
    show Steps p.tables e below (T2.setTop (mkF m 5 #[.val (.ref x0)] [(.ref x0)])) _
    refine XS.iconst X2.here hx rfl (hb hby d1_5) ?_
    show Steps p.tables e below (T2.setTop (mkF m 6 #[.val (.ref x0)] [(.int (2 : Int32)), (.ref x0)])) _
    exact Steps.refl _
  have pre3 := pre2.trans st3
  obtain ⟨T4, h4, k4, X4, e4, E4, A4, st4⟩ := newP X2 hx hZ (hw _ (List.mem_of_getElem? (i := 0) rfl)) e2 (g := (mkF m 6 #[.val (.ref x0)] [(.int (2 : Int32)), (.ref x0)])) rfl (hb hby d1_6) rfl (by decide) (cap := 2) (by decide) (by decide) (by decide) (by decide)
  obtain ⟨b4, g4⟩ : ∃ z, z = h0.size := ⟨_, rfl⟩
  rw [← g4] at A4 st4
  have pre4 : Steps p.tables e below (s₁.setTop (entryFrame m #[(.ref x0)] 1)) (T4.setTop (mkF m 8 #[.val (.ref x0)] [(.ref b4), (.ref x0)])) := pre3.trans (st4 _ (Steps.refl _))
  have gn4 : n0 ≤ b4 := Nat.le_trans Z0 (Nat.le_of_eq g4.symm)
  have sz4 : h0.size ≤ b4 := Nat.le_trans K0.1 (Nat.le_of_eq g4.symm)
  have nex0_b4 : x0 ≠ b4 := Nat.ne_of_lt (Nat.lt_of_lt_of_le B0.lt (Nat.le_of_eq g4.symm))
  have F5 : Exa Z h4 x0 "com/example/portia/portia/index/Postings" := B0.ext E4
  have F6 : Fld Z h4 x0 "com/example/portia/portia/index/Postings" "ordinals" "[I" u0 := B1.ext E4
  have F7 : Fld Z h4 x0 "com/example/portia/portia/index/Postings" "frequencies" "[I" u1 := B2.ext E4
  have F8 : Fld Z h4 x0 "com/example/portia/portia/index/Postings" "size" "I" (.int (0 : Int32)) := B3.ext E4
  have F9 : Fld Z h4 x0 "com/example/portia/portia/index/Postings" "documentFrequency" "I" (.int (0 : Int32)) := B4.ext E4
  have F10 : Fld Z h4 x0 "com/example/portia/portia/index/Postings" "impactFrequencies" "[I" u2 := B5.ext E4
  have F11 : Fld Z h4 x0 "com/example/portia/portia/index/Postings" "impactLengths" "[I" u3 := B6.ext E4
  have F12 : Fld Z h4 x0 "com/example/portia/portia/index/Postings" "impactCount" "I" (.int (0 : Int32)) := B7.ext E4
  have K4 := K0.ext E4
  have Z4 : n0 ≤ h4.size := Nat.le_trans Z0 E4.1
  have F13 : Arv Z h4 b4 k4 .int (2 : Int32) [(.int (0 : Int32)), (.int (0 : Int32))] (.int (0 : Int32)) := (Arv.new A4 (by decide)).pad (pad_rep [] (.int (0 : Int32)) 2)
  obtain ⟨T14, h14, X14, e14, W14, st14⟩ := putF X4 hx hZ hown (host := "") (Or.inl (hw _ (List.mem_of_getElem? (i := 13) rfl))) Via.refl e4 F6 F5 (Or.inl (hw _ (List.mem_of_getElem? (i := 14) rfl))) (hw _ (List.mem_of_getElem? (i := 5) rfl)) (ty := (.array .int)) (by decide) rfl rfl (g := (mkF m 8 #[.val (.ref x0)] [(.ref b4), (.ref x0)])) rfl rfl (hb hby d1_8)
  have pre14 : Steps p.tables e below (s₁.setTop (entryFrame m #[(.ref x0)] 1)) (T14.setTop (mkF m 11 #[.val (.ref x0)] [])) := pre4.trans (st14 _ (Steps.refl _))
  have F15 : Exa Z h14 x0 "com/example/portia/portia/index/Postings" := F5.wr W14
  have F17 : Fld Z h14 x0 "com/example/portia/portia/index/Postings" "frequencies" "[I" u1 := F7.other W14 (Or.inr (slot_ne (Or.inl (hw _ (List.mem_of_getElem? (i := 16) rfl))) (Or.inl (hw _ (List.mem_of_getElem? (i := 14) rfl))) (by decide) (t := (.array .int)) (t' := (.array .int)) (by decide) (by decide)))
  have F18 : Fld Z h14 x0 "com/example/portia/portia/index/Postings" "size" "I" (.int (0 : Int32)) := F8.other W14 (Or.inr (slot_ne (Or.inl (hw _ (List.mem_of_getElem? (i := 27) rfl))) (Or.inl (hw _ (List.mem_of_getElem? (i := 14) rfl))) (by decide) (t := .int) (t' := (.array .int)) (by decide) (by decide)))
  have F19 : Fld Z h14 x0 "com/example/portia/portia/index/Postings" "documentFrequency" "I" (.int (0 : Int32)) := F9.other W14 (Or.inr (slot_ne (Or.inl (hw _ (List.mem_of_getElem? (i := 34) rfl))) (Or.inl (hw _ (List.mem_of_getElem? (i := 14) rfl))) (by decide) (t := .int) (t' := (.array .int)) (by decide) (by decide)))
  have F20 : Fld Z h14 x0 "com/example/portia/portia/index/Postings" "impactFrequencies" "[I" u2 := F10.other W14 (Or.inr (slot_ne (Or.inl (hw _ (List.mem_of_getElem? (i := 18) rfl))) (Or.inl (hw _ (List.mem_of_getElem? (i := 14) rfl))) (by decide) (t := (.array .int)) (t' := (.array .int)) (by decide) (by decide)))
  have F21 : Fld Z h14 x0 "com/example/portia/portia/index/Postings" "impactLengths" "[I" u3 := F11.other W14 (Or.inr (slot_ne (Or.inl (hw _ (List.mem_of_getElem? (i := 20) rfl))) (Or.inl (hw _ (List.mem_of_getElem? (i := 14) rfl))) (by decide) (t := (.array .int)) (t' := (.array .int)) (by decide) (by decide)))
  have F22 : Fld Z h14 x0 "com/example/portia/portia/index/Postings" "impactCount" "I" (.int (0 : Int32)) := F12.other W14 (Or.inr (slot_ne (Or.inl (hw _ (List.mem_of_getElem? (i := 40) rfl))) (Or.inl (hw _ (List.mem_of_getElem? (i := 14) rfl))) (by decide) (t := .int) (t' := (.array .int)) (by decide) (by decide)))
  have F23 : Arv Z h14 b4 k4 .int (2 : Int32) [(.int (0 : Int32)), (.int (0 : Int32))] (.int (0 : Int32)) := F13.other W14 (Ne.symm nex0_b4)
  have K14 := K4.wr W14 (Or.inl (List.mem_of_getElem? (i := 0) rfl))
  have Z14 : n0 ≤ h14.size := Nat.le_trans Z4 (Keep.of_wr W14).1
  have Fw14 : Fld Z h14 x0 "com/example/portia/portia/index/Postings" "ordinals" "[I" (.ref b4) := F6.same W14
  have N14 := Fr.snoc X14 N0 g_x0
  have st24 : Steps p.tables e below (T14.setTop (mkF m 11 #[.val (.ref x0)] [])) (T14.setTop (mkF m 13 #[.val (.ref x0)] [(.int (2 : Int32)), (.ref x0)])) := by
    refine XS.aloadN X14.here hx rfl (hb hby d1_11) rfl rfl ?_
    show Steps p.tables e below (T14.setTop (mkF m 12 #[.val (.ref x0)] [(.ref x0)])) _
    refine XS.iconst X14.here hx rfl (hb hby d1_12) ?_
    show Steps p.tables e below (T14.setTop (mkF m 13 #[.val (.ref x0)] [(.int (2 : Int32)), (.ref x0)])) _
    exact Steps.refl _
  have pre24 := pre14.trans st24
  obtain ⟨T25, h25, k25, X25, e25, E25, A25, st25⟩ := newP X14 hx hZ (hw _ (List.mem_of_getElem? (i := 0) rfl)) e14 (g := (mkF m 13 #[.val (.ref x0)] [(.int (2 : Int32)), (.ref x0)])) rfl (hb hby d1_13) rfl (by decide) (cap := 2) (by decide) (by decide) (by decide) (by decide)
  obtain ⟨b25, g25⟩ : ∃ z, z = h14.size := ⟨_, rfl⟩
  rw [← g25] at A25 st25
  have pre25 : Steps p.tables e below (s₁.setTop (entryFrame m #[(.ref x0)] 1)) (T25.setTop (mkF m 15 #[.val (.ref x0)] [(.ref b25), (.ref x0)])) := pre24.trans (st25 _ (Steps.refl _))
  have gn25 : n0 ≤ b25 := Nat.le_trans Z14 (Nat.le_of_eq g25.symm)
  have sz25 : h0.size ≤ b25 := Nat.le_trans K14.1 (Nat.le_of_eq g25.symm)
  have nex0_b25 : x0 ≠ b25 := Nat.ne_of_lt (Nat.lt_of_lt_of_le F15.lt (Nat.le_of_eq g25.symm))
  have neb4_b25 : b4 ≠ b25 := Nat.ne_of_lt (Nat.lt_of_lt_of_le F23.lt (Nat.le_of_eq g25.symm))
  have F26 : Exa Z h25 x0 "com/example/portia/portia/index/Postings" := F15.ext E25
  have F27 : Fld Z h25 x0 "com/example/portia/portia/index/Postings" "frequencies" "[I" u1 := F17.ext E25
  have F28 : Fld Z h25 x0 "com/example/portia/portia/index/Postings" "size" "I" (.int (0 : Int32)) := F18.ext E25
  have F29 : Fld Z h25 x0 "com/example/portia/portia/index/Postings" "documentFrequency" "I" (.int (0 : Int32)) := F19.ext E25
  have F30 : Fld Z h25 x0 "com/example/portia/portia/index/Postings" "impactFrequencies" "[I" u2 := F20.ext E25
  have F31 : Fld Z h25 x0 "com/example/portia/portia/index/Postings" "impactLengths" "[I" u3 := F21.ext E25
  have F32 : Fld Z h25 x0 "com/example/portia/portia/index/Postings" "impactCount" "I" (.int (0 : Int32)) := F22.ext E25
  have F33 : Arv Z h25 b4 k4 .int (2 : Int32) [(.int (0 : Int32)), (.int (0 : Int32))] (.int (0 : Int32)) := F23.ext E25
  have F34 : Fld Z h25 x0 "com/example/portia/portia/index/Postings" "ordinals" "[I" (.ref b4) := Fw14.ext E25
  have K25 := K14.ext E25
  have Z25 : n0 ≤ h25.size := Nat.le_trans Z14 E25.1
  have F35 : Arv Z h25 b25 k25 .int (2 : Int32) [(.int (0 : Int32)), (.int (0 : Int32))] (.int (0 : Int32)) := (Arv.new A25 (by decide)).pad (pad_rep [] (.int (0 : Int32)) 2)
  obtain ⟨T36, h36, X36, e36, W36, st36⟩ := putF X25 hx hZ hown (host := "") (Or.inl (hw _ (List.mem_of_getElem? (i := 15) rfl))) Via.refl e25 F27 F26 (Or.inl (hw _ (List.mem_of_getElem? (i := 16) rfl))) (hw _ (List.mem_of_getElem? (i := 5) rfl)) (ty := (.array .int)) (by decide) rfl rfl (g := (mkF m 15 #[.val (.ref x0)] [(.ref b25), (.ref x0)])) rfl rfl (hb hby d1_15)
  have pre36 : Steps p.tables e below (s₁.setTop (entryFrame m #[(.ref x0)] 1)) (T36.setTop (mkF m 18 #[.val (.ref x0)] [])) := pre25.trans (st36 _ (Steps.refl _))
  have F37 : Exa Z h36 x0 "com/example/portia/portia/index/Postings" := F26.wr W36
  have F39 : Fld Z h36 x0 "com/example/portia/portia/index/Postings" "size" "I" (.int (0 : Int32)) := F28.other W36 (Or.inr (slot_ne (Or.inl (hw _ (List.mem_of_getElem? (i := 27) rfl))) (Or.inl (hw _ (List.mem_of_getElem? (i := 16) rfl))) (by decide) (t := .int) (t' := (.array .int)) (by decide) (by decide)))
  have F40 : Fld Z h36 x0 "com/example/portia/portia/index/Postings" "documentFrequency" "I" (.int (0 : Int32)) := F29.other W36 (Or.inr (slot_ne (Or.inl (hw _ (List.mem_of_getElem? (i := 34) rfl))) (Or.inl (hw _ (List.mem_of_getElem? (i := 16) rfl))) (by decide) (t := .int) (t' := (.array .int)) (by decide) (by decide)))
  have F41 : Fld Z h36 x0 "com/example/portia/portia/index/Postings" "impactFrequencies" "[I" u2 := F30.other W36 (Or.inr (slot_ne (Or.inl (hw _ (List.mem_of_getElem? (i := 18) rfl))) (Or.inl (hw _ (List.mem_of_getElem? (i := 16) rfl))) (by decide) (t := (.array .int)) (t' := (.array .int)) (by decide) (by decide)))
  have F42 : Fld Z h36 x0 "com/example/portia/portia/index/Postings" "impactLengths" "[I" u3 := F31.other W36 (Or.inr (slot_ne (Or.inl (hw _ (List.mem_of_getElem? (i := 20) rfl))) (Or.inl (hw _ (List.mem_of_getElem? (i := 16) rfl))) (by decide) (t := (.array .int)) (t' := (.array .int)) (by decide) (by decide)))
  have F43 : Fld Z h36 x0 "com/example/portia/portia/index/Postings" "impactCount" "I" (.int (0 : Int32)) := F32.other W36 (Or.inr (slot_ne (Or.inl (hw _ (List.mem_of_getElem? (i := 40) rfl))) (Or.inl (hw _ (List.mem_of_getElem? (i := 16) rfl))) (by decide) (t := .int) (t' := (.array .int)) (by decide) (by decide)))
  have F44 : Arv Z h36 b4 k4 .int (2 : Int32) [(.int (0 : Int32)), (.int (0 : Int32))] (.int (0 : Int32)) := F33.other W36 (Ne.symm nex0_b4)
  have F45 : Fld Z h36 x0 "com/example/portia/portia/index/Postings" "ordinals" "[I" (.ref b4) := F34.other W36 (Or.inr (slot_ne (Or.inl (hw _ (List.mem_of_getElem? (i := 14) rfl))) (Or.inl (hw _ (List.mem_of_getElem? (i := 16) rfl))) (by decide) (t := (.array .int)) (t' := (.array .int)) (by decide) (by decide)))
  have F46 : Arv Z h36 b25 k25 .int (2 : Int32) [(.int (0 : Int32)), (.int (0 : Int32))] (.int (0 : Int32)) := F35.other W36 (Ne.symm nex0_b25)
  have K36 := K25.wr W36 (Or.inl (List.mem_of_getElem? (i := 0) rfl))
  have Z36 : n0 ≤ h36.size := Nat.le_trans Z25 (Keep.of_wr W36).1
  have Fw36 : Fld Z h36 x0 "com/example/portia/portia/index/Postings" "frequencies" "[I" (.ref b25) := F27.same W36
  have N36 := Fr.snoc X36 N14 g_x0
  have st47 : Steps p.tables e below (T36.setTop (mkF m 18 #[.val (.ref x0)] [])) (T36.setTop (mkF m 20 #[.val (.ref x0)] [(.int (1 : Int32)), (.ref x0)])) := by
    refine XS.aloadN X36.here hx rfl (hb hby d1_18) rfl rfl ?_
    show Steps p.tables e below (T36.setTop (mkF m 19 #[.val (.ref x0)] [(.ref x0)])) _
    refine XS.iconst X36.here hx rfl (hb hby d1_19) ?_
    show Steps p.tables e below (T36.setTop (mkF m 20 #[.val (.ref x0)] [(.int (1 : Int32)), (.ref x0)])) _
    exact Steps.refl _
  have pre47 := pre36.trans st47
  obtain ⟨T48, h48, k48, X48, e48, E48, A48, st48⟩ := newP X36 hx hZ (hw _ (List.mem_of_getElem? (i := 0) rfl)) e36 (g := (mkF m 20 #[.val (.ref x0)] [(.int (1 : Int32)), (.ref x0)])) rfl (hb hby d1_20) rfl (by decide) (cap := 1) (by decide) (by decide) (by decide) (by decide)
  obtain ⟨b48, g48⟩ : ∃ z, z = h36.size := ⟨_, rfl⟩
  rw [← g48] at A48 st48
  have pre48 : Steps p.tables e below (s₁.setTop (entryFrame m #[(.ref x0)] 1)) (T48.setTop (mkF m 22 #[.val (.ref x0)] [(.ref b48), (.ref x0)])) := pre47.trans (st48 _ (Steps.refl _))
  have gn48 : n0 ≤ b48 := Nat.le_trans Z36 (Nat.le_of_eq g48.symm)
  have sz48 : h0.size ≤ b48 := Nat.le_trans K36.1 (Nat.le_of_eq g48.symm)
  have nex0_b48 : x0 ≠ b48 := Nat.ne_of_lt (Nat.lt_of_lt_of_le F37.lt (Nat.le_of_eq g48.symm))
  have neb4_b48 : b4 ≠ b48 := Nat.ne_of_lt (Nat.lt_of_lt_of_le F44.lt (Nat.le_of_eq g48.symm))
  have neb25_b48 : b25 ≠ b48 := Nat.ne_of_lt (Nat.lt_of_lt_of_le F46.lt (Nat.le_of_eq g48.symm))
  have F49 : Exa Z h48 x0 "com/example/portia/portia/index/Postings" := F37.ext E48
  have F50 : Fld Z h48 x0 "com/example/portia/portia/index/Postings" "size" "I" (.int (0 : Int32)) := F39.ext E48
  have F51 : Fld Z h48 x0 "com/example/portia/portia/index/Postings" "documentFrequency" "I" (.int (0 : Int32)) := F40.ext E48
  have F52 : Fld Z h48 x0 "com/example/portia/portia/index/Postings" "impactFrequencies" "[I" u2 := F41.ext E48
  have F53 : Fld Z h48 x0 "com/example/portia/portia/index/Postings" "impactLengths" "[I" u3 := F42.ext E48
  have F54 : Fld Z h48 x0 "com/example/portia/portia/index/Postings" "impactCount" "I" (.int (0 : Int32)) := F43.ext E48
  have F55 : Arv Z h48 b4 k4 .int (2 : Int32) [(.int (0 : Int32)), (.int (0 : Int32))] (.int (0 : Int32)) := F44.ext E48
  have F56 : Fld Z h48 x0 "com/example/portia/portia/index/Postings" "ordinals" "[I" (.ref b4) := F45.ext E48
  have F57 : Arv Z h48 b25 k25 .int (2 : Int32) [(.int (0 : Int32)), (.int (0 : Int32))] (.int (0 : Int32)) := F46.ext E48
  have F58 : Fld Z h48 x0 "com/example/portia/portia/index/Postings" "frequencies" "[I" (.ref b25) := Fw36.ext E48
  have K48 := K36.ext E48
  have Z48 : n0 ≤ h48.size := Nat.le_trans Z36 E48.1
  have F59 : Arv Z h48 b48 k48 .int (1 : Int32) [(.int (0 : Int32))] (.int (0 : Int32)) := (Arv.new A48 (by decide)).pad (pad_rep [] (.int (0 : Int32)) 1)
  obtain ⟨T60, h60, X60, e60, W60, st60⟩ := putF X48 hx hZ hown (host := "") (Or.inl (hw _ (List.mem_of_getElem? (i := 17) rfl))) Via.refl e48 F52 F49 (Or.inl (hw _ (List.mem_of_getElem? (i := 18) rfl))) (hw _ (List.mem_of_getElem? (i := 5) rfl)) (ty := (.array .int)) (by decide) rfl rfl (g := (mkF m 22 #[.val (.ref x0)] [(.ref b48), (.ref x0)])) rfl rfl (hb hby d1_22)
  have pre60 : Steps p.tables e below (s₁.setTop (entryFrame m #[(.ref x0)] 1)) (T60.setTop (mkF m 25 #[.val (.ref x0)] [])) := pre48.trans (st60 _ (Steps.refl _))
  have F61 : Exa Z h60 x0 "com/example/portia/portia/index/Postings" := F49.wr W60
  have F62 : Fld Z h60 x0 "com/example/portia/portia/index/Postings" "size" "I" (.int (0 : Int32)) := F50.other W60 (Or.inr (slot_ne (Or.inl (hw _ (List.mem_of_getElem? (i := 27) rfl))) (Or.inl (hw _ (List.mem_of_getElem? (i := 18) rfl))) (by decide) (t := .int) (t' := (.array .int)) (by decide) (by decide)))
  have F63 : Fld Z h60 x0 "com/example/portia/portia/index/Postings" "documentFrequency" "I" (.int (0 : Int32)) := F51.other W60 (Or.inr (slot_ne (Or.inl (hw _ (List.mem_of_getElem? (i := 34) rfl))) (Or.inl (hw _ (List.mem_of_getElem? (i := 18) rfl))) (by decide) (t := .int) (t' := (.array .int)) (by decide) (by decide)))
  have F65 : Fld Z h60 x0 "com/example/portia/portia/index/Postings" "impactLengths" "[I" u3 := F53.other W60 (Or.inr (slot_ne (Or.inl (hw _ (List.mem_of_getElem? (i := 20) rfl))) (Or.inl (hw _ (List.mem_of_getElem? (i := 18) rfl))) (by decide) (t := (.array .int)) (t' := (.array .int)) (by decide) (by decide)))
  have F66 : Fld Z h60 x0 "com/example/portia/portia/index/Postings" "impactCount" "I" (.int (0 : Int32)) := F54.other W60 (Or.inr (slot_ne (Or.inl (hw _ (List.mem_of_getElem? (i := 40) rfl))) (Or.inl (hw _ (List.mem_of_getElem? (i := 18) rfl))) (by decide) (t := .int) (t' := (.array .int)) (by decide) (by decide)))
  have F67 : Arv Z h60 b4 k4 .int (2 : Int32) [(.int (0 : Int32)), (.int (0 : Int32))] (.int (0 : Int32)) := F55.other W60 (Ne.symm nex0_b4)
  have F68 : Fld Z h60 x0 "com/example/portia/portia/index/Postings" "ordinals" "[I" (.ref b4) := F56.other W60 (Or.inr (slot_ne (Or.inl (hw _ (List.mem_of_getElem? (i := 14) rfl))) (Or.inl (hw _ (List.mem_of_getElem? (i := 18) rfl))) (by decide) (t := (.array .int)) (t' := (.array .int)) (by decide) (by decide)))
  have F69 : Arv Z h60 b25 k25 .int (2 : Int32) [(.int (0 : Int32)), (.int (0 : Int32))] (.int (0 : Int32)) := F57.other W60 (Ne.symm nex0_b25)
  have F70 : Fld Z h60 x0 "com/example/portia/portia/index/Postings" "frequencies" "[I" (.ref b25) := F58.other W60 (Or.inr (slot_ne (Or.inl (hw _ (List.mem_of_getElem? (i := 16) rfl))) (Or.inl (hw _ (List.mem_of_getElem? (i := 18) rfl))) (by decide) (t := (.array .int)) (t' := (.array .int)) (by decide) (by decide)))
  have F71 : Arv Z h60 b48 k48 .int (1 : Int32) [(.int (0 : Int32))] (.int (0 : Int32)) := F59.other W60 (Ne.symm nex0_b48)
  have K60 := K48.wr W60 (Or.inl (List.mem_of_getElem? (i := 0) rfl))
  have Z60 : n0 ≤ h60.size := Nat.le_trans Z48 (Keep.of_wr W60).1
  have Fw60 : Fld Z h60 x0 "com/example/portia/portia/index/Postings" "impactFrequencies" "[I" (.ref b48) := F52.same W60
  have N60 := Fr.snoc X60 N36 g_x0
  have st72 : Steps p.tables e below (T60.setTop (mkF m 25 #[.val (.ref x0)] [])) (T60.setTop (mkF m 27 #[.val (.ref x0)] [(.int (1 : Int32)), (.ref x0)])) := by
    refine XS.aloadN X60.here hx rfl (hb hby d1_25) rfl rfl ?_
    show Steps p.tables e below (T60.setTop (mkF m 26 #[.val (.ref x0)] [(.ref x0)])) _
    refine XS.iconst X60.here hx rfl (hb hby d1_26) ?_
    show Steps p.tables e below (T60.setTop (mkF m 27 #[.val (.ref x0)] [(.int (1 : Int32)), (.ref x0)])) _
    exact Steps.refl _
  have pre72 := pre60.trans st72
  obtain ⟨T73, h73, k73, X73, e73, E73, A73, st73⟩ := newP X60 hx hZ (hw _ (List.mem_of_getElem? (i := 0) rfl)) e60 (g := (mkF m 27 #[.val (.ref x0)] [(.int (1 : Int32)), (.ref x0)])) rfl (hb hby d1_27) rfl (by decide) (cap := 1) (by decide) (by decide) (by decide) (by decide)
  obtain ⟨b73, g73⟩ : ∃ z, z = h60.size := ⟨_, rfl⟩
  rw [← g73] at A73 st73
  have pre73 : Steps p.tables e below (s₁.setTop (entryFrame m #[(.ref x0)] 1)) (T73.setTop (mkF m 29 #[.val (.ref x0)] [(.ref b73), (.ref x0)])) := pre72.trans (st73 _ (Steps.refl _))
  have gn73 : n0 ≤ b73 := Nat.le_trans Z60 (Nat.le_of_eq g73.symm)
  have sz73 : h0.size ≤ b73 := Nat.le_trans K60.1 (Nat.le_of_eq g73.symm)
  have nex0_b73 : x0 ≠ b73 := Nat.ne_of_lt (Nat.lt_of_lt_of_le F61.lt (Nat.le_of_eq g73.symm))
  have neb4_b73 : b4 ≠ b73 := Nat.ne_of_lt (Nat.lt_of_lt_of_le F67.lt (Nat.le_of_eq g73.symm))
  have neb25_b73 : b25 ≠ b73 := Nat.ne_of_lt (Nat.lt_of_lt_of_le F69.lt (Nat.le_of_eq g73.symm))
  have neb48_b73 : b48 ≠ b73 := Nat.ne_of_lt (Nat.lt_of_lt_of_le F71.lt (Nat.le_of_eq g73.symm))
  have F74 : Exa Z h73 x0 "com/example/portia/portia/index/Postings" := F61.ext E73
  have F75 : Fld Z h73 x0 "com/example/portia/portia/index/Postings" "size" "I" (.int (0 : Int32)) := F62.ext E73
  have F76 : Fld Z h73 x0 "com/example/portia/portia/index/Postings" "documentFrequency" "I" (.int (0 : Int32)) := F63.ext E73
  have F77 : Fld Z h73 x0 "com/example/portia/portia/index/Postings" "impactLengths" "[I" u3 := F65.ext E73
  have F78 : Fld Z h73 x0 "com/example/portia/portia/index/Postings" "impactCount" "I" (.int (0 : Int32)) := F66.ext E73
  have F79 : Arv Z h73 b4 k4 .int (2 : Int32) [(.int (0 : Int32)), (.int (0 : Int32))] (.int (0 : Int32)) := F67.ext E73
  have F80 : Fld Z h73 x0 "com/example/portia/portia/index/Postings" "ordinals" "[I" (.ref b4) := F68.ext E73
  have F81 : Arv Z h73 b25 k25 .int (2 : Int32) [(.int (0 : Int32)), (.int (0 : Int32))] (.int (0 : Int32)) := F69.ext E73
  have F82 : Fld Z h73 x0 "com/example/portia/portia/index/Postings" "frequencies" "[I" (.ref b25) := F70.ext E73
  have F83 : Arv Z h73 b48 k48 .int (1 : Int32) [(.int (0 : Int32))] (.int (0 : Int32)) := F71.ext E73
  have F84 : Fld Z h73 x0 "com/example/portia/portia/index/Postings" "impactFrequencies" "[I" (.ref b48) := Fw60.ext E73
  have K73 := K60.ext E73
  have Z73 : n0 ≤ h73.size := Nat.le_trans Z60 E73.1
  have F85 : Arv Z h73 b73 k73 .int (1 : Int32) [(.int (0 : Int32))] (.int (0 : Int32)) := (Arv.new A73 (by decide)).pad (pad_rep [] (.int (0 : Int32)) 1)
  obtain ⟨T86, h86, X86, e86, W86, st86⟩ := putF X73 hx hZ hown (host := "") (Or.inl (hw _ (List.mem_of_getElem? (i := 19) rfl))) Via.refl e73 F77 F74 (Or.inl (hw _ (List.mem_of_getElem? (i := 20) rfl))) (hw _ (List.mem_of_getElem? (i := 5) rfl)) (ty := (.array .int)) (by decide) rfl rfl (g := (mkF m 29 #[.val (.ref x0)] [(.ref b73), (.ref x0)])) rfl rfl (hb hby d1_29)
  have pre86 : Steps p.tables e below (s₁.setTop (entryFrame m #[(.ref x0)] 1)) (T86.setTop (mkF m 32 #[.val (.ref x0)] [])) := pre73.trans (st86 _ (Steps.refl _))
  have F87 : Exa Z h86 x0 "com/example/portia/portia/index/Postings" := F74.wr W86
  have F88 : Fld Z h86 x0 "com/example/portia/portia/index/Postings" "size" "I" (.int (0 : Int32)) := F75.other W86 (Or.inr (slot_ne (Or.inl (hw _ (List.mem_of_getElem? (i := 27) rfl))) (Or.inl (hw _ (List.mem_of_getElem? (i := 20) rfl))) (by decide) (t := .int) (t' := (.array .int)) (by decide) (by decide)))
  have F89 : Fld Z h86 x0 "com/example/portia/portia/index/Postings" "documentFrequency" "I" (.int (0 : Int32)) := F76.other W86 (Or.inr (slot_ne (Or.inl (hw _ (List.mem_of_getElem? (i := 34) rfl))) (Or.inl (hw _ (List.mem_of_getElem? (i := 20) rfl))) (by decide) (t := .int) (t' := (.array .int)) (by decide) (by decide)))
  have F91 : Fld Z h86 x0 "com/example/portia/portia/index/Postings" "impactCount" "I" (.int (0 : Int32)) := F78.other W86 (Or.inr (slot_ne (Or.inl (hw _ (List.mem_of_getElem? (i := 40) rfl))) (Or.inl (hw _ (List.mem_of_getElem? (i := 20) rfl))) (by decide) (t := .int) (t' := (.array .int)) (by decide) (by decide)))
  have F92 : Arv Z h86 b4 k4 .int (2 : Int32) [(.int (0 : Int32)), (.int (0 : Int32))] (.int (0 : Int32)) := F79.other W86 (Ne.symm nex0_b4)
  have F93 : Fld Z h86 x0 "com/example/portia/portia/index/Postings" "ordinals" "[I" (.ref b4) := F80.other W86 (Or.inr (slot_ne (Or.inl (hw _ (List.mem_of_getElem? (i := 14) rfl))) (Or.inl (hw _ (List.mem_of_getElem? (i := 20) rfl))) (by decide) (t := (.array .int)) (t' := (.array .int)) (by decide) (by decide)))
  have F94 : Arv Z h86 b25 k25 .int (2 : Int32) [(.int (0 : Int32)), (.int (0 : Int32))] (.int (0 : Int32)) := F81.other W86 (Ne.symm nex0_b25)
  have F95 : Fld Z h86 x0 "com/example/portia/portia/index/Postings" "frequencies" "[I" (.ref b25) := F82.other W86 (Or.inr (slot_ne (Or.inl (hw _ (List.mem_of_getElem? (i := 16) rfl))) (Or.inl (hw _ (List.mem_of_getElem? (i := 20) rfl))) (by decide) (t := (.array .int)) (t' := (.array .int)) (by decide) (by decide)))
  have F96 : Arv Z h86 b48 k48 .int (1 : Int32) [(.int (0 : Int32))] (.int (0 : Int32)) := F83.other W86 (Ne.symm nex0_b48)
  have F97 : Fld Z h86 x0 "com/example/portia/portia/index/Postings" "impactFrequencies" "[I" (.ref b48) := F84.other W86 (Or.inr (slot_ne (Or.inl (hw _ (List.mem_of_getElem? (i := 18) rfl))) (Or.inl (hw _ (List.mem_of_getElem? (i := 20) rfl))) (by decide) (t := (.array .int)) (t' := (.array .int)) (by decide) (by decide)))
  have F98 : Arv Z h86 b73 k73 .int (1 : Int32) [(.int (0 : Int32))] (.int (0 : Int32)) := F85.other W86 (Ne.symm nex0_b73)
  have K86 := K73.wr W86 (Or.inl (List.mem_of_getElem? (i := 0) rfl))
  have Z86 : n0 ≤ h86.size := Nat.le_trans Z73 (Keep.of_wr W86).1
  have Fw86 : Fld Z h86 x0 "com/example/portia/portia/index/Postings" "impactLengths" "[I" (.ref b73) := F77.same W86
  have N86 := Fr.snoc X86 N60 g_x0
  obtain ⟨fs, hr, hrun, hended, hW, hsame⟩ := X86.leave (v := none) (fun _ => rfl)
  refine ⟨_, _, pre86.trans ?_, hrun, hended, _, _, rfl, ?_, ⟨_, rfl⟩, hW, hsame.mono (by decide) (by decide)⟩
  · show Steps p.tables e below (T86.setTop (mkF m 32 #[.val (.ref x0)] [])) _
    exact X86.returnOut hx Bd.returns (hb hby d1_32) hr
  · show Q1 Z x0 u0 u1 u2 u3 h0 n0 _ T86.heap _
    rw [e86]
    exact ⟨b4, k4, b25, k25, b48, k48, b73, k73, rfl, N86, K86, F87, F93, F95, F88, F89, F97, Fw86, F91, F92, F94, F96, F98, sz4, sz25, sz48, sz73, neb4_b25, neb4_b48, neb4_b73, neb25_b48, neb25_b73, neb48_b73⟩
theorem d2_0 : decode jdk_29_method_69_code 0 = .ok (.iload_n 0, 1) := by decide +kernel
theorem d2_1 : decode jdk_29_method_69_code 1 = .ok (.iload_n 1, 1) := by decide +kernel
theorem d2_2 : decode jdk_29_method_69_code 2 = .ok (.if_icmp .gt 7, 3) := by decide +kernel
theorem d2_5 : decode jdk_29_method_69_code 5 = .ok (.iload_n 0, 1) := by decide +kernel
theorem d2_6 : decode jdk_29_method_69_code 6 = .ok (.goto 4, 3) := by decide +kernel
theorem d2_10 : decode jdk_29_method_69_code 10 = .ok (.ireturn, 1) := by decide +kernel
theorem ef2 (m : MethodId)  : entryFrame m #[(.int (2 : Int32)), (.int (4 : Int32))] 2 = mkF m 0 #[.val (.int (2 : Int32)), .val (.int (4 : Int32))] [] := by first | (simp [entryFrame, mkF, argsToLocals, Value.category]; done) | rfl
def Q2 (Z : State)  (h0 : Heap) (n0 : Nat) (v : Option Value) (h : Heap) (L : List Loc) : Prop := v = some (.int (2 : Int32)) ∧ Fr n0 L ∧ h = h0
set_option maxRecDepth 65536 in
set_option maxHeartbeats 40000000 in
theorem rm2 (l : Launch) (Z : State) (a0 : Array Value) (hw : ∀ d ∈ tables_1, d.before a0 Z = true) (ws : List Jvm.Cond)  (h0 : Heap) (n0 : Nat) (Z0 : n0 ≤ h0.size) :
    MetFree l (⟨"java/lang/Math", "min", "(II)I"⟩ : MethodName) (head1 (Jvm.Cond.code (⟨"java/lang/Math", "min", "(II)I"⟩ : MethodName) jdk_29_method_69_code 2 (some .int) :: ws) ({ frames := 0, cells := 0, slots := 0, locals := 0 } : Room)) (fun a U => a = #[(.int (2 : Int32)), (.int (4 : Int32))] ∧ Z.Warmed39 U.vm ∧ U.heap = h0) (fun _ _ _ _ _ => True) (fun _ U o U' => ∃ v L, o = .returned v ∧ Q2 Z  h0 n0 v U'.heap L ∧ FrameEnd U o U' L ({ frames := 0, cells := 0, slots := 0, locals := 0 } : Room).cells ({ frames := 0, cells := 0, slots := 0, locals := 0 } : Room).slots) := by
  refine MetFree.of_bodySF (Jvm.Free.JP.mathPlain rfl (by decide +kernel)) hisR ?_
  intro p e s m args below meth c s₁ Bd hml0 hP hK
  obtain ⟨rfl, hZ, hh⟩ := hP
  have hx := Bd.exec
  have hby := Bd.bytes
  have hml : c.maxLocals = 2 := hml0
  have hown : s.vm.findClass "java/lang/Math" = some m.cls := findClass_of_methodNamed Bd.named
  have hnm := (name_of_methodNamed Bd.named Bd.method).1
  have X0 : Stand p l e ({ frames := 0, cells := 0, slots := 0, locals := 0 } : Room) s m #[(.int (2 : Int32)), (.int (4 : Int32))] below meth c s₁ [] 0 0 := Stand.of_body Bd
  have e0 : s₁.heap = h0 := by rw [← hh, Bd.state]; rfl
  have N0 := Fr.nil n0
  have pre0 : Steps p.tables e below (s₁.setTop (entryFrame m #[(.int (2 : Int32)), (.int (4 : Int32))] 2)) (s₁.setTop (mkF m 0 #[.val (.int (2 : Int32)), .val (.int (4 : Int32))] [])) := castTop (ef2 m ) (Steps.refl _)
  have st1 : Steps p.tables e below (s₁.setTop (mkF m 0 #[.val (.int (2 : Int32)), .val (.int (4 : Int32))] [])) (s₁.setTop (mkF m 10 #[.val (.int (2 : Int32)), .val (.int (4 : Int32))] [(.int (2 : Int32))])) := by
    refine XS.iloadN X0.here hx rfl (hb hby d2_0) rfl ?_
    show Steps p.tables e below (s₁.setTop (mkF m 1 #[.val (.int (2 : Int32)), .val (.int (4 : Int32))] [(.int (2 : Int32))])) _
    refine XS.iloadN X0.here hx rfl (hb hby d2_1) rfl ?_
    show Steps p.tables e below (s₁.setTop (mkF m 2 #[.val (.int (2 : Int32)), .val (.int (4 : Int32))] [(.int (4 : Int32)), (.int (2 : Int32))])) _
    refine XS.icmpNo X0.here hx rfl (hb hby d2_2) rfl (flt (by decide : ¬ ((4 : Int32) < (2 : Int32)))).2.2.1 ?_
    show Steps p.tables e below (s₁.setTop (mkF m 5 #[.val (.int (2 : Int32)), .val (.int (4 : Int32))] [])) _
    refine XS.iloadN X0.here hx rfl (hb hby d2_5) rfl ?_
    show Steps p.tables e below (s₁.setTop (mkF m 6 #[.val (.int (2 : Int32)), .val (.int (4 : Int32))] [(.int (2 : Int32))])) _
    refine XS.goto X0.here hx rfl (pc0 := 6) (pc' := 10) rfl (hb hby d2_6) (by decide) (by decide) ?_
    show Steps p.tables e below (s₁.setTop (mkF m 10 #[.val (.int (2 : Int32)), .val (.int (4 : Int32))] [(.int (2 : Int32))])) _
    exact Steps.refl _
  have pre1 := pre0.trans st1
  obtain ⟨fs, hr, hrun, hended, hW, hsame⟩ := X0.leave (v := some (.int (2 : Int32))) (fun h => by rw [Bd.returns] at h; cases h)
  refine ⟨_, _, pre1.trans ?_, hrun, hended, _, _, rfl, ?_, ⟨_, rfl⟩, hW, hsame.mono (by decide) (by decide)⟩
  · show Steps p.tables e below (s₁.setTop (mkF m 10 #[.val (.int (2 : Int32)), .val (.int (4 : Int32))] [(.int (2 : Int32))])) _
    exact retI X0 hx Bd.returns (hb hby d2_10) hr
  · show Q2 Z  h0 n0 _ s₁.heap _
    rw [e0]
    exact ⟨by rfl, N0, rfl⟩
theorem d3_0 : decode jdk_29_method_69_code 0 = .ok (.iload_n 0, 1) := by decide +kernel
theorem d3_1 : decode jdk_29_method_69_code 1 = .ok (.iload_n 1, 1) := by decide +kernel
theorem d3_2 : decode jdk_29_method_69_code 2 = .ok (.if_icmp .gt 7, 3) := by decide +kernel
theorem d3_5 : decode jdk_29_method_69_code 5 = .ok (.iload_n 0, 1) := by decide +kernel
theorem d3_6 : decode jdk_29_method_69_code 6 = .ok (.goto 4, 3) := by decide +kernel
theorem d3_10 : decode jdk_29_method_69_code 10 = .ok (.ireturn, 1) := by decide +kernel
theorem ef3 (m : MethodId)  : entryFrame m #[(.int (4 : Int32)), (.int (8 : Int32))] 2 = mkF m 0 #[.val (.int (4 : Int32)), .val (.int (8 : Int32))] [] := by first | (simp [entryFrame, mkF, argsToLocals, Value.category]; done) | rfl
def Q3 (Z : State)  (h0 : Heap) (n0 : Nat) (v : Option Value) (h : Heap) (L : List Loc) : Prop := v = some (.int (4 : Int32)) ∧ Fr n0 L ∧ h = h0
set_option maxRecDepth 65536 in
set_option maxHeartbeats 40000000 in
theorem rm3 (l : Launch) (Z : State) (a0 : Array Value) (hw : ∀ d ∈ tables_1, d.before a0 Z = true) (ws : List Jvm.Cond)  (h0 : Heap) (n0 : Nat) (Z0 : n0 ≤ h0.size) :
    MetFree l (⟨"java/lang/Math", "min", "(II)I"⟩ : MethodName) (head1 (Jvm.Cond.code (⟨"java/lang/Math", "min", "(II)I"⟩ : MethodName) jdk_29_method_69_code 2 (some .int) :: ws) ({ frames := 0, cells := 0, slots := 0, locals := 0 } : Room)) (fun a U => a = #[(.int (4 : Int32)), (.int (8 : Int32))] ∧ Z.Warmed39 U.vm ∧ U.heap = h0) (fun _ _ _ _ _ => True) (fun _ U o U' => ∃ v L, o = .returned v ∧ Q3 Z  h0 n0 v U'.heap L ∧ FrameEnd U o U' L ({ frames := 0, cells := 0, slots := 0, locals := 0 } : Room).cells ({ frames := 0, cells := 0, slots := 0, locals := 0 } : Room).slots) := by
  refine MetFree.of_bodySF (Jvm.Free.JP.mathPlain rfl (by decide +kernel)) hisR ?_
  intro p e s m args below meth c s₁ Bd hml0 hP hK
  obtain ⟨rfl, hZ, hh⟩ := hP
  have hx := Bd.exec
  have hby := Bd.bytes
  have hml : c.maxLocals = 2 := hml0
  have hown : s.vm.findClass "java/lang/Math" = some m.cls := findClass_of_methodNamed Bd.named
  have hnm := (name_of_methodNamed Bd.named Bd.method).1
  have X0 : Stand p l e ({ frames := 0, cells := 0, slots := 0, locals := 0 } : Room) s m #[(.int (4 : Int32)), (.int (8 : Int32))] below meth c s₁ [] 0 0 := Stand.of_body Bd
  have e0 : s₁.heap = h0 := by rw [← hh, Bd.state]; rfl
  have N0 := Fr.nil n0
  have pre0 : Steps p.tables e below (s₁.setTop (entryFrame m #[(.int (4 : Int32)), (.int (8 : Int32))] 2)) (s₁.setTop (mkF m 0 #[.val (.int (4 : Int32)), .val (.int (8 : Int32))] [])) := castTop (ef3 m ) (Steps.refl _)
  have st1 : Steps p.tables e below (s₁.setTop (mkF m 0 #[.val (.int (4 : Int32)), .val (.int (8 : Int32))] [])) (s₁.setTop (mkF m 10 #[.val (.int (4 : Int32)), .val (.int (8 : Int32))] [(.int (4 : Int32))])) := by
    refine XS.iloadN X0.here hx rfl (hb hby d3_0) rfl ?_
    show Steps p.tables e below (s₁.setTop (mkF m 1 #[.val (.int (4 : Int32)), .val (.int (8 : Int32))] [(.int (4 : Int32))])) _
    refine XS.iloadN X0.here hx rfl (hb hby d3_1) rfl ?_
    show Steps p.tables e below (s₁.setTop (mkF m 2 #[.val (.int (4 : Int32)), .val (.int (8 : Int32))] [(.int (8 : Int32)), (.int (4 : Int32))])) _
    refine XS.icmpNo X0.here hx rfl (hb hby d3_2) rfl (flt (by decide : ¬ ((8 : Int32) < (4 : Int32)))).2.2.1 ?_
    show Steps p.tables e below (s₁.setTop (mkF m 5 #[.val (.int (4 : Int32)), .val (.int (8 : Int32))] [])) _
    refine XS.iloadN X0.here hx rfl (hb hby d3_5) rfl ?_
    show Steps p.tables e below (s₁.setTop (mkF m 6 #[.val (.int (4 : Int32)), .val (.int (8 : Int32))] [(.int (4 : Int32))])) _
    refine XS.goto X0.here hx rfl (pc0 := 6) (pc' := 10) rfl (hb hby d3_6) (by decide) (by decide) ?_
    show Steps p.tables e below (s₁.setTop (mkF m 10 #[.val (.int (4 : Int32)), .val (.int (8 : Int32))] [(.int (4 : Int32))])) _
    exact Steps.refl _
  have pre1 := pre0.trans st1
  obtain ⟨fs, hr, hrun, hended, hW, hsame⟩ := X0.leave (v := some (.int (4 : Int32))) (fun h => by rw [Bd.returns] at h; cases h)
  refine ⟨_, _, pre1.trans ?_, hrun, hended, _, _, rfl, ?_, ⟨_, rfl⟩, hW, hsame.mono (by decide) (by decide)⟩
  · show Steps p.tables e below (s₁.setTop (mkF m 10 #[.val (.int (4 : Int32)), .val (.int (8 : Int32))] [(.int (4 : Int32))])) _
    exact retI X0 hx Bd.returns (hb hby d3_10) hr
  · show Q3 Z  h0 n0 _ s₁.heap _
    rw [e0]
    exact ⟨by rfl, N0, rfl⟩
theorem d4_0 : decode jdk_65_method_123_code 0 = .ok (.iload_n 1, 1) := by decide +kernel
theorem d4_1 : decode jdk_65_method_123_code 1 = .ok (.aload_n 0, 1) := by decide +kernel
theorem d4_2 : decode jdk_65_method_123_code 2 = .ok (.arraylength, 1) := by decide +kernel
theorem d4_3 : decode jdk_65_method_123_code 3 = .ok (.if_icmp .ne 11, 3) := by decide +kernel
theorem d4_14 : decode jdk_65_method_123_code 14 = .ok (.iload_n 1, 1) := by decide +kernel
theorem d4_15 : decode jdk_65_method_123_code 15 = .ok (.newarray .int, 2) := by decide +kernel
theorem d4_17 : decode jdk_65_method_123_code 17 = .ok (.astore_n 2, 1) := by decide +kernel
theorem d4_18 : decode jdk_65_method_123_code 18 = .ok (.aload_n 0, 1) := by decide +kernel
theorem d4_19 : decode jdk_65_method_123_code 19 = .ok (.iconst 0, 1) := by decide +kernel
theorem d4_20 : decode jdk_65_method_123_code 20 = .ok (.aload_n 2, 1) := by decide +kernel
theorem d4_21 : decode jdk_65_method_123_code 21 = .ok (.iconst 0, 1) := by decide +kernel
theorem d4_22 : decode jdk_65_method_123_code 22 = .ok (.aload_n 0, 1) := by decide +kernel
theorem d4_23 : decode jdk_65_method_123_code 23 = .ok (.arraylength, 1) := by decide +kernel
theorem d4_24 : decode jdk_65_method_123_code 24 = .ok (.iload_n 1, 1) := by decide +kernel
theorem d4_25 : decode jdk_65_method_123_code 25 = .ok (.invokestatic 304, 3) := by decide +kernel
theorem d4_28 : decode jdk_65_method_123_code 28 = .ok (.invokestatic 150, 3) := by decide +kernel
theorem d4_31 : decode jdk_65_method_123_code 31 = .ok (.aload_n 2, 1) := by decide +kernel
theorem d4_32 : decode jdk_65_method_123_code 32 = .ok (.areturn, 1) := by decide +kernel
theorem pn4 : plainName "java/util/Arrays" = true := by first | (simp [plainName, overriddenIn]; done) | decide +kernel
theorem pd4_0 : parseMethodDescriptor "(II)I" = some ⟨[.int, .int], some .int⟩ := by decide +kernel
theorem ef4 (m : MethodId) (x0 : Addr) : entryFrame m #[(.ref x0), (.int (4 : Int32))] 3 = mkF m 0 #[.val (.ref x0), .val (.int (4 : Int32)), .unset] [] := by first | (simp [entryFrame, mkF, argsToLocals, Value.category]; done) | rfl
def Q4 (Z : State) (x0 : Addr) (k : ClassId) (y0 : Int32) (y1 : Int32) (h0 : Heap) (n0 : Nat) (v : Option Value) (h : Heap) (L : List Loc) : Prop := ∃ res : Addr, ∃ (kr : ClassId), v = some (.ref res) ∧ Fr n0 L ∧ Keep h0 h [] ∧ h0.size ≤ res ∧ Arv Z h res kr .int (4 : Int32) [(.int y0), (.int y1), (.int (0 : Int32)), (.int (0 : Int32))] (.int (0 : Int32))
set_option maxRecDepth 65536 in
set_option maxHeartbeats 40000000 in
theorem rm4 (l : Launch) (Z : State) (a0 : Array Value) (hw : ∀ d ∈ tables_1, d.before a0 Z = true) (ws : List Jvm.Cond) (x0 : Addr) (k : ClassId) (y0 : Int32) (y1 : Int32) (h0 : Heap) (n0 : Nat) (Z0 : n0 ≤ h0.size) (B0 : Arv Z h0 x0 k .int (2 : Int32) [(.int y0), (.int y1)] (.int (0 : Int32))) :
    MetFree l (⟨"java/util/Arrays", "copyOf", "([II)[I"⟩ : MethodName) (head1 (Jvm.Cond.code (⟨"java/util/Arrays", "copyOf", "([II)[I"⟩ : MethodName) jdk_65_method_123_code 3 (some (.array .int)) :: ws) ({ frames := 1, cells := 1, slots := 4, locals := 18 } : Room)) (fun a U => a = #[(.ref x0), (.int (4 : Int32))] ∧ Z.Warmed39 U.vm ∧ U.heap = h0) (fun _ _ _ _ _ => True) (fun _ U o U' => ∃ v L, o = .returned v ∧ Q4 Z x0 k y0 y1 h0 n0 v U'.heap L ∧ FrameEnd U o U' L ({ frames := 1, cells := 1, slots := 4, locals := 18 } : Room).cells ({ frames := 1, cells := 1, slots := 4, locals := 18 } : Room).slots) := by
  refine MetFree.of_bodySF (plainFor_of_name pn4) hisR ?_
  intro p e s m args below meth c s₁ Bd hml0 hP hK
  obtain ⟨rfl, hZ, hh⟩ := hP
  have hx := Bd.exec
  have hby := Bd.bytes
  have hml : c.maxLocals = 3 := hml0
  have hown : s.vm.findClass "java/util/Arrays" = some m.cls := findClass_of_methodNamed Bd.named
  have hnm := (name_of_methodNamed Bd.named Bd.method).1
  have X0 : Stand p l e ({ frames := 1, cells := 1, slots := 4, locals := 18 } : Room) s m #[(.ref x0), (.int (4 : Int32))] below meth c s₁ [] 0 0 := Stand.of_body Bd
  have e0 : s₁.heap = h0 := by rw [← hh, Bd.state]; rfl
  have N0 := Fr.nil n0
  have pre0 : Steps p.tables e below (s₁.setTop (entryFrame m #[(.ref x0), (.int (4 : Int32))] 3)) (s₁.setTop (mkF m 0 #[.val (.ref x0), .val (.int (4 : Int32)), .unset] [])) := castTop (ef4 m x0) (Steps.refl _)
  have K0 := Keep.refl h0 []
  have st1 : Steps p.tables e below (s₁.setTop (mkF m 0 #[.val (.ref x0), .val (.int (4 : Int32)), .unset] [])) (s₁.setTop (mkF m 2 #[.val (.ref x0), .val (.int (4 : Int32)), .unset] [(.ref x0), (.int (4 : Int32))])) := by
    refine XS.iloadN X0.here hx rfl (hb hby d4_0) rfl ?_
    show Steps p.tables e below (s₁.setTop (mkF m 1 #[.val (.ref x0), .val (.int (4 : Int32)), .unset] [(.int (4 : Int32))])) _
    refine XS.aloadN X0.here hx rfl (hb hby d4_1) rfl rfl ?_
    show Steps p.tables e below (s₁.setTop (mkF m 2 #[.val (.ref x0), .val (.int (4 : Int32)), .unset] [(.ref x0), (.int (4 : Int32))])) _
    exact Steps.refl _
  have pre1 := pre0.trans st1
  obtain ⟨cl2, Ar2, q2, S2, G2, H2, J2⟩ := id B0
  have st2 : Steps p.tables e below (s₁.setTop (mkF m 2 #[.val (.ref x0), .val (.int (4 : Int32)), .unset] [(.ref x0), (.int (4 : Int32))])) (s₁.setTop (mkF m 3 #[.val (.ref x0), .val (.int (4 : Int32)), .unset] [(.int (2 : Int32)), (.int (4 : Int32))])) := by
    refine X0.arraylength hx (by rw [e0]; exact Ar2.1) (State.isArrayOf_alike hZ.alike Ar2.2.1) (g := (mkF m 2 #[.val (.ref x0), .val (.int (4 : Int32)), .unset] [(.ref x0), (.int (4 : Int32))])) rfl rfl (hb hby d4_2) _ ?_
    rw [len_of S2 G2]
    exact Steps.refl _
  have pre2 := pre1.trans st2
  have st3 : Steps p.tables e below (s₁.setTop (mkF m 3 #[.val (.ref x0), .val (.int (4 : Int32)), .unset] [(.int (2 : Int32)), (.int (4 : Int32))])) (s₁.setTop (mkF m 15 #[.val (.ref x0), .val (.int (4 : Int32)), .unset] [(.int (4 : Int32))])) := by
    refine XS.icmpYes X0.here hx rfl (pc0 := 3) (pc' := 14) rfl (hb hby d4_3) rfl (feq (by decide : ¬ ((4 : Int32) = (2 : Int32)))).2 (by decide) (by decide) ?_
    show Steps p.tables e below (s₁.setTop (mkF m 14 #[.val (.ref x0), .val (.int (4 : Int32)), .unset] [])) _
    refine XS.iloadN X0.here hx rfl (hb hby d4_14) rfl ?_
    show Steps p.tables e below (s₁.setTop (mkF m 15 #[.val (.ref x0), .val (.int (4 : Int32)), .unset] [(.int (4 : Int32))])) _
    exact Steps.refl _
  have pre3 := pre2.trans st3
  obtain ⟨T4, h4, k4, X4, e4, E4, A4, st4⟩ := newP X0 hx hZ (hw _ (List.mem_of_getElem? (i := 0) rfl)) e0 (g := (mkF m 15 #[.val (.ref x0), .val (.int (4 : Int32)), .unset] [(.int (4 : Int32))])) rfl (hb hby d4_15) rfl (by decide) (cap := 4) (by decide) (by decide) (by decide) (by decide)
  obtain ⟨b4, g4⟩ : ∃ z, z = h0.size := ⟨_, rfl⟩
  rw [← g4] at A4 st4
  have pre4 : Steps p.tables e below (s₁.setTop (entryFrame m #[(.ref x0), (.int (4 : Int32))] 3)) (T4.setTop (mkF m 17 #[.val (.ref x0), .val (.int (4 : Int32)), .unset] [(.ref b4)])) := pre3.trans (st4 _ (Steps.refl _))
  have gn4 : n0 ≤ b4 := Nat.le_trans Z0 (Nat.le_of_eq g4.symm)
  have sz4 : h0.size ≤ b4 := Nat.le_trans K0.1 (Nat.le_of_eq g4.symm)
  have nex0_b4 : x0 ≠ b4 := Nat.ne_of_lt (Nat.lt_of_lt_of_le B0.lt (Nat.le_of_eq g4.symm))
  have F5 : Arv Z h4 x0 k .int (2 : Int32) [(.int y0), (.int y1)] (.int (0 : Int32)) := B0.ext E4
  have K4 := K0.ext E4
  have Z4 : n0 ≤ h4.size := Nat.le_trans Z0 E4.1
  have F6 : Arv Z h4 b4 k4 .int (4 : Int32) [(.int (0 : Int32)), (.int (0 : Int32)), (.int (0 : Int32)), (.int (0 : Int32))] (.int (0 : Int32)) := (Arv.new A4 (by decide)).pad (pad_rep [] (.int (0 : Int32)) 4)
  have st7 : Steps p.tables e below (T4.setTop (mkF m 17 #[.val (.ref x0), .val (.int (4 : Int32)), .unset] [(.ref b4)])) (T4.setTop (mkF m 23 #[.val (.ref x0), .val (.int (4 : Int32)), .val (.ref b4)] [(.ref x0), (.int (0 : Int32)), (.ref b4), (.int (0 : Int32)), (.ref x0)])) := by
    refine XS.astoreN X4.here hx rfl (hb hby d4_17) rfl rfl (l' := #[.val (.ref x0), .val (.int (4 : Int32)), .val (.ref b4)]) rfl ?_
    show Steps p.tables e below (T4.setTop (mkF m 18 #[.val (.ref x0), .val (.int (4 : Int32)), .val (.ref b4)] [])) _
    refine XS.aloadN X4.here hx rfl (hb hby d4_18) rfl rfl ?_
    show Steps p.tables e below (T4.setTop (mkF m 19 #[.val (.ref x0), .val (.int (4 : Int32)), .val (.ref b4)] [(.ref x0)])) _
    refine XS.iconst X4.here hx rfl (hb hby d4_19) ?_
    show Steps p.tables e below (T4.setTop (mkF m 20 #[.val (.ref x0), .val (.int (4 : Int32)), .val (.ref b4)] [(.int (0 : Int32)), (.ref x0)])) _
    refine XS.aloadN X4.here hx rfl (hb hby d4_20) rfl rfl ?_
    show Steps p.tables e below (T4.setTop (mkF m 21 #[.val (.ref x0), .val (.int (4 : Int32)), .val (.ref b4)] [(.ref b4), (.int (0 : Int32)), (.ref x0)])) _
    refine XS.iconst X4.here hx rfl (hb hby d4_21) ?_
    show Steps p.tables e below (T4.setTop (mkF m 22 #[.val (.ref x0), .val (.int (4 : Int32)), .val (.ref b4)] [(.int (0 : Int32)), (.ref b4), (.int (0 : Int32)), (.ref x0)])) _
    refine XS.aloadN X4.here hx rfl (hb hby d4_22) rfl rfl ?_
    show Steps p.tables e below (T4.setTop (mkF m 23 #[.val (.ref x0), .val (.int (4 : Int32)), .val (.ref b4)] [(.ref x0), (.int (0 : Int32)), (.ref b4), (.int (0 : Int32)), (.ref x0)])) _
    exact Steps.refl _
  have pre7 := pre4.trans st7
  obtain ⟨cl8, Ar8, q8, S8, G8, H8, J8⟩ := id F5
  have st8 : Steps p.tables e below (T4.setTop (mkF m 23 #[.val (.ref x0), .val (.int (4 : Int32)), .val (.ref b4)] [(.ref x0), (.int (0 : Int32)), (.ref b4), (.int (0 : Int32)), (.ref x0)])) (T4.setTop (mkF m 24 #[.val (.ref x0), .val (.int (4 : Int32)), .val (.ref b4)] [(.int (2 : Int32)), (.int (0 : Int32)), (.ref b4), (.int (0 : Int32)), (.ref x0)])) := by
    refine X4.arraylength hx (by rw [e4]; exact Ar8.1) (State.isArrayOf_alike hZ.alike Ar8.2.1) (g := (mkF m 23 #[.val (.ref x0), .val (.int (4 : Int32)), .val (.ref b4)] [(.ref x0), (.int (0 : Int32)), (.ref b4), (.int (0 : Int32)), (.ref x0)])) rfl rfl (hb hby d4_23) _ ?_
    rw [len_of S8 G8]
    exact Steps.refl _
  have pre8 := pre7.trans st8
  have st9 : Steps p.tables e below (T4.setTop (mkF m 24 #[.val (.ref x0), .val (.int (4 : Int32)), .val (.ref b4)] [(.int (2 : Int32)), (.int (0 : Int32)), (.ref b4), (.int (0 : Int32)), (.ref x0)])) (T4.setTop (mkF m 25 #[.val (.ref x0), .val (.int (4 : Int32)), .val (.ref b4)] [(.int (4 : Int32)), (.int (2 : Int32)), (.int (0 : Int32)), (.ref b4), (.int (0 : Int32)), (.ref x0)])) := by
    refine XS.iloadN X4.here hx rfl (hb hby d4_24) rfl ?_
    show Steps p.tables e below (T4.setTop (mkF m 25 #[.val (.ref x0), .val (.int (4 : Int32)), .val (.ref b4)] [(.int (4 : Int32)), (.int (2 : Int32)), (.int (0 : Int32)), (.ref b4), (.int (0 : Int32)), (.ref x0)])) _
    exact Steps.refl _
  have pre9 := pre8.trans st9
  obtain ⟨_, _, ⟨T10, L10, k10, n10⟩, -, X10, ⟨Lc10, hQ10, l10, y10, z10⟩, st10⟩ := Jvm.LawKit.callS X4 hx (y := (⟨"java/lang/Math", "min", "(II)I"⟩ : MethodName)) hown (mvT hZ (hw _ (List.mem_of_getElem? (i := 45) rfl))) (mvT hZ (hw _ (List.mem_of_getElem? (i := 46) rfl))) (mvT hZ (hw _ (List.mem_of_getElem? (i := 47) rfl))) (mvT hZ (hw _ (List.mem_of_getElem? (i := 48) rfl))) (by decide) (backOf (W := 4) (rm2 l Z a0 hw []  h4 n0 Z4) hZ (hw _ (List.mem_of_getElem? (i := 48) rfl)) (hw _ (List.mem_of_getElem? (i := 47) rfl)) (by decide) (by decide)) (g := (mkF m 25 #[.val (.ref x0), .val (.int (4 : Int32)), .val (.ref b4)] [(.int (4 : Int32)), (.int (2 : Int32)), (.int (0 : Int32)), (.ref b4), (.int (0 : Int32)), (.ref x0)])) rfl (by rw [hml]; rfl) (argsL := [(.int (2 : Int32)), (.int (4 : Int32))]) (rest := [(.int (0 : Int32)), (.ref b4), (.int (0 : Int32)), (.ref x0)]) (lenOf pd4_0 rfl) rfl (by show 2 * 0 + _ ≤ _; exact Nat.le_of_eq rfl) (hb hby d4_25) (fun _ _ => ⟨rfl, e4, (by decide : 1 + 0 ≤ _), (by decide : 4 + 0 ≤ _)⟩)
  dsimp only [Pt.U, Pt.locs, Pt.cells, Pt.slots] at X10 l10 y10 z10 st10 hQ10
  subst l10 y10 z10
  obtain ⟨rfl, Nq10, e10⟩ := hQ10
  have N10 := Fr.app N0 Nq10
  have pre10 : Steps p.tables e below (s₁.setTop (entryFrame m #[(.ref x0), (.int (4 : Int32))] 3)) (T10.setTop (mkF m 28 #[.val (.ref x0), .val (.int (4 : Int32)), .val (.ref b4)] [(.int (2 : Int32)), (.int (0 : Int32)), (.ref b4), (.int (0 : Int32)), (.ref x0)])) := pre9.trans (st10 _ (Steps.refl _))
  obtain ⟨T11, h11, L11, X11, e11, N11, Kq11, V11, st11⟩ := cpA X10 hx hZ hown (hw _ (List.mem_of_getElem? (i := 49) rfl)) (hw _ (List.mem_of_getElem? (i := 52) rfl)) (hw _ (List.mem_of_getElem? (i := 50) rfl)) (hw _ (List.mem_of_getElem? (i := 51) rfl)) e10 F5 F6 (us := [(.int y0), (.int y1)]) (Or.inl ⟨rfl, rfl⟩) (by decide) (by decide) (by decide) (by decide) (by decide) rfl (by decide) N10 gn4 (g := (mkF m 28 #[.val (.ref x0), .val (.int (4 : Int32)), .val (.ref b4)] [(.int (2 : Int32)), (.int (0 : Int32)), (.ref b4), (.int (0 : Int32)), (.ref x0)])) rfl (by rw [hml]; rfl) rfl (hb hby d4_28) (by decide) (W := 0) (by show 2 * 0 + _ ≤ _; exact Nat.le_of_eq rfl) (by decide)
  have pre11 : Steps p.tables e below (s₁.setTop (entryFrame m #[(.ref x0), (.int (4 : Int32))] 3)) (T11.setTop (mkF m 31 #[.val (.ref x0), .val (.int (4 : Int32)), .val (.ref b4)] [])) := pre10.trans (st11 _ (Steps.refl _))
  have F12 : Arv Z h11 x0 k .int (2 : Int32) [(.int y0), (.int y1)] (.int (0 : Int32)) := F5.keep Kq11 (ninS nex0_b4 nin0)
  have KK11 := K4.trans Kq11 (allS (Or.inr sz4) all0)
  have Z11 : n0 ≤ h11.size := Nat.le_trans Z4 Kq11.1
  have Vc11 : Arv Z h11 b4 k4 .int (4 : Int32) [(.int y0), (.int y1), (.int (0 : Int32)), (.int (0 : Int32))] (.int (0 : Int32)) := V11
  have st14 : Steps p.tables e below (T11.setTop (mkF m 31 #[.val (.ref x0), .val (.int (4 : Int32)), .val (.ref b4)] [])) (T11.setTop (mkF m 32 #[.val (.ref x0), .val (.int (4 : Int32)), .val (.ref b4)] [(.ref b4)])) := by
    refine XS.aloadN X11.here hx rfl (hb hby d4_31) rfl rfl ?_
    show Steps p.tables e below (T11.setTop (mkF m 32 #[.val (.ref x0), .val (.int (4 : Int32)), .val (.ref b4)] [(.ref b4)])) _
    exact Steps.refl _
  have pre14 := pre11.trans st14
  obtain ⟨fs, hr, hrun, hended, hW, hsame⟩ := X11.leave (v := some (.ref b4)) (fun h => by rw [Bd.returns] at h; cases h)
  refine ⟨_, _, pre14.trans ?_, hrun, hended, _, _, rfl, ?_, ⟨_, rfl⟩, hW, hsame.mono (by decide) (by decide)⟩
  · show Steps p.tables e below (T11.setTop (mkF m 32 #[.val (.ref x0), .val (.int (4 : Int32)), .val (.ref b4)] [(.ref b4)])) _
    jvm_step X11.here [X11.here.top, hx, (hb hby d4_32), X11.method', Bd.returns, Value.isRef, FieldType.isReference]
    first | (intro acts; rw [hr _ acts rfl rfl rfl]) | rw [hr _ _ rfl rfl rfl]
    exact Steps.refl _
  · show Q4 Z x0 k y0 y1 h0 n0 _ T11.heap _
    rw [e11]
    exact ⟨b4, k4, rfl, N11, KK11, sz4, Vc11⟩
theorem d5_0 : decode jdk_65_method_123_code 0 = .ok (.iload_n 1, 1) := by decide +kernel
theorem d5_1 : decode jdk_65_method_123_code 1 = .ok (.aload_n 0, 1) := by decide +kernel
theorem d5_2 : decode jdk_65_method_123_code 2 = .ok (.arraylength, 1) := by decide +kernel
theorem d5_3 : decode jdk_65_method_123_code 3 = .ok (.if_icmp .ne 11, 3) := by decide +kernel
theorem d5_14 : decode jdk_65_method_123_code 14 = .ok (.iload_n 1, 1) := by decide +kernel
theorem d5_15 : decode jdk_65_method_123_code 15 = .ok (.newarray .int, 2) := by decide +kernel
theorem d5_17 : decode jdk_65_method_123_code 17 = .ok (.astore_n 2, 1) := by decide +kernel
theorem d5_18 : decode jdk_65_method_123_code 18 = .ok (.aload_n 0, 1) := by decide +kernel
theorem d5_19 : decode jdk_65_method_123_code 19 = .ok (.iconst 0, 1) := by decide +kernel
theorem d5_20 : decode jdk_65_method_123_code 20 = .ok (.aload_n 2, 1) := by decide +kernel
theorem d5_21 : decode jdk_65_method_123_code 21 = .ok (.iconst 0, 1) := by decide +kernel
theorem d5_22 : decode jdk_65_method_123_code 22 = .ok (.aload_n 0, 1) := by decide +kernel
theorem d5_23 : decode jdk_65_method_123_code 23 = .ok (.arraylength, 1) := by decide +kernel
theorem d5_24 : decode jdk_65_method_123_code 24 = .ok (.iload_n 1, 1) := by decide +kernel
theorem d5_25 : decode jdk_65_method_123_code 25 = .ok (.invokestatic 304, 3) := by decide +kernel
theorem d5_28 : decode jdk_65_method_123_code 28 = .ok (.invokestatic 150, 3) := by decide +kernel
theorem d5_31 : decode jdk_65_method_123_code 31 = .ok (.aload_n 2, 1) := by decide +kernel
theorem d5_32 : decode jdk_65_method_123_code 32 = .ok (.areturn, 1) := by decide +kernel
theorem pn5 : plainName "java/util/Arrays" = true := by first | (simp [plainName, overriddenIn]; done) | decide +kernel
theorem pd5_0 : parseMethodDescriptor "(II)I" = some ⟨[.int, .int], some .int⟩ := by decide +kernel
theorem ef5 (m : MethodId) (x0 : Addr) : entryFrame m #[(.ref x0), (.int (8 : Int32))] 3 = mkF m 0 #[.val (.ref x0), .val (.int (8 : Int32)), .unset] [] := by first | (simp [entryFrame, mkF, argsToLocals, Value.category]; done) | rfl
def Q5 (Z : State) (x0 : Addr) (k : ClassId) (y0 : Int32) (y1 : Int32) (y2 : Int32) (y3 : Int32) (h0 : Heap) (n0 : Nat) (v : Option Value) (h : Heap) (L : List Loc) : Prop := ∃ res : Addr, ∃ (kr : ClassId), v = some (.ref res) ∧ Fr n0 L ∧ Keep h0 h [] ∧ h0.size ≤ res ∧ Arv Z h res kr .int (8 : Int32) [(.int y0), (.int y1), (.int y2), (.int y3), (.int (0 : Int32)), (.int (0 : Int32)), (.int (0 : Int32)), (.int (0 : Int32))] (.int (0 : Int32))
set_option maxRecDepth 65536 in
set_option maxHeartbeats 40000000 in
theorem rm5 (l : Launch) (Z : State) (a0 : Array Value) (hw : ∀ d ∈ tables_1, d.before a0 Z = true) (ws : List Jvm.Cond) (x0 : Addr) (k : ClassId) (y0 : Int32) (y1 : Int32) (y2 : Int32) (y3 : Int32) (h0 : Heap) (n0 : Nat) (Z0 : n0 ≤ h0.size) (B0 : Arv Z h0 x0 k .int (4 : Int32) [(.int y0), (.int y1), (.int y2), (.int y3)] (.int (0 : Int32))) :
    MetFree l (⟨"java/util/Arrays", "copyOf", "([II)[I"⟩ : MethodName) (head1 (Jvm.Cond.code (⟨"java/util/Arrays", "copyOf", "([II)[I"⟩ : MethodName) jdk_65_method_123_code 3 (some (.array .int)) :: ws) ({ frames := 1, cells := 1, slots := 8, locals := 18 } : Room)) (fun a U => a = #[(.ref x0), (.int (8 : Int32))] ∧ Z.Warmed39 U.vm ∧ U.heap = h0) (fun _ _ _ _ _ => True) (fun _ U o U' => ∃ v L, o = .returned v ∧ Q5 Z x0 k y0 y1 y2 y3 h0 n0 v U'.heap L ∧ FrameEnd U o U' L ({ frames := 1, cells := 1, slots := 8, locals := 18 } : Room).cells ({ frames := 1, cells := 1, slots := 8, locals := 18 } : Room).slots) := by
  refine MetFree.of_bodySF (plainFor_of_name pn5) hisR ?_
  intro p e s m args below meth c s₁ Bd hml0 hP hK
  obtain ⟨rfl, hZ, hh⟩ := hP
  have hx := Bd.exec
  have hby := Bd.bytes
  have hml : c.maxLocals = 3 := hml0
  have hown : s.vm.findClass "java/util/Arrays" = some m.cls := findClass_of_methodNamed Bd.named
  have hnm := (name_of_methodNamed Bd.named Bd.method).1
  have X0 : Stand p l e ({ frames := 1, cells := 1, slots := 8, locals := 18 } : Room) s m #[(.ref x0), (.int (8 : Int32))] below meth c s₁ [] 0 0 := Stand.of_body Bd
  have e0 : s₁.heap = h0 := by rw [← hh, Bd.state]; rfl
  have N0 := Fr.nil n0
  have pre0 : Steps p.tables e below (s₁.setTop (entryFrame m #[(.ref x0), (.int (8 : Int32))] 3)) (s₁.setTop (mkF m 0 #[.val (.ref x0), .val (.int (8 : Int32)), .unset] [])) := castTop (ef5 m x0) (Steps.refl _)
  have K0 := Keep.refl h0 []
  have st1 : Steps p.tables e below (s₁.setTop (mkF m 0 #[.val (.ref x0), .val (.int (8 : Int32)), .unset] [])) (s₁.setTop (mkF m 2 #[.val (.ref x0), .val (.int (8 : Int32)), .unset] [(.ref x0), (.int (8 : Int32))])) := by
    refine XS.iloadN X0.here hx rfl (hb hby d5_0) rfl ?_
    show Steps p.tables e below (s₁.setTop (mkF m 1 #[.val (.ref x0), .val (.int (8 : Int32)), .unset] [(.int (8 : Int32))])) _
    refine XS.aloadN X0.here hx rfl (hb hby d5_1) rfl rfl ?_
    show Steps p.tables e below (s₁.setTop (mkF m 2 #[.val (.ref x0), .val (.int (8 : Int32)), .unset] [(.ref x0), (.int (8 : Int32))])) _
    exact Steps.refl _
  have pre1 := pre0.trans st1
  obtain ⟨cl2, Ar2, q2, S2, G2, H2, J2⟩ := id B0
  have st2 : Steps p.tables e below (s₁.setTop (mkF m 2 #[.val (.ref x0), .val (.int (8 : Int32)), .unset] [(.ref x0), (.int (8 : Int32))])) (s₁.setTop (mkF m 3 #[.val (.ref x0), .val (.int (8 : Int32)), .unset] [(.int (4 : Int32)), (.int (8 : Int32))])) := by
    refine X0.arraylength hx (by rw [e0]; exact Ar2.1) (State.isArrayOf_alike hZ.alike Ar2.2.1) (g := (mkF m 2 #[.val (.ref x0), .val (.int (8 : Int32)), .unset] [(.ref x0), (.int (8 : Int32))])) rfl rfl (hb hby d5_2) _ ?_
    rw [len_of S2 G2]
    exact Steps.refl _
  have pre2 := pre1.trans st2
  have st3 : Steps p.tables e below (s₁.setTop (mkF m 3 #[.val (.ref x0), .val (.int (8 : Int32)), .unset] [(.int (4 : Int32)), (.int (8 : Int32))])) (s₁.setTop (mkF m 15 #[.val (.ref x0), .val (.int (8 : Int32)), .unset] [(.int (8 : Int32))])) := by
    refine XS.icmpYes X0.here hx rfl (pc0 := 3) (pc' := 14) rfl (hb hby d5_3) rfl (feq (by decide : ¬ ((8 : Int32) = (4 : Int32)))).2 (by decide) (by decide) ?_
    show Steps p.tables e below (s₁.setTop (mkF m 14 #[.val (.ref x0), .val (.int (8 : Int32)), .unset] [])) _
    refine XS.iloadN X0.here hx rfl (hb hby d5_14) rfl ?_
    show Steps p.tables e below (s₁.setTop (mkF m 15 #[.val (.ref x0), .val (.int (8 : Int32)), .unset] [(.int (8 : Int32))])) _
    exact Steps.refl _
  have pre3 := pre2.trans st3
  obtain ⟨T4, h4, k4, X4, e4, E4, A4, st4⟩ := newP X0 hx hZ (hw _ (List.mem_of_getElem? (i := 0) rfl)) e0 (g := (mkF m 15 #[.val (.ref x0), .val (.int (8 : Int32)), .unset] [(.int (8 : Int32))])) rfl (hb hby d5_15) rfl (by decide) (cap := 8) (by decide) (by decide) (by decide) (by decide)
  obtain ⟨b4, g4⟩ : ∃ z, z = h0.size := ⟨_, rfl⟩
  rw [← g4] at A4 st4
  have pre4 : Steps p.tables e below (s₁.setTop (entryFrame m #[(.ref x0), (.int (8 : Int32))] 3)) (T4.setTop (mkF m 17 #[.val (.ref x0), .val (.int (8 : Int32)), .unset] [(.ref b4)])) := pre3.trans (st4 _ (Steps.refl _))
  have gn4 : n0 ≤ b4 := Nat.le_trans Z0 (Nat.le_of_eq g4.symm)
  have sz4 : h0.size ≤ b4 := Nat.le_trans K0.1 (Nat.le_of_eq g4.symm)
  have nex0_b4 : x0 ≠ b4 := Nat.ne_of_lt (Nat.lt_of_lt_of_le B0.lt (Nat.le_of_eq g4.symm))
  have F5 : Arv Z h4 x0 k .int (4 : Int32) [(.int y0), (.int y1), (.int y2), (.int y3)] (.int (0 : Int32)) := B0.ext E4
  have K4 := K0.ext E4
  have Z4 : n0 ≤ h4.size := Nat.le_trans Z0 E4.1
  have F6 : Arv Z h4 b4 k4 .int (8 : Int32) [(.int (0 : Int32)), (.int (0 : Int32)), (.int (0 : Int32)), (.int (0 : Int32)), (.int (0 : Int32)), (.int (0 : Int32)), (.int (0 : Int32)), (.int (0 : Int32))] (.int (0 : Int32)) := (Arv.new A4 (by decide)).pad (pad_rep [] (.int (0 : Int32)) 8)
  have st7 : Steps p.tables e below (T4.setTop (mkF m 17 #[.val (.ref x0), .val (.int (8 : Int32)), .unset] [(.ref b4)])) (T4.setTop (mkF m 23 #[.val (.ref x0), .val (.int (8 : Int32)), .val (.ref b4)] [(.ref x0), (.int (0 : Int32)), (.ref b4), (.int (0 : Int32)), (.ref x0)])) := by
    refine XS.astoreN X4.here hx rfl (hb hby d5_17) rfl rfl (l' := #[.val (.ref x0), .val (.int (8 : Int32)), .val (.ref b4)]) rfl ?_
    show Steps p.tables e below (T4.setTop (mkF m 18 #[.val (.ref x0), .val (.int (8 : Int32)), .val (.ref b4)] [])) _
    refine XS.aloadN X4.here hx rfl (hb hby d5_18) rfl rfl ?_
    show Steps p.tables e below (T4.setTop (mkF m 19 #[.val (.ref x0), .val (.int (8 : Int32)), .val (.ref b4)] [(.ref x0)])) _
    refine XS.iconst X4.here hx rfl (hb hby d5_19) ?_
    show Steps p.tables e below (T4.setTop (mkF m 20 #[.val (.ref x0), .val (.int (8 : Int32)), .val (.ref b4)] [(.int (0 : Int32)), (.ref x0)])) _
    refine XS.aloadN X4.here hx rfl (hb hby d5_20) rfl rfl ?_
    show Steps p.tables e below (T4.setTop (mkF m 21 #[.val (.ref x0), .val (.int (8 : Int32)), .val (.ref b4)] [(.ref b4), (.int (0 : Int32)), (.ref x0)])) _
    refine XS.iconst X4.here hx rfl (hb hby d5_21) ?_
    show Steps p.tables e below (T4.setTop (mkF m 22 #[.val (.ref x0), .val (.int (8 : Int32)), .val (.ref b4)] [(.int (0 : Int32)), (.ref b4), (.int (0 : Int32)), (.ref x0)])) _
    refine XS.aloadN X4.here hx rfl (hb hby d5_22) rfl rfl ?_
    show Steps p.tables e below (T4.setTop (mkF m 23 #[.val (.ref x0), .val (.int (8 : Int32)), .val (.ref b4)] [(.ref x0), (.int (0 : Int32)), (.ref b4), (.int (0 : Int32)), (.ref x0)])) _
    exact Steps.refl _
  have pre7 := pre4.trans st7
  obtain ⟨cl8, Ar8, q8, S8, G8, H8, J8⟩ := id F5
  have st8 : Steps p.tables e below (T4.setTop (mkF m 23 #[.val (.ref x0), .val (.int (8 : Int32)), .val (.ref b4)] [(.ref x0), (.int (0 : Int32)), (.ref b4), (.int (0 : Int32)), (.ref x0)])) (T4.setTop (mkF m 24 #[.val (.ref x0), .val (.int (8 : Int32)), .val (.ref b4)] [(.int (4 : Int32)), (.int (0 : Int32)), (.ref b4), (.int (0 : Int32)), (.ref x0)])) := by
    refine X4.arraylength hx (by rw [e4]; exact Ar8.1) (State.isArrayOf_alike hZ.alike Ar8.2.1) (g := (mkF m 23 #[.val (.ref x0), .val (.int (8 : Int32)), .val (.ref b4)] [(.ref x0), (.int (0 : Int32)), (.ref b4), (.int (0 : Int32)), (.ref x0)])) rfl rfl (hb hby d5_23) _ ?_
    rw [len_of S8 G8]
    exact Steps.refl _
  have pre8 := pre7.trans st8
  have st9 : Steps p.tables e below (T4.setTop (mkF m 24 #[.val (.ref x0), .val (.int (8 : Int32)), .val (.ref b4)] [(.int (4 : Int32)), (.int (0 : Int32)), (.ref b4), (.int (0 : Int32)), (.ref x0)])) (T4.setTop (mkF m 25 #[.val (.ref x0), .val (.int (8 : Int32)), .val (.ref b4)] [(.int (8 : Int32)), (.int (4 : Int32)), (.int (0 : Int32)), (.ref b4), (.int (0 : Int32)), (.ref x0)])) := by
    refine XS.iloadN X4.here hx rfl (hb hby d5_24) rfl ?_
    show Steps p.tables e below (T4.setTop (mkF m 25 #[.val (.ref x0), .val (.int (8 : Int32)), .val (.ref b4)] [(.int (8 : Int32)), (.int (4 : Int32)), (.int (0 : Int32)), (.ref b4), (.int (0 : Int32)), (.ref x0)])) _
    exact Steps.refl _
  have pre9 := pre8.trans st9
  obtain ⟨_, _, ⟨T10, L10, k10, n10⟩, -, X10, ⟨Lc10, hQ10, l10, y10, z10⟩, st10⟩ := Jvm.LawKit.callS X4 hx (y := (⟨"java/lang/Math", "min", "(II)I"⟩ : MethodName)) hown (mvT hZ (hw _ (List.mem_of_getElem? (i := 45) rfl))) (mvT hZ (hw _ (List.mem_of_getElem? (i := 46) rfl))) (mvT hZ (hw _ (List.mem_of_getElem? (i := 47) rfl))) (mvT hZ (hw _ (List.mem_of_getElem? (i := 48) rfl))) (by decide) (backOf (W := 4) (rm3 l Z a0 hw []  h4 n0 Z4) hZ (hw _ (List.mem_of_getElem? (i := 48) rfl)) (hw _ (List.mem_of_getElem? (i := 47) rfl)) (by decide) (by decide)) (g := (mkF m 25 #[.val (.ref x0), .val (.int (8 : Int32)), .val (.ref b4)] [(.int (8 : Int32)), (.int (4 : Int32)), (.int (0 : Int32)), (.ref b4), (.int (0 : Int32)), (.ref x0)])) rfl (by rw [hml]; rfl) (argsL := [(.int (4 : Int32)), (.int (8 : Int32))]) (rest := [(.int (0 : Int32)), (.ref b4), (.int (0 : Int32)), (.ref x0)]) (lenOf pd5_0 rfl) rfl (by show 2 * 0 + _ ≤ _; exact Nat.le_of_eq rfl) (hb hby d5_25) (fun _ _ => ⟨rfl, e4, (by decide : 1 + 0 ≤ _), (by decide : 8 + 0 ≤ _)⟩)
  dsimp only [Pt.U, Pt.locs, Pt.cells, Pt.slots] at X10 l10 y10 z10 st10 hQ10
  subst l10 y10 z10
  obtain ⟨rfl, Nq10, e10⟩ := hQ10
  have N10 := Fr.app N0 Nq10
  have pre10 : Steps p.tables e below (s₁.setTop (entryFrame m #[(.ref x0), (.int (8 : Int32))] 3)) (T10.setTop (mkF m 28 #[.val (.ref x0), .val (.int (8 : Int32)), .val (.ref b4)] [(.int (4 : Int32)), (.int (0 : Int32)), (.ref b4), (.int (0 : Int32)), (.ref x0)])) := pre9.trans (st10 _ (Steps.refl _))
  obtain ⟨T11, h11, L11, X11, e11, N11, Kq11, V11, st11⟩ := cpA X10 hx hZ hown (hw _ (List.mem_of_getElem? (i := 49) rfl)) (hw _ (List.mem_of_getElem? (i := 52) rfl)) (hw _ (List.mem_of_getElem? (i := 50) rfl)) (hw _ (List.mem_of_getElem? (i := 51) rfl)) e10 F5 F6 (us := [(.int y0), (.int y1), (.int y2), (.int y3)]) (Or.inl ⟨rfl, rfl⟩) (by decide) (by decide) (by decide) (by decide) (by decide) rfl (by decide) N10 gn4 (g := (mkF m 28 #[.val (.ref x0), .val (.int (8 : Int32)), .val (.ref b4)] [(.int (4 : Int32)), (.int (0 : Int32)), (.ref b4), (.int (0 : Int32)), (.ref x0)])) rfl (by rw [hml]; rfl) rfl (hb hby d5_28) (by decide) (W := 0) (by show 2 * 0 + _ ≤ _; exact Nat.le_of_eq rfl) (by decide)
  have pre11 : Steps p.tables e below (s₁.setTop (entryFrame m #[(.ref x0), (.int (8 : Int32))] 3)) (T11.setTop (mkF m 31 #[.val (.ref x0), .val (.int (8 : Int32)), .val (.ref b4)] [])) := pre10.trans (st11 _ (Steps.refl _))
  have F12 : Arv Z h11 x0 k .int (4 : Int32) [(.int y0), (.int y1), (.int y2), (.int y3)] (.int (0 : Int32)) := F5.keep Kq11 (ninS nex0_b4 nin0)
  have KK11 := K4.trans Kq11 (allS (Or.inr sz4) all0)
  have Z11 : n0 ≤ h11.size := Nat.le_trans Z4 Kq11.1
  have Vc11 : Arv Z h11 b4 k4 .int (8 : Int32) [(.int y0), (.int y1), (.int y2), (.int y3), (.int (0 : Int32)), (.int (0 : Int32)), (.int (0 : Int32)), (.int (0 : Int32))] (.int (0 : Int32)) := V11
  have st14 : Steps p.tables e below (T11.setTop (mkF m 31 #[.val (.ref x0), .val (.int (8 : Int32)), .val (.ref b4)] [])) (T11.setTop (mkF m 32 #[.val (.ref x0), .val (.int (8 : Int32)), .val (.ref b4)] [(.ref b4)])) := by
    refine XS.aloadN X11.here hx rfl (hb hby d5_31) rfl rfl ?_
    show Steps p.tables e below (T11.setTop (mkF m 32 #[.val (.ref x0), .val (.int (8 : Int32)), .val (.ref b4)] [(.ref b4)])) _
    exact Steps.refl _
  have pre14 := pre11.trans st14
  obtain ⟨fs, hr, hrun, hended, hW, hsame⟩ := X11.leave (v := some (.ref b4)) (fun h => by rw [Bd.returns] at h; cases h)
  refine ⟨_, _, pre14.trans ?_, hrun, hended, _, _, rfl, ?_, ⟨_, rfl⟩, hW, hsame.mono (by decide) (by decide)⟩
  · show Steps p.tables e below (T11.setTop (mkF m 32 #[.val (.ref x0), .val (.int (8 : Int32)), .val (.ref b4)] [(.ref b4)])) _
    jvm_step X11.here [X11.here.top, hx, (hb hby d5_32), X11.method', Bd.returns, Value.isRef, FieldType.isReference]
    first | (intro acts; rw [hr _ acts rfl rfl rfl]) | rw [hr _ _ rfl rfl rfl]
    exact Steps.refl _
  · show Q5 Z x0 k y0 y1 y2 y3 h0 n0 _ T11.heap _
    rw [e11]
    exact ⟨b4, k4, rfl, N11, KK11, sz4, Vc11⟩
theorem d6_0 : decode prog_19_method_11_code 0 = .ok (.iconst 0, 1) := by decide +kernel
theorem d6_1 : decode prog_19_method_11_code 1 = .ok (.istore_n 3, 1) := by decide +kernel
theorem d6_2 : decode prog_19_method_11_code 2 = .ok (.iconst 0, 1) := by decide +kernel
theorem d6_3 : decode prog_19_method_11_code 3 = .ok (.istore 4, 2) := by decide +kernel
theorem d6_5 : decode prog_19_method_11_code 5 = .ok (.iload 4, 2) := by decide +kernel
theorem d6_7 : decode prog_19_method_11_code 7 = .ok (.aload_n 0, 1) := by decide +kernel
theorem d6_8 : decode prog_19_method_11_code 8 = .ok (.getfield 29, 3) := by decide +kernel
theorem d6_11 : decode prog_19_method_11_code 11 = .ok (.if_icmp .ge 71, 3) := by decide +kernel
theorem d6_82 : decode prog_19_method_11_code 82 = .ok (.iload_n 3, 1) := by decide +kernel
theorem d6_83 : decode prog_19_method_11_code 83 = .ok (.aload_n 0, 1) := by decide +kernel
theorem d6_84 : decode prog_19_method_11_code 84 = .ok (.getfield 16, 3) := by decide +kernel
theorem d6_87 : decode prog_19_method_11_code 87 = .ok (.arraylength, 1) := by decide +kernel
theorem d6_88 : decode prog_19_method_11_code 88 = .ok (.if_icmp .ne 31, 3) := by decide +kernel
theorem d6_119 : decode prog_19_method_11_code 119 = .ok (.aload_n 0, 1) := by decide +kernel
theorem d6_120 : decode prog_19_method_11_code 120 = .ok (.getfield 16, 3) := by decide +kernel
theorem d6_123 : decode prog_19_method_11_code 123 = .ok (.iload_n 3, 1) := by decide +kernel
theorem d6_124 : decode prog_19_method_11_code 124 = .ok (.iload_n 1, 1) := by decide +kernel
theorem d6_125 : decode prog_19_method_11_code 125 = .ok (.iastore, 1) := by decide +kernel
theorem d6_126 : decode prog_19_method_11_code 126 = .ok (.aload_n 0, 1) := by decide +kernel
theorem d6_127 : decode prog_19_method_11_code 127 = .ok (.getfield 19, 3) := by decide +kernel
theorem d6_130 : decode prog_19_method_11_code 130 = .ok (.iload_n 3, 1) := by decide +kernel
theorem d6_131 : decode prog_19_method_11_code 131 = .ok (.iload_n 2, 1) := by decide +kernel
theorem d6_132 : decode prog_19_method_11_code 132 = .ok (.iastore, 1) := by decide +kernel
theorem d6_133 : decode prog_19_method_11_code 133 = .ok (.aload_n 0, 1) := by decide +kernel
theorem d6_134 : decode prog_19_method_11_code 134 = .ok (.iload_n 3, 1) := by decide +kernel
theorem d6_135 : decode prog_19_method_11_code 135 = .ok (.iconst 1, 1) := by decide +kernel
theorem d6_136 : decode prog_19_method_11_code 136 = .ok (.iadd, 1) := by decide +kernel
theorem d6_137 : decode prog_19_method_11_code 137 = .ok (.putfield 29, 3) := by decide +kernel
theorem d6_140 : decode prog_19_method_11_code 140 = .ok (.return_, 1) := by decide +kernel
theorem pn6 : plainName "com/example/portia/portia/index/Postings" = true := by first | (simp [plainName, overriddenIn]; done) | decide +kernel
theorem ef6 (m : MethodId) (x0 : Addr) : entryFrame m #[(.ref x0), (.int (1 : Int32)), (.int (1 : Int32))] 7 = mkF m 0 #[.val (.ref x0), .val (.int (1 : Int32)), .val (.int (1 : Int32)), .unset, .unset, .unset, .unset] [] := by first | (simp [entryFrame, mkF, argsToLocals, Value.category]; done) | rfl
def Q6 (Z : State) (x0 : Addr) (ai : Addr) (ki : ClassId) (al : Addr) (kl : ClassId) (q0 : Value) (q1 : Value) (q2 : Value) (q3 : Value) (h0 : Heap) (n0 : Nat) (v : Option Value) (h : Heap) (L : List Loc) : Prop := v = none ∧ Fr n0 L ∧ Keep h0 h [x0, ai, al] ∧ Exa Z h x0 "com/example/portia/portia/index/Postings" ∧ Fld Z h x0 "com/example/portia/portia/index/Postings" "ordinals" "[I" q0 ∧ Fld Z h x0 "com/example/portia/portia/index/Postings" "frequencies" "[I" q1 ∧ Fld Z h x0 "com/example/portia/portia/index/Postings" "size" "I" q2 ∧ Fld Z h x0 "com/example/portia/portia/index/Postings" "documentFrequency" "I" q3 ∧ Fld Z h x0 "com/example/portia/portia/index/Postings" "impactFrequencies" "[I" (.ref ai) ∧ Fld Z h x0 "com/example/portia/portia/index/Postings" "impactLengths" "[I" (.ref al) ∧ Fld Z h x0 "com/example/portia/portia/index/Postings" "impactCount" "I" (.int (1 : Int32)) ∧ Arv Z h ai ki .int (1 : Int32) [(.int (1 : Int32))] (.int (0 : Int32)) ∧ Arv Z h al kl .int (1 : Int32) [(.int (1 : Int32))] (.int (0 : Int32))
set_option maxRecDepth 65536 in
set_option maxHeartbeats 40000000 in
theorem rm6 (l : Launch) (Z : State) (a0 : Array Value) (hw : ∀ d ∈ tables_1, d.before a0 Z = true) (ws : List Jvm.Cond) (x0 : Addr) (ai : Addr) (ki : ClassId) (al : Addr) (kl : ClassId) (q0 : Value) (q1 : Value) (q2 : Value) (q3 : Value) (h0 : Heap) (n0 : Nat) (Z0 : n0 ≤ h0.size) (B0 : Exa Z h0 x0 "com/example/portia/portia/index/Postings") (B1 : Fld Z h0 x0 "com/example/portia/portia/index/Postings" "ordinals" "[I" q0) (B2 : Fld Z h0 x0 "com/example/portia/portia/index/Postings" "frequencies" "[I" q1) (B3 : Fld Z h0 x0 "com/example/portia/portia/index/Postings" "size" "I" q2) (B4 : Fld Z h0 x0 "com/example/portia/portia/index/Postings" "documentFrequency" "I" q3) (B5 : Fld Z h0 x0 "com/example/portia/portia/index/Postings" "impactFrequencies" "[I" (.ref ai)) (B6 : Fld Z h0 x0 "com/example/portia/portia/index/Postings" "impactLengths" "[I" (.ref al)) (B7 : Fld Z h0 x0 "com/example/portia/portia/index/Postings" "impactCount" "I" (.int (0 : Int32))) (B8 : Arv Z h0 ai ki .int (1 : Int32) [(.int (0 : Int32))] (.int (0 : Int32))) (B9 : Arv Z h0 al kl .int (1 : Int32) [(.int (0 : Int32))] (.int (0 : Int32))) (g_x0 : n0 ≤ x0) (g_ai : n0 ≤ ai) (g_al : n0 ≤ al) (n_x0_ai : x0 ≠ ai) (n_x0_al : x0 ≠ al) (n_ai_al : ai ≠ al) :
    MetFree l (⟨"com/example/portia/portia/index/Postings", "addImpact", "(II)V"⟩ : MethodName) (head1 (Jvm.Cond.code (⟨"com/example/portia/portia/index/Postings", "addImpact", "(II)V"⟩ : MethodName) prog_19_method_11_code 7 none :: ws) ({ frames := 0, cells := 0, slots := 0, locals := 0 } : Room)) (fun a U => a = #[(.ref x0), (.int (1 : Int32)), (.int (1 : Int32))] ∧ Z.Warmed39 U.vm ∧ U.heap = h0) (fun _ _ _ _ _ => True) (fun _ U o U' => ∃ v L, o = .returned v ∧ Q6 Z x0 ai ki al kl q0 q1 q2 q3 h0 n0 v U'.heap L ∧ FrameEnd U o U' L ({ frames := 0, cells := 0, slots := 0, locals := 0 } : Room).cells ({ frames := 0, cells := 0, slots := 0, locals := 0 } : Room).slots) := by
  refine MetFree.of_bodySF (plainFor_of_name pn6) hisR ?_
  intro p e s m args below meth c s₁ Bd hml0 hP hK
  obtain ⟨rfl, hZ, hh⟩ := hP
  have hx := Bd.exec
  have hby := Bd.bytes
  have hml : c.maxLocals = 7 := hml0
  have hown : s.vm.findClass "com/example/portia/portia/index/Postings" = some m.cls := findClass_of_methodNamed Bd.named
  have hnm := (name_of_methodNamed Bd.named Bd.method).1
  have X0 : Stand p l e ({ frames := 0, cells := 0, slots := 0, locals := 0 } : Room) s m #[(.ref x0), (.int (1 : Int32)), (.int (1 : Int32))] below meth c s₁ [] 0 0 := Stand.of_body Bd
  have e0 : s₁.heap = h0 := by rw [← hh, Bd.state]; rfl
  have N0 := Fr.nil n0
  have pre0 : Steps p.tables e below (s₁.setTop (entryFrame m #[(.ref x0), (.int (1 : Int32)), (.int (1 : Int32))] 7)) (s₁.setTop (mkF m 0 #[.val (.ref x0), .val (.int (1 : Int32)), .val (.int (1 : Int32)), .unset, .unset, .unset, .unset] [])) := castTop (ef6 m x0) (Steps.refl _)
  have K0 := Keep.refl h0 [x0, ai, al]
  have st1 : Steps p.tables e below (s₁.setTop (mkF m 0 #[.val (.ref x0), .val (.int (1 : Int32)), .val (.int (1 : Int32)), .unset, .unset, .unset, .unset] [])) (s₁.setTop (mkF m 8 #[.val (.ref x0), .val (.int (1 : Int32)), .val (.int (1 : Int32)), .val (.int (0 : Int32)), .val (.int (0 : Int32)), .unset, .unset] [(.ref x0), (.int (0 : Int32))])) := by
    refine XS.iconst X0.here hx rfl (hb hby d6_0) ?_
    show Steps p.tables e below (s₁.setTop (mkF m 1 #[.val (.ref x0), .val (.int (1 : Int32)), .val (.int (1 : Int32)), .unset, .unset, .unset, .unset] [(.int (0 : Int32))])) _
    refine XS.istoreN X0.here hx rfl (hb hby d6_1) rfl (l' := #[.val (.ref x0), .val (.int (1 : Int32)), .val (.int (1 : Int32)), .val (.int (0 : Int32)), .unset, .unset, .unset]) rfl ?_
    show Steps p.tables e below (s₁.setTop (mkF m 2 #[.val (.ref x0), .val (.int (1 : Int32)), .val (.int (1 : Int32)), .val (.int (0 : Int32)), .unset, .unset, .unset] [])) _
    refine XS.iconst X0.here hx rfl (hb hby d6_2) ?_
    show Steps p.tables e below (s₁.setTop (mkF m 3 #[.val (.ref x0), .val (.int (1 : Int32)), .val (.int (1 : Int32)), .val (.int (0 : Int32)), .unset, .unset, .unset] [(.int (0 : Int32))])) _
    refine XS.istore X0.here hx rfl (hb hby d6_3) rfl (l' := #[.val (.ref x0), .val (.int (1 : Int32)), .val (.int (1 : Int32)), .val (.int (0 : Int32)), .val (.int (0 : Int32)), .unset, .unset]) rfl ?_
    show Steps p.tables e below (s₁.setTop (mkF m 5 #[.val (.ref x0), .val (.int (1 : Int32)), .val (.int (1 : Int32)), .val (.int (0 : Int32)), .val (.int (0 : Int32)), .unset, .unset] [])) _
    refine XS.iload X0.here hx rfl (hb hby d6_5) rfl ?_
    show Steps p.tables e below (s₁.setTop (mkF m 7 #[.val (.ref x0), .val (.int (1 : Int32)), .val (.int (1 : Int32)), .val (.int (0 : Int32)), .val (.int (0 : Int32)), .unset, .unset] [(.int (0 : Int32))])) _
    refine XS.aloadN X0.here hx rfl (hb hby d6_7) rfl rfl ?_
    show Steps p.tables e below (s₁.setTop (mkF m 8 #[.val (.ref x0), .val (.int (1 : Int32)), .val (.int (1 : Int32)), .val (.int (0 : Int32)), .val (.int (0 : Int32)), .unset, .unset] [(.ref x0), (.int (0 : Int32))])) _
    exact Steps.refl _
  have pre1 := pre0.trans st1
  obtain ⟨T2, X2, e2, st2⟩ := getF X0 hx hZ hown (host := "") (Or.inl (hw _ (List.mem_of_getElem? (i := 39) rfl))) Via.refl e0 B7 (g := (mkF m 8 #[.val (.ref x0), .val (.int (1 : Int32)), .val (.int (1 : Int32)), .val (.int (0 : Int32)), .val (.int (0 : Int32)), .unset, .unset] [(.ref x0), (.int (0 : Int32))])) rfl rfl (hb hby d6_8)
  have pre2 : Steps p.tables e below (s₁.setTop (entryFrame m #[(.ref x0), (.int (1 : Int32)), (.int (1 : Int32))] 7)) (T2.setTop (mkF m 11 #[.val (.ref x0), .val (.int (1 : Int32)), .val (.int (1 : Int32)), .val (.int (0 : Int32)), .val (.int (0 : Int32)), .unset, .unset] [(.int (0 : Int32)), (.int (0 : Int32))])) := pre1.trans (st2 _ (Steps.refl _))
  have st3 : Steps p.tables e below (T2.setTop (mkF m 11 #[.val (.ref x0), .val (.int (1 : Int32)), .val (.int (1 : Int32)), .val (.int (0 : Int32)), .val (.int (0 : Int32)), .unset, .unset] [(.int (0 : Int32)), (.int (0 : Int32))])) (T2.setTop (mkF m 84 #[.val (.ref x0), .val (.int (1 : Int32)), .val (.int (1 : Int32)), .val (.int (0 : Int32)), .val (.int (0 : Int32)), .unset, .unset] [(.ref x0), (.int (0 : Int32))])) := by
    refine XS.icmpYes X2.here hx rfl (pc0 := 11) (pc' := 82) rfl (hb hby d6_11) rfl (flt (by decide : ¬ ((0 : Int32) < (0 : Int32)))).2.1 (by decide) (by decide) ?_
    show Steps p.tables e below (T2.setTop (mkF m 82 #[.val (.ref x0), .val (.int (1 : Int32)), .val (.int (1 : Int32)), .val (.int (0 : Int32)), .val (.int (0 : Int32)), .unset, .unset] [])) _
    refine XS.iloadN X2.here hx rfl (hb hby d6_82) rfl ?_
    show Steps p.tables e below (T2.setTop (mkF m 83 #[.val (.ref x0), .val (.int (1 : Int32)), .val (.int (1 : Int32)), .val (.int (0 : Int32)), .val (.int (0 : Int32)), .unset, .unset] [(.int (0 : Int32))])) _
    refine XS.aloadN X2.here hx rfl (hb hby d6_83) rfl rfl ?_
    show Steps p.tables e below (T2.setTop (mkF m 84 #[.val (.ref x0), .val (.int (1 : Int32)), .val (.int (1 : Int32)), .val (.int (0 : Int32)), .val (.int (0 : Int32)), .unset, .unset] [(.ref x0), (.int (0 : Int32))])) _
    exact Steps.refl _
  have pre3 := pre2.trans st3
  obtain ⟨T4, X4, e4, st4⟩ := getF X2 hx hZ hown (host := "") (Or.inl (hw _ (List.mem_of_getElem? (i := 17) rfl))) Via.refl e2 B5 (g := (mkF m 84 #[.val (.ref x0), .val (.int (1 : Int32)), .val (.int (1 : Int32)), .val (.int (0 : Int32)), .val (.int (0 : Int32)), .unset, .unset] [(.ref x0), (.int (0 : Int32))])) rfl rfl (hb hby d6_84)
  have pre4 : Steps p.tables e below (s₁.setTop (entryFrame m #[(.ref x0), (.int (1 : Int32)), (.int (1 : Int32))] 7)) (T4.setTop (mkF m 87 #[.val (.ref x0), .val (.int (1 : Int32)), .val (.int (1 : Int32)), .val (.int (0 : Int32)), .val (.int (0 : Int32)), .unset, .unset] [(.ref ai), (.int (0 : Int32))])) := pre3.trans (st4 _ (Steps.refl _))
  obtain ⟨cl5, Ar5, q5, S5, G5, H5, J5⟩ := id B8
  have st5 : Steps p.tables e below (T4.setTop (mkF m 87 #[.val (.ref x0), .val (.int (1 : Int32)), .val (.int (1 : Int32)), .val (.int (0 : Int32)), .val (.int (0 : Int32)), .unset, .unset] [(.ref ai), (.int (0 : Int32))])) (T4.setTop (mkF m 88 #[.val (.ref x0), .val (.int (1 : Int32)), .val (.int (1 : Int32)), .val (.int (0 : Int32)), .val (.int (0 : Int32)), .unset, .unset] [(.int (1 : Int32)), (.int (0 : Int32))])) := by
    refine X4.arraylength hx (by rw [e4]; exact Ar5.1) (State.isArrayOf_alike hZ.alike Ar5.2.1) (g := (mkF m 87 #[.val (.ref x0), .val (.int (1 : Int32)), .val (.int (1 : Int32)), .val (.int (0 : Int32)), .val (.int (0 : Int32)), .unset, .unset] [(.ref ai), (.int (0 : Int32))])) rfl rfl (hb hby d6_87) _ ?_
    rw [len_of S5 G5]
    exact Steps.refl _
  have pre5 := pre4.trans st5
  have st6 : Steps p.tables e below (T4.setTop (mkF m 88 #[.val (.ref x0), .val (.int (1 : Int32)), .val (.int (1 : Int32)), .val (.int (0 : Int32)), .val (.int (0 : Int32)), .unset, .unset] [(.int (1 : Int32)), (.int (0 : Int32))])) (T4.setTop (mkF m 120 #[.val (.ref x0), .val (.int (1 : Int32)), .val (.int (1 : Int32)), .val (.int (0 : Int32)), .val (.int (0 : Int32)), .unset, .unset] [(.ref x0)])) := by
    refine XS.icmpYes X4.here hx rfl (pc0 := 88) (pc' := 119) rfl (hb hby d6_88) rfl (feq (by decide : ¬ ((0 : Int32) = (1 : Int32)))).2 (by decide) (by decide) ?_
    show Steps p.tables e below (T4.setTop (mkF m 119 #[.val (.ref x0), .val (.int (1 : Int32)), .val (.int (1 : Int32)), .val (.int (0 : Int32)), .val (.int (0 : Int32)), .unset, .unset] [])) _
    refine XS.aloadN X4.here hx rfl (hb hby d6_119) rfl rfl ?_
    show Steps p.tables e below (T4.setTop (mkF m 120 #[.val (.ref x0), .val (.int (1 : Int32)), .val (.int (1 : Int32)), .val (.int (0 : Int32)), .val (.int (0 : Int32)), .unset, .unset] [(.ref x0)])) _
    exact Steps.refl _
  have pre6 := pre5.trans st6
  obtain ⟨T7, X7, e7, st7⟩ := getF X4 hx hZ hown (host := "") (Or.inl (hw _ (List.mem_of_getElem? (i := 17) rfl))) Via.refl e4 B5 (g := (mkF m 120 #[.val (.ref x0), .val (.int (1 : Int32)), .val (.int (1 : Int32)), .val (.int (0 : Int32)), .val (.int (0 : Int32)), .unset, .unset] [(.ref x0)])) rfl rfl (hb hby d6_120)
  have pre7 : Steps p.tables e below (s₁.setTop (entryFrame m #[(.ref x0), (.int (1 : Int32)), (.int (1 : Int32))] 7)) (T7.setTop (mkF m 123 #[.val (.ref x0), .val (.int (1 : Int32)), .val (.int (1 : Int32)), .val (.int (0 : Int32)), .val (.int (0 : Int32)), .unset, .unset] [(.ref ai)])) := pre6.trans (st7 _ (Steps.refl _))
  have st8 : Steps p.tables e below (T7.setTop (mkF m 123 #[.val (.ref x0), .val (.int (1 : Int32)), .val (.int (1 : Int32)), .val (.int (0 : Int32)), .val (.int (0 : Int32)), .unset, .unset] [(.ref ai)])) (T7.setTop (mkF m 125 #[.val (.ref x0), .val (.int (1 : Int32)), .val (.int (1 : Int32)), .val (.int (0 : Int32)), .val (.int (0 : Int32)), .unset, .unset] [(.int (1 : Int32)), (.int (0 : Int32)), (.ref ai)])) := by
    refine XS.iloadN X7.here hx rfl (hb hby d6_123) rfl ?_
    show Steps p.tables e below (T7.setTop (mkF m 124 #[.val (.ref x0), .val (.int (1 : Int32)), .val (.int (1 : Int32)), .val (.int (0 : Int32)), .val (.int (0 : Int32)), .unset, .unset] [(.int (0 : Int32)), (.ref ai)])) _
    refine XS.iloadN X7.here hx rfl (hb hby d6_124) rfl ?_
    show Steps p.tables e below (T7.setTop (mkF m 125 #[.val (.ref x0), .val (.int (1 : Int32)), .val (.int (1 : Int32)), .val (.int (0 : Int32)), .val (.int (0 : Int32)), .unset, .unset] [(.int (1 : Int32)), (.int (0 : Int32)), (.ref ai)])) _
    exact Steps.refl _
  have pre8 := pre7.trans st8
  obtain ⟨cl9, Ar9, q9, S9, G9, H9, J9⟩ := id B8
  have in9 : ¬ ((0 : Int32) < 0 ∨ cl9.slots.size ≤ ((0 : Int32)).toNatClampNeg) := inb_of S9 ⟨by decide, by decide⟩
  obtain ⟨T9, h9, X9, e9, W9, st9⟩ := stI X7 hx hZ e7 Ar9 (j := (0 : Int32)) in9 (g := (mkF m 125 #[.val (.ref x0), .val (.int (1 : Int32)), .val (.int (1 : Int32)), .val (.int (0 : Int32)), .val (.int (0 : Int32)), .unset, .unset] [(.int (1 : Int32)), (.int (0 : Int32)), (.ref ai)])) rfl rfl (hb hby d6_125)
  have pre9 : Steps p.tables e below (s₁.setTop (entryFrame m #[(.ref x0), (.int (1 : Int32)), (.int (1 : Int32))] 7)) (T9.setTop (mkF m 126 #[.val (.ref x0), .val (.int (1 : Int32)), .val (.int (1 : Int32)), .val (.int (0 : Int32)), .val (.int (0 : Int32)), .unset, .unset] [])) := pre8.trans (st9 _ (Steps.refl _))
  have F10 : Exa Z h9 x0 "com/example/portia/portia/index/Postings" := B0.wr W9
  have F11 : Fld Z h9 x0 "com/example/portia/portia/index/Postings" "ordinals" "[I" q0 := B1.other W9 (Or.inl n_x0_ai)
  have F12 : Fld Z h9 x0 "com/example/portia/portia/index/Postings" "frequencies" "[I" q1 := B2.other W9 (Or.inl n_x0_ai)
  have F13 : Fld Z h9 x0 "com/example/portia/portia/index/Postings" "size" "I" q2 := B3.other W9 (Or.inl n_x0_ai)
  have F14 : Fld Z h9 x0 "com/example/portia/portia/index/Postings" "documentFrequency" "I" q3 := B4.other W9 (Or.inl n_x0_ai)
  have F15 : Fld Z h9 x0 "com/example/portia/portia/index/Postings" "impactFrequencies" "[I" (.ref ai) := B5.other W9 (Or.inl n_x0_ai)
  have F16 : Fld Z h9 x0 "com/example/portia/portia/index/Postings" "impactLengths" "[I" (.ref al) := B6.other W9 (Or.inl n_x0_ai)
  have F17 : Fld Z h9 x0 "com/example/portia/portia/index/Postings" "impactCount" "I" (.int (0 : Int32)) := B7.other W9 (Or.inl n_x0_ai)
  have F19 : Arv Z h9 al kl .int (1 : Int32) [(.int (0 : Int32))] (.int (0 : Int32)) := B9.other W9 (Ne.symm n_ai_al)
  have K9 := K0.wr W9 (Or.inl (List.mem_of_getElem? (i := 1) rfl))
  have Z9 : n0 ≤ h9.size := Nat.le_trans Z0 (Keep.of_wr W9).1
  have V9 : Arv Z h9 ai ki .int (1 : Int32) [(.int (1 : Int32))] (.int (0 : Int32)) := Arv.set Ar9 q9 S9 G9 H9 J9 rfl W9 0 rfl (Nat.le_of_ble_eq_true rfl)
  have N9 := Fr.snoc X9 N0 g_ai
  have st20 : Steps p.tables e below (T9.setTop (mkF m 126 #[.val (.ref x0), .val (.int (1 : Int32)), .val (.int (1 : Int32)), .val (.int (0 : Int32)), .val (.int (0 : Int32)), .unset, .unset] [])) (T9.setTop (mkF m 127 #[.val (.ref x0), .val (.int (1 : Int32)), .val (.int (1 : Int32)), .val (.int (0 : Int32)), .val (.int (0 : Int32)), .unset, .unset] [(.ref x0)])) := by
    refine XS.aloadN X9.here hx rfl (hb hby d6_126) rfl rfl ?_
    show Steps p.tables e below (T9.setTop (mkF m 127 #[.val (.ref x0), .val (.int (1 : Int32)), .val (.int (1 : Int32)), .val (.int (0 : Int32)), .val (.int (0 : Int32)), .unset, .unset] [(.ref x0)])) _
    exact Steps.refl _
  have pre20 := pre9.trans st20
  obtain ⟨T21, X21, e21, st21⟩ := getF X9 hx hZ hown (host := "") (Or.inl (hw _ (List.mem_of_getElem? (i := 19) rfl))) Via.refl e9 F16 (g := (mkF m 127 #[.val (.ref x0), .val (.int (1 : Int32)), .val (.int (1 : Int32)), .val (.int (0 : Int32)), .val (.int (0 : Int32)), .unset, .unset] [(.ref x0)])) rfl rfl (hb hby d6_127)
  have pre21 : Steps p.tables e below (s₁.setTop (entryFrame m #[(.ref x0), (.int (1 : Int32)), (.int (1 : Int32))] 7)) (T21.setTop (mkF m 130 #[.val (.ref x0), .val (.int (1 : Int32)), .val (.int (1 : Int32)), .val (.int (0 : Int32)), .val (.int (0 : Int32)), .unset, .unset] [(.ref al)])) := pre20.trans (st21 _ (Steps.refl _))
  have st22 : Steps p.tables e below (T21.setTop (mkF m 130 #[.val (.ref x0), .val (.int (1 : Int32)), .val (.int (1 : Int32)), .val (.int (0 : Int32)), .val (.int (0 : Int32)), .unset, .unset] [(.ref al)])) (T21.setTop (mkF m 132 #[.val (.ref x0), .val (.int (1 : Int32)), .val (.int (1 : Int32)), .val (.int (0 : Int32)), .val (.int (0 : Int32)), .unset, .unset] [(.int (1 : Int32)), (.int (0 : Int32)), (.ref al)])) := by
    refine XS.iloadN X21.here hx rfl (hb hby d6_130) rfl ?_
    show Steps p.tables e below (T21.setTop (mkF m 131 #[.val (.ref x0), .val (.int (1 : Int32)), .val (.int (1 : Int32)), .val (.int (0 : Int32)), .val (.int (0 : Int32)), .unset, .unset] [(.int (0 : Int32)), (.ref al)])) _
    refine XS.iloadN X21.here hx rfl (hb hby d6_131) rfl ?_
    show Steps p.tables e below (T21.setTop (mkF m 132 #[.val (.ref x0), .val (.int (1 : Int32)), .val (.int (1 : Int32)), .val (.int (0 : Int32)), .val (.int (0 : Int32)), .unset, .unset] [(.int (1 : Int32)), (.int (0 : Int32)), (.ref al)])) _
    exact Steps.refl _
  have pre22 := pre21.trans st22
  obtain ⟨cl23, Ar23, q23, S23, G23, H23, J23⟩ := id F19
  have in23 : ¬ ((0 : Int32) < 0 ∨ cl23.slots.size ≤ ((0 : Int32)).toNatClampNeg) := inb_of S23 ⟨by decide, by decide⟩
  obtain ⟨T23, h23, X23, e23, W23, st23⟩ := stI X21 hx hZ e21 Ar23 (j := (0 : Int32)) in23 (g := (mkF m 132 #[.val (.ref x0), .val (.int (1 : Int32)), .val (.int (1 : Int32)), .val (.int (0 : Int32)), .val (.int (0 : Int32)), .unset, .unset] [(.int (1 : Int32)), (.int (0 : Int32)), (.ref al)])) rfl rfl (hb hby d6_132)
  have pre23 : Steps p.tables e below (s₁.setTop (entryFrame m #[(.ref x0), (.int (1 : Int32)), (.int (1 : Int32))] 7)) (T23.setTop (mkF m 133 #[.val (.ref x0), .val (.int (1 : Int32)), .val (.int (1 : Int32)), .val (.int (0 : Int32)), .val (.int (0 : Int32)), .unset, .unset] [])) := pre22.trans (st23 _ (Steps.refl _))
  have F24 : Exa Z h23 x0 "com/example/portia/portia/index/Postings" := F10.wr W23
  have F25 : Fld Z h23 x0 "com/example/portia/portia/index/Postings" "ordinals" "[I" q0 := F11.other W23 (Or.inl n_x0_al)
  have F26 : Fld Z h23 x0 "com/example/portia/portia/index/Postings" "frequencies" "[I" q1 := F12.other W23 (Or.inl n_x0_al)
  have F27 : Fld Z h23 x0 "com/example/portia/portia/index/Postings" "size" "I" q2 := F13.other W23 (Or.inl n_x0_al)
  have F28 : Fld Z h23 x0 "com/example/portia/portia/index/Postings" "documentFrequency" "I" q3 := F14.other W23 (Or.inl n_x0_al)
  have F29 : Fld Z h23 x0 "com/example/portia/portia/index/Postings" "impactFrequencies" "[I" (.ref ai) := F15.other W23 (Or.inl n_x0_al)
  have F30 : Fld Z h23 x0 "com/example/portia/portia/index/Postings" "impactLengths" "[I" (.ref al) := F16.other W23 (Or.inl n_x0_al)
  have F31 : Fld Z h23 x0 "com/example/portia/portia/index/Postings" "impactCount" "I" (.int (0 : Int32)) := F17.other W23 (Or.inl n_x0_al)
  have F33 : Arv Z h23 ai ki .int (1 : Int32) [(.int (1 : Int32))] (.int (0 : Int32)) := V9.other W23 n_ai_al
  have K23 := K9.wr W23 (Or.inl (List.mem_of_getElem? (i := 2) rfl))
  have Z23 : n0 ≤ h23.size := Nat.le_trans Z9 (Keep.of_wr W23).1
  have V23 : Arv Z h23 al kl .int (1 : Int32) [(.int (1 : Int32))] (.int (0 : Int32)) := Arv.set Ar23 q23 S23 G23 H23 J23 rfl W23 0 rfl (Nat.le_of_ble_eq_true rfl)
  have N23 := Fr.snoc X23 N9 g_al
  have st34 : Steps p.tables e below (T23.setTop (mkF m 133 #[.val (.ref x0), .val (.int (1 : Int32)), .val (.int (1 : Int32)), .val (.int (0 : Int32)), .val (.int (0 : Int32)), .unset, .unset] [])) (T23.setTop (mkF m 137 #[.val (.ref x0), .val (.int (1 : Int32)), .val (.int (1 : Int32)), .val (.int (0 : Int32)), .val (.int (0 : Int32)), .unset, .unset] [(.int (1 : Int32)), (.ref x0)])) := by
    refine XS.aloadN X23.here hx rfl (hb hby d6_133) rfl rfl ?_
    show Steps p.tables e below (T23.setTop (mkF m 134 #[.val (.ref x0), .val (.int (1 : Int32)), .val (.int (1 : Int32)), .val (.int (0 : Int32)), .val (.int (0 : Int32)), .unset, .unset] [(.ref x0)])) _
    refine XS.iloadN X23.here hx rfl (hb hby d6_134) rfl ?_
    show Steps p.tables e below (T23.setTop (mkF m 135 #[.val (.ref x0), .val (.int (1 : Int32)), .val (.int (1 : Int32)), .val (.int (0 : Int32)), .val (.int (0 : Int32)), .unset, .unset] [(.int (0 : Int32)), (.ref x0)])) _
    refine XS.iconst X23.here hx rfl (hb hby d6_135) ?_
    show Steps p.tables e below (T23.setTop (mkF m 136 #[.val (.ref x0), .val (.int (1 : Int32)), .val (.int (1 : Int32)), .val (.int (0 : Int32)), .val (.int (0 : Int32)), .unset, .unset] [(.int (1 : Int32)), (.int (0 : Int32)), (.ref x0)])) _
    refine XS.iadd X23.here hx rfl (hb hby d6_136) rfl ?_
    show Steps p.tables e below (T23.setTop (mkF m 137 #[.val (.ref x0), .val (.int (1 : Int32)), .val (.int (1 : Int32)), .val (.int (0 : Int32)), .val (.int (0 : Int32)), .unset, .unset] [(.int (1 : Int32)), (.ref x0)])) _
    exact Steps.refl _
  have pre34 := pre23.trans st34
  obtain ⟨T35, h35, X35, e35, W35, st35⟩ := putF X23 hx hZ hown (host := "") (Or.inl (hw _ (List.mem_of_getElem? (i := 39) rfl))) Via.refl e23 F31 F24 (Or.inl (hw _ (List.mem_of_getElem? (i := 40) rfl))) (hw _ (List.mem_of_getElem? (i := 5) rfl)) (ty := .int) (by decide) rfl rfl (g := (mkF m 137 #[.val (.ref x0), .val (.int (1 : Int32)), .val (.int (1 : Int32)), .val (.int (0 : Int32)), .val (.int (0 : Int32)), .unset, .unset] [(.int (1 : Int32)), (.ref x0)])) rfl rfl (hb hby d6_137)
  have pre35 : Steps p.tables e below (s₁.setTop (entryFrame m #[(.ref x0), (.int (1 : Int32)), (.int (1 : Int32))] 7)) (T35.setTop (mkF m 140 #[.val (.ref x0), .val (.int (1 : Int32)), .val (.int (1 : Int32)), .val (.int (0 : Int32)), .val (.int (0 : Int32)), .unset, .unset] [])) := pre34.trans (st35 _ (Steps.refl _))
  have F36 : Exa Z h35 x0 "com/example/portia/portia/index/Postings" := F24.wr W35
  have F37 : Fld Z h35 x0 "com/example/portia/portia/index/Postings" "ordinals" "[I" q0 := F25.other W35 (Or.inr (slot_ne (Or.inl (hw _ (List.mem_of_getElem? (i := 14) rfl))) (Or.inl (hw _ (List.mem_of_getElem? (i := 40) rfl))) (by decide) (t := (.array .int)) (t' := .int) (by decide) (by decide)))
  have F38 : Fld Z h35 x0 "com/example/portia/portia/index/Postings" "frequencies" "[I" q1 := F26.other W35 (Or.inr (slot_ne (Or.inl (hw _ (List.mem_of_getElem? (i := 16) rfl))) (Or.inl (hw _ (List.mem_of_getElem? (i := 40) rfl))) (by decide) (t := (.array .int)) (t' := .int) (by decide) (by decide)))
  have F39 : Fld Z h35 x0 "com/example/portia/portia/index/Postings" "size" "I" q2 := F27.other W35 (Or.inr (slot_ne (Or.inl (hw _ (List.mem_of_getElem? (i := 27) rfl))) (Or.inl (hw _ (List.mem_of_getElem? (i := 40) rfl))) (by decide) (t := .int) (t' := .int) (by decide) (by decide)))
  have F40 : Fld Z h35 x0 "com/example/portia/portia/index/Postings" "documentFrequency" "I" q3 := F28.other W35 (Or.inr (slot_ne (Or.inl (hw _ (List.mem_of_getElem? (i := 34) rfl))) (Or.inl (hw _ (List.mem_of_getElem? (i := 40) rfl))) (by decide) (t := .int) (t' := .int) (by decide) (by decide)))
  have F41 : Fld Z h35 x0 "com/example/portia/portia/index/Postings" "impactFrequencies" "[I" (.ref ai) := F29.other W35 (Or.inr (slot_ne (Or.inl (hw _ (List.mem_of_getElem? (i := 18) rfl))) (Or.inl (hw _ (List.mem_of_getElem? (i := 40) rfl))) (by decide) (t := (.array .int)) (t' := .int) (by decide) (by decide)))
  have F42 : Fld Z h35 x0 "com/example/portia/portia/index/Postings" "impactLengths" "[I" (.ref al) := F30.other W35 (Or.inr (slot_ne (Or.inl (hw _ (List.mem_of_getElem? (i := 20) rfl))) (Or.inl (hw _ (List.mem_of_getElem? (i := 40) rfl))) (by decide) (t := (.array .int)) (t' := .int) (by decide) (by decide)))
  have F44 : Arv Z h35 ai ki .int (1 : Int32) [(.int (1 : Int32))] (.int (0 : Int32)) := F33.other W35 (Ne.symm n_x0_ai)
  have F45 : Arv Z h35 al kl .int (1 : Int32) [(.int (1 : Int32))] (.int (0 : Int32)) := V23.other W35 (Ne.symm n_x0_al)
  have K35 := K23.wr W35 (Or.inl (List.mem_of_getElem? (i := 0) rfl))
  have Z35 : n0 ≤ h35.size := Nat.le_trans Z23 (Keep.of_wr W35).1
  have Fw35 : Fld Z h35 x0 "com/example/portia/portia/index/Postings" "impactCount" "I" (.int (1 : Int32)) := F31.same W35
  have N35 := Fr.snoc X35 N23 g_x0
  obtain ⟨fs, hr, hrun, hended, hW, hsame⟩ := X35.leave (v := none) (fun _ => rfl)
  refine ⟨_, _, pre35.trans ?_, hrun, hended, _, _, rfl, ?_, ⟨_, rfl⟩, hW, hsame.mono (by decide) (by decide)⟩
  · show Steps p.tables e below (T35.setTop (mkF m 140 #[.val (.ref x0), .val (.int (1 : Int32)), .val (.int (1 : Int32)), .val (.int (0 : Int32)), .val (.int (0 : Int32)), .unset, .unset] [])) _
    exact X35.returnOut hx Bd.returns (hb hby d6_140) hr
  · show Q6 Z x0 ai ki al kl q0 q1 q2 q3 h0 n0 _ T35.heap _
    rw [e35]
    exact ⟨rfl, N35, K35, F36, F37, F38, F39, F40, F41, F42, Fw35, F44, F45⟩
theorem d7_0 : decode prog_19_method_11_code 0 = .ok (.iconst 0, 1) := by decide +kernel
theorem d7_1 : decode prog_19_method_11_code 1 = .ok (.istore_n 3, 1) := by decide +kernel
theorem d7_2 : decode prog_19_method_11_code 2 = .ok (.iconst 0, 1) := by decide +kernel
theorem d7_3 : decode prog_19_method_11_code 3 = .ok (.istore 4, 2) := by decide +kernel
theorem d7_5 : decode prog_19_method_11_code 5 = .ok (.iload 4, 2) := by decide +kernel
theorem d7_7 : decode prog_19_method_11_code 7 = .ok (.aload_n 0, 1) := by decide +kernel
theorem d7_8 : decode prog_19_method_11_code 8 = .ok (.getfield 29, 3) := by decide +kernel
theorem d7_11 : decode prog_19_method_11_code 11 = .ok (.if_icmp .ge 71, 3) := by decide +kernel
theorem d7_14 : decode prog_19_method_11_code 14 = .ok (.aload_n 0, 1) := by decide +kernel
theorem d7_15 : decode prog_19_method_11_code 15 = .ok (.getfield 16, 3) := by decide +kernel
theorem d7_18 : decode prog_19_method_11_code 18 = .ok (.iload 4, 2) := by decide +kernel
theorem d7_20 : decode prog_19_method_11_code 20 = .ok (.iaload, 1) := by decide +kernel
theorem d7_21 : decode prog_19_method_11_code 21 = .ok (.istore 5, 2) := by decide +kernel
theorem d7_23 : decode prog_19_method_11_code 23 = .ok (.aload_n 0, 1) := by decide +kernel
theorem d7_24 : decode prog_19_method_11_code 24 = .ok (.getfield 19, 3) := by decide +kernel
theorem d7_27 : decode prog_19_method_11_code 27 = .ok (.iload 4, 2) := by decide +kernel
theorem d7_29 : decode prog_19_method_11_code 29 = .ok (.iaload, 1) := by decide +kernel
theorem d7_30 : decode prog_19_method_11_code 30 = .ok (.istore 6, 2) := by decide +kernel
theorem d7_32 : decode prog_19_method_11_code 32 = .ok (.iload 5, 2) := by decide +kernel
theorem d7_34 : decode prog_19_method_11_code 34 = .ok (.iload_n 1, 1) := by decide +kernel
theorem d7_35 : decode prog_19_method_11_code 35 = .ok (.if_icmp .lt 10, 3) := by decide +kernel
theorem d7_38 : decode prog_19_method_11_code 38 = .ok (.iload 6, 2) := by decide +kernel
theorem d7_40 : decode prog_19_method_11_code 40 = .ok (.iload_n 2, 1) := by decide +kernel
theorem d7_41 : decode prog_19_method_11_code 41 = .ok (.if_icmp .gt 4, 3) := by decide +kernel
theorem d7_44 : decode prog_19_method_11_code 44 = .ok (.return_, 1) := by decide +kernel
theorem pn7 : plainName "com/example/portia/portia/index/Postings" = true := by first | (simp [plainName, overriddenIn]; done) | decide +kernel
theorem ef7 (m : MethodId) (x0 : Addr) : entryFrame m #[(.ref x0), (.int (1 : Int32)), (.int (1 : Int32))] 7 = mkF m 0 #[.val (.ref x0), .val (.int (1 : Int32)), .val (.int (1 : Int32)), .unset, .unset, .unset, .unset] [] := by first | (simp [entryFrame, mkF, argsToLocals, Value.category]; done) | rfl
def Q7 (Z : State) (x0 : Addr) (ai : Addr) (ki : ClassId) (al : Addr) (kl : ClassId) (h0 : Heap) (n0 : Nat) (v : Option Value) (h : Heap) (L : List Loc) : Prop := v = none ∧ Fr n0 L ∧ h = h0
set_option maxRecDepth 65536 in
set_option maxHeartbeats 40000000 in
theorem rm7 (l : Launch) (Z : State) (a0 : Array Value) (hw : ∀ d ∈ tables_1, d.before a0 Z = true) (ws : List Jvm.Cond) (x0 : Addr) (ai : Addr) (ki : ClassId) (al : Addr) (kl : ClassId) (h0 : Heap) (n0 : Nat) (Z0 : n0 ≤ h0.size) (B0 : Fld Z h0 x0 "com/example/portia/portia/index/Postings" "impactFrequencies" "[I" (.ref ai)) (B1 : Fld Z h0 x0 "com/example/portia/portia/index/Postings" "impactLengths" "[I" (.ref al)) (B2 : Fld Z h0 x0 "com/example/portia/portia/index/Postings" "impactCount" "I" (.int (1 : Int32))) (B3 : Arv Z h0 ai ki .int (1 : Int32) [(.int (1 : Int32))] (.int (0 : Int32))) (B4 : Arv Z h0 al kl .int (1 : Int32) [(.int (1 : Int32))] (.int (0 : Int32))) :
    MetFree l (⟨"com/example/portia/portia/index/Postings", "addImpact", "(II)V"⟩ : MethodName) (head1 (Jvm.Cond.code (⟨"com/example/portia/portia/index/Postings", "addImpact", "(II)V"⟩ : MethodName) prog_19_method_11_code 7 none :: ws) ({ frames := 0, cells := 0, slots := 0, locals := 0 } : Room)) (fun a U => a = #[(.ref x0), (.int (1 : Int32)), (.int (1 : Int32))] ∧ Z.Warmed39 U.vm ∧ U.heap = h0) (fun _ _ _ _ _ => True) (fun _ U o U' => ∃ v L, o = .returned v ∧ Q7 Z x0 ai ki al kl h0 n0 v U'.heap L ∧ FrameEnd U o U' L ({ frames := 0, cells := 0, slots := 0, locals := 0 } : Room).cells ({ frames := 0, cells := 0, slots := 0, locals := 0 } : Room).slots) := by
  refine MetFree.of_bodySF (plainFor_of_name pn7) hisR ?_
  intro p e s m args below meth c s₁ Bd hml0 hP hK
  obtain ⟨rfl, hZ, hh⟩ := hP
  have hx := Bd.exec
  have hby := Bd.bytes
  have hml : c.maxLocals = 7 := hml0
  have hown : s.vm.findClass "com/example/portia/portia/index/Postings" = some m.cls := findClass_of_methodNamed Bd.named
  have hnm := (name_of_methodNamed Bd.named Bd.method).1
  have X0 : Stand p l e ({ frames := 0, cells := 0, slots := 0, locals := 0 } : Room) s m #[(.ref x0), (.int (1 : Int32)), (.int (1 : Int32))] below meth c s₁ [] 0 0 := Stand.of_body Bd
  have e0 : s₁.heap = h0 := by rw [← hh, Bd.state]; rfl
  have N0 := Fr.nil n0
  have pre0 : Steps p.tables e below (s₁.setTop (entryFrame m #[(.ref x0), (.int (1 : Int32)), (.int (1 : Int32))] 7)) (s₁.setTop (mkF m 0 #[.val (.ref x0), .val (.int (1 : Int32)), .val (.int (1 : Int32)), .unset, .unset, .unset, .unset] [])) := castTop (ef7 m x0) (Steps.refl _)
  have st1 : Steps p.tables e below (s₁.setTop (mkF m 0 #[.val (.ref x0), .val (.int (1 : Int32)), .val (.int (1 : Int32)), .unset, .unset, .unset, .unset] [])) (s₁.setTop (mkF m 8 #[.val (.ref x0), .val (.int (1 : Int32)), .val (.int (1 : Int32)), .val (.int (0 : Int32)), .val (.int (0 : Int32)), .unset, .unset] [(.ref x0), (.int (0 : Int32))])) := by
    refine XS.iconst X0.here hx rfl (hb hby d7_0) ?_
    show Steps p.tables e below (s₁.setTop (mkF m 1 #[.val (.ref x0), .val (.int (1 : Int32)), .val (.int (1 : Int32)), .unset, .unset, .unset, .unset] [(.int (0 : Int32))])) _
    refine XS.istoreN X0.here hx rfl (hb hby d7_1) rfl (l' := #[.val (.ref x0), .val (.int (1 : Int32)), .val (.int (1 : Int32)), .val (.int (0 : Int32)), .unset, .unset, .unset]) rfl ?_
    show Steps p.tables e below (s₁.setTop (mkF m 2 #[.val (.ref x0), .val (.int (1 : Int32)), .val (.int (1 : Int32)), .val (.int (0 : Int32)), .unset, .unset, .unset] [])) _
    refine XS.iconst X0.here hx rfl (hb hby d7_2) ?_
    show Steps p.tables e below (s₁.setTop (mkF m 3 #[.val (.ref x0), .val (.int (1 : Int32)), .val (.int (1 : Int32)), .val (.int (0 : Int32)), .unset, .unset, .unset] [(.int (0 : Int32))])) _
    refine XS.istore X0.here hx rfl (hb hby d7_3) rfl (l' := #[.val (.ref x0), .val (.int (1 : Int32)), .val (.int (1 : Int32)), .val (.int (0 : Int32)), .val (.int (0 : Int32)), .unset, .unset]) rfl ?_
    show Steps p.tables e below (s₁.setTop (mkF m 5 #[.val (.ref x0), .val (.int (1 : Int32)), .val (.int (1 : Int32)), .val (.int (0 : Int32)), .val (.int (0 : Int32)), .unset, .unset] [])) _
    refine XS.iload X0.here hx rfl (hb hby d7_5) rfl ?_
    show Steps p.tables e below (s₁.setTop (mkF m 7 #[.val (.ref x0), .val (.int (1 : Int32)), .val (.int (1 : Int32)), .val (.int (0 : Int32)), .val (.int (0 : Int32)), .unset, .unset] [(.int (0 : Int32))])) _
    refine XS.aloadN X0.here hx rfl (hb hby d7_7) rfl rfl ?_
    show Steps p.tables e below (s₁.setTop (mkF m 8 #[.val (.ref x0), .val (.int (1 : Int32)), .val (.int (1 : Int32)), .val (.int (0 : Int32)), .val (.int (0 : Int32)), .unset, .unset] [(.ref x0), (.int (0 : Int32))])) _
    exact Steps.refl _
  have pre1 := pre0.trans st1
  obtain ⟨T2, X2, e2, st2⟩ := getF X0 hx hZ hown (host := "") (Or.inl (hw _ (List.mem_of_getElem? (i := 39) rfl))) Via.refl e0 B2 (g := (mkF m 8 #[.val (.ref x0), .val (.int (1 : Int32)), .val (.int (1 : Int32)), .val (.int (0 : Int32)), .val (.int (0 : Int32)), .unset, .unset] [(.ref x0), (.int (0 : Int32))])) rfl rfl (hb hby d7_8)
  have pre2 : Steps p.tables e below (s₁.setTop (entryFrame m #[(.ref x0), (.int (1 : Int32)), (.int (1 : Int32))] 7)) (T2.setTop (mkF m 11 #[.val (.ref x0), .val (.int (1 : Int32)), .val (.int (1 : Int32)), .val (.int (0 : Int32)), .val (.int (0 : Int32)), .unset, .unset] [(.int (1 : Int32)), (.int (0 : Int32))])) := pre1.trans (st2 _ (Steps.refl _))
  have st3 : Steps p.tables e below (T2.setTop (mkF m 11 #[.val (.ref x0), .val (.int (1 : Int32)), .val (.int (1 : Int32)), .val (.int (0 : Int32)), .val (.int (0 : Int32)), .unset, .unset] [(.int (1 : Int32)), (.int (0 : Int32))])) (T2.setTop (mkF m 15 #[.val (.ref x0), .val (.int (1 : Int32)), .val (.int (1 : Int32)), .val (.int (0 : Int32)), .val (.int (0 : Int32)), .unset, .unset] [(.ref x0)])) := by
    refine XS.icmpNo X2.here hx rfl (hb hby d7_11) rfl (tlt (by decide : ((0 : Int32) < (1 : Int32)))).2.1 ?_
    show Steps p.tables e below (T2.setTop (mkF m 14 #[.val (.ref x0), .val (.int (1 : Int32)), .val (.int (1 : Int32)), .val (.int (0 : Int32)), .val (.int (0 : Int32)), .unset, .unset] [])) _
    refine XS.aloadN X2.here hx rfl (hb hby d7_14) rfl rfl ?_
    show Steps p.tables e below (T2.setTop (mkF m 15 #[.val (.ref x0), .val (.int (1 : Int32)), .val (.int (1 : Int32)), .val (.int (0 : Int32)), .val (.int (0 : Int32)), .unset, .unset] [(.ref x0)])) _
    exact Steps.refl _
  have pre3 := pre2.trans st3
  obtain ⟨T4, X4, e4, st4⟩ := getF X2 hx hZ hown (host := "") (Or.inl (hw _ (List.mem_of_getElem? (i := 17) rfl))) Via.refl e2 B0 (g := (mkF m 15 #[.val (.ref x0), .val (.int (1 : Int32)), .val (.int (1 : Int32)), .val (.int (0 : Int32)), .val (.int (0 : Int32)), .unset, .unset] [(.ref x0)])) rfl rfl (hb hby d7_15)
  have pre4 : Steps p.tables e below (s₁.setTop (entryFrame m #[(.ref x0), (.int (1 : Int32)), (.int (1 : Int32))] 7)) (T4.setTop (mkF m 18 #[.val (.ref x0), .val (.int (1 : Int32)), .val (.int (1 : Int32)), .val (.int (0 : Int32)), .val (.int (0 : Int32)), .unset, .unset] [(.ref ai)])) := pre3.trans (st4 _ (Steps.refl _))
  have st5 : Steps p.tables e below (T4.setTop (mkF m 18 #[.val (.ref x0), .val (.int (1 : Int32)), .val (.int (1 : Int32)), .val (.int (0 : Int32)), .val (.int (0 : Int32)), .unset, .unset] [(.ref ai)])) (T4.setTop (mkF m 20 #[.val (.ref x0), .val (.int (1 : Int32)), .val (.int (1 : Int32)), .val (.int (0 : Int32)), .val (.int (0 : Int32)), .unset, .unset] [(.int (0 : Int32)), (.ref ai)])) := by
    refine XS.iload X4.here hx rfl (hb hby d7_18) rfl ?_
    show Steps p.tables e below (T4.setTop (mkF m 20 #[.val (.ref x0), .val (.int (1 : Int32)), .val (.int (1 : Int32)), .val (.int (0 : Int32)), .val (.int (0 : Int32)), .unset, .unset] [(.int (0 : Int32)), (.ref ai)])) _
    exact Steps.refl _
  have pre5 := pre4.trans st5
  obtain ⟨cl6, Ar6, q6, S6, G6, H6, J6⟩ := id B3
  have in6 : ¬ ((0 : Int32) < 0 ∨ cl6.slots.size ≤ ((0 : Int32)).toNatClampNeg) := inb_of S6 ⟨by decide, by decide⟩
  have at6 : cl6.slots[((0 : Int32)).toNatClampNeg]? = some (.int (1 : Int32)) := Has.at H6 in6 rfl
  have st6 : Steps p.tables e below (T4.setTop (mkF m 20 #[.val (.ref x0), .val (.int (1 : Int32)), .val (.int (1 : Int32)), .val (.int (0 : Int32)), .val (.int (0 : Int32)), .unset, .unset] [(.int (0 : Int32)), (.ref ai)])) (T4.setTop (mkF m 21 #[.val (.ref x0), .val (.int (1 : Int32)), .val (.int (1 : Int32)), .val (.int (0 : Int32)), .val (.int (0 : Int32)), .unset, .unset] [(.int (1 : Int32))])) := X4.iaload hx (j := (0 : Int32)) (v := (.int (1 : Int32))) (by rw [e4]; exact Ar6.1) (State.isArrayOf_alike hZ.alike Ar6.2.1) Ar6.2.2 in6 at6 (g := (mkF m 20 #[.val (.ref x0), .val (.int (1 : Int32)), .val (.int (1 : Int32)), .val (.int (0 : Int32)), .val (.int (0 : Int32)), .unset, .unset] [(.int (0 : Int32)), (.ref ai)])) rfl rfl (hb hby d7_20) _ (Steps.refl _)
  have pre6 := pre5.trans st6
  have st7 : Steps p.tables e below (T4.setTop (mkF m 21 #[.val (.ref x0), .val (.int (1 : Int32)), .val (.int (1 : Int32)), .val (.int (0 : Int32)), .val (.int (0 : Int32)), .unset, .unset] [(.int (1 : Int32))])) (T4.setTop (mkF m 24 #[.val (.ref x0), .val (.int (1 : Int32)), .val (.int (1 : Int32)), .val (.int (0 : Int32)), .val (.int (0 : Int32)), .val (.int (1 : Int32)), .unset] [(.ref x0)])) := by
    refine XS.istore X4.here hx rfl (hb hby d7_21) rfl (l' := #[.val (.ref x0), .val (.int (1 : Int32)), .val (.int (1 : Int32)), .val (.int (0 : Int32)), .val (.int (0 : Int32)), .val (.int (1 : Int32)), .unset]) rfl ?_
    show Steps p.tables e below (T4.setTop (mkF m 23 #[.val (.ref x0), .val (.int (1 : Int32)), .val (.int (1 : Int32)), .val (.int (0 : Int32)), .val (.int (0 : Int32)), .val (.int (1 : Int32)), .unset] [])) _
    refine XS.aloadN X4.here hx rfl (hb hby d7_23) rfl rfl ?_
    show Steps p.tables e below (T4.setTop (mkF m 24 #[.val (.ref x0), .val (.int (1 : Int32)), .val (.int (1 : Int32)), .val (.int (0 : Int32)), .val (.int (0 : Int32)), .val (.int (1 : Int32)), .unset] [(.ref x0)])) _
    exact Steps.refl _
  have pre7 := pre6.trans st7
  obtain ⟨T8, X8, e8, st8⟩ := getF X4 hx hZ hown (host := "") (Or.inl (hw _ (List.mem_of_getElem? (i := 19) rfl))) Via.refl e4 B1 (g := (mkF m 24 #[.val (.ref x0), .val (.int (1 : Int32)), .val (.int (1 : Int32)), .val (.int (0 : Int32)), .val (.int (0 : Int32)), .val (.int (1 : Int32)), .unset] [(.ref x0)])) rfl rfl (hb hby d7_24)
  have pre8 : Steps p.tables e below (s₁.setTop (entryFrame m #[(.ref x0), (.int (1 : Int32)), (.int (1 : Int32))] 7)) (T8.setTop (mkF m 27 #[.val (.ref x0), .val (.int (1 : Int32)), .val (.int (1 : Int32)), .val (.int (0 : Int32)), .val (.int (0 : Int32)), .val (.int (1 : Int32)), .unset] [(.ref al)])) := pre7.trans (st8 _ (Steps.refl _))
  have st9 : Steps p.tables e below (T8.setTop (mkF m 27 #[.val (.ref x0), .val (.int (1 : Int32)), .val (.int (1 : Int32)), .val (.int (0 : Int32)), .val (.int (0 : Int32)), .val (.int (1 : Int32)), .unset] [(.ref al)])) (T8.setTop (mkF m 29 #[.val (.ref x0), .val (.int (1 : Int32)), .val (.int (1 : Int32)), .val (.int (0 : Int32)), .val (.int (0 : Int32)), .val (.int (1 : Int32)), .unset] [(.int (0 : Int32)), (.ref al)])) := by
    refine XS.iload X8.here hx rfl (hb hby d7_27) rfl ?_
    show Steps p.tables e below (T8.setTop (mkF m 29 #[.val (.ref x0), .val (.int (1 : Int32)), .val (.int (1 : Int32)), .val (.int (0 : Int32)), .val (.int (0 : Int32)), .val (.int (1 : Int32)), .unset] [(.int (0 : Int32)), (.ref al)])) _
    exact Steps.refl _
  have pre9 := pre8.trans st9
  obtain ⟨cl10, Ar10, q10, S10, G10, H10, J10⟩ := id B4
  have in10 : ¬ ((0 : Int32) < 0 ∨ cl10.slots.size ≤ ((0 : Int32)).toNatClampNeg) := inb_of S10 ⟨by decide, by decide⟩
  have at10 : cl10.slots[((0 : Int32)).toNatClampNeg]? = some (.int (1 : Int32)) := Has.at H10 in10 rfl
  have st10 : Steps p.tables e below (T8.setTop (mkF m 29 #[.val (.ref x0), .val (.int (1 : Int32)), .val (.int (1 : Int32)), .val (.int (0 : Int32)), .val (.int (0 : Int32)), .val (.int (1 : Int32)), .unset] [(.int (0 : Int32)), (.ref al)])) (T8.setTop (mkF m 30 #[.val (.ref x0), .val (.int (1 : Int32)), .val (.int (1 : Int32)), .val (.int (0 : Int32)), .val (.int (0 : Int32)), .val (.int (1 : Int32)), .unset] [(.int (1 : Int32))])) := X8.iaload hx (j := (0 : Int32)) (v := (.int (1 : Int32))) (by rw [e8]; exact Ar10.1) (State.isArrayOf_alike hZ.alike Ar10.2.1) Ar10.2.2 in10 at10 (g := (mkF m 29 #[.val (.ref x0), .val (.int (1 : Int32)), .val (.int (1 : Int32)), .val (.int (0 : Int32)), .val (.int (0 : Int32)), .val (.int (1 : Int32)), .unset] [(.int (0 : Int32)), (.ref al)])) rfl rfl (hb hby d7_29) _ (Steps.refl _)
  have pre10 := pre9.trans st10
  have st11 : Steps p.tables e below (T8.setTop (mkF m 30 #[.val (.ref x0), .val (.int (1 : Int32)), .val (.int (1 : Int32)), .val (.int (0 : Int32)), .val (.int (0 : Int32)), .val (.int (1 : Int32)), .unset] [(.int (1 : Int32))])) (T8.setTop (mkF m 44 #[.val (.ref x0), .val (.int (1 : Int32)), .val (.int (1 : Int32)), .val (.int (0 : Int32)), .val (.int (0 : Int32)), .val (.int (1 : Int32)), .val (.int (1 : Int32))] [])) := by
    refine XS.istore X8.here hx rfl (hb hby d7_30) rfl (l' := #[.val (.ref x0), .val (.int (1 : Int32)), .val (.int (1 : Int32)), .val (.int (0 : Int32)), .val (.int (0 : Int32)), .val (.int (1 : Int32)), .val (.int (1 : Int32))]) rfl ?_
    show Steps p.tables e below (T8.setTop (mkF m 32 #[.val (.ref x0), .val (.int (1 : Int32)), .val (.int (1 : Int32)), .val (.int (0 : Int32)), .val (.int (0 : Int32)), .val (.int (1 : Int32)), .val (.int (1 : Int32))] [])) _
    refine XS.iload X8.here hx rfl (hb hby d7_32) rfl ?_
    show Steps p.tables e below (T8.setTop (mkF m 34 #[.val (.ref x0), .val (.int (1 : Int32)), .val (.int (1 : Int32)), .val (.int (0 : Int32)), .val (.int (0 : Int32)), .val (.int (1 : Int32)), .val (.int (1 : Int32))] [(.int (1 : Int32))])) _
    refine XS.iloadN X8.here hx rfl (hb hby d7_34) rfl ?_
    show Steps p.tables e below (T8.setTop (mkF m 35 #[.val (.ref x0), .val (.int (1 : Int32)), .val (.int (1 : Int32)), .val (.int (0 : Int32)), .val (.int (0 : Int32)), .val (.int (1 : Int32)), .val (.int (1 : Int32))] [(.int (1 : Int32)), (.int (1 : Int32))])) _
    refine XS.icmpNo X8.here hx rfl (hb hby d7_35) rfl (flt (by decide : ¬ ((1 : Int32) < (1 : Int32)))).1 ?_
    show Steps p.tables e below (T8.setTop (mkF m 38 #[.val (.ref x0), .val (.int (1 : Int32)), .val (.int (1 : Int32)), .val (.int (0 : Int32)), .val (.int (0 : Int32)), .val (.int (1 : Int32)), .val (.int (1 : Int32))] [])) _
    refine XS.iload X8.here hx rfl (hb hby d7_38) rfl ?_
    show Steps p.tables e below (T8.setTop (mkF m 40 #[.val (.ref x0), .val (.int (1 : Int32)), .val (.int (1 : Int32)), .val (.int (0 : Int32)), .val (.int (0 : Int32)), .val (.int (1 : Int32)), .val (.int (1 : Int32))] [(.int (1 : Int32))])) _
    refine XS.iloadN X8.here hx rfl (hb hby d7_40) rfl ?_
    show Steps p.tables e below (T8.setTop (mkF m 41 #[.val (.ref x0), .val (.int (1 : Int32)), .val (.int (1 : Int32)), .val (.int (0 : Int32)), .val (.int (0 : Int32)), .val (.int (1 : Int32)), .val (.int (1 : Int32))] [(.int (1 : Int32)), (.int (1 : Int32))])) _
    refine XS.icmpNo X8.here hx rfl (hb hby d7_41) rfl (flt (by decide : ¬ ((1 : Int32) < (1 : Int32)))).2.2.1 ?_
    show Steps p.tables e below (T8.setTop (mkF m 44 #[.val (.ref x0), .val (.int (1 : Int32)), .val (.int (1 : Int32)), .val (.int (0 : Int32)), .val (.int (0 : Int32)), .val (.int (1 : Int32)), .val (.int (1 : Int32))] [])) _
    exact Steps.refl _
  have pre11 := pre10.trans st11
  obtain ⟨fs, hr, hrun, hended, hW, hsame⟩ := X8.leave (v := none) (fun _ => rfl)
  refine ⟨_, _, pre11.trans ?_, hrun, hended, _, _, rfl, ?_, ⟨_, rfl⟩, hW, hsame.mono (by decide) (by decide)⟩
  · show Steps p.tables e below (T8.setTop (mkF m 44 #[.val (.ref x0), .val (.int (1 : Int32)), .val (.int (1 : Int32)), .val (.int (0 : Int32)), .val (.int (0 : Int32)), .val (.int (1 : Int32)), .val (.int (1 : Int32))] [])) _
    exact X8.returnOut hx Bd.returns (hb hby d7_44) hr
  · show Q7 Z x0 ai ki al kl h0 n0 _ T8.heap _
    rw [e8]
    exact ⟨rfl, N0, rfl⟩
theorem d10_0 : decode prog_19_method_10_code 0 = .ok (.aload_n 0, 1) := by decide +kernel
theorem d10_1 : decode prog_19_method_10_code 1 = .ok (.getfield 22, 3) := by decide +kernel
theorem d10_4 : decode prog_19_method_10_code 4 = .ok (.aload_n 0, 1) := by decide +kernel
theorem d10_5 : decode prog_19_method_10_code 5 = .ok (.getfield 7, 3) := by decide +kernel
theorem d10_8 : decode prog_19_method_10_code 8 = .ok (.arraylength, 1) := by decide +kernel
theorem d10_9 : decode prog_19_method_10_code 9 = .ok (.if_icmp .ne 37, 3) := by decide +kernel
theorem d10_46 : decode prog_19_method_10_code 46 = .ok (.aload_n 0, 1) := by decide +kernel
theorem d10_47 : decode prog_19_method_10_code 47 = .ok (.getfield 7, 3) := by decide +kernel
theorem d10_50 : decode prog_19_method_10_code 50 = .ok (.aload_n 0, 1) := by decide +kernel
theorem d10_51 : decode prog_19_method_10_code 51 = .ok (.getfield 22, 3) := by decide +kernel
theorem d10_54 : decode prog_19_method_10_code 54 = .ok (.iload_n 1, 1) := by decide +kernel
theorem d10_55 : decode prog_19_method_10_code 55 = .ok (.iastore, 1) := by decide +kernel
theorem d10_56 : decode prog_19_method_10_code 56 = .ok (.aload_n 0, 1) := by decide +kernel
theorem d10_57 : decode prog_19_method_10_code 57 = .ok (.getfield 13, 3) := by decide +kernel
theorem d10_60 : decode prog_19_method_10_code 60 = .ok (.aload_n 0, 1) := by decide +kernel
theorem d10_61 : decode prog_19_method_10_code 61 = .ok (.getfield 22, 3) := by decide +kernel
theorem d10_64 : decode prog_19_method_10_code 64 = .ok (.iload_n 2, 1) := by decide +kernel
theorem d10_65 : decode prog_19_method_10_code 65 = .ok (.iastore, 1) := by decide +kernel
theorem d10_66 : decode prog_19_method_10_code 66 = .ok (.aload_n 0, 1) := by decide +kernel
theorem d10_67 : decode prog_19_method_10_code 67 = .ok (.dup, 1) := by decide +kernel
theorem d10_68 : decode prog_19_method_10_code 68 = .ok (.getfield 22, 3) := by decide +kernel
theorem d10_71 : decode prog_19_method_10_code 71 = .ok (.iconst 1, 1) := by decide +kernel
theorem d10_72 : decode prog_19_method_10_code 72 = .ok (.iadd, 1) := by decide +kernel
theorem d10_73 : decode prog_19_method_10_code 73 = .ok (.putfield 22, 3) := by decide +kernel
theorem d10_76 : decode prog_19_method_10_code 76 = .ok (.aload_n 0, 1) := by decide +kernel
theorem d10_77 : decode prog_19_method_10_code 77 = .ok (.dup, 1) := by decide +kernel
theorem d10_78 : decode prog_19_method_10_code 78 = .ok (.getfield 26, 3) := by decide +kernel
theorem d10_81 : decode prog_19_method_10_code 81 = .ok (.iconst 1, 1) := by decide +kernel
theorem d10_82 : decode prog_19_method_10_code 82 = .ok (.iadd, 1) := by decide +kernel
theorem d10_83 : decode prog_19_method_10_code 83 = .ok (.putfield 26, 3) := by decide +kernel
theorem d10_86 : decode prog_19_method_10_code 86 = .ok (.aload_n 0, 1) := by decide +kernel
theorem d10_87 : decode prog_19_method_10_code 87 = .ok (.iload_n 2, 1) := by decide +kernel
theorem d10_88 : decode prog_19_method_10_code 88 = .ok (.iload_n 3, 1) := by decide +kernel
theorem d10_89 : decode prog_19_method_10_code 89 = .ok (.invokevirtual 38, 3) := by decide +kernel
theorem d10_92 : decode prog_19_method_10_code 92 = .ok (.return_, 1) := by decide +kernel
theorem pn10 : plainName "com/example/portia/portia/index/Postings" = true := by first | (simp [plainName, overriddenIn]; done) | decide +kernel
theorem pd10_0 : parseMethodDescriptor "(II)V" = some ⟨[.int, .int], none⟩ := by decide +kernel
theorem ef10 (m : MethodId) (x0 : Addr) (x1 : Int32) : entryFrame m #[(.ref x0), (.int x1), (.int (1 : Int32)), (.int (1 : Int32))] 4 = mkF m 0 #[.val (.ref x0), .val (.int x1), .val (.int (1 : Int32)), .val (.int (1 : Int32))] [] := by first | (simp [entryFrame, mkF, argsToLocals, Value.category]; done) | rfl
def Q10 (Z : State) (x0 : Addr) (x1 : Int32) (ao : Addr) (ko : ClassId) (af : Addr) (kf : ClassId) (ai : Addr) (ki : ClassId) (al : Addr) (kl : ClassId) (h0 : Heap) (n0 : Nat) (v : Option Value) (h : Heap) (L : List Loc) : Prop := v = none ∧ Fr n0 L ∧ Keep h0 h [x0, ao, af, ai, al] ∧ Exa Z h x0 "com/example/portia/portia/index/Postings" ∧ Fld Z h x0 "com/example/portia/portia/index/Postings" "ordinals" "[I" (.ref ao) ∧ Fld Z h x0 "com/example/portia/portia/index/Postings" "frequencies" "[I" (.ref af) ∧ Fld Z h x0 "com/example/portia/portia/index/Postings" "size" "I" (.int (1 : Int32)) ∧ Fld Z h x0 "com/example/portia/portia/index/Postings" "documentFrequency" "I" (.int (1 : Int32)) ∧ Fld Z h x0 "com/example/portia/portia/index/Postings" "impactFrequencies" "[I" (.ref ai) ∧ Fld Z h x0 "com/example/portia/portia/index/Postings" "impactLengths" "[I" (.ref al) ∧ Fld Z h x0 "com/example/portia/portia/index/Postings" "impactCount" "I" (.int (1 : Int32)) ∧ Arv Z h ao ko .int (2 : Int32) [(.int x1), (.int (0 : Int32))] (.int (0 : Int32)) ∧ Arv Z h af kf .int (2 : Int32) [(.int (1 : Int32)), (.int (0 : Int32))] (.int (0 : Int32)) ∧ Arv Z h ai ki .int (1 : Int32) [(.int (1 : Int32))] (.int (0 : Int32)) ∧ Arv Z h al kl .int (1 : Int32) [(.int (1 : Int32))] (.int (0 : Int32))
set_option maxRecDepth 65536 in
set_option maxHeartbeats 40000000 in
theorem rm10 (l : Launch) (Z : State) (a0 : Array Value) (hw : ∀ d ∈ tables_1, d.before a0 Z = true) (ws : List Jvm.Cond) (x0 : Addr) (x1 : Int32) (ao : Addr) (ko : ClassId) (af : Addr) (kf : ClassId) (ai : Addr) (ki : ClassId) (al : Addr) (kl : ClassId) (h0 : Heap) (n0 : Nat) (Z0 : n0 ≤ h0.size) (B0 : Exa Z h0 x0 "com/example/portia/portia/index/Postings") (B1 : Fld Z h0 x0 "com/example/portia/portia/index/Postings" "ordinals" "[I" (.ref ao)) (B2 : Fld Z h0 x0 "com/example/portia/portia/index/Postings" "frequencies" "[I" (.ref af)) (B3 : Fld Z h0 x0 "com/example/portia/portia/index/Postings" "size" "I" (.int (0 : Int32))) (B4 : Fld Z h0 x0 "com/example/portia/portia/index/Postings" "documentFrequency" "I" (.int (0 : Int32))) (B5 : Fld Z h0 x0 "com/example/portia/portia/index/Postings" "impactFrequencies" "[I" (.ref ai)) (B6 : Fld Z h0 x0 "com/example/portia/portia/index/Postings" "impactLengths" "[I" (.ref al)) (B7 : Fld Z h0 x0 "com/example/portia/portia/index/Postings" "impactCount" "I" (.int (0 : Int32))) (B8 : Arv Z h0 ao ko .int (2 : Int32) [(.int (0 : Int32)), (.int (0 : Int32))] (.int (0 : Int32))) (B9 : Arv Z h0 af kf .int (2 : Int32) [(.int (0 : Int32)), (.int (0 : Int32))] (.int (0 : Int32))) (B10 : Arv Z h0 ai ki .int (1 : Int32) [(.int (0 : Int32))] (.int (0 : Int32))) (B11 : Arv Z h0 al kl .int (1 : Int32) [(.int (0 : Int32))] (.int (0 : Int32))) (g_x0 : n0 ≤ x0) (g_ao : n0 ≤ ao) (g_af : n0 ≤ af) (g_ai : n0 ≤ ai) (g_al : n0 ≤ al) (n_x0_ao : x0 ≠ ao) (n_x0_af : x0 ≠ af) (n_x0_ai : x0 ≠ ai) (n_x0_al : x0 ≠ al) (n_ao_af : ao ≠ af) (n_ao_ai : ao ≠ ai) (n_ao_al : ao ≠ al) (n_af_ai : af ≠ ai) (n_af_al : af ≠ al) (n_ai_al : ai ≠ al) :
    MetFree l (⟨"com/example/portia/portia/index/Postings", "add", "(III)V"⟩ : MethodName) (head1 (Jvm.Cond.code (⟨"com/example/portia/portia/index/Postings", "add", "(III)V"⟩ : MethodName) prog_19_method_10_code 4 none :: ws) ({ frames := 1, cells := 0, slots := 0, locals := 18 } : Room)) (fun a U => a = #[(.ref x0), (.int x1), (.int (1 : Int32)), (.int (1 : Int32))] ∧ Z.Warmed39 U.vm ∧ U.heap = h0) (fun _ _ _ _ _ => True) (fun _ U o U' => ∃ v L, o = .returned v ∧ Q10 Z x0 x1 ao ko af kf ai ki al kl h0 n0 v U'.heap L ∧ FrameEnd U o U' L ({ frames := 1, cells := 0, slots := 0, locals := 18 } : Room).cells ({ frames := 1, cells := 0, slots := 0, locals := 18 } : Room).slots) := by
  refine MetFree.of_bodySF (plainFor_of_name pn10) hisR ?_
  intro p e s m args below meth c s₁ Bd hml0 hP hK
  obtain ⟨rfl, hZ, hh⟩ := hP
  have hx := Bd.exec
  have hby := Bd.bytes
  have hml : c.maxLocals = 4 := hml0
  have hown : s.vm.findClass "com/example/portia/portia/index/Postings" = some m.cls := findClass_of_methodNamed Bd.named
  have hnm := (name_of_methodNamed Bd.named Bd.method).1
  have X0 : Stand p l e ({ frames := 1, cells := 0, slots := 0, locals := 18 } : Room) s m #[(.ref x0), (.int x1), (.int (1 : Int32)), (.int (1 : Int32))] below meth c s₁ [] 0 0 := Stand.of_body Bd
  have e0 : s₁.heap = h0 := by rw [← hh, Bd.state]; rfl
  have N0 := Fr.nil n0
  have pre0 : Steps p.tables e below (s₁.setTop (entryFrame m #[(.ref x0), (.int x1), (.int (1 : Int32)), (.int (1 : Int32))] 4)) (s₁.setTop (mkF m 0 #[.val (.ref x0), .val (.int x1), .val (.int (1 : Int32)), .val (.int (1 : Int32))] [])) := castTop (ef10 m x0 x1) (Steps.refl _)
  have K0 := Keep.refl h0 [x0, ao, af, ai, al]
  have st1 : Steps p.tables e below (s₁.setTop (mkF m 0 #[.val (.ref x0), .val (.int x1), .val (.int (1 : Int32)), .val (.int (1 : Int32))] [])) (s₁.setTop (mkF m 1 #[.val (.ref x0), .val (.int x1), .val (.int (1 : Int32)), .val (.int (1 : Int32))] [(.ref x0)])) := by
    refine XS.aloadN X0.here hx rfl (hb hby d10_0) rfl rfl ?_
    show Steps p.tables e below (s₁.setTop (mkF m 1 #[.val (.ref x0), .val (.int x1), .val (.int (1 : Int32)), .val (.int (1 : Int32))] [(.ref x0)])) _
    exact Steps.refl _
  have pre1 := pre0.trans st1
  obtain ⟨T2, X2, e2, st2⟩ := getF X0 hx hZ hown (host := "") (Or.inl (hw _ (List.mem_of_getElem? (i := 26) rfl))) Via.refl e0 B3 (g := (mkF m 1 #[.val (.ref x0), .val (.int x1), .val (.int (1 : Int32)), .val (.int (1 : Int32))] [(.ref x0)])) rfl rfl (hb hby d10_1)
  have pre2 : Steps p.tables e below (s₁.setTop (entryFrame m #[(.ref x0), (.int x1), (.int (1 : Int32)), (.int (1 : Int32))] 4)) (T2.setTop (mkF m 4 #[.val (.ref x0), .val (.int x1), .val (.int (1 : Int32)), .val (.int (1 : Int32))] [(.int (0 : Int32))])) := pre1.trans (st2 _ (Steps.refl _))
  have st3 : Steps p.tables e below (T2.setTop (mkF m 4 #[.val (.ref x0), .val (.int x1), .val (.int (1 : Int32)), .val (.int (1 : Int32))] [(.int (0 : Int32))])) (T2.setTop (mkF m 5 #[.val (.ref x0), .val (.int x1), .val (.int (1 : Int32)), .val (.int (1 : Int32))] [(.ref x0), (.int (0 : Int32))])) := by
    refine XS.aloadN X2.here hx rfl (hb hby d10_4) rfl rfl ?_
    show Steps p.tables e below (T2.setTop (mkF m 5 #[.val (.ref x0), .val (.int x1), .val (.int (1 : Int32)), .val (.int (1 : Int32))] [(.ref x0), (.int (0 : Int32))])) _
    exact Steps.refl _
  have pre3 := pre2.trans st3
  obtain ⟨T4, X4, e4, st4⟩ := getF X2 hx hZ hown (host := "") (Or.inl (hw _ (List.mem_of_getElem? (i := 13) rfl))) Via.refl e2 B1 (g := (mkF m 5 #[.val (.ref x0), .val (.int x1), .val (.int (1 : Int32)), .val (.int (1 : Int32))] [(.ref x0), (.int (0 : Int32))])) rfl rfl (hb hby d10_5)
  have pre4 : Steps p.tables e below (s₁.setTop (entryFrame m #[(.ref x0), (.int x1), (.int (1 : Int32)), (.int (1 : Int32))] 4)) (T4.setTop (mkF m 8 #[.val (.ref x0), .val (.int x1), .val (.int (1 : Int32)), .val (.int (1 : Int32))] [(.ref ao), (.int (0 : Int32))])) := pre3.trans (st4 _ (Steps.refl _))
  obtain ⟨cl5, Ar5, q5, S5, G5, H5, J5⟩ := id B8
  have st5 : Steps p.tables e below (T4.setTop (mkF m 8 #[.val (.ref x0), .val (.int x1), .val (.int (1 : Int32)), .val (.int (1 : Int32))] [(.ref ao), (.int (0 : Int32))])) (T4.setTop (mkF m 9 #[.val (.ref x0), .val (.int x1), .val (.int (1 : Int32)), .val (.int (1 : Int32))] [(.int (2 : Int32)), (.int (0 : Int32))])) := by
    refine X4.arraylength hx (by rw [e4]; exact Ar5.1) (State.isArrayOf_alike hZ.alike Ar5.2.1) (g := (mkF m 8 #[.val (.ref x0), .val (.int x1), .val (.int (1 : Int32)), .val (.int (1 : Int32))] [(.ref ao), (.int (0 : Int32))])) rfl rfl (hb hby d10_8) _ ?_
    rw [len_of S5 G5]
    exact Steps.refl _
  have pre5 := pre4.trans st5
  have st6 : Steps p.tables e below (T4.setTop (mkF m 9 #[.val (.ref x0), .val (.int x1), .val (.int (1 : Int32)), .val (.int (1 : Int32))] [(.int (2 : Int32)), (.int (0 : Int32))])) (T4.setTop (mkF m 47 #[.val (.ref x0), .val (.int x1), .val (.int (1 : Int32)), .val (.int (1 : Int32))] [(.ref x0)])) := by
    refine XS.icmpYes X4.here hx rfl (pc0 := 9) (pc' := 46) rfl (hb hby d10_9) rfl (feq (by decide : ¬ ((0 : Int32) = (2 : Int32)))).2 (by decide) (by decide) ?_
    show Steps p.tables e below (T4.setTop (mkF m 46 #[.val (.ref x0), .val (.int x1), .val (.int (1 : Int32)), .val (.int (1 : Int32))] [])) _
    refine XS.aloadN X4.here hx rfl (hb hby d10_46) rfl rfl ?_
    show Steps p.tables e below (T4.setTop (mkF m 47 #[.val (.ref x0), .val (.int x1), .val (.int (1 : Int32)), .val (.int (1 : Int32))] [(.ref x0)])) _
    exact Steps.refl _
  have pre6 := pre5.trans st6
  obtain ⟨T7, X7, e7, st7⟩ := getF X4 hx hZ hown (host := "") (Or.inl (hw _ (List.mem_of_getElem? (i := 13) rfl))) Via.refl e4 B1 (g := (mkF m 47 #[.val (.ref x0), .val (.int x1), .val (.int (1 : Int32)), .val (.int (1 : Int32))] [(.ref x0)])) rfl rfl (hb hby d10_47)
  have pre7 : Steps p.tables e below (s₁.setTop (entryFrame m #[(.ref x0), (.int x1), (.int (1 : Int32)), (.int (1 : Int32))] 4)) (T7.setTop (mkF m 50 #[.val (.ref x0), .val (.int x1), .val (.int (1 : Int32)), .val (.int (1 : Int32))] [(.ref ao)])) := pre6.trans (st7 _ (Steps.refl _))
  have st8 : Steps p.tables e below (T7.setTop (mkF m 50 #[.val (.ref x0), .val (.int x1), .val (.int (1 : Int32)), .val (.int (1 : Int32))] [(.ref ao)])) (T7.setTop (mkF m 51 #[.val (.ref x0), .val (.int x1), .val (.int (1 : Int32)), .val (.int (1 : Int32))] [(.ref x0), (.ref ao)])) := by
    refine XS.aloadN X7.here hx rfl (hb hby d10_50) rfl rfl ?_
    show Steps p.tables e below (T7.setTop (mkF m 51 #[.val (.ref x0), .val (.int x1), .val (.int (1 : Int32)), .val (.int (1 : Int32))] [(.ref x0), (.ref ao)])) _
    exact Steps.refl _
  have pre8 := pre7.trans st8
  obtain ⟨T9, X9, e9, st9⟩ := getF X7 hx hZ hown (host := "") (Or.inl (hw _ (List.mem_of_getElem? (i := 26) rfl))) Via.refl e7 B3 (g := (mkF m 51 #[.val (.ref x0), .val (.int x1), .val (.int (1 : Int32)), .val (.int (1 : Int32))] [(.ref x0), (.ref ao)])) rfl rfl (hb hby d10_51)
  have pre9 : Steps p.tables e below (s₁.setTop (entryFrame m #[(.ref x0), (.int x1), (.int (1 : Int32)), (.int (1 : Int32))] 4)) (T9.setTop (mkF m 54 #[.val (.ref x0), .val (.int x1), .val (.int (1 : Int32)), .val (.int (1 : Int32))] [(.int (0 : Int32)), (.ref ao)])) := pre8.trans (st9 _ (Steps.refl _))
  have st10 : Steps p.tables e below (T9.setTop (mkF m 54 #[.val (.ref x0), .val (.int x1), .val (.int (1 : Int32)), .val (.int (1 : Int32))] [(.int (0 : Int32)), (.ref ao)])) (T9.setTop (mkF m 55 #[.val (.ref x0), .val (.int x1), .val (.int (1 : Int32)), .val (.int (1 : Int32))] [(.int x1), (.int (0 : Int32)), (.ref ao)])) := by
    refine XS.iloadN X9.here hx rfl (hb hby d10_54) rfl ?_
    show Steps p.tables e below (T9.setTop (mkF m 55 #[.val (.ref x0), .val (.int x1), .val (.int (1 : Int32)), .val (.int (1 : Int32))] [(.int x1), (.int (0 : Int32)), (.ref ao)])) _
    exact Steps.refl _
  have pre10 := pre9.trans st10
  obtain ⟨cl11, Ar11, q11, S11, G11, H11, J11⟩ := id B8
  have in11 : ¬ ((0 : Int32) < 0 ∨ cl11.slots.size ≤ ((0 : Int32)).toNatClampNeg) := inb_of S11 ⟨by decide, by decide⟩
  obtain ⟨T11, h11, X11, e11, W11, st11⟩ := stI X9 hx hZ e9 Ar11 (j := (0 : Int32)) in11 (g := (mkF m 55 #[.val (.ref x0), .val (.int x1), .val (.int (1 : Int32)), .val (.int (1 : Int32))] [(.int x1), (.int (0 : Int32)), (.ref ao)])) rfl rfl (hb hby d10_55)
  have pre11 : Steps p.tables e below (s₁.setTop (entryFrame m #[(.ref x0), (.int x1), (.int (1 : Int32)), (.int (1 : Int32))] 4)) (T11.setTop (mkF m 56 #[.val (.ref x0), .val (.int x1), .val (.int (1 : Int32)), .val (.int (1 : Int32))] [])) := pre10.trans (st11 _ (Steps.refl _))
  have F12 : Exa Z h11 x0 "com/example/portia/portia/index/Postings" := B0.wr W11
  have F13 : Fld Z h11 x0 "com/example/portia/portia/index/Postings" "ordinals" "[I" (.ref ao) := B1.other W11 (Or.inl n_x0_ao)
  have F14 : Fld Z h11 x0 "com/example/portia/portia/index/Postings" "frequencies" "[I" (.ref af) := B2.other W11 (Or.inl n_x0_ao)
  have F15 : Fld Z h11 x0 "com/example/portia/portia/index/Postings" "size" "I" (.int (0 : Int32)) := B3.other W11 (Or.inl n_x0_ao)
  have F16 : Fld Z h11 x0 "com/example/portia/portia/index/Postings" "documentFrequency" "I" (.int (0 : Int32)) := B4.other W11 (Or.inl n_x0_ao)
  have F17 : Fld Z h11 x0 "com/example/portia/portia/index/Postings" "impactFrequencies" "[I" (.ref ai) := B5.other W11 (Or.inl n_x0_ao)
  have F18 : Fld Z h11 x0 "com/example/portia/portia/index/Postings" "impactLengths" "[I" (.ref al) := B6.other W11 (Or.inl n_x0_ao)
  have F19 : Fld Z h11 x0 "com/example/portia/portia/index/Postings" "impactCount" "I" (.int (0 : Int32)) := B7.other W11 (Or.inl n_x0_ao)
  have F21 : Arv Z h11 af kf .int (2 : Int32) [(.int (0 : Int32)), (.int (0 : Int32))] (.int (0 : Int32)) := B9.other W11 (Ne.symm n_ao_af)
  have F22 : Arv Z h11 ai ki .int (1 : Int32) [(.int (0 : Int32))] (.int (0 : Int32)) := B10.other W11 (Ne.symm n_ao_ai)
  have F23 : Arv Z h11 al kl .int (1 : Int32) [(.int (0 : Int32))] (.int (0 : Int32)) := B11.other W11 (Ne.symm n_ao_al)
  have K11 := K0.wr W11 (Or.inl (List.mem_of_getElem? (i := 1) rfl))
  have Z11 : n0 ≤ h11.size := Nat.le_trans Z0 (Keep.of_wr W11).1
  have V11 : Arv Z h11 ao ko .int (2 : Int32) [(.int x1), (.int (0 : Int32))] (.int (0 : Int32)) := Arv.set Ar11 q11 S11 G11 H11 J11 rfl W11 0 rfl (Nat.le_of_ble_eq_true rfl)
  have N11 := Fr.snoc X11 N0 g_ao
  have st24 : Steps p.tables e below (T11.setTop (mkF m 56 #[.val (.ref x0), .val (.int x1), .val (.int (1 : Int32)), .val (.int (1 : Int32))] [])) (T11.setTop (mkF m 57 #[.val (.ref x0), .val (.int x1), .val (.int (1 : Int32)), .val (.int (1 : Int32))] [(.ref x0)])) := by
    refine XS.aloadN X11.here hx rfl (hb hby d10_56) rfl rfl ?_
    show Steps p.tables e below (T11.setTop (mkF m 57 #[.val (.ref x0), .val (.int x1), .val (.int (1 : Int32)), .val (.int (1 : Int32))] [(.ref x0)])) _
    exact Steps.refl _
  have pre24 := pre11.trans st24
  obtain ⟨T25, X25, e25, st25⟩ := getF X11 hx hZ hown (host := "") (Or.inl (hw _ (List.mem_of_getElem? (i := 15) rfl))) Via.refl e11 F14 (g := (mkF m 57 #[.val (.ref x0), .val (.int x1), .val (.int (1 : Int32)), .val (.int (1 : Int32))] [(.ref x0)])) rfl rfl (hb hby d10_57)
  have pre25 : Steps p.tables e below (s₁.setTop (entryFrame m #[(.ref x0), (.int x1), (.int (1 : Int32)), (.int (1 : Int32))] 4)) (T25.setTop (mkF m 60 #[.val (.ref x0), .val (.int x1), .val (.int (1 : Int32)), .val (.int (1 : Int32))] [(.ref af)])) := pre24.trans (st25 _ (Steps.refl _))
  have st26 : Steps p.tables e below (T25.setTop (mkF m 60 #[.val (.ref x0), .val (.int x1), .val (.int (1 : Int32)), .val (.int (1 : Int32))] [(.ref af)])) (T25.setTop (mkF m 61 #[.val (.ref x0), .val (.int x1), .val (.int (1 : Int32)), .val (.int (1 : Int32))] [(.ref x0), (.ref af)])) := by
    refine XS.aloadN X25.here hx rfl (hb hby d10_60) rfl rfl ?_
    show Steps p.tables e below (T25.setTop (mkF m 61 #[.val (.ref x0), .val (.int x1), .val (.int (1 : Int32)), .val (.int (1 : Int32))] [(.ref x0), (.ref af)])) _
    exact Steps.refl _
  have pre26 := pre25.trans st26
  obtain ⟨T27, X27, e27, st27⟩ := getF X25 hx hZ hown (host := "") (Or.inl (hw _ (List.mem_of_getElem? (i := 26) rfl))) Via.refl e25 F15 (g := (mkF m 61 #[.val (.ref x0), .val (.int x1), .val (.int (1 : Int32)), .val (.int (1 : Int32))] [(.ref x0), (.ref af)])) rfl rfl (hb hby d10_61)
  have pre27 : Steps p.tables e below (s₁.setTop (entryFrame m #[(.ref x0), (.int x1), (.int (1 : Int32)), (.int (1 : Int32))] 4)) (T27.setTop (mkF m 64 #[.val (.ref x0), .val (.int x1), .val (.int (1 : Int32)), .val (.int (1 : Int32))] [(.int (0 : Int32)), (.ref af)])) := pre26.trans (st27 _ (Steps.refl _))
  have st28 : Steps p.tables e below (T27.setTop (mkF m 64 #[.val (.ref x0), .val (.int x1), .val (.int (1 : Int32)), .val (.int (1 : Int32))] [(.int (0 : Int32)), (.ref af)])) (T27.setTop (mkF m 65 #[.val (.ref x0), .val (.int x1), .val (.int (1 : Int32)), .val (.int (1 : Int32))] [(.int (1 : Int32)), (.int (0 : Int32)), (.ref af)])) := by
    refine XS.iloadN X27.here hx rfl (hb hby d10_64) rfl ?_
    show Steps p.tables e below (T27.setTop (mkF m 65 #[.val (.ref x0), .val (.int x1), .val (.int (1 : Int32)), .val (.int (1 : Int32))] [(.int (1 : Int32)), (.int (0 : Int32)), (.ref af)])) _
    exact Steps.refl _
  have pre28 := pre27.trans st28
  obtain ⟨cl29, Ar29, q29, S29, G29, H29, J29⟩ := id F21
  have in29 : ¬ ((0 : Int32) < 0 ∨ cl29.slots.size ≤ ((0 : Int32)).toNatClampNeg) := inb_of S29 ⟨by decide, by decide⟩
  obtain ⟨T29, h29, X29, e29, W29, st29⟩ := stI X27 hx hZ e27 Ar29 (j := (0 : Int32)) in29 (g := (mkF m 65 #[.val (.ref x0), .val (.int x1), .val (.int (1 : Int32)), .val (.int (1 : Int32))] [(.int (1 : Int32)), (.int (0 : Int32)), (.ref af)])) rfl rfl (hb hby d10_65)
  have pre29 : Steps p.tables e below (s₁.setTop (entryFrame m #[(.ref x0), (.int x1), (.int (1 : Int32)), (.int (1 : Int32))] 4)) (T29.setTop (mkF m 66 #[.val (.ref x0), .val (.int x1), .val (.int (1 : Int32)), .val (.int (1 : Int32))] [])) := pre28.trans (st29 _ (Steps.refl _))
  have F30 : Exa Z h29 x0 "com/example/portia/portia/index/Postings" := F12.wr W29
  have F31 : Fld Z h29 x0 "com/example/portia/portia/index/Postings" "ordinals" "[I" (.ref ao) := F13.other W29 (Or.inl n_x0_af)
  have F32 : Fld Z h29 x0 "com/example/portia/portia/index/Postings" "frequencies" "[I" (.ref af) := F14.other W29 (Or.inl n_x0_af)
  have F33 : Fld Z h29 x0 "com/example/portia/portia/index/Postings" "size" "I" (.int (0 : Int32)) := F15.other W29 (Or.inl n_x0_af)
  have F34 : Fld Z h29 x0 "com/example/portia/portia/index/Postings" "documentFrequency" "I" (.int (0 : Int32)) := F16.other W29 (Or.inl n_x0_af)
  have F35 : Fld Z h29 x0 "com/example/portia/portia/index/Postings" "impactFrequencies" "[I" (.ref ai) := F17.other W29 (Or.inl n_x0_af)
  have F36 : Fld Z h29 x0 "com/example/portia/portia/index/Postings" "impactLengths" "[I" (.ref al) := F18.other W29 (Or.inl n_x0_af)
  have F37 : Fld Z h29 x0 "com/example/portia/portia/index/Postings" "impactCount" "I" (.int (0 : Int32)) := F19.other W29 (Or.inl n_x0_af)
  have F39 : Arv Z h29 ai ki .int (1 : Int32) [(.int (0 : Int32))] (.int (0 : Int32)) := F22.other W29 (Ne.symm n_af_ai)
  have F40 : Arv Z h29 al kl .int (1 : Int32) [(.int (0 : Int32))] (.int (0 : Int32)) := F23.other W29 (Ne.symm n_af_al)
  have F41 : Arv Z h29 ao ko .int (2 : Int32) [(.int x1), (.int (0 : Int32))] (.int (0 : Int32)) := V11.other W29 n_ao_af
  have K29 := K11.wr W29 (Or.inl (List.mem_of_getElem? (i := 2) rfl))
  have Z29 : n0 ≤ h29.size := Nat.le_trans Z11 (Keep.of_wr W29).1
  have V29 : Arv Z h29 af kf .int (2 : Int32) [(.int (1 : Int32)), (.int (0 : Int32))] (.int (0 : Int32)) := Arv.set Ar29 q29 S29 G29 H29 J29 rfl W29 0 rfl (Nat.le_of_ble_eq_true rfl)
  have N29 := Fr.snoc X29 N11 g_af
  have st42 : Steps p.tables e below (T29.setTop (mkF m 66 #[.val (.ref x0), .val (.int x1), .val (.int (1 : Int32)), .val (.int (1 : Int32))] [])) (T29.setTop (mkF m 68 #[.val (.ref x0), .val (.int x1), .val (.int (1 : Int32)), .val (.int (1 : Int32))] [(.ref x0), (.ref x0)])) := by
    refine XS.aloadN X29.here hx rfl (hb hby d10_66) rfl rfl ?_
    show Steps p.tables e below (T29.setTop (mkF m 67 #[.val (.ref x0), .val (.int x1), .val (.int (1 : Int32)), .val (.int (1 : Int32))] [(.ref x0)])) _
    refine XS.dup X29.here hx rfl (hb hby d10_67) rfl rfl ?_
    show Steps p.tables e below (T29.setTop (mkF m 68 #[.val (.ref x0), .val (.int x1), .val (.int (1 : Int32)), .val (.int (1 : Int32))] [(.ref x0), (.ref x0)])) _
    exact Steps.refl _
  have pre42 := pre29.trans st42
  obtain ⟨T43, X43, e43, st43⟩ := getF X29 hx hZ hown (host := "") (Or.inl (hw _ (List.mem_of_getElem? (i := 26) rfl))) Via.refl e29 F33 (g := (mkF m 68 #[.val (.ref x0), .val (.int x1), .val (.int (1 : Int32)), .val (.int (1 : Int32))] [(.ref x0), (.ref x0)])) rfl rfl (hb hby d10_68)
  have pre43 : Steps p.tables e below (s₁.setTop (entryFrame m #[(.ref x0), (.int x1), (.int (1 : Int32)), (.int (1 : Int32))] 4)) (T43.setTop (mkF m 71 #[.val (.ref x0), .val (.int x1), .val (.int (1 : Int32)), .val (.int (1 : Int32))] [(.int (0 : Int32)), (.ref x0)])) := pre42.trans (st43 _ (Steps.refl _))
  have st44 : Steps p.tables e below (T43.setTop (mkF m 71 #[.val (.ref x0), .val (.int x1), .val (.int (1 : Int32)), .val (.int (1 : Int32))] [(.int (0 : Int32)), (.ref x0)])) (T43.setTop (mkF m 73 #[.val (.ref x0), .val (.int x1), .val (.int (1 : Int32)), .val (.int (1 : Int32))] [(.int (1 : Int32)), (.ref x0)])) := by
    refine XS.iconst X43.here hx rfl (hb hby d10_71) ?_
    show Steps p.tables e below (T43.setTop (mkF m 72 #[.val (.ref x0), .val (.int x1), .val (.int (1 : Int32)), .val (.int (1 : Int32))] [(.int (1 : Int32)), (.int (0 : Int32)), (.ref x0)])) _
    refine XS.iadd X43.here hx rfl (hb hby d10_72) rfl ?_
    show Steps p.tables e below (T43.setTop (mkF m 73 #[.val (.ref x0), .val (.int x1), .val (.int (1 : Int32)), .val (.int (1 : Int32))] [(.int (1 : Int32)), (.ref x0)])) _
    exact Steps.refl _
  have pre44 := pre43.trans st44
  obtain ⟨T45, h45, X45, e45, W45, st45⟩ := putF X43 hx hZ hown (host := "") (Or.inl (hw _ (List.mem_of_getElem? (i := 26) rfl))) Via.refl e43 F33 F30 (Or.inl (hw _ (List.mem_of_getElem? (i := 27) rfl))) (hw _ (List.mem_of_getElem? (i := 5) rfl)) (ty := .int) (by decide) rfl rfl (g := (mkF m 73 #[.val (.ref x0), .val (.int x1), .val (.int (1 : Int32)), .val (.int (1 : Int32))] [(.int (1 : Int32)), (.ref x0)])) rfl rfl (hb hby d10_73)
  have pre45 : Steps p.tables e below (s₁.setTop (entryFrame m #[(.ref x0), (.int x1), (.int (1 : Int32)), (.int (1 : Int32))] 4)) (T45.setTop (mkF m 76 #[.val (.ref x0), .val (.int x1), .val (.int (1 : Int32)), .val (.int (1 : Int32))] [])) := pre44.trans (st45 _ (Steps.refl _))
  have F46 : Exa Z h45 x0 "com/example/portia/portia/index/Postings" := F30.wr W45
  have F47 : Fld Z h45 x0 "com/example/portia/portia/index/Postings" "ordinals" "[I" (.ref ao) := F31.other W45 (Or.inr (slot_ne (Or.inl (hw _ (List.mem_of_getElem? (i := 14) rfl))) (Or.inl (hw _ (List.mem_of_getElem? (i := 27) rfl))) (by decide) (t := (.array .int)) (t' := .int) (by decide) (by decide)))
  have F48 : Fld Z h45 x0 "com/example/portia/portia/index/Postings" "frequencies" "[I" (.ref af) := F32.other W45 (Or.inr (slot_ne (Or.inl (hw _ (List.mem_of_getElem? (i := 16) rfl))) (Or.inl (hw _ (List.mem_of_getElem? (i := 27) rfl))) (by decide) (t := (.array .int)) (t' := .int) (by decide) (by decide)))
  have F50 : Fld Z h45 x0 "com/example/portia/portia/index/Postings" "documentFrequency" "I" (.int (0 : Int32)) := F34.other W45 (Or.inr (slot_ne (Or.inl (hw _ (List.mem_of_getElem? (i := 34) rfl))) (Or.inl (hw _ (List.mem_of_getElem? (i := 27) rfl))) (by decide) (t := .int) (t' := .int) (by decide) (by decide)))
  have F51 : Fld Z h45 x0 "com/example/portia/portia/index/Postings" "impactFrequencies" "[I" (.ref ai) := F35.other W45 (Or.inr (slot_ne (Or.inl (hw _ (List.mem_of_getElem? (i := 18) rfl))) (Or.inl (hw _ (List.mem_of_getElem? (i := 27) rfl))) (by decide) (t := (.array .int)) (t' := .int) (by decide) (by decide)))
  have F52 : Fld Z h45 x0 "com/example/portia/portia/index/Postings" "impactLengths" "[I" (.ref al) := F36.other W45 (Or.inr (slot_ne (Or.inl (hw _ (List.mem_of_getElem? (i := 20) rfl))) (Or.inl (hw _ (List.mem_of_getElem? (i := 27) rfl))) (by decide) (t := (.array .int)) (t' := .int) (by decide) (by decide)))
  have F53 : Fld Z h45 x0 "com/example/portia/portia/index/Postings" "impactCount" "I" (.int (0 : Int32)) := F37.other W45 (Or.inr (slot_ne (Or.inl (hw _ (List.mem_of_getElem? (i := 40) rfl))) (Or.inl (hw _ (List.mem_of_getElem? (i := 27) rfl))) (by decide) (t := .int) (t' := .int) (by decide) (by decide)))
  have F54 : Arv Z h45 ai ki .int (1 : Int32) [(.int (0 : Int32))] (.int (0 : Int32)) := F39.other W45 (Ne.symm n_x0_ai)
  have F55 : Arv Z h45 al kl .int (1 : Int32) [(.int (0 : Int32))] (.int (0 : Int32)) := F40.other W45 (Ne.symm n_x0_al)
  have F56 : Arv Z h45 ao ko .int (2 : Int32) [(.int x1), (.int (0 : Int32))] (.int (0 : Int32)) := F41.other W45 (Ne.symm n_x0_ao)
  have F57 : Arv Z h45 af kf .int (2 : Int32) [(.int (1 : Int32)), (.int (0 : Int32))] (.int (0 : Int32)) := V29.other W45 (Ne.symm n_x0_af)
  have K45 := K29.wr W45 (Or.inl (List.mem_of_getElem? (i := 0) rfl))
  have Z45 : n0 ≤ h45.size := Nat.le_trans Z29 (Keep.of_wr W45).1
  have Fw45 : Fld Z h45 x0 "com/example/portia/portia/index/Postings" "size" "I" (.int (1 : Int32)) := F33.same W45
  have N45 := Fr.snoc X45 N29 g_x0
  have st58 : Steps p.tables e below (T45.setTop (mkF m 76 #[.val (.ref x0), .val (.int x1), .val (.int (1 : Int32)), .val (.int (1 : Int32))] [])) (T45.setTop (mkF m 78 #[.val (.ref x0), .val (.int x1), .val (.int (1 : Int32)), .val (.int (1 : Int32))] [(.ref x0), (.ref x0)])) := by
    refine XS.aloadN X45.here hx rfl (hb hby d10_76) rfl rfl ?_
    show Steps p.tables e below (T45.setTop (mkF m 77 #[.val (.ref x0), .val (.int x1), .val (.int (1 : Int32)), .val (.int (1 : Int32))] [(.ref x0)])) _
    refine XS.dup X45.here hx rfl (hb hby d10_77) rfl rfl ?_
    show Steps p.tables e below (T45.setTop (mkF m 78 #[.val (.ref x0), .val (.int x1), .val (.int (1 : Int32)), .val (.int (1 : Int32))] [(.ref x0), (.ref x0)])) _
    exact Steps.refl _
  have pre58 := pre45.trans st58
  obtain ⟨T59, X59, e59, st59⟩ := getF X45 hx hZ hown (host := "") (Or.inl (hw _ (List.mem_of_getElem? (i := 33) rfl))) Via.refl e45 F50 (g := (mkF m 78 #[.val (.ref x0), .val (.int x1), .val (.int (1 : Int32)), .val (.int (1 : Int32))] [(.ref x0), (.ref x0)])) rfl rfl (hb hby d10_78)
  have pre59 : Steps p.tables e below (s₁.setTop (entryFrame m #[(.ref x0), (.int x1), (.int (1 : Int32)), (.int (1 : Int32))] 4)) (T59.setTop (mkF m 81 #[.val (.ref x0), .val (.int x1), .val (.int (1 : Int32)), .val (.int (1 : Int32))] [(.int (0 : Int32)), (.ref x0)])) := pre58.trans (st59 _ (Steps.refl _))
  have st60 : Steps p.tables e below (T59.setTop (mkF m 81 #[.val (.ref x0), .val (.int x1), .val (.int (1 : Int32)), .val (.int (1 : Int32))] [(.int (0 : Int32)), (.ref x0)])) (T59.setTop (mkF m 83 #[.val (.ref x0), .val (.int x1), .val (.int (1 : Int32)), .val (.int (1 : Int32))] [(.int (1 : Int32)), (.ref x0)])) := by
    refine XS.iconst X59.here hx rfl (hb hby d10_81) ?_
    show Steps p.tables e below (T59.setTop (mkF m 82 #[.val (.ref x0), .val (.int x1), .val (.int (1 : Int32)), .val (.int (1 : Int32))] [(.int (1 : Int32)), (.int (0 : Int32)), (.ref x0)])) _
    refine XS.iadd X59.here hx rfl (hb hby d10_82) rfl ?_
    show Steps p.tables e below (T59.setTop (mkF m 83 #[.val (.ref x0), .val (.int x1), .val (.int (1 : Int32)), .val (.int (1 : Int32))] [(.int (1 : Int32)), (.ref x0)])) _
    exact Steps.refl _
  have pre60 := pre59.trans st60
  obtain ⟨T61, h61, X61, e61, W61, st61⟩ := putF X59 hx hZ hown (host := "") (Or.inl (hw _ (List.mem_of_getElem? (i := 33) rfl))) Via.refl e59 F50 F46 (Or.inl (hw _ (List.mem_of_getElem? (i := 34) rfl))) (hw _ (List.mem_of_getElem? (i := 5) rfl)) (ty := .int) (by decide) rfl rfl (g := (mkF m 83 #[.val (.ref x0), .val (.int x1), .val (.int (1 : Int32)), .val (.int (1 : Int32))] [(.int (1 : Int32)), (.ref x0)])) rfl rfl (hb hby d10_83)
  have pre61 : Steps p.tables e below (s₁.setTop (entryFrame m #[(.ref x0), (.int x1), (.int (1 : Int32)), (.int (1 : Int32))] 4)) (T61.setTop (mkF m 86 #[.val (.ref x0), .val (.int x1), .val (.int (1 : Int32)), .val (.int (1 : Int32))] [])) := pre60.trans (st61 _ (Steps.refl _))
  have F62 : Exa Z h61 x0 "com/example/portia/portia/index/Postings" := F46.wr W61
  have F63 : Fld Z h61 x0 "com/example/portia/portia/index/Postings" "ordinals" "[I" (.ref ao) := F47.other W61 (Or.inr (slot_ne (Or.inl (hw _ (List.mem_of_getElem? (i := 14) rfl))) (Or.inl (hw _ (List.mem_of_getElem? (i := 34) rfl))) (by decide) (t := (.array .int)) (t' := .int) (by decide) (by decide)))
  have F64 : Fld Z h61 x0 "com/example/portia/portia/index/Postings" "frequencies" "[I" (.ref af) := F48.other W61 (Or.inr (slot_ne (Or.inl (hw _ (List.mem_of_getElem? (i := 16) rfl))) (Or.inl (hw _ (List.mem_of_getElem? (i := 34) rfl))) (by decide) (t := (.array .int)) (t' := .int) (by decide) (by decide)))
  have F66 : Fld Z h61 x0 "com/example/portia/portia/index/Postings" "impactFrequencies" "[I" (.ref ai) := F51.other W61 (Or.inr (slot_ne (Or.inl (hw _ (List.mem_of_getElem? (i := 18) rfl))) (Or.inl (hw _ (List.mem_of_getElem? (i := 34) rfl))) (by decide) (t := (.array .int)) (t' := .int) (by decide) (by decide)))
  have F67 : Fld Z h61 x0 "com/example/portia/portia/index/Postings" "impactLengths" "[I" (.ref al) := F52.other W61 (Or.inr (slot_ne (Or.inl (hw _ (List.mem_of_getElem? (i := 20) rfl))) (Or.inl (hw _ (List.mem_of_getElem? (i := 34) rfl))) (by decide) (t := (.array .int)) (t' := .int) (by decide) (by decide)))
  have F68 : Fld Z h61 x0 "com/example/portia/portia/index/Postings" "impactCount" "I" (.int (0 : Int32)) := F53.other W61 (Or.inr (slot_ne (Or.inl (hw _ (List.mem_of_getElem? (i := 40) rfl))) (Or.inl (hw _ (List.mem_of_getElem? (i := 34) rfl))) (by decide) (t := .int) (t' := .int) (by decide) (by decide)))
  have F69 : Arv Z h61 ai ki .int (1 : Int32) [(.int (0 : Int32))] (.int (0 : Int32)) := F54.other W61 (Ne.symm n_x0_ai)
  have F70 : Arv Z h61 al kl .int (1 : Int32) [(.int (0 : Int32))] (.int (0 : Int32)) := F55.other W61 (Ne.symm n_x0_al)
  have F71 : Arv Z h61 ao ko .int (2 : Int32) [(.int x1), (.int (0 : Int32))] (.int (0 : Int32)) := F56.other W61 (Ne.symm n_x0_ao)
  have F72 : Arv Z h61 af kf .int (2 : Int32) [(.int (1 : Int32)), (.int (0 : Int32))] (.int (0 : Int32)) := F57.other W61 (Ne.symm n_x0_af)
  have F73 : Fld Z h61 x0 "com/example/portia/portia/index/Postings" "size" "I" (.int (1 : Int32)) := Fw45.other W61 (Or.inr (slot_ne (Or.inl (hw _ (List.mem_of_getElem? (i := 27) rfl))) (Or.inl (hw _ (List.mem_of_getElem? (i := 34) rfl))) (by decide) (t := .int) (t' := .int) (by decide) (by decide)))
  have K61 := K45.wr W61 (Or.inl (List.mem_of_getElem? (i := 0) rfl))
  have Z61 : n0 ≤ h61.size := Nat.le_trans Z45 (Keep.of_wr W61).1
  have Fw61 : Fld Z h61 x0 "com/example/portia/portia/index/Postings" "documentFrequency" "I" (.int (1 : Int32)) := F50.same W61
  have N61 := Fr.snoc X61 N45 g_x0
  have st74 : Steps p.tables e below (T61.setTop (mkF m 86 #[.val (.ref x0), .val (.int x1), .val (.int (1 : Int32)), .val (.int (1 : Int32))] [])) (T61.setTop (mkF m 89 #[.val (.ref x0), .val (.int x1), .val (.int (1 : Int32)), .val (.int (1 : Int32))] [(.int (1 : Int32)), (.int (1 : Int32)), (.ref x0)])) := by
    refine XS.aloadN X61.here hx rfl (hb hby d10_86) rfl rfl ?_
    show Steps p.tables e below (T61.setTop (mkF m 87 #[.val (.ref x0), .val (.int x1), .val (.int (1 : Int32)), .val (.int (1 : Int32))] [(.ref x0)])) _
    refine XS.iloadN X61.here hx rfl (hb hby d10_87) rfl ?_
    show Steps p.tables e below (T61.setTop (mkF m 88 #[.val (.ref x0), .val (.int x1), .val (.int (1 : Int32)), .val (.int (1 : Int32))] [(.int (1 : Int32)), (.ref x0)])) _
    refine XS.iloadN X61.here hx rfl (hb hby d10_88) rfl ?_
    show Steps p.tables e below (T61.setTop (mkF m 89 #[.val (.ref x0), .val (.int x1), .val (.int (1 : Int32)), .val (.int (1 : Int32))] [(.int (1 : Int32)), (.int (1 : Int32)), (.ref x0)])) _
    exact Steps.refl _
  have pre74 := pre61.trans st74
  obtain ⟨cq75, q75, q75'⟩ := F62.cell
  obtain ⟨_, _, mp75, -, -, qp75, -, kp75, hkp75, hki75⟩ := Cond.selects_spec (mvT (args := #[]) hZ (hw _ (List.mem_of_getElem? (i := 24) rfl)))
  obtain ⟨_, _, ⟨T75, L75, k75, n75⟩, -, X75, ⟨Lc75, hQ75, l75, y75, z75⟩, st75⟩ := X61.privateBack hx (y := (⟨"com/example/portia/portia/index/Postings", "addImpact", "(II)V"⟩ : MethodName)) hown (mvT hZ (hw _ (List.mem_of_getElem? (i := 35) rfl))) (mvT hZ (hw _ (List.mem_of_getElem? (i := 36) rfl))) (Jvm.Stand.selects_self_of_private (show s.vm.findClass "com/example/portia/portia/index/Postings" = some mp75.cls from findClass_of_methodNamed qp75) hkp75 hki75 (Cond.privateMethod_at (mvP hZ (hw _ (List.mem_of_getElem? (i := 37) rfl)) (args := #[]))) (mvT hZ (hw _ (List.mem_of_getElem? (i := 36) rfl))) (by decide)) (Cond.privateMethod_at (mvP hZ (hw _ (List.mem_of_getElem? (i := 37) rfl)) (args := #[]))) (mvT hZ (hw _ (List.mem_of_getElem? (i := 38) rfl))) (by decide) (backOf (W := 0) (rm6 l Z a0 hw [] x0 ai ki al kl (.ref ao) (.ref af) (.int (1 : Int32)) (.int (1 : Int32)) h61 n0 Z61 F62 F63 F64 F73 Fw61 F66 F67 F68 F69 F70 g_x0 g_ai g_al n_x0_ai n_x0_al n_ai_al) hZ (hw _ (List.mem_of_getElem? (i := 38) rfl)) (hw _ (List.mem_of_getElem? (i := 6) rfl)) (by decide) (by decide)) (g := (mkF m 89 #[.val (.ref x0), .val (.int x1), .val (.int (1 : Int32)), .val (.int (1 : Int32))] [(.int (1 : Int32)), (.int (1 : Int32)), (.ref x0)])) rfl (by rw [hml]; rfl) (Steps.refl _) (a := x0) (by rw [e61]; exact q75) q75' (argsL := [(.int (1 : Int32)), (.int (1 : Int32))]) (rest := []) (lenOf pd10_0 rfl) rfl (by show 2 * 0 + _ ≤ _; exact Nat.le_of_eq rfl) (hb hby d10_89) (fun _ _ => ⟨rfl, e61, (by decide : 0 + 0 ≤ _), (by decide : 0 + 0 ≤ _)⟩)
  dsimp only [Pt.U, Pt.locs, Pt.cells, Pt.slots] at X75 l75 y75 z75 st75 hQ75
  subst l75 y75 z75
  obtain ⟨rfl, Nq75, Kq75, P75_0, P75_1, P75_2, P75_3, P75_4, P75_5, P75_6, P75_7, P75_8, P75_9⟩ := hQ75
  have F76 : Exa Z T75.heap x0 "com/example/portia/portia/index/Postings" := F62.keep Kq75
  have F84 : Arv Z T75.heap ao ko .int (2 : Int32) [(.int x1), (.int (0 : Int32))] (.int (0 : Int32)) := F71.keep Kq75 (ninS (Ne.symm n_x0_ao) (ninS n_ao_ai (ninS n_ao_al nin0)))
  have F85 : Arv Z T75.heap af kf .int (2 : Int32) [(.int (1 : Int32)), (.int (0 : Int32))] (.int (0 : Int32)) := F72.keep Kq75 (ninS (Ne.symm n_x0_af) (ninS n_af_ai (ninS n_af_al nin0)))
  have KK75 := K61.trans Kq75 (allS (Or.inl (List.mem_of_getElem? (i := 0) rfl)) (allS (Or.inl (List.mem_of_getElem? (i := 3) rfl)) (allS (Or.inl (List.mem_of_getElem? (i := 4) rfl)) all0)))
  have Z75 : n0 ≤ T75.heap.size := Nat.le_trans Z61 Kq75.1
  have N75 := Fr.app N61 Nq75
  have pre75 : Steps p.tables e below (s₁.setTop (entryFrame m #[(.ref x0), (.int x1), (.int (1 : Int32)), (.int (1 : Int32))] 4)) (T75.setTop (mkF m 92 #[.val (.ref x0), .val (.int x1), .val (.int (1 : Int32)), .val (.int (1 : Int32))] [])) := pre74.trans st75
  obtain ⟨fs, hr, hrun, hended, hW, hsame⟩ := X75.leave (v := none) (fun _ => rfl)
  refine ⟨_, _, pre75.trans ?_, hrun, hended, _, _, rfl, ?_, ⟨_, rfl⟩, hW, hsame.mono (by decide) (by decide)⟩
  · show Steps p.tables e below (T75.setTop (mkF m 92 #[.val (.ref x0), .val (.int x1), .val (.int (1 : Int32)), .val (.int (1 : Int32))] [])) _
    exact X75.returnOut hx Bd.returns (hb hby d10_92) hr
  · show Q10 Z x0 x1 ao ko af kf ai ki al kl h0 n0 _ T75.heap _
    exact ⟨rfl, N75, KK75, F76, P75_1, P75_2, P75_3, P75_4, P75_5, P75_6, P75_7, F84, F85, P75_8, P75_9⟩
theorem d11_0 : decode prog_19_method_10_code 0 = .ok (.aload_n 0, 1) := by decide +kernel
theorem d11_1 : decode prog_19_method_10_code 1 = .ok (.getfield 22, 3) := by decide +kernel
theorem d11_4 : decode prog_19_method_10_code 4 = .ok (.aload_n 0, 1) := by decide +kernel
theorem d11_5 : decode prog_19_method_10_code 5 = .ok (.getfield 7, 3) := by decide +kernel
theorem d11_8 : decode prog_19_method_10_code 8 = .ok (.arraylength, 1) := by decide +kernel
theorem d11_9 : decode prog_19_method_10_code 9 = .ok (.if_icmp .ne 37, 3) := by decide +kernel
theorem d11_46 : decode prog_19_method_10_code 46 = .ok (.aload_n 0, 1) := by decide +kernel
theorem d11_47 : decode prog_19_method_10_code 47 = .ok (.getfield 7, 3) := by decide +kernel
theorem d11_50 : decode prog_19_method_10_code 50 = .ok (.aload_n 0, 1) := by decide +kernel
theorem d11_51 : decode prog_19_method_10_code 51 = .ok (.getfield 22, 3) := by decide +kernel
theorem d11_54 : decode prog_19_method_10_code 54 = .ok (.iload_n 1, 1) := by decide +kernel
theorem d11_55 : decode prog_19_method_10_code 55 = .ok (.iastore, 1) := by decide +kernel
theorem d11_56 : decode prog_19_method_10_code 56 = .ok (.aload_n 0, 1) := by decide +kernel
theorem d11_57 : decode prog_19_method_10_code 57 = .ok (.getfield 13, 3) := by decide +kernel
theorem d11_60 : decode prog_19_method_10_code 60 = .ok (.aload_n 0, 1) := by decide +kernel
theorem d11_61 : decode prog_19_method_10_code 61 = .ok (.getfield 22, 3) := by decide +kernel
theorem d11_64 : decode prog_19_method_10_code 64 = .ok (.iload_n 2, 1) := by decide +kernel
theorem d11_65 : decode prog_19_method_10_code 65 = .ok (.iastore, 1) := by decide +kernel
theorem d11_66 : decode prog_19_method_10_code 66 = .ok (.aload_n 0, 1) := by decide +kernel
theorem d11_67 : decode prog_19_method_10_code 67 = .ok (.dup, 1) := by decide +kernel
theorem d11_68 : decode prog_19_method_10_code 68 = .ok (.getfield 22, 3) := by decide +kernel
theorem d11_71 : decode prog_19_method_10_code 71 = .ok (.iconst 1, 1) := by decide +kernel
theorem d11_72 : decode prog_19_method_10_code 72 = .ok (.iadd, 1) := by decide +kernel
theorem d11_73 : decode prog_19_method_10_code 73 = .ok (.putfield 22, 3) := by decide +kernel
theorem d11_76 : decode prog_19_method_10_code 76 = .ok (.aload_n 0, 1) := by decide +kernel
theorem d11_77 : decode prog_19_method_10_code 77 = .ok (.dup, 1) := by decide +kernel
theorem d11_78 : decode prog_19_method_10_code 78 = .ok (.getfield 26, 3) := by decide +kernel
theorem d11_81 : decode prog_19_method_10_code 81 = .ok (.iconst 1, 1) := by decide +kernel
theorem d11_82 : decode prog_19_method_10_code 82 = .ok (.iadd, 1) := by decide +kernel
theorem d11_83 : decode prog_19_method_10_code 83 = .ok (.putfield 26, 3) := by decide +kernel
theorem d11_86 : decode prog_19_method_10_code 86 = .ok (.aload_n 0, 1) := by decide +kernel
theorem d11_87 : decode prog_19_method_10_code 87 = .ok (.iload_n 2, 1) := by decide +kernel
theorem d11_88 : decode prog_19_method_10_code 88 = .ok (.iload_n 3, 1) := by decide +kernel
theorem d11_89 : decode prog_19_method_10_code 89 = .ok (.invokevirtual 38, 3) := by decide +kernel
theorem d11_92 : decode prog_19_method_10_code 92 = .ok (.return_, 1) := by decide +kernel
theorem pn11 : plainName "com/example/portia/portia/index/Postings" = true := by first | (simp [plainName, overriddenIn]; done) | decide +kernel
theorem pd11_0 : parseMethodDescriptor "(II)V" = some ⟨[.int, .int], none⟩ := by decide +kernel
theorem ef11 (m : MethodId) (x0 : Addr) (x1 : Int32) : entryFrame m #[(.ref x0), (.int x1), (.int (1 : Int32)), (.int (1 : Int32))] 4 = mkF m 0 #[.val (.ref x0), .val (.int x1), .val (.int (1 : Int32)), .val (.int (1 : Int32))] [] := by first | (simp [entryFrame, mkF, argsToLocals, Value.category]; done) | rfl
def Q11 (Z : State) (x0 : Addr) (x1 : Int32) (ao : Addr) (ko : ClassId) (af : Addr) (kf : ClassId) (ai : Addr) (ki : ClassId) (al : Addr) (kl : ClassId) (y0 : Int32) (h0 : Heap) (n0 : Nat) (v : Option Value) (h : Heap) (L : List Loc) : Prop := v = none ∧ Fr n0 L ∧ Keep h0 h [x0, ao, af] ∧ Exa Z h x0 "com/example/portia/portia/index/Postings" ∧ Fld Z h x0 "com/example/portia/portia/index/Postings" "ordinals" "[I" (.ref ao) ∧ Fld Z h x0 "com/example/portia/portia/index/Postings" "frequencies" "[I" (.ref af) ∧ Fld Z h x0 "com/example/portia/portia/index/Postings" "size" "I" (.int (2 : Int32)) ∧ Fld Z h x0 "com/example/portia/portia/index/Postings" "documentFrequency" "I" (.int (2 : Int32)) ∧ Fld Z h x0 "com/example/portia/portia/index/Postings" "impactFrequencies" "[I" (.ref ai) ∧ Fld Z h x0 "com/example/portia/portia/index/Postings" "impactLengths" "[I" (.ref al) ∧ Fld Z h x0 "com/example/portia/portia/index/Postings" "impactCount" "I" (.int (1 : Int32)) ∧ Arv Z h ao ko .int (2 : Int32) [(.int y0), (.int x1)] (.int (0 : Int32)) ∧ Arv Z h af kf .int (2 : Int32) [(.int (1 : Int32)), (.int (1 : Int32))] (.int (0 : Int32)) ∧ Arv Z h ai ki .int (1 : Int32) [(.int (1 : Int32))] (.int (0 : Int32)) ∧ Arv Z h al kl .int (1 : Int32) [(.int (1 : Int32))] (.int (0 : Int32))
set_option maxRecDepth 65536 in
set_option maxHeartbeats 40000000 in
theorem rm11 (l : Launch) (Z : State) (a0 : Array Value) (hw : ∀ d ∈ tables_1, d.before a0 Z = true) (ws : List Jvm.Cond) (x0 : Addr) (x1 : Int32) (ao : Addr) (ko : ClassId) (af : Addr) (kf : ClassId) (ai : Addr) (ki : ClassId) (al : Addr) (kl : ClassId) (y0 : Int32) (h0 : Heap) (n0 : Nat) (Z0 : n0 ≤ h0.size) (B0 : Exa Z h0 x0 "com/example/portia/portia/index/Postings") (B1 : Fld Z h0 x0 "com/example/portia/portia/index/Postings" "ordinals" "[I" (.ref ao)) (B2 : Fld Z h0 x0 "com/example/portia/portia/index/Postings" "frequencies" "[I" (.ref af)) (B3 : Fld Z h0 x0 "com/example/portia/portia/index/Postings" "size" "I" (.int (1 : Int32))) (B4 : Fld Z h0 x0 "com/example/portia/portia/index/Postings" "documentFrequency" "I" (.int (1 : Int32))) (B5 : Fld Z h0 x0 "com/example/portia/portia/index/Postings" "impactFrequencies" "[I" (.ref ai)) (B6 : Fld Z h0 x0 "com/example/portia/portia/index/Postings" "impactLengths" "[I" (.ref al)) (B7 : Fld Z h0 x0 "com/example/portia/portia/index/Postings" "impactCount" "I" (.int (1 : Int32))) (B8 : Arv Z h0 ao ko .int (2 : Int32) [(.int y0), (.int (0 : Int32))] (.int (0 : Int32))) (B9 : Arv Z h0 af kf .int (2 : Int32) [(.int (1 : Int32)), (.int (0 : Int32))] (.int (0 : Int32))) (B10 : Arv Z h0 ai ki .int (1 : Int32) [(.int (1 : Int32))] (.int (0 : Int32))) (B11 : Arv Z h0 al kl .int (1 : Int32) [(.int (1 : Int32))] (.int (0 : Int32))) (g_x0 : n0 ≤ x0) (g_ao : n0 ≤ ao) (g_af : n0 ≤ af) (n_x0_ao : x0 ≠ ao) (n_x0_af : x0 ≠ af) (n_x0_ai : x0 ≠ ai) (n_x0_al : x0 ≠ al) (n_ao_af : ao ≠ af) (n_ao_ai : ao ≠ ai) (n_ao_al : ao ≠ al) (n_af_ai : af ≠ ai) (n_af_al : af ≠ al) (n_ai_al : ai ≠ al) :
    MetFree l (⟨"com/example/portia/portia/index/Postings", "add", "(III)V"⟩ : MethodName) (head1 (Jvm.Cond.code (⟨"com/example/portia/portia/index/Postings", "add", "(III)V"⟩ : MethodName) prog_19_method_10_code 4 none :: ws) ({ frames := 1, cells := 0, slots := 0, locals := 18 } : Room)) (fun a U => a = #[(.ref x0), (.int x1), (.int (1 : Int32)), (.int (1 : Int32))] ∧ Z.Warmed39 U.vm ∧ U.heap = h0) (fun _ _ _ _ _ => True) (fun _ U o U' => ∃ v L, o = .returned v ∧ Q11 Z x0 x1 ao ko af kf ai ki al kl y0 h0 n0 v U'.heap L ∧ FrameEnd U o U' L ({ frames := 1, cells := 0, slots := 0, locals := 18 } : Room).cells ({ frames := 1, cells := 0, slots := 0, locals := 18 } : Room).slots) := by
  refine MetFree.of_bodySF (plainFor_of_name pn11) hisR ?_
  intro p e s m args below meth c s₁ Bd hml0 hP hK
  obtain ⟨rfl, hZ, hh⟩ := hP
  have hx := Bd.exec
  have hby := Bd.bytes
  have hml : c.maxLocals = 4 := hml0
  have hown : s.vm.findClass "com/example/portia/portia/index/Postings" = some m.cls := findClass_of_methodNamed Bd.named
  have hnm := (name_of_methodNamed Bd.named Bd.method).1
  have X0 : Stand p l e ({ frames := 1, cells := 0, slots := 0, locals := 18 } : Room) s m #[(.ref x0), (.int x1), (.int (1 : Int32)), (.int (1 : Int32))] below meth c s₁ [] 0 0 := Stand.of_body Bd
  have e0 : s₁.heap = h0 := by rw [← hh, Bd.state]; rfl
  have N0 := Fr.nil n0
  have pre0 : Steps p.tables e below (s₁.setTop (entryFrame m #[(.ref x0), (.int x1), (.int (1 : Int32)), (.int (1 : Int32))] 4)) (s₁.setTop (mkF m 0 #[.val (.ref x0), .val (.int x1), .val (.int (1 : Int32)), .val (.int (1 : Int32))] [])) := castTop (ef11 m x0 x1) (Steps.refl _)
  have K0 := Keep.refl h0 [x0, ao, af]
  have st1 : Steps p.tables e below (s₁.setTop (mkF m 0 #[.val (.ref x0), .val (.int x1), .val (.int (1 : Int32)), .val (.int (1 : Int32))] [])) (s₁.setTop (mkF m 1 #[.val (.ref x0), .val (.int x1), .val (.int (1 : Int32)), .val (.int (1 : Int32))] [(.ref x0)])) := by
    refine XS.aloadN X0.here hx rfl (hb hby d11_0) rfl rfl ?_
    show Steps p.tables e below (s₁.setTop (mkF m 1 #[.val (.ref x0), .val (.int x1), .val (.int (1 : Int32)), .val (.int (1 : Int32))] [(.ref x0)])) _
    exact Steps.refl _
  have pre1 := pre0.trans st1
  obtain ⟨T2, X2, e2, st2⟩ := getF X0 hx hZ hown (host := "") (Or.inl (hw _ (List.mem_of_getElem? (i := 26) rfl))) Via.refl e0 B3 (g := (mkF m 1 #[.val (.ref x0), .val (.int x1), .val (.int (1 : Int32)), .val (.int (1 : Int32))] [(.ref x0)])) rfl rfl (hb hby d11_1)
  have pre2 : Steps p.tables e below (s₁.setTop (entryFrame m #[(.ref x0), (.int x1), (.int (1 : Int32)), (.int (1 : Int32))] 4)) (T2.setTop (mkF m 4 #[.val (.ref x0), .val (.int x1), .val (.int (1 : Int32)), .val (.int (1 : Int32))] [(.int (1 : Int32))])) := pre1.trans (st2 _ (Steps.refl _))
  have st3 : Steps p.tables e below (T2.setTop (mkF m 4 #[.val (.ref x0), .val (.int x1), .val (.int (1 : Int32)), .val (.int (1 : Int32))] [(.int (1 : Int32))])) (T2.setTop (mkF m 5 #[.val (.ref x0), .val (.int x1), .val (.int (1 : Int32)), .val (.int (1 : Int32))] [(.ref x0), (.int (1 : Int32))])) := by
    refine XS.aloadN X2.here hx rfl (hb hby d11_4) rfl rfl ?_
    show Steps p.tables e below (T2.setTop (mkF m 5 #[.val (.ref x0), .val (.int x1), .val (.int (1 : Int32)), .val (.int (1 : Int32))] [(.ref x0), (.int (1 : Int32))])) _
    exact Steps.refl _
  have pre3 := pre2.trans st3
  obtain ⟨T4, X4, e4, st4⟩ := getF X2 hx hZ hown (host := "") (Or.inl (hw _ (List.mem_of_getElem? (i := 13) rfl))) Via.refl e2 B1 (g := (mkF m 5 #[.val (.ref x0), .val (.int x1), .val (.int (1 : Int32)), .val (.int (1 : Int32))] [(.ref x0), (.int (1 : Int32))])) rfl rfl (hb hby d11_5)
  have pre4 : Steps p.tables e below (s₁.setTop (entryFrame m #[(.ref x0), (.int x1), (.int (1 : Int32)), (.int (1 : Int32))] 4)) (T4.setTop (mkF m 8 #[.val (.ref x0), .val (.int x1), .val (.int (1 : Int32)), .val (.int (1 : Int32))] [(.ref ao), (.int (1 : Int32))])) := pre3.trans (st4 _ (Steps.refl _))
  obtain ⟨cl5, Ar5, q5, S5, G5, H5, J5⟩ := id B8
  have st5 : Steps p.tables e below (T4.setTop (mkF m 8 #[.val (.ref x0), .val (.int x1), .val (.int (1 : Int32)), .val (.int (1 : Int32))] [(.ref ao), (.int (1 : Int32))])) (T4.setTop (mkF m 9 #[.val (.ref x0), .val (.int x1), .val (.int (1 : Int32)), .val (.int (1 : Int32))] [(.int (2 : Int32)), (.int (1 : Int32))])) := by
    refine X4.arraylength hx (by rw [e4]; exact Ar5.1) (State.isArrayOf_alike hZ.alike Ar5.2.1) (g := (mkF m 8 #[.val (.ref x0), .val (.int x1), .val (.int (1 : Int32)), .val (.int (1 : Int32))] [(.ref ao), (.int (1 : Int32))])) rfl rfl (hb hby d11_8) _ ?_
    rw [len_of S5 G5]
    exact Steps.refl _
  have pre5 := pre4.trans st5
  have st6 : Steps p.tables e below (T4.setTop (mkF m 9 #[.val (.ref x0), .val (.int x1), .val (.int (1 : Int32)), .val (.int (1 : Int32))] [(.int (2 : Int32)), (.int (1 : Int32))])) (T4.setTop (mkF m 47 #[.val (.ref x0), .val (.int x1), .val (.int (1 : Int32)), .val (.int (1 : Int32))] [(.ref x0)])) := by
    refine XS.icmpYes X4.here hx rfl (pc0 := 9) (pc' := 46) rfl (hb hby d11_9) rfl (feq (by decide : ¬ ((1 : Int32) = (2 : Int32)))).2 (by decide) (by decide) ?_
    show Steps p.tables e below (T4.setTop (mkF m 46 #[.val (.ref x0), .val (.int x1), .val (.int (1 : Int32)), .val (.int (1 : Int32))] [])) _
    refine XS.aloadN X4.here hx rfl (hb hby d11_46) rfl rfl ?_
    show Steps p.tables e below (T4.setTop (mkF m 47 #[.val (.ref x0), .val (.int x1), .val (.int (1 : Int32)), .val (.int (1 : Int32))] [(.ref x0)])) _
    exact Steps.refl _
  have pre6 := pre5.trans st6
  obtain ⟨T7, X7, e7, st7⟩ := getF X4 hx hZ hown (host := "") (Or.inl (hw _ (List.mem_of_getElem? (i := 13) rfl))) Via.refl e4 B1 (g := (mkF m 47 #[.val (.ref x0), .val (.int x1), .val (.int (1 : Int32)), .val (.int (1 : Int32))] [(.ref x0)])) rfl rfl (hb hby d11_47)
  have pre7 : Steps p.tables e below (s₁.setTop (entryFrame m #[(.ref x0), (.int x1), (.int (1 : Int32)), (.int (1 : Int32))] 4)) (T7.setTop (mkF m 50 #[.val (.ref x0), .val (.int x1), .val (.int (1 : Int32)), .val (.int (1 : Int32))] [(.ref ao)])) := pre6.trans (st7 _ (Steps.refl _))
  have st8 : Steps p.tables e below (T7.setTop (mkF m 50 #[.val (.ref x0), .val (.int x1), .val (.int (1 : Int32)), .val (.int (1 : Int32))] [(.ref ao)])) (T7.setTop (mkF m 51 #[.val (.ref x0), .val (.int x1), .val (.int (1 : Int32)), .val (.int (1 : Int32))] [(.ref x0), (.ref ao)])) := by
    refine XS.aloadN X7.here hx rfl (hb hby d11_50) rfl rfl ?_
    show Steps p.tables e below (T7.setTop (mkF m 51 #[.val (.ref x0), .val (.int x1), .val (.int (1 : Int32)), .val (.int (1 : Int32))] [(.ref x0), (.ref ao)])) _
    exact Steps.refl _
  have pre8 := pre7.trans st8
  obtain ⟨T9, X9, e9, st9⟩ := getF X7 hx hZ hown (host := "") (Or.inl (hw _ (List.mem_of_getElem? (i := 26) rfl))) Via.refl e7 B3 (g := (mkF m 51 #[.val (.ref x0), .val (.int x1), .val (.int (1 : Int32)), .val (.int (1 : Int32))] [(.ref x0), (.ref ao)])) rfl rfl (hb hby d11_51)
  have pre9 : Steps p.tables e below (s₁.setTop (entryFrame m #[(.ref x0), (.int x1), (.int (1 : Int32)), (.int (1 : Int32))] 4)) (T9.setTop (mkF m 54 #[.val (.ref x0), .val (.int x1), .val (.int (1 : Int32)), .val (.int (1 : Int32))] [(.int (1 : Int32)), (.ref ao)])) := pre8.trans (st9 _ (Steps.refl _))
  have st10 : Steps p.tables e below (T9.setTop (mkF m 54 #[.val (.ref x0), .val (.int x1), .val (.int (1 : Int32)), .val (.int (1 : Int32))] [(.int (1 : Int32)), (.ref ao)])) (T9.setTop (mkF m 55 #[.val (.ref x0), .val (.int x1), .val (.int (1 : Int32)), .val (.int (1 : Int32))] [(.int x1), (.int (1 : Int32)), (.ref ao)])) := by
    refine XS.iloadN X9.here hx rfl (hb hby d11_54) rfl ?_
    show Steps p.tables e below (T9.setTop (mkF m 55 #[.val (.ref x0), .val (.int x1), .val (.int (1 : Int32)), .val (.int (1 : Int32))] [(.int x1), (.int (1 : Int32)), (.ref ao)])) _
    exact Steps.refl _
  have pre10 := pre9.trans st10
  obtain ⟨cl11, Ar11, q11, S11, G11, H11, J11⟩ := id B8
  have in11 : ¬ ((1 : Int32) < 0 ∨ cl11.slots.size ≤ ((1 : Int32)).toNatClampNeg) := inb_of S11 ⟨by decide, by decide⟩
  obtain ⟨T11, h11, X11, e11, W11, st11⟩ := stI X9 hx hZ e9 Ar11 (j := (1 : Int32)) in11 (g := (mkF m 55 #[.val (.ref x0), .val (.int x1), .val (.int (1 : Int32)), .val (.int (1 : Int32))] [(.int x1), (.int (1 : Int32)), (.ref ao)])) rfl rfl (hb hby d11_55)
  have pre11 : Steps p.tables e below (s₁.setTop (entryFrame m #[(.ref x0), (.int x1), (.int (1 : Int32)), (.int (1 : Int32))] 4)) (T11.setTop (mkF m 56 #[.val (.ref x0), .val (.int x1), .val (.int (1 : Int32)), .val (.int (1 : Int32))] [])) := pre10.trans (st11 _ (Steps.refl _))
  have F12 : Exa Z h11 x0 "com/example/portia/portia/index/Postings" := B0.wr W11
  have F13 : Fld Z h11 x0 "com/example/portia/portia/index/Postings" "ordinals" "[I" (.ref ao) := B1.other W11 (Or.inl n_x0_ao)
  have F14 : Fld Z h11 x0 "com/example/portia/portia/index/Postings" "frequencies" "[I" (.ref af) := B2.other W11 (Or.inl n_x0_ao)
  have F15 : Fld Z h11 x0 "com/example/portia/portia/index/Postings" "size" "I" (.int (1 : Int32)) := B3.other W11 (Or.inl n_x0_ao)
  have F16 : Fld Z h11 x0 "com/example/portia/portia/index/Postings" "documentFrequency" "I" (.int (1 : Int32)) := B4.other W11 (Or.inl n_x0_ao)
  have F17 : Fld Z h11 x0 "com/example/portia/portia/index/Postings" "impactFrequencies" "[I" (.ref ai) := B5.other W11 (Or.inl n_x0_ao)
  have F18 : Fld Z h11 x0 "com/example/portia/portia/index/Postings" "impactLengths" "[I" (.ref al) := B6.other W11 (Or.inl n_x0_ao)
  have F19 : Fld Z h11 x0 "com/example/portia/portia/index/Postings" "impactCount" "I" (.int (1 : Int32)) := B7.other W11 (Or.inl n_x0_ao)
  have F21 : Arv Z h11 af kf .int (2 : Int32) [(.int (1 : Int32)), (.int (0 : Int32))] (.int (0 : Int32)) := B9.other W11 (Ne.symm n_ao_af)
  have F22 : Arv Z h11 ai ki .int (1 : Int32) [(.int (1 : Int32))] (.int (0 : Int32)) := B10.other W11 (Ne.symm n_ao_ai)
  have F23 : Arv Z h11 al kl .int (1 : Int32) [(.int (1 : Int32))] (.int (0 : Int32)) := B11.other W11 (Ne.symm n_ao_al)
  have K11 := K0.wr W11 (Or.inl (List.mem_of_getElem? (i := 1) rfl))
  have Z11 : n0 ≤ h11.size := Nat.le_trans Z0 (Keep.of_wr W11).1
  have V11 : Arv Z h11 ao ko .int (2 : Int32) [(.int y0), (.int x1)] (.int (0 : Int32)) := Arv.set Ar11 q11 S11 G11 H11 J11 rfl W11 1 rfl (Nat.le_of_ble_eq_true rfl)
  have N11 := Fr.snoc X11 N0 g_ao
  have st24 : Steps p.tables e below (T11.setTop (mkF m 56 #[.val (.ref x0), .val (.int x1), .val (.int (1 : Int32)), .val (.int (1 : Int32))] [])) (T11.setTop (mkF m 57 #[.val (.ref x0), .val (.int x1), .val (.int (1 : Int32)), .val (.int (1 : Int32))] [(.ref x0)])) := by
    refine XS.aloadN X11.here hx rfl (hb hby d11_56) rfl rfl ?_
    show Steps p.tables e below (T11.setTop (mkF m 57 #[.val (.ref x0), .val (.int x1), .val (.int (1 : Int32)), .val (.int (1 : Int32))] [(.ref x0)])) _
    exact Steps.refl _
  have pre24 := pre11.trans st24
  obtain ⟨T25, X25, e25, st25⟩ := getF X11 hx hZ hown (host := "") (Or.inl (hw _ (List.mem_of_getElem? (i := 15) rfl))) Via.refl e11 F14 (g := (mkF m 57 #[.val (.ref x0), .val (.int x1), .val (.int (1 : Int32)), .val (.int (1 : Int32))] [(.ref x0)])) rfl rfl (hb hby d11_57)
  have pre25 : Steps p.tables e below (s₁.setTop (entryFrame m #[(.ref x0), (.int x1), (.int (1 : Int32)), (.int (1 : Int32))] 4)) (T25.setTop (mkF m 60 #[.val (.ref x0), .val (.int x1), .val (.int (1 : Int32)), .val (.int (1 : Int32))] [(.ref af)])) := pre24.trans (st25 _ (Steps.refl _))
  have st26 : Steps p.tables e below (T25.setTop (mkF m 60 #[.val (.ref x0), .val (.int x1), .val (.int (1 : Int32)), .val (.int (1 : Int32))] [(.ref af)])) (T25.setTop (mkF m 61 #[.val (.ref x0), .val (.int x1), .val (.int (1 : Int32)), .val (.int (1 : Int32))] [(.ref x0), (.ref af)])) := by
    refine XS.aloadN X25.here hx rfl (hb hby d11_60) rfl rfl ?_
    show Steps p.tables e below (T25.setTop (mkF m 61 #[.val (.ref x0), .val (.int x1), .val (.int (1 : Int32)), .val (.int (1 : Int32))] [(.ref x0), (.ref af)])) _
    exact Steps.refl _
  have pre26 := pre25.trans st26
  obtain ⟨T27, X27, e27, st27⟩ := getF X25 hx hZ hown (host := "") (Or.inl (hw _ (List.mem_of_getElem? (i := 26) rfl))) Via.refl e25 F15 (g := (mkF m 61 #[.val (.ref x0), .val (.int x1), .val (.int (1 : Int32)), .val (.int (1 : Int32))] [(.ref x0), (.ref af)])) rfl rfl (hb hby d11_61)
  have pre27 : Steps p.tables e below (s₁.setTop (entryFrame m #[(.ref x0), (.int x1), (.int (1 : Int32)), (.int (1 : Int32))] 4)) (T27.setTop (mkF m 64 #[.val (.ref x0), .val (.int x1), .val (.int (1 : Int32)), .val (.int (1 : Int32))] [(.int (1 : Int32)), (.ref af)])) := pre26.trans (st27 _ (Steps.refl _))
  have st28 : Steps p.tables e below (T27.setTop (mkF m 64 #[.val (.ref x0), .val (.int x1), .val (.int (1 : Int32)), .val (.int (1 : Int32))] [(.int (1 : Int32)), (.ref af)])) (T27.setTop (mkF m 65 #[.val (.ref x0), .val (.int x1), .val (.int (1 : Int32)), .val (.int (1 : Int32))] [(.int (1 : Int32)), (.int (1 : Int32)), (.ref af)])) := by
    refine XS.iloadN X27.here hx rfl (hb hby d11_64) rfl ?_
    show Steps p.tables e below (T27.setTop (mkF m 65 #[.val (.ref x0), .val (.int x1), .val (.int (1 : Int32)), .val (.int (1 : Int32))] [(.int (1 : Int32)), (.int (1 : Int32)), (.ref af)])) _
    exact Steps.refl _
  have pre28 := pre27.trans st28
  obtain ⟨cl29, Ar29, q29, S29, G29, H29, J29⟩ := id F21
  have in29 : ¬ ((1 : Int32) < 0 ∨ cl29.slots.size ≤ ((1 : Int32)).toNatClampNeg) := inb_of S29 ⟨by decide, by decide⟩
  obtain ⟨T29, h29, X29, e29, W29, st29⟩ := stI X27 hx hZ e27 Ar29 (j := (1 : Int32)) in29 (g := (mkF m 65 #[.val (.ref x0), .val (.int x1), .val (.int (1 : Int32)), .val (.int (1 : Int32))] [(.int (1 : Int32)), (.int (1 : Int32)), (.ref af)])) rfl rfl (hb hby d11_65)
  have pre29 : Steps p.tables e below (s₁.setTop (entryFrame m #[(.ref x0), (.int x1), (.int (1 : Int32)), (.int (1 : Int32))] 4)) (T29.setTop (mkF m 66 #[.val (.ref x0), .val (.int x1), .val (.int (1 : Int32)), .val (.int (1 : Int32))] [])) := pre28.trans (st29 _ (Steps.refl _))
  have F30 : Exa Z h29 x0 "com/example/portia/portia/index/Postings" := F12.wr W29
  have F31 : Fld Z h29 x0 "com/example/portia/portia/index/Postings" "ordinals" "[I" (.ref ao) := F13.other W29 (Or.inl n_x0_af)
  have F32 : Fld Z h29 x0 "com/example/portia/portia/index/Postings" "frequencies" "[I" (.ref af) := F14.other W29 (Or.inl n_x0_af)
  have F33 : Fld Z h29 x0 "com/example/portia/portia/index/Postings" "size" "I" (.int (1 : Int32)) := F15.other W29 (Or.inl n_x0_af)
  have F34 : Fld Z h29 x0 "com/example/portia/portia/index/Postings" "documentFrequency" "I" (.int (1 : Int32)) := F16.other W29 (Or.inl n_x0_af)
  have F35 : Fld Z h29 x0 "com/example/portia/portia/index/Postings" "impactFrequencies" "[I" (.ref ai) := F17.other W29 (Or.inl n_x0_af)
  have F36 : Fld Z h29 x0 "com/example/portia/portia/index/Postings" "impactLengths" "[I" (.ref al) := F18.other W29 (Or.inl n_x0_af)
  have F37 : Fld Z h29 x0 "com/example/portia/portia/index/Postings" "impactCount" "I" (.int (1 : Int32)) := F19.other W29 (Or.inl n_x0_af)
  have F39 : Arv Z h29 ai ki .int (1 : Int32) [(.int (1 : Int32))] (.int (0 : Int32)) := F22.other W29 (Ne.symm n_af_ai)
  have F40 : Arv Z h29 al kl .int (1 : Int32) [(.int (1 : Int32))] (.int (0 : Int32)) := F23.other W29 (Ne.symm n_af_al)
  have F41 : Arv Z h29 ao ko .int (2 : Int32) [(.int y0), (.int x1)] (.int (0 : Int32)) := V11.other W29 n_ao_af
  have K29 := K11.wr W29 (Or.inl (List.mem_of_getElem? (i := 2) rfl))
  have Z29 : n0 ≤ h29.size := Nat.le_trans Z11 (Keep.of_wr W29).1
  have V29 : Arv Z h29 af kf .int (2 : Int32) [(.int (1 : Int32)), (.int (1 : Int32))] (.int (0 : Int32)) := Arv.set Ar29 q29 S29 G29 H29 J29 rfl W29 1 rfl (Nat.le_of_ble_eq_true rfl)
  have N29 := Fr.snoc X29 N11 g_af
  have st42 : Steps p.tables e below (T29.setTop (mkF m 66 #[.val (.ref x0), .val (.int x1), .val (.int (1 : Int32)), .val (.int (1 : Int32))] [])) (T29.setTop (mkF m 68 #[.val (.ref x0), .val (.int x1), .val (.int (1 : Int32)), .val (.int (1 : Int32))] [(.ref x0), (.ref x0)])) := by
    refine XS.aloadN X29.here hx rfl (hb hby d11_66) rfl rfl ?_
    show Steps p.tables e below (T29.setTop (mkF m 67 #[.val (.ref x0), .val (.int x1), .val (.int (1 : Int32)), .val (.int (1 : Int32))] [(.ref x0)])) _
    refine XS.dup X29.here hx rfl (hb hby d11_67) rfl rfl ?_
    show Steps p.tables e below (T29.setTop (mkF m 68 #[.val (.ref x0), .val (.int x1), .val (.int (1 : Int32)), .val (.int (1 : Int32))] [(.ref x0), (.ref x0)])) _
    exact Steps.refl _
  have pre42 := pre29.trans st42
  obtain ⟨T43, X43, e43, st43⟩ := getF X29 hx hZ hown (host := "") (Or.inl (hw _ (List.mem_of_getElem? (i := 26) rfl))) Via.refl e29 F33 (g := (mkF m 68 #[.val (.ref x0), .val (.int x1), .val (.int (1 : Int32)), .val (.int (1 : Int32))] [(.ref x0), (.ref x0)])) rfl rfl (hb hby d11_68)
  have pre43 : Steps p.tables e below (s₁.setTop (entryFrame m #[(.ref x0), (.int x1), (.int (1 : Int32)), (.int (1 : Int32))] 4)) (T43.setTop (mkF m 71 #[.val (.ref x0), .val (.int x1), .val (.int (1 : Int32)), .val (.int (1 : Int32))] [(.int (1 : Int32)), (.ref x0)])) := pre42.trans (st43 _ (Steps.refl _))
  have st44 : Steps p.tables e below (T43.setTop (mkF m 71 #[.val (.ref x0), .val (.int x1), .val (.int (1 : Int32)), .val (.int (1 : Int32))] [(.int (1 : Int32)), (.ref x0)])) (T43.setTop (mkF m 73 #[.val (.ref x0), .val (.int x1), .val (.int (1 : Int32)), .val (.int (1 : Int32))] [(.int (2 : Int32)), (.ref x0)])) := by
    refine XS.iconst X43.here hx rfl (hb hby d11_71) ?_
    show Steps p.tables e below (T43.setTop (mkF m 72 #[.val (.ref x0), .val (.int x1), .val (.int (1 : Int32)), .val (.int (1 : Int32))] [(.int (1 : Int32)), (.int (1 : Int32)), (.ref x0)])) _
    refine XS.iadd X43.here hx rfl (hb hby d11_72) rfl ?_
    show Steps p.tables e below (T43.setTop (mkF m 73 #[.val (.ref x0), .val (.int x1), .val (.int (1 : Int32)), .val (.int (1 : Int32))] [(.int (2 : Int32)), (.ref x0)])) _
    exact Steps.refl _
  have pre44 := pre43.trans st44
  obtain ⟨T45, h45, X45, e45, W45, st45⟩ := putF X43 hx hZ hown (host := "") (Or.inl (hw _ (List.mem_of_getElem? (i := 26) rfl))) Via.refl e43 F33 F30 (Or.inl (hw _ (List.mem_of_getElem? (i := 27) rfl))) (hw _ (List.mem_of_getElem? (i := 5) rfl)) (ty := .int) (by decide) rfl rfl (g := (mkF m 73 #[.val (.ref x0), .val (.int x1), .val (.int (1 : Int32)), .val (.int (1 : Int32))] [(.int (2 : Int32)), (.ref x0)])) rfl rfl (hb hby d11_73)
  have pre45 : Steps p.tables e below (s₁.setTop (entryFrame m #[(.ref x0), (.int x1), (.int (1 : Int32)), (.int (1 : Int32))] 4)) (T45.setTop (mkF m 76 #[.val (.ref x0), .val (.int x1), .val (.int (1 : Int32)), .val (.int (1 : Int32))] [])) := pre44.trans (st45 _ (Steps.refl _))
  have F46 : Exa Z h45 x0 "com/example/portia/portia/index/Postings" := F30.wr W45
  have F47 : Fld Z h45 x0 "com/example/portia/portia/index/Postings" "ordinals" "[I" (.ref ao) := F31.other W45 (Or.inr (slot_ne (Or.inl (hw _ (List.mem_of_getElem? (i := 14) rfl))) (Or.inl (hw _ (List.mem_of_getElem? (i := 27) rfl))) (by decide) (t := (.array .int)) (t' := .int) (by decide) (by decide)))
  have F48 : Fld Z h45 x0 "com/example/portia/portia/index/Postings" "frequencies" "[I" (.ref af) := F32.other W45 (Or.inr (slot_ne (Or.inl (hw _ (List.mem_of_getElem? (i := 16) rfl))) (Or.inl (hw _ (List.mem_of_getElem? (i := 27) rfl))) (by decide) (t := (.array .int)) (t' := .int) (by decide) (by decide)))
  have F50 : Fld Z h45 x0 "com/example/portia/portia/index/Postings" "documentFrequency" "I" (.int (1 : Int32)) := F34.other W45 (Or.inr (slot_ne (Or.inl (hw _ (List.mem_of_getElem? (i := 34) rfl))) (Or.inl (hw _ (List.mem_of_getElem? (i := 27) rfl))) (by decide) (t := .int) (t' := .int) (by decide) (by decide)))
  have F51 : Fld Z h45 x0 "com/example/portia/portia/index/Postings" "impactFrequencies" "[I" (.ref ai) := F35.other W45 (Or.inr (slot_ne (Or.inl (hw _ (List.mem_of_getElem? (i := 18) rfl))) (Or.inl (hw _ (List.mem_of_getElem? (i := 27) rfl))) (by decide) (t := (.array .int)) (t' := .int) (by decide) (by decide)))
  have F52 : Fld Z h45 x0 "com/example/portia/portia/index/Postings" "impactLengths" "[I" (.ref al) := F36.other W45 (Or.inr (slot_ne (Or.inl (hw _ (List.mem_of_getElem? (i := 20) rfl))) (Or.inl (hw _ (List.mem_of_getElem? (i := 27) rfl))) (by decide) (t := (.array .int)) (t' := .int) (by decide) (by decide)))
  have F53 : Fld Z h45 x0 "com/example/portia/portia/index/Postings" "impactCount" "I" (.int (1 : Int32)) := F37.other W45 (Or.inr (slot_ne (Or.inl (hw _ (List.mem_of_getElem? (i := 40) rfl))) (Or.inl (hw _ (List.mem_of_getElem? (i := 27) rfl))) (by decide) (t := .int) (t' := .int) (by decide) (by decide)))
  have F54 : Arv Z h45 ai ki .int (1 : Int32) [(.int (1 : Int32))] (.int (0 : Int32)) := F39.other W45 (Ne.symm n_x0_ai)
  have F55 : Arv Z h45 al kl .int (1 : Int32) [(.int (1 : Int32))] (.int (0 : Int32)) := F40.other W45 (Ne.symm n_x0_al)
  have F56 : Arv Z h45 ao ko .int (2 : Int32) [(.int y0), (.int x1)] (.int (0 : Int32)) := F41.other W45 (Ne.symm n_x0_ao)
  have F57 : Arv Z h45 af kf .int (2 : Int32) [(.int (1 : Int32)), (.int (1 : Int32))] (.int (0 : Int32)) := V29.other W45 (Ne.symm n_x0_af)
  have K45 := K29.wr W45 (Or.inl (List.mem_of_getElem? (i := 0) rfl))
  have Z45 : n0 ≤ h45.size := Nat.le_trans Z29 (Keep.of_wr W45).1
  have Fw45 : Fld Z h45 x0 "com/example/portia/portia/index/Postings" "size" "I" (.int (2 : Int32)) := F33.same W45
  have N45 := Fr.snoc X45 N29 g_x0
  have st58 : Steps p.tables e below (T45.setTop (mkF m 76 #[.val (.ref x0), .val (.int x1), .val (.int (1 : Int32)), .val (.int (1 : Int32))] [])) (T45.setTop (mkF m 78 #[.val (.ref x0), .val (.int x1), .val (.int (1 : Int32)), .val (.int (1 : Int32))] [(.ref x0), (.ref x0)])) := by
    refine XS.aloadN X45.here hx rfl (hb hby d11_76) rfl rfl ?_
    show Steps p.tables e below (T45.setTop (mkF m 77 #[.val (.ref x0), .val (.int x1), .val (.int (1 : Int32)), .val (.int (1 : Int32))] [(.ref x0)])) _
    refine XS.dup X45.here hx rfl (hb hby d11_77) rfl rfl ?_
    show Steps p.tables e below (T45.setTop (mkF m 78 #[.val (.ref x0), .val (.int x1), .val (.int (1 : Int32)), .val (.int (1 : Int32))] [(.ref x0), (.ref x0)])) _
    exact Steps.refl _
  have pre58 := pre45.trans st58
  obtain ⟨T59, X59, e59, st59⟩ := getF X45 hx hZ hown (host := "") (Or.inl (hw _ (List.mem_of_getElem? (i := 33) rfl))) Via.refl e45 F50 (g := (mkF m 78 #[.val (.ref x0), .val (.int x1), .val (.int (1 : Int32)), .val (.int (1 : Int32))] [(.ref x0), (.ref x0)])) rfl rfl (hb hby d11_78)
  have pre59 : Steps p.tables e below (s₁.setTop (entryFrame m #[(.ref x0), (.int x1), (.int (1 : Int32)), (.int (1 : Int32))] 4)) (T59.setTop (mkF m 81 #[.val (.ref x0), .val (.int x1), .val (.int (1 : Int32)), .val (.int (1 : Int32))] [(.int (1 : Int32)), (.ref x0)])) := pre58.trans (st59 _ (Steps.refl _))
  have st60 : Steps p.tables e below (T59.setTop (mkF m 81 #[.val (.ref x0), .val (.int x1), .val (.int (1 : Int32)), .val (.int (1 : Int32))] [(.int (1 : Int32)), (.ref x0)])) (T59.setTop (mkF m 83 #[.val (.ref x0), .val (.int x1), .val (.int (1 : Int32)), .val (.int (1 : Int32))] [(.int (2 : Int32)), (.ref x0)])) := by
    refine XS.iconst X59.here hx rfl (hb hby d11_81) ?_
    show Steps p.tables e below (T59.setTop (mkF m 82 #[.val (.ref x0), .val (.int x1), .val (.int (1 : Int32)), .val (.int (1 : Int32))] [(.int (1 : Int32)), (.int (1 : Int32)), (.ref x0)])) _
    refine XS.iadd X59.here hx rfl (hb hby d11_82) rfl ?_
    show Steps p.tables e below (T59.setTop (mkF m 83 #[.val (.ref x0), .val (.int x1), .val (.int (1 : Int32)), .val (.int (1 : Int32))] [(.int (2 : Int32)), (.ref x0)])) _
    exact Steps.refl _
  have pre60 := pre59.trans st60
  obtain ⟨T61, h61, X61, e61, W61, st61⟩ := putF X59 hx hZ hown (host := "") (Or.inl (hw _ (List.mem_of_getElem? (i := 33) rfl))) Via.refl e59 F50 F46 (Or.inl (hw _ (List.mem_of_getElem? (i := 34) rfl))) (hw _ (List.mem_of_getElem? (i := 5) rfl)) (ty := .int) (by decide) rfl rfl (g := (mkF m 83 #[.val (.ref x0), .val (.int x1), .val (.int (1 : Int32)), .val (.int (1 : Int32))] [(.int (2 : Int32)), (.ref x0)])) rfl rfl (hb hby d11_83)
  have pre61 : Steps p.tables e below (s₁.setTop (entryFrame m #[(.ref x0), (.int x1), (.int (1 : Int32)), (.int (1 : Int32))] 4)) (T61.setTop (mkF m 86 #[.val (.ref x0), .val (.int x1), .val (.int (1 : Int32)), .val (.int (1 : Int32))] [])) := pre60.trans (st61 _ (Steps.refl _))
  have F62 : Exa Z h61 x0 "com/example/portia/portia/index/Postings" := F46.wr W61
  have F63 : Fld Z h61 x0 "com/example/portia/portia/index/Postings" "ordinals" "[I" (.ref ao) := F47.other W61 (Or.inr (slot_ne (Or.inl (hw _ (List.mem_of_getElem? (i := 14) rfl))) (Or.inl (hw _ (List.mem_of_getElem? (i := 34) rfl))) (by decide) (t := (.array .int)) (t' := .int) (by decide) (by decide)))
  have F64 : Fld Z h61 x0 "com/example/portia/portia/index/Postings" "frequencies" "[I" (.ref af) := F48.other W61 (Or.inr (slot_ne (Or.inl (hw _ (List.mem_of_getElem? (i := 16) rfl))) (Or.inl (hw _ (List.mem_of_getElem? (i := 34) rfl))) (by decide) (t := (.array .int)) (t' := .int) (by decide) (by decide)))
  have F66 : Fld Z h61 x0 "com/example/portia/portia/index/Postings" "impactFrequencies" "[I" (.ref ai) := F51.other W61 (Or.inr (slot_ne (Or.inl (hw _ (List.mem_of_getElem? (i := 18) rfl))) (Or.inl (hw _ (List.mem_of_getElem? (i := 34) rfl))) (by decide) (t := (.array .int)) (t' := .int) (by decide) (by decide)))
  have F67 : Fld Z h61 x0 "com/example/portia/portia/index/Postings" "impactLengths" "[I" (.ref al) := F52.other W61 (Or.inr (slot_ne (Or.inl (hw _ (List.mem_of_getElem? (i := 20) rfl))) (Or.inl (hw _ (List.mem_of_getElem? (i := 34) rfl))) (by decide) (t := (.array .int)) (t' := .int) (by decide) (by decide)))
  have F68 : Fld Z h61 x0 "com/example/portia/portia/index/Postings" "impactCount" "I" (.int (1 : Int32)) := F53.other W61 (Or.inr (slot_ne (Or.inl (hw _ (List.mem_of_getElem? (i := 40) rfl))) (Or.inl (hw _ (List.mem_of_getElem? (i := 34) rfl))) (by decide) (t := .int) (t' := .int) (by decide) (by decide)))
  have F69 : Arv Z h61 ai ki .int (1 : Int32) [(.int (1 : Int32))] (.int (0 : Int32)) := F54.other W61 (Ne.symm n_x0_ai)
  have F70 : Arv Z h61 al kl .int (1 : Int32) [(.int (1 : Int32))] (.int (0 : Int32)) := F55.other W61 (Ne.symm n_x0_al)
  have F71 : Arv Z h61 ao ko .int (2 : Int32) [(.int y0), (.int x1)] (.int (0 : Int32)) := F56.other W61 (Ne.symm n_x0_ao)
  have F72 : Arv Z h61 af kf .int (2 : Int32) [(.int (1 : Int32)), (.int (1 : Int32))] (.int (0 : Int32)) := F57.other W61 (Ne.symm n_x0_af)
  have F73 : Fld Z h61 x0 "com/example/portia/portia/index/Postings" "size" "I" (.int (2 : Int32)) := Fw45.other W61 (Or.inr (slot_ne (Or.inl (hw _ (List.mem_of_getElem? (i := 27) rfl))) (Or.inl (hw _ (List.mem_of_getElem? (i := 34) rfl))) (by decide) (t := .int) (t' := .int) (by decide) (by decide)))
  have K61 := K45.wr W61 (Or.inl (List.mem_of_getElem? (i := 0) rfl))
  have Z61 : n0 ≤ h61.size := Nat.le_trans Z45 (Keep.of_wr W61).1
  have Fw61 : Fld Z h61 x0 "com/example/portia/portia/index/Postings" "documentFrequency" "I" (.int (2 : Int32)) := F50.same W61
  have N61 := Fr.snoc X61 N45 g_x0
  have st74 : Steps p.tables e below (T61.setTop (mkF m 86 #[.val (.ref x0), .val (.int x1), .val (.int (1 : Int32)), .val (.int (1 : Int32))] [])) (T61.setTop (mkF m 89 #[.val (.ref x0), .val (.int x1), .val (.int (1 : Int32)), .val (.int (1 : Int32))] [(.int (1 : Int32)), (.int (1 : Int32)), (.ref x0)])) := by
    refine XS.aloadN X61.here hx rfl (hb hby d11_86) rfl rfl ?_
    show Steps p.tables e below (T61.setTop (mkF m 87 #[.val (.ref x0), .val (.int x1), .val (.int (1 : Int32)), .val (.int (1 : Int32))] [(.ref x0)])) _
    refine XS.iloadN X61.here hx rfl (hb hby d11_87) rfl ?_
    show Steps p.tables e below (T61.setTop (mkF m 88 #[.val (.ref x0), .val (.int x1), .val (.int (1 : Int32)), .val (.int (1 : Int32))] [(.int (1 : Int32)), (.ref x0)])) _
    refine XS.iloadN X61.here hx rfl (hb hby d11_88) rfl ?_
    show Steps p.tables e below (T61.setTop (mkF m 89 #[.val (.ref x0), .val (.int x1), .val (.int (1 : Int32)), .val (.int (1 : Int32))] [(.int (1 : Int32)), (.int (1 : Int32)), (.ref x0)])) _
    exact Steps.refl _
  have pre74 := pre61.trans st74
  obtain ⟨cq75, q75, q75'⟩ := F62.cell
  obtain ⟨_, _, mp75, -, -, qp75, -, kp75, hkp75, hki75⟩ := Cond.selects_spec (mvT (args := #[]) hZ (hw _ (List.mem_of_getElem? (i := 24) rfl)))
  obtain ⟨_, _, ⟨T75, L75, k75, n75⟩, -, X75, ⟨Lc75, hQ75, l75, y75, z75⟩, st75⟩ := X61.privateBack hx (y := (⟨"com/example/portia/portia/index/Postings", "addImpact", "(II)V"⟩ : MethodName)) hown (mvT hZ (hw _ (List.mem_of_getElem? (i := 35) rfl))) (mvT hZ (hw _ (List.mem_of_getElem? (i := 36) rfl))) (Jvm.Stand.selects_self_of_private (show s.vm.findClass "com/example/portia/portia/index/Postings" = some mp75.cls from findClass_of_methodNamed qp75) hkp75 hki75 (Cond.privateMethod_at (mvP hZ (hw _ (List.mem_of_getElem? (i := 37) rfl)) (args := #[]))) (mvT hZ (hw _ (List.mem_of_getElem? (i := 36) rfl))) (by decide)) (Cond.privateMethod_at (mvP hZ (hw _ (List.mem_of_getElem? (i := 37) rfl)) (args := #[]))) (mvT hZ (hw _ (List.mem_of_getElem? (i := 38) rfl))) (by decide) (backOf (W := 0) (rm7 l Z a0 hw [] x0 ai ki al kl h61 n0 Z61 F66 F67 F68 F69 F70) hZ (hw _ (List.mem_of_getElem? (i := 38) rfl)) (hw _ (List.mem_of_getElem? (i := 6) rfl)) (by decide) (by decide)) (g := (mkF m 89 #[.val (.ref x0), .val (.int x1), .val (.int (1 : Int32)), .val (.int (1 : Int32))] [(.int (1 : Int32)), (.int (1 : Int32)), (.ref x0)])) rfl (by rw [hml]; rfl) (Steps.refl _) (a := x0) (by rw [e61]; exact q75) q75' (argsL := [(.int (1 : Int32)), (.int (1 : Int32))]) (rest := []) (lenOf pd11_0 rfl) rfl (by show 2 * 0 + _ ≤ _; exact Nat.le_of_eq rfl) (hb hby d11_89) (fun _ _ => ⟨rfl, e61, (by decide : 0 + 0 ≤ _), (by decide : 0 + 0 ≤ _)⟩)
  dsimp only [Pt.U, Pt.locs, Pt.cells, Pt.slots] at X75 l75 y75 z75 st75 hQ75
  subst l75 y75 z75
  obtain ⟨rfl, Nq75, e75⟩ := hQ75
  have N75 := Fr.app N61 Nq75
  have pre75 : Steps p.tables e below (s₁.setTop (entryFrame m #[(.ref x0), (.int x1), (.int (1 : Int32)), (.int (1 : Int32))] 4)) (T75.setTop (mkF m 92 #[.val (.ref x0), .val (.int x1), .val (.int (1 : Int32)), .val (.int (1 : Int32))] [])) := pre74.trans st75
  obtain ⟨fs, hr, hrun, hended, hW, hsame⟩ := X75.leave (v := none) (fun _ => rfl)
  refine ⟨_, _, pre75.trans ?_, hrun, hended, _, _, rfl, ?_, ⟨_, rfl⟩, hW, hsame.mono (by decide) (by decide)⟩
  · show Steps p.tables e below (T75.setTop (mkF m 92 #[.val (.ref x0), .val (.int x1), .val (.int (1 : Int32)), .val (.int (1 : Int32))] [])) _
    exact X75.returnOut hx Bd.returns (hb hby d11_92) hr
  · show Q11 Z x0 x1 ao ko af kf ai ki al kl y0 h0 n0 _ T75.heap _
    rw [e75]
    exact ⟨rfl, N75, K61, F62, F63, F64, F73, Fw61, F66, F67, F68, F71, F72, F69, F70⟩
theorem d12_0 : decode prog_19_method_10_code 0 = .ok (.aload_n 0, 1) := by decide +kernel
theorem d12_1 : decode prog_19_method_10_code 1 = .ok (.getfield 22, 3) := by decide +kernel
theorem d12_4 : decode prog_19_method_10_code 4 = .ok (.aload_n 0, 1) := by decide +kernel
theorem d12_5 : decode prog_19_method_10_code 5 = .ok (.getfield 7, 3) := by decide +kernel
theorem d12_8 : decode prog_19_method_10_code 8 = .ok (.arraylength, 1) := by decide +kernel
theorem d12_9 : decode prog_19_method_10_code 9 = .ok (.if_icmp .ne 37, 3) := by decide +kernel
theorem d12_12 : decode prog_19_method_10_code 12 = .ok (.aload_n 0, 1) := by decide +kernel
theorem d12_13 : decode prog_19_method_10_code 13 = .ok (.aload_n 0, 1) := by decide +kernel
theorem d12_14 : decode prog_19_method_10_code 14 = .ok (.getfield 7, 3) := by decide +kernel
theorem d12_17 : decode prog_19_method_10_code 17 = .ok (.aload_n 0, 1) := by decide +kernel
theorem d12_18 : decode prog_19_method_10_code 18 = .ok (.getfield 22, 3) := by decide +kernel
theorem d12_21 : decode prog_19_method_10_code 21 = .ok (.iconst 2, 1) := by decide +kernel
theorem d12_22 : decode prog_19_method_10_code 22 = .ok (.imul, 1) := by decide +kernel
theorem d12_23 : decode prog_19_method_10_code 23 = .ok (.invokestatic 32, 3) := by decide +kernel
theorem d12_26 : decode prog_19_method_10_code 26 = .ok (.putfield 7, 3) := by decide +kernel
theorem d12_29 : decode prog_19_method_10_code 29 = .ok (.aload_n 0, 1) := by decide +kernel
theorem d12_30 : decode prog_19_method_10_code 30 = .ok (.aload_n 0, 1) := by decide +kernel
theorem d12_31 : decode prog_19_method_10_code 31 = .ok (.getfield 13, 3) := by decide +kernel
theorem d12_34 : decode prog_19_method_10_code 34 = .ok (.aload_n 0, 1) := by decide +kernel
theorem d12_35 : decode prog_19_method_10_code 35 = .ok (.getfield 22, 3) := by decide +kernel
theorem d12_38 : decode prog_19_method_10_code 38 = .ok (.iconst 2, 1) := by decide +kernel
theorem d12_39 : decode prog_19_method_10_code 39 = .ok (.imul, 1) := by decide +kernel
theorem d12_40 : decode prog_19_method_10_code 40 = .ok (.invokestatic 32, 3) := by decide +kernel
theorem d12_43 : decode prog_19_method_10_code 43 = .ok (.putfield 13, 3) := by decide +kernel
theorem d12_46 : decode prog_19_method_10_code 46 = .ok (.aload_n 0, 1) := by decide +kernel
theorem d12_47 : decode prog_19_method_10_code 47 = .ok (.getfield 7, 3) := by decide +kernel
theorem d12_50 : decode prog_19_method_10_code 50 = .ok (.aload_n 0, 1) := by decide +kernel
theorem d12_51 : decode prog_19_method_10_code 51 = .ok (.getfield 22, 3) := by decide +kernel
theorem d12_54 : decode prog_19_method_10_code 54 = .ok (.iload_n 1, 1) := by decide +kernel
theorem d12_55 : decode prog_19_method_10_code 55 = .ok (.iastore, 1) := by decide +kernel
theorem d12_56 : decode prog_19_method_10_code 56 = .ok (.aload_n 0, 1) := by decide +kernel
theorem d12_57 : decode prog_19_method_10_code 57 = .ok (.getfield 13, 3) := by decide +kernel
theorem d12_60 : decode prog_19_method_10_code 60 = .ok (.aload_n 0, 1) := by decide +kernel
theorem d12_61 : decode prog_19_method_10_code 61 = .ok (.getfield 22, 3) := by decide +kernel
theorem d12_64 : decode prog_19_method_10_code 64 = .ok (.iload_n 2, 1) := by decide +kernel
theorem d12_65 : decode prog_19_method_10_code 65 = .ok (.iastore, 1) := by decide +kernel
theorem d12_66 : decode prog_19_method_10_code 66 = .ok (.aload_n 0, 1) := by decide +kernel
theorem d12_67 : decode prog_19_method_10_code 67 = .ok (.dup, 1) := by decide +kernel
theorem d12_68 : decode prog_19_method_10_code 68 = .ok (.getfield 22, 3) := by decide +kernel
theorem d12_71 : decode prog_19_method_10_code 71 = .ok (.iconst 1, 1) := by decide +kernel
theorem d12_72 : decode prog_19_method_10_code 72 = .ok (.iadd, 1) := by decide +kernel
theorem d12_73 : decode prog_19_method_10_code 73 = .ok (.putfield 22, 3) := by decide +kernel
theorem d12_76 : decode prog_19_method_10_code 76 = .ok (.aload_n 0, 1) := by decide +kernel
theorem d12_77 : decode prog_19_method_10_code 77 = .ok (.dup, 1) := by decide +kernel
theorem d12_78 : decode prog_19_method_10_code 78 = .ok (.getfield 26, 3) := by decide +kernel
theorem d12_81 : decode prog_19_method_10_code 81 = .ok (.iconst 1, 1) := by decide +kernel
theorem d12_82 : decode prog_19_method_10_code 82 = .ok (.iadd, 1) := by decide +kernel
theorem d12_83 : decode prog_19_method_10_code 83 = .ok (.putfield 26, 3) := by decide +kernel
theorem d12_86 : decode prog_19_method_10_code 86 = .ok (.aload_n 0, 1) := by decide +kernel
theorem d12_87 : decode prog_19_method_10_code 87 = .ok (.iload_n 2, 1) := by decide +kernel
theorem d12_88 : decode prog_19_method_10_code 88 = .ok (.iload_n 3, 1) := by decide +kernel
theorem d12_89 : decode prog_19_method_10_code 89 = .ok (.invokevirtual 38, 3) := by decide +kernel
theorem d12_92 : decode prog_19_method_10_code 92 = .ok (.return_, 1) := by decide +kernel
theorem pn12 : plainName "com/example/portia/portia/index/Postings" = true := by first | (simp [plainName, overriddenIn]; done) | decide +kernel
theorem pd12_0 : parseMethodDescriptor "([II)[I" = some ⟨[(.array .int), .int], some (.array .int)⟩ := by decide +kernel
theorem pd12_1 : parseMethodDescriptor "(II)V" = some ⟨[.int, .int], none⟩ := by decide +kernel
theorem ef12 (m : MethodId) (x0 : Addr) (x1 : Int32) : entryFrame m #[(.ref x0), (.int x1), (.int (1 : Int32)), (.int (1 : Int32))] 4 = mkF m 0 #[.val (.ref x0), .val (.int x1), .val (.int (1 : Int32)), .val (.int (1 : Int32))] [] := by first | (simp [entryFrame, mkF, argsToLocals, Value.category]; done) | rfl
def Q12 (Z : State) (x0 : Addr) (x1 : Int32) (ao : Addr) (ko : ClassId) (af : Addr) (kf : ClassId) (ai : Addr) (ki : ClassId) (al : Addr) (kl : ClassId) (y0 : Int32) (y1 : Int32) (h0 : Heap) (n0 : Nat) (v : Option Value) (h : Heap) (L : List Loc) : Prop := ∃ (ao2 : Addr), ∃ (ko2 : ClassId), ∃ (af2 : Addr), ∃ (kf2 : ClassId), v = none ∧ Fr n0 L ∧ Keep h0 h [x0] ∧ Exa Z h x0 "com/example/portia/portia/index/Postings" ∧ Fld Z h x0 "com/example/portia/portia/index/Postings" "ordinals" "[I" (.ref ao2) ∧ Fld Z h x0 "com/example/portia/portia/index/Postings" "frequencies" "[I" (.ref af2) ∧ Fld Z h x0 "com/example/portia/portia/index/Postings" "size" "I" (.int (3 : Int32)) ∧ Fld Z h x0 "com/example/portia/portia/index/Postings" "documentFrequency" "I" (.int (3 : Int32)) ∧ Fld Z h x0 "com/example/portia/portia/index/Postings" "impactFrequencies" "[I" (.ref ai) ∧ Fld Z h x0 "com/example/portia/portia/index/Postings" "impactLengths" "[I" (.ref al) ∧ Fld Z h x0 "com/example/portia/portia/index/Postings" "impactCount" "I" (.int (1 : Int32)) ∧ Arv Z h ao2 ko2 .int (4 : Int32) [(.int y0), (.int y1), (.int x1), (.int (0 : Int32))] (.int (0 : Int32)) ∧ Arv Z h af2 kf2 .int (4 : Int32) [(.int (1 : Int32)), (.int (1 : Int32)), (.int (1 : Int32)), (.int (0 : Int32))] (.int (0 : Int32)) ∧ Arv Z h ai ki .int (1 : Int32) [(.int (1 : Int32))] (.int (0 : Int32)) ∧ Arv Z h al kl .int (1 : Int32) [(.int (1 : Int32))] (.int (0 : Int32)) ∧ h0.size ≤ ao2 ∧ h0.size ≤ af2 ∧ ao2 ≠ af2
set_option maxRecDepth 65536 in
set_option maxHeartbeats 40000000 in
theorem rm12 (l : Launch) (Z : State) (a0 : Array Value) (hw : ∀ d ∈ tables_1, d.before a0 Z = true) (ws : List Jvm.Cond) (x0 : Addr) (x1 : Int32) (ao : Addr) (ko : ClassId) (af : Addr) (kf : ClassId) (ai : Addr) (ki : ClassId) (al : Addr) (kl : ClassId) (y0 : Int32) (y1 : Int32) (h0 : Heap) (n0 : Nat) (Z0 : n0 ≤ h0.size) (B0 : Exa Z h0 x0 "com/example/portia/portia/index/Postings") (B1 : Fld Z h0 x0 "com/example/portia/portia/index/Postings" "ordinals" "[I" (.ref ao)) (B2 : Fld Z h0 x0 "com/example/portia/portia/index/Postings" "frequencies" "[I" (.ref af)) (B3 : Fld Z h0 x0 "com/example/portia/portia/index/Postings" "size" "I" (.int (2 : Int32))) (B4 : Fld Z h0 x0 "com/example/portia/portia/index/Postings" "documentFrequency" "I" (.int (2 : Int32))) (B5 : Fld Z h0 x0 "com/example/portia/portia/index/Postings" "impactFrequencies" "[I" (.ref ai)) (B6 : Fld Z h0 x0 "com/example/portia/portia/index/Postings" "impactLengths" "[I" (.ref al)) (B7 : Fld Z h0 x0 "com/example/portia/portia/index/Postings" "impactCount" "I" (.int (1 : Int32))) (B8 : Arv Z h0 ao ko .int (2 : Int32) [(.int y0), (.int y1)] (.int (0 : Int32))) (B9 : Arv Z h0 af kf .int (2 : Int32) [(.int (1 : Int32)), (.int (1 : Int32))] (.int (0 : Int32))) (B10 : Arv Z h0 ai ki .int (1 : Int32) [(.int (1 : Int32))] (.int (0 : Int32))) (B11 : Arv Z h0 al kl .int (1 : Int32) [(.int (1 : Int32))] (.int (0 : Int32))) (g_x0 : n0 ≤ x0) (n_x0_ao : x0 ≠ ao) (n_x0_af : x0 ≠ af) (n_x0_ai : x0 ≠ ai) (n_x0_al : x0 ≠ al) (n_ao_af : ao ≠ af) (n_ao_ai : ao ≠ ai) (n_ao_al : ao ≠ al) (n_af_ai : af ≠ ai) (n_af_al : af ≠ al) (n_ai_al : ai ≠ al) :
    MetFree l (⟨"com/example/portia/portia/index/Postings", "add", "(III)V"⟩ : MethodName) (head1 (Jvm.Cond.code (⟨"com/example/portia/portia/index/Postings", "add", "(III)V"⟩ : MethodName) prog_19_method_10_code 4 none :: ws) ({ frames := 2, cells := 2, slots := 8, locals := 33 } : Room)) (fun a U => a = #[(.ref x0), (.int x1), (.int (1 : Int32)), (.int (1 : Int32))] ∧ Z.Warmed39 U.vm ∧ U.heap = h0) (fun _ _ _ _ _ => True) (fun _ U o U' => ∃ v L, o = .returned v ∧ Q12 Z x0 x1 ao ko af kf ai ki al kl y0 y1 h0 n0 v U'.heap L ∧ FrameEnd U o U' L ({ frames := 2, cells := 2, slots := 8, locals := 33 } : Room).cells ({ frames := 2, cells := 2, slots := 8, locals := 33 } : Room).slots) := by
  refine MetFree.of_bodySF (plainFor_of_name pn12) hisR ?_
  intro p e s m args below meth c s₁ Bd hml0 hP hK
  obtain ⟨rfl, hZ, hh⟩ := hP
  have hx := Bd.exec
  have hby := Bd.bytes
  have hml : c.maxLocals = 4 := hml0
  have hown : s.vm.findClass "com/example/portia/portia/index/Postings" = some m.cls := findClass_of_methodNamed Bd.named
  have hnm := (name_of_methodNamed Bd.named Bd.method).1
  have X0 : Stand p l e ({ frames := 2, cells := 2, slots := 8, locals := 33 } : Room) s m #[(.ref x0), (.int x1), (.int (1 : Int32)), (.int (1 : Int32))] below meth c s₁ [] 0 0 := Stand.of_body Bd
  have e0 : s₁.heap = h0 := by rw [← hh, Bd.state]; rfl
  have N0 := Fr.nil n0
  have pre0 : Steps p.tables e below (s₁.setTop (entryFrame m #[(.ref x0), (.int x1), (.int (1 : Int32)), (.int (1 : Int32))] 4)) (s₁.setTop (mkF m 0 #[.val (.ref x0), .val (.int x1), .val (.int (1 : Int32)), .val (.int (1 : Int32))] [])) := castTop (ef12 m x0 x1) (Steps.refl _)
  have K0 := Keep.refl h0 [x0]
  have st1 : Steps p.tables e below (s₁.setTop (mkF m 0 #[.val (.ref x0), .val (.int x1), .val (.int (1 : Int32)), .val (.int (1 : Int32))] [])) (s₁.setTop (mkF m 1 #[.val (.ref x0), .val (.int x1), .val (.int (1 : Int32)), .val (.int (1 : Int32))] [(.ref x0)])) := by
    refine XS.aloadN X0.here hx rfl (hb hby d12_0) rfl rfl ?_
    show Steps p.tables e below (s₁.setTop (mkF m 1 #[.val (.ref x0), .val (.int x1), .val (.int (1 : Int32)), .val (.int (1 : Int32))] [(.ref x0)])) _
    exact Steps.refl _
  have pre1 := pre0.trans st1
  obtain ⟨T2, X2, e2, st2⟩ := getF X0 hx hZ hown (host := "") (Or.inl (hw _ (List.mem_of_getElem? (i := 26) rfl))) Via.refl e0 B3 (g := (mkF m 1 #[.val (.ref x0), .val (.int x1), .val (.int (1 : Int32)), .val (.int (1 : Int32))] [(.ref x0)])) rfl rfl (hb hby d12_1)
  have pre2 : Steps p.tables e below (s₁.setTop (entryFrame m #[(.ref x0), (.int x1), (.int (1 : Int32)), (.int (1 : Int32))] 4)) (T2.setTop (mkF m 4 #[.val (.ref x0), .val (.int x1), .val (.int (1 : Int32)), .val (.int (1 : Int32))] [(.int (2 : Int32))])) := pre1.trans (st2 _ (Steps.refl _))
  have st3 : Steps p.tables e below (T2.setTop (mkF m 4 #[.val (.ref x0), .val (.int x1), .val (.int (1 : Int32)), .val (.int (1 : Int32))] [(.int (2 : Int32))])) (T2.setTop (mkF m 5 #[.val (.ref x0), .val (.int x1), .val (.int (1 : Int32)), .val (.int (1 : Int32))] [(.ref x0), (.int (2 : Int32))])) := by
    refine XS.aloadN X2.here hx rfl (hb hby d12_4) rfl rfl ?_
    show Steps p.tables e below (T2.setTop (mkF m 5 #[.val (.ref x0), .val (.int x1), .val (.int (1 : Int32)), .val (.int (1 : Int32))] [(.ref x0), (.int (2 : Int32))])) _
    exact Steps.refl _
  have pre3 := pre2.trans st3
  obtain ⟨T4, X4, e4, st4⟩ := getF X2 hx hZ hown (host := "") (Or.inl (hw _ (List.mem_of_getElem? (i := 13) rfl))) Via.refl e2 B1 (g := (mkF m 5 #[.val (.ref x0), .val (.int x1), .val (.int (1 : Int32)), .val (.int (1 : Int32))] [(.ref x0), (.int (2 : Int32))])) rfl rfl (hb hby d12_5)
  have pre4 : Steps p.tables e below (s₁.setTop (entryFrame m #[(.ref x0), (.int x1), (.int (1 : Int32)), (.int (1 : Int32))] 4)) (T4.setTop (mkF m 8 #[.val (.ref x0), .val (.int x1), .val (.int (1 : Int32)), .val (.int (1 : Int32))] [(.ref ao), (.int (2 : Int32))])) := pre3.trans (st4 _ (Steps.refl _))
  obtain ⟨cl5, Ar5, q5, S5, G5, H5, J5⟩ := id B8
  have st5 : Steps p.tables e below (T4.setTop (mkF m 8 #[.val (.ref x0), .val (.int x1), .val (.int (1 : Int32)), .val (.int (1 : Int32))] [(.ref ao), (.int (2 : Int32))])) (T4.setTop (mkF m 9 #[.val (.ref x0), .val (.int x1), .val (.int (1 : Int32)), .val (.int (1 : Int32))] [(.int (2 : Int32)), (.int (2 : Int32))])) := by
    refine X4.arraylength hx (by rw [e4]; exact Ar5.1) (State.isArrayOf_alike hZ.alike Ar5.2.1) (g := (mkF m 8 #[.val (.ref x0), .val (.int x1), .val (.int (1 : Int32)), .val (.int (1 : Int32))] [(.ref ao), (.int (2 : Int32))])) rfl rfl (hb hby d12_8) _ ?_
    rw [len_of S5 G5]
    exact Steps.refl _
  have pre5 := pre4.trans st5
  have st6 : Steps p.tables e below (T4.setTop (mkF m 9 #[.val (.ref x0), .val (.int x1), .val (.int (1 : Int32)), .val (.int (1 : Int32))] [(.int (2 : Int32)), (.int (2 : Int32))])) (T4.setTop (mkF m 14 #[.val (.ref x0), .val (.int x1), .val (.int (1 : Int32)), .val (.int (1 : Int32))] [(.ref x0), (.ref x0)])) := by
    refine XS.icmpNo X4.here hx rfl (hb hby d12_9) rfl (teq (by decide : ((2 : Int32) = (2 : Int32)))).2 ?_
    show Steps p.tables e below (T4.setTop (mkF m 12 #[.val (.ref x0), .val (.int x1), .val (.int (1 : Int32)), .val (.int (1 : Int32))] [])) _
    refine XS.aloadN X4.here hx rfl (hb hby d12_12) rfl rfl ?_
    show Steps p.tables e below (T4.setTop (mkF m 13 #[.val (.ref x0), .val (.int x1), .val (.int (1 : Int32)), .val (.int (1 : Int32))] [(.ref x0)])) _
    refine XS.aloadN X4.here hx rfl (hb hby d12_13) rfl rfl ?_
    show Steps p.tables e below (T4.setTop (mkF m 14 #[.val (.ref x0), .val (.int x1), .val (.int (1 : Int32)), .val (.int (1 : Int32))] [(.ref x0), (.ref x0)])) _
    exact Steps.refl _
  have pre6 := pre5.trans st6
  obtain ⟨T7, X7, e7, st7⟩ := getF X4 hx hZ hown (host := "") (Or.inl (hw _ (List.mem_of_getElem? (i := 13) rfl))) Via.refl e4 B1 (g := (mkF m 14 #[.val (.ref x0), .val (.int x1), .val (.int (1 : Int32)), .val (.int (1 : Int32))] [(.ref x0), (.ref x0)])) rfl rfl (hb hby d12_14)
  have pre7 : Steps p.tables e below (s₁.setTop (entryFrame m #[(.ref x0), (.int x1), (.int (1 : Int32)), (.int (1 : Int32))] 4)) (T7.setTop (mkF m 17 #[.val (.ref x0), .val (.int x1), .val (.int (1 : Int32)), .val (.int (1 : Int32))] [(.ref ao), (.ref x0)])) := pre6.trans (st7 _ (Steps.refl _))
  have st8 : Steps p.tables e below (T7.setTop (mkF m 17 #[.val (.ref x0), .val (.int x1), .val (.int (1 : Int32)), .val (.int (1 : Int32))] [(.ref ao), (.ref x0)])) (T7.setTop (mkF m 18 #[.val (.ref x0), .val (.int x1), .val (.int (1 : Int32)), .val (.int (1 : Int32))] [(.ref x0), (.ref ao), (.ref x0)])) := by
    refine XS.aloadN X7.here hx rfl (hb hby d12_17) rfl rfl ?_
    show Steps p.tables e below (T7.setTop (mkF m 18 #[.val (.ref x0), .val (.int x1), .val (.int (1 : Int32)), .val (.int (1 : Int32))] [(.ref x0), (.ref ao), (.ref x0)])) _
    exact Steps.refl _
  have pre8 := pre7.trans st8
  obtain ⟨T9, X9, e9, st9⟩ := getF X7 hx hZ hown (host := "") (Or.inl (hw _ (List.mem_of_getElem? (i := 26) rfl))) Via.refl e7 B3 (g := (mkF m 18 #[.val (.ref x0), .val (.int x1), .val (.int (1 : Int32)), .val (.int (1 : Int32))] [(.ref x0), (.ref ao), (.ref x0)])) rfl rfl (hb hby d12_18)
  have pre9 : Steps p.tables e below (s₁.setTop (entryFrame m #[(.ref x0), (.int x1), (.int (1 : Int32)), (.int (1 : Int32))] 4)) (T9.setTop (mkF m 21 #[.val (.ref x0), .val (.int x1), .val (.int (1 : Int32)), .val (.int (1 : Int32))] [(.int (2 : Int32)), (.ref ao), (.ref x0)])) := pre8.trans (st9 _ (Steps.refl _))
  have st10 : Steps p.tables e below (T9.setTop (mkF m 21 #[.val (.ref x0), .val (.int x1), .val (.int (1 : Int32)), .val (.int (1 : Int32))] [(.int (2 : Int32)), (.ref ao), (.ref x0)])) (T9.setTop (mkF m 23 #[.val (.ref x0), .val (.int x1), .val (.int (1 : Int32)), .val (.int (1 : Int32))] [(.int (4 : Int32)), (.ref ao), (.ref x0)])) := by
    refine XS.iconst X9.here hx rfl (hb hby d12_21) ?_
    show Steps p.tables e below (T9.setTop (mkF m 22 #[.val (.ref x0), .val (.int x1), .val (.int (1 : Int32)), .val (.int (1 : Int32))] [(.int (2 : Int32)), (.int (2 : Int32)), (.ref ao), (.ref x0)])) _
    refine XS.imul X9.here hx rfl (hb hby d12_22) rfl ?_
    show Steps p.tables e below (T9.setTop (mkF m 23 #[.val (.ref x0), .val (.int x1), .val (.int (1 : Int32)), .val (.int (1 : Int32))] [(.int (4 : Int32)), (.ref ao), (.ref x0)])) _
    exact Steps.refl _
  have pre10 := pre9.trans st10
  obtain ⟨_, _, ⟨T11, L11, k11, n11⟩, -, X11, ⟨Lc11, hQ11, l11, y11, z11⟩, st11⟩ := Jvm.LawKit.callS X9 hx (y := (⟨"java/util/Arrays", "copyOf", "([II)[I"⟩ : MethodName)) hown (mvT hZ (hw _ (List.mem_of_getElem? (i := 41) rfl))) (mvT hZ (hw _ (List.mem_of_getElem? (i := 42) rfl))) (mvT hZ (hw _ (List.mem_of_getElem? (i := 43) rfl))) (mvT hZ (hw _ (List.mem_of_getElem? (i := 44) rfl))) (by decide) (backOf (W := 1) (rm4 l Z a0 hw [] ao ko y0 y1 h0 n0 Z0 B8) hZ (hw _ (List.mem_of_getElem? (i := 44) rfl)) (hw _ (List.mem_of_getElem? (i := 43) rfl)) (by decide) (by decide)) (g := (mkF m 23 #[.val (.ref x0), .val (.int x1), .val (.int (1 : Int32)), .val (.int (1 : Int32))] [(.int (4 : Int32)), (.ref ao), (.ref x0)])) rfl (by rw [hml]; rfl) (argsL := [(.ref ao), (.int (4 : Int32))]) (rest := [(.ref x0)]) (lenOf pd12_0 rfl) rfl (by show 2 * 0 + _ ≤ _; exact Nat.le_of_eq rfl) (hb hby d12_23) (fun _ _ => ⟨rfl, e9, (by decide : 0 + 1 ≤ _), (by decide : 0 + 4 ≤ _)⟩)
  dsimp only [Pt.U, Pt.locs, Pt.cells, Pt.slots] at X11 l11 y11 z11 st11 hQ11
  subst l11 y11 z11
  obtain ⟨b11, kr_11, rfl, Nq11, Kq11, gf11, P11_0⟩ := hQ11
  have gn11 : n0 ≤ b11 := Nat.le_trans Z0 gf11
  have sz11 : h0.size ≤ b11 := Nat.le_trans K0.1 gf11
  have nex0_b11 : x0 ≠ b11 := Nat.ne_of_lt (Nat.lt_of_lt_of_le B0.lt gf11)
  have neao_b11 : ao ≠ b11 := Nat.ne_of_lt (Nat.lt_of_lt_of_le B8.lt gf11)
  have neaf_b11 : af ≠ b11 := Nat.ne_of_lt (Nat.lt_of_lt_of_le B9.lt gf11)
  have neai_b11 : ai ≠ b11 := Nat.ne_of_lt (Nat.lt_of_lt_of_le B10.lt gf11)
  have neal_b11 : al ≠ b11 := Nat.ne_of_lt (Nat.lt_of_lt_of_le B11.lt gf11)
  have F12 : Exa Z T11.heap x0 "com/example/portia/portia/index/Postings" := B0.keep Kq11
  have F13 : Fld Z T11.heap x0 "com/example/portia/portia/index/Postings" "ordinals" "[I" (.ref ao) := B1.keep Kq11 nin0
  have F14 : Fld Z T11.heap x0 "com/example/portia/portia/index/Postings" "frequencies" "[I" (.ref af) := B2.keep Kq11 nin0
  have F15 : Fld Z T11.heap x0 "com/example/portia/portia/index/Postings" "size" "I" (.int (2 : Int32)) := B3.keep Kq11 nin0
  have F16 : Fld Z T11.heap x0 "com/example/portia/portia/index/Postings" "documentFrequency" "I" (.int (2 : Int32)) := B4.keep Kq11 nin0
  have F17 : Fld Z T11.heap x0 "com/example/portia/portia/index/Postings" "impactFrequencies" "[I" (.ref ai) := B5.keep Kq11 nin0
  have F18 : Fld Z T11.heap x0 "com/example/portia/portia/index/Postings" "impactLengths" "[I" (.ref al) := B6.keep Kq11 nin0
  have F19 : Fld Z T11.heap x0 "com/example/portia/portia/index/Postings" "impactCount" "I" (.int (1 : Int32)) := B7.keep Kq11 nin0
  have F20 : Arv Z T11.heap ao ko .int (2 : Int32) [(.int y0), (.int y1)] (.int (0 : Int32)) := B8.keep Kq11 nin0
  have F21 : Arv Z T11.heap af kf .int (2 : Int32) [(.int (1 : Int32)), (.int (1 : Int32))] (.int (0 : Int32)) := B9.keep Kq11 nin0
  have F22 : Arv Z T11.heap ai ki .int (1 : Int32) [(.int (1 : Int32))] (.int (0 : Int32)) := B10.keep Kq11 nin0
  have F23 : Arv Z T11.heap al kl .int (1 : Int32) [(.int (1 : Int32))] (.int (0 : Int32)) := B11.keep Kq11 nin0
  have KK11 := K0.trans Kq11 all0
  have Z11 : n0 ≤ T11.heap.size := Nat.le_trans Z0 Kq11.1
  have N11 := Fr.app N0 Nq11
  have pre11 : Steps p.tables e below (s₁.setTop (entryFrame m #[(.ref x0), (.int x1), (.int (1 : Int32)), (.int (1 : Int32))] 4)) (T11.setTop (mkF m 26 #[.val (.ref x0), .val (.int x1), .val (.int (1 : Int32)), .val (.int (1 : Int32))] [(.ref b11), (.ref x0)])) := pre10.trans (st11 _ (Steps.refl _))
  obtain ⟨T24, h24, X24, e24, W24, st24⟩ := putF X11 hx hZ hown (host := "") (Or.inl (hw _ (List.mem_of_getElem? (i := 13) rfl))) Via.refl rfl F13 F12 (Or.inl (hw _ (List.mem_of_getElem? (i := 14) rfl))) (hw _ (List.mem_of_getElem? (i := 5) rfl)) (ty := (.array .int)) (by decide) rfl rfl (g := (mkF m 26 #[.val (.ref x0), .val (.int x1), .val (.int (1 : Int32)), .val (.int (1 : Int32))] [(.ref b11), (.ref x0)])) rfl rfl (hb hby d12_26)
  have pre24 : Steps p.tables e below (s₁.setTop (entryFrame m #[(.ref x0), (.int x1), (.int (1 : Int32)), (.int (1 : Int32))] 4)) (T24.setTop (mkF m 29 #[.val (.ref x0), .val (.int x1), .val (.int (1 : Int32)), .val (.int (1 : Int32))] [])) := pre11.trans (st24 _ (Steps.refl _))
  have F25 : Exa Z h24 x0 "com/example/portia/portia/index/Postings" := F12.wr W24
  have F27 : Fld Z h24 x0 "com/example/portia/portia/index/Postings" "frequencies" "[I" (.ref af) := F14.other W24 (Or.inr (slot_ne (Or.inl (hw _ (List.mem_of_getElem? (i := 16) rfl))) (Or.inl (hw _ (List.mem_of_getElem? (i := 14) rfl))) (by decide) (t := (.array .int)) (t' := (.array .int)) (by decide) (by decide)))
  have F28 : Fld Z h24 x0 "com/example/portia/portia/index/Postings" "size" "I" (.int (2 : Int32)) := F15.other W24 (Or.inr (slot_ne (Or.inl (hw _ (List.mem_of_getElem? (i := 27) rfl))) (Or.inl (hw _ (List.mem_of_getElem? (i := 14) rfl))) (by decide) (t := .int) (t' := (.array .int)) (by decide) (by decide)))
  have F29 : Fld Z h24 x0 "com/example/portia/portia/index/Postings" "documentFrequency" "I" (.int (2 : Int32)) := F16.other W24 (Or.inr (slot_ne (Or.inl (hw _ (List.mem_of_getElem? (i := 34) rfl))) (Or.inl (hw _ (List.mem_of_getElem? (i := 14) rfl))) (by decide) (t := .int) (t' := (.array .int)) (by decide) (by decide)))
  have F30 : Fld Z h24 x0 "com/example/portia/portia/index/Postings" "impactFrequencies" "[I" (.ref ai) := F17.other W24 (Or.inr (slot_ne (Or.inl (hw _ (List.mem_of_getElem? (i := 18) rfl))) (Or.inl (hw _ (List.mem_of_getElem? (i := 14) rfl))) (by decide) (t := (.array .int)) (t' := (.array .int)) (by decide) (by decide)))
  have F31 : Fld Z h24 x0 "com/example/portia/portia/index/Postings" "impactLengths" "[I" (.ref al) := F18.other W24 (Or.inr (slot_ne (Or.inl (hw _ (List.mem_of_getElem? (i := 20) rfl))) (Or.inl (hw _ (List.mem_of_getElem? (i := 14) rfl))) (by decide) (t := (.array .int)) (t' := (.array .int)) (by decide) (by decide)))
  have F32 : Fld Z h24 x0 "com/example/portia/portia/index/Postings" "impactCount" "I" (.int (1 : Int32)) := F19.other W24 (Or.inr (slot_ne (Or.inl (hw _ (List.mem_of_getElem? (i := 40) rfl))) (Or.inl (hw _ (List.mem_of_getElem? (i := 14) rfl))) (by decide) (t := .int) (t' := (.array .int)) (by decide) (by decide)))
  have F33 : Arv Z h24 ao ko .int (2 : Int32) [(.int y0), (.int y1)] (.int (0 : Int32)) := F20.other W24 (Ne.symm n_x0_ao)
  have F34 : Arv Z h24 af kf .int (2 : Int32) [(.int (1 : Int32)), (.int (1 : Int32))] (.int (0 : Int32)) := F21.other W24 (Ne.symm n_x0_af)
  have F35 : Arv Z h24 ai ki .int (1 : Int32) [(.int (1 : Int32))] (.int (0 : Int32)) := F22.other W24 (Ne.symm n_x0_ai)
  have F36 : Arv Z h24 al kl .int (1 : Int32) [(.int (1 : Int32))] (.int (0 : Int32)) := F23.other W24 (Ne.symm n_x0_al)
  have F37 : Arv Z h24 b11 kr_11 .int (4 : Int32) [(.int y0), (.int y1), (.int (0 : Int32)), (.int (0 : Int32))] (.int (0 : Int32)) := P11_0.other W24 (Ne.symm nex0_b11)
  have K24 := KK11.wr W24 (Or.inl (List.mem_of_getElem? (i := 0) rfl))
  have Z24 : n0 ≤ h24.size := Nat.le_trans Z11 (Keep.of_wr W24).1
  have Fw24 : Fld Z h24 x0 "com/example/portia/portia/index/Postings" "ordinals" "[I" (.ref b11) := F13.same W24
  have N24 := Fr.snoc X24 N11 g_x0
  have st38 : Steps p.tables e below (T24.setTop (mkF m 29 #[.val (.ref x0), .val (.int x1), .val (.int (1 : Int32)), .val (.int (1 : Int32))] [])) (T24.setTop (mkF m 31 #[.val (.ref x0), .val (.int x1), .val (.int (1 : Int32)), .val (.int (1 : Int32))] [(.ref x0), (.ref x0)])) := by
    refine XS.aloadN X24.here hx rfl (hb hby d12_29) rfl rfl ?_
    show Steps p.tables e below (T24.setTop (mkF m 30 #[.val (.ref x0), .val (.int x1), .val (.int (1 : Int32)), .val (.int (1 : Int32))] [(.ref x0)])) _
    refine XS.aloadN X24.here hx rfl (hb hby d12_30) rfl rfl ?_
    show Steps p.tables e below (T24.setTop (mkF m 31 #[.val (.ref x0), .val (.int x1), .val (.int (1 : Int32)), .val (.int (1 : Int32))] [(.ref x0), (.ref x0)])) _
    exact Steps.refl _
  have pre38 := pre24.trans st38
  obtain ⟨T39, X39, e39, st39⟩ := getF X24 hx hZ hown (host := "") (Or.inl (hw _ (List.mem_of_getElem? (i := 15) rfl))) Via.refl e24 F27 (g := (mkF m 31 #[.val (.ref x0), .val (.int x1), .val (.int (1 : Int32)), .val (.int (1 : Int32))] [(.ref x0), (.ref x0)])) rfl rfl (hb hby d12_31)
  have pre39 : Steps p.tables e below (s₁.setTop (entryFrame m #[(.ref x0), (.int x1), (.int (1 : Int32)), (.int (1 : Int32))] 4)) (T39.setTop (mkF m 34 #[.val (.ref x0), .val (.int x1), .val (.int (1 : Int32)), .val (.int (1 : Int32))] [(.ref af), (.ref x0)])) := pre38.trans (st39 _ (Steps.refl _))
  have st40 : Steps p.tables e below (T39.setTop (mkF m 34 #[.val (.ref x0), .val (.int x1), .val (.int (1 : Int32)), .val (.int (1 : Int32))] [(.ref af), (.ref x0)])) (T39.setTop (mkF m 35 #[.val (.ref x0), .val (.int x1), .val (.int (1 : Int32)), .val (.int (1 : Int32))] [(.ref x0), (.ref af), (.ref x0)])) := by
    refine XS.aloadN X39.here hx rfl (hb hby d12_34) rfl rfl ?_
    show Steps p.tables e below (T39.setTop (mkF m 35 #[.val (.ref x0), .val (.int x1), .val (.int (1 : Int32)), .val (.int (1 : Int32))] [(.ref x0), (.ref af), (.ref x0)])) _
    exact Steps.refl _
  have pre40 := pre39.trans st40
  obtain ⟨T41, X41, e41, st41⟩ := getF X39 hx hZ hown (host := "") (Or.inl (hw _ (List.mem_of_getElem? (i := 26) rfl))) Via.refl e39 F28 (g := (mkF m 35 #[.val (.ref x0), .val (.int x1), .val (.int (1 : Int32)), .val (.int (1 : Int32))] [(.ref x0), (.ref af), (.ref x0)])) rfl rfl (hb hby d12_35)
  have pre41 : Steps p.tables e below (s₁.setTop (entryFrame m #[(.ref x0), (.int x1), (.int (1 : Int32)), (.int (1 : Int32))] 4)) (T41.setTop (mkF m 38 #[.val (.ref x0), .val (.int x1), .val (.int (1 : Int32)), .val (.int (1 : Int32))] [(.int (2 : Int32)), (.ref af), (.ref x0)])) := pre40.trans (st41 _ (Steps.refl _))
  have st42 : Steps p.tables e below (T41.setTop (mkF m 38 #[.val (.ref x0), .val (.int x1), .val (.int (1 : Int32)), .val (.int (1 : Int32))] [(.int (2 : Int32)), (.ref af), (.ref x0)])) (T41.setTop (mkF m 40 #[.val (.ref x0), .val (.int x1), .val (.int (1 : Int32)), .val (.int (1 : Int32))] [(.int (4 : Int32)), (.ref af), (.ref x0)])) := by
    refine XS.iconst X41.here hx rfl (hb hby d12_38) ?_
    show Steps p.tables e below (T41.setTop (mkF m 39 #[.val (.ref x0), .val (.int x1), .val (.int (1 : Int32)), .val (.int (1 : Int32))] [(.int (2 : Int32)), (.int (2 : Int32)), (.ref af), (.ref x0)])) _
    refine XS.imul X41.here hx rfl (hb hby d12_39) rfl ?_
    show Steps p.tables e below (T41.setTop (mkF m 40 #[.val (.ref x0), .val (.int x1), .val (.int (1 : Int32)), .val (.int (1 : Int32))] [(.int (4 : Int32)), (.ref af), (.ref x0)])) _
    exact Steps.refl _
  have pre42 := pre41.trans st42
  obtain ⟨_, _, ⟨T43, L43, k43, n43⟩, -, X43, ⟨Lc43, hQ43, l43, y43, z43⟩, st43⟩ := Jvm.LawKit.callS X41 hx (y := (⟨"java/util/Arrays", "copyOf", "([II)[I"⟩ : MethodName)) hown (mvT hZ (hw _ (List.mem_of_getElem? (i := 41) rfl))) (mvT hZ (hw _ (List.mem_of_getElem? (i := 42) rfl))) (mvT hZ (hw _ (List.mem_of_getElem? (i := 43) rfl))) (mvT hZ (hw _ (List.mem_of_getElem? (i := 44) rfl))) (by decide) (backOf (W := 1) (rm4 l Z a0 hw [] af kf (1 : Int32) (1 : Int32) h24 n0 Z24 F34) hZ (hw _ (List.mem_of_getElem? (i := 44) rfl)) (hw _ (List.mem_of_getElem? (i := 43) rfl)) (by decide) (by decide)) (g := (mkF m 40 #[.val (.ref x0), .val (.int x1), .val (.int (1 : Int32)), .val (.int (1 : Int32))] [(.int (4 : Int32)), (.ref af), (.ref x0)])) rfl (by rw [hml]; rfl) (argsL := [(.ref af), (.int (4 : Int32))]) (rest := [(.ref x0)]) (lenOf pd12_0 rfl) rfl (by show 2 * 0 + _ ≤ _; exact Nat.le_of_eq rfl) (hb hby d12_40) (fun _ _ => ⟨rfl, e41, (by decide : 1 + 1 ≤ _), (by decide : 4 + 4 ≤ _)⟩)
  dsimp only [Pt.U, Pt.locs, Pt.cells, Pt.slots] at X43 l43 y43 z43 st43 hQ43
  subst l43 y43 z43
  obtain ⟨b43, kr_43, rfl, Nq43, Kq43, gf43, P43_0⟩ := hQ43
  have gn43 : n0 ≤ b43 := Nat.le_trans Z24 gf43
  have sz43 : h0.size ≤ b43 := Nat.le_trans K24.1 gf43
  have nex0_b43 : x0 ≠ b43 := Nat.ne_of_lt (Nat.lt_of_lt_of_le F25.lt gf43)
  have neao_b43 : ao ≠ b43 := Nat.ne_of_lt (Nat.lt_of_lt_of_le F33.lt gf43)
  have neaf_b43 : af ≠ b43 := Nat.ne_of_lt (Nat.lt_of_lt_of_le F34.lt gf43)
  have neai_b43 : ai ≠ b43 := Nat.ne_of_lt (Nat.lt_of_lt_of_le F35.lt gf43)
  have neal_b43 : al ≠ b43 := Nat.ne_of_lt (Nat.lt_of_lt_of_le F36.lt gf43)
  have neb11_b43 : b11 ≠ b43 := Nat.ne_of_lt (Nat.lt_of_lt_of_le F37.lt gf43)
  have F44 : Exa Z T43.heap x0 "com/example/portia/portia/index/Postings" := F25.keep Kq43
  have F45 : Fld Z T43.heap x0 "com/example/portia/portia/index/Postings" "frequencies" "[I" (.ref af) := F27.keep Kq43 nin0
  have F46 : Fld Z T43.heap x0 "com/example/portia/portia/index/Postings" "size" "I" (.int (2 : Int32)) := F28.keep Kq43 nin0
  have F47 : Fld Z T43.heap x0 "com/example/portia/portia/index/Postings" "documentFrequency" "I" (.int (2 : Int32)) := F29.keep Kq43 nin0
  have F48 : Fld Z T43.heap x0 "com/example/portia/portia/index/Postings" "impactFrequencies" "[I" (.ref ai) := F30.keep Kq43 nin0
  have F49 : Fld Z T43.heap x0 "com/example/portia/portia/index/Postings" "impactLengths" "[I" (.ref al) := F31.keep Kq43 nin0
  have F50 : Fld Z T43.heap x0 "com/example/portia/portia/index/Postings" "impactCount" "I" (.int (1 : Int32)) := F32.keep Kq43 nin0
  have F51 : Arv Z T43.heap ao ko .int (2 : Int32) [(.int y0), (.int y1)] (.int (0 : Int32)) := F33.keep Kq43 nin0
  have F52 : Arv Z T43.heap af kf .int (2 : Int32) [(.int (1 : Int32)), (.int (1 : Int32))] (.int (0 : Int32)) := F34.keep Kq43 nin0
  have F53 : Arv Z T43.heap ai ki .int (1 : Int32) [(.int (1 : Int32))] (.int (0 : Int32)) := F35.keep Kq43 nin0
  have F54 : Arv Z T43.heap al kl .int (1 : Int32) [(.int (1 : Int32))] (.int (0 : Int32)) := F36.keep Kq43 nin0
  have F55 : Arv Z T43.heap b11 kr_11 .int (4 : Int32) [(.int y0), (.int y1), (.int (0 : Int32)), (.int (0 : Int32))] (.int (0 : Int32)) := F37.keep Kq43 nin0
  have F56 : Fld Z T43.heap x0 "com/example/portia/portia/index/Postings" "ordinals" "[I" (.ref b11) := Fw24.keep Kq43 nin0
  have KK43 := K24.trans Kq43 all0
  have Z43 : n0 ≤ T43.heap.size := Nat.le_trans Z24 Kq43.1
  have N43 := Fr.app N24 Nq43
  have pre43 : Steps p.tables e below (s₁.setTop (entryFrame m #[(.ref x0), (.int x1), (.int (1 : Int32)), (.int (1 : Int32))] 4)) (T43.setTop (mkF m 43 #[.val (.ref x0), .val (.int x1), .val (.int (1 : Int32)), .val (.int (1 : Int32))] [(.ref b43), (.ref x0)])) := pre42.trans (st43 _ (Steps.refl _))
  obtain ⟨T57, h57, X57, e57, W57, st57⟩ := putF X43 hx hZ hown (host := "") (Or.inl (hw _ (List.mem_of_getElem? (i := 15) rfl))) Via.refl rfl F45 F44 (Or.inl (hw _ (List.mem_of_getElem? (i := 16) rfl))) (hw _ (List.mem_of_getElem? (i := 5) rfl)) (ty := (.array .int)) (by decide) rfl rfl (g := (mkF m 43 #[.val (.ref x0), .val (.int x1), .val (.int (1 : Int32)), .val (.int (1 : Int32))] [(.ref b43), (.ref x0)])) rfl rfl (hb hby d12_43)
  have pre57 : Steps p.tables e below (s₁.setTop (entryFrame m #[(.ref x0), (.int x1), (.int (1 : Int32)), (.int (1 : Int32))] 4)) (T57.setTop (mkF m 46 #[.val (.ref x0), .val (.int x1), .val (.int (1 : Int32)), .val (.int (1 : Int32))] [])) := pre43.trans (st57 _ (Steps.refl _))
  have F58 : Exa Z h57 x0 "com/example/portia/portia/index/Postings" := F44.wr W57
  have F60 : Fld Z h57 x0 "com/example/portia/portia/index/Postings" "size" "I" (.int (2 : Int32)) := F46.other W57 (Or.inr (slot_ne (Or.inl (hw _ (List.mem_of_getElem? (i := 27) rfl))) (Or.inl (hw _ (List.mem_of_getElem? (i := 16) rfl))) (by decide) (t := .int) (t' := (.array .int)) (by decide) (by decide)))
  have F61 : Fld Z h57 x0 "com/example/portia/portia/index/Postings" "documentFrequency" "I" (.int (2 : Int32)) := F47.other W57 (Or.inr (slot_ne (Or.inl (hw _ (List.mem_of_getElem? (i := 34) rfl))) (Or.inl (hw _ (List.mem_of_getElem? (i := 16) rfl))) (by decide) (t := .int) (t' := (.array .int)) (by decide) (by decide)))
  have F62 : Fld Z h57 x0 "com/example/portia/portia/index/Postings" "impactFrequencies" "[I" (.ref ai) := F48.other W57 (Or.inr (slot_ne (Or.inl (hw _ (List.mem_of_getElem? (i := 18) rfl))) (Or.inl (hw _ (List.mem_of_getElem? (i := 16) rfl))) (by decide) (t := (.array .int)) (t' := (.array .int)) (by decide) (by decide)))
  have F63 : Fld Z h57 x0 "com/example/portia/portia/index/Postings" "impactLengths" "[I" (.ref al) := F49.other W57 (Or.inr (slot_ne (Or.inl (hw _ (List.mem_of_getElem? (i := 20) rfl))) (Or.inl (hw _ (List.mem_of_getElem? (i := 16) rfl))) (by decide) (t := (.array .int)) (t' := (.array .int)) (by decide) (by decide)))
  have F64 : Fld Z h57 x0 "com/example/portia/portia/index/Postings" "impactCount" "I" (.int (1 : Int32)) := F50.other W57 (Or.inr (slot_ne (Or.inl (hw _ (List.mem_of_getElem? (i := 40) rfl))) (Or.inl (hw _ (List.mem_of_getElem? (i := 16) rfl))) (by decide) (t := .int) (t' := (.array .int)) (by decide) (by decide)))
  have F65 : Arv Z h57 ao ko .int (2 : Int32) [(.int y0), (.int y1)] (.int (0 : Int32)) := F51.other W57 (Ne.symm n_x0_ao)
  have F66 : Arv Z h57 af kf .int (2 : Int32) [(.int (1 : Int32)), (.int (1 : Int32))] (.int (0 : Int32)) := F52.other W57 (Ne.symm n_x0_af)
  have F67 : Arv Z h57 ai ki .int (1 : Int32) [(.int (1 : Int32))] (.int (0 : Int32)) := F53.other W57 (Ne.symm n_x0_ai)
  have F68 : Arv Z h57 al kl .int (1 : Int32) [(.int (1 : Int32))] (.int (0 : Int32)) := F54.other W57 (Ne.symm n_x0_al)
  have F69 : Arv Z h57 b11 kr_11 .int (4 : Int32) [(.int y0), (.int y1), (.int (0 : Int32)), (.int (0 : Int32))] (.int (0 : Int32)) := F55.other W57 (Ne.symm nex0_b11)
  have F70 : Fld Z h57 x0 "com/example/portia/portia/index/Postings" "ordinals" "[I" (.ref b11) := F56.other W57 (Or.inr (slot_ne (Or.inl (hw _ (List.mem_of_getElem? (i := 14) rfl))) (Or.inl (hw _ (List.mem_of_getElem? (i := 16) rfl))) (by decide) (t := (.array .int)) (t' := (.array .int)) (by decide) (by decide)))
  have F71 : Arv Z h57 b43 kr_43 .int (4 : Int32) [(.int (1 : Int32)), (.int (1 : Int32)), (.int (0 : Int32)), (.int (0 : Int32))] (.int (0 : Int32)) := P43_0.other W57 (Ne.symm nex0_b43)
  have K57 := KK43.wr W57 (Or.inl (List.mem_of_getElem? (i := 0) rfl))
  have Z57 : n0 ≤ h57.size := Nat.le_trans Z43 (Keep.of_wr W57).1
  have Fw57 : Fld Z h57 x0 "com/example/portia/portia/index/Postings" "frequencies" "[I" (.ref b43) := F45.same W57
  have N57 := Fr.snoc X57 N43 g_x0
  have st72 : Steps p.tables e below (T57.setTop (mkF m 46 #[.val (.ref x0), .val (.int x1), .val (.int (1 : Int32)), .val (.int (1 : Int32))] [])) (T57.setTop (mkF m 47 #[.val (.ref x0), .val (.int x1), .val (.int (1 : Int32)), .val (.int (1 : Int32))] [(.ref x0)])) := by
    refine XS.aloadN X57.here hx rfl (hb hby d12_46) rfl rfl ?_
    show Steps p.tables e below (T57.setTop (mkF m 47 #[.val (.ref x0), .val (.int x1), .val (.int (1 : Int32)), .val (.int (1 : Int32))] [(.ref x0)])) _
    exact Steps.refl _
  have pre72 := pre57.trans st72
  obtain ⟨T73, X73, e73, st73⟩ := getF X57 hx hZ hown (host := "") (Or.inl (hw _ (List.mem_of_getElem? (i := 13) rfl))) Via.refl e57 F70 (g := (mkF m 47 #[.val (.ref x0), .val (.int x1), .val (.int (1 : Int32)), .val (.int (1 : Int32))] [(.ref x0)])) rfl rfl (hb hby d12_47)
  have pre73 : Steps p.tables e below (s₁.setTop (entryFrame m #[(.ref x0), (.int x1), (.int (1 : Int32)), (.int (1 : Int32))] 4)) (T73.setTop (mkF m 50 #[.val (.ref x0), .val (.int x1), .val (.int (1 : Int32)), .val (.int (1 : Int32))] [(.ref b11)])) := pre72.trans (st73 _ (Steps.refl _))
  have st74 : Steps p.tables e below (T73.setTop (mkF m 50 #[.val (.ref x0), .val (.int x1), .val (.int (1 : Int32)), .val (.int (1 : Int32))] [(.ref b11)])) (T73.setTop (mkF m 51 #[.val (.ref x0), .val (.int x1), .val (.int (1 : Int32)), .val (.int (1 : Int32))] [(.ref x0), (.ref b11)])) := by
    refine XS.aloadN X73.here hx rfl (hb hby d12_50) rfl rfl ?_
    show Steps p.tables e below (T73.setTop (mkF m 51 #[.val (.ref x0), .val (.int x1), .val (.int (1 : Int32)), .val (.int (1 : Int32))] [(.ref x0), (.ref b11)])) _
    exact Steps.refl _
  have pre74 := pre73.trans st74
  obtain ⟨T75, X75, e75, st75⟩ := getF X73 hx hZ hown (host := "") (Or.inl (hw _ (List.mem_of_getElem? (i := 26) rfl))) Via.refl e73 F60 (g := (mkF m 51 #[.val (.ref x0), .val (.int x1), .val (.int (1 : Int32)), .val (.int (1 : Int32))] [(.ref x0), (.ref b11)])) rfl rfl (hb hby d12_51)
  have pre75 : Steps p.tables e below (s₁.setTop (entryFrame m #[(.ref x0), (.int x1), (.int (1 : Int32)), (.int (1 : Int32))] 4)) (T75.setTop (mkF m 54 #[.val (.ref x0), .val (.int x1), .val (.int (1 : Int32)), .val (.int (1 : Int32))] [(.int (2 : Int32)), (.ref b11)])) := pre74.trans (st75 _ (Steps.refl _))
  have st76 : Steps p.tables e below (T75.setTop (mkF m 54 #[.val (.ref x0), .val (.int x1), .val (.int (1 : Int32)), .val (.int (1 : Int32))] [(.int (2 : Int32)), (.ref b11)])) (T75.setTop (mkF m 55 #[.val (.ref x0), .val (.int x1), .val (.int (1 : Int32)), .val (.int (1 : Int32))] [(.int x1), (.int (2 : Int32)), (.ref b11)])) := by
    refine XS.iloadN X75.here hx rfl (hb hby d12_54) rfl ?_
    show Steps p.tables e below (T75.setTop (mkF m 55 #[.val (.ref x0), .val (.int x1), .val (.int (1 : Int32)), .val (.int (1 : Int32))] [(.int x1), (.int (2 : Int32)), (.ref b11)])) _
    exact Steps.refl _
  have pre76 := pre75.trans st76
  obtain ⟨cl77, Ar77, q77, S77, G77, H77, J77⟩ := id F69
  have in77 : ¬ ((2 : Int32) < 0 ∨ cl77.slots.size ≤ ((2 : Int32)).toNatClampNeg) := inb_of S77 ⟨by decide, by decide⟩
  obtain ⟨T77, h77, X77, e77, W77, st77⟩ := stI X75 hx hZ e75 Ar77 (j := (2 : Int32)) in77 (g := (mkF m 55 #[.val (.ref x0), .val (.int x1), .val (.int (1 : Int32)), .val (.int (1 : Int32))] [(.int x1), (.int (2 : Int32)), (.ref b11)])) rfl rfl (hb hby d12_55)
  have pre77 : Steps p.tables e below (s₁.setTop (entryFrame m #[(.ref x0), (.int x1), (.int (1 : Int32)), (.int (1 : Int32))] 4)) (T77.setTop (mkF m 56 #[.val (.ref x0), .val (.int x1), .val (.int (1 : Int32)), .val (.int (1 : Int32))] [])) := pre76.trans (st77 _ (Steps.refl _))
  have F78 : Exa Z h77 x0 "com/example/portia/portia/index/Postings" := F58.wr W77
  have F79 : Fld Z h77 x0 "com/example/portia/portia/index/Postings" "size" "I" (.int (2 : Int32)) := F60.other W77 (Or.inl nex0_b11)
  have F80 : Fld Z h77 x0 "com/example/portia/portia/index/Postings" "documentFrequency" "I" (.int (2 : Int32)) := F61.other W77 (Or.inl nex0_b11)
  have F81 : Fld Z h77 x0 "com/example/portia/portia/index/Postings" "impactFrequencies" "[I" (.ref ai) := F62.other W77 (Or.inl nex0_b11)
  have F82 : Fld Z h77 x0 "com/example/portia/portia/index/Postings" "impactLengths" "[I" (.ref al) := F63.other W77 (Or.inl nex0_b11)
  have F83 : Fld Z h77 x0 "com/example/portia/portia/index/Postings" "impactCount" "I" (.int (1 : Int32)) := F64.other W77 (Or.inl nex0_b11)
  have F84 : Arv Z h77 ao ko .int (2 : Int32) [(.int y0), (.int y1)] (.int (0 : Int32)) := F65.other W77 neao_b11
  have F85 : Arv Z h77 af kf .int (2 : Int32) [(.int (1 : Int32)), (.int (1 : Int32))] (.int (0 : Int32)) := F66.other W77 neaf_b11
  have F86 : Arv Z h77 ai ki .int (1 : Int32) [(.int (1 : Int32))] (.int (0 : Int32)) := F67.other W77 neai_b11
  have F87 : Arv Z h77 al kl .int (1 : Int32) [(.int (1 : Int32))] (.int (0 : Int32)) := F68.other W77 neal_b11
  have F89 : Fld Z h77 x0 "com/example/portia/portia/index/Postings" "ordinals" "[I" (.ref b11) := F70.other W77 (Or.inl nex0_b11)
  have F90 : Arv Z h77 b43 kr_43 .int (4 : Int32) [(.int (1 : Int32)), (.int (1 : Int32)), (.int (0 : Int32)), (.int (0 : Int32))] (.int (0 : Int32)) := F71.other W77 (Ne.symm neb11_b43)
  have F91 : Fld Z h77 x0 "com/example/portia/portia/index/Postings" "frequencies" "[I" (.ref b43) := Fw57.other W77 (Or.inl nex0_b11)
  have K77 := K57.wr W77 (Or.inr sz11)
  have Z77 : n0 ≤ h77.size := Nat.le_trans Z57 (Keep.of_wr W77).1
  have V77 : Arv Z h77 b11 kr_11 .int (4 : Int32) [(.int y0), (.int y1), (.int x1), (.int (0 : Int32))] (.int (0 : Int32)) := Arv.set Ar77 q77 S77 G77 H77 J77 rfl W77 2 rfl (Nat.le_of_ble_eq_true rfl)
  have N77 := Fr.snoc X77 N57 gn11
  have st92 : Steps p.tables e below (T77.setTop (mkF m 56 #[.val (.ref x0), .val (.int x1), .val (.int (1 : Int32)), .val (.int (1 : Int32))] [])) (T77.setTop (mkF m 57 #[.val (.ref x0), .val (.int x1), .val (.int (1 : Int32)), .val (.int (1 : Int32))] [(.ref x0)])) := by
    refine XS.aloadN X77.here hx rfl (hb hby d12_56) rfl rfl ?_
    show Steps p.tables e below (T77.setTop (mkF m 57 #[.val (.ref x0), .val (.int x1), .val (.int (1 : Int32)), .val (.int (1 : Int32))] [(.ref x0)])) _
    exact Steps.refl _
  have pre92 := pre77.trans st92
  obtain ⟨T93, X93, e93, st93⟩ := getF X77 hx hZ hown (host := "") (Or.inl (hw _ (List.mem_of_getElem? (i := 15) rfl))) Via.refl e77 F91 (g := (mkF m 57 #[.val (.ref x0), .val (.int x1), .val (.int (1 : Int32)), .val (.int (1 : Int32))] [(.ref x0)])) rfl rfl (hb hby d12_57)
  have pre93 : Steps p.tables e below (s₁.setTop (entryFrame m #[(.ref x0), (.int x1), (.int (1 : Int32)), (.int (1 : Int32))] 4)) (T93.setTop (mkF m 60 #[.val (.ref x0), .val (.int x1), .val (.int (1 : Int32)), .val (.int (1 : Int32))] [(.ref b43)])) := pre92.trans (st93 _ (Steps.refl _))
  have st94 : Steps p.tables e below (T93.setTop (mkF m 60 #[.val (.ref x0), .val (.int x1), .val (.int (1 : Int32)), .val (.int (1 : Int32))] [(.ref b43)])) (T93.setTop (mkF m 61 #[.val (.ref x0), .val (.int x1), .val (.int (1 : Int32)), .val (.int (1 : Int32))] [(.ref x0), (.ref b43)])) := by
    refine XS.aloadN X93.here hx rfl (hb hby d12_60) rfl rfl ?_
    show Steps p.tables e below (T93.setTop (mkF m 61 #[.val (.ref x0), .val (.int x1), .val (.int (1 : Int32)), .val (.int (1 : Int32))] [(.ref x0), (.ref b43)])) _
    exact Steps.refl _
  have pre94 := pre93.trans st94
  obtain ⟨T95, X95, e95, st95⟩ := getF X93 hx hZ hown (host := "") (Or.inl (hw _ (List.mem_of_getElem? (i := 26) rfl))) Via.refl e93 F79 (g := (mkF m 61 #[.val (.ref x0), .val (.int x1), .val (.int (1 : Int32)), .val (.int (1 : Int32))] [(.ref x0), (.ref b43)])) rfl rfl (hb hby d12_61)
  have pre95 : Steps p.tables e below (s₁.setTop (entryFrame m #[(.ref x0), (.int x1), (.int (1 : Int32)), (.int (1 : Int32))] 4)) (T95.setTop (mkF m 64 #[.val (.ref x0), .val (.int x1), .val (.int (1 : Int32)), .val (.int (1 : Int32))] [(.int (2 : Int32)), (.ref b43)])) := pre94.trans (st95 _ (Steps.refl _))
  have st96 : Steps p.tables e below (T95.setTop (mkF m 64 #[.val (.ref x0), .val (.int x1), .val (.int (1 : Int32)), .val (.int (1 : Int32))] [(.int (2 : Int32)), (.ref b43)])) (T95.setTop (mkF m 65 #[.val (.ref x0), .val (.int x1), .val (.int (1 : Int32)), .val (.int (1 : Int32))] [(.int (1 : Int32)), (.int (2 : Int32)), (.ref b43)])) := by
    refine XS.iloadN X95.here hx rfl (hb hby d12_64) rfl ?_
    show Steps p.tables e below (T95.setTop (mkF m 65 #[.val (.ref x0), .val (.int x1), .val (.int (1 : Int32)), .val (.int (1 : Int32))] [(.int (1 : Int32)), (.int (2 : Int32)), (.ref b43)])) _
    exact Steps.refl _
  have pre96 := pre95.trans st96
  obtain ⟨cl97, Ar97, q97, S97, G97, H97, J97⟩ := id F90
  have in97 : ¬ ((2 : Int32) < 0 ∨ cl97.slots.size ≤ ((2 : Int32)).toNatClampNeg) := inb_of S97 ⟨by decide, by decide⟩
  obtain ⟨T97, h97, X97, e97, W97, st97⟩ := stI X95 hx hZ e95 Ar97 (j := (2 : Int32)) in97 (g := (mkF m 65 #[.val (.ref x0), .val (.int x1), .val (.int (1 : Int32)), .val (.int (1 : Int32))] [(.int (1 : Int32)), (.int (2 : Int32)), (.ref b43)])) rfl rfl (hb hby d12_65)
  have pre97 : Steps p.tables e below (s₁.setTop (entryFrame m #[(.ref x0), (.int x1), (.int (1 : Int32)), (.int (1 : Int32))] 4)) (T97.setTop (mkF m 66 #[.val (.ref x0), .val (.int x1), .val (.int (1 : Int32)), .val (.int (1 : Int32))] [])) := pre96.trans (st97 _ (Steps.refl _))
  have F98 : Exa Z h97 x0 "com/example/portia/portia/index/Postings" := F78.wr W97
  have F99 : Fld Z h97 x0 "com/example/portia/portia/index/Postings" "size" "I" (.int (2 : Int32)) := F79.other W97 (Or.inl nex0_b43)
  have F100 : Fld Z h97 x0 "com/example/portia/portia/index/Postings" "documentFrequency" "I" (.int (2 : Int32)) := F80.other W97 (Or.inl nex0_b43)
  have F101 : Fld Z h97 x0 "com/example/portia/portia/index/Postings" "impactFrequencies" "[I" (.ref ai) := F81.other W97 (Or.inl nex0_b43)
  have F102 : Fld Z h97 x0 "com/example/portia/portia/index/Postings" "impactLengths" "[I" (.ref al) := F82.other W97 (Or.inl nex0_b43)
  have F103 : Fld Z h97 x0 "com/example/portia/portia/index/Postings" "impactCount" "I" (.int (1 : Int32)) := F83.other W97 (Or.inl nex0_b43)
  have F104 : Arv Z h97 ao ko .int (2 : Int32) [(.int y0), (.int y1)] (.int (0 : Int32)) := F84.other W97 neao_b43
  have F105 : Arv Z h97 af kf .int (2 : Int32) [(.int (1 : Int32)), (.int (1 : Int32))] (.int (0 : Int32)) := F85.other W97 neaf_b43
  have F106 : Arv Z h97 ai ki .int (1 : Int32) [(.int (1 : Int32))] (.int (0 : Int32)) := F86.other W97 neai_b43
  have F107 : Arv Z h97 al kl .int (1 : Int32) [(.int (1 : Int32))] (.int (0 : Int32)) := F87.other W97 neal_b43
  have F108 : Fld Z h97 x0 "com/example/portia/portia/index/Postings" "ordinals" "[I" (.ref b11) := F89.other W97 (Or.inl nex0_b43)
  have F110 : Fld Z h97 x0 "com/example/portia/portia/index/Postings" "frequencies" "[I" (.ref b43) := F91.other W97 (Or.inl nex0_b43)
  have F111 : Arv Z h97 b11 kr_11 .int (4 : Int32) [(.int y0), (.int y1), (.int x1), (.int (0 : Int32))] (.int (0 : Int32)) := V77.other W97 neb11_b43
  have K97 := K77.wr W97 (Or.inr sz43)
  have Z97 : n0 ≤ h97.size := Nat.le_trans Z77 (Keep.of_wr W97).1
  have V97 : Arv Z h97 b43 kr_43 .int (4 : Int32) [(.int (1 : Int32)), (.int (1 : Int32)), (.int (1 : Int32)), (.int (0 : Int32))] (.int (0 : Int32)) := Arv.set Ar97 q97 S97 G97 H97 J97 rfl W97 2 rfl (Nat.le_of_ble_eq_true rfl)
  have N97 := Fr.snoc X97 N77 gn43
  have st112 : Steps p.tables e below (T97.setTop (mkF m 66 #[.val (.ref x0), .val (.int x1), .val (.int (1 : Int32)), .val (.int (1 : Int32))] [])) (T97.setTop (mkF m 68 #[.val (.ref x0), .val (.int x1), .val (.int (1 : Int32)), .val (.int (1 : Int32))] [(.ref x0), (.ref x0)])) := by
    refine XS.aloadN X97.here hx rfl (hb hby d12_66) rfl rfl ?_
    show Steps p.tables e below (T97.setTop (mkF m 67 #[.val (.ref x0), .val (.int x1), .val (.int (1 : Int32)), .val (.int (1 : Int32))] [(.ref x0)])) _
    refine XS.dup X97.here hx rfl (hb hby d12_67) rfl rfl ?_
    show Steps p.tables e below (T97.setTop (mkF m 68 #[.val (.ref x0), .val (.int x1), .val (.int (1 : Int32)), .val (.int (1 : Int32))] [(.ref x0), (.ref x0)])) _
    exact Steps.refl _
  have pre112 := pre97.trans st112
  obtain ⟨T113, X113, e113, st113⟩ := getF X97 hx hZ hown (host := "") (Or.inl (hw _ (List.mem_of_getElem? (i := 26) rfl))) Via.refl e97 F99 (g := (mkF m 68 #[.val (.ref x0), .val (.int x1), .val (.int (1 : Int32)), .val (.int (1 : Int32))] [(.ref x0), (.ref x0)])) rfl rfl (hb hby d12_68)
  have pre113 : Steps p.tables e below (s₁.setTop (entryFrame m #[(.ref x0), (.int x1), (.int (1 : Int32)), (.int (1 : Int32))] 4)) (T113.setTop (mkF m 71 #[.val (.ref x0), .val (.int x1), .val (.int (1 : Int32)), .val (.int (1 : Int32))] [(.int (2 : Int32)), (.ref x0)])) := pre112.trans (st113 _ (Steps.refl _))
  have st114 : Steps p.tables e below (T113.setTop (mkF m 71 #[.val (.ref x0), .val (.int x1), .val (.int (1 : Int32)), .val (.int (1 : Int32))] [(.int (2 : Int32)), (.ref x0)])) (T113.setTop (mkF m 73 #[.val (.ref x0), .val (.int x1), .val (.int (1 : Int32)), .val (.int (1 : Int32))] [(.int (3 : Int32)), (.ref x0)])) := by
    refine XS.iconst X113.here hx rfl (hb hby d12_71) ?_
    show Steps p.tables e below (T113.setTop (mkF m 72 #[.val (.ref x0), .val (.int x1), .val (.int (1 : Int32)), .val (.int (1 : Int32))] [(.int (1 : Int32)), (.int (2 : Int32)), (.ref x0)])) _
    refine XS.iadd X113.here hx rfl (hb hby d12_72) rfl ?_
    show Steps p.tables e below (T113.setTop (mkF m 73 #[.val (.ref x0), .val (.int x1), .val (.int (1 : Int32)), .val (.int (1 : Int32))] [(.int (3 : Int32)), (.ref x0)])) _
    exact Steps.refl _
  have pre114 := pre113.trans st114
  obtain ⟨T115, h115, X115, e115, W115, st115⟩ := putF X113 hx hZ hown (host := "") (Or.inl (hw _ (List.mem_of_getElem? (i := 26) rfl))) Via.refl e113 F99 F98 (Or.inl (hw _ (List.mem_of_getElem? (i := 27) rfl))) (hw _ (List.mem_of_getElem? (i := 5) rfl)) (ty := .int) (by decide) rfl rfl (g := (mkF m 73 #[.val (.ref x0), .val (.int x1), .val (.int (1 : Int32)), .val (.int (1 : Int32))] [(.int (3 : Int32)), (.ref x0)])) rfl rfl (hb hby d12_73)
  have pre115 : Steps p.tables e below (s₁.setTop (entryFrame m #[(.ref x0), (.int x1), (.int (1 : Int32)), (.int (1 : Int32))] 4)) (T115.setTop (mkF m 76 #[.val (.ref x0), .val (.int x1), .val (.int (1 : Int32)), .val (.int (1 : Int32))] [])) := pre114.trans (st115 _ (Steps.refl _))
  have F116 : Exa Z h115 x0 "com/example/portia/portia/index/Postings" := F98.wr W115
  have F118 : Fld Z h115 x0 "com/example/portia/portia/index/Postings" "documentFrequency" "I" (.int (2 : Int32)) := F100.other W115 (Or.inr (slot_ne (Or.inl (hw _ (List.mem_of_getElem? (i := 34) rfl))) (Or.inl (hw _ (List.mem_of_getElem? (i := 27) rfl))) (by decide) (t := .int) (t' := .int) (by decide) (by decide)))
  have F119 : Fld Z h115 x0 "com/example/portia/portia/index/Postings" "impactFrequencies" "[I" (.ref ai) := F101.other W115 (Or.inr (slot_ne (Or.inl (hw _ (List.mem_of_getElem? (i := 18) rfl))) (Or.inl (hw _ (List.mem_of_getElem? (i := 27) rfl))) (by decide) (t := (.array .int)) (t' := .int) (by decide) (by decide)))
  have F120 : Fld Z h115 x0 "com/example/portia/portia/index/Postings" "impactLengths" "[I" (.ref al) := F102.other W115 (Or.inr (slot_ne (Or.inl (hw _ (List.mem_of_getElem? (i := 20) rfl))) (Or.inl (hw _ (List.mem_of_getElem? (i := 27) rfl))) (by decide) (t := (.array .int)) (t' := .int) (by decide) (by decide)))
  have F121 : Fld Z h115 x0 "com/example/portia/portia/index/Postings" "impactCount" "I" (.int (1 : Int32)) := F103.other W115 (Or.inr (slot_ne (Or.inl (hw _ (List.mem_of_getElem? (i := 40) rfl))) (Or.inl (hw _ (List.mem_of_getElem? (i := 27) rfl))) (by decide) (t := .int) (t' := .int) (by decide) (by decide)))
  have F122 : Arv Z h115 ao ko .int (2 : Int32) [(.int y0), (.int y1)] (.int (0 : Int32)) := F104.other W115 (Ne.symm n_x0_ao)
  have F123 : Arv Z h115 af kf .int (2 : Int32) [(.int (1 : Int32)), (.int (1 : Int32))] (.int (0 : Int32)) := F105.other W115 (Ne.symm n_x0_af)
  have F124 : Arv Z h115 ai ki .int (1 : Int32) [(.int (1 : Int32))] (.int (0 : Int32)) := F106.other W115 (Ne.symm n_x0_ai)
  have F125 : Arv Z h115 al kl .int (1 : Int32) [(.int (1 : Int32))] (.int (0 : Int32)) := F107.other W115 (Ne.symm n_x0_al)
  have F126 : Fld Z h115 x0 "com/example/portia/portia/index/Postings" "ordinals" "[I" (.ref b11) := F108.other W115 (Or.inr (slot_ne (Or.inl (hw _ (List.mem_of_getElem? (i := 14) rfl))) (Or.inl (hw _ (List.mem_of_getElem? (i := 27) rfl))) (by decide) (t := (.array .int)) (t' := .int) (by decide) (by decide)))
  have F127 : Fld Z h115 x0 "com/example/portia/portia/index/Postings" "frequencies" "[I" (.ref b43) := F110.other W115 (Or.inr (slot_ne (Or.inl (hw _ (List.mem_of_getElem? (i := 16) rfl))) (Or.inl (hw _ (List.mem_of_getElem? (i := 27) rfl))) (by decide) (t := (.array .int)) (t' := .int) (by decide) (by decide)))
  have F128 : Arv Z h115 b11 kr_11 .int (4 : Int32) [(.int y0), (.int y1), (.int x1), (.int (0 : Int32))] (.int (0 : Int32)) := F111.other W115 (Ne.symm nex0_b11)
  have F129 : Arv Z h115 b43 kr_43 .int (4 : Int32) [(.int (1 : Int32)), (.int (1 : Int32)), (.int (1 : Int32)), (.int (0 : Int32))] (.int (0 : Int32)) := V97.other W115 (Ne.symm nex0_b43)
  have K115 := K97.wr W115 (Or.inl (List.mem_of_getElem? (i := 0) rfl))
  have Z115 : n0 ≤ h115.size := Nat.le_trans Z97 (Keep.of_wr W115).1
  have Fw115 : Fld Z h115 x0 "com/example/portia/portia/index/Postings" "size" "I" (.int (3 : Int32)) := F99.same W115
  have N115 := Fr.snoc X115 N97 g_x0
  have st130 : Steps p.tables e below (T115.setTop (mkF m 76 #[.val (.ref x0), .val (.int x1), .val (.int (1 : Int32)), .val (.int (1 : Int32))] [])) (T115.setTop (mkF m 78 #[.val (.ref x0), .val (.int x1), .val (.int (1 : Int32)), .val (.int (1 : Int32))] [(.ref x0), (.ref x0)])) := by
    refine XS.aloadN X115.here hx rfl (hb hby d12_76) rfl rfl ?_
    show Steps p.tables e below (T115.setTop (mkF m 77 #[.val (.ref x0), .val (.int x1), .val (.int (1 : Int32)), .val (.int (1 : Int32))] [(.ref x0)])) _
    refine XS.dup X115.here hx rfl (hb hby d12_77) rfl rfl ?_
    show Steps p.tables e below (T115.setTop (mkF m 78 #[.val (.ref x0), .val (.int x1), .val (.int (1 : Int32)), .val (.int (1 : Int32))] [(.ref x0), (.ref x0)])) _
    exact Steps.refl _
  have pre130 := pre115.trans st130
  obtain ⟨T131, X131, e131, st131⟩ := getF X115 hx hZ hown (host := "") (Or.inl (hw _ (List.mem_of_getElem? (i := 33) rfl))) Via.refl e115 F118 (g := (mkF m 78 #[.val (.ref x0), .val (.int x1), .val (.int (1 : Int32)), .val (.int (1 : Int32))] [(.ref x0), (.ref x0)])) rfl rfl (hb hby d12_78)
  have pre131 : Steps p.tables e below (s₁.setTop (entryFrame m #[(.ref x0), (.int x1), (.int (1 : Int32)), (.int (1 : Int32))] 4)) (T131.setTop (mkF m 81 #[.val (.ref x0), .val (.int x1), .val (.int (1 : Int32)), .val (.int (1 : Int32))] [(.int (2 : Int32)), (.ref x0)])) := pre130.trans (st131 _ (Steps.refl _))
  have st132 : Steps p.tables e below (T131.setTop (mkF m 81 #[.val (.ref x0), .val (.int x1), .val (.int (1 : Int32)), .val (.int (1 : Int32))] [(.int (2 : Int32)), (.ref x0)])) (T131.setTop (mkF m 83 #[.val (.ref x0), .val (.int x1), .val (.int (1 : Int32)), .val (.int (1 : Int32))] [(.int (3 : Int32)), (.ref x0)])) := by
    refine XS.iconst X131.here hx rfl (hb hby d12_81) ?_
    show Steps p.tables e below (T131.setTop (mkF m 82 #[.val (.ref x0), .val (.int x1), .val (.int (1 : Int32)), .val (.int (1 : Int32))] [(.int (1 : Int32)), (.int (2 : Int32)), (.ref x0)])) _
    refine XS.iadd X131.here hx rfl (hb hby d12_82) rfl ?_
    show Steps p.tables e below (T131.setTop (mkF m 83 #[.val (.ref x0), .val (.int x1), .val (.int (1 : Int32)), .val (.int (1 : Int32))] [(.int (3 : Int32)), (.ref x0)])) _
    exact Steps.refl _
  have pre132 := pre131.trans st132
  obtain ⟨T133, h133, X133, e133, W133, st133⟩ := putF X131 hx hZ hown (host := "") (Or.inl (hw _ (List.mem_of_getElem? (i := 33) rfl))) Via.refl e131 F118 F116 (Or.inl (hw _ (List.mem_of_getElem? (i := 34) rfl))) (hw _ (List.mem_of_getElem? (i := 5) rfl)) (ty := .int) (by decide) rfl rfl (g := (mkF m 83 #[.val (.ref x0), .val (.int x1), .val (.int (1 : Int32)), .val (.int (1 : Int32))] [(.int (3 : Int32)), (.ref x0)])) rfl rfl (hb hby d12_83)
  have pre133 : Steps p.tables e below (s₁.setTop (entryFrame m #[(.ref x0), (.int x1), (.int (1 : Int32)), (.int (1 : Int32))] 4)) (T133.setTop (mkF m 86 #[.val (.ref x0), .val (.int x1), .val (.int (1 : Int32)), .val (.int (1 : Int32))] [])) := pre132.trans (st133 _ (Steps.refl _))
  have F134 : Exa Z h133 x0 "com/example/portia/portia/index/Postings" := F116.wr W133
  have F136 : Fld Z h133 x0 "com/example/portia/portia/index/Postings" "impactFrequencies" "[I" (.ref ai) := F119.other W133 (Or.inr (slot_ne (Or.inl (hw _ (List.mem_of_getElem? (i := 18) rfl))) (Or.inl (hw _ (List.mem_of_getElem? (i := 34) rfl))) (by decide) (t := (.array .int)) (t' := .int) (by decide) (by decide)))
  have F137 : Fld Z h133 x0 "com/example/portia/portia/index/Postings" "impactLengths" "[I" (.ref al) := F120.other W133 (Or.inr (slot_ne (Or.inl (hw _ (List.mem_of_getElem? (i := 20) rfl))) (Or.inl (hw _ (List.mem_of_getElem? (i := 34) rfl))) (by decide) (t := (.array .int)) (t' := .int) (by decide) (by decide)))
  have F138 : Fld Z h133 x0 "com/example/portia/portia/index/Postings" "impactCount" "I" (.int (1 : Int32)) := F121.other W133 (Or.inr (slot_ne (Or.inl (hw _ (List.mem_of_getElem? (i := 40) rfl))) (Or.inl (hw _ (List.mem_of_getElem? (i := 34) rfl))) (by decide) (t := .int) (t' := .int) (by decide) (by decide)))
  have F139 : Arv Z h133 ao ko .int (2 : Int32) [(.int y0), (.int y1)] (.int (0 : Int32)) := F122.other W133 (Ne.symm n_x0_ao)
  have F140 : Arv Z h133 af kf .int (2 : Int32) [(.int (1 : Int32)), (.int (1 : Int32))] (.int (0 : Int32)) := F123.other W133 (Ne.symm n_x0_af)
  have F141 : Arv Z h133 ai ki .int (1 : Int32) [(.int (1 : Int32))] (.int (0 : Int32)) := F124.other W133 (Ne.symm n_x0_ai)
  have F142 : Arv Z h133 al kl .int (1 : Int32) [(.int (1 : Int32))] (.int (0 : Int32)) := F125.other W133 (Ne.symm n_x0_al)
  have F143 : Fld Z h133 x0 "com/example/portia/portia/index/Postings" "ordinals" "[I" (.ref b11) := F126.other W133 (Or.inr (slot_ne (Or.inl (hw _ (List.mem_of_getElem? (i := 14) rfl))) (Or.inl (hw _ (List.mem_of_getElem? (i := 34) rfl))) (by decide) (t := (.array .int)) (t' := .int) (by decide) (by decide)))
  have F144 : Fld Z h133 x0 "com/example/portia/portia/index/Postings" "frequencies" "[I" (.ref b43) := F127.other W133 (Or.inr (slot_ne (Or.inl (hw _ (List.mem_of_getElem? (i := 16) rfl))) (Or.inl (hw _ (List.mem_of_getElem? (i := 34) rfl))) (by decide) (t := (.array .int)) (t' := .int) (by decide) (by decide)))
  have F145 : Arv Z h133 b11 kr_11 .int (4 : Int32) [(.int y0), (.int y1), (.int x1), (.int (0 : Int32))] (.int (0 : Int32)) := F128.other W133 (Ne.symm nex0_b11)
  have F146 : Arv Z h133 b43 kr_43 .int (4 : Int32) [(.int (1 : Int32)), (.int (1 : Int32)), (.int (1 : Int32)), (.int (0 : Int32))] (.int (0 : Int32)) := F129.other W133 (Ne.symm nex0_b43)
  have F147 : Fld Z h133 x0 "com/example/portia/portia/index/Postings" "size" "I" (.int (3 : Int32)) := Fw115.other W133 (Or.inr (slot_ne (Or.inl (hw _ (List.mem_of_getElem? (i := 27) rfl))) (Or.inl (hw _ (List.mem_of_getElem? (i := 34) rfl))) (by decide) (t := .int) (t' := .int) (by decide) (by decide)))
  have K133 := K115.wr W133 (Or.inl (List.mem_of_getElem? (i := 0) rfl))
  have Z133 : n0 ≤ h133.size := Nat.le_trans Z115 (Keep.of_wr W133).1
  have Fw133 : Fld Z h133 x0 "com/example/portia/portia/index/Postings" "documentFrequency" "I" (.int (3 : Int32)) := F118.same W133
  have N133 := Fr.snoc X133 N115 g_x0
  have st148 : Steps p.tables e below (T133.setTop (mkF m 86 #[.val (.ref x0), .val (.int x1), .val (.int (1 : Int32)), .val (.int (1 : Int32))] [])) (T133.setTop (mkF m 89 #[.val (.ref x0), .val (.int x1), .val (.int (1 : Int32)), .val (.int (1 : Int32))] [(.int (1 : Int32)), (.int (1 : Int32)), (.ref x0)])) := by
    refine XS.aloadN X133.here hx rfl (hb hby d12_86) rfl rfl ?_
    show Steps p.tables e below (T133.setTop (mkF m 87 #[.val (.ref x0), .val (.int x1), .val (.int (1 : Int32)), .val (.int (1 : Int32))] [(.ref x0)])) _
    refine XS.iloadN X133.here hx rfl (hb hby d12_87) rfl ?_
    show Steps p.tables e below (T133.setTop (mkF m 88 #[.val (.ref x0), .val (.int x1), .val (.int (1 : Int32)), .val (.int (1 : Int32))] [(.int (1 : Int32)), (.ref x0)])) _
    refine XS.iloadN X133.here hx rfl (hb hby d12_88) rfl ?_
    show Steps p.tables e below (T133.setTop (mkF m 89 #[.val (.ref x0), .val (.int x1), .val (.int (1 : Int32)), .val (.int (1 : Int32))] [(.int (1 : Int32)), (.int (1 : Int32)), (.ref x0)])) _
    exact Steps.refl _
  have pre148 := pre133.trans st148
  obtain ⟨cq149, q149, q149'⟩ := F134.cell
  obtain ⟨_, _, mp149, -, -, qp149, -, kp149, hkp149, hki149⟩ := Cond.selects_spec (mvT (args := #[]) hZ (hw _ (List.mem_of_getElem? (i := 24) rfl)))
  obtain ⟨_, _, ⟨T149, L149, k149, n149⟩, -, X149, ⟨Lc149, hQ149, l149, y149, z149⟩, st149⟩ := X133.privateBack hx (y := (⟨"com/example/portia/portia/index/Postings", "addImpact", "(II)V"⟩ : MethodName)) hown (mvT hZ (hw _ (List.mem_of_getElem? (i := 35) rfl))) (mvT hZ (hw _ (List.mem_of_getElem? (i := 36) rfl))) (Jvm.Stand.selects_self_of_private (show s.vm.findClass "com/example/portia/portia/index/Postings" = some mp149.cls from findClass_of_methodNamed qp149) hkp149 hki149 (Cond.privateMethod_at (mvP hZ (hw _ (List.mem_of_getElem? (i := 37) rfl)) (args := #[]))) (mvT hZ (hw _ (List.mem_of_getElem? (i := 36) rfl))) (by decide)) (Cond.privateMethod_at (mvP hZ (hw _ (List.mem_of_getElem? (i := 37) rfl)) (args := #[]))) (mvT hZ (hw _ (List.mem_of_getElem? (i := 38) rfl))) (by decide) (backOf (W := 0) (rm7 l Z a0 hw [] x0 ai ki al kl h133 n0 Z133 F136 F137 F138 F141 F142) hZ (hw _ (List.mem_of_getElem? (i := 38) rfl)) (hw _ (List.mem_of_getElem? (i := 6) rfl)) (by decide) (by decide)) (g := (mkF m 89 #[.val (.ref x0), .val (.int x1), .val (.int (1 : Int32)), .val (.int (1 : Int32))] [(.int (1 : Int32)), (.int (1 : Int32)), (.ref x0)])) rfl (by rw [hml]; rfl) (Steps.refl _) (a := x0) (by rw [e133]; exact q149) q149' (argsL := [(.int (1 : Int32)), (.int (1 : Int32))]) (rest := []) (lenOf pd12_1 rfl) rfl (by show 2 * 0 + _ ≤ _; exact Nat.le_of_eq rfl) (hb hby d12_89) (fun _ _ => ⟨rfl, e133, (by decide : 2 + 0 ≤ _), (by decide : 8 + 0 ≤ _)⟩)
  dsimp only [Pt.U, Pt.locs, Pt.cells, Pt.slots] at X149 l149 y149 z149 st149 hQ149
  subst l149 y149 z149
  obtain ⟨rfl, Nq149, e149⟩ := hQ149
  have N149 := Fr.app N133 Nq149
  have pre149 : Steps p.tables e below (s₁.setTop (entryFrame m #[(.ref x0), (.int x1), (.int (1 : Int32)), (.int (1 : Int32))] 4)) (T149.setTop (mkF m 92 #[.val (.ref x0), .val (.int x1), .val (.int (1 : Int32)), .val (.int (1 : Int32))] [])) := pre148.trans st149
  obtain ⟨fs, hr, hrun, hended, hW, hsame⟩ := X149.leave (v := none) (fun _ => rfl)
  refine ⟨_, _, pre149.trans ?_, hrun, hended, _, _, rfl, ?_, ⟨_, rfl⟩, hW, hsame.mono (by decide) (by decide)⟩
  · show Steps p.tables e below (T149.setTop (mkF m 92 #[.val (.ref x0), .val (.int x1), .val (.int (1 : Int32)), .val (.int (1 : Int32))] [])) _
    exact X149.returnOut hx Bd.returns (hb hby d12_92) hr
  · show Q12 Z x0 x1 ao ko af kf ai ki al kl y0 y1 h0 n0 _ T149.heap _
    rw [e149]
    exact ⟨b11, kr_11, b43, kr_43, rfl, N149, K133, F134, F143, F144, F147, Fw133, F136, F137, F138, F145, F146, F141, F142, sz11, sz43, neb11_b43⟩
theorem d13_0 : decode prog_19_method_10_code 0 = .ok (.aload_n 0, 1) := by decide +kernel
theorem d13_1 : decode prog_19_method_10_code 1 = .ok (.getfield 22, 3) := by decide +kernel
theorem d13_4 : decode prog_19_method_10_code 4 = .ok (.aload_n 0, 1) := by decide +kernel
theorem d13_5 : decode prog_19_method_10_code 5 = .ok (.getfield 7, 3) := by decide +kernel
theorem d13_8 : decode prog_19_method_10_code 8 = .ok (.arraylength, 1) := by decide +kernel
theorem d13_9 : decode prog_19_method_10_code 9 = .ok (.if_icmp .ne 37, 3) := by decide +kernel
theorem d13_46 : decode prog_19_method_10_code 46 = .ok (.aload_n 0, 1) := by decide +kernel
theorem d13_47 : decode prog_19_method_10_code 47 = .ok (.getfield 7, 3) := by decide +kernel
theorem d13_50 : decode prog_19_method_10_code 50 = .ok (.aload_n 0, 1) := by decide +kernel
theorem d13_51 : decode prog_19_method_10_code 51 = .ok (.getfield 22, 3) := by decide +kernel
theorem d13_54 : decode prog_19_method_10_code 54 = .ok (.iload_n 1, 1) := by decide +kernel
theorem d13_55 : decode prog_19_method_10_code 55 = .ok (.iastore, 1) := by decide +kernel
theorem d13_56 : decode prog_19_method_10_code 56 = .ok (.aload_n 0, 1) := by decide +kernel
theorem d13_57 : decode prog_19_method_10_code 57 = .ok (.getfield 13, 3) := by decide +kernel
theorem d13_60 : decode prog_19_method_10_code 60 = .ok (.aload_n 0, 1) := by decide +kernel
theorem d13_61 : decode prog_19_method_10_code 61 = .ok (.getfield 22, 3) := by decide +kernel
theorem d13_64 : decode prog_19_method_10_code 64 = .ok (.iload_n 2, 1) := by decide +kernel
theorem d13_65 : decode prog_19_method_10_code 65 = .ok (.iastore, 1) := by decide +kernel
theorem d13_66 : decode prog_19_method_10_code 66 = .ok (.aload_n 0, 1) := by decide +kernel
theorem d13_67 : decode prog_19_method_10_code 67 = .ok (.dup, 1) := by decide +kernel
theorem d13_68 : decode prog_19_method_10_code 68 = .ok (.getfield 22, 3) := by decide +kernel
theorem d13_71 : decode prog_19_method_10_code 71 = .ok (.iconst 1, 1) := by decide +kernel
theorem d13_72 : decode prog_19_method_10_code 72 = .ok (.iadd, 1) := by decide +kernel
theorem d13_73 : decode prog_19_method_10_code 73 = .ok (.putfield 22, 3) := by decide +kernel
theorem d13_76 : decode prog_19_method_10_code 76 = .ok (.aload_n 0, 1) := by decide +kernel
theorem d13_77 : decode prog_19_method_10_code 77 = .ok (.dup, 1) := by decide +kernel
theorem d13_78 : decode prog_19_method_10_code 78 = .ok (.getfield 26, 3) := by decide +kernel
theorem d13_81 : decode prog_19_method_10_code 81 = .ok (.iconst 1, 1) := by decide +kernel
theorem d13_82 : decode prog_19_method_10_code 82 = .ok (.iadd, 1) := by decide +kernel
theorem d13_83 : decode prog_19_method_10_code 83 = .ok (.putfield 26, 3) := by decide +kernel
theorem d13_86 : decode prog_19_method_10_code 86 = .ok (.aload_n 0, 1) := by decide +kernel
theorem d13_87 : decode prog_19_method_10_code 87 = .ok (.iload_n 2, 1) := by decide +kernel
theorem d13_88 : decode prog_19_method_10_code 88 = .ok (.iload_n 3, 1) := by decide +kernel
theorem d13_89 : decode prog_19_method_10_code 89 = .ok (.invokevirtual 38, 3) := by decide +kernel
theorem d13_92 : decode prog_19_method_10_code 92 = .ok (.return_, 1) := by decide +kernel
theorem pn13 : plainName "com/example/portia/portia/index/Postings" = true := by first | (simp [plainName, overriddenIn]; done) | decide +kernel
theorem pd13_0 : parseMethodDescriptor "(II)V" = some ⟨[.int, .int], none⟩ := by decide +kernel
theorem ef13 (m : MethodId) (x0 : Addr) (x1 : Int32) : entryFrame m #[(.ref x0), (.int x1), (.int (1 : Int32)), (.int (1 : Int32))] 4 = mkF m 0 #[.val (.ref x0), .val (.int x1), .val (.int (1 : Int32)), .val (.int (1 : Int32))] [] := by first | (simp [entryFrame, mkF, argsToLocals, Value.category]; done) | rfl
def Q13 (Z : State) (x0 : Addr) (x1 : Int32) (ao : Addr) (ko : ClassId) (af : Addr) (kf : ClassId) (ai : Addr) (ki : ClassId) (al : Addr) (kl : ClassId) (y0 : Int32) (y1 : Int32) (y2 : Int32) (h0 : Heap) (n0 : Nat) (v : Option Value) (h : Heap) (L : List Loc) : Prop := v = none ∧ Fr n0 L ∧ Keep h0 h [x0, ao, af] ∧ Exa Z h x0 "com/example/portia/portia/index/Postings" ∧ Fld Z h x0 "com/example/portia/portia/index/Postings" "ordinals" "[I" (.ref ao) ∧ Fld Z h x0 "com/example/portia/portia/index/Postings" "frequencies" "[I" (.ref af) ∧ Fld Z h x0 "com/example/portia/portia/index/Postings" "size" "I" (.int (4 : Int32)) ∧ Fld Z h x0 "com/example/portia/portia/index/Postings" "documentFrequency" "I" (.int (4 : Int32)) ∧ Fld Z h x0 "com/example/portia/portia/index/Postings" "impactFrequencies" "[I" (.ref ai) ∧ Fld Z h x0 "com/example/portia/portia/index/Postings" "impactLengths" "[I" (.ref al) ∧ Fld Z h x0 "com/example/portia/portia/index/Postings" "impactCount" "I" (.int (1 : Int32)) ∧ Arv Z h ao ko .int (4 : Int32) [(.int y0), (.int y1), (.int y2), (.int x1)] (.int (0 : Int32)) ∧ Arv Z h af kf .int (4 : Int32) [(.int (1 : Int32)), (.int (1 : Int32)), (.int (1 : Int32)), (.int (1 : Int32))] (.int (0 : Int32)) ∧ Arv Z h ai ki .int (1 : Int32) [(.int (1 : Int32))] (.int (0 : Int32)) ∧ Arv Z h al kl .int (1 : Int32) [(.int (1 : Int32))] (.int (0 : Int32))
set_option maxRecDepth 65536 in
set_option maxHeartbeats 40000000 in
theorem rm13 (l : Launch) (Z : State) (a0 : Array Value) (hw : ∀ d ∈ tables_1, d.before a0 Z = true) (ws : List Jvm.Cond) (x0 : Addr) (x1 : Int32) (ao : Addr) (ko : ClassId) (af : Addr) (kf : ClassId) (ai : Addr) (ki : ClassId) (al : Addr) (kl : ClassId) (y0 : Int32) (y1 : Int32) (y2 : Int32) (h0 : Heap) (n0 : Nat) (Z0 : n0 ≤ h0.size) (B0 : Exa Z h0 x0 "com/example/portia/portia/index/Postings") (B1 : Fld Z h0 x0 "com/example/portia/portia/index/Postings" "ordinals" "[I" (.ref ao)) (B2 : Fld Z h0 x0 "com/example/portia/portia/index/Postings" "frequencies" "[I" (.ref af)) (B3 : Fld Z h0 x0 "com/example/portia/portia/index/Postings" "size" "I" (.int (3 : Int32))) (B4 : Fld Z h0 x0 "com/example/portia/portia/index/Postings" "documentFrequency" "I" (.int (3 : Int32))) (B5 : Fld Z h0 x0 "com/example/portia/portia/index/Postings" "impactFrequencies" "[I" (.ref ai)) (B6 : Fld Z h0 x0 "com/example/portia/portia/index/Postings" "impactLengths" "[I" (.ref al)) (B7 : Fld Z h0 x0 "com/example/portia/portia/index/Postings" "impactCount" "I" (.int (1 : Int32))) (B8 : Arv Z h0 ao ko .int (4 : Int32) [(.int y0), (.int y1), (.int y2), (.int (0 : Int32))] (.int (0 : Int32))) (B9 : Arv Z h0 af kf .int (4 : Int32) [(.int (1 : Int32)), (.int (1 : Int32)), (.int (1 : Int32)), (.int (0 : Int32))] (.int (0 : Int32))) (B10 : Arv Z h0 ai ki .int (1 : Int32) [(.int (1 : Int32))] (.int (0 : Int32))) (B11 : Arv Z h0 al kl .int (1 : Int32) [(.int (1 : Int32))] (.int (0 : Int32))) (g_x0 : n0 ≤ x0) (g_ao : n0 ≤ ao) (g_af : n0 ≤ af) (n_x0_ao : x0 ≠ ao) (n_x0_af : x0 ≠ af) (n_x0_ai : x0 ≠ ai) (n_x0_al : x0 ≠ al) (n_ao_af : ao ≠ af) (n_ao_ai : ao ≠ ai) (n_ao_al : ao ≠ al) (n_af_ai : af ≠ ai) (n_af_al : af ≠ al) (n_ai_al : ai ≠ al) :
    MetFree l (⟨"com/example/portia/portia/index/Postings", "add", "(III)V"⟩ : MethodName) (head1 (Jvm.Cond.code (⟨"com/example/portia/portia/index/Postings", "add", "(III)V"⟩ : MethodName) prog_19_method_10_code 4 none :: ws) ({ frames := 1, cells := 0, slots := 0, locals := 18 } : Room)) (fun a U => a = #[(.ref x0), (.int x1), (.int (1 : Int32)), (.int (1 : Int32))] ∧ Z.Warmed39 U.vm ∧ U.heap = h0) (fun _ _ _ _ _ => True) (fun _ U o U' => ∃ v L, o = .returned v ∧ Q13 Z x0 x1 ao ko af kf ai ki al kl y0 y1 y2 h0 n0 v U'.heap L ∧ FrameEnd U o U' L ({ frames := 1, cells := 0, slots := 0, locals := 18 } : Room).cells ({ frames := 1, cells := 0, slots := 0, locals := 18 } : Room).slots) := by
  refine MetFree.of_bodySF (plainFor_of_name pn13) hisR ?_
  intro p e s m args below meth c s₁ Bd hml0 hP hK
  obtain ⟨rfl, hZ, hh⟩ := hP
  have hx := Bd.exec
  have hby := Bd.bytes
  have hml : c.maxLocals = 4 := hml0
  have hown : s.vm.findClass "com/example/portia/portia/index/Postings" = some m.cls := findClass_of_methodNamed Bd.named
  have hnm := (name_of_methodNamed Bd.named Bd.method).1
  have X0 : Stand p l e ({ frames := 1, cells := 0, slots := 0, locals := 18 } : Room) s m #[(.ref x0), (.int x1), (.int (1 : Int32)), (.int (1 : Int32))] below meth c s₁ [] 0 0 := Stand.of_body Bd
  have e0 : s₁.heap = h0 := by rw [← hh, Bd.state]; rfl
  have N0 := Fr.nil n0
  have pre0 : Steps p.tables e below (s₁.setTop (entryFrame m #[(.ref x0), (.int x1), (.int (1 : Int32)), (.int (1 : Int32))] 4)) (s₁.setTop (mkF m 0 #[.val (.ref x0), .val (.int x1), .val (.int (1 : Int32)), .val (.int (1 : Int32))] [])) := castTop (ef13 m x0 x1) (Steps.refl _)
  have K0 := Keep.refl h0 [x0, ao, af]
  have st1 : Steps p.tables e below (s₁.setTop (mkF m 0 #[.val (.ref x0), .val (.int x1), .val (.int (1 : Int32)), .val (.int (1 : Int32))] [])) (s₁.setTop (mkF m 1 #[.val (.ref x0), .val (.int x1), .val (.int (1 : Int32)), .val (.int (1 : Int32))] [(.ref x0)])) := by
    refine XS.aloadN X0.here hx rfl (hb hby d13_0) rfl rfl ?_
    show Steps p.tables e below (s₁.setTop (mkF m 1 #[.val (.ref x0), .val (.int x1), .val (.int (1 : Int32)), .val (.int (1 : Int32))] [(.ref x0)])) _
    exact Steps.refl _
  have pre1 := pre0.trans st1
  obtain ⟨T2, X2, e2, st2⟩ := getF X0 hx hZ hown (host := "") (Or.inl (hw _ (List.mem_of_getElem? (i := 26) rfl))) Via.refl e0 B3 (g := (mkF m 1 #[.val (.ref x0), .val (.int x1), .val (.int (1 : Int32)), .val (.int (1 : Int32))] [(.ref x0)])) rfl rfl (hb hby d13_1)
  have pre2 : Steps p.tables e below (s₁.setTop (entryFrame m #[(.ref x0), (.int x1), (.int (1 : Int32)), (.int (1 : Int32))] 4)) (T2.setTop (mkF m 4 #[.val (.ref x0), .val (.int x1), .val (.int (1 : Int32)), .val (.int (1 : Int32))] [(.int (3 : Int32))])) := pre1.trans (st2 _ (Steps.refl _))
  have st3 : Steps p.tables e below (T2.setTop (mkF m 4 #[.val (.ref x0), .val (.int x1), .val (.int (1 : Int32)), .val (.int (1 : Int32))] [(.int (3 : Int32))])) (T2.setTop (mkF m 5 #[.val (.ref x0), .val (.int x1), .val (.int (1 : Int32)), .val (.int (1 : Int32))] [(.ref x0), (.int (3 : Int32))])) := by
    refine XS.aloadN X2.here hx rfl (hb hby d13_4) rfl rfl ?_
    show Steps p.tables e below (T2.setTop (mkF m 5 #[.val (.ref x0), .val (.int x1), .val (.int (1 : Int32)), .val (.int (1 : Int32))] [(.ref x0), (.int (3 : Int32))])) _
    exact Steps.refl _
  have pre3 := pre2.trans st3
  obtain ⟨T4, X4, e4, st4⟩ := getF X2 hx hZ hown (host := "") (Or.inl (hw _ (List.mem_of_getElem? (i := 13) rfl))) Via.refl e2 B1 (g := (mkF m 5 #[.val (.ref x0), .val (.int x1), .val (.int (1 : Int32)), .val (.int (1 : Int32))] [(.ref x0), (.int (3 : Int32))])) rfl rfl (hb hby d13_5)
  have pre4 : Steps p.tables e below (s₁.setTop (entryFrame m #[(.ref x0), (.int x1), (.int (1 : Int32)), (.int (1 : Int32))] 4)) (T4.setTop (mkF m 8 #[.val (.ref x0), .val (.int x1), .val (.int (1 : Int32)), .val (.int (1 : Int32))] [(.ref ao), (.int (3 : Int32))])) := pre3.trans (st4 _ (Steps.refl _))
  obtain ⟨cl5, Ar5, q5, S5, G5, H5, J5⟩ := id B8
  have st5 : Steps p.tables e below (T4.setTop (mkF m 8 #[.val (.ref x0), .val (.int x1), .val (.int (1 : Int32)), .val (.int (1 : Int32))] [(.ref ao), (.int (3 : Int32))])) (T4.setTop (mkF m 9 #[.val (.ref x0), .val (.int x1), .val (.int (1 : Int32)), .val (.int (1 : Int32))] [(.int (4 : Int32)), (.int (3 : Int32))])) := by
    refine X4.arraylength hx (by rw [e4]; exact Ar5.1) (State.isArrayOf_alike hZ.alike Ar5.2.1) (g := (mkF m 8 #[.val (.ref x0), .val (.int x1), .val (.int (1 : Int32)), .val (.int (1 : Int32))] [(.ref ao), (.int (3 : Int32))])) rfl rfl (hb hby d13_8) _ ?_
    rw [len_of S5 G5]
    exact Steps.refl _
  have pre5 := pre4.trans st5
  have st6 : Steps p.tables e below (T4.setTop (mkF m 9 #[.val (.ref x0), .val (.int x1), .val (.int (1 : Int32)), .val (.int (1 : Int32))] [(.int (4 : Int32)), (.int (3 : Int32))])) (T4.setTop (mkF m 47 #[.val (.ref x0), .val (.int x1), .val (.int (1 : Int32)), .val (.int (1 : Int32))] [(.ref x0)])) := by
    refine XS.icmpYes X4.here hx rfl (pc0 := 9) (pc' := 46) rfl (hb hby d13_9) rfl (feq (by decide : ¬ ((3 : Int32) = (4 : Int32)))).2 (by decide) (by decide) ?_
    show Steps p.tables e below (T4.setTop (mkF m 46 #[.val (.ref x0), .val (.int x1), .val (.int (1 : Int32)), .val (.int (1 : Int32))] [])) _
    refine XS.aloadN X4.here hx rfl (hb hby d13_46) rfl rfl ?_
    show Steps p.tables e below (T4.setTop (mkF m 47 #[.val (.ref x0), .val (.int x1), .val (.int (1 : Int32)), .val (.int (1 : Int32))] [(.ref x0)])) _
    exact Steps.refl _
  have pre6 := pre5.trans st6
  obtain ⟨T7, X7, e7, st7⟩ := getF X4 hx hZ hown (host := "") (Or.inl (hw _ (List.mem_of_getElem? (i := 13) rfl))) Via.refl e4 B1 (g := (mkF m 47 #[.val (.ref x0), .val (.int x1), .val (.int (1 : Int32)), .val (.int (1 : Int32))] [(.ref x0)])) rfl rfl (hb hby d13_47)
  have pre7 : Steps p.tables e below (s₁.setTop (entryFrame m #[(.ref x0), (.int x1), (.int (1 : Int32)), (.int (1 : Int32))] 4)) (T7.setTop (mkF m 50 #[.val (.ref x0), .val (.int x1), .val (.int (1 : Int32)), .val (.int (1 : Int32))] [(.ref ao)])) := pre6.trans (st7 _ (Steps.refl _))
  have st8 : Steps p.tables e below (T7.setTop (mkF m 50 #[.val (.ref x0), .val (.int x1), .val (.int (1 : Int32)), .val (.int (1 : Int32))] [(.ref ao)])) (T7.setTop (mkF m 51 #[.val (.ref x0), .val (.int x1), .val (.int (1 : Int32)), .val (.int (1 : Int32))] [(.ref x0), (.ref ao)])) := by
    refine XS.aloadN X7.here hx rfl (hb hby d13_50) rfl rfl ?_
    show Steps p.tables e below (T7.setTop (mkF m 51 #[.val (.ref x0), .val (.int x1), .val (.int (1 : Int32)), .val (.int (1 : Int32))] [(.ref x0), (.ref ao)])) _
    exact Steps.refl _
  have pre8 := pre7.trans st8
  obtain ⟨T9, X9, e9, st9⟩ := getF X7 hx hZ hown (host := "") (Or.inl (hw _ (List.mem_of_getElem? (i := 26) rfl))) Via.refl e7 B3 (g := (mkF m 51 #[.val (.ref x0), .val (.int x1), .val (.int (1 : Int32)), .val (.int (1 : Int32))] [(.ref x0), (.ref ao)])) rfl rfl (hb hby d13_51)
  have pre9 : Steps p.tables e below (s₁.setTop (entryFrame m #[(.ref x0), (.int x1), (.int (1 : Int32)), (.int (1 : Int32))] 4)) (T9.setTop (mkF m 54 #[.val (.ref x0), .val (.int x1), .val (.int (1 : Int32)), .val (.int (1 : Int32))] [(.int (3 : Int32)), (.ref ao)])) := pre8.trans (st9 _ (Steps.refl _))
  have st10 : Steps p.tables e below (T9.setTop (mkF m 54 #[.val (.ref x0), .val (.int x1), .val (.int (1 : Int32)), .val (.int (1 : Int32))] [(.int (3 : Int32)), (.ref ao)])) (T9.setTop (mkF m 55 #[.val (.ref x0), .val (.int x1), .val (.int (1 : Int32)), .val (.int (1 : Int32))] [(.int x1), (.int (3 : Int32)), (.ref ao)])) := by
    refine XS.iloadN X9.here hx rfl (hb hby d13_54) rfl ?_
    show Steps p.tables e below (T9.setTop (mkF m 55 #[.val (.ref x0), .val (.int x1), .val (.int (1 : Int32)), .val (.int (1 : Int32))] [(.int x1), (.int (3 : Int32)), (.ref ao)])) _
    exact Steps.refl _
  have pre10 := pre9.trans st10
  obtain ⟨cl11, Ar11, q11, S11, G11, H11, J11⟩ := id B8
  have in11 : ¬ ((3 : Int32) < 0 ∨ cl11.slots.size ≤ ((3 : Int32)).toNatClampNeg) := inb_of S11 ⟨by decide, by decide⟩
  obtain ⟨T11, h11, X11, e11, W11, st11⟩ := stI X9 hx hZ e9 Ar11 (j := (3 : Int32)) in11 (g := (mkF m 55 #[.val (.ref x0), .val (.int x1), .val (.int (1 : Int32)), .val (.int (1 : Int32))] [(.int x1), (.int (3 : Int32)), (.ref ao)])) rfl rfl (hb hby d13_55)
  have pre11 : Steps p.tables e below (s₁.setTop (entryFrame m #[(.ref x0), (.int x1), (.int (1 : Int32)), (.int (1 : Int32))] 4)) (T11.setTop (mkF m 56 #[.val (.ref x0), .val (.int x1), .val (.int (1 : Int32)), .val (.int (1 : Int32))] [])) := pre10.trans (st11 _ (Steps.refl _))
  have F12 : Exa Z h11 x0 "com/example/portia/portia/index/Postings" := B0.wr W11
  have F13 : Fld Z h11 x0 "com/example/portia/portia/index/Postings" "ordinals" "[I" (.ref ao) := B1.other W11 (Or.inl n_x0_ao)
  have F14 : Fld Z h11 x0 "com/example/portia/portia/index/Postings" "frequencies" "[I" (.ref af) := B2.other W11 (Or.inl n_x0_ao)
  have F15 : Fld Z h11 x0 "com/example/portia/portia/index/Postings" "size" "I" (.int (3 : Int32)) := B3.other W11 (Or.inl n_x0_ao)
  have F16 : Fld Z h11 x0 "com/example/portia/portia/index/Postings" "documentFrequency" "I" (.int (3 : Int32)) := B4.other W11 (Or.inl n_x0_ao)
  have F17 : Fld Z h11 x0 "com/example/portia/portia/index/Postings" "impactFrequencies" "[I" (.ref ai) := B5.other W11 (Or.inl n_x0_ao)
  have F18 : Fld Z h11 x0 "com/example/portia/portia/index/Postings" "impactLengths" "[I" (.ref al) := B6.other W11 (Or.inl n_x0_ao)
  have F19 : Fld Z h11 x0 "com/example/portia/portia/index/Postings" "impactCount" "I" (.int (1 : Int32)) := B7.other W11 (Or.inl n_x0_ao)
  have F21 : Arv Z h11 af kf .int (4 : Int32) [(.int (1 : Int32)), (.int (1 : Int32)), (.int (1 : Int32)), (.int (0 : Int32))] (.int (0 : Int32)) := B9.other W11 (Ne.symm n_ao_af)
  have F22 : Arv Z h11 ai ki .int (1 : Int32) [(.int (1 : Int32))] (.int (0 : Int32)) := B10.other W11 (Ne.symm n_ao_ai)
  have F23 : Arv Z h11 al kl .int (1 : Int32) [(.int (1 : Int32))] (.int (0 : Int32)) := B11.other W11 (Ne.symm n_ao_al)
  have K11 := K0.wr W11 (Or.inl (List.mem_of_getElem? (i := 1) rfl))
  have Z11 : n0 ≤ h11.size := Nat.le_trans Z0 (Keep.of_wr W11).1
  have V11 : Arv Z h11 ao ko .int (4 : Int32) [(.int y0), (.int y1), (.int y2), (.int x1)] (.int (0 : Int32)) := Arv.set Ar11 q11 S11 G11 H11 J11 rfl W11 3 rfl (Nat.le_of_ble_eq_true rfl)
  have N11 := Fr.snoc X11 N0 g_ao
  have st24 : Steps p.tables e below (T11.setTop (mkF m 56 #[.val (.ref x0), .val (.int x1), .val (.int (1 : Int32)), .val (.int (1 : Int32))] [])) (T11.setTop (mkF m 57 #[.val (.ref x0), .val (.int x1), .val (.int (1 : Int32)), .val (.int (1 : Int32))] [(.ref x0)])) := by
    refine XS.aloadN X11.here hx rfl (hb hby d13_56) rfl rfl ?_
    show Steps p.tables e below (T11.setTop (mkF m 57 #[.val (.ref x0), .val (.int x1), .val (.int (1 : Int32)), .val (.int (1 : Int32))] [(.ref x0)])) _
    exact Steps.refl _
  have pre24 := pre11.trans st24
  obtain ⟨T25, X25, e25, st25⟩ := getF X11 hx hZ hown (host := "") (Or.inl (hw _ (List.mem_of_getElem? (i := 15) rfl))) Via.refl e11 F14 (g := (mkF m 57 #[.val (.ref x0), .val (.int x1), .val (.int (1 : Int32)), .val (.int (1 : Int32))] [(.ref x0)])) rfl rfl (hb hby d13_57)
  have pre25 : Steps p.tables e below (s₁.setTop (entryFrame m #[(.ref x0), (.int x1), (.int (1 : Int32)), (.int (1 : Int32))] 4)) (T25.setTop (mkF m 60 #[.val (.ref x0), .val (.int x1), .val (.int (1 : Int32)), .val (.int (1 : Int32))] [(.ref af)])) := pre24.trans (st25 _ (Steps.refl _))
  have st26 : Steps p.tables e below (T25.setTop (mkF m 60 #[.val (.ref x0), .val (.int x1), .val (.int (1 : Int32)), .val (.int (1 : Int32))] [(.ref af)])) (T25.setTop (mkF m 61 #[.val (.ref x0), .val (.int x1), .val (.int (1 : Int32)), .val (.int (1 : Int32))] [(.ref x0), (.ref af)])) := by
    refine XS.aloadN X25.here hx rfl (hb hby d13_60) rfl rfl ?_
    show Steps p.tables e below (T25.setTop (mkF m 61 #[.val (.ref x0), .val (.int x1), .val (.int (1 : Int32)), .val (.int (1 : Int32))] [(.ref x0), (.ref af)])) _
    exact Steps.refl _
  have pre26 := pre25.trans st26
  obtain ⟨T27, X27, e27, st27⟩ := getF X25 hx hZ hown (host := "") (Or.inl (hw _ (List.mem_of_getElem? (i := 26) rfl))) Via.refl e25 F15 (g := (mkF m 61 #[.val (.ref x0), .val (.int x1), .val (.int (1 : Int32)), .val (.int (1 : Int32))] [(.ref x0), (.ref af)])) rfl rfl (hb hby d13_61)
  have pre27 : Steps p.tables e below (s₁.setTop (entryFrame m #[(.ref x0), (.int x1), (.int (1 : Int32)), (.int (1 : Int32))] 4)) (T27.setTop (mkF m 64 #[.val (.ref x0), .val (.int x1), .val (.int (1 : Int32)), .val (.int (1 : Int32))] [(.int (3 : Int32)), (.ref af)])) := pre26.trans (st27 _ (Steps.refl _))
  have st28 : Steps p.tables e below (T27.setTop (mkF m 64 #[.val (.ref x0), .val (.int x1), .val (.int (1 : Int32)), .val (.int (1 : Int32))] [(.int (3 : Int32)), (.ref af)])) (T27.setTop (mkF m 65 #[.val (.ref x0), .val (.int x1), .val (.int (1 : Int32)), .val (.int (1 : Int32))] [(.int (1 : Int32)), (.int (3 : Int32)), (.ref af)])) := by
    refine XS.iloadN X27.here hx rfl (hb hby d13_64) rfl ?_
    show Steps p.tables e below (T27.setTop (mkF m 65 #[.val (.ref x0), .val (.int x1), .val (.int (1 : Int32)), .val (.int (1 : Int32))] [(.int (1 : Int32)), (.int (3 : Int32)), (.ref af)])) _
    exact Steps.refl _
  have pre28 := pre27.trans st28
  obtain ⟨cl29, Ar29, q29, S29, G29, H29, J29⟩ := id F21
  have in29 : ¬ ((3 : Int32) < 0 ∨ cl29.slots.size ≤ ((3 : Int32)).toNatClampNeg) := inb_of S29 ⟨by decide, by decide⟩
  obtain ⟨T29, h29, X29, e29, W29, st29⟩ := stI X27 hx hZ e27 Ar29 (j := (3 : Int32)) in29 (g := (mkF m 65 #[.val (.ref x0), .val (.int x1), .val (.int (1 : Int32)), .val (.int (1 : Int32))] [(.int (1 : Int32)), (.int (3 : Int32)), (.ref af)])) rfl rfl (hb hby d13_65)
  have pre29 : Steps p.tables e below (s₁.setTop (entryFrame m #[(.ref x0), (.int x1), (.int (1 : Int32)), (.int (1 : Int32))] 4)) (T29.setTop (mkF m 66 #[.val (.ref x0), .val (.int x1), .val (.int (1 : Int32)), .val (.int (1 : Int32))] [])) := pre28.trans (st29 _ (Steps.refl _))
  have F30 : Exa Z h29 x0 "com/example/portia/portia/index/Postings" := F12.wr W29
  have F31 : Fld Z h29 x0 "com/example/portia/portia/index/Postings" "ordinals" "[I" (.ref ao) := F13.other W29 (Or.inl n_x0_af)
  have F32 : Fld Z h29 x0 "com/example/portia/portia/index/Postings" "frequencies" "[I" (.ref af) := F14.other W29 (Or.inl n_x0_af)
  have F33 : Fld Z h29 x0 "com/example/portia/portia/index/Postings" "size" "I" (.int (3 : Int32)) := F15.other W29 (Or.inl n_x0_af)
  have F34 : Fld Z h29 x0 "com/example/portia/portia/index/Postings" "documentFrequency" "I" (.int (3 : Int32)) := F16.other W29 (Or.inl n_x0_af)
  have F35 : Fld Z h29 x0 "com/example/portia/portia/index/Postings" "impactFrequencies" "[I" (.ref ai) := F17.other W29 (Or.inl n_x0_af)
  have F36 : Fld Z h29 x0 "com/example/portia/portia/index/Postings" "impactLengths" "[I" (.ref al) := F18.other W29 (Or.inl n_x0_af)
  have F37 : Fld Z h29 x0 "com/example/portia/portia/index/Postings" "impactCount" "I" (.int (1 : Int32)) := F19.other W29 (Or.inl n_x0_af)
  have F39 : Arv Z h29 ai ki .int (1 : Int32) [(.int (1 : Int32))] (.int (0 : Int32)) := F22.other W29 (Ne.symm n_af_ai)
  have F40 : Arv Z h29 al kl .int (1 : Int32) [(.int (1 : Int32))] (.int (0 : Int32)) := F23.other W29 (Ne.symm n_af_al)
  have F41 : Arv Z h29 ao ko .int (4 : Int32) [(.int y0), (.int y1), (.int y2), (.int x1)] (.int (0 : Int32)) := V11.other W29 n_ao_af
  have K29 := K11.wr W29 (Or.inl (List.mem_of_getElem? (i := 2) rfl))
  have Z29 : n0 ≤ h29.size := Nat.le_trans Z11 (Keep.of_wr W29).1
  have V29 : Arv Z h29 af kf .int (4 : Int32) [(.int (1 : Int32)), (.int (1 : Int32)), (.int (1 : Int32)), (.int (1 : Int32))] (.int (0 : Int32)) := Arv.set Ar29 q29 S29 G29 H29 J29 rfl W29 3 rfl (Nat.le_of_ble_eq_true rfl)
  have N29 := Fr.snoc X29 N11 g_af
  have st42 : Steps p.tables e below (T29.setTop (mkF m 66 #[.val (.ref x0), .val (.int x1), .val (.int (1 : Int32)), .val (.int (1 : Int32))] [])) (T29.setTop (mkF m 68 #[.val (.ref x0), .val (.int x1), .val (.int (1 : Int32)), .val (.int (1 : Int32))] [(.ref x0), (.ref x0)])) := by
    refine XS.aloadN X29.here hx rfl (hb hby d13_66) rfl rfl ?_
    show Steps p.tables e below (T29.setTop (mkF m 67 #[.val (.ref x0), .val (.int x1), .val (.int (1 : Int32)), .val (.int (1 : Int32))] [(.ref x0)])) _
    refine XS.dup X29.here hx rfl (hb hby d13_67) rfl rfl ?_
    show Steps p.tables e below (T29.setTop (mkF m 68 #[.val (.ref x0), .val (.int x1), .val (.int (1 : Int32)), .val (.int (1 : Int32))] [(.ref x0), (.ref x0)])) _
    exact Steps.refl _
  have pre42 := pre29.trans st42
  obtain ⟨T43, X43, e43, st43⟩ := getF X29 hx hZ hown (host := "") (Or.inl (hw _ (List.mem_of_getElem? (i := 26) rfl))) Via.refl e29 F33 (g := (mkF m 68 #[.val (.ref x0), .val (.int x1), .val (.int (1 : Int32)), .val (.int (1 : Int32))] [(.ref x0), (.ref x0)])) rfl rfl (hb hby d13_68)
  have pre43 : Steps p.tables e below (s₁.setTop (entryFrame m #[(.ref x0), (.int x1), (.int (1 : Int32)), (.int (1 : Int32))] 4)) (T43.setTop (mkF m 71 #[.val (.ref x0), .val (.int x1), .val (.int (1 : Int32)), .val (.int (1 : Int32))] [(.int (3 : Int32)), (.ref x0)])) := pre42.trans (st43 _ (Steps.refl _))
  have st44 : Steps p.tables e below (T43.setTop (mkF m 71 #[.val (.ref x0), .val (.int x1), .val (.int (1 : Int32)), .val (.int (1 : Int32))] [(.int (3 : Int32)), (.ref x0)])) (T43.setTop (mkF m 73 #[.val (.ref x0), .val (.int x1), .val (.int (1 : Int32)), .val (.int (1 : Int32))] [(.int (4 : Int32)), (.ref x0)])) := by
    refine XS.iconst X43.here hx rfl (hb hby d13_71) ?_
    show Steps p.tables e below (T43.setTop (mkF m 72 #[.val (.ref x0), .val (.int x1), .val (.int (1 : Int32)), .val (.int (1 : Int32))] [(.int (1 : Int32)), (.int (3 : Int32)), (.ref x0)])) _
    refine XS.iadd X43.here hx rfl (hb hby d13_72) rfl ?_
    show Steps p.tables e below (T43.setTop (mkF m 73 #[.val (.ref x0), .val (.int x1), .val (.int (1 : Int32)), .val (.int (1 : Int32))] [(.int (4 : Int32)), (.ref x0)])) _
    exact Steps.refl _
  have pre44 := pre43.trans st44
  obtain ⟨T45, h45, X45, e45, W45, st45⟩ := putF X43 hx hZ hown (host := "") (Or.inl (hw _ (List.mem_of_getElem? (i := 26) rfl))) Via.refl e43 F33 F30 (Or.inl (hw _ (List.mem_of_getElem? (i := 27) rfl))) (hw _ (List.mem_of_getElem? (i := 5) rfl)) (ty := .int) (by decide) rfl rfl (g := (mkF m 73 #[.val (.ref x0), .val (.int x1), .val (.int (1 : Int32)), .val (.int (1 : Int32))] [(.int (4 : Int32)), (.ref x0)])) rfl rfl (hb hby d13_73)
  have pre45 : Steps p.tables e below (s₁.setTop (entryFrame m #[(.ref x0), (.int x1), (.int (1 : Int32)), (.int (1 : Int32))] 4)) (T45.setTop (mkF m 76 #[.val (.ref x0), .val (.int x1), .val (.int (1 : Int32)), .val (.int (1 : Int32))] [])) := pre44.trans (st45 _ (Steps.refl _))
  have F46 : Exa Z h45 x0 "com/example/portia/portia/index/Postings" := F30.wr W45
  have F47 : Fld Z h45 x0 "com/example/portia/portia/index/Postings" "ordinals" "[I" (.ref ao) := F31.other W45 (Or.inr (slot_ne (Or.inl (hw _ (List.mem_of_getElem? (i := 14) rfl))) (Or.inl (hw _ (List.mem_of_getElem? (i := 27) rfl))) (by decide) (t := (.array .int)) (t' := .int) (by decide) (by decide)))
  have F48 : Fld Z h45 x0 "com/example/portia/portia/index/Postings" "frequencies" "[I" (.ref af) := F32.other W45 (Or.inr (slot_ne (Or.inl (hw _ (List.mem_of_getElem? (i := 16) rfl))) (Or.inl (hw _ (List.mem_of_getElem? (i := 27) rfl))) (by decide) (t := (.array .int)) (t' := .int) (by decide) (by decide)))
  have F50 : Fld Z h45 x0 "com/example/portia/portia/index/Postings" "documentFrequency" "I" (.int (3 : Int32)) := F34.other W45 (Or.inr (slot_ne (Or.inl (hw _ (List.mem_of_getElem? (i := 34) rfl))) (Or.inl (hw _ (List.mem_of_getElem? (i := 27) rfl))) (by decide) (t := .int) (t' := .int) (by decide) (by decide)))
  have F51 : Fld Z h45 x0 "com/example/portia/portia/index/Postings" "impactFrequencies" "[I" (.ref ai) := F35.other W45 (Or.inr (slot_ne (Or.inl (hw _ (List.mem_of_getElem? (i := 18) rfl))) (Or.inl (hw _ (List.mem_of_getElem? (i := 27) rfl))) (by decide) (t := (.array .int)) (t' := .int) (by decide) (by decide)))
  have F52 : Fld Z h45 x0 "com/example/portia/portia/index/Postings" "impactLengths" "[I" (.ref al) := F36.other W45 (Or.inr (slot_ne (Or.inl (hw _ (List.mem_of_getElem? (i := 20) rfl))) (Or.inl (hw _ (List.mem_of_getElem? (i := 27) rfl))) (by decide) (t := (.array .int)) (t' := .int) (by decide) (by decide)))
  have F53 : Fld Z h45 x0 "com/example/portia/portia/index/Postings" "impactCount" "I" (.int (1 : Int32)) := F37.other W45 (Or.inr (slot_ne (Or.inl (hw _ (List.mem_of_getElem? (i := 40) rfl))) (Or.inl (hw _ (List.mem_of_getElem? (i := 27) rfl))) (by decide) (t := .int) (t' := .int) (by decide) (by decide)))
  have F54 : Arv Z h45 ai ki .int (1 : Int32) [(.int (1 : Int32))] (.int (0 : Int32)) := F39.other W45 (Ne.symm n_x0_ai)
  have F55 : Arv Z h45 al kl .int (1 : Int32) [(.int (1 : Int32))] (.int (0 : Int32)) := F40.other W45 (Ne.symm n_x0_al)
  have F56 : Arv Z h45 ao ko .int (4 : Int32) [(.int y0), (.int y1), (.int y2), (.int x1)] (.int (0 : Int32)) := F41.other W45 (Ne.symm n_x0_ao)
  have F57 : Arv Z h45 af kf .int (4 : Int32) [(.int (1 : Int32)), (.int (1 : Int32)), (.int (1 : Int32)), (.int (1 : Int32))] (.int (0 : Int32)) := V29.other W45 (Ne.symm n_x0_af)
  have K45 := K29.wr W45 (Or.inl (List.mem_of_getElem? (i := 0) rfl))
  have Z45 : n0 ≤ h45.size := Nat.le_trans Z29 (Keep.of_wr W45).1
  have Fw45 : Fld Z h45 x0 "com/example/portia/portia/index/Postings" "size" "I" (.int (4 : Int32)) := F33.same W45
  have N45 := Fr.snoc X45 N29 g_x0
  have st58 : Steps p.tables e below (T45.setTop (mkF m 76 #[.val (.ref x0), .val (.int x1), .val (.int (1 : Int32)), .val (.int (1 : Int32))] [])) (T45.setTop (mkF m 78 #[.val (.ref x0), .val (.int x1), .val (.int (1 : Int32)), .val (.int (1 : Int32))] [(.ref x0), (.ref x0)])) := by
    refine XS.aloadN X45.here hx rfl (hb hby d13_76) rfl rfl ?_
    show Steps p.tables e below (T45.setTop (mkF m 77 #[.val (.ref x0), .val (.int x1), .val (.int (1 : Int32)), .val (.int (1 : Int32))] [(.ref x0)])) _
    refine XS.dup X45.here hx rfl (hb hby d13_77) rfl rfl ?_
    show Steps p.tables e below (T45.setTop (mkF m 78 #[.val (.ref x0), .val (.int x1), .val (.int (1 : Int32)), .val (.int (1 : Int32))] [(.ref x0), (.ref x0)])) _
    exact Steps.refl _
  have pre58 := pre45.trans st58
  obtain ⟨T59, X59, e59, st59⟩ := getF X45 hx hZ hown (host := "") (Or.inl (hw _ (List.mem_of_getElem? (i := 33) rfl))) Via.refl e45 F50 (g := (mkF m 78 #[.val (.ref x0), .val (.int x1), .val (.int (1 : Int32)), .val (.int (1 : Int32))] [(.ref x0), (.ref x0)])) rfl rfl (hb hby d13_78)
  have pre59 : Steps p.tables e below (s₁.setTop (entryFrame m #[(.ref x0), (.int x1), (.int (1 : Int32)), (.int (1 : Int32))] 4)) (T59.setTop (mkF m 81 #[.val (.ref x0), .val (.int x1), .val (.int (1 : Int32)), .val (.int (1 : Int32))] [(.int (3 : Int32)), (.ref x0)])) := pre58.trans (st59 _ (Steps.refl _))
  have st60 : Steps p.tables e below (T59.setTop (mkF m 81 #[.val (.ref x0), .val (.int x1), .val (.int (1 : Int32)), .val (.int (1 : Int32))] [(.int (3 : Int32)), (.ref x0)])) (T59.setTop (mkF m 83 #[.val (.ref x0), .val (.int x1), .val (.int (1 : Int32)), .val (.int (1 : Int32))] [(.int (4 : Int32)), (.ref x0)])) := by
    refine XS.iconst X59.here hx rfl (hb hby d13_81) ?_
    show Steps p.tables e below (T59.setTop (mkF m 82 #[.val (.ref x0), .val (.int x1), .val (.int (1 : Int32)), .val (.int (1 : Int32))] [(.int (1 : Int32)), (.int (3 : Int32)), (.ref x0)])) _
    refine XS.iadd X59.here hx rfl (hb hby d13_82) rfl ?_
    show Steps p.tables e below (T59.setTop (mkF m 83 #[.val (.ref x0), .val (.int x1), .val (.int (1 : Int32)), .val (.int (1 : Int32))] [(.int (4 : Int32)), (.ref x0)])) _
    exact Steps.refl _
  have pre60 := pre59.trans st60
  obtain ⟨T61, h61, X61, e61, W61, st61⟩ := putF X59 hx hZ hown (host := "") (Or.inl (hw _ (List.mem_of_getElem? (i := 33) rfl))) Via.refl e59 F50 F46 (Or.inl (hw _ (List.mem_of_getElem? (i := 34) rfl))) (hw _ (List.mem_of_getElem? (i := 5) rfl)) (ty := .int) (by decide) rfl rfl (g := (mkF m 83 #[.val (.ref x0), .val (.int x1), .val (.int (1 : Int32)), .val (.int (1 : Int32))] [(.int (4 : Int32)), (.ref x0)])) rfl rfl (hb hby d13_83)
  have pre61 : Steps p.tables e below (s₁.setTop (entryFrame m #[(.ref x0), (.int x1), (.int (1 : Int32)), (.int (1 : Int32))] 4)) (T61.setTop (mkF m 86 #[.val (.ref x0), .val (.int x1), .val (.int (1 : Int32)), .val (.int (1 : Int32))] [])) := pre60.trans (st61 _ (Steps.refl _))
  have F62 : Exa Z h61 x0 "com/example/portia/portia/index/Postings" := F46.wr W61
  have F63 : Fld Z h61 x0 "com/example/portia/portia/index/Postings" "ordinals" "[I" (.ref ao) := F47.other W61 (Or.inr (slot_ne (Or.inl (hw _ (List.mem_of_getElem? (i := 14) rfl))) (Or.inl (hw _ (List.mem_of_getElem? (i := 34) rfl))) (by decide) (t := (.array .int)) (t' := .int) (by decide) (by decide)))
  have F64 : Fld Z h61 x0 "com/example/portia/portia/index/Postings" "frequencies" "[I" (.ref af) := F48.other W61 (Or.inr (slot_ne (Or.inl (hw _ (List.mem_of_getElem? (i := 16) rfl))) (Or.inl (hw _ (List.mem_of_getElem? (i := 34) rfl))) (by decide) (t := (.array .int)) (t' := .int) (by decide) (by decide)))
  have F66 : Fld Z h61 x0 "com/example/portia/portia/index/Postings" "impactFrequencies" "[I" (.ref ai) := F51.other W61 (Or.inr (slot_ne (Or.inl (hw _ (List.mem_of_getElem? (i := 18) rfl))) (Or.inl (hw _ (List.mem_of_getElem? (i := 34) rfl))) (by decide) (t := (.array .int)) (t' := .int) (by decide) (by decide)))
  have F67 : Fld Z h61 x0 "com/example/portia/portia/index/Postings" "impactLengths" "[I" (.ref al) := F52.other W61 (Or.inr (slot_ne (Or.inl (hw _ (List.mem_of_getElem? (i := 20) rfl))) (Or.inl (hw _ (List.mem_of_getElem? (i := 34) rfl))) (by decide) (t := (.array .int)) (t' := .int) (by decide) (by decide)))
  have F68 : Fld Z h61 x0 "com/example/portia/portia/index/Postings" "impactCount" "I" (.int (1 : Int32)) := F53.other W61 (Or.inr (slot_ne (Or.inl (hw _ (List.mem_of_getElem? (i := 40) rfl))) (Or.inl (hw _ (List.mem_of_getElem? (i := 34) rfl))) (by decide) (t := .int) (t' := .int) (by decide) (by decide)))
  have F69 : Arv Z h61 ai ki .int (1 : Int32) [(.int (1 : Int32))] (.int (0 : Int32)) := F54.other W61 (Ne.symm n_x0_ai)
  have F70 : Arv Z h61 al kl .int (1 : Int32) [(.int (1 : Int32))] (.int (0 : Int32)) := F55.other W61 (Ne.symm n_x0_al)
  have F71 : Arv Z h61 ao ko .int (4 : Int32) [(.int y0), (.int y1), (.int y2), (.int x1)] (.int (0 : Int32)) := F56.other W61 (Ne.symm n_x0_ao)
  have F72 : Arv Z h61 af kf .int (4 : Int32) [(.int (1 : Int32)), (.int (1 : Int32)), (.int (1 : Int32)), (.int (1 : Int32))] (.int (0 : Int32)) := F57.other W61 (Ne.symm n_x0_af)
  have F73 : Fld Z h61 x0 "com/example/portia/portia/index/Postings" "size" "I" (.int (4 : Int32)) := Fw45.other W61 (Or.inr (slot_ne (Or.inl (hw _ (List.mem_of_getElem? (i := 27) rfl))) (Or.inl (hw _ (List.mem_of_getElem? (i := 34) rfl))) (by decide) (t := .int) (t' := .int) (by decide) (by decide)))
  have K61 := K45.wr W61 (Or.inl (List.mem_of_getElem? (i := 0) rfl))
  have Z61 : n0 ≤ h61.size := Nat.le_trans Z45 (Keep.of_wr W61).1
  have Fw61 : Fld Z h61 x0 "com/example/portia/portia/index/Postings" "documentFrequency" "I" (.int (4 : Int32)) := F50.same W61
  have N61 := Fr.snoc X61 N45 g_x0
  have st74 : Steps p.tables e below (T61.setTop (mkF m 86 #[.val (.ref x0), .val (.int x1), .val (.int (1 : Int32)), .val (.int (1 : Int32))] [])) (T61.setTop (mkF m 89 #[.val (.ref x0), .val (.int x1), .val (.int (1 : Int32)), .val (.int (1 : Int32))] [(.int (1 : Int32)), (.int (1 : Int32)), (.ref x0)])) := by
    refine XS.aloadN X61.here hx rfl (hb hby d13_86) rfl rfl ?_
    show Steps p.tables e below (T61.setTop (mkF m 87 #[.val (.ref x0), .val (.int x1), .val (.int (1 : Int32)), .val (.int (1 : Int32))] [(.ref x0)])) _
    refine XS.iloadN X61.here hx rfl (hb hby d13_87) rfl ?_
    show Steps p.tables e below (T61.setTop (mkF m 88 #[.val (.ref x0), .val (.int x1), .val (.int (1 : Int32)), .val (.int (1 : Int32))] [(.int (1 : Int32)), (.ref x0)])) _
    refine XS.iloadN X61.here hx rfl (hb hby d13_88) rfl ?_
    show Steps p.tables e below (T61.setTop (mkF m 89 #[.val (.ref x0), .val (.int x1), .val (.int (1 : Int32)), .val (.int (1 : Int32))] [(.int (1 : Int32)), (.int (1 : Int32)), (.ref x0)])) _
    exact Steps.refl _
  have pre74 := pre61.trans st74
  obtain ⟨cq75, q75, q75'⟩ := F62.cell
  obtain ⟨_, _, mp75, -, -, qp75, -, kp75, hkp75, hki75⟩ := Cond.selects_spec (mvT (args := #[]) hZ (hw _ (List.mem_of_getElem? (i := 24) rfl)))
  obtain ⟨_, _, ⟨T75, L75, k75, n75⟩, -, X75, ⟨Lc75, hQ75, l75, y75, z75⟩, st75⟩ := X61.privateBack hx (y := (⟨"com/example/portia/portia/index/Postings", "addImpact", "(II)V"⟩ : MethodName)) hown (mvT hZ (hw _ (List.mem_of_getElem? (i := 35) rfl))) (mvT hZ (hw _ (List.mem_of_getElem? (i := 36) rfl))) (Jvm.Stand.selects_self_of_private (show s.vm.findClass "com/example/portia/portia/index/Postings" = some mp75.cls from findClass_of_methodNamed qp75) hkp75 hki75 (Cond.privateMethod_at (mvP hZ (hw _ (List.mem_of_getElem? (i := 37) rfl)) (args := #[]))) (mvT hZ (hw _ (List.mem_of_getElem? (i := 36) rfl))) (by decide)) (Cond.privateMethod_at (mvP hZ (hw _ (List.mem_of_getElem? (i := 37) rfl)) (args := #[]))) (mvT hZ (hw _ (List.mem_of_getElem? (i := 38) rfl))) (by decide) (backOf (W := 0) (rm7 l Z a0 hw [] x0 ai ki al kl h61 n0 Z61 F66 F67 F68 F69 F70) hZ (hw _ (List.mem_of_getElem? (i := 38) rfl)) (hw _ (List.mem_of_getElem? (i := 6) rfl)) (by decide) (by decide)) (g := (mkF m 89 #[.val (.ref x0), .val (.int x1), .val (.int (1 : Int32)), .val (.int (1 : Int32))] [(.int (1 : Int32)), (.int (1 : Int32)), (.ref x0)])) rfl (by rw [hml]; rfl) (Steps.refl _) (a := x0) (by rw [e61]; exact q75) q75' (argsL := [(.int (1 : Int32)), (.int (1 : Int32))]) (rest := []) (lenOf pd13_0 rfl) rfl (by show 2 * 0 + _ ≤ _; exact Nat.le_of_eq rfl) (hb hby d13_89) (fun _ _ => ⟨rfl, e61, (by decide : 0 + 0 ≤ _), (by decide : 0 + 0 ≤ _)⟩)
  dsimp only [Pt.U, Pt.locs, Pt.cells, Pt.slots] at X75 l75 y75 z75 st75 hQ75
  subst l75 y75 z75
  obtain ⟨rfl, Nq75, e75⟩ := hQ75
  have N75 := Fr.app N61 Nq75
  have pre75 : Steps p.tables e below (s₁.setTop (entryFrame m #[(.ref x0), (.int x1), (.int (1 : Int32)), (.int (1 : Int32))] 4)) (T75.setTop (mkF m 92 #[.val (.ref x0), .val (.int x1), .val (.int (1 : Int32)), .val (.int (1 : Int32))] [])) := pre74.trans st75
  obtain ⟨fs, hr, hrun, hended, hW, hsame⟩ := X75.leave (v := none) (fun _ => rfl)
  refine ⟨_, _, pre75.trans ?_, hrun, hended, _, _, rfl, ?_, ⟨_, rfl⟩, hW, hsame.mono (by decide) (by decide)⟩
  · show Steps p.tables e below (T75.setTop (mkF m 92 #[.val (.ref x0), .val (.int x1), .val (.int (1 : Int32)), .val (.int (1 : Int32))] [])) _
    exact X75.returnOut hx Bd.returns (hb hby d13_92) hr
  · show Q13 Z x0 x1 ao ko af kf ai ki al kl y0 y1 y2 h0 n0 _ T75.heap _
    rw [e75]
    exact ⟨rfl, N75, K61, F62, F63, F64, F73, Fw61, F66, F67, F68, F71, F72, F69, F70⟩
theorem d14_0 : decode prog_19_method_10_code 0 = .ok (.aload_n 0, 1) := by decide +kernel
theorem d14_1 : decode prog_19_method_10_code 1 = .ok (.getfield 22, 3) := by decide +kernel
theorem d14_4 : decode prog_19_method_10_code 4 = .ok (.aload_n 0, 1) := by decide +kernel
theorem d14_5 : decode prog_19_method_10_code 5 = .ok (.getfield 7, 3) := by decide +kernel
theorem d14_8 : decode prog_19_method_10_code 8 = .ok (.arraylength, 1) := by decide +kernel
theorem d14_9 : decode prog_19_method_10_code 9 = .ok (.if_icmp .ne 37, 3) := by decide +kernel
theorem d14_12 : decode prog_19_method_10_code 12 = .ok (.aload_n 0, 1) := by decide +kernel
theorem d14_13 : decode prog_19_method_10_code 13 = .ok (.aload_n 0, 1) := by decide +kernel
theorem d14_14 : decode prog_19_method_10_code 14 = .ok (.getfield 7, 3) := by decide +kernel
theorem d14_17 : decode prog_19_method_10_code 17 = .ok (.aload_n 0, 1) := by decide +kernel
theorem d14_18 : decode prog_19_method_10_code 18 = .ok (.getfield 22, 3) := by decide +kernel
theorem d14_21 : decode prog_19_method_10_code 21 = .ok (.iconst 2, 1) := by decide +kernel
theorem d14_22 : decode prog_19_method_10_code 22 = .ok (.imul, 1) := by decide +kernel
theorem d14_23 : decode prog_19_method_10_code 23 = .ok (.invokestatic 32, 3) := by decide +kernel
theorem d14_26 : decode prog_19_method_10_code 26 = .ok (.putfield 7, 3) := by decide +kernel
theorem d14_29 : decode prog_19_method_10_code 29 = .ok (.aload_n 0, 1) := by decide +kernel
theorem d14_30 : decode prog_19_method_10_code 30 = .ok (.aload_n 0, 1) := by decide +kernel
theorem d14_31 : decode prog_19_method_10_code 31 = .ok (.getfield 13, 3) := by decide +kernel
theorem d14_34 : decode prog_19_method_10_code 34 = .ok (.aload_n 0, 1) := by decide +kernel
theorem d14_35 : decode prog_19_method_10_code 35 = .ok (.getfield 22, 3) := by decide +kernel
theorem d14_38 : decode prog_19_method_10_code 38 = .ok (.iconst 2, 1) := by decide +kernel
theorem d14_39 : decode prog_19_method_10_code 39 = .ok (.imul, 1) := by decide +kernel
theorem d14_40 : decode prog_19_method_10_code 40 = .ok (.invokestatic 32, 3) := by decide +kernel
theorem d14_43 : decode prog_19_method_10_code 43 = .ok (.putfield 13, 3) := by decide +kernel
theorem d14_46 : decode prog_19_method_10_code 46 = .ok (.aload_n 0, 1) := by decide +kernel
theorem d14_47 : decode prog_19_method_10_code 47 = .ok (.getfield 7, 3) := by decide +kernel
theorem d14_50 : decode prog_19_method_10_code 50 = .ok (.aload_n 0, 1) := by decide +kernel
theorem d14_51 : decode prog_19_method_10_code 51 = .ok (.getfield 22, 3) := by decide +kernel
theorem d14_54 : decode prog_19_method_10_code 54 = .ok (.iload_n 1, 1) := by decide +kernel
theorem d14_55 : decode prog_19_method_10_code 55 = .ok (.iastore, 1) := by decide +kernel
theorem d14_56 : decode prog_19_method_10_code 56 = .ok (.aload_n 0, 1) := by decide +kernel
theorem d14_57 : decode prog_19_method_10_code 57 = .ok (.getfield 13, 3) := by decide +kernel
theorem d14_60 : decode prog_19_method_10_code 60 = .ok (.aload_n 0, 1) := by decide +kernel
theorem d14_61 : decode prog_19_method_10_code 61 = .ok (.getfield 22, 3) := by decide +kernel
theorem d14_64 : decode prog_19_method_10_code 64 = .ok (.iload_n 2, 1) := by decide +kernel
theorem d14_65 : decode prog_19_method_10_code 65 = .ok (.iastore, 1) := by decide +kernel
theorem d14_66 : decode prog_19_method_10_code 66 = .ok (.aload_n 0, 1) := by decide +kernel
theorem d14_67 : decode prog_19_method_10_code 67 = .ok (.dup, 1) := by decide +kernel
theorem d14_68 : decode prog_19_method_10_code 68 = .ok (.getfield 22, 3) := by decide +kernel
theorem d14_71 : decode prog_19_method_10_code 71 = .ok (.iconst 1, 1) := by decide +kernel
theorem d14_72 : decode prog_19_method_10_code 72 = .ok (.iadd, 1) := by decide +kernel
theorem d14_73 : decode prog_19_method_10_code 73 = .ok (.putfield 22, 3) := by decide +kernel
theorem d14_76 : decode prog_19_method_10_code 76 = .ok (.aload_n 0, 1) := by decide +kernel
theorem d14_77 : decode prog_19_method_10_code 77 = .ok (.dup, 1) := by decide +kernel
theorem d14_78 : decode prog_19_method_10_code 78 = .ok (.getfield 26, 3) := by decide +kernel
theorem d14_81 : decode prog_19_method_10_code 81 = .ok (.iconst 1, 1) := by decide +kernel
theorem d14_82 : decode prog_19_method_10_code 82 = .ok (.iadd, 1) := by decide +kernel
theorem d14_83 : decode prog_19_method_10_code 83 = .ok (.putfield 26, 3) := by decide +kernel
theorem d14_86 : decode prog_19_method_10_code 86 = .ok (.aload_n 0, 1) := by decide +kernel
theorem d14_87 : decode prog_19_method_10_code 87 = .ok (.iload_n 2, 1) := by decide +kernel
theorem d14_88 : decode prog_19_method_10_code 88 = .ok (.iload_n 3, 1) := by decide +kernel
theorem d14_89 : decode prog_19_method_10_code 89 = .ok (.invokevirtual 38, 3) := by decide +kernel
theorem d14_92 : decode prog_19_method_10_code 92 = .ok (.return_, 1) := by decide +kernel
theorem pn14 : plainName "com/example/portia/portia/index/Postings" = true := by first | (simp [plainName, overriddenIn]; done) | decide +kernel
theorem pd14_0 : parseMethodDescriptor "([II)[I" = some ⟨[(.array .int), .int], some (.array .int)⟩ := by decide +kernel
theorem pd14_1 : parseMethodDescriptor "(II)V" = some ⟨[.int, .int], none⟩ := by decide +kernel
theorem ef14 (m : MethodId) (x0 : Addr) (x1 : Int32) : entryFrame m #[(.ref x0), (.int x1), (.int (1 : Int32)), (.int (1 : Int32))] 4 = mkF m 0 #[.val (.ref x0), .val (.int x1), .val (.int (1 : Int32)), .val (.int (1 : Int32))] [] := by first | (simp [entryFrame, mkF, argsToLocals, Value.category]; done) | rfl
def Q14 (Z : State) (x0 : Addr) (x1 : Int32) (ao : Addr) (ko : ClassId) (af : Addr) (kf : ClassId) (ai : Addr) (ki : ClassId) (al : Addr) (kl : ClassId) (y0 : Int32) (y1 : Int32) (y2 : Int32) (y3 : Int32) (h0 : Heap) (n0 : Nat) (v : Option Value) (h : Heap) (L : List Loc) : Prop := ∃ (ao2 : Addr), ∃ (ko2 : ClassId), ∃ (af2 : Addr), ∃ (kf2 : ClassId), v = none ∧ Fr n0 L ∧ Keep h0 h [x0] ∧ Exa Z h x0 "com/example/portia/portia/index/Postings" ∧ Fld Z h x0 "com/example/portia/portia/index/Postings" "ordinals" "[I" (.ref ao2) ∧ Fld Z h x0 "com/example/portia/portia/index/Postings" "frequencies" "[I" (.ref af2) ∧ Fld Z h x0 "com/example/portia/portia/index/Postings" "size" "I" (.int (5 : Int32)) ∧ Fld Z h x0 "com/example/portia/portia/index/Postings" "documentFrequency" "I" (.int (5 : Int32)) ∧ Fld Z h x0 "com/example/portia/portia/index/Postings" "impactFrequencies" "[I" (.ref ai) ∧ Fld Z h x0 "com/example/portia/portia/index/Postings" "impactLengths" "[I" (.ref al) ∧ Fld Z h x0 "com/example/portia/portia/index/Postings" "impactCount" "I" (.int (1 : Int32)) ∧ Arv Z h ao2 ko2 .int (8 : Int32) [(.int y0), (.int y1), (.int y2), (.int y3), (.int x1), (.int (0 : Int32)), (.int (0 : Int32)), (.int (0 : Int32))] (.int (0 : Int32)) ∧ Arv Z h af2 kf2 .int (8 : Int32) [(.int (1 : Int32)), (.int (1 : Int32)), (.int (1 : Int32)), (.int (1 : Int32)), (.int (1 : Int32)), (.int (0 : Int32)), (.int (0 : Int32)), (.int (0 : Int32))] (.int (0 : Int32)) ∧ Arv Z h ai ki .int (1 : Int32) [(.int (1 : Int32))] (.int (0 : Int32)) ∧ Arv Z h al kl .int (1 : Int32) [(.int (1 : Int32))] (.int (0 : Int32)) ∧ h0.size ≤ ao2 ∧ h0.size ≤ af2 ∧ ao2 ≠ af2
set_option maxRecDepth 65536 in
set_option maxHeartbeats 40000000 in
theorem rm14 (l : Launch) (Z : State) (a0 : Array Value) (hw : ∀ d ∈ tables_1, d.before a0 Z = true) (ws : List Jvm.Cond) (x0 : Addr) (x1 : Int32) (ao : Addr) (ko : ClassId) (af : Addr) (kf : ClassId) (ai : Addr) (ki : ClassId) (al : Addr) (kl : ClassId) (y0 : Int32) (y1 : Int32) (y2 : Int32) (y3 : Int32) (h0 : Heap) (n0 : Nat) (Z0 : n0 ≤ h0.size) (B0 : Exa Z h0 x0 "com/example/portia/portia/index/Postings") (B1 : Fld Z h0 x0 "com/example/portia/portia/index/Postings" "ordinals" "[I" (.ref ao)) (B2 : Fld Z h0 x0 "com/example/portia/portia/index/Postings" "frequencies" "[I" (.ref af)) (B3 : Fld Z h0 x0 "com/example/portia/portia/index/Postings" "size" "I" (.int (4 : Int32))) (B4 : Fld Z h0 x0 "com/example/portia/portia/index/Postings" "documentFrequency" "I" (.int (4 : Int32))) (B5 : Fld Z h0 x0 "com/example/portia/portia/index/Postings" "impactFrequencies" "[I" (.ref ai)) (B6 : Fld Z h0 x0 "com/example/portia/portia/index/Postings" "impactLengths" "[I" (.ref al)) (B7 : Fld Z h0 x0 "com/example/portia/portia/index/Postings" "impactCount" "I" (.int (1 : Int32))) (B8 : Arv Z h0 ao ko .int (4 : Int32) [(.int y0), (.int y1), (.int y2), (.int y3)] (.int (0 : Int32))) (B9 : Arv Z h0 af kf .int (4 : Int32) [(.int (1 : Int32)), (.int (1 : Int32)), (.int (1 : Int32)), (.int (1 : Int32))] (.int (0 : Int32))) (B10 : Arv Z h0 ai ki .int (1 : Int32) [(.int (1 : Int32))] (.int (0 : Int32))) (B11 : Arv Z h0 al kl .int (1 : Int32) [(.int (1 : Int32))] (.int (0 : Int32))) (g_x0 : n0 ≤ x0) (n_x0_ao : x0 ≠ ao) (n_x0_af : x0 ≠ af) (n_x0_ai : x0 ≠ ai) (n_x0_al : x0 ≠ al) (n_ao_af : ao ≠ af) (n_ao_ai : ao ≠ ai) (n_ao_al : ao ≠ al) (n_af_ai : af ≠ ai) (n_af_al : af ≠ al) (n_ai_al : ai ≠ al) :
    MetFree l (⟨"com/example/portia/portia/index/Postings", "add", "(III)V"⟩ : MethodName) (head1 (Jvm.Cond.code (⟨"com/example/portia/portia/index/Postings", "add", "(III)V"⟩ : MethodName) prog_19_method_10_code 4 none :: ws) ({ frames := 2, cells := 2, slots := 16, locals := 33 } : Room)) (fun a U => a = #[(.ref x0), (.int x1), (.int (1 : Int32)), (.int (1 : Int32))] ∧ Z.Warmed39 U.vm ∧ U.heap = h0) (fun _ _ _ _ _ => True) (fun _ U o U' => ∃ v L, o = .returned v ∧ Q14 Z x0 x1 ao ko af kf ai ki al kl y0 y1 y2 y3 h0 n0 v U'.heap L ∧ FrameEnd U o U' L ({ frames := 2, cells := 2, slots := 16, locals := 33 } : Room).cells ({ frames := 2, cells := 2, slots := 16, locals := 33 } : Room).slots) := by
  refine MetFree.of_bodySF (plainFor_of_name pn14) hisR ?_
  intro p e s m args below meth c s₁ Bd hml0 hP hK
  obtain ⟨rfl, hZ, hh⟩ := hP
  have hx := Bd.exec
  have hby := Bd.bytes
  have hml : c.maxLocals = 4 := hml0
  have hown : s.vm.findClass "com/example/portia/portia/index/Postings" = some m.cls := findClass_of_methodNamed Bd.named
  have hnm := (name_of_methodNamed Bd.named Bd.method).1
  have X0 : Stand p l e ({ frames := 2, cells := 2, slots := 16, locals := 33 } : Room) s m #[(.ref x0), (.int x1), (.int (1 : Int32)), (.int (1 : Int32))] below meth c s₁ [] 0 0 := Stand.of_body Bd
  have e0 : s₁.heap = h0 := by rw [← hh, Bd.state]; rfl
  have N0 := Fr.nil n0
  have pre0 : Steps p.tables e below (s₁.setTop (entryFrame m #[(.ref x0), (.int x1), (.int (1 : Int32)), (.int (1 : Int32))] 4)) (s₁.setTop (mkF m 0 #[.val (.ref x0), .val (.int x1), .val (.int (1 : Int32)), .val (.int (1 : Int32))] [])) := castTop (ef14 m x0 x1) (Steps.refl _)
  have K0 := Keep.refl h0 [x0]
  have st1 : Steps p.tables e below (s₁.setTop (mkF m 0 #[.val (.ref x0), .val (.int x1), .val (.int (1 : Int32)), .val (.int (1 : Int32))] [])) (s₁.setTop (mkF m 1 #[.val (.ref x0), .val (.int x1), .val (.int (1 : Int32)), .val (.int (1 : Int32))] [(.ref x0)])) := by
    refine XS.aloadN X0.here hx rfl (hb hby d14_0) rfl rfl ?_
    show Steps p.tables e below (s₁.setTop (mkF m 1 #[.val (.ref x0), .val (.int x1), .val (.int (1 : Int32)), .val (.int (1 : Int32))] [(.ref x0)])) _
    exact Steps.refl _
  have pre1 := pre0.trans st1
  obtain ⟨T2, X2, e2, st2⟩ := getF X0 hx hZ hown (host := "") (Or.inl (hw _ (List.mem_of_getElem? (i := 26) rfl))) Via.refl e0 B3 (g := (mkF m 1 #[.val (.ref x0), .val (.int x1), .val (.int (1 : Int32)), .val (.int (1 : Int32))] [(.ref x0)])) rfl rfl (hb hby d14_1)
  have pre2 : Steps p.tables e below (s₁.setTop (entryFrame m #[(.ref x0), (.int x1), (.int (1 : Int32)), (.int (1 : Int32))] 4)) (T2.setTop (mkF m 4 #[.val (.ref x0), .val (.int x1), .val (.int (1 : Int32)), .val (.int (1 : Int32))] [(.int (4 : Int32))])) := pre1.trans (st2 _ (Steps.refl _))
  have st3 : Steps p.tables e below (T2.setTop (mkF m 4 #[.val (.ref x0), .val (.int x1), .val (.int (1 : Int32)), .val (.int (1 : Int32))] [(.int (4 : Int32))])) (T2.setTop (mkF m 5 #[.val (.ref x0), .val (.int x1), .val (.int (1 : Int32)), .val (.int (1 : Int32))] [(.ref x0), (.int (4 : Int32))])) := by
    refine XS.aloadN X2.here hx rfl (hb hby d14_4) rfl rfl ?_
    show Steps p.tables e below (T2.setTop (mkF m 5 #[.val (.ref x0), .val (.int x1), .val (.int (1 : Int32)), .val (.int (1 : Int32))] [(.ref x0), (.int (4 : Int32))])) _
    exact Steps.refl _
  have pre3 := pre2.trans st3
  obtain ⟨T4, X4, e4, st4⟩ := getF X2 hx hZ hown (host := "") (Or.inl (hw _ (List.mem_of_getElem? (i := 13) rfl))) Via.refl e2 B1 (g := (mkF m 5 #[.val (.ref x0), .val (.int x1), .val (.int (1 : Int32)), .val (.int (1 : Int32))] [(.ref x0), (.int (4 : Int32))])) rfl rfl (hb hby d14_5)
  have pre4 : Steps p.tables e below (s₁.setTop (entryFrame m #[(.ref x0), (.int x1), (.int (1 : Int32)), (.int (1 : Int32))] 4)) (T4.setTop (mkF m 8 #[.val (.ref x0), .val (.int x1), .val (.int (1 : Int32)), .val (.int (1 : Int32))] [(.ref ao), (.int (4 : Int32))])) := pre3.trans (st4 _ (Steps.refl _))
  obtain ⟨cl5, Ar5, q5, S5, G5, H5, J5⟩ := id B8
  have st5 : Steps p.tables e below (T4.setTop (mkF m 8 #[.val (.ref x0), .val (.int x1), .val (.int (1 : Int32)), .val (.int (1 : Int32))] [(.ref ao), (.int (4 : Int32))])) (T4.setTop (mkF m 9 #[.val (.ref x0), .val (.int x1), .val (.int (1 : Int32)), .val (.int (1 : Int32))] [(.int (4 : Int32)), (.int (4 : Int32))])) := by
    refine X4.arraylength hx (by rw [e4]; exact Ar5.1) (State.isArrayOf_alike hZ.alike Ar5.2.1) (g := (mkF m 8 #[.val (.ref x0), .val (.int x1), .val (.int (1 : Int32)), .val (.int (1 : Int32))] [(.ref ao), (.int (4 : Int32))])) rfl rfl (hb hby d14_8) _ ?_
    rw [len_of S5 G5]
    exact Steps.refl _
  have pre5 := pre4.trans st5
  have st6 : Steps p.tables e below (T4.setTop (mkF m 9 #[.val (.ref x0), .val (.int x1), .val (.int (1 : Int32)), .val (.int (1 : Int32))] [(.int (4 : Int32)), (.int (4 : Int32))])) (T4.setTop (mkF m 14 #[.val (.ref x0), .val (.int x1), .val (.int (1 : Int32)), .val (.int (1 : Int32))] [(.ref x0), (.ref x0)])) := by
    refine XS.icmpNo X4.here hx rfl (hb hby d14_9) rfl (teq (by decide : ((4 : Int32) = (4 : Int32)))).2 ?_
    show Steps p.tables e below (T4.setTop (mkF m 12 #[.val (.ref x0), .val (.int x1), .val (.int (1 : Int32)), .val (.int (1 : Int32))] [])) _
    refine XS.aloadN X4.here hx rfl (hb hby d14_12) rfl rfl ?_
    show Steps p.tables e below (T4.setTop (mkF m 13 #[.val (.ref x0), .val (.int x1), .val (.int (1 : Int32)), .val (.int (1 : Int32))] [(.ref x0)])) _
    refine XS.aloadN X4.here hx rfl (hb hby d14_13) rfl rfl ?_
    show Steps p.tables e below (T4.setTop (mkF m 14 #[.val (.ref x0), .val (.int x1), .val (.int (1 : Int32)), .val (.int (1 : Int32))] [(.ref x0), (.ref x0)])) _
    exact Steps.refl _
  have pre6 := pre5.trans st6
  obtain ⟨T7, X7, e7, st7⟩ := getF X4 hx hZ hown (host := "") (Or.inl (hw _ (List.mem_of_getElem? (i := 13) rfl))) Via.refl e4 B1 (g := (mkF m 14 #[.val (.ref x0), .val (.int x1), .val (.int (1 : Int32)), .val (.int (1 : Int32))] [(.ref x0), (.ref x0)])) rfl rfl (hb hby d14_14)
  have pre7 : Steps p.tables e below (s₁.setTop (entryFrame m #[(.ref x0), (.int x1), (.int (1 : Int32)), (.int (1 : Int32))] 4)) (T7.setTop (mkF m 17 #[.val (.ref x0), .val (.int x1), .val (.int (1 : Int32)), .val (.int (1 : Int32))] [(.ref ao), (.ref x0)])) := pre6.trans (st7 _ (Steps.refl _))
  have st8 : Steps p.tables e below (T7.setTop (mkF m 17 #[.val (.ref x0), .val (.int x1), .val (.int (1 : Int32)), .val (.int (1 : Int32))] [(.ref ao), (.ref x0)])) (T7.setTop (mkF m 18 #[.val (.ref x0), .val (.int x1), .val (.int (1 : Int32)), .val (.int (1 : Int32))] [(.ref x0), (.ref ao), (.ref x0)])) := by
    refine XS.aloadN X7.here hx rfl (hb hby d14_17) rfl rfl ?_
    show Steps p.tables e below (T7.setTop (mkF m 18 #[.val (.ref x0), .val (.int x1), .val (.int (1 : Int32)), .val (.int (1 : Int32))] [(.ref x0), (.ref ao), (.ref x0)])) _
    exact Steps.refl _
  have pre8 := pre7.trans st8
  obtain ⟨T9, X9, e9, st9⟩ := getF X7 hx hZ hown (host := "") (Or.inl (hw _ (List.mem_of_getElem? (i := 26) rfl))) Via.refl e7 B3 (g := (mkF m 18 #[.val (.ref x0), .val (.int x1), .val (.int (1 : Int32)), .val (.int (1 : Int32))] [(.ref x0), (.ref ao), (.ref x0)])) rfl rfl (hb hby d14_18)
  have pre9 : Steps p.tables e below (s₁.setTop (entryFrame m #[(.ref x0), (.int x1), (.int (1 : Int32)), (.int (1 : Int32))] 4)) (T9.setTop (mkF m 21 #[.val (.ref x0), .val (.int x1), .val (.int (1 : Int32)), .val (.int (1 : Int32))] [(.int (4 : Int32)), (.ref ao), (.ref x0)])) := pre8.trans (st9 _ (Steps.refl _))
  have st10 : Steps p.tables e below (T9.setTop (mkF m 21 #[.val (.ref x0), .val (.int x1), .val (.int (1 : Int32)), .val (.int (1 : Int32))] [(.int (4 : Int32)), (.ref ao), (.ref x0)])) (T9.setTop (mkF m 23 #[.val (.ref x0), .val (.int x1), .val (.int (1 : Int32)), .val (.int (1 : Int32))] [(.int (8 : Int32)), (.ref ao), (.ref x0)])) := by
    refine XS.iconst X9.here hx rfl (hb hby d14_21) ?_
    show Steps p.tables e below (T9.setTop (mkF m 22 #[.val (.ref x0), .val (.int x1), .val (.int (1 : Int32)), .val (.int (1 : Int32))] [(.int (2 : Int32)), (.int (4 : Int32)), (.ref ao), (.ref x0)])) _
    refine XS.imul X9.here hx rfl (hb hby d14_22) rfl ?_
    show Steps p.tables e below (T9.setTop (mkF m 23 #[.val (.ref x0), .val (.int x1), .val (.int (1 : Int32)), .val (.int (1 : Int32))] [(.int (8 : Int32)), (.ref ao), (.ref x0)])) _
    exact Steps.refl _
  have pre10 := pre9.trans st10
  obtain ⟨_, _, ⟨T11, L11, k11, n11⟩, -, X11, ⟨Lc11, hQ11, l11, y11, z11⟩, st11⟩ := Jvm.LawKit.callS X9 hx (y := (⟨"java/util/Arrays", "copyOf", "([II)[I"⟩ : MethodName)) hown (mvT hZ (hw _ (List.mem_of_getElem? (i := 41) rfl))) (mvT hZ (hw _ (List.mem_of_getElem? (i := 42) rfl))) (mvT hZ (hw _ (List.mem_of_getElem? (i := 43) rfl))) (mvT hZ (hw _ (List.mem_of_getElem? (i := 44) rfl))) (by decide) (backOf (W := 1) (rm5 l Z a0 hw [] ao ko y0 y1 y2 y3 h0 n0 Z0 B8) hZ (hw _ (List.mem_of_getElem? (i := 44) rfl)) (hw _ (List.mem_of_getElem? (i := 43) rfl)) (by decide) (by decide)) (g := (mkF m 23 #[.val (.ref x0), .val (.int x1), .val (.int (1 : Int32)), .val (.int (1 : Int32))] [(.int (8 : Int32)), (.ref ao), (.ref x0)])) rfl (by rw [hml]; rfl) (argsL := [(.ref ao), (.int (8 : Int32))]) (rest := [(.ref x0)]) (lenOf pd14_0 rfl) rfl (by show 2 * 0 + _ ≤ _; exact Nat.le_of_eq rfl) (hb hby d14_23) (fun _ _ => ⟨rfl, e9, (by decide : 0 + 1 ≤ _), (by decide : 0 + 8 ≤ _)⟩)
  dsimp only [Pt.U, Pt.locs, Pt.cells, Pt.slots] at X11 l11 y11 z11 st11 hQ11
  subst l11 y11 z11
  obtain ⟨b11, kr_11, rfl, Nq11, Kq11, gf11, P11_0⟩ := hQ11
  have gn11 : n0 ≤ b11 := Nat.le_trans Z0 gf11
  have sz11 : h0.size ≤ b11 := Nat.le_trans K0.1 gf11
  have nex0_b11 : x0 ≠ b11 := Nat.ne_of_lt (Nat.lt_of_lt_of_le B0.lt gf11)
  have neao_b11 : ao ≠ b11 := Nat.ne_of_lt (Nat.lt_of_lt_of_le B8.lt gf11)
  have neaf_b11 : af ≠ b11 := Nat.ne_of_lt (Nat.lt_of_lt_of_le B9.lt gf11)
  have neai_b11 : ai ≠ b11 := Nat.ne_of_lt (Nat.lt_of_lt_of_le B10.lt gf11)
  have neal_b11 : al ≠ b11 := Nat.ne_of_lt (Nat.lt_of_lt_of_le B11.lt gf11)
  have F12 : Exa Z T11.heap x0 "com/example/portia/portia/index/Postings" := B0.keep Kq11
  have F13 : Fld Z T11.heap x0 "com/example/portia/portia/index/Postings" "ordinals" "[I" (.ref ao) := B1.keep Kq11 nin0
  have F14 : Fld Z T11.heap x0 "com/example/portia/portia/index/Postings" "frequencies" "[I" (.ref af) := B2.keep Kq11 nin0
  have F15 : Fld Z T11.heap x0 "com/example/portia/portia/index/Postings" "size" "I" (.int (4 : Int32)) := B3.keep Kq11 nin0
  have F16 : Fld Z T11.heap x0 "com/example/portia/portia/index/Postings" "documentFrequency" "I" (.int (4 : Int32)) := B4.keep Kq11 nin0
  have F17 : Fld Z T11.heap x0 "com/example/portia/portia/index/Postings" "impactFrequencies" "[I" (.ref ai) := B5.keep Kq11 nin0
  have F18 : Fld Z T11.heap x0 "com/example/portia/portia/index/Postings" "impactLengths" "[I" (.ref al) := B6.keep Kq11 nin0
  have F19 : Fld Z T11.heap x0 "com/example/portia/portia/index/Postings" "impactCount" "I" (.int (1 : Int32)) := B7.keep Kq11 nin0
  have F20 : Arv Z T11.heap ao ko .int (4 : Int32) [(.int y0), (.int y1), (.int y2), (.int y3)] (.int (0 : Int32)) := B8.keep Kq11 nin0
  have F21 : Arv Z T11.heap af kf .int (4 : Int32) [(.int (1 : Int32)), (.int (1 : Int32)), (.int (1 : Int32)), (.int (1 : Int32))] (.int (0 : Int32)) := B9.keep Kq11 nin0
  have F22 : Arv Z T11.heap ai ki .int (1 : Int32) [(.int (1 : Int32))] (.int (0 : Int32)) := B10.keep Kq11 nin0
  have F23 : Arv Z T11.heap al kl .int (1 : Int32) [(.int (1 : Int32))] (.int (0 : Int32)) := B11.keep Kq11 nin0
  have KK11 := K0.trans Kq11 all0
  have Z11 : n0 ≤ T11.heap.size := Nat.le_trans Z0 Kq11.1
  have N11 := Fr.app N0 Nq11
  have pre11 : Steps p.tables e below (s₁.setTop (entryFrame m #[(.ref x0), (.int x1), (.int (1 : Int32)), (.int (1 : Int32))] 4)) (T11.setTop (mkF m 26 #[.val (.ref x0), .val (.int x1), .val (.int (1 : Int32)), .val (.int (1 : Int32))] [(.ref b11), (.ref x0)])) := pre10.trans (st11 _ (Steps.refl _))
  obtain ⟨T24, h24, X24, e24, W24, st24⟩ := putF X11 hx hZ hown (host := "") (Or.inl (hw _ (List.mem_of_getElem? (i := 13) rfl))) Via.refl rfl F13 F12 (Or.inl (hw _ (List.mem_of_getElem? (i := 14) rfl))) (hw _ (List.mem_of_getElem? (i := 5) rfl)) (ty := (.array .int)) (by decide) rfl rfl (g := (mkF m 26 #[.val (.ref x0), .val (.int x1), .val (.int (1 : Int32)), .val (.int (1 : Int32))] [(.ref b11), (.ref x0)])) rfl rfl (hb hby d14_26)
  have pre24 : Steps p.tables e below (s₁.setTop (entryFrame m #[(.ref x0), (.int x1), (.int (1 : Int32)), (.int (1 : Int32))] 4)) (T24.setTop (mkF m 29 #[.val (.ref x0), .val (.int x1), .val (.int (1 : Int32)), .val (.int (1 : Int32))] [])) := pre11.trans (st24 _ (Steps.refl _))
  have F25 : Exa Z h24 x0 "com/example/portia/portia/index/Postings" := F12.wr W24
  have F27 : Fld Z h24 x0 "com/example/portia/portia/index/Postings" "frequencies" "[I" (.ref af) := F14.other W24 (Or.inr (slot_ne (Or.inl (hw _ (List.mem_of_getElem? (i := 16) rfl))) (Or.inl (hw _ (List.mem_of_getElem? (i := 14) rfl))) (by decide) (t := (.array .int)) (t' := (.array .int)) (by decide) (by decide)))
  have F28 : Fld Z h24 x0 "com/example/portia/portia/index/Postings" "size" "I" (.int (4 : Int32)) := F15.other W24 (Or.inr (slot_ne (Or.inl (hw _ (List.mem_of_getElem? (i := 27) rfl))) (Or.inl (hw _ (List.mem_of_getElem? (i := 14) rfl))) (by decide) (t := .int) (t' := (.array .int)) (by decide) (by decide)))
  have F29 : Fld Z h24 x0 "com/example/portia/portia/index/Postings" "documentFrequency" "I" (.int (4 : Int32)) := F16.other W24 (Or.inr (slot_ne (Or.inl (hw _ (List.mem_of_getElem? (i := 34) rfl))) (Or.inl (hw _ (List.mem_of_getElem? (i := 14) rfl))) (by decide) (t := .int) (t' := (.array .int)) (by decide) (by decide)))
  have F30 : Fld Z h24 x0 "com/example/portia/portia/index/Postings" "impactFrequencies" "[I" (.ref ai) := F17.other W24 (Or.inr (slot_ne (Or.inl (hw _ (List.mem_of_getElem? (i := 18) rfl))) (Or.inl (hw _ (List.mem_of_getElem? (i := 14) rfl))) (by decide) (t := (.array .int)) (t' := (.array .int)) (by decide) (by decide)))
  have F31 : Fld Z h24 x0 "com/example/portia/portia/index/Postings" "impactLengths" "[I" (.ref al) := F18.other W24 (Or.inr (slot_ne (Or.inl (hw _ (List.mem_of_getElem? (i := 20) rfl))) (Or.inl (hw _ (List.mem_of_getElem? (i := 14) rfl))) (by decide) (t := (.array .int)) (t' := (.array .int)) (by decide) (by decide)))
  have F32 : Fld Z h24 x0 "com/example/portia/portia/index/Postings" "impactCount" "I" (.int (1 : Int32)) := F19.other W24 (Or.inr (slot_ne (Or.inl (hw _ (List.mem_of_getElem? (i := 40) rfl))) (Or.inl (hw _ (List.mem_of_getElem? (i := 14) rfl))) (by decide) (t := .int) (t' := (.array .int)) (by decide) (by decide)))
  have F33 : Arv Z h24 ao ko .int (4 : Int32) [(.int y0), (.int y1), (.int y2), (.int y3)] (.int (0 : Int32)) := F20.other W24 (Ne.symm n_x0_ao)
  have F34 : Arv Z h24 af kf .int (4 : Int32) [(.int (1 : Int32)), (.int (1 : Int32)), (.int (1 : Int32)), (.int (1 : Int32))] (.int (0 : Int32)) := F21.other W24 (Ne.symm n_x0_af)
  have F35 : Arv Z h24 ai ki .int (1 : Int32) [(.int (1 : Int32))] (.int (0 : Int32)) := F22.other W24 (Ne.symm n_x0_ai)
  have F36 : Arv Z h24 al kl .int (1 : Int32) [(.int (1 : Int32))] (.int (0 : Int32)) := F23.other W24 (Ne.symm n_x0_al)
  have F37 : Arv Z h24 b11 kr_11 .int (8 : Int32) [(.int y0), (.int y1), (.int y2), (.int y3), (.int (0 : Int32)), (.int (0 : Int32)), (.int (0 : Int32)), (.int (0 : Int32))] (.int (0 : Int32)) := P11_0.other W24 (Ne.symm nex0_b11)
  have K24 := KK11.wr W24 (Or.inl (List.mem_of_getElem? (i := 0) rfl))
  have Z24 : n0 ≤ h24.size := Nat.le_trans Z11 (Keep.of_wr W24).1
  have Fw24 : Fld Z h24 x0 "com/example/portia/portia/index/Postings" "ordinals" "[I" (.ref b11) := F13.same W24
  have N24 := Fr.snoc X24 N11 g_x0
  have st38 : Steps p.tables e below (T24.setTop (mkF m 29 #[.val (.ref x0), .val (.int x1), .val (.int (1 : Int32)), .val (.int (1 : Int32))] [])) (T24.setTop (mkF m 31 #[.val (.ref x0), .val (.int x1), .val (.int (1 : Int32)), .val (.int (1 : Int32))] [(.ref x0), (.ref x0)])) := by
    refine XS.aloadN X24.here hx rfl (hb hby d14_29) rfl rfl ?_
    show Steps p.tables e below (T24.setTop (mkF m 30 #[.val (.ref x0), .val (.int x1), .val (.int (1 : Int32)), .val (.int (1 : Int32))] [(.ref x0)])) _
    refine XS.aloadN X24.here hx rfl (hb hby d14_30) rfl rfl ?_
    show Steps p.tables e below (T24.setTop (mkF m 31 #[.val (.ref x0), .val (.int x1), .val (.int (1 : Int32)), .val (.int (1 : Int32))] [(.ref x0), (.ref x0)])) _
    exact Steps.refl _
  have pre38 := pre24.trans st38
  obtain ⟨T39, X39, e39, st39⟩ := getF X24 hx hZ hown (host := "") (Or.inl (hw _ (List.mem_of_getElem? (i := 15) rfl))) Via.refl e24 F27 (g := (mkF m 31 #[.val (.ref x0), .val (.int x1), .val (.int (1 : Int32)), .val (.int (1 : Int32))] [(.ref x0), (.ref x0)])) rfl rfl (hb hby d14_31)
  have pre39 : Steps p.tables e below (s₁.setTop (entryFrame m #[(.ref x0), (.int x1), (.int (1 : Int32)), (.int (1 : Int32))] 4)) (T39.setTop (mkF m 34 #[.val (.ref x0), .val (.int x1), .val (.int (1 : Int32)), .val (.int (1 : Int32))] [(.ref af), (.ref x0)])) := pre38.trans (st39 _ (Steps.refl _))
  have st40 : Steps p.tables e below (T39.setTop (mkF m 34 #[.val (.ref x0), .val (.int x1), .val (.int (1 : Int32)), .val (.int (1 : Int32))] [(.ref af), (.ref x0)])) (T39.setTop (mkF m 35 #[.val (.ref x0), .val (.int x1), .val (.int (1 : Int32)), .val (.int (1 : Int32))] [(.ref x0), (.ref af), (.ref x0)])) := by
    refine XS.aloadN X39.here hx rfl (hb hby d14_34) rfl rfl ?_
    show Steps p.tables e below (T39.setTop (mkF m 35 #[.val (.ref x0), .val (.int x1), .val (.int (1 : Int32)), .val (.int (1 : Int32))] [(.ref x0), (.ref af), (.ref x0)])) _
    exact Steps.refl _
  have pre40 := pre39.trans st40
  obtain ⟨T41, X41, e41, st41⟩ := getF X39 hx hZ hown (host := "") (Or.inl (hw _ (List.mem_of_getElem? (i := 26) rfl))) Via.refl e39 F28 (g := (mkF m 35 #[.val (.ref x0), .val (.int x1), .val (.int (1 : Int32)), .val (.int (1 : Int32))] [(.ref x0), (.ref af), (.ref x0)])) rfl rfl (hb hby d14_35)
  have pre41 : Steps p.tables e below (s₁.setTop (entryFrame m #[(.ref x0), (.int x1), (.int (1 : Int32)), (.int (1 : Int32))] 4)) (T41.setTop (mkF m 38 #[.val (.ref x0), .val (.int x1), .val (.int (1 : Int32)), .val (.int (1 : Int32))] [(.int (4 : Int32)), (.ref af), (.ref x0)])) := pre40.trans (st41 _ (Steps.refl _))
  have st42 : Steps p.tables e below (T41.setTop (mkF m 38 #[.val (.ref x0), .val (.int x1), .val (.int (1 : Int32)), .val (.int (1 : Int32))] [(.int (4 : Int32)), (.ref af), (.ref x0)])) (T41.setTop (mkF m 40 #[.val (.ref x0), .val (.int x1), .val (.int (1 : Int32)), .val (.int (1 : Int32))] [(.int (8 : Int32)), (.ref af), (.ref x0)])) := by
    refine XS.iconst X41.here hx rfl (hb hby d14_38) ?_
    show Steps p.tables e below (T41.setTop (mkF m 39 #[.val (.ref x0), .val (.int x1), .val (.int (1 : Int32)), .val (.int (1 : Int32))] [(.int (2 : Int32)), (.int (4 : Int32)), (.ref af), (.ref x0)])) _
    refine XS.imul X41.here hx rfl (hb hby d14_39) rfl ?_
    show Steps p.tables e below (T41.setTop (mkF m 40 #[.val (.ref x0), .val (.int x1), .val (.int (1 : Int32)), .val (.int (1 : Int32))] [(.int (8 : Int32)), (.ref af), (.ref x0)])) _
    exact Steps.refl _
  have pre42 := pre41.trans st42
  obtain ⟨_, _, ⟨T43, L43, k43, n43⟩, -, X43, ⟨Lc43, hQ43, l43, y43, z43⟩, st43⟩ := Jvm.LawKit.callS X41 hx (y := (⟨"java/util/Arrays", "copyOf", "([II)[I"⟩ : MethodName)) hown (mvT hZ (hw _ (List.mem_of_getElem? (i := 41) rfl))) (mvT hZ (hw _ (List.mem_of_getElem? (i := 42) rfl))) (mvT hZ (hw _ (List.mem_of_getElem? (i := 43) rfl))) (mvT hZ (hw _ (List.mem_of_getElem? (i := 44) rfl))) (by decide) (backOf (W := 1) (rm5 l Z a0 hw [] af kf (1 : Int32) (1 : Int32) (1 : Int32) (1 : Int32) h24 n0 Z24 F34) hZ (hw _ (List.mem_of_getElem? (i := 44) rfl)) (hw _ (List.mem_of_getElem? (i := 43) rfl)) (by decide) (by decide)) (g := (mkF m 40 #[.val (.ref x0), .val (.int x1), .val (.int (1 : Int32)), .val (.int (1 : Int32))] [(.int (8 : Int32)), (.ref af), (.ref x0)])) rfl (by rw [hml]; rfl) (argsL := [(.ref af), (.int (8 : Int32))]) (rest := [(.ref x0)]) (lenOf pd14_0 rfl) rfl (by show 2 * 0 + _ ≤ _; exact Nat.le_of_eq rfl) (hb hby d14_40) (fun _ _ => ⟨rfl, e41, (by decide : 1 + 1 ≤ _), (by decide : 8 + 8 ≤ _)⟩)
  dsimp only [Pt.U, Pt.locs, Pt.cells, Pt.slots] at X43 l43 y43 z43 st43 hQ43
  subst l43 y43 z43
  obtain ⟨b43, kr_43, rfl, Nq43, Kq43, gf43, P43_0⟩ := hQ43
  have gn43 : n0 ≤ b43 := Nat.le_trans Z24 gf43
  have sz43 : h0.size ≤ b43 := Nat.le_trans K24.1 gf43
  have nex0_b43 : x0 ≠ b43 := Nat.ne_of_lt (Nat.lt_of_lt_of_le F25.lt gf43)
  have neao_b43 : ao ≠ b43 := Nat.ne_of_lt (Nat.lt_of_lt_of_le F33.lt gf43)
  have neaf_b43 : af ≠ b43 := Nat.ne_of_lt (Nat.lt_of_lt_of_le F34.lt gf43)
  have neai_b43 : ai ≠ b43 := Nat.ne_of_lt (Nat.lt_of_lt_of_le F35.lt gf43)
  have neal_b43 : al ≠ b43 := Nat.ne_of_lt (Nat.lt_of_lt_of_le F36.lt gf43)
  have neb11_b43 : b11 ≠ b43 := Nat.ne_of_lt (Nat.lt_of_lt_of_le F37.lt gf43)
  have F44 : Exa Z T43.heap x0 "com/example/portia/portia/index/Postings" := F25.keep Kq43
  have F45 : Fld Z T43.heap x0 "com/example/portia/portia/index/Postings" "frequencies" "[I" (.ref af) := F27.keep Kq43 nin0
  have F46 : Fld Z T43.heap x0 "com/example/portia/portia/index/Postings" "size" "I" (.int (4 : Int32)) := F28.keep Kq43 nin0
  have F47 : Fld Z T43.heap x0 "com/example/portia/portia/index/Postings" "documentFrequency" "I" (.int (4 : Int32)) := F29.keep Kq43 nin0
  have F48 : Fld Z T43.heap x0 "com/example/portia/portia/index/Postings" "impactFrequencies" "[I" (.ref ai) := F30.keep Kq43 nin0
  have F49 : Fld Z T43.heap x0 "com/example/portia/portia/index/Postings" "impactLengths" "[I" (.ref al) := F31.keep Kq43 nin0
  have F50 : Fld Z T43.heap x0 "com/example/portia/portia/index/Postings" "impactCount" "I" (.int (1 : Int32)) := F32.keep Kq43 nin0
  have F51 : Arv Z T43.heap ao ko .int (4 : Int32) [(.int y0), (.int y1), (.int y2), (.int y3)] (.int (0 : Int32)) := F33.keep Kq43 nin0
  have F52 : Arv Z T43.heap af kf .int (4 : Int32) [(.int (1 : Int32)), (.int (1 : Int32)), (.int (1 : Int32)), (.int (1 : Int32))] (.int (0 : Int32)) := F34.keep Kq43 nin0
  have F53 : Arv Z T43.heap ai ki .int (1 : Int32) [(.int (1 : Int32))] (.int (0 : Int32)) := F35.keep Kq43 nin0
  have F54 : Arv Z T43.heap al kl .int (1 : Int32) [(.int (1 : Int32))] (.int (0 : Int32)) := F36.keep Kq43 nin0
  have F55 : Arv Z T43.heap b11 kr_11 .int (8 : Int32) [(.int y0), (.int y1), (.int y2), (.int y3), (.int (0 : Int32)), (.int (0 : Int32)), (.int (0 : Int32)), (.int (0 : Int32))] (.int (0 : Int32)) := F37.keep Kq43 nin0
  have F56 : Fld Z T43.heap x0 "com/example/portia/portia/index/Postings" "ordinals" "[I" (.ref b11) := Fw24.keep Kq43 nin0
  have KK43 := K24.trans Kq43 all0
  have Z43 : n0 ≤ T43.heap.size := Nat.le_trans Z24 Kq43.1
  have N43 := Fr.app N24 Nq43
  have pre43 : Steps p.tables e below (s₁.setTop (entryFrame m #[(.ref x0), (.int x1), (.int (1 : Int32)), (.int (1 : Int32))] 4)) (T43.setTop (mkF m 43 #[.val (.ref x0), .val (.int x1), .val (.int (1 : Int32)), .val (.int (1 : Int32))] [(.ref b43), (.ref x0)])) := pre42.trans (st43 _ (Steps.refl _))
  obtain ⟨T57, h57, X57, e57, W57, st57⟩ := putF X43 hx hZ hown (host := "") (Or.inl (hw _ (List.mem_of_getElem? (i := 15) rfl))) Via.refl rfl F45 F44 (Or.inl (hw _ (List.mem_of_getElem? (i := 16) rfl))) (hw _ (List.mem_of_getElem? (i := 5) rfl)) (ty := (.array .int)) (by decide) rfl rfl (g := (mkF m 43 #[.val (.ref x0), .val (.int x1), .val (.int (1 : Int32)), .val (.int (1 : Int32))] [(.ref b43), (.ref x0)])) rfl rfl (hb hby d14_43)
  have pre57 : Steps p.tables e below (s₁.setTop (entryFrame m #[(.ref x0), (.int x1), (.int (1 : Int32)), (.int (1 : Int32))] 4)) (T57.setTop (mkF m 46 #[.val (.ref x0), .val (.int x1), .val (.int (1 : Int32)), .val (.int (1 : Int32))] [])) := pre43.trans (st57 _ (Steps.refl _))
  have F58 : Exa Z h57 x0 "com/example/portia/portia/index/Postings" := F44.wr W57
  have F60 : Fld Z h57 x0 "com/example/portia/portia/index/Postings" "size" "I" (.int (4 : Int32)) := F46.other W57 (Or.inr (slot_ne (Or.inl (hw _ (List.mem_of_getElem? (i := 27) rfl))) (Or.inl (hw _ (List.mem_of_getElem? (i := 16) rfl))) (by decide) (t := .int) (t' := (.array .int)) (by decide) (by decide)))
  have F61 : Fld Z h57 x0 "com/example/portia/portia/index/Postings" "documentFrequency" "I" (.int (4 : Int32)) := F47.other W57 (Or.inr (slot_ne (Or.inl (hw _ (List.mem_of_getElem? (i := 34) rfl))) (Or.inl (hw _ (List.mem_of_getElem? (i := 16) rfl))) (by decide) (t := .int) (t' := (.array .int)) (by decide) (by decide)))
  have F62 : Fld Z h57 x0 "com/example/portia/portia/index/Postings" "impactFrequencies" "[I" (.ref ai) := F48.other W57 (Or.inr (slot_ne (Or.inl (hw _ (List.mem_of_getElem? (i := 18) rfl))) (Or.inl (hw _ (List.mem_of_getElem? (i := 16) rfl))) (by decide) (t := (.array .int)) (t' := (.array .int)) (by decide) (by decide)))
  have F63 : Fld Z h57 x0 "com/example/portia/portia/index/Postings" "impactLengths" "[I" (.ref al) := F49.other W57 (Or.inr (slot_ne (Or.inl (hw _ (List.mem_of_getElem? (i := 20) rfl))) (Or.inl (hw _ (List.mem_of_getElem? (i := 16) rfl))) (by decide) (t := (.array .int)) (t' := (.array .int)) (by decide) (by decide)))
  have F64 : Fld Z h57 x0 "com/example/portia/portia/index/Postings" "impactCount" "I" (.int (1 : Int32)) := F50.other W57 (Or.inr (slot_ne (Or.inl (hw _ (List.mem_of_getElem? (i := 40) rfl))) (Or.inl (hw _ (List.mem_of_getElem? (i := 16) rfl))) (by decide) (t := .int) (t' := (.array .int)) (by decide) (by decide)))
  have F65 : Arv Z h57 ao ko .int (4 : Int32) [(.int y0), (.int y1), (.int y2), (.int y3)] (.int (0 : Int32)) := F51.other W57 (Ne.symm n_x0_ao)
  have F66 : Arv Z h57 af kf .int (4 : Int32) [(.int (1 : Int32)), (.int (1 : Int32)), (.int (1 : Int32)), (.int (1 : Int32))] (.int (0 : Int32)) := F52.other W57 (Ne.symm n_x0_af)
  have F67 : Arv Z h57 ai ki .int (1 : Int32) [(.int (1 : Int32))] (.int (0 : Int32)) := F53.other W57 (Ne.symm n_x0_ai)
  have F68 : Arv Z h57 al kl .int (1 : Int32) [(.int (1 : Int32))] (.int (0 : Int32)) := F54.other W57 (Ne.symm n_x0_al)
  have F69 : Arv Z h57 b11 kr_11 .int (8 : Int32) [(.int y0), (.int y1), (.int y2), (.int y3), (.int (0 : Int32)), (.int (0 : Int32)), (.int (0 : Int32)), (.int (0 : Int32))] (.int (0 : Int32)) := F55.other W57 (Ne.symm nex0_b11)
  have F70 : Fld Z h57 x0 "com/example/portia/portia/index/Postings" "ordinals" "[I" (.ref b11) := F56.other W57 (Or.inr (slot_ne (Or.inl (hw _ (List.mem_of_getElem? (i := 14) rfl))) (Or.inl (hw _ (List.mem_of_getElem? (i := 16) rfl))) (by decide) (t := (.array .int)) (t' := (.array .int)) (by decide) (by decide)))
  have F71 : Arv Z h57 b43 kr_43 .int (8 : Int32) [(.int (1 : Int32)), (.int (1 : Int32)), (.int (1 : Int32)), (.int (1 : Int32)), (.int (0 : Int32)), (.int (0 : Int32)), (.int (0 : Int32)), (.int (0 : Int32))] (.int (0 : Int32)) := P43_0.other W57 (Ne.symm nex0_b43)
  have K57 := KK43.wr W57 (Or.inl (List.mem_of_getElem? (i := 0) rfl))
  have Z57 : n0 ≤ h57.size := Nat.le_trans Z43 (Keep.of_wr W57).1
  have Fw57 : Fld Z h57 x0 "com/example/portia/portia/index/Postings" "frequencies" "[I" (.ref b43) := F45.same W57
  have N57 := Fr.snoc X57 N43 g_x0
  have st72 : Steps p.tables e below (T57.setTop (mkF m 46 #[.val (.ref x0), .val (.int x1), .val (.int (1 : Int32)), .val (.int (1 : Int32))] [])) (T57.setTop (mkF m 47 #[.val (.ref x0), .val (.int x1), .val (.int (1 : Int32)), .val (.int (1 : Int32))] [(.ref x0)])) := by
    refine XS.aloadN X57.here hx rfl (hb hby d14_46) rfl rfl ?_
    show Steps p.tables e below (T57.setTop (mkF m 47 #[.val (.ref x0), .val (.int x1), .val (.int (1 : Int32)), .val (.int (1 : Int32))] [(.ref x0)])) _
    exact Steps.refl _
  have pre72 := pre57.trans st72
  obtain ⟨T73, X73, e73, st73⟩ := getF X57 hx hZ hown (host := "") (Or.inl (hw _ (List.mem_of_getElem? (i := 13) rfl))) Via.refl e57 F70 (g := (mkF m 47 #[.val (.ref x0), .val (.int x1), .val (.int (1 : Int32)), .val (.int (1 : Int32))] [(.ref x0)])) rfl rfl (hb hby d14_47)
  have pre73 : Steps p.tables e below (s₁.setTop (entryFrame m #[(.ref x0), (.int x1), (.int (1 : Int32)), (.int (1 : Int32))] 4)) (T73.setTop (mkF m 50 #[.val (.ref x0), .val (.int x1), .val (.int (1 : Int32)), .val (.int (1 : Int32))] [(.ref b11)])) := pre72.trans (st73 _ (Steps.refl _))
  have st74 : Steps p.tables e below (T73.setTop (mkF m 50 #[.val (.ref x0), .val (.int x1), .val (.int (1 : Int32)), .val (.int (1 : Int32))] [(.ref b11)])) (T73.setTop (mkF m 51 #[.val (.ref x0), .val (.int x1), .val (.int (1 : Int32)), .val (.int (1 : Int32))] [(.ref x0), (.ref b11)])) := by
    refine XS.aloadN X73.here hx rfl (hb hby d14_50) rfl rfl ?_
    show Steps p.tables e below (T73.setTop (mkF m 51 #[.val (.ref x0), .val (.int x1), .val (.int (1 : Int32)), .val (.int (1 : Int32))] [(.ref x0), (.ref b11)])) _
    exact Steps.refl _
  have pre74 := pre73.trans st74
  obtain ⟨T75, X75, e75, st75⟩ := getF X73 hx hZ hown (host := "") (Or.inl (hw _ (List.mem_of_getElem? (i := 26) rfl))) Via.refl e73 F60 (g := (mkF m 51 #[.val (.ref x0), .val (.int x1), .val (.int (1 : Int32)), .val (.int (1 : Int32))] [(.ref x0), (.ref b11)])) rfl rfl (hb hby d14_51)
  have pre75 : Steps p.tables e below (s₁.setTop (entryFrame m #[(.ref x0), (.int x1), (.int (1 : Int32)), (.int (1 : Int32))] 4)) (T75.setTop (mkF m 54 #[.val (.ref x0), .val (.int x1), .val (.int (1 : Int32)), .val (.int (1 : Int32))] [(.int (4 : Int32)), (.ref b11)])) := pre74.trans (st75 _ (Steps.refl _))
  have st76 : Steps p.tables e below (T75.setTop (mkF m 54 #[.val (.ref x0), .val (.int x1), .val (.int (1 : Int32)), .val (.int (1 : Int32))] [(.int (4 : Int32)), (.ref b11)])) (T75.setTop (mkF m 55 #[.val (.ref x0), .val (.int x1), .val (.int (1 : Int32)), .val (.int (1 : Int32))] [(.int x1), (.int (4 : Int32)), (.ref b11)])) := by
    refine XS.iloadN X75.here hx rfl (hb hby d14_54) rfl ?_
    show Steps p.tables e below (T75.setTop (mkF m 55 #[.val (.ref x0), .val (.int x1), .val (.int (1 : Int32)), .val (.int (1 : Int32))] [(.int x1), (.int (4 : Int32)), (.ref b11)])) _
    exact Steps.refl _
  have pre76 := pre75.trans st76
  obtain ⟨cl77, Ar77, q77, S77, G77, H77, J77⟩ := id F69
  have in77 : ¬ ((4 : Int32) < 0 ∨ cl77.slots.size ≤ ((4 : Int32)).toNatClampNeg) := inb_of S77 ⟨by decide, by decide⟩
  obtain ⟨T77, h77, X77, e77, W77, st77⟩ := stI X75 hx hZ e75 Ar77 (j := (4 : Int32)) in77 (g := (mkF m 55 #[.val (.ref x0), .val (.int x1), .val (.int (1 : Int32)), .val (.int (1 : Int32))] [(.int x1), (.int (4 : Int32)), (.ref b11)])) rfl rfl (hb hby d14_55)
  have pre77 : Steps p.tables e below (s₁.setTop (entryFrame m #[(.ref x0), (.int x1), (.int (1 : Int32)), (.int (1 : Int32))] 4)) (T77.setTop (mkF m 56 #[.val (.ref x0), .val (.int x1), .val (.int (1 : Int32)), .val (.int (1 : Int32))] [])) := pre76.trans (st77 _ (Steps.refl _))
  have F78 : Exa Z h77 x0 "com/example/portia/portia/index/Postings" := F58.wr W77
  have F79 : Fld Z h77 x0 "com/example/portia/portia/index/Postings" "size" "I" (.int (4 : Int32)) := F60.other W77 (Or.inl nex0_b11)
  have F80 : Fld Z h77 x0 "com/example/portia/portia/index/Postings" "documentFrequency" "I" (.int (4 : Int32)) := F61.other W77 (Or.inl nex0_b11)
  have F81 : Fld Z h77 x0 "com/example/portia/portia/index/Postings" "impactFrequencies" "[I" (.ref ai) := F62.other W77 (Or.inl nex0_b11)
  have F82 : Fld Z h77 x0 "com/example/portia/portia/index/Postings" "impactLengths" "[I" (.ref al) := F63.other W77 (Or.inl nex0_b11)
  have F83 : Fld Z h77 x0 "com/example/portia/portia/index/Postings" "impactCount" "I" (.int (1 : Int32)) := F64.other W77 (Or.inl nex0_b11)
  have F84 : Arv Z h77 ao ko .int (4 : Int32) [(.int y0), (.int y1), (.int y2), (.int y3)] (.int (0 : Int32)) := F65.other W77 neao_b11
  have F85 : Arv Z h77 af kf .int (4 : Int32) [(.int (1 : Int32)), (.int (1 : Int32)), (.int (1 : Int32)), (.int (1 : Int32))] (.int (0 : Int32)) := F66.other W77 neaf_b11
  have F86 : Arv Z h77 ai ki .int (1 : Int32) [(.int (1 : Int32))] (.int (0 : Int32)) := F67.other W77 neai_b11
  have F87 : Arv Z h77 al kl .int (1 : Int32) [(.int (1 : Int32))] (.int (0 : Int32)) := F68.other W77 neal_b11
  have F89 : Fld Z h77 x0 "com/example/portia/portia/index/Postings" "ordinals" "[I" (.ref b11) := F70.other W77 (Or.inl nex0_b11)
  have F90 : Arv Z h77 b43 kr_43 .int (8 : Int32) [(.int (1 : Int32)), (.int (1 : Int32)), (.int (1 : Int32)), (.int (1 : Int32)), (.int (0 : Int32)), (.int (0 : Int32)), (.int (0 : Int32)), (.int (0 : Int32))] (.int (0 : Int32)) := F71.other W77 (Ne.symm neb11_b43)
  have F91 : Fld Z h77 x0 "com/example/portia/portia/index/Postings" "frequencies" "[I" (.ref b43) := Fw57.other W77 (Or.inl nex0_b11)
  have K77 := K57.wr W77 (Or.inr sz11)
  have Z77 : n0 ≤ h77.size := Nat.le_trans Z57 (Keep.of_wr W77).1
  have V77 : Arv Z h77 b11 kr_11 .int (8 : Int32) [(.int y0), (.int y1), (.int y2), (.int y3), (.int x1), (.int (0 : Int32)), (.int (0 : Int32)), (.int (0 : Int32))] (.int (0 : Int32)) := Arv.set Ar77 q77 S77 G77 H77 J77 rfl W77 4 rfl (Nat.le_of_ble_eq_true rfl)
  have N77 := Fr.snoc X77 N57 gn11
  have st92 : Steps p.tables e below (T77.setTop (mkF m 56 #[.val (.ref x0), .val (.int x1), .val (.int (1 : Int32)), .val (.int (1 : Int32))] [])) (T77.setTop (mkF m 57 #[.val (.ref x0), .val (.int x1), .val (.int (1 : Int32)), .val (.int (1 : Int32))] [(.ref x0)])) := by
    refine XS.aloadN X77.here hx rfl (hb hby d14_56) rfl rfl ?_
    show Steps p.tables e below (T77.setTop (mkF m 57 #[.val (.ref x0), .val (.int x1), .val (.int (1 : Int32)), .val (.int (1 : Int32))] [(.ref x0)])) _
    exact Steps.refl _
  have pre92 := pre77.trans st92
  obtain ⟨T93, X93, e93, st93⟩ := getF X77 hx hZ hown (host := "") (Or.inl (hw _ (List.mem_of_getElem? (i := 15) rfl))) Via.refl e77 F91 (g := (mkF m 57 #[.val (.ref x0), .val (.int x1), .val (.int (1 : Int32)), .val (.int (1 : Int32))] [(.ref x0)])) rfl rfl (hb hby d14_57)
  have pre93 : Steps p.tables e below (s₁.setTop (entryFrame m #[(.ref x0), (.int x1), (.int (1 : Int32)), (.int (1 : Int32))] 4)) (T93.setTop (mkF m 60 #[.val (.ref x0), .val (.int x1), .val (.int (1 : Int32)), .val (.int (1 : Int32))] [(.ref b43)])) := pre92.trans (st93 _ (Steps.refl _))
  have st94 : Steps p.tables e below (T93.setTop (mkF m 60 #[.val (.ref x0), .val (.int x1), .val (.int (1 : Int32)), .val (.int (1 : Int32))] [(.ref b43)])) (T93.setTop (mkF m 61 #[.val (.ref x0), .val (.int x1), .val (.int (1 : Int32)), .val (.int (1 : Int32))] [(.ref x0), (.ref b43)])) := by
    refine XS.aloadN X93.here hx rfl (hb hby d14_60) rfl rfl ?_
    show Steps p.tables e below (T93.setTop (mkF m 61 #[.val (.ref x0), .val (.int x1), .val (.int (1 : Int32)), .val (.int (1 : Int32))] [(.ref x0), (.ref b43)])) _
    exact Steps.refl _
  have pre94 := pre93.trans st94
  obtain ⟨T95, X95, e95, st95⟩ := getF X93 hx hZ hown (host := "") (Or.inl (hw _ (List.mem_of_getElem? (i := 26) rfl))) Via.refl e93 F79 (g := (mkF m 61 #[.val (.ref x0), .val (.int x1), .val (.int (1 : Int32)), .val (.int (1 : Int32))] [(.ref x0), (.ref b43)])) rfl rfl (hb hby d14_61)
  have pre95 : Steps p.tables e below (s₁.setTop (entryFrame m #[(.ref x0), (.int x1), (.int (1 : Int32)), (.int (1 : Int32))] 4)) (T95.setTop (mkF m 64 #[.val (.ref x0), .val (.int x1), .val (.int (1 : Int32)), .val (.int (1 : Int32))] [(.int (4 : Int32)), (.ref b43)])) := pre94.trans (st95 _ (Steps.refl _))
  have st96 : Steps p.tables e below (T95.setTop (mkF m 64 #[.val (.ref x0), .val (.int x1), .val (.int (1 : Int32)), .val (.int (1 : Int32))] [(.int (4 : Int32)), (.ref b43)])) (T95.setTop (mkF m 65 #[.val (.ref x0), .val (.int x1), .val (.int (1 : Int32)), .val (.int (1 : Int32))] [(.int (1 : Int32)), (.int (4 : Int32)), (.ref b43)])) := by
    refine XS.iloadN X95.here hx rfl (hb hby d14_64) rfl ?_
    show Steps p.tables e below (T95.setTop (mkF m 65 #[.val (.ref x0), .val (.int x1), .val (.int (1 : Int32)), .val (.int (1 : Int32))] [(.int (1 : Int32)), (.int (4 : Int32)), (.ref b43)])) _
    exact Steps.refl _
  have pre96 := pre95.trans st96
  obtain ⟨cl97, Ar97, q97, S97, G97, H97, J97⟩ := id F90
  have in97 : ¬ ((4 : Int32) < 0 ∨ cl97.slots.size ≤ ((4 : Int32)).toNatClampNeg) := inb_of S97 ⟨by decide, by decide⟩
  obtain ⟨T97, h97, X97, e97, W97, st97⟩ := stI X95 hx hZ e95 Ar97 (j := (4 : Int32)) in97 (g := (mkF m 65 #[.val (.ref x0), .val (.int x1), .val (.int (1 : Int32)), .val (.int (1 : Int32))] [(.int (1 : Int32)), (.int (4 : Int32)), (.ref b43)])) rfl rfl (hb hby d14_65)
  have pre97 : Steps p.tables e below (s₁.setTop (entryFrame m #[(.ref x0), (.int x1), (.int (1 : Int32)), (.int (1 : Int32))] 4)) (T97.setTop (mkF m 66 #[.val (.ref x0), .val (.int x1), .val (.int (1 : Int32)), .val (.int (1 : Int32))] [])) := pre96.trans (st97 _ (Steps.refl _))
  have F98 : Exa Z h97 x0 "com/example/portia/portia/index/Postings" := F78.wr W97
  have F99 : Fld Z h97 x0 "com/example/portia/portia/index/Postings" "size" "I" (.int (4 : Int32)) := F79.other W97 (Or.inl nex0_b43)
  have F100 : Fld Z h97 x0 "com/example/portia/portia/index/Postings" "documentFrequency" "I" (.int (4 : Int32)) := F80.other W97 (Or.inl nex0_b43)
  have F101 : Fld Z h97 x0 "com/example/portia/portia/index/Postings" "impactFrequencies" "[I" (.ref ai) := F81.other W97 (Or.inl nex0_b43)
  have F102 : Fld Z h97 x0 "com/example/portia/portia/index/Postings" "impactLengths" "[I" (.ref al) := F82.other W97 (Or.inl nex0_b43)
  have F103 : Fld Z h97 x0 "com/example/portia/portia/index/Postings" "impactCount" "I" (.int (1 : Int32)) := F83.other W97 (Or.inl nex0_b43)
  have F104 : Arv Z h97 ao ko .int (4 : Int32) [(.int y0), (.int y1), (.int y2), (.int y3)] (.int (0 : Int32)) := F84.other W97 neao_b43
  have F105 : Arv Z h97 af kf .int (4 : Int32) [(.int (1 : Int32)), (.int (1 : Int32)), (.int (1 : Int32)), (.int (1 : Int32))] (.int (0 : Int32)) := F85.other W97 neaf_b43
  have F106 : Arv Z h97 ai ki .int (1 : Int32) [(.int (1 : Int32))] (.int (0 : Int32)) := F86.other W97 neai_b43
  have F107 : Arv Z h97 al kl .int (1 : Int32) [(.int (1 : Int32))] (.int (0 : Int32)) := F87.other W97 neal_b43
  have F108 : Fld Z h97 x0 "com/example/portia/portia/index/Postings" "ordinals" "[I" (.ref b11) := F89.other W97 (Or.inl nex0_b43)
  have F110 : Fld Z h97 x0 "com/example/portia/portia/index/Postings" "frequencies" "[I" (.ref b43) := F91.other W97 (Or.inl nex0_b43)
  have F111 : Arv Z h97 b11 kr_11 .int (8 : Int32) [(.int y0), (.int y1), (.int y2), (.int y3), (.int x1), (.int (0 : Int32)), (.int (0 : Int32)), (.int (0 : Int32))] (.int (0 : Int32)) := V77.other W97 neb11_b43
  have K97 := K77.wr W97 (Or.inr sz43)
  have Z97 : n0 ≤ h97.size := Nat.le_trans Z77 (Keep.of_wr W97).1
  have V97 : Arv Z h97 b43 kr_43 .int (8 : Int32) [(.int (1 : Int32)), (.int (1 : Int32)), (.int (1 : Int32)), (.int (1 : Int32)), (.int (1 : Int32)), (.int (0 : Int32)), (.int (0 : Int32)), (.int (0 : Int32))] (.int (0 : Int32)) := Arv.set Ar97 q97 S97 G97 H97 J97 rfl W97 4 rfl (Nat.le_of_ble_eq_true rfl)
  have N97 := Fr.snoc X97 N77 gn43
  have st112 : Steps p.tables e below (T97.setTop (mkF m 66 #[.val (.ref x0), .val (.int x1), .val (.int (1 : Int32)), .val (.int (1 : Int32))] [])) (T97.setTop (mkF m 68 #[.val (.ref x0), .val (.int x1), .val (.int (1 : Int32)), .val (.int (1 : Int32))] [(.ref x0), (.ref x0)])) := by
    refine XS.aloadN X97.here hx rfl (hb hby d14_66) rfl rfl ?_
    show Steps p.tables e below (T97.setTop (mkF m 67 #[.val (.ref x0), .val (.int x1), .val (.int (1 : Int32)), .val (.int (1 : Int32))] [(.ref x0)])) _
    refine XS.dup X97.here hx rfl (hb hby d14_67) rfl rfl ?_
    show Steps p.tables e below (T97.setTop (mkF m 68 #[.val (.ref x0), .val (.int x1), .val (.int (1 : Int32)), .val (.int (1 : Int32))] [(.ref x0), (.ref x0)])) _
    exact Steps.refl _
  have pre112 := pre97.trans st112
  obtain ⟨T113, X113, e113, st113⟩ := getF X97 hx hZ hown (host := "") (Or.inl (hw _ (List.mem_of_getElem? (i := 26) rfl))) Via.refl e97 F99 (g := (mkF m 68 #[.val (.ref x0), .val (.int x1), .val (.int (1 : Int32)), .val (.int (1 : Int32))] [(.ref x0), (.ref x0)])) rfl rfl (hb hby d14_68)
  have pre113 : Steps p.tables e below (s₁.setTop (entryFrame m #[(.ref x0), (.int x1), (.int (1 : Int32)), (.int (1 : Int32))] 4)) (T113.setTop (mkF m 71 #[.val (.ref x0), .val (.int x1), .val (.int (1 : Int32)), .val (.int (1 : Int32))] [(.int (4 : Int32)), (.ref x0)])) := pre112.trans (st113 _ (Steps.refl _))
  have st114 : Steps p.tables e below (T113.setTop (mkF m 71 #[.val (.ref x0), .val (.int x1), .val (.int (1 : Int32)), .val (.int (1 : Int32))] [(.int (4 : Int32)), (.ref x0)])) (T113.setTop (mkF m 73 #[.val (.ref x0), .val (.int x1), .val (.int (1 : Int32)), .val (.int (1 : Int32))] [(.int (5 : Int32)), (.ref x0)])) := by
    refine XS.iconst X113.here hx rfl (hb hby d14_71) ?_
    show Steps p.tables e below (T113.setTop (mkF m 72 #[.val (.ref x0), .val (.int x1), .val (.int (1 : Int32)), .val (.int (1 : Int32))] [(.int (1 : Int32)), (.int (4 : Int32)), (.ref x0)])) _
    refine XS.iadd X113.here hx rfl (hb hby d14_72) rfl ?_
    show Steps p.tables e below (T113.setTop (mkF m 73 #[.val (.ref x0), .val (.int x1), .val (.int (1 : Int32)), .val (.int (1 : Int32))] [(.int (5 : Int32)), (.ref x0)])) _
    exact Steps.refl _
  have pre114 := pre113.trans st114
  obtain ⟨T115, h115, X115, e115, W115, st115⟩ := putF X113 hx hZ hown (host := "") (Or.inl (hw _ (List.mem_of_getElem? (i := 26) rfl))) Via.refl e113 F99 F98 (Or.inl (hw _ (List.mem_of_getElem? (i := 27) rfl))) (hw _ (List.mem_of_getElem? (i := 5) rfl)) (ty := .int) (by decide) rfl rfl (g := (mkF m 73 #[.val (.ref x0), .val (.int x1), .val (.int (1 : Int32)), .val (.int (1 : Int32))] [(.int (5 : Int32)), (.ref x0)])) rfl rfl (hb hby d14_73)
  have pre115 : Steps p.tables e below (s₁.setTop (entryFrame m #[(.ref x0), (.int x1), (.int (1 : Int32)), (.int (1 : Int32))] 4)) (T115.setTop (mkF m 76 #[.val (.ref x0), .val (.int x1), .val (.int (1 : Int32)), .val (.int (1 : Int32))] [])) := pre114.trans (st115 _ (Steps.refl _))
  have F116 : Exa Z h115 x0 "com/example/portia/portia/index/Postings" := F98.wr W115
  have F118 : Fld Z h115 x0 "com/example/portia/portia/index/Postings" "documentFrequency" "I" (.int (4 : Int32)) := F100.other W115 (Or.inr (slot_ne (Or.inl (hw _ (List.mem_of_getElem? (i := 34) rfl))) (Or.inl (hw _ (List.mem_of_getElem? (i := 27) rfl))) (by decide) (t := .int) (t' := .int) (by decide) (by decide)))
  have F119 : Fld Z h115 x0 "com/example/portia/portia/index/Postings" "impactFrequencies" "[I" (.ref ai) := F101.other W115 (Or.inr (slot_ne (Or.inl (hw _ (List.mem_of_getElem? (i := 18) rfl))) (Or.inl (hw _ (List.mem_of_getElem? (i := 27) rfl))) (by decide) (t := (.array .int)) (t' := .int) (by decide) (by decide)))
  have F120 : Fld Z h115 x0 "com/example/portia/portia/index/Postings" "impactLengths" "[I" (.ref al) := F102.other W115 (Or.inr (slot_ne (Or.inl (hw _ (List.mem_of_getElem? (i := 20) rfl))) (Or.inl (hw _ (List.mem_of_getElem? (i := 27) rfl))) (by decide) (t := (.array .int)) (t' := .int) (by decide) (by decide)))
  have F121 : Fld Z h115 x0 "com/example/portia/portia/index/Postings" "impactCount" "I" (.int (1 : Int32)) := F103.other W115 (Or.inr (slot_ne (Or.inl (hw _ (List.mem_of_getElem? (i := 40) rfl))) (Or.inl (hw _ (List.mem_of_getElem? (i := 27) rfl))) (by decide) (t := .int) (t' := .int) (by decide) (by decide)))
  have F122 : Arv Z h115 ao ko .int (4 : Int32) [(.int y0), (.int y1), (.int y2), (.int y3)] (.int (0 : Int32)) := F104.other W115 (Ne.symm n_x0_ao)
  have F123 : Arv Z h115 af kf .int (4 : Int32) [(.int (1 : Int32)), (.int (1 : Int32)), (.int (1 : Int32)), (.int (1 : Int32))] (.int (0 : Int32)) := F105.other W115 (Ne.symm n_x0_af)
  have F124 : Arv Z h115 ai ki .int (1 : Int32) [(.int (1 : Int32))] (.int (0 : Int32)) := F106.other W115 (Ne.symm n_x0_ai)
  have F125 : Arv Z h115 al kl .int (1 : Int32) [(.int (1 : Int32))] (.int (0 : Int32)) := F107.other W115 (Ne.symm n_x0_al)
  have F126 : Fld Z h115 x0 "com/example/portia/portia/index/Postings" "ordinals" "[I" (.ref b11) := F108.other W115 (Or.inr (slot_ne (Or.inl (hw _ (List.mem_of_getElem? (i := 14) rfl))) (Or.inl (hw _ (List.mem_of_getElem? (i := 27) rfl))) (by decide) (t := (.array .int)) (t' := .int) (by decide) (by decide)))
  have F127 : Fld Z h115 x0 "com/example/portia/portia/index/Postings" "frequencies" "[I" (.ref b43) := F110.other W115 (Or.inr (slot_ne (Or.inl (hw _ (List.mem_of_getElem? (i := 16) rfl))) (Or.inl (hw _ (List.mem_of_getElem? (i := 27) rfl))) (by decide) (t := (.array .int)) (t' := .int) (by decide) (by decide)))
  have F128 : Arv Z h115 b11 kr_11 .int (8 : Int32) [(.int y0), (.int y1), (.int y2), (.int y3), (.int x1), (.int (0 : Int32)), (.int (0 : Int32)), (.int (0 : Int32))] (.int (0 : Int32)) := F111.other W115 (Ne.symm nex0_b11)
  have F129 : Arv Z h115 b43 kr_43 .int (8 : Int32) [(.int (1 : Int32)), (.int (1 : Int32)), (.int (1 : Int32)), (.int (1 : Int32)), (.int (1 : Int32)), (.int (0 : Int32)), (.int (0 : Int32)), (.int (0 : Int32))] (.int (0 : Int32)) := V97.other W115 (Ne.symm nex0_b43)
  have K115 := K97.wr W115 (Or.inl (List.mem_of_getElem? (i := 0) rfl))
  have Z115 : n0 ≤ h115.size := Nat.le_trans Z97 (Keep.of_wr W115).1
  have Fw115 : Fld Z h115 x0 "com/example/portia/portia/index/Postings" "size" "I" (.int (5 : Int32)) := F99.same W115
  have N115 := Fr.snoc X115 N97 g_x0
  have st130 : Steps p.tables e below (T115.setTop (mkF m 76 #[.val (.ref x0), .val (.int x1), .val (.int (1 : Int32)), .val (.int (1 : Int32))] [])) (T115.setTop (mkF m 78 #[.val (.ref x0), .val (.int x1), .val (.int (1 : Int32)), .val (.int (1 : Int32))] [(.ref x0), (.ref x0)])) := by
    refine XS.aloadN X115.here hx rfl (hb hby d14_76) rfl rfl ?_
    show Steps p.tables e below (T115.setTop (mkF m 77 #[.val (.ref x0), .val (.int x1), .val (.int (1 : Int32)), .val (.int (1 : Int32))] [(.ref x0)])) _
    refine XS.dup X115.here hx rfl (hb hby d14_77) rfl rfl ?_
    show Steps p.tables e below (T115.setTop (mkF m 78 #[.val (.ref x0), .val (.int x1), .val (.int (1 : Int32)), .val (.int (1 : Int32))] [(.ref x0), (.ref x0)])) _
    exact Steps.refl _
  have pre130 := pre115.trans st130
  obtain ⟨T131, X131, e131, st131⟩ := getF X115 hx hZ hown (host := "") (Or.inl (hw _ (List.mem_of_getElem? (i := 33) rfl))) Via.refl e115 F118 (g := (mkF m 78 #[.val (.ref x0), .val (.int x1), .val (.int (1 : Int32)), .val (.int (1 : Int32))] [(.ref x0), (.ref x0)])) rfl rfl (hb hby d14_78)
  have pre131 : Steps p.tables e below (s₁.setTop (entryFrame m #[(.ref x0), (.int x1), (.int (1 : Int32)), (.int (1 : Int32))] 4)) (T131.setTop (mkF m 81 #[.val (.ref x0), .val (.int x1), .val (.int (1 : Int32)), .val (.int (1 : Int32))] [(.int (4 : Int32)), (.ref x0)])) := pre130.trans (st131 _ (Steps.refl _))
  have st132 : Steps p.tables e below (T131.setTop (mkF m 81 #[.val (.ref x0), .val (.int x1), .val (.int (1 : Int32)), .val (.int (1 : Int32))] [(.int (4 : Int32)), (.ref x0)])) (T131.setTop (mkF m 83 #[.val (.ref x0), .val (.int x1), .val (.int (1 : Int32)), .val (.int (1 : Int32))] [(.int (5 : Int32)), (.ref x0)])) := by
    refine XS.iconst X131.here hx rfl (hb hby d14_81) ?_
    show Steps p.tables e below (T131.setTop (mkF m 82 #[.val (.ref x0), .val (.int x1), .val (.int (1 : Int32)), .val (.int (1 : Int32))] [(.int (1 : Int32)), (.int (4 : Int32)), (.ref x0)])) _
    refine XS.iadd X131.here hx rfl (hb hby d14_82) rfl ?_
    show Steps p.tables e below (T131.setTop (mkF m 83 #[.val (.ref x0), .val (.int x1), .val (.int (1 : Int32)), .val (.int (1 : Int32))] [(.int (5 : Int32)), (.ref x0)])) _
    exact Steps.refl _
  have pre132 := pre131.trans st132
  obtain ⟨T133, h133, X133, e133, W133, st133⟩ := putF X131 hx hZ hown (host := "") (Or.inl (hw _ (List.mem_of_getElem? (i := 33) rfl))) Via.refl e131 F118 F116 (Or.inl (hw _ (List.mem_of_getElem? (i := 34) rfl))) (hw _ (List.mem_of_getElem? (i := 5) rfl)) (ty := .int) (by decide) rfl rfl (g := (mkF m 83 #[.val (.ref x0), .val (.int x1), .val (.int (1 : Int32)), .val (.int (1 : Int32))] [(.int (5 : Int32)), (.ref x0)])) rfl rfl (hb hby d14_83)
  have pre133 : Steps p.tables e below (s₁.setTop (entryFrame m #[(.ref x0), (.int x1), (.int (1 : Int32)), (.int (1 : Int32))] 4)) (T133.setTop (mkF m 86 #[.val (.ref x0), .val (.int x1), .val (.int (1 : Int32)), .val (.int (1 : Int32))] [])) := pre132.trans (st133 _ (Steps.refl _))
  have F134 : Exa Z h133 x0 "com/example/portia/portia/index/Postings" := F116.wr W133
  have F136 : Fld Z h133 x0 "com/example/portia/portia/index/Postings" "impactFrequencies" "[I" (.ref ai) := F119.other W133 (Or.inr (slot_ne (Or.inl (hw _ (List.mem_of_getElem? (i := 18) rfl))) (Or.inl (hw _ (List.mem_of_getElem? (i := 34) rfl))) (by decide) (t := (.array .int)) (t' := .int) (by decide) (by decide)))
  have F137 : Fld Z h133 x0 "com/example/portia/portia/index/Postings" "impactLengths" "[I" (.ref al) := F120.other W133 (Or.inr (slot_ne (Or.inl (hw _ (List.mem_of_getElem? (i := 20) rfl))) (Or.inl (hw _ (List.mem_of_getElem? (i := 34) rfl))) (by decide) (t := (.array .int)) (t' := .int) (by decide) (by decide)))
  have F138 : Fld Z h133 x0 "com/example/portia/portia/index/Postings" "impactCount" "I" (.int (1 : Int32)) := F121.other W133 (Or.inr (slot_ne (Or.inl (hw _ (List.mem_of_getElem? (i := 40) rfl))) (Or.inl (hw _ (List.mem_of_getElem? (i := 34) rfl))) (by decide) (t := .int) (t' := .int) (by decide) (by decide)))
  have F139 : Arv Z h133 ao ko .int (4 : Int32) [(.int y0), (.int y1), (.int y2), (.int y3)] (.int (0 : Int32)) := F122.other W133 (Ne.symm n_x0_ao)
  have F140 : Arv Z h133 af kf .int (4 : Int32) [(.int (1 : Int32)), (.int (1 : Int32)), (.int (1 : Int32)), (.int (1 : Int32))] (.int (0 : Int32)) := F123.other W133 (Ne.symm n_x0_af)
  have F141 : Arv Z h133 ai ki .int (1 : Int32) [(.int (1 : Int32))] (.int (0 : Int32)) := F124.other W133 (Ne.symm n_x0_ai)
  have F142 : Arv Z h133 al kl .int (1 : Int32) [(.int (1 : Int32))] (.int (0 : Int32)) := F125.other W133 (Ne.symm n_x0_al)
  have F143 : Fld Z h133 x0 "com/example/portia/portia/index/Postings" "ordinals" "[I" (.ref b11) := F126.other W133 (Or.inr (slot_ne (Or.inl (hw _ (List.mem_of_getElem? (i := 14) rfl))) (Or.inl (hw _ (List.mem_of_getElem? (i := 34) rfl))) (by decide) (t := (.array .int)) (t' := .int) (by decide) (by decide)))
  have F144 : Fld Z h133 x0 "com/example/portia/portia/index/Postings" "frequencies" "[I" (.ref b43) := F127.other W133 (Or.inr (slot_ne (Or.inl (hw _ (List.mem_of_getElem? (i := 16) rfl))) (Or.inl (hw _ (List.mem_of_getElem? (i := 34) rfl))) (by decide) (t := (.array .int)) (t' := .int) (by decide) (by decide)))
  have F145 : Arv Z h133 b11 kr_11 .int (8 : Int32) [(.int y0), (.int y1), (.int y2), (.int y3), (.int x1), (.int (0 : Int32)), (.int (0 : Int32)), (.int (0 : Int32))] (.int (0 : Int32)) := F128.other W133 (Ne.symm nex0_b11)
  have F146 : Arv Z h133 b43 kr_43 .int (8 : Int32) [(.int (1 : Int32)), (.int (1 : Int32)), (.int (1 : Int32)), (.int (1 : Int32)), (.int (1 : Int32)), (.int (0 : Int32)), (.int (0 : Int32)), (.int (0 : Int32))] (.int (0 : Int32)) := F129.other W133 (Ne.symm nex0_b43)
  have F147 : Fld Z h133 x0 "com/example/portia/portia/index/Postings" "size" "I" (.int (5 : Int32)) := Fw115.other W133 (Or.inr (slot_ne (Or.inl (hw _ (List.mem_of_getElem? (i := 27) rfl))) (Or.inl (hw _ (List.mem_of_getElem? (i := 34) rfl))) (by decide) (t := .int) (t' := .int) (by decide) (by decide)))
  have K133 := K115.wr W133 (Or.inl (List.mem_of_getElem? (i := 0) rfl))
  have Z133 : n0 ≤ h133.size := Nat.le_trans Z115 (Keep.of_wr W133).1
  have Fw133 : Fld Z h133 x0 "com/example/portia/portia/index/Postings" "documentFrequency" "I" (.int (5 : Int32)) := F118.same W133
  have N133 := Fr.snoc X133 N115 g_x0
  have st148 : Steps p.tables e below (T133.setTop (mkF m 86 #[.val (.ref x0), .val (.int x1), .val (.int (1 : Int32)), .val (.int (1 : Int32))] [])) (T133.setTop (mkF m 89 #[.val (.ref x0), .val (.int x1), .val (.int (1 : Int32)), .val (.int (1 : Int32))] [(.int (1 : Int32)), (.int (1 : Int32)), (.ref x0)])) := by
    refine XS.aloadN X133.here hx rfl (hb hby d14_86) rfl rfl ?_
    show Steps p.tables e below (T133.setTop (mkF m 87 #[.val (.ref x0), .val (.int x1), .val (.int (1 : Int32)), .val (.int (1 : Int32))] [(.ref x0)])) _
    refine XS.iloadN X133.here hx rfl (hb hby d14_87) rfl ?_
    show Steps p.tables e below (T133.setTop (mkF m 88 #[.val (.ref x0), .val (.int x1), .val (.int (1 : Int32)), .val (.int (1 : Int32))] [(.int (1 : Int32)), (.ref x0)])) _
    refine XS.iloadN X133.here hx rfl (hb hby d14_88) rfl ?_
    show Steps p.tables e below (T133.setTop (mkF m 89 #[.val (.ref x0), .val (.int x1), .val (.int (1 : Int32)), .val (.int (1 : Int32))] [(.int (1 : Int32)), (.int (1 : Int32)), (.ref x0)])) _
    exact Steps.refl _
  have pre148 := pre133.trans st148
  obtain ⟨cq149, q149, q149'⟩ := F134.cell
  obtain ⟨_, _, mp149, -, -, qp149, -, kp149, hkp149, hki149⟩ := Cond.selects_spec (mvT (args := #[]) hZ (hw _ (List.mem_of_getElem? (i := 24) rfl)))
  obtain ⟨_, _, ⟨T149, L149, k149, n149⟩, -, X149, ⟨Lc149, hQ149, l149, y149, z149⟩, st149⟩ := X133.privateBack hx (y := (⟨"com/example/portia/portia/index/Postings", "addImpact", "(II)V"⟩ : MethodName)) hown (mvT hZ (hw _ (List.mem_of_getElem? (i := 35) rfl))) (mvT hZ (hw _ (List.mem_of_getElem? (i := 36) rfl))) (Jvm.Stand.selects_self_of_private (show s.vm.findClass "com/example/portia/portia/index/Postings" = some mp149.cls from findClass_of_methodNamed qp149) hkp149 hki149 (Cond.privateMethod_at (mvP hZ (hw _ (List.mem_of_getElem? (i := 37) rfl)) (args := #[]))) (mvT hZ (hw _ (List.mem_of_getElem? (i := 36) rfl))) (by decide)) (Cond.privateMethod_at (mvP hZ (hw _ (List.mem_of_getElem? (i := 37) rfl)) (args := #[]))) (mvT hZ (hw _ (List.mem_of_getElem? (i := 38) rfl))) (by decide) (backOf (W := 0) (rm7 l Z a0 hw [] x0 ai ki al kl h133 n0 Z133 F136 F137 F138 F141 F142) hZ (hw _ (List.mem_of_getElem? (i := 38) rfl)) (hw _ (List.mem_of_getElem? (i := 6) rfl)) (by decide) (by decide)) (g := (mkF m 89 #[.val (.ref x0), .val (.int x1), .val (.int (1 : Int32)), .val (.int (1 : Int32))] [(.int (1 : Int32)), (.int (1 : Int32)), (.ref x0)])) rfl (by rw [hml]; rfl) (Steps.refl _) (a := x0) (by rw [e133]; exact q149) q149' (argsL := [(.int (1 : Int32)), (.int (1 : Int32))]) (rest := []) (lenOf pd14_1 rfl) rfl (by show 2 * 0 + _ ≤ _; exact Nat.le_of_eq rfl) (hb hby d14_89) (fun _ _ => ⟨rfl, e133, (by decide : 2 + 0 ≤ _), (by decide : 16 + 0 ≤ _)⟩)
  dsimp only [Pt.U, Pt.locs, Pt.cells, Pt.slots] at X149 l149 y149 z149 st149 hQ149
  subst l149 y149 z149
  obtain ⟨rfl, Nq149, e149⟩ := hQ149
  have N149 := Fr.app N133 Nq149
  have pre149 : Steps p.tables e below (s₁.setTop (entryFrame m #[(.ref x0), (.int x1), (.int (1 : Int32)), (.int (1 : Int32))] 4)) (T149.setTop (mkF m 92 #[.val (.ref x0), .val (.int x1), .val (.int (1 : Int32)), .val (.int (1 : Int32))] [])) := pre148.trans st149
  obtain ⟨fs, hr, hrun, hended, hW, hsame⟩ := X149.leave (v := none) (fun _ => rfl)
  refine ⟨_, _, pre149.trans ?_, hrun, hended, _, _, rfl, ?_, ⟨_, rfl⟩, hW, hsame.mono (by decide) (by decide)⟩
  · show Steps p.tables e below (T149.setTop (mkF m 92 #[.val (.ref x0), .val (.int x1), .val (.int (1 : Int32)), .val (.int (1 : Int32))] [])) _
    exact X149.returnOut hx Bd.returns (hb hby d14_92) hr
  · show Q14 Z x0 x1 ao ko af kf ai ki al kl y0 y1 y2 y3 h0 n0 _ T149.heap _
    rw [e149]
    exact ⟨b11, kr_11, b43, kr_43, rfl, N149, K133, F134, F143, F144, F147, Fw133, F136, F137, F138, F145, F146, F141, F142, sz11, sz43, neb11_b43⟩
theorem d15_0 : decode prog_19_method_10_code 0 = .ok (.aload_n 0, 1) := by decide +kernel
theorem d15_1 : decode prog_19_method_10_code 1 = .ok (.getfield 22, 3) := by decide +kernel
theorem d15_4 : decode prog_19_method_10_code 4 = .ok (.aload_n 0, 1) := by decide +kernel
theorem d15_5 : decode prog_19_method_10_code 5 = .ok (.getfield 7, 3) := by decide +kernel
theorem d15_8 : decode prog_19_method_10_code 8 = .ok (.arraylength, 1) := by decide +kernel
theorem d15_9 : decode prog_19_method_10_code 9 = .ok (.if_icmp .ne 37, 3) := by decide +kernel
theorem d15_46 : decode prog_19_method_10_code 46 = .ok (.aload_n 0, 1) := by decide +kernel
theorem d15_47 : decode prog_19_method_10_code 47 = .ok (.getfield 7, 3) := by decide +kernel
theorem d15_50 : decode prog_19_method_10_code 50 = .ok (.aload_n 0, 1) := by decide +kernel
theorem d15_51 : decode prog_19_method_10_code 51 = .ok (.getfield 22, 3) := by decide +kernel
theorem d15_54 : decode prog_19_method_10_code 54 = .ok (.iload_n 1, 1) := by decide +kernel
theorem d15_55 : decode prog_19_method_10_code 55 = .ok (.iastore, 1) := by decide +kernel
theorem d15_56 : decode prog_19_method_10_code 56 = .ok (.aload_n 0, 1) := by decide +kernel
theorem d15_57 : decode prog_19_method_10_code 57 = .ok (.getfield 13, 3) := by decide +kernel
theorem d15_60 : decode prog_19_method_10_code 60 = .ok (.aload_n 0, 1) := by decide +kernel
theorem d15_61 : decode prog_19_method_10_code 61 = .ok (.getfield 22, 3) := by decide +kernel
theorem d15_64 : decode prog_19_method_10_code 64 = .ok (.iload_n 2, 1) := by decide +kernel
theorem d15_65 : decode prog_19_method_10_code 65 = .ok (.iastore, 1) := by decide +kernel
theorem d15_66 : decode prog_19_method_10_code 66 = .ok (.aload_n 0, 1) := by decide +kernel
theorem d15_67 : decode prog_19_method_10_code 67 = .ok (.dup, 1) := by decide +kernel
theorem d15_68 : decode prog_19_method_10_code 68 = .ok (.getfield 22, 3) := by decide +kernel
theorem d15_71 : decode prog_19_method_10_code 71 = .ok (.iconst 1, 1) := by decide +kernel
theorem d15_72 : decode prog_19_method_10_code 72 = .ok (.iadd, 1) := by decide +kernel
theorem d15_73 : decode prog_19_method_10_code 73 = .ok (.putfield 22, 3) := by decide +kernel
theorem d15_76 : decode prog_19_method_10_code 76 = .ok (.aload_n 0, 1) := by decide +kernel
theorem d15_77 : decode prog_19_method_10_code 77 = .ok (.dup, 1) := by decide +kernel
theorem d15_78 : decode prog_19_method_10_code 78 = .ok (.getfield 26, 3) := by decide +kernel
theorem d15_81 : decode prog_19_method_10_code 81 = .ok (.iconst 1, 1) := by decide +kernel
theorem d15_82 : decode prog_19_method_10_code 82 = .ok (.iadd, 1) := by decide +kernel
theorem d15_83 : decode prog_19_method_10_code 83 = .ok (.putfield 26, 3) := by decide +kernel
theorem d15_86 : decode prog_19_method_10_code 86 = .ok (.aload_n 0, 1) := by decide +kernel
theorem d15_87 : decode prog_19_method_10_code 87 = .ok (.iload_n 2, 1) := by decide +kernel
theorem d15_88 : decode prog_19_method_10_code 88 = .ok (.iload_n 3, 1) := by decide +kernel
theorem d15_89 : decode prog_19_method_10_code 89 = .ok (.invokevirtual 38, 3) := by decide +kernel
theorem d15_92 : decode prog_19_method_10_code 92 = .ok (.return_, 1) := by decide +kernel
theorem pn15 : plainName "com/example/portia/portia/index/Postings" = true := by first | (simp [plainName, overriddenIn]; done) | decide +kernel
theorem pd15_0 : parseMethodDescriptor "(II)V" = some ⟨[.int, .int], none⟩ := by decide +kernel
theorem ef15 (m : MethodId) (x0 : Addr) (x1 : Int32) : entryFrame m #[(.ref x0), (.int x1), (.int (1 : Int32)), (.int (1 : Int32))] 4 = mkF m 0 #[.val (.ref x0), .val (.int x1), .val (.int (1 : Int32)), .val (.int (1 : Int32))] [] := by first | (simp [entryFrame, mkF, argsToLocals, Value.category]; done) | rfl
def Q15 (Z : State) (x0 : Addr) (x1 : Int32) (ao : Addr) (ko : ClassId) (af : Addr) (kf : ClassId) (ai : Addr) (ki : ClassId) (al : Addr) (kl : ClassId) (y0 : Int32) (y1 : Int32) (y2 : Int32) (y3 : Int32) (y4 : Int32) (h0 : Heap) (n0 : Nat) (v : Option Value) (h : Heap) (L : List Loc) : Prop := v = none ∧ Fr n0 L ∧ Keep h0 h [x0, ao, af] ∧ Exa Z h x0 "com/example/portia/portia/index/Postings" ∧ Fld Z h x0 "com/example/portia/portia/index/Postings" "ordinals" "[I" (.ref ao) ∧ Fld Z h x0 "com/example/portia/portia/index/Postings" "frequencies" "[I" (.ref af) ∧ Fld Z h x0 "com/example/portia/portia/index/Postings" "size" "I" (.int (6 : Int32)) ∧ Fld Z h x0 "com/example/portia/portia/index/Postings" "documentFrequency" "I" (.int (6 : Int32)) ∧ Fld Z h x0 "com/example/portia/portia/index/Postings" "impactFrequencies" "[I" (.ref ai) ∧ Fld Z h x0 "com/example/portia/portia/index/Postings" "impactLengths" "[I" (.ref al) ∧ Fld Z h x0 "com/example/portia/portia/index/Postings" "impactCount" "I" (.int (1 : Int32)) ∧ Arv Z h ao ko .int (8 : Int32) [(.int y0), (.int y1), (.int y2), (.int y3), (.int y4), (.int x1), (.int (0 : Int32)), (.int (0 : Int32))] (.int (0 : Int32)) ∧ Arv Z h af kf .int (8 : Int32) [(.int (1 : Int32)), (.int (1 : Int32)), (.int (1 : Int32)), (.int (1 : Int32)), (.int (1 : Int32)), (.int (1 : Int32)), (.int (0 : Int32)), (.int (0 : Int32))] (.int (0 : Int32)) ∧ Arv Z h ai ki .int (1 : Int32) [(.int (1 : Int32))] (.int (0 : Int32)) ∧ Arv Z h al kl .int (1 : Int32) [(.int (1 : Int32))] (.int (0 : Int32))
set_option maxRecDepth 65536 in
set_option maxHeartbeats 40000000 in
theorem rm15 (l : Launch) (Z : State) (a0 : Array Value) (hw : ∀ d ∈ tables_1, d.before a0 Z = true) (ws : List Jvm.Cond) (x0 : Addr) (x1 : Int32) (ao : Addr) (ko : ClassId) (af : Addr) (kf : ClassId) (ai : Addr) (ki : ClassId) (al : Addr) (kl : ClassId) (y0 : Int32) (y1 : Int32) (y2 : Int32) (y3 : Int32) (y4 : Int32) (h0 : Heap) (n0 : Nat) (Z0 : n0 ≤ h0.size) (B0 : Exa Z h0 x0 "com/example/portia/portia/index/Postings") (B1 : Fld Z h0 x0 "com/example/portia/portia/index/Postings" "ordinals" "[I" (.ref ao)) (B2 : Fld Z h0 x0 "com/example/portia/portia/index/Postings" "frequencies" "[I" (.ref af)) (B3 : Fld Z h0 x0 "com/example/portia/portia/index/Postings" "size" "I" (.int (5 : Int32))) (B4 : Fld Z h0 x0 "com/example/portia/portia/index/Postings" "documentFrequency" "I" (.int (5 : Int32))) (B5 : Fld Z h0 x0 "com/example/portia/portia/index/Postings" "impactFrequencies" "[I" (.ref ai)) (B6 : Fld Z h0 x0 "com/example/portia/portia/index/Postings" "impactLengths" "[I" (.ref al)) (B7 : Fld Z h0 x0 "com/example/portia/portia/index/Postings" "impactCount" "I" (.int (1 : Int32))) (B8 : Arv Z h0 ao ko .int (8 : Int32) [(.int y0), (.int y1), (.int y2), (.int y3), (.int y4), (.int (0 : Int32)), (.int (0 : Int32)), (.int (0 : Int32))] (.int (0 : Int32))) (B9 : Arv Z h0 af kf .int (8 : Int32) [(.int (1 : Int32)), (.int (1 : Int32)), (.int (1 : Int32)), (.int (1 : Int32)), (.int (1 : Int32)), (.int (0 : Int32)), (.int (0 : Int32)), (.int (0 : Int32))] (.int (0 : Int32))) (B10 : Arv Z h0 ai ki .int (1 : Int32) [(.int (1 : Int32))] (.int (0 : Int32))) (B11 : Arv Z h0 al kl .int (1 : Int32) [(.int (1 : Int32))] (.int (0 : Int32))) (g_x0 : n0 ≤ x0) (g_ao : n0 ≤ ao) (g_af : n0 ≤ af) (n_x0_ao : x0 ≠ ao) (n_x0_af : x0 ≠ af) (n_x0_ai : x0 ≠ ai) (n_x0_al : x0 ≠ al) (n_ao_af : ao ≠ af) (n_ao_ai : ao ≠ ai) (n_ao_al : ao ≠ al) (n_af_ai : af ≠ ai) (n_af_al : af ≠ al) (n_ai_al : ai ≠ al) :
    MetFree l (⟨"com/example/portia/portia/index/Postings", "add", "(III)V"⟩ : MethodName) (head1 (Jvm.Cond.code (⟨"com/example/portia/portia/index/Postings", "add", "(III)V"⟩ : MethodName) prog_19_method_10_code 4 none :: ws) ({ frames := 1, cells := 0, slots := 0, locals := 18 } : Room)) (fun a U => a = #[(.ref x0), (.int x1), (.int (1 : Int32)), (.int (1 : Int32))] ∧ Z.Warmed39 U.vm ∧ U.heap = h0) (fun _ _ _ _ _ => True) (fun _ U o U' => ∃ v L, o = .returned v ∧ Q15 Z x0 x1 ao ko af kf ai ki al kl y0 y1 y2 y3 y4 h0 n0 v U'.heap L ∧ FrameEnd U o U' L ({ frames := 1, cells := 0, slots := 0, locals := 18 } : Room).cells ({ frames := 1, cells := 0, slots := 0, locals := 18 } : Room).slots) := by
  refine MetFree.of_bodySF (plainFor_of_name pn15) hisR ?_
  intro p e s m args below meth c s₁ Bd hml0 hP hK
  obtain ⟨rfl, hZ, hh⟩ := hP
  have hx := Bd.exec
  have hby := Bd.bytes
  have hml : c.maxLocals = 4 := hml0
  have hown : s.vm.findClass "com/example/portia/portia/index/Postings" = some m.cls := findClass_of_methodNamed Bd.named
  have hnm := (name_of_methodNamed Bd.named Bd.method).1
  have X0 : Stand p l e ({ frames := 1, cells := 0, slots := 0, locals := 18 } : Room) s m #[(.ref x0), (.int x1), (.int (1 : Int32)), (.int (1 : Int32))] below meth c s₁ [] 0 0 := Stand.of_body Bd
  have e0 : s₁.heap = h0 := by rw [← hh, Bd.state]; rfl
  have N0 := Fr.nil n0
  have pre0 : Steps p.tables e below (s₁.setTop (entryFrame m #[(.ref x0), (.int x1), (.int (1 : Int32)), (.int (1 : Int32))] 4)) (s₁.setTop (mkF m 0 #[.val (.ref x0), .val (.int x1), .val (.int (1 : Int32)), .val (.int (1 : Int32))] [])) := castTop (ef15 m x0 x1) (Steps.refl _)
  have K0 := Keep.refl h0 [x0, ao, af]
  have st1 : Steps p.tables e below (s₁.setTop (mkF m 0 #[.val (.ref x0), .val (.int x1), .val (.int (1 : Int32)), .val (.int (1 : Int32))] [])) (s₁.setTop (mkF m 1 #[.val (.ref x0), .val (.int x1), .val (.int (1 : Int32)), .val (.int (1 : Int32))] [(.ref x0)])) := by
    refine XS.aloadN X0.here hx rfl (hb hby d15_0) rfl rfl ?_
    show Steps p.tables e below (s₁.setTop (mkF m 1 #[.val (.ref x0), .val (.int x1), .val (.int (1 : Int32)), .val (.int (1 : Int32))] [(.ref x0)])) _
    exact Steps.refl _
  have pre1 := pre0.trans st1
  obtain ⟨T2, X2, e2, st2⟩ := getF X0 hx hZ hown (host := "") (Or.inl (hw _ (List.mem_of_getElem? (i := 26) rfl))) Via.refl e0 B3 (g := (mkF m 1 #[.val (.ref x0), .val (.int x1), .val (.int (1 : Int32)), .val (.int (1 : Int32))] [(.ref x0)])) rfl rfl (hb hby d15_1)
  have pre2 : Steps p.tables e below (s₁.setTop (entryFrame m #[(.ref x0), (.int x1), (.int (1 : Int32)), (.int (1 : Int32))] 4)) (T2.setTop (mkF m 4 #[.val (.ref x0), .val (.int x1), .val (.int (1 : Int32)), .val (.int (1 : Int32))] [(.int (5 : Int32))])) := pre1.trans (st2 _ (Steps.refl _))
  have st3 : Steps p.tables e below (T2.setTop (mkF m 4 #[.val (.ref x0), .val (.int x1), .val (.int (1 : Int32)), .val (.int (1 : Int32))] [(.int (5 : Int32))])) (T2.setTop (mkF m 5 #[.val (.ref x0), .val (.int x1), .val (.int (1 : Int32)), .val (.int (1 : Int32))] [(.ref x0), (.int (5 : Int32))])) := by
    refine XS.aloadN X2.here hx rfl (hb hby d15_4) rfl rfl ?_
    show Steps p.tables e below (T2.setTop (mkF m 5 #[.val (.ref x0), .val (.int x1), .val (.int (1 : Int32)), .val (.int (1 : Int32))] [(.ref x0), (.int (5 : Int32))])) _
    exact Steps.refl _
  have pre3 := pre2.trans st3
  obtain ⟨T4, X4, e4, st4⟩ := getF X2 hx hZ hown (host := "") (Or.inl (hw _ (List.mem_of_getElem? (i := 13) rfl))) Via.refl e2 B1 (g := (mkF m 5 #[.val (.ref x0), .val (.int x1), .val (.int (1 : Int32)), .val (.int (1 : Int32))] [(.ref x0), (.int (5 : Int32))])) rfl rfl (hb hby d15_5)
  have pre4 : Steps p.tables e below (s₁.setTop (entryFrame m #[(.ref x0), (.int x1), (.int (1 : Int32)), (.int (1 : Int32))] 4)) (T4.setTop (mkF m 8 #[.val (.ref x0), .val (.int x1), .val (.int (1 : Int32)), .val (.int (1 : Int32))] [(.ref ao), (.int (5 : Int32))])) := pre3.trans (st4 _ (Steps.refl _))
  obtain ⟨cl5, Ar5, q5, S5, G5, H5, J5⟩ := id B8
  have st5 : Steps p.tables e below (T4.setTop (mkF m 8 #[.val (.ref x0), .val (.int x1), .val (.int (1 : Int32)), .val (.int (1 : Int32))] [(.ref ao), (.int (5 : Int32))])) (T4.setTop (mkF m 9 #[.val (.ref x0), .val (.int x1), .val (.int (1 : Int32)), .val (.int (1 : Int32))] [(.int (8 : Int32)), (.int (5 : Int32))])) := by
    refine X4.arraylength hx (by rw [e4]; exact Ar5.1) (State.isArrayOf_alike hZ.alike Ar5.2.1) (g := (mkF m 8 #[.val (.ref x0), .val (.int x1), .val (.int (1 : Int32)), .val (.int (1 : Int32))] [(.ref ao), (.int (5 : Int32))])) rfl rfl (hb hby d15_8) _ ?_
    rw [len_of S5 G5]
    exact Steps.refl _
  have pre5 := pre4.trans st5
  have st6 : Steps p.tables e below (T4.setTop (mkF m 9 #[.val (.ref x0), .val (.int x1), .val (.int (1 : Int32)), .val (.int (1 : Int32))] [(.int (8 : Int32)), (.int (5 : Int32))])) (T4.setTop (mkF m 47 #[.val (.ref x0), .val (.int x1), .val (.int (1 : Int32)), .val (.int (1 : Int32))] [(.ref x0)])) := by
    refine XS.icmpYes X4.here hx rfl (pc0 := 9) (pc' := 46) rfl (hb hby d15_9) rfl (feq (by decide : ¬ ((5 : Int32) = (8 : Int32)))).2 (by decide) (by decide) ?_
    show Steps p.tables e below (T4.setTop (mkF m 46 #[.val (.ref x0), .val (.int x1), .val (.int (1 : Int32)), .val (.int (1 : Int32))] [])) _
    refine XS.aloadN X4.here hx rfl (hb hby d15_46) rfl rfl ?_
    show Steps p.tables e below (T4.setTop (mkF m 47 #[.val (.ref x0), .val (.int x1), .val (.int (1 : Int32)), .val (.int (1 : Int32))] [(.ref x0)])) _
    exact Steps.refl _
  have pre6 := pre5.trans st6
  obtain ⟨T7, X7, e7, st7⟩ := getF X4 hx hZ hown (host := "") (Or.inl (hw _ (List.mem_of_getElem? (i := 13) rfl))) Via.refl e4 B1 (g := (mkF m 47 #[.val (.ref x0), .val (.int x1), .val (.int (1 : Int32)), .val (.int (1 : Int32))] [(.ref x0)])) rfl rfl (hb hby d15_47)
  have pre7 : Steps p.tables e below (s₁.setTop (entryFrame m #[(.ref x0), (.int x1), (.int (1 : Int32)), (.int (1 : Int32))] 4)) (T7.setTop (mkF m 50 #[.val (.ref x0), .val (.int x1), .val (.int (1 : Int32)), .val (.int (1 : Int32))] [(.ref ao)])) := pre6.trans (st7 _ (Steps.refl _))
  have st8 : Steps p.tables e below (T7.setTop (mkF m 50 #[.val (.ref x0), .val (.int x1), .val (.int (1 : Int32)), .val (.int (1 : Int32))] [(.ref ao)])) (T7.setTop (mkF m 51 #[.val (.ref x0), .val (.int x1), .val (.int (1 : Int32)), .val (.int (1 : Int32))] [(.ref x0), (.ref ao)])) := by
    refine XS.aloadN X7.here hx rfl (hb hby d15_50) rfl rfl ?_
    show Steps p.tables e below (T7.setTop (mkF m 51 #[.val (.ref x0), .val (.int x1), .val (.int (1 : Int32)), .val (.int (1 : Int32))] [(.ref x0), (.ref ao)])) _
    exact Steps.refl _
  have pre8 := pre7.trans st8
  obtain ⟨T9, X9, e9, st9⟩ := getF X7 hx hZ hown (host := "") (Or.inl (hw _ (List.mem_of_getElem? (i := 26) rfl))) Via.refl e7 B3 (g := (mkF m 51 #[.val (.ref x0), .val (.int x1), .val (.int (1 : Int32)), .val (.int (1 : Int32))] [(.ref x0), (.ref ao)])) rfl rfl (hb hby d15_51)
  have pre9 : Steps p.tables e below (s₁.setTop (entryFrame m #[(.ref x0), (.int x1), (.int (1 : Int32)), (.int (1 : Int32))] 4)) (T9.setTop (mkF m 54 #[.val (.ref x0), .val (.int x1), .val (.int (1 : Int32)), .val (.int (1 : Int32))] [(.int (5 : Int32)), (.ref ao)])) := pre8.trans (st9 _ (Steps.refl _))
  have st10 : Steps p.tables e below (T9.setTop (mkF m 54 #[.val (.ref x0), .val (.int x1), .val (.int (1 : Int32)), .val (.int (1 : Int32))] [(.int (5 : Int32)), (.ref ao)])) (T9.setTop (mkF m 55 #[.val (.ref x0), .val (.int x1), .val (.int (1 : Int32)), .val (.int (1 : Int32))] [(.int x1), (.int (5 : Int32)), (.ref ao)])) := by
    refine XS.iloadN X9.here hx rfl (hb hby d15_54) rfl ?_
    show Steps p.tables e below (T9.setTop (mkF m 55 #[.val (.ref x0), .val (.int x1), .val (.int (1 : Int32)), .val (.int (1 : Int32))] [(.int x1), (.int (5 : Int32)), (.ref ao)])) _
    exact Steps.refl _
  have pre10 := pre9.trans st10
  obtain ⟨cl11, Ar11, q11, S11, G11, H11, J11⟩ := id B8
  have in11 : ¬ ((5 : Int32) < 0 ∨ cl11.slots.size ≤ ((5 : Int32)).toNatClampNeg) := inb_of S11 ⟨by decide, by decide⟩
  obtain ⟨T11, h11, X11, e11, W11, st11⟩ := stI X9 hx hZ e9 Ar11 (j := (5 : Int32)) in11 (g := (mkF m 55 #[.val (.ref x0), .val (.int x1), .val (.int (1 : Int32)), .val (.int (1 : Int32))] [(.int x1), (.int (5 : Int32)), (.ref ao)])) rfl rfl (hb hby d15_55)
  have pre11 : Steps p.tables e below (s₁.setTop (entryFrame m #[(.ref x0), (.int x1), (.int (1 : Int32)), (.int (1 : Int32))] 4)) (T11.setTop (mkF m 56 #[.val (.ref x0), .val (.int x1), .val (.int (1 : Int32)), .val (.int (1 : Int32))] [])) := pre10.trans (st11 _ (Steps.refl _))
  have F12 : Exa Z h11 x0 "com/example/portia/portia/index/Postings" := B0.wr W11
  have F13 : Fld Z h11 x0 "com/example/portia/portia/index/Postings" "ordinals" "[I" (.ref ao) := B1.other W11 (Or.inl n_x0_ao)
  have F14 : Fld Z h11 x0 "com/example/portia/portia/index/Postings" "frequencies" "[I" (.ref af) := B2.other W11 (Or.inl n_x0_ao)
  have F15 : Fld Z h11 x0 "com/example/portia/portia/index/Postings" "size" "I" (.int (5 : Int32)) := B3.other W11 (Or.inl n_x0_ao)
  have F16 : Fld Z h11 x0 "com/example/portia/portia/index/Postings" "documentFrequency" "I" (.int (5 : Int32)) := B4.other W11 (Or.inl n_x0_ao)
  have F17 : Fld Z h11 x0 "com/example/portia/portia/index/Postings" "impactFrequencies" "[I" (.ref ai) := B5.other W11 (Or.inl n_x0_ao)
  have F18 : Fld Z h11 x0 "com/example/portia/portia/index/Postings" "impactLengths" "[I" (.ref al) := B6.other W11 (Or.inl n_x0_ao)
  have F19 : Fld Z h11 x0 "com/example/portia/portia/index/Postings" "impactCount" "I" (.int (1 : Int32)) := B7.other W11 (Or.inl n_x0_ao)
  have F21 : Arv Z h11 af kf .int (8 : Int32) [(.int (1 : Int32)), (.int (1 : Int32)), (.int (1 : Int32)), (.int (1 : Int32)), (.int (1 : Int32)), (.int (0 : Int32)), (.int (0 : Int32)), (.int (0 : Int32))] (.int (0 : Int32)) := B9.other W11 (Ne.symm n_ao_af)
  have F22 : Arv Z h11 ai ki .int (1 : Int32) [(.int (1 : Int32))] (.int (0 : Int32)) := B10.other W11 (Ne.symm n_ao_ai)
  have F23 : Arv Z h11 al kl .int (1 : Int32) [(.int (1 : Int32))] (.int (0 : Int32)) := B11.other W11 (Ne.symm n_ao_al)
  have K11 := K0.wr W11 (Or.inl (List.mem_of_getElem? (i := 1) rfl))
  have Z11 : n0 ≤ h11.size := Nat.le_trans Z0 (Keep.of_wr W11).1
  have V11 : Arv Z h11 ao ko .int (8 : Int32) [(.int y0), (.int y1), (.int y2), (.int y3), (.int y4), (.int x1), (.int (0 : Int32)), (.int (0 : Int32))] (.int (0 : Int32)) := Arv.set Ar11 q11 S11 G11 H11 J11 rfl W11 5 rfl (Nat.le_of_ble_eq_true rfl)
  have N11 := Fr.snoc X11 N0 g_ao
  have st24 : Steps p.tables e below (T11.setTop (mkF m 56 #[.val (.ref x0), .val (.int x1), .val (.int (1 : Int32)), .val (.int (1 : Int32))] [])) (T11.setTop (mkF m 57 #[.val (.ref x0), .val (.int x1), .val (.int (1 : Int32)), .val (.int (1 : Int32))] [(.ref x0)])) := by
    refine XS.aloadN X11.here hx rfl (hb hby d15_56) rfl rfl ?_
    show Steps p.tables e below (T11.setTop (mkF m 57 #[.val (.ref x0), .val (.int x1), .val (.int (1 : Int32)), .val (.int (1 : Int32))] [(.ref x0)])) _
    exact Steps.refl _
  have pre24 := pre11.trans st24
  obtain ⟨T25, X25, e25, st25⟩ := getF X11 hx hZ hown (host := "") (Or.inl (hw _ (List.mem_of_getElem? (i := 15) rfl))) Via.refl e11 F14 (g := (mkF m 57 #[.val (.ref x0), .val (.int x1), .val (.int (1 : Int32)), .val (.int (1 : Int32))] [(.ref x0)])) rfl rfl (hb hby d15_57)
  have pre25 : Steps p.tables e below (s₁.setTop (entryFrame m #[(.ref x0), (.int x1), (.int (1 : Int32)), (.int (1 : Int32))] 4)) (T25.setTop (mkF m 60 #[.val (.ref x0), .val (.int x1), .val (.int (1 : Int32)), .val (.int (1 : Int32))] [(.ref af)])) := pre24.trans (st25 _ (Steps.refl _))
  have st26 : Steps p.tables e below (T25.setTop (mkF m 60 #[.val (.ref x0), .val (.int x1), .val (.int (1 : Int32)), .val (.int (1 : Int32))] [(.ref af)])) (T25.setTop (mkF m 61 #[.val (.ref x0), .val (.int x1), .val (.int (1 : Int32)), .val (.int (1 : Int32))] [(.ref x0), (.ref af)])) := by
    refine XS.aloadN X25.here hx rfl (hb hby d15_60) rfl rfl ?_
    show Steps p.tables e below (T25.setTop (mkF m 61 #[.val (.ref x0), .val (.int x1), .val (.int (1 : Int32)), .val (.int (1 : Int32))] [(.ref x0), (.ref af)])) _
    exact Steps.refl _
  have pre26 := pre25.trans st26
  obtain ⟨T27, X27, e27, st27⟩ := getF X25 hx hZ hown (host := "") (Or.inl (hw _ (List.mem_of_getElem? (i := 26) rfl))) Via.refl e25 F15 (g := (mkF m 61 #[.val (.ref x0), .val (.int x1), .val (.int (1 : Int32)), .val (.int (1 : Int32))] [(.ref x0), (.ref af)])) rfl rfl (hb hby d15_61)
  have pre27 : Steps p.tables e below (s₁.setTop (entryFrame m #[(.ref x0), (.int x1), (.int (1 : Int32)), (.int (1 : Int32))] 4)) (T27.setTop (mkF m 64 #[.val (.ref x0), .val (.int x1), .val (.int (1 : Int32)), .val (.int (1 : Int32))] [(.int (5 : Int32)), (.ref af)])) := pre26.trans (st27 _ (Steps.refl _))
  have st28 : Steps p.tables e below (T27.setTop (mkF m 64 #[.val (.ref x0), .val (.int x1), .val (.int (1 : Int32)), .val (.int (1 : Int32))] [(.int (5 : Int32)), (.ref af)])) (T27.setTop (mkF m 65 #[.val (.ref x0), .val (.int x1), .val (.int (1 : Int32)), .val (.int (1 : Int32))] [(.int (1 : Int32)), (.int (5 : Int32)), (.ref af)])) := by
    refine XS.iloadN X27.here hx rfl (hb hby d15_64) rfl ?_
    show Steps p.tables e below (T27.setTop (mkF m 65 #[.val (.ref x0), .val (.int x1), .val (.int (1 : Int32)), .val (.int (1 : Int32))] [(.int (1 : Int32)), (.int (5 : Int32)), (.ref af)])) _
    exact Steps.refl _
  have pre28 := pre27.trans st28
  obtain ⟨cl29, Ar29, q29, S29, G29, H29, J29⟩ := id F21
  have in29 : ¬ ((5 : Int32) < 0 ∨ cl29.slots.size ≤ ((5 : Int32)).toNatClampNeg) := inb_of S29 ⟨by decide, by decide⟩
  obtain ⟨T29, h29, X29, e29, W29, st29⟩ := stI X27 hx hZ e27 Ar29 (j := (5 : Int32)) in29 (g := (mkF m 65 #[.val (.ref x0), .val (.int x1), .val (.int (1 : Int32)), .val (.int (1 : Int32))] [(.int (1 : Int32)), (.int (5 : Int32)), (.ref af)])) rfl rfl (hb hby d15_65)
  have pre29 : Steps p.tables e below (s₁.setTop (entryFrame m #[(.ref x0), (.int x1), (.int (1 : Int32)), (.int (1 : Int32))] 4)) (T29.setTop (mkF m 66 #[.val (.ref x0), .val (.int x1), .val (.int (1 : Int32)), .val (.int (1 : Int32))] [])) := pre28.trans (st29 _ (Steps.refl _))
  have F30 : Exa Z h29 x0 "com/example/portia/portia/index/Postings" := F12.wr W29
  have F31 : Fld Z h29 x0 "com/example/portia/portia/index/Postings" "ordinals" "[I" (.ref ao) := F13.other W29 (Or.inl n_x0_af)
  have F32 : Fld Z h29 x0 "com/example/portia/portia/index/Postings" "frequencies" "[I" (.ref af) := F14.other W29 (Or.inl n_x0_af)
  have F33 : Fld Z h29 x0 "com/example/portia/portia/index/Postings" "size" "I" (.int (5 : Int32)) := F15.other W29 (Or.inl n_x0_af)
  have F34 : Fld Z h29 x0 "com/example/portia/portia/index/Postings" "documentFrequency" "I" (.int (5 : Int32)) := F16.other W29 (Or.inl n_x0_af)
  have F35 : Fld Z h29 x0 "com/example/portia/portia/index/Postings" "impactFrequencies" "[I" (.ref ai) := F17.other W29 (Or.inl n_x0_af)
  have F36 : Fld Z h29 x0 "com/example/portia/portia/index/Postings" "impactLengths" "[I" (.ref al) := F18.other W29 (Or.inl n_x0_af)
  have F37 : Fld Z h29 x0 "com/example/portia/portia/index/Postings" "impactCount" "I" (.int (1 : Int32)) := F19.other W29 (Or.inl n_x0_af)
  have F39 : Arv Z h29 ai ki .int (1 : Int32) [(.int (1 : Int32))] (.int (0 : Int32)) := F22.other W29 (Ne.symm n_af_ai)
  have F40 : Arv Z h29 al kl .int (1 : Int32) [(.int (1 : Int32))] (.int (0 : Int32)) := F23.other W29 (Ne.symm n_af_al)
  have F41 : Arv Z h29 ao ko .int (8 : Int32) [(.int y0), (.int y1), (.int y2), (.int y3), (.int y4), (.int x1), (.int (0 : Int32)), (.int (0 : Int32))] (.int (0 : Int32)) := V11.other W29 n_ao_af
  have K29 := K11.wr W29 (Or.inl (List.mem_of_getElem? (i := 2) rfl))
  have Z29 : n0 ≤ h29.size := Nat.le_trans Z11 (Keep.of_wr W29).1
  have V29 : Arv Z h29 af kf .int (8 : Int32) [(.int (1 : Int32)), (.int (1 : Int32)), (.int (1 : Int32)), (.int (1 : Int32)), (.int (1 : Int32)), (.int (1 : Int32)), (.int (0 : Int32)), (.int (0 : Int32))] (.int (0 : Int32)) := Arv.set Ar29 q29 S29 G29 H29 J29 rfl W29 5 rfl (Nat.le_of_ble_eq_true rfl)
  have N29 := Fr.snoc X29 N11 g_af
  have st42 : Steps p.tables e below (T29.setTop (mkF m 66 #[.val (.ref x0), .val (.int x1), .val (.int (1 : Int32)), .val (.int (1 : Int32))] [])) (T29.setTop (mkF m 68 #[.val (.ref x0), .val (.int x1), .val (.int (1 : Int32)), .val (.int (1 : Int32))] [(.ref x0), (.ref x0)])) := by
    refine XS.aloadN X29.here hx rfl (hb hby d15_66) rfl rfl ?_
    show Steps p.tables e below (T29.setTop (mkF m 67 #[.val (.ref x0), .val (.int x1), .val (.int (1 : Int32)), .val (.int (1 : Int32))] [(.ref x0)])) _
    refine XS.dup X29.here hx rfl (hb hby d15_67) rfl rfl ?_
    show Steps p.tables e below (T29.setTop (mkF m 68 #[.val (.ref x0), .val (.int x1), .val (.int (1 : Int32)), .val (.int (1 : Int32))] [(.ref x0), (.ref x0)])) _
    exact Steps.refl _
  have pre42 := pre29.trans st42
  obtain ⟨T43, X43, e43, st43⟩ := getF X29 hx hZ hown (host := "") (Or.inl (hw _ (List.mem_of_getElem? (i := 26) rfl))) Via.refl e29 F33 (g := (mkF m 68 #[.val (.ref x0), .val (.int x1), .val (.int (1 : Int32)), .val (.int (1 : Int32))] [(.ref x0), (.ref x0)])) rfl rfl (hb hby d15_68)
  have pre43 : Steps p.tables e below (s₁.setTop (entryFrame m #[(.ref x0), (.int x1), (.int (1 : Int32)), (.int (1 : Int32))] 4)) (T43.setTop (mkF m 71 #[.val (.ref x0), .val (.int x1), .val (.int (1 : Int32)), .val (.int (1 : Int32))] [(.int (5 : Int32)), (.ref x0)])) := pre42.trans (st43 _ (Steps.refl _))
  have st44 : Steps p.tables e below (T43.setTop (mkF m 71 #[.val (.ref x0), .val (.int x1), .val (.int (1 : Int32)), .val (.int (1 : Int32))] [(.int (5 : Int32)), (.ref x0)])) (T43.setTop (mkF m 73 #[.val (.ref x0), .val (.int x1), .val (.int (1 : Int32)), .val (.int (1 : Int32))] [(.int (6 : Int32)), (.ref x0)])) := by
    refine XS.iconst X43.here hx rfl (hb hby d15_71) ?_
    show Steps p.tables e below (T43.setTop (mkF m 72 #[.val (.ref x0), .val (.int x1), .val (.int (1 : Int32)), .val (.int (1 : Int32))] [(.int (1 : Int32)), (.int (5 : Int32)), (.ref x0)])) _
    refine XS.iadd X43.here hx rfl (hb hby d15_72) rfl ?_
    show Steps p.tables e below (T43.setTop (mkF m 73 #[.val (.ref x0), .val (.int x1), .val (.int (1 : Int32)), .val (.int (1 : Int32))] [(.int (6 : Int32)), (.ref x0)])) _
    exact Steps.refl _
  have pre44 := pre43.trans st44
  obtain ⟨T45, h45, X45, e45, W45, st45⟩ := putF X43 hx hZ hown (host := "") (Or.inl (hw _ (List.mem_of_getElem? (i := 26) rfl))) Via.refl e43 F33 F30 (Or.inl (hw _ (List.mem_of_getElem? (i := 27) rfl))) (hw _ (List.mem_of_getElem? (i := 5) rfl)) (ty := .int) (by decide) rfl rfl (g := (mkF m 73 #[.val (.ref x0), .val (.int x1), .val (.int (1 : Int32)), .val (.int (1 : Int32))] [(.int (6 : Int32)), (.ref x0)])) rfl rfl (hb hby d15_73)
  have pre45 : Steps p.tables e below (s₁.setTop (entryFrame m #[(.ref x0), (.int x1), (.int (1 : Int32)), (.int (1 : Int32))] 4)) (T45.setTop (mkF m 76 #[.val (.ref x0), .val (.int x1), .val (.int (1 : Int32)), .val (.int (1 : Int32))] [])) := pre44.trans (st45 _ (Steps.refl _))
  have F46 : Exa Z h45 x0 "com/example/portia/portia/index/Postings" := F30.wr W45
  have F47 : Fld Z h45 x0 "com/example/portia/portia/index/Postings" "ordinals" "[I" (.ref ao) := F31.other W45 (Or.inr (slot_ne (Or.inl (hw _ (List.mem_of_getElem? (i := 14) rfl))) (Or.inl (hw _ (List.mem_of_getElem? (i := 27) rfl))) (by decide) (t := (.array .int)) (t' := .int) (by decide) (by decide)))
  have F48 : Fld Z h45 x0 "com/example/portia/portia/index/Postings" "frequencies" "[I" (.ref af) := F32.other W45 (Or.inr (slot_ne (Or.inl (hw _ (List.mem_of_getElem? (i := 16) rfl))) (Or.inl (hw _ (List.mem_of_getElem? (i := 27) rfl))) (by decide) (t := (.array .int)) (t' := .int) (by decide) (by decide)))
  have F50 : Fld Z h45 x0 "com/example/portia/portia/index/Postings" "documentFrequency" "I" (.int (5 : Int32)) := F34.other W45 (Or.inr (slot_ne (Or.inl (hw _ (List.mem_of_getElem? (i := 34) rfl))) (Or.inl (hw _ (List.mem_of_getElem? (i := 27) rfl))) (by decide) (t := .int) (t' := .int) (by decide) (by decide)))
  have F51 : Fld Z h45 x0 "com/example/portia/portia/index/Postings" "impactFrequencies" "[I" (.ref ai) := F35.other W45 (Or.inr (slot_ne (Or.inl (hw _ (List.mem_of_getElem? (i := 18) rfl))) (Or.inl (hw _ (List.mem_of_getElem? (i := 27) rfl))) (by decide) (t := (.array .int)) (t' := .int) (by decide) (by decide)))
  have F52 : Fld Z h45 x0 "com/example/portia/portia/index/Postings" "impactLengths" "[I" (.ref al) := F36.other W45 (Or.inr (slot_ne (Or.inl (hw _ (List.mem_of_getElem? (i := 20) rfl))) (Or.inl (hw _ (List.mem_of_getElem? (i := 27) rfl))) (by decide) (t := (.array .int)) (t' := .int) (by decide) (by decide)))
  have F53 : Fld Z h45 x0 "com/example/portia/portia/index/Postings" "impactCount" "I" (.int (1 : Int32)) := F37.other W45 (Or.inr (slot_ne (Or.inl (hw _ (List.mem_of_getElem? (i := 40) rfl))) (Or.inl (hw _ (List.mem_of_getElem? (i := 27) rfl))) (by decide) (t := .int) (t' := .int) (by decide) (by decide)))
  have F54 : Arv Z h45 ai ki .int (1 : Int32) [(.int (1 : Int32))] (.int (0 : Int32)) := F39.other W45 (Ne.symm n_x0_ai)
  have F55 : Arv Z h45 al kl .int (1 : Int32) [(.int (1 : Int32))] (.int (0 : Int32)) := F40.other W45 (Ne.symm n_x0_al)
  have F56 : Arv Z h45 ao ko .int (8 : Int32) [(.int y0), (.int y1), (.int y2), (.int y3), (.int y4), (.int x1), (.int (0 : Int32)), (.int (0 : Int32))] (.int (0 : Int32)) := F41.other W45 (Ne.symm n_x0_ao)
  have F57 : Arv Z h45 af kf .int (8 : Int32) [(.int (1 : Int32)), (.int (1 : Int32)), (.int (1 : Int32)), (.int (1 : Int32)), (.int (1 : Int32)), (.int (1 : Int32)), (.int (0 : Int32)), (.int (0 : Int32))] (.int (0 : Int32)) := V29.other W45 (Ne.symm n_x0_af)
  have K45 := K29.wr W45 (Or.inl (List.mem_of_getElem? (i := 0) rfl))
  have Z45 : n0 ≤ h45.size := Nat.le_trans Z29 (Keep.of_wr W45).1
  have Fw45 : Fld Z h45 x0 "com/example/portia/portia/index/Postings" "size" "I" (.int (6 : Int32)) := F33.same W45
  have N45 := Fr.snoc X45 N29 g_x0
  have st58 : Steps p.tables e below (T45.setTop (mkF m 76 #[.val (.ref x0), .val (.int x1), .val (.int (1 : Int32)), .val (.int (1 : Int32))] [])) (T45.setTop (mkF m 78 #[.val (.ref x0), .val (.int x1), .val (.int (1 : Int32)), .val (.int (1 : Int32))] [(.ref x0), (.ref x0)])) := by
    refine XS.aloadN X45.here hx rfl (hb hby d15_76) rfl rfl ?_
    show Steps p.tables e below (T45.setTop (mkF m 77 #[.val (.ref x0), .val (.int x1), .val (.int (1 : Int32)), .val (.int (1 : Int32))] [(.ref x0)])) _
    refine XS.dup X45.here hx rfl (hb hby d15_77) rfl rfl ?_
    show Steps p.tables e below (T45.setTop (mkF m 78 #[.val (.ref x0), .val (.int x1), .val (.int (1 : Int32)), .val (.int (1 : Int32))] [(.ref x0), (.ref x0)])) _
    exact Steps.refl _
  have pre58 := pre45.trans st58
  obtain ⟨T59, X59, e59, st59⟩ := getF X45 hx hZ hown (host := "") (Or.inl (hw _ (List.mem_of_getElem? (i := 33) rfl))) Via.refl e45 F50 (g := (mkF m 78 #[.val (.ref x0), .val (.int x1), .val (.int (1 : Int32)), .val (.int (1 : Int32))] [(.ref x0), (.ref x0)])) rfl rfl (hb hby d15_78)
  have pre59 : Steps p.tables e below (s₁.setTop (entryFrame m #[(.ref x0), (.int x1), (.int (1 : Int32)), (.int (1 : Int32))] 4)) (T59.setTop (mkF m 81 #[.val (.ref x0), .val (.int x1), .val (.int (1 : Int32)), .val (.int (1 : Int32))] [(.int (5 : Int32)), (.ref x0)])) := pre58.trans (st59 _ (Steps.refl _))
  have st60 : Steps p.tables e below (T59.setTop (mkF m 81 #[.val (.ref x0), .val (.int x1), .val (.int (1 : Int32)), .val (.int (1 : Int32))] [(.int (5 : Int32)), (.ref x0)])) (T59.setTop (mkF m 83 #[.val (.ref x0), .val (.int x1), .val (.int (1 : Int32)), .val (.int (1 : Int32))] [(.int (6 : Int32)), (.ref x0)])) := by
    refine XS.iconst X59.here hx rfl (hb hby d15_81) ?_
    show Steps p.tables e below (T59.setTop (mkF m 82 #[.val (.ref x0), .val (.int x1), .val (.int (1 : Int32)), .val (.int (1 : Int32))] [(.int (1 : Int32)), (.int (5 : Int32)), (.ref x0)])) _
    refine XS.iadd X59.here hx rfl (hb hby d15_82) rfl ?_
    show Steps p.tables e below (T59.setTop (mkF m 83 #[.val (.ref x0), .val (.int x1), .val (.int (1 : Int32)), .val (.int (1 : Int32))] [(.int (6 : Int32)), (.ref x0)])) _
    exact Steps.refl _
  have pre60 := pre59.trans st60
  obtain ⟨T61, h61, X61, e61, W61, st61⟩ := putF X59 hx hZ hown (host := "") (Or.inl (hw _ (List.mem_of_getElem? (i := 33) rfl))) Via.refl e59 F50 F46 (Or.inl (hw _ (List.mem_of_getElem? (i := 34) rfl))) (hw _ (List.mem_of_getElem? (i := 5) rfl)) (ty := .int) (by decide) rfl rfl (g := (mkF m 83 #[.val (.ref x0), .val (.int x1), .val (.int (1 : Int32)), .val (.int (1 : Int32))] [(.int (6 : Int32)), (.ref x0)])) rfl rfl (hb hby d15_83)
  have pre61 : Steps p.tables e below (s₁.setTop (entryFrame m #[(.ref x0), (.int x1), (.int (1 : Int32)), (.int (1 : Int32))] 4)) (T61.setTop (mkF m 86 #[.val (.ref x0), .val (.int x1), .val (.int (1 : Int32)), .val (.int (1 : Int32))] [])) := pre60.trans (st61 _ (Steps.refl _))
  have F62 : Exa Z h61 x0 "com/example/portia/portia/index/Postings" := F46.wr W61
  have F63 : Fld Z h61 x0 "com/example/portia/portia/index/Postings" "ordinals" "[I" (.ref ao) := F47.other W61 (Or.inr (slot_ne (Or.inl (hw _ (List.mem_of_getElem? (i := 14) rfl))) (Or.inl (hw _ (List.mem_of_getElem? (i := 34) rfl))) (by decide) (t := (.array .int)) (t' := .int) (by decide) (by decide)))
  have F64 : Fld Z h61 x0 "com/example/portia/portia/index/Postings" "frequencies" "[I" (.ref af) := F48.other W61 (Or.inr (slot_ne (Or.inl (hw _ (List.mem_of_getElem? (i := 16) rfl))) (Or.inl (hw _ (List.mem_of_getElem? (i := 34) rfl))) (by decide) (t := (.array .int)) (t' := .int) (by decide) (by decide)))
  have F66 : Fld Z h61 x0 "com/example/portia/portia/index/Postings" "impactFrequencies" "[I" (.ref ai) := F51.other W61 (Or.inr (slot_ne (Or.inl (hw _ (List.mem_of_getElem? (i := 18) rfl))) (Or.inl (hw _ (List.mem_of_getElem? (i := 34) rfl))) (by decide) (t := (.array .int)) (t' := .int) (by decide) (by decide)))
  have F67 : Fld Z h61 x0 "com/example/portia/portia/index/Postings" "impactLengths" "[I" (.ref al) := F52.other W61 (Or.inr (slot_ne (Or.inl (hw _ (List.mem_of_getElem? (i := 20) rfl))) (Or.inl (hw _ (List.mem_of_getElem? (i := 34) rfl))) (by decide) (t := (.array .int)) (t' := .int) (by decide) (by decide)))
  have F68 : Fld Z h61 x0 "com/example/portia/portia/index/Postings" "impactCount" "I" (.int (1 : Int32)) := F53.other W61 (Or.inr (slot_ne (Or.inl (hw _ (List.mem_of_getElem? (i := 40) rfl))) (Or.inl (hw _ (List.mem_of_getElem? (i := 34) rfl))) (by decide) (t := .int) (t' := .int) (by decide) (by decide)))
  have F69 : Arv Z h61 ai ki .int (1 : Int32) [(.int (1 : Int32))] (.int (0 : Int32)) := F54.other W61 (Ne.symm n_x0_ai)
  have F70 : Arv Z h61 al kl .int (1 : Int32) [(.int (1 : Int32))] (.int (0 : Int32)) := F55.other W61 (Ne.symm n_x0_al)
  have F71 : Arv Z h61 ao ko .int (8 : Int32) [(.int y0), (.int y1), (.int y2), (.int y3), (.int y4), (.int x1), (.int (0 : Int32)), (.int (0 : Int32))] (.int (0 : Int32)) := F56.other W61 (Ne.symm n_x0_ao)
  have F72 : Arv Z h61 af kf .int (8 : Int32) [(.int (1 : Int32)), (.int (1 : Int32)), (.int (1 : Int32)), (.int (1 : Int32)), (.int (1 : Int32)), (.int (1 : Int32)), (.int (0 : Int32)), (.int (0 : Int32))] (.int (0 : Int32)) := F57.other W61 (Ne.symm n_x0_af)
  have F73 : Fld Z h61 x0 "com/example/portia/portia/index/Postings" "size" "I" (.int (6 : Int32)) := Fw45.other W61 (Or.inr (slot_ne (Or.inl (hw _ (List.mem_of_getElem? (i := 27) rfl))) (Or.inl (hw _ (List.mem_of_getElem? (i := 34) rfl))) (by decide) (t := .int) (t' := .int) (by decide) (by decide)))
  have K61 := K45.wr W61 (Or.inl (List.mem_of_getElem? (i := 0) rfl))
  have Z61 : n0 ≤ h61.size := Nat.le_trans Z45 (Keep.of_wr W61).1
  have Fw61 : Fld Z h61 x0 "com/example/portia/portia/index/Postings" "documentFrequency" "I" (.int (6 : Int32)) := F50.same W61
  have N61 := Fr.snoc X61 N45 g_x0
  have st74 : Steps p.tables e below (T61.setTop (mkF m 86 #[.val (.ref x0), .val (.int x1), .val (.int (1 : Int32)), .val (.int (1 : Int32))] [])) (T61.setTop (mkF m 89 #[.val (.ref x0), .val (.int x1), .val (.int (1 : Int32)), .val (.int (1 : Int32))] [(.int (1 : Int32)), (.int (1 : Int32)), (.ref x0)])) := by
    refine XS.aloadN X61.here hx rfl (hb hby d15_86) rfl rfl ?_
    show Steps p.tables e below (T61.setTop (mkF m 87 #[.val (.ref x0), .val (.int x1), .val (.int (1 : Int32)), .val (.int (1 : Int32))] [(.ref x0)])) _
    refine XS.iloadN X61.here hx rfl (hb hby d15_87) rfl ?_
    show Steps p.tables e below (T61.setTop (mkF m 88 #[.val (.ref x0), .val (.int x1), .val (.int (1 : Int32)), .val (.int (1 : Int32))] [(.int (1 : Int32)), (.ref x0)])) _
    refine XS.iloadN X61.here hx rfl (hb hby d15_88) rfl ?_
    show Steps p.tables e below (T61.setTop (mkF m 89 #[.val (.ref x0), .val (.int x1), .val (.int (1 : Int32)), .val (.int (1 : Int32))] [(.int (1 : Int32)), (.int (1 : Int32)), (.ref x0)])) _
    exact Steps.refl _
  have pre74 := pre61.trans st74
  obtain ⟨cq75, q75, q75'⟩ := F62.cell
  obtain ⟨_, _, mp75, -, -, qp75, -, kp75, hkp75, hki75⟩ := Cond.selects_spec (mvT (args := #[]) hZ (hw _ (List.mem_of_getElem? (i := 24) rfl)))
  obtain ⟨_, _, ⟨T75, L75, k75, n75⟩, -, X75, ⟨Lc75, hQ75, l75, y75, z75⟩, st75⟩ := X61.privateBack hx (y := (⟨"com/example/portia/portia/index/Postings", "addImpact", "(II)V"⟩ : MethodName)) hown (mvT hZ (hw _ (List.mem_of_getElem? (i := 35) rfl))) (mvT hZ (hw _ (List.mem_of_getElem? (i := 36) rfl))) (Jvm.Stand.selects_self_of_private (show s.vm.findClass "com/example/portia/portia/index/Postings" = some mp75.cls from findClass_of_methodNamed qp75) hkp75 hki75 (Cond.privateMethod_at (mvP hZ (hw _ (List.mem_of_getElem? (i := 37) rfl)) (args := #[]))) (mvT hZ (hw _ (List.mem_of_getElem? (i := 36) rfl))) (by decide)) (Cond.privateMethod_at (mvP hZ (hw _ (List.mem_of_getElem? (i := 37) rfl)) (args := #[]))) (mvT hZ (hw _ (List.mem_of_getElem? (i := 38) rfl))) (by decide) (backOf (W := 0) (rm7 l Z a0 hw [] x0 ai ki al kl h61 n0 Z61 F66 F67 F68 F69 F70) hZ (hw _ (List.mem_of_getElem? (i := 38) rfl)) (hw _ (List.mem_of_getElem? (i := 6) rfl)) (by decide) (by decide)) (g := (mkF m 89 #[.val (.ref x0), .val (.int x1), .val (.int (1 : Int32)), .val (.int (1 : Int32))] [(.int (1 : Int32)), (.int (1 : Int32)), (.ref x0)])) rfl (by rw [hml]; rfl) (Steps.refl _) (a := x0) (by rw [e61]; exact q75) q75' (argsL := [(.int (1 : Int32)), (.int (1 : Int32))]) (rest := []) (lenOf pd15_0 rfl) rfl (by show 2 * 0 + _ ≤ _; exact Nat.le_of_eq rfl) (hb hby d15_89) (fun _ _ => ⟨rfl, e61, (by decide : 0 + 0 ≤ _), (by decide : 0 + 0 ≤ _)⟩)
  dsimp only [Pt.U, Pt.locs, Pt.cells, Pt.slots] at X75 l75 y75 z75 st75 hQ75
  subst l75 y75 z75
  obtain ⟨rfl, Nq75, e75⟩ := hQ75
  have N75 := Fr.app N61 Nq75
  have pre75 : Steps p.tables e below (s₁.setTop (entryFrame m #[(.ref x0), (.int x1), (.int (1 : Int32)), (.int (1 : Int32))] 4)) (T75.setTop (mkF m 92 #[.val (.ref x0), .val (.int x1), .val (.int (1 : Int32)), .val (.int (1 : Int32))] [])) := pre74.trans st75
  obtain ⟨fs, hr, hrun, hended, hW, hsame⟩ := X75.leave (v := none) (fun _ => rfl)
  refine ⟨_, _, pre75.trans ?_, hrun, hended, _, _, rfl, ?_, ⟨_, rfl⟩, hW, hsame.mono (by decide) (by decide)⟩
  · show Steps p.tables e below (T75.setTop (mkF m 92 #[.val (.ref x0), .val (.int x1), .val (.int (1 : Int32)), .val (.int (1 : Int32))] [])) _
    exact X75.returnOut hx Bd.returns (hb hby d15_92) hr
  · show Q15 Z x0 x1 ao ko af kf ai ki al kl y0 y1 y2 y3 y4 h0 n0 _ T75.heap _
    rw [e75]
    exact ⟨rfl, N75, K61, F62, F63, F64, F73, Fw61, F66, F67, F68, F71, F72, F69, F70⟩
theorem d16_0 : decode prog_19_method_10_code 0 = .ok (.aload_n 0, 1) := by decide +kernel
theorem d16_1 : decode prog_19_method_10_code 1 = .ok (.getfield 22, 3) := by decide +kernel
theorem d16_4 : decode prog_19_method_10_code 4 = .ok (.aload_n 0, 1) := by decide +kernel
theorem d16_5 : decode prog_19_method_10_code 5 = .ok (.getfield 7, 3) := by decide +kernel
theorem d16_8 : decode prog_19_method_10_code 8 = .ok (.arraylength, 1) := by decide +kernel
theorem d16_9 : decode prog_19_method_10_code 9 = .ok (.if_icmp .ne 37, 3) := by decide +kernel
theorem d16_46 : decode prog_19_method_10_code 46 = .ok (.aload_n 0, 1) := by decide +kernel
theorem d16_47 : decode prog_19_method_10_code 47 = .ok (.getfield 7, 3) := by decide +kernel
theorem d16_50 : decode prog_19_method_10_code 50 = .ok (.aload_n 0, 1) := by decide +kernel
theorem d16_51 : decode prog_19_method_10_code 51 = .ok (.getfield 22, 3) := by decide +kernel
theorem d16_54 : decode prog_19_method_10_code 54 = .ok (.iload_n 1, 1) := by decide +kernel
theorem d16_55 : decode prog_19_method_10_code 55 = .ok (.iastore, 1) := by decide +kernel
theorem d16_56 : decode prog_19_method_10_code 56 = .ok (.aload_n 0, 1) := by decide +kernel
theorem d16_57 : decode prog_19_method_10_code 57 = .ok (.getfield 13, 3) := by decide +kernel
theorem d16_60 : decode prog_19_method_10_code 60 = .ok (.aload_n 0, 1) := by decide +kernel
theorem d16_61 : decode prog_19_method_10_code 61 = .ok (.getfield 22, 3) := by decide +kernel
theorem d16_64 : decode prog_19_method_10_code 64 = .ok (.iload_n 2, 1) := by decide +kernel
theorem d16_65 : decode prog_19_method_10_code 65 = .ok (.iastore, 1) := by decide +kernel
theorem d16_66 : decode prog_19_method_10_code 66 = .ok (.aload_n 0, 1) := by decide +kernel
theorem d16_67 : decode prog_19_method_10_code 67 = .ok (.dup, 1) := by decide +kernel
theorem d16_68 : decode prog_19_method_10_code 68 = .ok (.getfield 22, 3) := by decide +kernel
theorem d16_71 : decode prog_19_method_10_code 71 = .ok (.iconst 1, 1) := by decide +kernel
theorem d16_72 : decode prog_19_method_10_code 72 = .ok (.iadd, 1) := by decide +kernel
theorem d16_73 : decode prog_19_method_10_code 73 = .ok (.putfield 22, 3) := by decide +kernel
theorem d16_76 : decode prog_19_method_10_code 76 = .ok (.aload_n 0, 1) := by decide +kernel
theorem d16_77 : decode prog_19_method_10_code 77 = .ok (.dup, 1) := by decide +kernel
theorem d16_78 : decode prog_19_method_10_code 78 = .ok (.getfield 26, 3) := by decide +kernel
theorem d16_81 : decode prog_19_method_10_code 81 = .ok (.iconst 1, 1) := by decide +kernel
theorem d16_82 : decode prog_19_method_10_code 82 = .ok (.iadd, 1) := by decide +kernel
theorem d16_83 : decode prog_19_method_10_code 83 = .ok (.putfield 26, 3) := by decide +kernel
theorem d16_86 : decode prog_19_method_10_code 86 = .ok (.aload_n 0, 1) := by decide +kernel
theorem d16_87 : decode prog_19_method_10_code 87 = .ok (.iload_n 2, 1) := by decide +kernel
theorem d16_88 : decode prog_19_method_10_code 88 = .ok (.iload_n 3, 1) := by decide +kernel
theorem d16_89 : decode prog_19_method_10_code 89 = .ok (.invokevirtual 38, 3) := by decide +kernel
theorem d16_92 : decode prog_19_method_10_code 92 = .ok (.return_, 1) := by decide +kernel
theorem pn16 : plainName "com/example/portia/portia/index/Postings" = true := by first | (simp [plainName, overriddenIn]; done) | decide +kernel
theorem pd16_0 : parseMethodDescriptor "(II)V" = some ⟨[.int, .int], none⟩ := by decide +kernel
theorem ef16 (m : MethodId) (x0 : Addr) (x1 : Int32) : entryFrame m #[(.ref x0), (.int x1), (.int (1 : Int32)), (.int (1 : Int32))] 4 = mkF m 0 #[.val (.ref x0), .val (.int x1), .val (.int (1 : Int32)), .val (.int (1 : Int32))] [] := by first | (simp [entryFrame, mkF, argsToLocals, Value.category]; done) | rfl
def Q16 (Z : State) (x0 : Addr) (x1 : Int32) (ao : Addr) (ko : ClassId) (af : Addr) (kf : ClassId) (ai : Addr) (ki : ClassId) (al : Addr) (kl : ClassId) (y0 : Int32) (y1 : Int32) (y2 : Int32) (y3 : Int32) (y4 : Int32) (y5 : Int32) (h0 : Heap) (n0 : Nat) (v : Option Value) (h : Heap) (L : List Loc) : Prop := v = none ∧ Fr n0 L ∧ Keep h0 h [x0, ao, af] ∧ Exa Z h x0 "com/example/portia/portia/index/Postings" ∧ Fld Z h x0 "com/example/portia/portia/index/Postings" "ordinals" "[I" (.ref ao) ∧ Fld Z h x0 "com/example/portia/portia/index/Postings" "frequencies" "[I" (.ref af) ∧ Fld Z h x0 "com/example/portia/portia/index/Postings" "size" "I" (.int (7 : Int32)) ∧ Fld Z h x0 "com/example/portia/portia/index/Postings" "documentFrequency" "I" (.int (7 : Int32)) ∧ Fld Z h x0 "com/example/portia/portia/index/Postings" "impactFrequencies" "[I" (.ref ai) ∧ Fld Z h x0 "com/example/portia/portia/index/Postings" "impactLengths" "[I" (.ref al) ∧ Fld Z h x0 "com/example/portia/portia/index/Postings" "impactCount" "I" (.int (1 : Int32)) ∧ Arv Z h ao ko .int (8 : Int32) [(.int y0), (.int y1), (.int y2), (.int y3), (.int y4), (.int y5), (.int x1), (.int (0 : Int32))] (.int (0 : Int32)) ∧ Arv Z h af kf .int (8 : Int32) [(.int (1 : Int32)), (.int (1 : Int32)), (.int (1 : Int32)), (.int (1 : Int32)), (.int (1 : Int32)), (.int (1 : Int32)), (.int (1 : Int32)), (.int (0 : Int32))] (.int (0 : Int32)) ∧ Arv Z h ai ki .int (1 : Int32) [(.int (1 : Int32))] (.int (0 : Int32)) ∧ Arv Z h al kl .int (1 : Int32) [(.int (1 : Int32))] (.int (0 : Int32))
set_option maxRecDepth 65536 in
set_option maxHeartbeats 40000000 in
theorem rm16 (l : Launch) (Z : State) (a0 : Array Value) (hw : ∀ d ∈ tables_1, d.before a0 Z = true) (ws : List Jvm.Cond) (x0 : Addr) (x1 : Int32) (ao : Addr) (ko : ClassId) (af : Addr) (kf : ClassId) (ai : Addr) (ki : ClassId) (al : Addr) (kl : ClassId) (y0 : Int32) (y1 : Int32) (y2 : Int32) (y3 : Int32) (y4 : Int32) (y5 : Int32) (h0 : Heap) (n0 : Nat) (Z0 : n0 ≤ h0.size) (B0 : Exa Z h0 x0 "com/example/portia/portia/index/Postings") (B1 : Fld Z h0 x0 "com/example/portia/portia/index/Postings" "ordinals" "[I" (.ref ao)) (B2 : Fld Z h0 x0 "com/example/portia/portia/index/Postings" "frequencies" "[I" (.ref af)) (B3 : Fld Z h0 x0 "com/example/portia/portia/index/Postings" "size" "I" (.int (6 : Int32))) (B4 : Fld Z h0 x0 "com/example/portia/portia/index/Postings" "documentFrequency" "I" (.int (6 : Int32))) (B5 : Fld Z h0 x0 "com/example/portia/portia/index/Postings" "impactFrequencies" "[I" (.ref ai)) (B6 : Fld Z h0 x0 "com/example/portia/portia/index/Postings" "impactLengths" "[I" (.ref al)) (B7 : Fld Z h0 x0 "com/example/portia/portia/index/Postings" "impactCount" "I" (.int (1 : Int32))) (B8 : Arv Z h0 ao ko .int (8 : Int32) [(.int y0), (.int y1), (.int y2), (.int y3), (.int y4), (.int y5), (.int (0 : Int32)), (.int (0 : Int32))] (.int (0 : Int32))) (B9 : Arv Z h0 af kf .int (8 : Int32) [(.int (1 : Int32)), (.int (1 : Int32)), (.int (1 : Int32)), (.int (1 : Int32)), (.int (1 : Int32)), (.int (1 : Int32)), (.int (0 : Int32)), (.int (0 : Int32))] (.int (0 : Int32))) (B10 : Arv Z h0 ai ki .int (1 : Int32) [(.int (1 : Int32))] (.int (0 : Int32))) (B11 : Arv Z h0 al kl .int (1 : Int32) [(.int (1 : Int32))] (.int (0 : Int32))) (g_x0 : n0 ≤ x0) (g_ao : n0 ≤ ao) (g_af : n0 ≤ af) (n_x0_ao : x0 ≠ ao) (n_x0_af : x0 ≠ af) (n_x0_ai : x0 ≠ ai) (n_x0_al : x0 ≠ al) (n_ao_af : ao ≠ af) (n_ao_ai : ao ≠ ai) (n_ao_al : ao ≠ al) (n_af_ai : af ≠ ai) (n_af_al : af ≠ al) (n_ai_al : ai ≠ al) :
    MetFree l (⟨"com/example/portia/portia/index/Postings", "add", "(III)V"⟩ : MethodName) (head1 (Jvm.Cond.code (⟨"com/example/portia/portia/index/Postings", "add", "(III)V"⟩ : MethodName) prog_19_method_10_code 4 none :: ws) ({ frames := 1, cells := 0, slots := 0, locals := 18 } : Room)) (fun a U => a = #[(.ref x0), (.int x1), (.int (1 : Int32)), (.int (1 : Int32))] ∧ Z.Warmed39 U.vm ∧ U.heap = h0) (fun _ _ _ _ _ => True) (fun _ U o U' => ∃ v L, o = .returned v ∧ Q16 Z x0 x1 ao ko af kf ai ki al kl y0 y1 y2 y3 y4 y5 h0 n0 v U'.heap L ∧ FrameEnd U o U' L ({ frames := 1, cells := 0, slots := 0, locals := 18 } : Room).cells ({ frames := 1, cells := 0, slots := 0, locals := 18 } : Room).slots) := by
  refine MetFree.of_bodySF (plainFor_of_name pn16) hisR ?_
  intro p e s m args below meth c s₁ Bd hml0 hP hK
  obtain ⟨rfl, hZ, hh⟩ := hP
  have hx := Bd.exec
  have hby := Bd.bytes
  have hml : c.maxLocals = 4 := hml0
  have hown : s.vm.findClass "com/example/portia/portia/index/Postings" = some m.cls := findClass_of_methodNamed Bd.named
  have hnm := (name_of_methodNamed Bd.named Bd.method).1
  have X0 : Stand p l e ({ frames := 1, cells := 0, slots := 0, locals := 18 } : Room) s m #[(.ref x0), (.int x1), (.int (1 : Int32)), (.int (1 : Int32))] below meth c s₁ [] 0 0 := Stand.of_body Bd
  have e0 : s₁.heap = h0 := by rw [← hh, Bd.state]; rfl
  have N0 := Fr.nil n0
  have pre0 : Steps p.tables e below (s₁.setTop (entryFrame m #[(.ref x0), (.int x1), (.int (1 : Int32)), (.int (1 : Int32))] 4)) (s₁.setTop (mkF m 0 #[.val (.ref x0), .val (.int x1), .val (.int (1 : Int32)), .val (.int (1 : Int32))] [])) := castTop (ef16 m x0 x1) (Steps.refl _)
  have K0 := Keep.refl h0 [x0, ao, af]
  have st1 : Steps p.tables e below (s₁.setTop (mkF m 0 #[.val (.ref x0), .val (.int x1), .val (.int (1 : Int32)), .val (.int (1 : Int32))] [])) (s₁.setTop (mkF m 1 #[.val (.ref x0), .val (.int x1), .val (.int (1 : Int32)), .val (.int (1 : Int32))] [(.ref x0)])) := by
    refine XS.aloadN X0.here hx rfl (hb hby d16_0) rfl rfl ?_
    show Steps p.tables e below (s₁.setTop (mkF m 1 #[.val (.ref x0), .val (.int x1), .val (.int (1 : Int32)), .val (.int (1 : Int32))] [(.ref x0)])) _
    exact Steps.refl _
  have pre1 := pre0.trans st1
  obtain ⟨T2, X2, e2, st2⟩ := getF X0 hx hZ hown (host := "") (Or.inl (hw _ (List.mem_of_getElem? (i := 26) rfl))) Via.refl e0 B3 (g := (mkF m 1 #[.val (.ref x0), .val (.int x1), .val (.int (1 : Int32)), .val (.int (1 : Int32))] [(.ref x0)])) rfl rfl (hb hby d16_1)
  have pre2 : Steps p.tables e below (s₁.setTop (entryFrame m #[(.ref x0), (.int x1), (.int (1 : Int32)), (.int (1 : Int32))] 4)) (T2.setTop (mkF m 4 #[.val (.ref x0), .val (.int x1), .val (.int (1 : Int32)), .val (.int (1 : Int32))] [(.int (6 : Int32))])) := pre1.trans (st2 _ (Steps.refl _))
  have st3 : Steps p.tables e below (T2.setTop (mkF m 4 #[.val (.ref x0), .val (.int x1), .val (.int (1 : Int32)), .val (.int (1 : Int32))] [(.int (6 : Int32))])) (T2.setTop (mkF m 5 #[.val (.ref x0), .val (.int x1), .val (.int (1 : Int32)), .val (.int (1 : Int32))] [(.ref x0), (.int (6 : Int32))])) := by
    refine XS.aloadN X2.here hx rfl (hb hby d16_4) rfl rfl ?_
    show Steps p.tables e below (T2.setTop (mkF m 5 #[.val (.ref x0), .val (.int x1), .val (.int (1 : Int32)), .val (.int (1 : Int32))] [(.ref x0), (.int (6 : Int32))])) _
    exact Steps.refl _
  have pre3 := pre2.trans st3
  obtain ⟨T4, X4, e4, st4⟩ := getF X2 hx hZ hown (host := "") (Or.inl (hw _ (List.mem_of_getElem? (i := 13) rfl))) Via.refl e2 B1 (g := (mkF m 5 #[.val (.ref x0), .val (.int x1), .val (.int (1 : Int32)), .val (.int (1 : Int32))] [(.ref x0), (.int (6 : Int32))])) rfl rfl (hb hby d16_5)
  have pre4 : Steps p.tables e below (s₁.setTop (entryFrame m #[(.ref x0), (.int x1), (.int (1 : Int32)), (.int (1 : Int32))] 4)) (T4.setTop (mkF m 8 #[.val (.ref x0), .val (.int x1), .val (.int (1 : Int32)), .val (.int (1 : Int32))] [(.ref ao), (.int (6 : Int32))])) := pre3.trans (st4 _ (Steps.refl _))
  obtain ⟨cl5, Ar5, q5, S5, G5, H5, J5⟩ := id B8
  have st5 : Steps p.tables e below (T4.setTop (mkF m 8 #[.val (.ref x0), .val (.int x1), .val (.int (1 : Int32)), .val (.int (1 : Int32))] [(.ref ao), (.int (6 : Int32))])) (T4.setTop (mkF m 9 #[.val (.ref x0), .val (.int x1), .val (.int (1 : Int32)), .val (.int (1 : Int32))] [(.int (8 : Int32)), (.int (6 : Int32))])) := by
    refine X4.arraylength hx (by rw [e4]; exact Ar5.1) (State.isArrayOf_alike hZ.alike Ar5.2.1) (g := (mkF m 8 #[.val (.ref x0), .val (.int x1), .val (.int (1 : Int32)), .val (.int (1 : Int32))] [(.ref ao), (.int (6 : Int32))])) rfl rfl (hb hby d16_8) _ ?_
    rw [len_of S5 G5]
    exact Steps.refl _
  have pre5 := pre4.trans st5
  have st6 : Steps p.tables e below (T4.setTop (mkF m 9 #[.val (.ref x0), .val (.int x1), .val (.int (1 : Int32)), .val (.int (1 : Int32))] [(.int (8 : Int32)), (.int (6 : Int32))])) (T4.setTop (mkF m 47 #[.val (.ref x0), .val (.int x1), .val (.int (1 : Int32)), .val (.int (1 : Int32))] [(.ref x0)])) := by
    refine XS.icmpYes X4.here hx rfl (pc0 := 9) (pc' := 46) rfl (hb hby d16_9) rfl (feq (by decide : ¬ ((6 : Int32) = (8 : Int32)))).2 (by decide) (by decide) ?_
    show Steps p.tables e below (T4.setTop (mkF m 46 #[.val (.ref x0), .val (.int x1), .val (.int (1 : Int32)), .val (.int (1 : Int32))] [])) _
    refine XS.aloadN X4.here hx rfl (hb hby d16_46) rfl rfl ?_
    show Steps p.tables e below (T4.setTop (mkF m 47 #[.val (.ref x0), .val (.int x1), .val (.int (1 : Int32)), .val (.int (1 : Int32))] [(.ref x0)])) _
    exact Steps.refl _
  have pre6 := pre5.trans st6
  obtain ⟨T7, X7, e7, st7⟩ := getF X4 hx hZ hown (host := "") (Or.inl (hw _ (List.mem_of_getElem? (i := 13) rfl))) Via.refl e4 B1 (g := (mkF m 47 #[.val (.ref x0), .val (.int x1), .val (.int (1 : Int32)), .val (.int (1 : Int32))] [(.ref x0)])) rfl rfl (hb hby d16_47)
  have pre7 : Steps p.tables e below (s₁.setTop (entryFrame m #[(.ref x0), (.int x1), (.int (1 : Int32)), (.int (1 : Int32))] 4)) (T7.setTop (mkF m 50 #[.val (.ref x0), .val (.int x1), .val (.int (1 : Int32)), .val (.int (1 : Int32))] [(.ref ao)])) := pre6.trans (st7 _ (Steps.refl _))
  have st8 : Steps p.tables e below (T7.setTop (mkF m 50 #[.val (.ref x0), .val (.int x1), .val (.int (1 : Int32)), .val (.int (1 : Int32))] [(.ref ao)])) (T7.setTop (mkF m 51 #[.val (.ref x0), .val (.int x1), .val (.int (1 : Int32)), .val (.int (1 : Int32))] [(.ref x0), (.ref ao)])) := by
    refine XS.aloadN X7.here hx rfl (hb hby d16_50) rfl rfl ?_
    show Steps p.tables e below (T7.setTop (mkF m 51 #[.val (.ref x0), .val (.int x1), .val (.int (1 : Int32)), .val (.int (1 : Int32))] [(.ref x0), (.ref ao)])) _
    exact Steps.refl _
  have pre8 := pre7.trans st8
  obtain ⟨T9, X9, e9, st9⟩ := getF X7 hx hZ hown (host := "") (Or.inl (hw _ (List.mem_of_getElem? (i := 26) rfl))) Via.refl e7 B3 (g := (mkF m 51 #[.val (.ref x0), .val (.int x1), .val (.int (1 : Int32)), .val (.int (1 : Int32))] [(.ref x0), (.ref ao)])) rfl rfl (hb hby d16_51)
  have pre9 : Steps p.tables e below (s₁.setTop (entryFrame m #[(.ref x0), (.int x1), (.int (1 : Int32)), (.int (1 : Int32))] 4)) (T9.setTop (mkF m 54 #[.val (.ref x0), .val (.int x1), .val (.int (1 : Int32)), .val (.int (1 : Int32))] [(.int (6 : Int32)), (.ref ao)])) := pre8.trans (st9 _ (Steps.refl _))
  have st10 : Steps p.tables e below (T9.setTop (mkF m 54 #[.val (.ref x0), .val (.int x1), .val (.int (1 : Int32)), .val (.int (1 : Int32))] [(.int (6 : Int32)), (.ref ao)])) (T9.setTop (mkF m 55 #[.val (.ref x0), .val (.int x1), .val (.int (1 : Int32)), .val (.int (1 : Int32))] [(.int x1), (.int (6 : Int32)), (.ref ao)])) := by
    refine XS.iloadN X9.here hx rfl (hb hby d16_54) rfl ?_
    show Steps p.tables e below (T9.setTop (mkF m 55 #[.val (.ref x0), .val (.int x1), .val (.int (1 : Int32)), .val (.int (1 : Int32))] [(.int x1), (.int (6 : Int32)), (.ref ao)])) _
    exact Steps.refl _
  have pre10 := pre9.trans st10
  obtain ⟨cl11, Ar11, q11, S11, G11, H11, J11⟩ := id B8
  have in11 : ¬ ((6 : Int32) < 0 ∨ cl11.slots.size ≤ ((6 : Int32)).toNatClampNeg) := inb_of S11 ⟨by decide, by decide⟩
  obtain ⟨T11, h11, X11, e11, W11, st11⟩ := stI X9 hx hZ e9 Ar11 (j := (6 : Int32)) in11 (g := (mkF m 55 #[.val (.ref x0), .val (.int x1), .val (.int (1 : Int32)), .val (.int (1 : Int32))] [(.int x1), (.int (6 : Int32)), (.ref ao)])) rfl rfl (hb hby d16_55)
  have pre11 : Steps p.tables e below (s₁.setTop (entryFrame m #[(.ref x0), (.int x1), (.int (1 : Int32)), (.int (1 : Int32))] 4)) (T11.setTop (mkF m 56 #[.val (.ref x0), .val (.int x1), .val (.int (1 : Int32)), .val (.int (1 : Int32))] [])) := pre10.trans (st11 _ (Steps.refl _))
  have F12 : Exa Z h11 x0 "com/example/portia/portia/index/Postings" := B0.wr W11
  have F13 : Fld Z h11 x0 "com/example/portia/portia/index/Postings" "ordinals" "[I" (.ref ao) := B1.other W11 (Or.inl n_x0_ao)
  have F14 : Fld Z h11 x0 "com/example/portia/portia/index/Postings" "frequencies" "[I" (.ref af) := B2.other W11 (Or.inl n_x0_ao)
  have F15 : Fld Z h11 x0 "com/example/portia/portia/index/Postings" "size" "I" (.int (6 : Int32)) := B3.other W11 (Or.inl n_x0_ao)
  have F16 : Fld Z h11 x0 "com/example/portia/portia/index/Postings" "documentFrequency" "I" (.int (6 : Int32)) := B4.other W11 (Or.inl n_x0_ao)
  have F17 : Fld Z h11 x0 "com/example/portia/portia/index/Postings" "impactFrequencies" "[I" (.ref ai) := B5.other W11 (Or.inl n_x0_ao)
  have F18 : Fld Z h11 x0 "com/example/portia/portia/index/Postings" "impactLengths" "[I" (.ref al) := B6.other W11 (Or.inl n_x0_ao)
  have F19 : Fld Z h11 x0 "com/example/portia/portia/index/Postings" "impactCount" "I" (.int (1 : Int32)) := B7.other W11 (Or.inl n_x0_ao)
  have F21 : Arv Z h11 af kf .int (8 : Int32) [(.int (1 : Int32)), (.int (1 : Int32)), (.int (1 : Int32)), (.int (1 : Int32)), (.int (1 : Int32)), (.int (1 : Int32)), (.int (0 : Int32)), (.int (0 : Int32))] (.int (0 : Int32)) := B9.other W11 (Ne.symm n_ao_af)
  have F22 : Arv Z h11 ai ki .int (1 : Int32) [(.int (1 : Int32))] (.int (0 : Int32)) := B10.other W11 (Ne.symm n_ao_ai)
  have F23 : Arv Z h11 al kl .int (1 : Int32) [(.int (1 : Int32))] (.int (0 : Int32)) := B11.other W11 (Ne.symm n_ao_al)
  have K11 := K0.wr W11 (Or.inl (List.mem_of_getElem? (i := 1) rfl))
  have Z11 : n0 ≤ h11.size := Nat.le_trans Z0 (Keep.of_wr W11).1
  have V11 : Arv Z h11 ao ko .int (8 : Int32) [(.int y0), (.int y1), (.int y2), (.int y3), (.int y4), (.int y5), (.int x1), (.int (0 : Int32))] (.int (0 : Int32)) := Arv.set Ar11 q11 S11 G11 H11 J11 rfl W11 6 rfl (Nat.le_of_ble_eq_true rfl)
  have N11 := Fr.snoc X11 N0 g_ao
  have st24 : Steps p.tables e below (T11.setTop (mkF m 56 #[.val (.ref x0), .val (.int x1), .val (.int (1 : Int32)), .val (.int (1 : Int32))] [])) (T11.setTop (mkF m 57 #[.val (.ref x0), .val (.int x1), .val (.int (1 : Int32)), .val (.int (1 : Int32))] [(.ref x0)])) := by
    refine XS.aloadN X11.here hx rfl (hb hby d16_56) rfl rfl ?_
    show Steps p.tables e below (T11.setTop (mkF m 57 #[.val (.ref x0), .val (.int x1), .val (.int (1 : Int32)), .val (.int (1 : Int32))] [(.ref x0)])) _
    exact Steps.refl _
  have pre24 := pre11.trans st24
  obtain ⟨T25, X25, e25, st25⟩ := getF X11 hx hZ hown (host := "") (Or.inl (hw _ (List.mem_of_getElem? (i := 15) rfl))) Via.refl e11 F14 (g := (mkF m 57 #[.val (.ref x0), .val (.int x1), .val (.int (1 : Int32)), .val (.int (1 : Int32))] [(.ref x0)])) rfl rfl (hb hby d16_57)
  have pre25 : Steps p.tables e below (s₁.setTop (entryFrame m #[(.ref x0), (.int x1), (.int (1 : Int32)), (.int (1 : Int32))] 4)) (T25.setTop (mkF m 60 #[.val (.ref x0), .val (.int x1), .val (.int (1 : Int32)), .val (.int (1 : Int32))] [(.ref af)])) := pre24.trans (st25 _ (Steps.refl _))
  have st26 : Steps p.tables e below (T25.setTop (mkF m 60 #[.val (.ref x0), .val (.int x1), .val (.int (1 : Int32)), .val (.int (1 : Int32))] [(.ref af)])) (T25.setTop (mkF m 61 #[.val (.ref x0), .val (.int x1), .val (.int (1 : Int32)), .val (.int (1 : Int32))] [(.ref x0), (.ref af)])) := by
    refine XS.aloadN X25.here hx rfl (hb hby d16_60) rfl rfl ?_
    show Steps p.tables e below (T25.setTop (mkF m 61 #[.val (.ref x0), .val (.int x1), .val (.int (1 : Int32)), .val (.int (1 : Int32))] [(.ref x0), (.ref af)])) _
    exact Steps.refl _
  have pre26 := pre25.trans st26
  obtain ⟨T27, X27, e27, st27⟩ := getF X25 hx hZ hown (host := "") (Or.inl (hw _ (List.mem_of_getElem? (i := 26) rfl))) Via.refl e25 F15 (g := (mkF m 61 #[.val (.ref x0), .val (.int x1), .val (.int (1 : Int32)), .val (.int (1 : Int32))] [(.ref x0), (.ref af)])) rfl rfl (hb hby d16_61)
  have pre27 : Steps p.tables e below (s₁.setTop (entryFrame m #[(.ref x0), (.int x1), (.int (1 : Int32)), (.int (1 : Int32))] 4)) (T27.setTop (mkF m 64 #[.val (.ref x0), .val (.int x1), .val (.int (1 : Int32)), .val (.int (1 : Int32))] [(.int (6 : Int32)), (.ref af)])) := pre26.trans (st27 _ (Steps.refl _))
  have st28 : Steps p.tables e below (T27.setTop (mkF m 64 #[.val (.ref x0), .val (.int x1), .val (.int (1 : Int32)), .val (.int (1 : Int32))] [(.int (6 : Int32)), (.ref af)])) (T27.setTop (mkF m 65 #[.val (.ref x0), .val (.int x1), .val (.int (1 : Int32)), .val (.int (1 : Int32))] [(.int (1 : Int32)), (.int (6 : Int32)), (.ref af)])) := by
    refine XS.iloadN X27.here hx rfl (hb hby d16_64) rfl ?_
    show Steps p.tables e below (T27.setTop (mkF m 65 #[.val (.ref x0), .val (.int x1), .val (.int (1 : Int32)), .val (.int (1 : Int32))] [(.int (1 : Int32)), (.int (6 : Int32)), (.ref af)])) _
    exact Steps.refl _
  have pre28 := pre27.trans st28
  obtain ⟨cl29, Ar29, q29, S29, G29, H29, J29⟩ := id F21
  have in29 : ¬ ((6 : Int32) < 0 ∨ cl29.slots.size ≤ ((6 : Int32)).toNatClampNeg) := inb_of S29 ⟨by decide, by decide⟩
  obtain ⟨T29, h29, X29, e29, W29, st29⟩ := stI X27 hx hZ e27 Ar29 (j := (6 : Int32)) in29 (g := (mkF m 65 #[.val (.ref x0), .val (.int x1), .val (.int (1 : Int32)), .val (.int (1 : Int32))] [(.int (1 : Int32)), (.int (6 : Int32)), (.ref af)])) rfl rfl (hb hby d16_65)
  have pre29 : Steps p.tables e below (s₁.setTop (entryFrame m #[(.ref x0), (.int x1), (.int (1 : Int32)), (.int (1 : Int32))] 4)) (T29.setTop (mkF m 66 #[.val (.ref x0), .val (.int x1), .val (.int (1 : Int32)), .val (.int (1 : Int32))] [])) := pre28.trans (st29 _ (Steps.refl _))
  have F30 : Exa Z h29 x0 "com/example/portia/portia/index/Postings" := F12.wr W29
  have F31 : Fld Z h29 x0 "com/example/portia/portia/index/Postings" "ordinals" "[I" (.ref ao) := F13.other W29 (Or.inl n_x0_af)
  have F32 : Fld Z h29 x0 "com/example/portia/portia/index/Postings" "frequencies" "[I" (.ref af) := F14.other W29 (Or.inl n_x0_af)
  have F33 : Fld Z h29 x0 "com/example/portia/portia/index/Postings" "size" "I" (.int (6 : Int32)) := F15.other W29 (Or.inl n_x0_af)
  have F34 : Fld Z h29 x0 "com/example/portia/portia/index/Postings" "documentFrequency" "I" (.int (6 : Int32)) := F16.other W29 (Or.inl n_x0_af)
  have F35 : Fld Z h29 x0 "com/example/portia/portia/index/Postings" "impactFrequencies" "[I" (.ref ai) := F17.other W29 (Or.inl n_x0_af)
  have F36 : Fld Z h29 x0 "com/example/portia/portia/index/Postings" "impactLengths" "[I" (.ref al) := F18.other W29 (Or.inl n_x0_af)
  have F37 : Fld Z h29 x0 "com/example/portia/portia/index/Postings" "impactCount" "I" (.int (1 : Int32)) := F19.other W29 (Or.inl n_x0_af)
  have F39 : Arv Z h29 ai ki .int (1 : Int32) [(.int (1 : Int32))] (.int (0 : Int32)) := F22.other W29 (Ne.symm n_af_ai)
  have F40 : Arv Z h29 al kl .int (1 : Int32) [(.int (1 : Int32))] (.int (0 : Int32)) := F23.other W29 (Ne.symm n_af_al)
  have F41 : Arv Z h29 ao ko .int (8 : Int32) [(.int y0), (.int y1), (.int y2), (.int y3), (.int y4), (.int y5), (.int x1), (.int (0 : Int32))] (.int (0 : Int32)) := V11.other W29 n_ao_af
  have K29 := K11.wr W29 (Or.inl (List.mem_of_getElem? (i := 2) rfl))
  have Z29 : n0 ≤ h29.size := Nat.le_trans Z11 (Keep.of_wr W29).1
  have V29 : Arv Z h29 af kf .int (8 : Int32) [(.int (1 : Int32)), (.int (1 : Int32)), (.int (1 : Int32)), (.int (1 : Int32)), (.int (1 : Int32)), (.int (1 : Int32)), (.int (1 : Int32)), (.int (0 : Int32))] (.int (0 : Int32)) := Arv.set Ar29 q29 S29 G29 H29 J29 rfl W29 6 rfl (Nat.le_of_ble_eq_true rfl)
  have N29 := Fr.snoc X29 N11 g_af
  have st42 : Steps p.tables e below (T29.setTop (mkF m 66 #[.val (.ref x0), .val (.int x1), .val (.int (1 : Int32)), .val (.int (1 : Int32))] [])) (T29.setTop (mkF m 68 #[.val (.ref x0), .val (.int x1), .val (.int (1 : Int32)), .val (.int (1 : Int32))] [(.ref x0), (.ref x0)])) := by
    refine XS.aloadN X29.here hx rfl (hb hby d16_66) rfl rfl ?_
    show Steps p.tables e below (T29.setTop (mkF m 67 #[.val (.ref x0), .val (.int x1), .val (.int (1 : Int32)), .val (.int (1 : Int32))] [(.ref x0)])) _
    refine XS.dup X29.here hx rfl (hb hby d16_67) rfl rfl ?_
    show Steps p.tables e below (T29.setTop (mkF m 68 #[.val (.ref x0), .val (.int x1), .val (.int (1 : Int32)), .val (.int (1 : Int32))] [(.ref x0), (.ref x0)])) _
    exact Steps.refl _
  have pre42 := pre29.trans st42
  obtain ⟨T43, X43, e43, st43⟩ := getF X29 hx hZ hown (host := "") (Or.inl (hw _ (List.mem_of_getElem? (i := 26) rfl))) Via.refl e29 F33 (g := (mkF m 68 #[.val (.ref x0), .val (.int x1), .val (.int (1 : Int32)), .val (.int (1 : Int32))] [(.ref x0), (.ref x0)])) rfl rfl (hb hby d16_68)
  have pre43 : Steps p.tables e below (s₁.setTop (entryFrame m #[(.ref x0), (.int x1), (.int (1 : Int32)), (.int (1 : Int32))] 4)) (T43.setTop (mkF m 71 #[.val (.ref x0), .val (.int x1), .val (.int (1 : Int32)), .val (.int (1 : Int32))] [(.int (6 : Int32)), (.ref x0)])) := pre42.trans (st43 _ (Steps.refl _))
  have st44 : Steps p.tables e below (T43.setTop (mkF m 71 #[.val (.ref x0), .val (.int x1), .val (.int (1 : Int32)), .val (.int (1 : Int32))] [(.int (6 : Int32)), (.ref x0)])) (T43.setTop (mkF m 73 #[.val (.ref x0), .val (.int x1), .val (.int (1 : Int32)), .val (.int (1 : Int32))] [(.int (7 : Int32)), (.ref x0)])) := by
    refine XS.iconst X43.here hx rfl (hb hby d16_71) ?_
    show Steps p.tables e below (T43.setTop (mkF m 72 #[.val (.ref x0), .val (.int x1), .val (.int (1 : Int32)), .val (.int (1 : Int32))] [(.int (1 : Int32)), (.int (6 : Int32)), (.ref x0)])) _
    refine XS.iadd X43.here hx rfl (hb hby d16_72) rfl ?_
    show Steps p.tables e below (T43.setTop (mkF m 73 #[.val (.ref x0), .val (.int x1), .val (.int (1 : Int32)), .val (.int (1 : Int32))] [(.int (7 : Int32)), (.ref x0)])) _
    exact Steps.refl _
  have pre44 := pre43.trans st44
  obtain ⟨T45, h45, X45, e45, W45, st45⟩ := putF X43 hx hZ hown (host := "") (Or.inl (hw _ (List.mem_of_getElem? (i := 26) rfl))) Via.refl e43 F33 F30 (Or.inl (hw _ (List.mem_of_getElem? (i := 27) rfl))) (hw _ (List.mem_of_getElem? (i := 5) rfl)) (ty := .int) (by decide) rfl rfl (g := (mkF m 73 #[.val (.ref x0), .val (.int x1), .val (.int (1 : Int32)), .val (.int (1 : Int32))] [(.int (7 : Int32)), (.ref x0)])) rfl rfl (hb hby d16_73)
  have pre45 : Steps p.tables e below (s₁.setTop (entryFrame m #[(.ref x0), (.int x1), (.int (1 : Int32)), (.int (1 : Int32))] 4)) (T45.setTop (mkF m 76 #[.val (.ref x0), .val (.int x1), .val (.int (1 : Int32)), .val (.int (1 : Int32))] [])) := pre44.trans (st45 _ (Steps.refl _))
  have F46 : Exa Z h45 x0 "com/example/portia/portia/index/Postings" := F30.wr W45
  have F47 : Fld Z h45 x0 "com/example/portia/portia/index/Postings" "ordinals" "[I" (.ref ao) := F31.other W45 (Or.inr (slot_ne (Or.inl (hw _ (List.mem_of_getElem? (i := 14) rfl))) (Or.inl (hw _ (List.mem_of_getElem? (i := 27) rfl))) (by decide) (t := (.array .int)) (t' := .int) (by decide) (by decide)))
  have F48 : Fld Z h45 x0 "com/example/portia/portia/index/Postings" "frequencies" "[I" (.ref af) := F32.other W45 (Or.inr (slot_ne (Or.inl (hw _ (List.mem_of_getElem? (i := 16) rfl))) (Or.inl (hw _ (List.mem_of_getElem? (i := 27) rfl))) (by decide) (t := (.array .int)) (t' := .int) (by decide) (by decide)))
  have F50 : Fld Z h45 x0 "com/example/portia/portia/index/Postings" "documentFrequency" "I" (.int (6 : Int32)) := F34.other W45 (Or.inr (slot_ne (Or.inl (hw _ (List.mem_of_getElem? (i := 34) rfl))) (Or.inl (hw _ (List.mem_of_getElem? (i := 27) rfl))) (by decide) (t := .int) (t' := .int) (by decide) (by decide)))
  have F51 : Fld Z h45 x0 "com/example/portia/portia/index/Postings" "impactFrequencies" "[I" (.ref ai) := F35.other W45 (Or.inr (slot_ne (Or.inl (hw _ (List.mem_of_getElem? (i := 18) rfl))) (Or.inl (hw _ (List.mem_of_getElem? (i := 27) rfl))) (by decide) (t := (.array .int)) (t' := .int) (by decide) (by decide)))
  have F52 : Fld Z h45 x0 "com/example/portia/portia/index/Postings" "impactLengths" "[I" (.ref al) := F36.other W45 (Or.inr (slot_ne (Or.inl (hw _ (List.mem_of_getElem? (i := 20) rfl))) (Or.inl (hw _ (List.mem_of_getElem? (i := 27) rfl))) (by decide) (t := (.array .int)) (t' := .int) (by decide) (by decide)))
  have F53 : Fld Z h45 x0 "com/example/portia/portia/index/Postings" "impactCount" "I" (.int (1 : Int32)) := F37.other W45 (Or.inr (slot_ne (Or.inl (hw _ (List.mem_of_getElem? (i := 40) rfl))) (Or.inl (hw _ (List.mem_of_getElem? (i := 27) rfl))) (by decide) (t := .int) (t' := .int) (by decide) (by decide)))
  have F54 : Arv Z h45 ai ki .int (1 : Int32) [(.int (1 : Int32))] (.int (0 : Int32)) := F39.other W45 (Ne.symm n_x0_ai)
  have F55 : Arv Z h45 al kl .int (1 : Int32) [(.int (1 : Int32))] (.int (0 : Int32)) := F40.other W45 (Ne.symm n_x0_al)
  have F56 : Arv Z h45 ao ko .int (8 : Int32) [(.int y0), (.int y1), (.int y2), (.int y3), (.int y4), (.int y5), (.int x1), (.int (0 : Int32))] (.int (0 : Int32)) := F41.other W45 (Ne.symm n_x0_ao)
  have F57 : Arv Z h45 af kf .int (8 : Int32) [(.int (1 : Int32)), (.int (1 : Int32)), (.int (1 : Int32)), (.int (1 : Int32)), (.int (1 : Int32)), (.int (1 : Int32)), (.int (1 : Int32)), (.int (0 : Int32))] (.int (0 : Int32)) := V29.other W45 (Ne.symm n_x0_af)
  have K45 := K29.wr W45 (Or.inl (List.mem_of_getElem? (i := 0) rfl))
  have Z45 : n0 ≤ h45.size := Nat.le_trans Z29 (Keep.of_wr W45).1
  have Fw45 : Fld Z h45 x0 "com/example/portia/portia/index/Postings" "size" "I" (.int (7 : Int32)) := F33.same W45
  have N45 := Fr.snoc X45 N29 g_x0
  have st58 : Steps p.tables e below (T45.setTop (mkF m 76 #[.val (.ref x0), .val (.int x1), .val (.int (1 : Int32)), .val (.int (1 : Int32))] [])) (T45.setTop (mkF m 78 #[.val (.ref x0), .val (.int x1), .val (.int (1 : Int32)), .val (.int (1 : Int32))] [(.ref x0), (.ref x0)])) := by
    refine XS.aloadN X45.here hx rfl (hb hby d16_76) rfl rfl ?_
    show Steps p.tables e below (T45.setTop (mkF m 77 #[.val (.ref x0), .val (.int x1), .val (.int (1 : Int32)), .val (.int (1 : Int32))] [(.ref x0)])) _
    refine XS.dup X45.here hx rfl (hb hby d16_77) rfl rfl ?_
    show Steps p.tables e below (T45.setTop (mkF m 78 #[.val (.ref x0), .val (.int x1), .val (.int (1 : Int32)), .val (.int (1 : Int32))] [(.ref x0), (.ref x0)])) _
    exact Steps.refl _
  have pre58 := pre45.trans st58
  obtain ⟨T59, X59, e59, st59⟩ := getF X45 hx hZ hown (host := "") (Or.inl (hw _ (List.mem_of_getElem? (i := 33) rfl))) Via.refl e45 F50 (g := (mkF m 78 #[.val (.ref x0), .val (.int x1), .val (.int (1 : Int32)), .val (.int (1 : Int32))] [(.ref x0), (.ref x0)])) rfl rfl (hb hby d16_78)
  have pre59 : Steps p.tables e below (s₁.setTop (entryFrame m #[(.ref x0), (.int x1), (.int (1 : Int32)), (.int (1 : Int32))] 4)) (T59.setTop (mkF m 81 #[.val (.ref x0), .val (.int x1), .val (.int (1 : Int32)), .val (.int (1 : Int32))] [(.int (6 : Int32)), (.ref x0)])) := pre58.trans (st59 _ (Steps.refl _))
  have st60 : Steps p.tables e below (T59.setTop (mkF m 81 #[.val (.ref x0), .val (.int x1), .val (.int (1 : Int32)), .val (.int (1 : Int32))] [(.int (6 : Int32)), (.ref x0)])) (T59.setTop (mkF m 83 #[.val (.ref x0), .val (.int x1), .val (.int (1 : Int32)), .val (.int (1 : Int32))] [(.int (7 : Int32)), (.ref x0)])) := by
    refine XS.iconst X59.here hx rfl (hb hby d16_81) ?_
    show Steps p.tables e below (T59.setTop (mkF m 82 #[.val (.ref x0), .val (.int x1), .val (.int (1 : Int32)), .val (.int (1 : Int32))] [(.int (1 : Int32)), (.int (6 : Int32)), (.ref x0)])) _
    refine XS.iadd X59.here hx rfl (hb hby d16_82) rfl ?_
    show Steps p.tables e below (T59.setTop (mkF m 83 #[.val (.ref x0), .val (.int x1), .val (.int (1 : Int32)), .val (.int (1 : Int32))] [(.int (7 : Int32)), (.ref x0)])) _
    exact Steps.refl _
  have pre60 := pre59.trans st60
  obtain ⟨T61, h61, X61, e61, W61, st61⟩ := putF X59 hx hZ hown (host := "") (Or.inl (hw _ (List.mem_of_getElem? (i := 33) rfl))) Via.refl e59 F50 F46 (Or.inl (hw _ (List.mem_of_getElem? (i := 34) rfl))) (hw _ (List.mem_of_getElem? (i := 5) rfl)) (ty := .int) (by decide) rfl rfl (g := (mkF m 83 #[.val (.ref x0), .val (.int x1), .val (.int (1 : Int32)), .val (.int (1 : Int32))] [(.int (7 : Int32)), (.ref x0)])) rfl rfl (hb hby d16_83)
  have pre61 : Steps p.tables e below (s₁.setTop (entryFrame m #[(.ref x0), (.int x1), (.int (1 : Int32)), (.int (1 : Int32))] 4)) (T61.setTop (mkF m 86 #[.val (.ref x0), .val (.int x1), .val (.int (1 : Int32)), .val (.int (1 : Int32))] [])) := pre60.trans (st61 _ (Steps.refl _))
  have F62 : Exa Z h61 x0 "com/example/portia/portia/index/Postings" := F46.wr W61
  have F63 : Fld Z h61 x0 "com/example/portia/portia/index/Postings" "ordinals" "[I" (.ref ao) := F47.other W61 (Or.inr (slot_ne (Or.inl (hw _ (List.mem_of_getElem? (i := 14) rfl))) (Or.inl (hw _ (List.mem_of_getElem? (i := 34) rfl))) (by decide) (t := (.array .int)) (t' := .int) (by decide) (by decide)))
  have F64 : Fld Z h61 x0 "com/example/portia/portia/index/Postings" "frequencies" "[I" (.ref af) := F48.other W61 (Or.inr (slot_ne (Or.inl (hw _ (List.mem_of_getElem? (i := 16) rfl))) (Or.inl (hw _ (List.mem_of_getElem? (i := 34) rfl))) (by decide) (t := (.array .int)) (t' := .int) (by decide) (by decide)))
  have F66 : Fld Z h61 x0 "com/example/portia/portia/index/Postings" "impactFrequencies" "[I" (.ref ai) := F51.other W61 (Or.inr (slot_ne (Or.inl (hw _ (List.mem_of_getElem? (i := 18) rfl))) (Or.inl (hw _ (List.mem_of_getElem? (i := 34) rfl))) (by decide) (t := (.array .int)) (t' := .int) (by decide) (by decide)))
  have F67 : Fld Z h61 x0 "com/example/portia/portia/index/Postings" "impactLengths" "[I" (.ref al) := F52.other W61 (Or.inr (slot_ne (Or.inl (hw _ (List.mem_of_getElem? (i := 20) rfl))) (Or.inl (hw _ (List.mem_of_getElem? (i := 34) rfl))) (by decide) (t := (.array .int)) (t' := .int) (by decide) (by decide)))
  have F68 : Fld Z h61 x0 "com/example/portia/portia/index/Postings" "impactCount" "I" (.int (1 : Int32)) := F53.other W61 (Or.inr (slot_ne (Or.inl (hw _ (List.mem_of_getElem? (i := 40) rfl))) (Or.inl (hw _ (List.mem_of_getElem? (i := 34) rfl))) (by decide) (t := .int) (t' := .int) (by decide) (by decide)))
  have F69 : Arv Z h61 ai ki .int (1 : Int32) [(.int (1 : Int32))] (.int (0 : Int32)) := F54.other W61 (Ne.symm n_x0_ai)
  have F70 : Arv Z h61 al kl .int (1 : Int32) [(.int (1 : Int32))] (.int (0 : Int32)) := F55.other W61 (Ne.symm n_x0_al)
  have F71 : Arv Z h61 ao ko .int (8 : Int32) [(.int y0), (.int y1), (.int y2), (.int y3), (.int y4), (.int y5), (.int x1), (.int (0 : Int32))] (.int (0 : Int32)) := F56.other W61 (Ne.symm n_x0_ao)
  have F72 : Arv Z h61 af kf .int (8 : Int32) [(.int (1 : Int32)), (.int (1 : Int32)), (.int (1 : Int32)), (.int (1 : Int32)), (.int (1 : Int32)), (.int (1 : Int32)), (.int (1 : Int32)), (.int (0 : Int32))] (.int (0 : Int32)) := F57.other W61 (Ne.symm n_x0_af)
  have F73 : Fld Z h61 x0 "com/example/portia/portia/index/Postings" "size" "I" (.int (7 : Int32)) := Fw45.other W61 (Or.inr (slot_ne (Or.inl (hw _ (List.mem_of_getElem? (i := 27) rfl))) (Or.inl (hw _ (List.mem_of_getElem? (i := 34) rfl))) (by decide) (t := .int) (t' := .int) (by decide) (by decide)))
  have K61 := K45.wr W61 (Or.inl (List.mem_of_getElem? (i := 0) rfl))
  have Z61 : n0 ≤ h61.size := Nat.le_trans Z45 (Keep.of_wr W61).1
  have Fw61 : Fld Z h61 x0 "com/example/portia/portia/index/Postings" "documentFrequency" "I" (.int (7 : Int32)) := F50.same W61
  have N61 := Fr.snoc X61 N45 g_x0
  have st74 : Steps p.tables e below (T61.setTop (mkF m 86 #[.val (.ref x0), .val (.int x1), .val (.int (1 : Int32)), .val (.int (1 : Int32))] [])) (T61.setTop (mkF m 89 #[.val (.ref x0), .val (.int x1), .val (.int (1 : Int32)), .val (.int (1 : Int32))] [(.int (1 : Int32)), (.int (1 : Int32)), (.ref x0)])) := by
    refine XS.aloadN X61.here hx rfl (hb hby d16_86) rfl rfl ?_
    show Steps p.tables e below (T61.setTop (mkF m 87 #[.val (.ref x0), .val (.int x1), .val (.int (1 : Int32)), .val (.int (1 : Int32))] [(.ref x0)])) _
    refine XS.iloadN X61.here hx rfl (hb hby d16_87) rfl ?_
    show Steps p.tables e below (T61.setTop (mkF m 88 #[.val (.ref x0), .val (.int x1), .val (.int (1 : Int32)), .val (.int (1 : Int32))] [(.int (1 : Int32)), (.ref x0)])) _
    refine XS.iloadN X61.here hx rfl (hb hby d16_88) rfl ?_
    show Steps p.tables e below (T61.setTop (mkF m 89 #[.val (.ref x0), .val (.int x1), .val (.int (1 : Int32)), .val (.int (1 : Int32))] [(.int (1 : Int32)), (.int (1 : Int32)), (.ref x0)])) _
    exact Steps.refl _
  have pre74 := pre61.trans st74
  obtain ⟨cq75, q75, q75'⟩ := F62.cell
  obtain ⟨_, _, mp75, -, -, qp75, -, kp75, hkp75, hki75⟩ := Cond.selects_spec (mvT (args := #[]) hZ (hw _ (List.mem_of_getElem? (i := 24) rfl)))
  obtain ⟨_, _, ⟨T75, L75, k75, n75⟩, -, X75, ⟨Lc75, hQ75, l75, y75, z75⟩, st75⟩ := X61.privateBack hx (y := (⟨"com/example/portia/portia/index/Postings", "addImpact", "(II)V"⟩ : MethodName)) hown (mvT hZ (hw _ (List.mem_of_getElem? (i := 35) rfl))) (mvT hZ (hw _ (List.mem_of_getElem? (i := 36) rfl))) (Jvm.Stand.selects_self_of_private (show s.vm.findClass "com/example/portia/portia/index/Postings" = some mp75.cls from findClass_of_methodNamed qp75) hkp75 hki75 (Cond.privateMethod_at (mvP hZ (hw _ (List.mem_of_getElem? (i := 37) rfl)) (args := #[]))) (mvT hZ (hw _ (List.mem_of_getElem? (i := 36) rfl))) (by decide)) (Cond.privateMethod_at (mvP hZ (hw _ (List.mem_of_getElem? (i := 37) rfl)) (args := #[]))) (mvT hZ (hw _ (List.mem_of_getElem? (i := 38) rfl))) (by decide) (backOf (W := 0) (rm7 l Z a0 hw [] x0 ai ki al kl h61 n0 Z61 F66 F67 F68 F69 F70) hZ (hw _ (List.mem_of_getElem? (i := 38) rfl)) (hw _ (List.mem_of_getElem? (i := 6) rfl)) (by decide) (by decide)) (g := (mkF m 89 #[.val (.ref x0), .val (.int x1), .val (.int (1 : Int32)), .val (.int (1 : Int32))] [(.int (1 : Int32)), (.int (1 : Int32)), (.ref x0)])) rfl (by rw [hml]; rfl) (Steps.refl _) (a := x0) (by rw [e61]; exact q75) q75' (argsL := [(.int (1 : Int32)), (.int (1 : Int32))]) (rest := []) (lenOf pd16_0 rfl) rfl (by show 2 * 0 + _ ≤ _; exact Nat.le_of_eq rfl) (hb hby d16_89) (fun _ _ => ⟨rfl, e61, (by decide : 0 + 0 ≤ _), (by decide : 0 + 0 ≤ _)⟩)
  dsimp only [Pt.U, Pt.locs, Pt.cells, Pt.slots] at X75 l75 y75 z75 st75 hQ75
  subst l75 y75 z75
  obtain ⟨rfl, Nq75, e75⟩ := hQ75
  have N75 := Fr.app N61 Nq75
  have pre75 : Steps p.tables e below (s₁.setTop (entryFrame m #[(.ref x0), (.int x1), (.int (1 : Int32)), (.int (1 : Int32))] 4)) (T75.setTop (mkF m 92 #[.val (.ref x0), .val (.int x1), .val (.int (1 : Int32)), .val (.int (1 : Int32))] [])) := pre74.trans st75
  obtain ⟨fs, hr, hrun, hended, hW, hsame⟩ := X75.leave (v := none) (fun _ => rfl)
  refine ⟨_, _, pre75.trans ?_, hrun, hended, _, _, rfl, ?_, ⟨_, rfl⟩, hW, hsame.mono (by decide) (by decide)⟩
  · show Steps p.tables e below (T75.setTop (mkF m 92 #[.val (.ref x0), .val (.int x1), .val (.int (1 : Int32)), .val (.int (1 : Int32))] [])) _
    exact X75.returnOut hx Bd.returns (hb hby d16_92) hr
  · show Q16 Z x0 x1 ao ko af kf ai ki al kl y0 y1 y2 y3 y4 y5 h0 n0 _ T75.heap _
    rw [e75]
    exact ⟨rfl, N75, K61, F62, F63, F64, F73, Fw61, F66, F67, F68, F71, F72, F69, F70⟩
theorem d8_0 : decode prog_19_method_5_code 0 = .ok (.iload_n 1, 1) := by decide +kernel
theorem d8_1 : decode prog_19_method_5_code 1 = .ok (.aload_n 0, 1) := by decide +kernel
theorem d8_2 : decode prog_19_method_5_code 2 = .ok (.getfield 22, 3) := by decide +kernel
theorem d8_5 : decode prog_19_method_5_code 5 = .ok (.if_icmp .ge 13, 3) := by decide +kernel
theorem d8_8 : decode prog_19_method_5_code 8 = .ok (.aload_n 0, 1) := by decide +kernel
theorem d8_9 : decode prog_19_method_5_code 9 = .ok (.getfield 7, 3) := by decide +kernel
theorem d8_12 : decode prog_19_method_5_code 12 = .ok (.iload_n 1, 1) := by decide +kernel
theorem d8_13 : decode prog_19_method_5_code 13 = .ok (.iaload, 1) := by decide +kernel
theorem d8_14 : decode prog_19_method_5_code 14 = .ok (.iload_n 2, 1) := by decide +kernel
theorem d8_15 : decode prog_19_method_5_code 15 = .ok (.if_icmp .lt 5, 3) := by decide +kernel
theorem d8_18 : decode prog_19_method_5_code 18 = .ok (.iload_n 1, 1) := by decide +kernel
theorem d8_19 : decode prog_19_method_5_code 19 = .ok (.ireturn, 1) := by decide +kernel
theorem d8_20 : decode prog_19_method_5_code 20 = .ok (.iload_n 1, 1) := by decide +kernel
theorem d8_21 : decode prog_19_method_5_code 21 = .ok (.istore_n 3, 1) := by decide +kernel
theorem d8_22 : decode prog_19_method_5_code 22 = .ok (.iconst 1, 1) := by decide +kernel
theorem d8_23 : decode prog_19_method_5_code 23 = .ok (.istore 4, 2) := by decide +kernel
theorem d8_25 : decode prog_19_method_5_code 25 = .ok (.aload_n 0, 1) := by decide +kernel
theorem d8_26 : decode prog_19_method_5_code 26 = .ok (.getfield 22, 3) := by decide +kernel
theorem d8_29 : decode prog_19_method_5_code 29 = .ok (.istore 5, 2) := by decide +kernel
theorem d8_31 : decode prog_19_method_5_code 31 = .ok (.iload 4, 2) := by decide +kernel
theorem d8_33 : decode prog_19_method_5_code 33 = .ok (.aload_n 0, 1) := by decide +kernel
theorem d8_34 : decode prog_19_method_5_code 34 = .ok (.getfield 22, 3) := by decide +kernel
theorem d8_37 : decode prog_19_method_5_code 37 = .ok (.iload_n 3, 1) := by decide +kernel
theorem d8_38 : decode prog_19_method_5_code 38 = .ok (.isub, 1) := by decide +kernel
theorem d8_39 : decode prog_19_method_5_code 39 = .ok (.if_icmp .ge 39, 3) := by decide +kernel
theorem d8_42 : decode prog_19_method_5_code 42 = .ok (.iload_n 3, 1) := by decide +kernel
theorem d8_43 : decode prog_19_method_5_code 43 = .ok (.iload 4, 2) := by decide +kernel
theorem d8_45 : decode prog_19_method_5_code 45 = .ok (.iadd, 1) := by decide +kernel
theorem d8_46 : decode prog_19_method_5_code 46 = .ok (.istore 6, 2) := by decide +kernel
theorem d8_48 : decode prog_19_method_5_code 48 = .ok (.aload_n 0, 1) := by decide +kernel
theorem d8_49 : decode prog_19_method_5_code 49 = .ok (.getfield 7, 3) := by decide +kernel
theorem d8_52 : decode prog_19_method_5_code 52 = .ok (.iload 6, 2) := by decide +kernel
theorem d8_54 : decode prog_19_method_5_code 54 = .ok (.iaload, 1) := by decide +kernel
theorem d8_55 : decode prog_19_method_5_code 55 = .ok (.iload_n 2, 1) := by decide +kernel
theorem d8_56 : decode prog_19_method_5_code 56 = .ok (.if_icmp .lt 10, 3) := by decide +kernel
theorem d8_59 : decode prog_19_method_5_code 59 = .ok (.iload 6, 2) := by decide +kernel
theorem d8_61 : decode prog_19_method_5_code 61 = .ok (.istore 5, 2) := by decide +kernel
theorem d8_63 : decode prog_19_method_5_code 63 = .ok (.goto 15, 3) := by decide +kernel
theorem d8_66 : decode prog_19_method_5_code 66 = .ok (.iload 6, 2) := by decide +kernel
theorem d8_68 : decode prog_19_method_5_code 68 = .ok (.istore_n 3, 1) := by decide +kernel
theorem d8_69 : decode prog_19_method_5_code 69 = .ok (.iload 4, 2) := by decide +kernel
theorem d8_71 : decode prog_19_method_5_code 71 = .ok (.iconst 2, 1) := by decide +kernel
theorem d8_72 : decode prog_19_method_5_code 72 = .ok (.imul, 1) := by decide +kernel
theorem d8_73 : decode prog_19_method_5_code 73 = .ok (.istore 4, 2) := by decide +kernel
theorem d8_75 : decode prog_19_method_5_code 75 = .ok (.goto (-44), 3) := by decide +kernel
theorem d8_78 : decode prog_19_method_5_code 78 = .ok (.iload 5, 2) := by decide +kernel
theorem d8_80 : decode prog_19_method_5_code 80 = .ok (.iload_n 3, 1) := by decide +kernel
theorem d8_81 : decode prog_19_method_5_code 81 = .ok (.isub, 1) := by decide +kernel
theorem d8_82 : decode prog_19_method_5_code 82 = .ok (.iconst 1, 1) := by decide +kernel
theorem d8_83 : decode prog_19_method_5_code 83 = .ok (.if_icmp .le 35, 3) := by decide +kernel
theorem d8_86 : decode prog_19_method_5_code 86 = .ok (.iload_n 3, 1) := by decide +kernel
theorem d8_87 : decode prog_19_method_5_code 87 = .ok (.iload 5, 2) := by decide +kernel
theorem d8_89 : decode prog_19_method_5_code 89 = .ok (.iadd, 1) := by decide +kernel
theorem d8_90 : decode prog_19_method_5_code 90 = .ok (.iconst 1, 1) := by decide +kernel
theorem d8_91 : decode prog_19_method_5_code 91 = .ok (.iushr, 1) := by decide +kernel
theorem d8_92 : decode prog_19_method_5_code 92 = .ok (.istore 6, 2) := by decide +kernel
theorem d8_94 : decode prog_19_method_5_code 94 = .ok (.aload_n 0, 1) := by decide +kernel
theorem d8_95 : decode prog_19_method_5_code 95 = .ok (.getfield 7, 3) := by decide +kernel
theorem d8_98 : decode prog_19_method_5_code 98 = .ok (.iload 6, 2) := by decide +kernel
theorem d8_100 : decode prog_19_method_5_code 100 = .ok (.iaload, 1) := by decide +kernel
theorem d8_101 : decode prog_19_method_5_code 101 = .ok (.iload_n 2, 1) := by decide +kernel
theorem d8_102 : decode prog_19_method_5_code 102 = .ok (.if_icmp .ge 9, 3) := by decide +kernel
theorem d8_105 : decode prog_19_method_5_code 105 = .ok (.iload 6, 2) := by decide +kernel
theorem d8_107 : decode prog_19_method_5_code 107 = .ok (.istore_n 3, 1) := by decide +kernel
theorem d8_108 : decode prog_19_method_5_code 108 = .ok (.goto 7, 3) := by decide +kernel
theorem d8_111 : decode prog_19_method_5_code 111 = .ok (.iload 6, 2) := by decide +kernel
theorem d8_113 : decode prog_19_method_5_code 113 = .ok (.istore 5, 2) := by decide +kernel
theorem d8_115 : decode prog_19_method_5_code 115 = .ok (.goto (-37), 3) := by decide +kernel
theorem d8_118 : decode prog_19_method_5_code 118 = .ok (.iload 5, 2) := by decide +kernel
theorem d8_120 : decode prog_19_method_5_code 120 = .ok (.ireturn, 1) := by decide +kernel
theorem os8_46 {z0 : Value} {z1 : Value} {z2 : Value} {z3 : Value} {z4 : Value} {z5 : Value} {s6 : Slot} {v : Int32} (h : One s6) : storeLocals #[.val z0, .val z1, .val z2, .val z3, .val z4, .val z5, s6] 6 (.int v) = some #[.val z0, .val z1, .val z2, .val z3, .val z4, .val z5, .val (.int v)] := by
  rcases h with rfl | ⟨w, rfl, hw⟩
  · rfl
  · cases w <;> first | rfl | (simp [Value.category] at hw)
set_option maxRecDepth 65536 in
set_option maxHeartbeats 40000000 in
theorem tA {p : Program} {l : Launch} {e : Env} {R : Room} {s : State} {m : MethodId} {args : Array Value} {below : List Frame} {meth : Method} {c : Code} {T0 : State} {locs : List Loc} {cells slots : Nat} {Z : State} {a0 : Array Value} {h0 : Heap} {x0 ao : Addr} {ko : ClassId} {zc sz en tg b st a : Int32} {s6 : Slot} {vs : List Value} {w : Int32}
    (X0 : Stand p l e R s m args below meth c T0 locs cells slots) (hx : p.tables.exec = Jvm.exec) (hZ : Z.Warmed39 s.vm) (hw : ∀ d ∈ tables_1, d.before a0 Z = true) (hby : c.code = prog_19_method_5_code) (hml : c.maxLocals = 7) (hown : s.vm.findClass "com/example/portia/portia/index/Postings" = some m.cls) (e0 : T0.heap = h0) (B0 : Fld Z h0 x0 "com/example/portia/portia/index/Postings" "size" "I" (.int sz)) (B1 : Fld Z h0 x0 "com/example/portia/portia/index/Postings" "ordinals" "[I" (.ref ao)) (B2 : Arv Z h0 ao ko .int zc vs (.int (0 : Int32))) (hs6 : One s6) (hj : ¬ ((b + st) < 0) ∧ (b + st) < zc) (hg : vs.getD ((b + st)).toNatClampNeg (.int (0 : Int32)) = .int w) (h39 : (st < (sz - b))) (h56 : (w < tg)) :
    ∃ (T' : State), Stand p l e R s m args below meth c T' locs cells slots ∧ T'.heap = h0 ∧ Steps p.tables e below (T0.setTop (mkF m 31 #[.val (.ref x0), .val (.int en), .val (.int tg), .val (.int b), .val (.int st), .val (.int a), s6] [])) (T'.setTop (mkF m 31 #[.val (.ref x0), .val (.int en), .val (.int tg), .val (.int (b + st)), .val (.int (st * (2 : Int32))), .val (.int a), .val (.int (b + st))] [])) := by
  have pre0 : Steps p.tables e below (T0.setTop (mkF m 31 #[.val (.ref x0), .val (.int en), .val (.int tg), .val (.int b), .val (.int st), .val (.int a), s6] [])) (T0.setTop (mkF m 31 #[.val (.ref x0), .val (.int en), .val (.int tg), .val (.int b), .val (.int st), .val (.int a), s6] [])) := Steps.refl _
  have st1 : Steps p.tables e below (T0.setTop (mkF m 31 #[.val (.ref x0), .val (.int en), .val (.int tg), .val (.int b), .val (.int st), .val (.int a), s6] [])) (T0.setTop (mkF m 34 #[.val (.ref x0), .val (.int en), .val (.int tg), .val (.int b), .val (.int st), .val (.int a), s6] [(.ref x0), (.int st)])) := by
    refine XS.iload X0.here hx rfl (hb hby d8_31) rfl ?_
    show Steps p.tables e below (T0.setTop (mkF m 33 #[.val (.ref x0), .val (.int en), .val (.int tg), .val (.int b), .val (.int st), .val (.int a), s6] [(.int st)])) _
    refine XS.aloadN X0.here hx rfl (hb hby d8_33) rfl rfl ?_
    show Steps p.tables e below (T0.setTop (mkF m 34 #[.val (.ref x0), .val (.int en), .val (.int tg), .val (.int b), .val (.int st), .val (.int a), s6] [(.ref x0), (.int st)])) _
    exact Steps.refl _
  have pre1 := pre0.trans st1
  obtain ⟨T2, X2, e2, st2⟩ := getF X0 hx hZ hown (host := "") (Or.inl (hw _ (List.mem_of_getElem? (i := 26) rfl))) Via.refl e0 B0 (g := (mkF m 34 #[.val (.ref x0), .val (.int en), .val (.int tg), .val (.int b), .val (.int st), .val (.int a), s6] [(.ref x0), (.int st)])) rfl rfl (hb hby d8_34)
  have pre2 : Steps p.tables e below (T0.setTop (mkF m 31 #[.val (.ref x0), .val (.int en), .val (.int tg), .val (.int b), .val (.int st), .val (.int a), s6] [])) (T2.setTop (mkF m 37 #[.val (.ref x0), .val (.int en), .val (.int tg), .val (.int b), .val (.int st), .val (.int a), s6] [(.int sz), (.int st)])) := pre1.trans (st2 _ (Steps.refl _))
  obtain ⟨v3, hv3⟩ : ∃ z : Int32, z = (sz - b) := ⟨_, rfl⟩
  have st4 : Steps p.tables e below (T2.setTop (mkF m 37 #[.val (.ref x0), .val (.int en), .val (.int tg), .val (.int b), .val (.int st), .val (.int a), s6] [(.int sz), (.int st)])) (T2.setTop (mkF m 39 #[.val (.ref x0), .val (.int en), .val (.int tg), .val (.int b), .val (.int st), .val (.int a), s6] [(.int v3), (.int st)])) := by
    subst v3
    refine XS.iloadN X2.here hx rfl (hb hby d8_37) rfl ?_
    show Steps p.tables e below (T2.setTop (mkF m 38 #[.val (.ref x0), .val (.int en), .val (.int tg), .val (.int b), .val (.int st), .val (.int a), s6] [(.int b), (.int sz), (.int st)])) _
    refine XS.isub X2.here hx rfl (hb hby d8_38) rfl ?_
    show Steps p.tables e below (T2.setTop (mkF m 39 #[.val (.ref x0), .val (.int en), .val (.int tg), .val (.int b), .val (.int st), .val (.int a), s6] [(.int (sz - b)), (.int st)])) _
    exact Steps.refl _
  have pre4 := pre2.trans st4
  have hc39 : st < v3 := by
    rw [hv3]
    exact h39
  have st5 : Steps p.tables e below (T2.setTop (mkF m 39 #[.val (.ref x0), .val (.int en), .val (.int tg), .val (.int b), .val (.int st), .val (.int a), s6] [(.int v3), (.int st)])) (T2.setTop (mkF m 42 #[.val (.ref x0), .val (.int en), .val (.int tg), .val (.int b), .val (.int st), .val (.int a), s6] [])) := by
    refine XS.icmpNo X2.here hx rfl (hb hby d8_39) rfl (tlt hc39).2.1 ?_
    exact Steps.refl _
  have pre5 := pre4.trans st5
  obtain ⟨v6, hv6⟩ : ∃ z : Int32, z = (b + st) := ⟨_, rfl⟩
  have st7 : Steps p.tables e below (T2.setTop (mkF m 42 #[.val (.ref x0), .val (.int en), .val (.int tg), .val (.int b), .val (.int st), .val (.int a), s6] [])) (T2.setTop (mkF m 49 #[.val (.ref x0), .val (.int en), .val (.int tg), .val (.int b), .val (.int st), .val (.int a), .val (.int v6)] [(.ref x0)])) := by
    subst v6
    refine XS.iloadN X2.here hx rfl (hb hby d8_42) rfl ?_
    show Steps p.tables e below (T2.setTop (mkF m 43 #[.val (.ref x0), .val (.int en), .val (.int tg), .val (.int b), .val (.int st), .val (.int a), s6] [(.int b)])) _
    refine XS.iload X2.here hx rfl (hb hby d8_43) rfl ?_
    show Steps p.tables e below (T2.setTop (mkF m 45 #[.val (.ref x0), .val (.int en), .val (.int tg), .val (.int b), .val (.int st), .val (.int a), s6] [(.int st), (.int b)])) _
    refine XS.iadd X2.here hx rfl (hb hby d8_45) rfl ?_
    show Steps p.tables e below (T2.setTop (mkF m 46 #[.val (.ref x0), .val (.int en), .val (.int tg), .val (.int b), .val (.int st), .val (.int a), s6] [(.int (b + st))])) _
    refine XS.istore X2.here hx rfl (hb hby d8_46) rfl (l' := #[.val (.ref x0), .val (.int en), .val (.int tg), .val (.int b), .val (.int st), .val (.int a), .val (.int (b + st))]) (os8_46 hs6) ?_
    show Steps p.tables e below (T2.setTop (mkF m 48 #[.val (.ref x0), .val (.int en), .val (.int tg), .val (.int b), .val (.int st), .val (.int a), .val (.int (b + st))] [])) _
    refine XS.aloadN X2.here hx rfl (hb hby d8_48) rfl rfl ?_
    show Steps p.tables e below (T2.setTop (mkF m 49 #[.val (.ref x0), .val (.int en), .val (.int tg), .val (.int b), .val (.int st), .val (.int a), .val (.int (b + st))] [(.ref x0)])) _
    exact Steps.refl _
  have pre7 := pre5.trans st7
  obtain ⟨T8, X8, e8, st8⟩ := getF X2 hx hZ hown (host := "") (Or.inl (hw _ (List.mem_of_getElem? (i := 13) rfl))) Via.refl e2 B1 (g := (mkF m 49 #[.val (.ref x0), .val (.int en), .val (.int tg), .val (.int b), .val (.int st), .val (.int a), .val (.int v6)] [(.ref x0)])) rfl rfl (hb hby d8_49)
  have pre8 : Steps p.tables e below (T0.setTop (mkF m 31 #[.val (.ref x0), .val (.int en), .val (.int tg), .val (.int b), .val (.int st), .val (.int a), s6] [])) (T8.setTop (mkF m 52 #[.val (.ref x0), .val (.int en), .val (.int tg), .val (.int b), .val (.int st), .val (.int a), .val (.int v6)] [(.ref ao)])) := pre7.trans (st8 _ (Steps.refl _))
  have st9 : Steps p.tables e below (T8.setTop (mkF m 52 #[.val (.ref x0), .val (.int en), .val (.int tg), .val (.int b), .val (.int st), .val (.int a), .val (.int v6)] [(.ref ao)])) (T8.setTop (mkF m 54 #[.val (.ref x0), .val (.int en), .val (.int tg), .val (.int b), .val (.int st), .val (.int a), .val (.int v6)] [(.int v6), (.ref ao)])) := by
    refine XS.iload X8.here hx rfl (hb hby d8_52) rfl ?_
    show Steps p.tables e below (T8.setTop (mkF m 54 #[.val (.ref x0), .val (.int en), .val (.int tg), .val (.int b), .val (.int st), .val (.int a), .val (.int v6)] [(.int v6), (.ref ao)])) _
    exact Steps.refl _
  have pre9 := pre8.trans st9
  obtain ⟨cl10, Ar10, q10, S10, G10, H10, J10⟩ := id B2
  have in10 : ¬ (v6 < 0 ∨ cl10.slots.size ≤ (v6).toNatClampNeg) := inb_of S10 (by rw [hv6]; exact hj)
  have at10 : cl10.slots[(v6).toNatClampNeg]? = some (.int w) := Has.at H10 in10 (by rw [hv6]; exact hg)
  have st10 : Steps p.tables e below (T8.setTop (mkF m 54 #[.val (.ref x0), .val (.int en), .val (.int tg), .val (.int b), .val (.int st), .val (.int a), .val (.int v6)] [(.int v6), (.ref ao)])) (T8.setTop (mkF m 55 #[.val (.ref x0), .val (.int en), .val (.int tg), .val (.int b), .val (.int st), .val (.int a), .val (.int v6)] [(.int w)])) := X8.iaload hx (j := v6) (v := (.int w)) (by rw [e8]; exact Ar10.1) (State.isArrayOf_alike hZ.alike Ar10.2.1) Ar10.2.2 in10 at10 (g := (mkF m 54 #[.val (.ref x0), .val (.int en), .val (.int tg), .val (.int b), .val (.int st), .val (.int a), .val (.int v6)] [(.int v6), (.ref ao)])) rfl rfl (hb hby d8_54) _ (Steps.refl _)
  have pre10 := pre9.trans st10
  have st11 : Steps p.tables e below (T8.setTop (mkF m 55 #[.val (.ref x0), .val (.int en), .val (.int tg), .val (.int b), .val (.int st), .val (.int a), .val (.int v6)] [(.int w)])) (T8.setTop (mkF m 56 #[.val (.ref x0), .val (.int en), .val (.int tg), .val (.int b), .val (.int st), .val (.int a), .val (.int v6)] [(.int tg), (.int w)])) := by
    refine XS.iloadN X8.here hx rfl (hb hby d8_55) rfl ?_
    show Steps p.tables e below (T8.setTop (mkF m 56 #[.val (.ref x0), .val (.int en), .val (.int tg), .val (.int b), .val (.int st), .val (.int a), .val (.int v6)] [(.int tg), (.int w)])) _
    exact Steps.refl _
  have pre11 := pre10.trans st11
  have hc56 : w < tg := by
    exact h56
  have st12 : Steps p.tables e below (T8.setTop (mkF m 56 #[.val (.ref x0), .val (.int en), .val (.int tg), .val (.int b), .val (.int st), .val (.int a), .val (.int v6)] [(.int tg), (.int w)])) (T8.setTop (mkF m 66 #[.val (.ref x0), .val (.int en), .val (.int tg), .val (.int b), .val (.int st), .val (.int a), .val (.int v6)] [])) := by
    refine XS.icmpYes X8.here hx rfl (pc0 := 56) (pc' := 66) rfl (hb hby d8_56) rfl (tlt hc56).1 (by decide) (by decide) ?_
    exact Steps.refl _
  have pre12 := pre11.trans st12
  obtain ⟨v13, hv13⟩ : ∃ z : Int32, z = (st * (2 : Int32)) := ⟨_, rfl⟩
  have st14 : Steps p.tables e below (T8.setTop (mkF m 66 #[.val (.ref x0), .val (.int en), .val (.int tg), .val (.int b), .val (.int st), .val (.int a), .val (.int v6)] [])) (T8.setTop (mkF m 31 #[.val (.ref x0), .val (.int en), .val (.int tg), .val (.int v6), .val (.int v13), .val (.int a), .val (.int v6)] [])) := by
    subst v13
    refine XS.iload X8.here hx rfl (hb hby d8_66) rfl ?_
    show Steps p.tables e below (T8.setTop (mkF m 68 #[.val (.ref x0), .val (.int en), .val (.int tg), .val (.int b), .val (.int st), .val (.int a), .val (.int v6)] [(.int v6)])) _
    refine XS.istoreN X8.here hx rfl (hb hby d8_68) rfl (l' := #[.val (.ref x0), .val (.int en), .val (.int tg), .val (.int v6), .val (.int st), .val (.int a), .val (.int v6)]) rfl ?_
    show Steps p.tables e below (T8.setTop (mkF m 69 #[.val (.ref x0), .val (.int en), .val (.int tg), .val (.int v6), .val (.int st), .val (.int a), .val (.int v6)] [])) _
    refine XS.iload X8.here hx rfl (hb hby d8_69) rfl ?_
    show Steps p.tables e below (T8.setTop (mkF m 71 #[.val (.ref x0), .val (.int en), .val (.int tg), .val (.int v6), .val (.int st), .val (.int a), .val (.int v6)] [(.int st)])) _
    refine XS.iconst X8.here hx rfl (hb hby d8_71) ?_
    show Steps p.tables e below (T8.setTop (mkF m 72 #[.val (.ref x0), .val (.int en), .val (.int tg), .val (.int v6), .val (.int st), .val (.int a), .val (.int v6)] [(.int (2 : Int32)), (.int st)])) _
    refine XS.imul X8.here hx rfl (hb hby d8_72) rfl ?_
    show Steps p.tables e below (T8.setTop (mkF m 73 #[.val (.ref x0), .val (.int en), .val (.int tg), .val (.int v6), .val (.int st), .val (.int a), .val (.int v6)] [(.int (st * (2 : Int32)))])) _
    refine XS.istore X8.here hx rfl (hb hby d8_73) rfl (l' := #[.val (.ref x0), .val (.int en), .val (.int tg), .val (.int v6), .val (.int (st * (2 : Int32))), .val (.int a), .val (.int v6)]) rfl ?_
    show Steps p.tables e below (T8.setTop (mkF m 75 #[.val (.ref x0), .val (.int en), .val (.int tg), .val (.int v6), .val (.int (st * (2 : Int32))), .val (.int a), .val (.int v6)] [])) _
    refine XS.goto X8.here hx rfl (pc0 := 75) (pc' := 31) rfl (hb hby d8_75) (by decide) (by decide) ?_
    show Steps p.tables e below (T8.setTop (mkF m 31 #[.val (.ref x0), .val (.int en), .val (.int tg), .val (.int v6), .val (.int (st * (2 : Int32))), .val (.int a), .val (.int v6)] [])) _
    exact Steps.refl _
  have pre14 := pre12.trans st14
  subst v13 v6 v3
  exact ⟨T8, X8, e8, pre14⟩
set_option maxRecDepth 65536 in
set_option maxHeartbeats 40000000 in
theorem tB {p : Program} {l : Launch} {e : Env} {R : Room} {s : State} {m : MethodId} {args : Array Value} {below : List Frame} {meth : Method} {c : Code} {T0 : State} {locs : List Loc} {cells slots : Nat} {Z : State} {a0 : Array Value} {h0 : Heap} {x0 ao : Addr} {ko : ClassId} {zc sz en tg b st a : Int32} {s6 : Slot} {vs : List Value}
    (X0 : Stand p l e R s m args below meth c T0 locs cells slots) (hx : p.tables.exec = Jvm.exec) (hZ : Z.Warmed39 s.vm) (hw : ∀ d ∈ tables_1, d.before a0 Z = true) (hby : c.code = prog_19_method_5_code) (hml : c.maxLocals = 7) (hown : s.vm.findClass "com/example/portia/portia/index/Postings" = some m.cls) (e0 : T0.heap = h0) (B0 : Fld Z h0 x0 "com/example/portia/portia/index/Postings" "size" "I" (.int sz)) (B1 : Fld Z h0 x0 "com/example/portia/portia/index/Postings" "ordinals" "[I" (.ref ao)) (B2 : Arv Z h0 ao ko .int zc vs (.int (0 : Int32))) (h39 : ¬ (st < (sz - b))) :
    ∃ (T' : State), Stand p l e R s m args below meth c T' locs cells slots ∧ T'.heap = h0 ∧ Steps p.tables e below (T0.setTop (mkF m 31 #[.val (.ref x0), .val (.int en), .val (.int tg), .val (.int b), .val (.int st), .val (.int a), s6] [])) (T'.setTop (mkF m 78 #[.val (.ref x0), .val (.int en), .val (.int tg), .val (.int b), .val (.int st), .val (.int a), s6] [])) := by
  have pre0 : Steps p.tables e below (T0.setTop (mkF m 31 #[.val (.ref x0), .val (.int en), .val (.int tg), .val (.int b), .val (.int st), .val (.int a), s6] [])) (T0.setTop (mkF m 31 #[.val (.ref x0), .val (.int en), .val (.int tg), .val (.int b), .val (.int st), .val (.int a), s6] [])) := Steps.refl _
  have st1 : Steps p.tables e below (T0.setTop (mkF m 31 #[.val (.ref x0), .val (.int en), .val (.int tg), .val (.int b), .val (.int st), .val (.int a), s6] [])) (T0.setTop (mkF m 34 #[.val (.ref x0), .val (.int en), .val (.int tg), .val (.int b), .val (.int st), .val (.int a), s6] [(.ref x0), (.int st)])) := by
    refine XS.iload X0.here hx rfl (hb hby d8_31) rfl ?_
    show Steps p.tables e below (T0.setTop (mkF m 33 #[.val (.ref x0), .val (.int en), .val (.int tg), .val (.int b), .val (.int st), .val (.int a), s6] [(.int st)])) _
    refine XS.aloadN X0.here hx rfl (hb hby d8_33) rfl rfl ?_
    show Steps p.tables e below (T0.setTop (mkF m 34 #[.val (.ref x0), .val (.int en), .val (.int tg), .val (.int b), .val (.int st), .val (.int a), s6] [(.ref x0), (.int st)])) _
    exact Steps.refl _
  have pre1 := pre0.trans st1
  obtain ⟨T2, X2, e2, st2⟩ := getF X0 hx hZ hown (host := "") (Or.inl (hw _ (List.mem_of_getElem? (i := 26) rfl))) Via.refl e0 B0 (g := (mkF m 34 #[.val (.ref x0), .val (.int en), .val (.int tg), .val (.int b), .val (.int st), .val (.int a), s6] [(.ref x0), (.int st)])) rfl rfl (hb hby d8_34)
  have pre2 : Steps p.tables e below (T0.setTop (mkF m 31 #[.val (.ref x0), .val (.int en), .val (.int tg), .val (.int b), .val (.int st), .val (.int a), s6] [])) (T2.setTop (mkF m 37 #[.val (.ref x0), .val (.int en), .val (.int tg), .val (.int b), .val (.int st), .val (.int a), s6] [(.int sz), (.int st)])) := pre1.trans (st2 _ (Steps.refl _))
  obtain ⟨v3, hv3⟩ : ∃ z : Int32, z = (sz - b) := ⟨_, rfl⟩
  have st4 : Steps p.tables e below (T2.setTop (mkF m 37 #[.val (.ref x0), .val (.int en), .val (.int tg), .val (.int b), .val (.int st), .val (.int a), s6] [(.int sz), (.int st)])) (T2.setTop (mkF m 39 #[.val (.ref x0), .val (.int en), .val (.int tg), .val (.int b), .val (.int st), .val (.int a), s6] [(.int v3), (.int st)])) := by
    subst v3
    refine XS.iloadN X2.here hx rfl (hb hby d8_37) rfl ?_
    show Steps p.tables e below (T2.setTop (mkF m 38 #[.val (.ref x0), .val (.int en), .val (.int tg), .val (.int b), .val (.int st), .val (.int a), s6] [(.int b), (.int sz), (.int st)])) _
    refine XS.isub X2.here hx rfl (hb hby d8_38) rfl ?_
    show Steps p.tables e below (T2.setTop (mkF m 39 #[.val (.ref x0), .val (.int en), .val (.int tg), .val (.int b), .val (.int st), .val (.int a), s6] [(.int (sz - b)), (.int st)])) _
    exact Steps.refl _
  have pre4 := pre2.trans st4
  have hc39 : ¬ (st < v3) := by
    rw [hv3]
    exact h39
  have st5 : Steps p.tables e below (T2.setTop (mkF m 39 #[.val (.ref x0), .val (.int en), .val (.int tg), .val (.int b), .val (.int st), .val (.int a), s6] [(.int v3), (.int st)])) (T2.setTop (mkF m 78 #[.val (.ref x0), .val (.int en), .val (.int tg), .val (.int b), .val (.int st), .val (.int a), s6] [])) := by
    refine XS.icmpYes X2.here hx rfl (pc0 := 39) (pc' := 78) rfl (hb hby d8_39) rfl (flt hc39).2.1 (by decide) (by decide) ?_
    exact Steps.refl _
  have pre5 := pre4.trans st5
  subst v3
  exact ⟨T2, X2, e2, pre5⟩
set_option maxRecDepth 65536 in
set_option maxHeartbeats 40000000 in
theorem tC {p : Program} {l : Launch} {e : Env} {R : Room} {s : State} {m : MethodId} {args : Array Value} {below : List Frame} {meth : Method} {c : Code} {T0 : State} {locs : List Loc} {cells slots : Nat} {Z : State} {a0 : Array Value} {h0 : Heap} {x0 ao : Addr} {ko : ClassId} {zc sz en tg b st a : Int32} {s6 : Slot} {vs : List Value} {w : Int32}
    (X0 : Stand p l e R s m args below meth c T0 locs cells slots) (hx : p.tables.exec = Jvm.exec) (hZ : Z.Warmed39 s.vm) (hw : ∀ d ∈ tables_1, d.before a0 Z = true) (hby : c.code = prog_19_method_5_code) (hml : c.maxLocals = 7) (hown : s.vm.findClass "com/example/portia/portia/index/Postings" = some m.cls) (e0 : T0.heap = h0) (B0 : Fld Z h0 x0 "com/example/portia/portia/index/Postings" "size" "I" (.int sz)) (B1 : Fld Z h0 x0 "com/example/portia/portia/index/Postings" "ordinals" "[I" (.ref ao)) (B2 : Arv Z h0 ao ko .int zc vs (.int (0 : Int32))) (hs6 : One s6) (hj : ¬ ((b + st) < 0) ∧ (b + st) < zc) (hg : vs.getD ((b + st)).toNatClampNeg (.int (0 : Int32)) = .int w) (h39 : (st < (sz - b))) (h56 : ¬ (w < tg)) :
    ∃ (T' : State), Stand p l e R s m args below meth c T' locs cells slots ∧ T'.heap = h0 ∧ Steps p.tables e below (T0.setTop (mkF m 31 #[.val (.ref x0), .val (.int en), .val (.int tg), .val (.int b), .val (.int st), .val (.int a), s6] [])) (T'.setTop (mkF m 78 #[.val (.ref x0), .val (.int en), .val (.int tg), .val (.int b), .val (.int st), .val (.int (b + st)), .val (.int (b + st))] [])) := by
  have pre0 : Steps p.tables e below (T0.setTop (mkF m 31 #[.val (.ref x0), .val (.int en), .val (.int tg), .val (.int b), .val (.int st), .val (.int a), s6] [])) (T0.setTop (mkF m 31 #[.val (.ref x0), .val (.int en), .val (.int tg), .val (.int b), .val (.int st), .val (.int a), s6] [])) := Steps.refl _
  have st1 : Steps p.tables e below (T0.setTop (mkF m 31 #[.val (.ref x0), .val (.int en), .val (.int tg), .val (.int b), .val (.int st), .val (.int a), s6] [])) (T0.setTop (mkF m 34 #[.val (.ref x0), .val (.int en), .val (.int tg), .val (.int b), .val (.int st), .val (.int a), s6] [(.ref x0), (.int st)])) := by
    refine XS.iload X0.here hx rfl (hb hby d8_31) rfl ?_
    show Steps p.tables e below (T0.setTop (mkF m 33 #[.val (.ref x0), .val (.int en), .val (.int tg), .val (.int b), .val (.int st), .val (.int a), s6] [(.int st)])) _
    refine XS.aloadN X0.here hx rfl (hb hby d8_33) rfl rfl ?_
    show Steps p.tables e below (T0.setTop (mkF m 34 #[.val (.ref x0), .val (.int en), .val (.int tg), .val (.int b), .val (.int st), .val (.int a), s6] [(.ref x0), (.int st)])) _
    exact Steps.refl _
  have pre1 := pre0.trans st1
  obtain ⟨T2, X2, e2, st2⟩ := getF X0 hx hZ hown (host := "") (Or.inl (hw _ (List.mem_of_getElem? (i := 26) rfl))) Via.refl e0 B0 (g := (mkF m 34 #[.val (.ref x0), .val (.int en), .val (.int tg), .val (.int b), .val (.int st), .val (.int a), s6] [(.ref x0), (.int st)])) rfl rfl (hb hby d8_34)
  have pre2 : Steps p.tables e below (T0.setTop (mkF m 31 #[.val (.ref x0), .val (.int en), .val (.int tg), .val (.int b), .val (.int st), .val (.int a), s6] [])) (T2.setTop (mkF m 37 #[.val (.ref x0), .val (.int en), .val (.int tg), .val (.int b), .val (.int st), .val (.int a), s6] [(.int sz), (.int st)])) := pre1.trans (st2 _ (Steps.refl _))
  obtain ⟨v3, hv3⟩ : ∃ z : Int32, z = (sz - b) := ⟨_, rfl⟩
  have st4 : Steps p.tables e below (T2.setTop (mkF m 37 #[.val (.ref x0), .val (.int en), .val (.int tg), .val (.int b), .val (.int st), .val (.int a), s6] [(.int sz), (.int st)])) (T2.setTop (mkF m 39 #[.val (.ref x0), .val (.int en), .val (.int tg), .val (.int b), .val (.int st), .val (.int a), s6] [(.int v3), (.int st)])) := by
    subst v3
    refine XS.iloadN X2.here hx rfl (hb hby d8_37) rfl ?_
    show Steps p.tables e below (T2.setTop (mkF m 38 #[.val (.ref x0), .val (.int en), .val (.int tg), .val (.int b), .val (.int st), .val (.int a), s6] [(.int b), (.int sz), (.int st)])) _
    refine XS.isub X2.here hx rfl (hb hby d8_38) rfl ?_
    show Steps p.tables e below (T2.setTop (mkF m 39 #[.val (.ref x0), .val (.int en), .val (.int tg), .val (.int b), .val (.int st), .val (.int a), s6] [(.int (sz - b)), (.int st)])) _
    exact Steps.refl _
  have pre4 := pre2.trans st4
  have hc39 : st < v3 := by
    rw [hv3]
    exact h39
  have st5 : Steps p.tables e below (T2.setTop (mkF m 39 #[.val (.ref x0), .val (.int en), .val (.int tg), .val (.int b), .val (.int st), .val (.int a), s6] [(.int v3), (.int st)])) (T2.setTop (mkF m 42 #[.val (.ref x0), .val (.int en), .val (.int tg), .val (.int b), .val (.int st), .val (.int a), s6] [])) := by
    refine XS.icmpNo X2.here hx rfl (hb hby d8_39) rfl (tlt hc39).2.1 ?_
    exact Steps.refl _
  have pre5 := pre4.trans st5
  obtain ⟨v6, hv6⟩ : ∃ z : Int32, z = (b + st) := ⟨_, rfl⟩
  have st7 : Steps p.tables e below (T2.setTop (mkF m 42 #[.val (.ref x0), .val (.int en), .val (.int tg), .val (.int b), .val (.int st), .val (.int a), s6] [])) (T2.setTop (mkF m 49 #[.val (.ref x0), .val (.int en), .val (.int tg), .val (.int b), .val (.int st), .val (.int a), .val (.int v6)] [(.ref x0)])) := by
    subst v6
    refine XS.iloadN X2.here hx rfl (hb hby d8_42) rfl ?_
    show Steps p.tables e below (T2.setTop (mkF m 43 #[.val (.ref x0), .val (.int en), .val (.int tg), .val (.int b), .val (.int st), .val (.int a), s6] [(.int b)])) _
    refine XS.iload X2.here hx rfl (hb hby d8_43) rfl ?_
    show Steps p.tables e below (T2.setTop (mkF m 45 #[.val (.ref x0), .val (.int en), .val (.int tg), .val (.int b), .val (.int st), .val (.int a), s6] [(.int st), (.int b)])) _
    refine XS.iadd X2.here hx rfl (hb hby d8_45) rfl ?_
    show Steps p.tables e below (T2.setTop (mkF m 46 #[.val (.ref x0), .val (.int en), .val (.int tg), .val (.int b), .val (.int st), .val (.int a), s6] [(.int (b + st))])) _
    refine XS.istore X2.here hx rfl (hb hby d8_46) rfl (l' := #[.val (.ref x0), .val (.int en), .val (.int tg), .val (.int b), .val (.int st), .val (.int a), .val (.int (b + st))]) (os8_46 hs6) ?_
    show Steps p.tables e below (T2.setTop (mkF m 48 #[.val (.ref x0), .val (.int en), .val (.int tg), .val (.int b), .val (.int st), .val (.int a), .val (.int (b + st))] [])) _
    refine XS.aloadN X2.here hx rfl (hb hby d8_48) rfl rfl ?_
    show Steps p.tables e below (T2.setTop (mkF m 49 #[.val (.ref x0), .val (.int en), .val (.int tg), .val (.int b), .val (.int st), .val (.int a), .val (.int (b + st))] [(.ref x0)])) _
    exact Steps.refl _
  have pre7 := pre5.trans st7
  obtain ⟨T8, X8, e8, st8⟩ := getF X2 hx hZ hown (host := "") (Or.inl (hw _ (List.mem_of_getElem? (i := 13) rfl))) Via.refl e2 B1 (g := (mkF m 49 #[.val (.ref x0), .val (.int en), .val (.int tg), .val (.int b), .val (.int st), .val (.int a), .val (.int v6)] [(.ref x0)])) rfl rfl (hb hby d8_49)
  have pre8 : Steps p.tables e below (T0.setTop (mkF m 31 #[.val (.ref x0), .val (.int en), .val (.int tg), .val (.int b), .val (.int st), .val (.int a), s6] [])) (T8.setTop (mkF m 52 #[.val (.ref x0), .val (.int en), .val (.int tg), .val (.int b), .val (.int st), .val (.int a), .val (.int v6)] [(.ref ao)])) := pre7.trans (st8 _ (Steps.refl _))
  have st9 : Steps p.tables e below (T8.setTop (mkF m 52 #[.val (.ref x0), .val (.int en), .val (.int tg), .val (.int b), .val (.int st), .val (.int a), .val (.int v6)] [(.ref ao)])) (T8.setTop (mkF m 54 #[.val (.ref x0), .val (.int en), .val (.int tg), .val (.int b), .val (.int st), .val (.int a), .val (.int v6)] [(.int v6), (.ref ao)])) := by
    refine XS.iload X8.here hx rfl (hb hby d8_52) rfl ?_
    show Steps p.tables e below (T8.setTop (mkF m 54 #[.val (.ref x0), .val (.int en), .val (.int tg), .val (.int b), .val (.int st), .val (.int a), .val (.int v6)] [(.int v6), (.ref ao)])) _
    exact Steps.refl _
  have pre9 := pre8.trans st9
  obtain ⟨cl10, Ar10, q10, S10, G10, H10, J10⟩ := id B2
  have in10 : ¬ (v6 < 0 ∨ cl10.slots.size ≤ (v6).toNatClampNeg) := inb_of S10 (by rw [hv6]; exact hj)
  have at10 : cl10.slots[(v6).toNatClampNeg]? = some (.int w) := Has.at H10 in10 (by rw [hv6]; exact hg)
  have st10 : Steps p.tables e below (T8.setTop (mkF m 54 #[.val (.ref x0), .val (.int en), .val (.int tg), .val (.int b), .val (.int st), .val (.int a), .val (.int v6)] [(.int v6), (.ref ao)])) (T8.setTop (mkF m 55 #[.val (.ref x0), .val (.int en), .val (.int tg), .val (.int b), .val (.int st), .val (.int a), .val (.int v6)] [(.int w)])) := X8.iaload hx (j := v6) (v := (.int w)) (by rw [e8]; exact Ar10.1) (State.isArrayOf_alike hZ.alike Ar10.2.1) Ar10.2.2 in10 at10 (g := (mkF m 54 #[.val (.ref x0), .val (.int en), .val (.int tg), .val (.int b), .val (.int st), .val (.int a), .val (.int v6)] [(.int v6), (.ref ao)])) rfl rfl (hb hby d8_54) _ (Steps.refl _)
  have pre10 := pre9.trans st10
  have st11 : Steps p.tables e below (T8.setTop (mkF m 55 #[.val (.ref x0), .val (.int en), .val (.int tg), .val (.int b), .val (.int st), .val (.int a), .val (.int v6)] [(.int w)])) (T8.setTop (mkF m 56 #[.val (.ref x0), .val (.int en), .val (.int tg), .val (.int b), .val (.int st), .val (.int a), .val (.int v6)] [(.int tg), (.int w)])) := by
    refine XS.iloadN X8.here hx rfl (hb hby d8_55) rfl ?_
    show Steps p.tables e below (T8.setTop (mkF m 56 #[.val (.ref x0), .val (.int en), .val (.int tg), .val (.int b), .val (.int st), .val (.int a), .val (.int v6)] [(.int tg), (.int w)])) _
    exact Steps.refl _
  have pre11 := pre10.trans st11
  have hc56 : ¬ (w < tg) := by
    exact h56
  have st12 : Steps p.tables e below (T8.setTop (mkF m 56 #[.val (.ref x0), .val (.int en), .val (.int tg), .val (.int b), .val (.int st), .val (.int a), .val (.int v6)] [(.int tg), (.int w)])) (T8.setTop (mkF m 59 #[.val (.ref x0), .val (.int en), .val (.int tg), .val (.int b), .val (.int st), .val (.int a), .val (.int v6)] [])) := by
    refine XS.icmpNo X8.here hx rfl (hb hby d8_56) rfl (flt hc56).1 ?_
    exact Steps.refl _
  have pre12 := pre11.trans st12
  have st13 : Steps p.tables e below (T8.setTop (mkF m 59 #[.val (.ref x0), .val (.int en), .val (.int tg), .val (.int b), .val (.int st), .val (.int a), .val (.int v6)] [])) (T8.setTop (mkF m 78 #[.val (.ref x0), .val (.int en), .val (.int tg), .val (.int b), .val (.int st), .val (.int v6), .val (.int v6)] [])) := by
    refine XS.iload X8.here hx rfl (hb hby d8_59) rfl ?_
    show Steps p.tables e below (T8.setTop (mkF m 61 #[.val (.ref x0), .val (.int en), .val (.int tg), .val (.int b), .val (.int st), .val (.int a), .val (.int v6)] [(.int v6)])) _
    refine XS.istore X8.here hx rfl (hb hby d8_61) rfl (l' := #[.val (.ref x0), .val (.int en), .val (.int tg), .val (.int b), .val (.int st), .val (.int v6), .val (.int v6)]) rfl ?_
    show Steps p.tables e below (T8.setTop (mkF m 63 #[.val (.ref x0), .val (.int en), .val (.int tg), .val (.int b), .val (.int st), .val (.int v6), .val (.int v6)] [])) _
    refine XS.goto X8.here hx rfl (pc0 := 63) (pc' := 78) rfl (hb hby d8_63) (by decide) (by decide) ?_
    show Steps p.tables e below (T8.setTop (mkF m 78 #[.val (.ref x0), .val (.int en), .val (.int tg), .val (.int b), .val (.int st), .val (.int v6), .val (.int v6)] [])) _
    exact Steps.refl _
  have pre13 := pre12.trans st13
  subst v6 v3
  exact ⟨T8, X8, e8, pre13⟩
theorem os8_92 {z0 : Value} {z1 : Value} {z2 : Value} {z3 : Value} {z4 : Value} {z5 : Value} {s6 : Slot} {v : Int32} (h : One s6) : storeLocals #[.val z0, .val z1, .val z2, .val z3, .val z4, .val z5, s6] 6 (.int v) = some #[.val z0, .val z1, .val z2, .val z3, .val z4, .val z5, .val (.int v)] := by
  rcases h with rfl | ⟨w, rfl, hw⟩
  · rfl
  · cases w <;> first | rfl | (simp [Value.category] at hw)
set_option maxRecDepth 65536 in
set_option maxHeartbeats 40000000 in
theorem tD {p : Program} {l : Launch} {e : Env} {R : Room} {s : State} {m : MethodId} {args : Array Value} {below : List Frame} {meth : Method} {c : Code} {T0 : State} {locs : List Loc} {cells slots : Nat} {Z : State} {a0 : Array Value} {h0 : Heap} {x0 ao : Addr} {ko : ClassId} {zc sz en tg b st a : Int32} {s6 : Slot} {vs : List Value} {w : Int32}
    (X0 : Stand p l e R s m args below meth c T0 locs cells slots) (hx : p.tables.exec = Jvm.exec) (hZ : Z.Warmed39 s.vm) (hw : ∀ d ∈ tables_1, d.before a0 Z = true) (hby : c.code = prog_19_method_5_code) (hml : c.maxLocals = 7) (hown : s.vm.findClass "com/example/portia/portia/index/Postings" = some m.cls) (e0 : T0.heap = h0) (B0 : Fld Z h0 x0 "com/example/portia/portia/index/Postings" "size" "I" (.int sz)) (B1 : Fld Z h0 x0 "com/example/portia/portia/index/Postings" "ordinals" "[I" (.ref ao)) (B2 : Arv Z h0 ao ko .int zc vs (.int (0 : Int32))) (hs6 : One s6) (hj : ¬ ((((b + a).toUInt32 >>> ((1 : Int32) &&& 31).toUInt32).toInt32) < 0) ∧ (((b + a).toUInt32 >>> ((1 : Int32) &&& 31).toUInt32).toInt32) < zc) (hg : vs.getD ((((b + a).toUInt32 >>> ((1 : Int32) &&& 31).toUInt32).toInt32)).toNatClampNeg (.int (0 : Int32)) = .int w) (h83 : ((1 : Int32) < (a - b))) (h56 : (w < tg)) :
    ∃ (T' : State), Stand p l e R s m args below meth c T' locs cells slots ∧ T'.heap = h0 ∧ Steps p.tables e below (T0.setTop (mkF m 78 #[.val (.ref x0), .val (.int en), .val (.int tg), .val (.int b), .val (.int st), .val (.int a), s6] [])) (T'.setTop (mkF m 78 #[.val (.ref x0), .val (.int en), .val (.int tg), .val (.int (((b + a).toUInt32 >>> ((1 : Int32) &&& 31).toUInt32).toInt32)), .val (.int st), .val (.int a), .val (.int (((b + a).toUInt32 >>> ((1 : Int32) &&& 31).toUInt32).toInt32))] [])) := by
  have pre0 : Steps p.tables e below (T0.setTop (mkF m 78 #[.val (.ref x0), .val (.int en), .val (.int tg), .val (.int b), .val (.int st), .val (.int a), s6] [])) (T0.setTop (mkF m 78 #[.val (.ref x0), .val (.int en), .val (.int tg), .val (.int b), .val (.int st), .val (.int a), s6] [])) := Steps.refl _
  obtain ⟨v1, hv1⟩ : ∃ z : Int32, z = (a - b) := ⟨_, rfl⟩
  have st2 : Steps p.tables e below (T0.setTop (mkF m 78 #[.val (.ref x0), .val (.int en), .val (.int tg), .val (.int b), .val (.int st), .val (.int a), s6] [])) (T0.setTop (mkF m 83 #[.val (.ref x0), .val (.int en), .val (.int tg), .val (.int b), .val (.int st), .val (.int a), s6] [(.int (1 : Int32)), (.int v1)])) := by
    subst v1
    refine XS.iload X0.here hx rfl (hb hby d8_78) rfl ?_
    show Steps p.tables e below (T0.setTop (mkF m 80 #[.val (.ref x0), .val (.int en), .val (.int tg), .val (.int b), .val (.int st), .val (.int a), s6] [(.int a)])) _
    refine XS.iloadN X0.here hx rfl (hb hby d8_80) rfl ?_
    show Steps p.tables e below (T0.setTop (mkF m 81 #[.val (.ref x0), .val (.int en), .val (.int tg), .val (.int b), .val (.int st), .val (.int a), s6] [(.int b), (.int a)])) _
    refine XS.isub X0.here hx rfl (hb hby d8_81) rfl ?_
    show Steps p.tables e below (T0.setTop (mkF m 82 #[.val (.ref x0), .val (.int en), .val (.int tg), .val (.int b), .val (.int st), .val (.int a), s6] [(.int (a - b))])) _
    refine XS.iconst X0.here hx rfl (hb hby d8_82) ?_
    show Steps p.tables e below (T0.setTop (mkF m 83 #[.val (.ref x0), .val (.int en), .val (.int tg), .val (.int b), .val (.int st), .val (.int a), s6] [(.int (1 : Int32)), (.int (a - b))])) _
    exact Steps.refl _
  have pre2 := pre0.trans st2
  have hc83 : (1 : Int32) < v1 := by
    rw [hv1]
    exact h83
  have st3 : Steps p.tables e below (T0.setTop (mkF m 83 #[.val (.ref x0), .val (.int en), .val (.int tg), .val (.int b), .val (.int st), .val (.int a), s6] [(.int (1 : Int32)), (.int v1)])) (T0.setTop (mkF m 86 #[.val (.ref x0), .val (.int en), .val (.int tg), .val (.int b), .val (.int st), .val (.int a), s6] [])) := by
    refine XS.icmpNo X0.here hx rfl (hb hby d8_83) rfl (tlt hc83).2.2.2 ?_
    exact Steps.refl _
  have pre3 := pre2.trans st3
  obtain ⟨v4, hv4⟩ : ∃ z : Int32, z = (((b + a).toUInt32 >>> ((1 : Int32) &&& 31).toUInt32).toInt32) := ⟨_, rfl⟩
  have st5 : Steps p.tables e below (T0.setTop (mkF m 86 #[.val (.ref x0), .val (.int en), .val (.int tg), .val (.int b), .val (.int st), .val (.int a), s6] [])) (T0.setTop (mkF m 95 #[.val (.ref x0), .val (.int en), .val (.int tg), .val (.int b), .val (.int st), .val (.int a), .val (.int v4)] [(.ref x0)])) := by
    subst v4
    refine XS.iloadN X0.here hx rfl (hb hby d8_86) rfl ?_
    show Steps p.tables e below (T0.setTop (mkF m 87 #[.val (.ref x0), .val (.int en), .val (.int tg), .val (.int b), .val (.int st), .val (.int a), s6] [(.int b)])) _
    refine XS.iload X0.here hx rfl (hb hby d8_87) rfl ?_
    show Steps p.tables e below (T0.setTop (mkF m 89 #[.val (.ref x0), .val (.int en), .val (.int tg), .val (.int b), .val (.int st), .val (.int a), s6] [(.int a), (.int b)])) _
    refine XS.iadd X0.here hx rfl (hb hby d8_89) rfl ?_
    show Steps p.tables e below (T0.setTop (mkF m 90 #[.val (.ref x0), .val (.int en), .val (.int tg), .val (.int b), .val (.int st), .val (.int a), s6] [(.int (b + a))])) _
    refine XS.iconst X0.here hx rfl (hb hby d8_90) ?_
    show Steps p.tables e below (T0.setTop (mkF m 91 #[.val (.ref x0), .val (.int en), .val (.int tg), .val (.int b), .val (.int st), .val (.int a), s6] [(.int (1 : Int32)), (.int (b + a))])) _
    refine XS.iushr X0.here hx rfl (hb hby d8_91) rfl ?_
    show Steps p.tables e below (T0.setTop (mkF m 92 #[.val (.ref x0), .val (.int en), .val (.int tg), .val (.int b), .val (.int st), .val (.int a), s6] [(.int (((b + a).toUInt32 >>> ((1 : Int32) &&& 31).toUInt32).toInt32))])) _
    refine XS.istore X0.here hx rfl (hb hby d8_92) rfl (l' := #[.val (.ref x0), .val (.int en), .val (.int tg), .val (.int b), .val (.int st), .val (.int a), .val (.int (((b + a).toUInt32 >>> ((1 : Int32) &&& 31).toUInt32).toInt32))]) (os8_92 hs6) ?_
    show Steps p.tables e below (T0.setTop (mkF m 94 #[.val (.ref x0), .val (.int en), .val (.int tg), .val (.int b), .val (.int st), .val (.int a), .val (.int (((b + a).toUInt32 >>> ((1 : Int32) &&& 31).toUInt32).toInt32))] [])) _
    refine XS.aloadN X0.here hx rfl (hb hby d8_94) rfl rfl ?_
    show Steps p.tables e below (T0.setTop (mkF m 95 #[.val (.ref x0), .val (.int en), .val (.int tg), .val (.int b), .val (.int st), .val (.int a), .val (.int (((b + a).toUInt32 >>> ((1 : Int32) &&& 31).toUInt32).toInt32))] [(.ref x0)])) _
    exact Steps.refl _
  have pre5 := pre3.trans st5
  obtain ⟨T6, X6, e6, st6⟩ := getF X0 hx hZ hown (host := "") (Or.inl (hw _ (List.mem_of_getElem? (i := 13) rfl))) Via.refl e0 B1 (g := (mkF m 95 #[.val (.ref x0), .val (.int en), .val (.int tg), .val (.int b), .val (.int st), .val (.int a), .val (.int v4)] [(.ref x0)])) rfl rfl (hb hby d8_95)
  have pre6 : Steps p.tables e below (T0.setTop (mkF m 78 #[.val (.ref x0), .val (.int en), .val (.int tg), .val (.int b), .val (.int st), .val (.int a), s6] [])) (T6.setTop (mkF m 98 #[.val (.ref x0), .val (.int en), .val (.int tg), .val (.int b), .val (.int st), .val (.int a), .val (.int v4)] [(.ref ao)])) := pre5.trans (st6 _ (Steps.refl _))
  have st7 : Steps p.tables e below (T6.setTop (mkF m 98 #[.val (.ref x0), .val (.int en), .val (.int tg), .val (.int b), .val (.int st), .val (.int a), .val (.int v4)] [(.ref ao)])) (T6.setTop (mkF m 100 #[.val (.ref x0), .val (.int en), .val (.int tg), .val (.int b), .val (.int st), .val (.int a), .val (.int v4)] [(.int v4), (.ref ao)])) := by
    refine XS.iload X6.here hx rfl (hb hby d8_98) rfl ?_
    show Steps p.tables e below (T6.setTop (mkF m 100 #[.val (.ref x0), .val (.int en), .val (.int tg), .val (.int b), .val (.int st), .val (.int a), .val (.int v4)] [(.int v4), (.ref ao)])) _
    exact Steps.refl _
  have pre7 := pre6.trans st7
  obtain ⟨cl8, Ar8, q8, S8, G8, H8, J8⟩ := id B2
  have in8 : ¬ (v4 < 0 ∨ cl8.slots.size ≤ (v4).toNatClampNeg) := inb_of S8 (by rw [hv4]; exact hj)
  have at8 : cl8.slots[(v4).toNatClampNeg]? = some (.int w) := Has.at H8 in8 (by rw [hv4]; exact hg)
  have st8 : Steps p.tables e below (T6.setTop (mkF m 100 #[.val (.ref x0), .val (.int en), .val (.int tg), .val (.int b), .val (.int st), .val (.int a), .val (.int v4)] [(.int v4), (.ref ao)])) (T6.setTop (mkF m 101 #[.val (.ref x0), .val (.int en), .val (.int tg), .val (.int b), .val (.int st), .val (.int a), .val (.int v4)] [(.int w)])) := X6.iaload hx (j := v4) (v := (.int w)) (by rw [e6]; exact Ar8.1) (State.isArrayOf_alike hZ.alike Ar8.2.1) Ar8.2.2 in8 at8 (g := (mkF m 100 #[.val (.ref x0), .val (.int en), .val (.int tg), .val (.int b), .val (.int st), .val (.int a), .val (.int v4)] [(.int v4), (.ref ao)])) rfl rfl (hb hby d8_100) _ (Steps.refl _)
  have pre8 := pre7.trans st8
  have st9 : Steps p.tables e below (T6.setTop (mkF m 101 #[.val (.ref x0), .val (.int en), .val (.int tg), .val (.int b), .val (.int st), .val (.int a), .val (.int v4)] [(.int w)])) (T6.setTop (mkF m 102 #[.val (.ref x0), .val (.int en), .val (.int tg), .val (.int b), .val (.int st), .val (.int a), .val (.int v4)] [(.int tg), (.int w)])) := by
    refine XS.iloadN X6.here hx rfl (hb hby d8_101) rfl ?_
    show Steps p.tables e below (T6.setTop (mkF m 102 #[.val (.ref x0), .val (.int en), .val (.int tg), .val (.int b), .val (.int st), .val (.int a), .val (.int v4)] [(.int tg), (.int w)])) _
    exact Steps.refl _
  have pre9 := pre8.trans st9
  have hc102 : w < tg := by
    exact h56
  have st10 : Steps p.tables e below (T6.setTop (mkF m 102 #[.val (.ref x0), .val (.int en), .val (.int tg), .val (.int b), .val (.int st), .val (.int a), .val (.int v4)] [(.int tg), (.int w)])) (T6.setTop (mkF m 105 #[.val (.ref x0), .val (.int en), .val (.int tg), .val (.int b), .val (.int st), .val (.int a), .val (.int v4)] [])) := by
    refine XS.icmpNo X6.here hx rfl (hb hby d8_102) rfl (tlt hc102).2.1 ?_
    exact Steps.refl _
  have pre10 := pre9.trans st10
  have st11 : Steps p.tables e below (T6.setTop (mkF m 105 #[.val (.ref x0), .val (.int en), .val (.int tg), .val (.int b), .val (.int st), .val (.int a), .val (.int v4)] [])) (T6.setTop (mkF m 78 #[.val (.ref x0), .val (.int en), .val (.int tg), .val (.int v4), .val (.int st), .val (.int a), .val (.int v4)] [])) := by
    refine XS.iload X6.here hx rfl (hb hby d8_105) rfl ?_
    show Steps p.tables e below (T6.setTop (mkF m 107 #[.val (.ref x0), .val (.int en), .val (.int tg), .val (.int b), .val (.int st), .val (.int a), .val (.int v4)] [(.int v4)])) _
    refine XS.istoreN X6.here hx rfl (hb hby d8_107) rfl (l' := #[.val (.ref x0), .val (.int en), .val (.int tg), .val (.int v4), .val (.int st), .val (.int a), .val (.int v4)]) rfl ?_
    show Steps p.tables e below (T6.setTop (mkF m 108 #[.val (.ref x0), .val (.int en), .val (.int tg), .val (.int v4), .val (.int st), .val (.int a), .val (.int v4)] [])) _
    refine XS.goto X6.here hx rfl (pc0 := 108) (pc' := 115) rfl (hb hby d8_108) (by decide) (by decide) ?_
    show Steps p.tables e below (T6.setTop (mkF m 115 #[.val (.ref x0), .val (.int en), .val (.int tg), .val (.int v4), .val (.int st), .val (.int a), .val (.int v4)] [])) _
    refine XS.goto X6.here hx rfl (pc0 := 115) (pc' := 78) rfl (hb hby d8_115) (by decide) (by decide) ?_
    show Steps p.tables e below (T6.setTop (mkF m 78 #[.val (.ref x0), .val (.int en), .val (.int tg), .val (.int v4), .val (.int st), .val (.int a), .val (.int v4)] [])) _
    exact Steps.refl _
  have pre11 := pre10.trans st11
  subst v4 v1
  exact ⟨T6, X6, e6, pre11⟩
set_option maxRecDepth 65536 in
set_option maxHeartbeats 40000000 in
theorem tE {p : Program} {l : Launch} {e : Env} {R : Room} {s : State} {m : MethodId} {args : Array Value} {below : List Frame} {meth : Method} {c : Code} {T0 : State} {locs : List Loc} {cells slots : Nat} {Z : State} {a0 : Array Value} {h0 : Heap} {x0 ao : Addr} {ko : ClassId} {zc sz en tg b st a : Int32} {s6 : Slot} {vs : List Value} {w : Int32}
    (X0 : Stand p l e R s m args below meth c T0 locs cells slots) (hx : p.tables.exec = Jvm.exec) (hZ : Z.Warmed39 s.vm) (hw : ∀ d ∈ tables_1, d.before a0 Z = true) (hby : c.code = prog_19_method_5_code) (hml : c.maxLocals = 7) (hown : s.vm.findClass "com/example/portia/portia/index/Postings" = some m.cls) (e0 : T0.heap = h0) (B0 : Fld Z h0 x0 "com/example/portia/portia/index/Postings" "size" "I" (.int sz)) (B1 : Fld Z h0 x0 "com/example/portia/portia/index/Postings" "ordinals" "[I" (.ref ao)) (B2 : Arv Z h0 ao ko .int zc vs (.int (0 : Int32))) (hs6 : One s6) (hj : ¬ ((((b + a).toUInt32 >>> ((1 : Int32) &&& 31).toUInt32).toInt32) < 0) ∧ (((b + a).toUInt32 >>> ((1 : Int32) &&& 31).toUInt32).toInt32) < zc) (hg : vs.getD ((((b + a).toUInt32 >>> ((1 : Int32) &&& 31).toUInt32).toInt32)).toNatClampNeg (.int (0 : Int32)) = .int w) (h83 : ((1 : Int32) < (a - b))) (h56 : ¬ (w < tg)) :
    ∃ (T' : State), Stand p l e R s m args below meth c T' locs cells slots ∧ T'.heap = h0 ∧ Steps p.tables e below (T0.setTop (mkF m 78 #[.val (.ref x0), .val (.int en), .val (.int tg), .val (.int b), .val (.int st), .val (.int a), s6] [])) (T'.setTop (mkF m 78 #[.val (.ref x0), .val (.int en), .val (.int tg), .val (.int b), .val (.int st), .val (.int (((b + a).toUInt32 >>> ((1 : Int32) &&& 31).toUInt32).toInt32)), .val (.int (((b + a).toUInt32 >>> ((1 : Int32) &&& 31).toUInt32).toInt32))] [])) := by
  have pre0 : Steps p.tables e below (T0.setTop (mkF m 78 #[.val (.ref x0), .val (.int en), .val (.int tg), .val (.int b), .val (.int st), .val (.int a), s6] [])) (T0.setTop (mkF m 78 #[.val (.ref x0), .val (.int en), .val (.int tg), .val (.int b), .val (.int st), .val (.int a), s6] [])) := Steps.refl _
  obtain ⟨v1, hv1⟩ : ∃ z : Int32, z = (a - b) := ⟨_, rfl⟩
  have st2 : Steps p.tables e below (T0.setTop (mkF m 78 #[.val (.ref x0), .val (.int en), .val (.int tg), .val (.int b), .val (.int st), .val (.int a), s6] [])) (T0.setTop (mkF m 83 #[.val (.ref x0), .val (.int en), .val (.int tg), .val (.int b), .val (.int st), .val (.int a), s6] [(.int (1 : Int32)), (.int v1)])) := by
    subst v1
    refine XS.iload X0.here hx rfl (hb hby d8_78) rfl ?_
    show Steps p.tables e below (T0.setTop (mkF m 80 #[.val (.ref x0), .val (.int en), .val (.int tg), .val (.int b), .val (.int st), .val (.int a), s6] [(.int a)])) _
    refine XS.iloadN X0.here hx rfl (hb hby d8_80) rfl ?_
    show Steps p.tables e below (T0.setTop (mkF m 81 #[.val (.ref x0), .val (.int en), .val (.int tg), .val (.int b), .val (.int st), .val (.int a), s6] [(.int b), (.int a)])) _
    refine XS.isub X0.here hx rfl (hb hby d8_81) rfl ?_
    show Steps p.tables e below (T0.setTop (mkF m 82 #[.val (.ref x0), .val (.int en), .val (.int tg), .val (.int b), .val (.int st), .val (.int a), s6] [(.int (a - b))])) _
    refine XS.iconst X0.here hx rfl (hb hby d8_82) ?_
    show Steps p.tables e below (T0.setTop (mkF m 83 #[.val (.ref x0), .val (.int en), .val (.int tg), .val (.int b), .val (.int st), .val (.int a), s6] [(.int (1 : Int32)), (.int (a - b))])) _
    exact Steps.refl _
  have pre2 := pre0.trans st2
  have hc83 : (1 : Int32) < v1 := by
    rw [hv1]
    exact h83
  have st3 : Steps p.tables e below (T0.setTop (mkF m 83 #[.val (.ref x0), .val (.int en), .val (.int tg), .val (.int b), .val (.int st), .val (.int a), s6] [(.int (1 : Int32)), (.int v1)])) (T0.setTop (mkF m 86 #[.val (.ref x0), .val (.int en), .val (.int tg), .val (.int b), .val (.int st), .val (.int a), s6] [])) := by
    refine XS.icmpNo X0.here hx rfl (hb hby d8_83) rfl (tlt hc83).2.2.2 ?_
    exact Steps.refl _
  have pre3 := pre2.trans st3
  obtain ⟨v4, hv4⟩ : ∃ z : Int32, z = (((b + a).toUInt32 >>> ((1 : Int32) &&& 31).toUInt32).toInt32) := ⟨_, rfl⟩
  have st5 : Steps p.tables e below (T0.setTop (mkF m 86 #[.val (.ref x0), .val (.int en), .val (.int tg), .val (.int b), .val (.int st), .val (.int a), s6] [])) (T0.setTop (mkF m 95 #[.val (.ref x0), .val (.int en), .val (.int tg), .val (.int b), .val (.int st), .val (.int a), .val (.int v4)] [(.ref x0)])) := by
    subst v4
    refine XS.iloadN X0.here hx rfl (hb hby d8_86) rfl ?_
    show Steps p.tables e below (T0.setTop (mkF m 87 #[.val (.ref x0), .val (.int en), .val (.int tg), .val (.int b), .val (.int st), .val (.int a), s6] [(.int b)])) _
    refine XS.iload X0.here hx rfl (hb hby d8_87) rfl ?_
    show Steps p.tables e below (T0.setTop (mkF m 89 #[.val (.ref x0), .val (.int en), .val (.int tg), .val (.int b), .val (.int st), .val (.int a), s6] [(.int a), (.int b)])) _
    refine XS.iadd X0.here hx rfl (hb hby d8_89) rfl ?_
    show Steps p.tables e below (T0.setTop (mkF m 90 #[.val (.ref x0), .val (.int en), .val (.int tg), .val (.int b), .val (.int st), .val (.int a), s6] [(.int (b + a))])) _
    refine XS.iconst X0.here hx rfl (hb hby d8_90) ?_
    show Steps p.tables e below (T0.setTop (mkF m 91 #[.val (.ref x0), .val (.int en), .val (.int tg), .val (.int b), .val (.int st), .val (.int a), s6] [(.int (1 : Int32)), (.int (b + a))])) _
    refine XS.iushr X0.here hx rfl (hb hby d8_91) rfl ?_
    show Steps p.tables e below (T0.setTop (mkF m 92 #[.val (.ref x0), .val (.int en), .val (.int tg), .val (.int b), .val (.int st), .val (.int a), s6] [(.int (((b + a).toUInt32 >>> ((1 : Int32) &&& 31).toUInt32).toInt32))])) _
    refine XS.istore X0.here hx rfl (hb hby d8_92) rfl (l' := #[.val (.ref x0), .val (.int en), .val (.int tg), .val (.int b), .val (.int st), .val (.int a), .val (.int (((b + a).toUInt32 >>> ((1 : Int32) &&& 31).toUInt32).toInt32))]) (os8_92 hs6) ?_
    show Steps p.tables e below (T0.setTop (mkF m 94 #[.val (.ref x0), .val (.int en), .val (.int tg), .val (.int b), .val (.int st), .val (.int a), .val (.int (((b + a).toUInt32 >>> ((1 : Int32) &&& 31).toUInt32).toInt32))] [])) _
    refine XS.aloadN X0.here hx rfl (hb hby d8_94) rfl rfl ?_
    show Steps p.tables e below (T0.setTop (mkF m 95 #[.val (.ref x0), .val (.int en), .val (.int tg), .val (.int b), .val (.int st), .val (.int a), .val (.int (((b + a).toUInt32 >>> ((1 : Int32) &&& 31).toUInt32).toInt32))] [(.ref x0)])) _
    exact Steps.refl _
  have pre5 := pre3.trans st5
  obtain ⟨T6, X6, e6, st6⟩ := getF X0 hx hZ hown (host := "") (Or.inl (hw _ (List.mem_of_getElem? (i := 13) rfl))) Via.refl e0 B1 (g := (mkF m 95 #[.val (.ref x0), .val (.int en), .val (.int tg), .val (.int b), .val (.int st), .val (.int a), .val (.int v4)] [(.ref x0)])) rfl rfl (hb hby d8_95)
  have pre6 : Steps p.tables e below (T0.setTop (mkF m 78 #[.val (.ref x0), .val (.int en), .val (.int tg), .val (.int b), .val (.int st), .val (.int a), s6] [])) (T6.setTop (mkF m 98 #[.val (.ref x0), .val (.int en), .val (.int tg), .val (.int b), .val (.int st), .val (.int a), .val (.int v4)] [(.ref ao)])) := pre5.trans (st6 _ (Steps.refl _))
  have st7 : Steps p.tables e below (T6.setTop (mkF m 98 #[.val (.ref x0), .val (.int en), .val (.int tg), .val (.int b), .val (.int st), .val (.int a), .val (.int v4)] [(.ref ao)])) (T6.setTop (mkF m 100 #[.val (.ref x0), .val (.int en), .val (.int tg), .val (.int b), .val (.int st), .val (.int a), .val (.int v4)] [(.int v4), (.ref ao)])) := by
    refine XS.iload X6.here hx rfl (hb hby d8_98) rfl ?_
    show Steps p.tables e below (T6.setTop (mkF m 100 #[.val (.ref x0), .val (.int en), .val (.int tg), .val (.int b), .val (.int st), .val (.int a), .val (.int v4)] [(.int v4), (.ref ao)])) _
    exact Steps.refl _
  have pre7 := pre6.trans st7
  obtain ⟨cl8, Ar8, q8, S8, G8, H8, J8⟩ := id B2
  have in8 : ¬ (v4 < 0 ∨ cl8.slots.size ≤ (v4).toNatClampNeg) := inb_of S8 (by rw [hv4]; exact hj)
  have at8 : cl8.slots[(v4).toNatClampNeg]? = some (.int w) := Has.at H8 in8 (by rw [hv4]; exact hg)
  have st8 : Steps p.tables e below (T6.setTop (mkF m 100 #[.val (.ref x0), .val (.int en), .val (.int tg), .val (.int b), .val (.int st), .val (.int a), .val (.int v4)] [(.int v4), (.ref ao)])) (T6.setTop (mkF m 101 #[.val (.ref x0), .val (.int en), .val (.int tg), .val (.int b), .val (.int st), .val (.int a), .val (.int v4)] [(.int w)])) := X6.iaload hx (j := v4) (v := (.int w)) (by rw [e6]; exact Ar8.1) (State.isArrayOf_alike hZ.alike Ar8.2.1) Ar8.2.2 in8 at8 (g := (mkF m 100 #[.val (.ref x0), .val (.int en), .val (.int tg), .val (.int b), .val (.int st), .val (.int a), .val (.int v4)] [(.int v4), (.ref ao)])) rfl rfl (hb hby d8_100) _ (Steps.refl _)
  have pre8 := pre7.trans st8
  have st9 : Steps p.tables e below (T6.setTop (mkF m 101 #[.val (.ref x0), .val (.int en), .val (.int tg), .val (.int b), .val (.int st), .val (.int a), .val (.int v4)] [(.int w)])) (T6.setTop (mkF m 102 #[.val (.ref x0), .val (.int en), .val (.int tg), .val (.int b), .val (.int st), .val (.int a), .val (.int v4)] [(.int tg), (.int w)])) := by
    refine XS.iloadN X6.here hx rfl (hb hby d8_101) rfl ?_
    show Steps p.tables e below (T6.setTop (mkF m 102 #[.val (.ref x0), .val (.int en), .val (.int tg), .val (.int b), .val (.int st), .val (.int a), .val (.int v4)] [(.int tg), (.int w)])) _
    exact Steps.refl _
  have pre9 := pre8.trans st9
  have hc102 : ¬ (w < tg) := by
    exact h56
  have st10 : Steps p.tables e below (T6.setTop (mkF m 102 #[.val (.ref x0), .val (.int en), .val (.int tg), .val (.int b), .val (.int st), .val (.int a), .val (.int v4)] [(.int tg), (.int w)])) (T6.setTop (mkF m 111 #[.val (.ref x0), .val (.int en), .val (.int tg), .val (.int b), .val (.int st), .val (.int a), .val (.int v4)] [])) := by
    refine XS.icmpYes X6.here hx rfl (pc0 := 102) (pc' := 111) rfl (hb hby d8_102) rfl (flt hc102).2.1 (by decide) (by decide) ?_
    exact Steps.refl _
  have pre10 := pre9.trans st10
  have st11 : Steps p.tables e below (T6.setTop (mkF m 111 #[.val (.ref x0), .val (.int en), .val (.int tg), .val (.int b), .val (.int st), .val (.int a), .val (.int v4)] [])) (T6.setTop (mkF m 78 #[.val (.ref x0), .val (.int en), .val (.int tg), .val (.int b), .val (.int st), .val (.int v4), .val (.int v4)] [])) := by
    refine XS.iload X6.here hx rfl (hb hby d8_111) rfl ?_
    show Steps p.tables e below (T6.setTop (mkF m 113 #[.val (.ref x0), .val (.int en), .val (.int tg), .val (.int b), .val (.int st), .val (.int a), .val (.int v4)] [(.int v4)])) _
    refine XS.istore X6.here hx rfl (hb hby d8_113) rfl (l' := #[.val (.ref x0), .val (.int en), .val (.int tg), .val (.int b), .val (.int st), .val (.int v4), .val (.int v4)]) rfl ?_
    show Steps p.tables e below (T6.setTop (mkF m 115 #[.val (.ref x0), .val (.int en), .val (.int tg), .val (.int b), .val (.int st), .val (.int v4), .val (.int v4)] [])) _
    refine XS.goto X6.here hx rfl (pc0 := 115) (pc' := 78) rfl (hb hby d8_115) (by decide) (by decide) ?_
    show Steps p.tables e below (T6.setTop (mkF m 78 #[.val (.ref x0), .val (.int en), .val (.int tg), .val (.int b), .val (.int st), .val (.int v4), .val (.int v4)] [])) _
    exact Steps.refl _
  have pre11 := pre10.trans st11
  subst v4 v1
  exact ⟨T6, X6, e6, pre11⟩
set_option maxRecDepth 65536 in
set_option maxHeartbeats 40000000 in
theorem tF {p : Program} {l : Launch} {e : Env} {R : Room} {s : State} {m : MethodId} {args : Array Value} {below : List Frame} {meth : Method} {c : Code} {T0 : State} {locs : List Loc} {cells slots : Nat} {Z : State} {a0 : Array Value} {h0 : Heap} {x0 ao : Addr} {ko : ClassId} {zc sz en tg b st a : Int32} {s6 : Slot} {vs : List Value}
    (X0 : Stand p l e R s m args below meth c T0 locs cells slots) (hx : p.tables.exec = Jvm.exec) (hZ : Z.Warmed39 s.vm) (hw : ∀ d ∈ tables_1, d.before a0 Z = true) (hby : c.code = prog_19_method_5_code) (hml : c.maxLocals = 7) (hown : s.vm.findClass "com/example/portia/portia/index/Postings" = some m.cls) (e0 : T0.heap = h0) (B0 : Fld Z h0 x0 "com/example/portia/portia/index/Postings" "size" "I" (.int sz)) (B1 : Fld Z h0 x0 "com/example/portia/portia/index/Postings" "ordinals" "[I" (.ref ao)) (B2 : Arv Z h0 ao ko .int zc vs (.int (0 : Int32))) (h83 : ¬ ((1 : Int32) < (a - b))) :
    ∃ (T' : State), Stand p l e R s m args below meth c T' locs cells slots ∧ T'.heap = h0 ∧ Steps p.tables e below (T0.setTop (mkF m 78 #[.val (.ref x0), .val (.int en), .val (.int tg), .val (.int b), .val (.int st), .val (.int a), s6] [])) (T'.setTop (mkF m 118 #[.val (.ref x0), .val (.int en), .val (.int tg), .val (.int b), .val (.int st), .val (.int a), s6] [])) := by
  have pre0 : Steps p.tables e below (T0.setTop (mkF m 78 #[.val (.ref x0), .val (.int en), .val (.int tg), .val (.int b), .val (.int st), .val (.int a), s6] [])) (T0.setTop (mkF m 78 #[.val (.ref x0), .val (.int en), .val (.int tg), .val (.int b), .val (.int st), .val (.int a), s6] [])) := Steps.refl _
  obtain ⟨v1, hv1⟩ : ∃ z : Int32, z = (a - b) := ⟨_, rfl⟩
  have st2 : Steps p.tables e below (T0.setTop (mkF m 78 #[.val (.ref x0), .val (.int en), .val (.int tg), .val (.int b), .val (.int st), .val (.int a), s6] [])) (T0.setTop (mkF m 83 #[.val (.ref x0), .val (.int en), .val (.int tg), .val (.int b), .val (.int st), .val (.int a), s6] [(.int (1 : Int32)), (.int v1)])) := by
    subst v1
    refine XS.iload X0.here hx rfl (hb hby d8_78) rfl ?_
    show Steps p.tables e below (T0.setTop (mkF m 80 #[.val (.ref x0), .val (.int en), .val (.int tg), .val (.int b), .val (.int st), .val (.int a), s6] [(.int a)])) _
    refine XS.iloadN X0.here hx rfl (hb hby d8_80) rfl ?_
    show Steps p.tables e below (T0.setTop (mkF m 81 #[.val (.ref x0), .val (.int en), .val (.int tg), .val (.int b), .val (.int st), .val (.int a), s6] [(.int b), (.int a)])) _
    refine XS.isub X0.here hx rfl (hb hby d8_81) rfl ?_
    show Steps p.tables e below (T0.setTop (mkF m 82 #[.val (.ref x0), .val (.int en), .val (.int tg), .val (.int b), .val (.int st), .val (.int a), s6] [(.int (a - b))])) _
    refine XS.iconst X0.here hx rfl (hb hby d8_82) ?_
    show Steps p.tables e below (T0.setTop (mkF m 83 #[.val (.ref x0), .val (.int en), .val (.int tg), .val (.int b), .val (.int st), .val (.int a), s6] [(.int (1 : Int32)), (.int (a - b))])) _
    exact Steps.refl _
  have pre2 := pre0.trans st2
  have hc83 : ¬ ((1 : Int32) < v1) := by
    rw [hv1]
    exact h83
  have st3 : Steps p.tables e below (T0.setTop (mkF m 83 #[.val (.ref x0), .val (.int en), .val (.int tg), .val (.int b), .val (.int st), .val (.int a), s6] [(.int (1 : Int32)), (.int v1)])) (T0.setTop (mkF m 118 #[.val (.ref x0), .val (.int en), .val (.int tg), .val (.int b), .val (.int st), .val (.int a), s6] [])) := by
    refine XS.icmpYes X0.here hx rfl (pc0 := 83) (pc' := 118) rfl (hb hby d8_83) rfl (flt hc83).2.2.2 (by decide) (by decide) ?_
    exact Steps.refl _
  have pre3 := pre2.trans st3
  subst v1
  exact ⟨T0, X0, e0, pre3⟩
/-- the array's first sz places hold o, in order; the bounds -/
def own_G (o : Nat → Int32) (vs : List Value) (sz zc en : Int32) : Prop := (0 ≤ sz.toInt ∧ sz.toInt ≤ 7 ∧ sz.toInt ≤ zc.toInt ∧ 0 ≤ en.toInt ∧ en.toInt ≤ sz.toInt) ∧ (∀ j : Nat, (j : Int) < sz.toInt → vs.getD j (.int (0 : Int32)) = .int (o j)) ∧ (∀ i j : Nat, i ≤ j → (j : Int) < sz.toInt → (o i).toInt ≤ (o j).toInt)
def own_First (o : Nat → Int32) (sz en tg r : Int32) : Prop := en.toInt ≤ r.toInt ∧ r.toInt ≤ sz.toInt ∧ (∀ j : Nat, en.toInt ≤ (j : Int) → (j : Int) < r.toInt → (o j).toInt < tg.toInt) ∧ (r.toInt < sz.toInt → tg.toInt ≤ (o r.toInt.toNat).toInt)
theorem own_z0 : (0 : Int32).toInt = 0 := by decide
theorem own_z1 : (1 : Int32).toInt = 1 := by decide
theorem own_z2 : (2 : Int32).toInt = 2 := by decide
theorem own_at {o : Nat → Int32} {vs : List Value} {sz zc en j : Int32} (G : own_G o vs sz zc en) (h0 : 0 ≤ j.toInt) (h1 : j.toInt < sz.toInt) : (¬ (j < 0) ∧ j < zc) ∧ vs.getD j.toNatClampNeg (.int (0 : Int32)) = .int (o j.toInt.toNat) := by
  obtain ⟨⟨g1, g2, g3, g4, g5⟩, gv, -⟩ := G
  refine ⟨⟨?_, ?_⟩, ?_⟩
  · rw [Int32.lt_iff_toInt_lt, own_z0]; omega
  · rw [Int32.lt_iff_toInt_lt]; omega
  · have e : j.toNatClampNeg = j.toInt.toNat := rfl
    rw [e]
    exact gv _ (by omega)
theorem own_mid {a b : Int32} (h0 : 0 ≤ b.toInt) (h1 : b.toInt < a.toInt) (h2 : a.toInt ≤ 7) : (((b + a).toUInt32 >>> ((1 : Int32) &&& 31).toUInt32).toInt32).toInt = (b.toInt + a.toInt) / 2 := by
  have s := c_iushr (b + a) (1 : Int32) 1 (by decide) (by decide)
  have q := c_iadd b a
  have r := rng32 (b + a)
  have ep : ((2 ^ 1 : Nat) : Int) = 2 := by decide
  rw [ep] at s
  rw [s]
  omega
theorem own_l2 {p : Program} {l : Launch} {e : Env} {R : Room} {s : State} {m : MethodId} {args : Array Value} {below : List Frame} {meth : Method} {c : Code} {locs : List Loc} {cells slots : Nat} {Z : State} {a0 : Array Value} {h0 : Heap} {x0 ao : Addr} {ko : ClassId} {zc sz en tg : Int32} {vs : List Value} {o : Nat → Int32} (hx : p.tables.exec = Jvm.exec) (hZ : Z.Warmed39 s.vm) (hw : ∀ d ∈ tables_1, d.before a0 Z = true) (hby : c.code = prog_19_method_5_code) (hml : c.maxLocals = 7) (hown : s.vm.findClass "com/example/portia/portia/index/Postings" = some m.cls) (B0 : Fld Z h0 x0 "com/example/portia/portia/index/Postings" "size" "I" (.int sz)) (B1 : Fld Z h0 x0 "com/example/portia/portia/index/Postings" "ordinals" "[I" (.ref ao)) (B2 : Arv Z h0 ao ko .int zc vs (.int (0 : Int32))) (G : own_G o vs sz zc en) :
    ∀ (k : Nat) (T0 : State) (b st a : Int32) (s6 : Slot), One s6 → Stand p l e R s m args below meth c T0 locs cells slots → T0.heap = h0 → en.toInt ≤ b.toInt → b.toInt < a.toInt → a.toInt ≤ sz.toInt → (o b.toInt.toNat).toInt < tg.toInt → (a.toInt < sz.toInt → tg.toInt ≤ (o a.toInt.toNat).toInt) → a.toInt - b.toInt ≤ (k : Int) →
      ∃ (T' : State) (b' r : Int32) (s6' : Slot), Stand p l e R s m args below meth c T' locs cells slots ∧ T'.heap = h0 ∧ own_First o sz en tg r ∧ Steps p.tables e below (T0.setTop (mkF m 78 #[.val (.ref x0), .val (.int en), .val (.int tg), .val (.int b), .val (.int st), .val (.int a), s6] [])) (T'.setTop (mkF m 118 #[.val (.ref x0), .val (.int en), .val (.int tg), .val (.int b'), .val (.int st), .val (.int r), s6'] [])) := by
  intro k
  induction k with
  | zero => intro T0 b st a s6 _ _ _ h1 h2 h3 h4 h5 h6; omega
  | succ k ih =>
    intro T0 b st a s6 hs6 X0 e0 h1 h2 h3 h4 h5 h6
    have G' := G
    obtain ⟨⟨g1, g2, g3, g4, g5⟩, gv, gs⟩ := G'
    have qa := c_isub a b
    have ra := rng32 (a - b)
    by_cases c83 : (1 : Int32) < (a - b)
    · have c83' := c83
      rw [Int32.lt_iff_toInt_lt, own_z1] at c83'
      have hm := own_mid (a := a) (b := b) (by omega) h2 (by omega)
      obtain ⟨hj, hg⟩ := own_at G (j := (((b + a).toUInt32 >>> ((1 : Int32) &&& 31).toUInt32).toInt32)) (by omega) (by omega)
      by_cases c56 : (o (((b + a).toUInt32 >>> ((1 : Int32) &&& 31).toUInt32).toInt32).toInt.toNat) < tg
      · obtain ⟨T1, X1, e1, st1⟩ := tD X0 hx hZ hw hby hml hown e0 B0 B1 B2 hs6 hj hg c83 c56
        rw [Int32.lt_iff_toInt_lt] at c56
        obtain ⟨T', b', r, s6', X', e', hF, st'⟩ := ih T1 (((b + a).toUInt32 >>> ((1 : Int32) &&& 31).toUInt32).toInt32) st a (.val (.int (((b + a).toUInt32 >>> ((1 : Int32) &&& 31).toUInt32).toInt32))) (One.val rfl) X1 e1 (by omega) (by omega) h3 c56 h5 (by omega)
        exact ⟨T', b', r, s6', X', e', hF, st1.trans st'⟩
      · obtain ⟨T1, X1, e1, st1⟩ := tE X0 hx hZ hw hby hml hown e0 B0 B1 B2 hs6 hj hg c83 c56
        rw [Int32.lt_iff_toInt_lt] at c56
        obtain ⟨T', b', r, s6', X', e', hF, st'⟩ := ih T1 b st (((b + a).toUInt32 >>> ((1 : Int32) &&& 31).toUInt32).toInt32) (.val (.int (((b + a).toUInt32 >>> ((1 : Int32) &&& 31).toUInt32).toInt32))) (One.val rfl) X1 e1 h1 (by omega) (by omega) h4 (fun _ => by omega) (by omega)
        exact ⟨T', b', r, s6', X', e', hF, st1.trans st'⟩
    · obtain ⟨T1, X1, e1, st1⟩ := tF X0 hx hZ hw hby hml hown e0 B0 B1 B2 c83
      rw [Int32.lt_iff_toInt_lt, own_z1] at c83
      refine ⟨T1, b, a, s6, X1, e1, ⟨by omega, h3, fun j j1 j2 => ?_, h5⟩, st1⟩
      have := gs j b.toInt.toNat (by omega) (by omega)
      omega
theorem own_l1 {p : Program} {l : Launch} {e : Env} {R : Room} {s : State} {m : MethodId} {args : Array Value} {below : List Frame} {meth : Method} {c : Code} {locs : List Loc} {cells slots : Nat} {Z : State} {a0 : Array Value} {h0 : Heap} {x0 ao : Addr} {ko : ClassId} {zc sz en tg : Int32} {vs : List Value} {o : Nat → Int32} (hx : p.tables.exec = Jvm.exec) (hZ : Z.Warmed39 s.vm) (hw : ∀ d ∈ tables_1, d.before a0 Z = true) (hby : c.code = prog_19_method_5_code) (hml : c.maxLocals = 7) (hown : s.vm.findClass "com/example/portia/portia/index/Postings" = some m.cls) (B0 : Fld Z h0 x0 "com/example/portia/portia/index/Postings" "size" "I" (.int sz)) (B1 : Fld Z h0 x0 "com/example/portia/portia/index/Postings" "ordinals" "[I" (.ref ao)) (B2 : Arv Z h0 ao ko .int zc vs (.int (0 : Int32))) (G : own_G o vs sz zc en) :
    ∀ (k : Nat) (T0 : State) (b st : Int32) (s6 : Slot), One s6 → Stand p l e R s m args below meth c T0 locs cells slots → T0.heap = h0 → en.toInt ≤ b.toInt → b.toInt < sz.toInt → (o b.toInt.toNat).toInt < tg.toInt → 1 ≤ st.toInt → st.toInt ≤ 14 → sz.toInt - b.toInt ≤ (k : Int) →
      ∃ (T' : State) (b' st' a' : Int32) (s6' : Slot), One s6' ∧ Stand p l e R s m args below meth c T' locs cells slots ∧ T'.heap = h0 ∧ (en.toInt ≤ b'.toInt ∧ b'.toInt < a'.toInt ∧ a'.toInt ≤ sz.toInt ∧ (o b'.toInt.toNat).toInt < tg.toInt ∧ (a'.toInt < sz.toInt → tg.toInt ≤ (o a'.toInt.toNat).toInt)) ∧ Steps p.tables e below (T0.setTop (mkF m 31 #[.val (.ref x0), .val (.int en), .val (.int tg), .val (.int b), .val (.int st), .val (.int sz), s6] [])) (T'.setTop (mkF m 78 #[.val (.ref x0), .val (.int en), .val (.int tg), .val (.int b'), .val (.int st'), .val (.int a'), s6'] [])) := by
  intro k
  induction k with
  | zero => intro T0 b st s6 _ _ _ h1 h2 h4 h5 h6 h7; omega
  | succ k ih =>
    intro T0 b st s6 hs6 X0 e0 h1 h2 h4 h5 h6 h7
    have G' := G
    obtain ⟨⟨g1, g2, g3, g4, g5⟩, gv, gs⟩ := G'
    have qa := c_isub sz b
    have ra := rng32 (sz - b)
    have qb := c_iadd b st
    have rb := rng32 (b + st)
    have qm := c_imul st (2 : Int32)
    have rm := rng32 (st * (2 : Int32))
    rw [own_z2] at qm
    by_cases c39 : st < (sz - b)
    · have c39' := c39
      rw [Int32.lt_iff_toInt_lt] at c39'
      obtain ⟨hj, hg⟩ := own_at G (j := (b + st)) (by omega) (by omega)
      by_cases c56 : (o (b + st).toInt.toNat) < tg
      · obtain ⟨T1, X1, e1, st1⟩ := tA (a := sz) X0 hx hZ hw hby hml hown e0 B0 B1 B2 hs6 hj hg c39 c56
        rw [Int32.lt_iff_toInt_lt] at c56
        obtain ⟨T', b', st', a', s6', q1, X', e', hF, stp⟩ := ih T1 (b + st) (st * (2 : Int32)) (.val (.int (b + st))) (One.val rfl) X1 e1 (by omega) (by omega) c56 (by omega) (by omega) (by omega)
        exact ⟨T', b', st', a', s6', q1, X', e', hF, st1.trans stp⟩
      · obtain ⟨T1, X1, e1, st1⟩ := tC (a := sz) X0 hx hZ hw hby hml hown e0 B0 B1 B2 hs6 hj hg c39 c56
        rw [Int32.lt_iff_toInt_lt] at c56
        exact ⟨T1, b, st, (b + st), .val (.int (b + st)), One.val rfl, X1, e1, ⟨h1, by omega, by omega, h4, fun _ => by omega⟩, st1⟩
    · obtain ⟨T1, X1, e1, st1⟩ := tB (a := sz) X0 hx hZ hw hby hml hown e0 B0 B1 B2 c39
      exact ⟨T1, b, st, sz, s6, hs6, X1, e1, ⟨h1, h2, by omega, h4, fun q => absurd q (by omega)⟩, st1⟩
theorem own_f1 {o : Nat → Int32} {vs : List Value} {sz zc en tg : Int32} (G : own_G o vs sz zc en) (h : ¬ en < sz) : own_First o sz en tg en := by
  obtain ⟨⟨g1, g2, g3, g4, g5⟩, gv, gs⟩ := G
  rw [Int32.lt_iff_toInt_lt] at h
  exact ⟨by omega, by omega, fun j j1 j2 => by omega, fun q => by omega⟩
theorem own_f2 {o : Nat → Int32} {vs : List Value} {sz zc en tg : Int32} (G : own_G o vs sz zc en) (h : en < sz) (h' : ¬ (o (en.toInt.toNat)) < tg) : own_First o sz en tg en := by
  obtain ⟨⟨g1, g2, g3, g4, g5⟩, gv, gs⟩ := G
  rw [Int32.lt_iff_toInt_lt] at h h'
  exact ⟨by omega, by omega, fun j j1 j2 => by omega, fun q => by omega⟩
theorem pn8 : plainName "com/example/portia/portia/index/Postings" = true := by first | (simp [plainName, overriddenIn]; done) | decide +kernel
theorem ef8 (m : MethodId) (x0 : Addr) (x1 : Int32) (x2 : Int32) : entryFrame m #[(.ref x0), (.int x1), (.int x2)] 7 = mkF m 0 #[.val (.ref x0), .val (.int x1), .val (.int x2), .unset, .unset, .unset, .unset] [] := by first | (simp [entryFrame, mkF, argsToLocals, Value.category]; done) | rfl
def Q8 (Z : State) (x0 : Addr) (x1 : Int32) (x2 : Int32) (sz : Int32) (ao : Addr) (ko : ClassId) (zc : Int32) (vs : List Value) (oo : Nat → Int32) (h0 : Heap) (n0 : Nat) (v : Option Value) (h : Heap) (L : List Loc) : Prop := ∃ (r : Int32), v = some (.int r) ∧ Fr n0 L ∧ Keep h0 h [] ∧ own_First oo sz x1 x2 r
set_option maxRecDepth 65536 in
set_option maxHeartbeats 40000000 in
theorem rm8 (l : Launch) (Z : State) (a0 : Array Value) (hw : ∀ d ∈ tables_1, d.before a0 Z = true) (ws : List Jvm.Cond) (x0 : Addr) (x1 : Int32) (x2 : Int32) (sz : Int32) (ao : Addr) (ko : ClassId) (zc : Int32) (vs : List Value) (oo : Nat → Int32) (h0 : Heap) (n0 : Nat) (Z0 : n0 ≤ h0.size) (B0 : Fld Z h0 x0 "com/example/portia/portia/index/Postings" "size" "I" (.int sz)) (B1 : Fld Z h0 x0 "com/example/portia/portia/index/Postings" "ordinals" "[I" (.ref ao)) (B2 : Arv Z h0 ao ko .int zc vs (.int (0 : Int32))) (G : own_G oo vs sz zc x1) :
    MetFree l (⟨"com/example/portia/portia/index/Postings", "advance", "(II)I"⟩ : MethodName) (head1 (Jvm.Cond.code (⟨"com/example/portia/portia/index/Postings", "advance", "(II)I"⟩ : MethodName) prog_19_method_5_code 7 (some .int) :: ws) ({ frames := 0, cells := 0, slots := 0, locals := 0 } : Room)) (fun a U => a = #[(.ref x0), (.int x1), (.int x2)] ∧ Z.Warmed39 U.vm ∧ U.heap = h0) (fun _ _ _ _ _ => True) (fun _ U o U' => ∃ v L, o = .returned v ∧ Q8 Z x0 x1 x2 sz ao ko zc vs oo h0 n0 v U'.heap L ∧ FrameEnd U o U' L ({ frames := 0, cells := 0, slots := 0, locals := 0 } : Room).cells ({ frames := 0, cells := 0, slots := 0, locals := 0 } : Room).slots) := by
  refine MetFree.of_bodySF (plainFor_of_name pn8) hisR ?_
  intro p e s m args below meth c s₁ Bd hml0 hP hK
  obtain ⟨rfl, hZ, hh⟩ := hP
  have hx := Bd.exec
  have hby := Bd.bytes
  have hml : c.maxLocals = 7 := hml0
  have hown : s.vm.findClass "com/example/portia/portia/index/Postings" = some m.cls := findClass_of_methodNamed Bd.named
  have hnm := (name_of_methodNamed Bd.named Bd.method).1
  have X0 : Stand p l e ({ frames := 0, cells := 0, slots := 0, locals := 0 } : Room) s m #[(.ref x0), (.int x1), (.int x2)] below meth c s₁ [] 0 0 := Stand.of_body Bd
  have e0 : s₁.heap = h0 := by rw [← hh, Bd.state]; rfl
  have N0 := Fr.nil n0
  have pre0 : Steps p.tables e below (s₁.setTop (entryFrame m #[(.ref x0), (.int x1), (.int x2)] 7)) (s₁.setTop (mkF m 0 #[.val (.ref x0), .val (.int x1), .val (.int x2), .unset, .unset, .unset, .unset] [])) := castTop (ef8 m x0 x1 x2) (Steps.refl _)
  have K0 := Keep.refl h0 []
  have st1 : Steps p.tables e below (s₁.setTop (mkF m 0 #[.val (.ref x0), .val (.int x1), .val (.int x2), .unset, .unset, .unset, .unset] [])) (s₁.setTop (mkF m 2 #[.val (.ref x0), .val (.int x1), .val (.int x2), .unset, .unset, .unset, .unset] [(.ref x0), (.int x1)])) := by
    refine XS.iloadN X0.here hx rfl (hb hby d8_0) rfl ?_
    show Steps p.tables e below (s₁.setTop (mkF m 1 #[.val (.ref x0), .val (.int x1), .val (.int x2), .unset, .unset, .unset, .unset] [(.int x1)])) _
    refine XS.aloadN X0.here hx rfl (hb hby d8_1) rfl rfl ?_
    show Steps p.tables e below (s₁.setTop (mkF m 2 #[.val (.ref x0), .val (.int x1), .val (.int x2), .unset, .unset, .unset, .unset] [(.ref x0), (.int x1)])) _
    exact Steps.refl _
  have pre1 := pre0.trans st1
  obtain ⟨T2, X2, e2, st2⟩ := getF X0 hx hZ hown (host := "") (Or.inl (hw _ (List.mem_of_getElem? (i := 26) rfl))) Via.refl e0 B0 (g := (mkF m 2 #[.val (.ref x0), .val (.int x1), .val (.int x2), .unset, .unset, .unset, .unset] [(.ref x0), (.int x1)])) rfl rfl (hb hby d8_2)
  have pre2 : Steps p.tables e below (s₁.setTop (entryFrame m #[(.ref x0), (.int x1), (.int x2)] 7)) (T2.setTop (mkF m 5 #[.val (.ref x0), .val (.int x1), .val (.int x2), .unset, .unset, .unset, .unset] [(.int sz), (.int x1)])) := pre1.trans (st2 _ (Steps.refl _))
  by_cases hc5 : x1 < sz
  · have st3 : Steps p.tables e below (T2.setTop (mkF m 5 #[.val (.ref x0), .val (.int x1), .val (.int x2), .unset, .unset, .unset, .unset] [(.int sz), (.int x1)])) (T2.setTop (mkF m 8 #[.val (.ref x0), .val (.int x1), .val (.int x2), .unset, .unset, .unset, .unset] [])) := by
      refine XS.icmpNo X2.here hx rfl (hb hby d8_5) rfl (tlt hc5).2.1 ?_
      exact Steps.refl _
    have pre3 := pre2.trans st3
    have st4 : Steps p.tables e below (T2.setTop (mkF m 8 #[.val (.ref x0), .val (.int x1), .val (.int x2), .unset, .unset, .unset, .unset] [])) (T2.setTop (mkF m 9 #[.val (.ref x0), .val (.int x1), .val (.int x2), .unset, .unset, .unset, .unset] [(.ref x0)])) := by
      refine XS.aloadN X2.here hx rfl (hb hby d8_8) rfl rfl ?_
      show Steps p.tables e below (T2.setTop (mkF m 9 #[.val (.ref x0), .val (.int x1), .val (.int x2), .unset, .unset, .unset, .unset] [(.ref x0)])) _
      exact Steps.refl _
    have pre4 := pre3.trans st4
    obtain ⟨T5, X5, e5, st5⟩ := getF X2 hx hZ hown (host := "") (Or.inl (hw _ (List.mem_of_getElem? (i := 13) rfl))) Via.refl e2 B1 (g := (mkF m 9 #[.val (.ref x0), .val (.int x1), .val (.int x2), .unset, .unset, .unset, .unset] [(.ref x0)])) rfl rfl (hb hby d8_9)
    have pre5 : Steps p.tables e below (s₁.setTop (entryFrame m #[(.ref x0), (.int x1), (.int x2)] 7)) (T5.setTop (mkF m 12 #[.val (.ref x0), .val (.int x1), .val (.int x2), .unset, .unset, .unset, .unset] [(.ref ao)])) := pre4.trans (st5 _ (Steps.refl _))
    have st6 : Steps p.tables e below (T5.setTop (mkF m 12 #[.val (.ref x0), .val (.int x1), .val (.int x2), .unset, .unset, .unset, .unset] [(.ref ao)])) (T5.setTop (mkF m 13 #[.val (.ref x0), .val (.int x1), .val (.int x2), .unset, .unset, .unset, .unset] [(.int x1), (.ref ao)])) := by
      refine XS.iloadN X5.here hx rfl (hb hby d8_12) rfl ?_
      show Steps p.tables e below (T5.setTop (mkF m 13 #[.val (.ref x0), .val (.int x1), .val (.int x2), .unset, .unset, .unset, .unset] [(.int x1), (.ref ao)])) _
      exact Steps.refl _
    have pre6 := pre5.trans st6
    obtain ⟨cl7, Ar7, q7, S7, G7, H7, J7⟩ := id B2
    have hx1 : x1.toInt < sz.toInt := by rw [← Int32.lt_iff_toInt_lt]; exact hc5
    have hA := own_at G (j := x1) G.1.2.2.2.1 hx1
    obtain ⟨wl, hwl⟩ : ∃ z : Int32, z = oo (x1.toInt.toNat) := ⟨_, rfl⟩
    have in7 : ¬ (x1 < 0 ∨ cl7.slots.size ≤ (x1).toNatClampNeg) := inb_of S7 hA.1
    have at7 : cl7.slots[(x1).toNatClampNeg]? = some (.int wl) := Has.at H7 in7 (by rw [hwl]; exact hA.2)
    have st7 : Steps p.tables e below (T5.setTop (mkF m 13 #[.val (.ref x0), .val (.int x1), .val (.int x2), .unset, .unset, .unset, .unset] [(.int x1), (.ref ao)])) (T5.setTop (mkF m 14 #[.val (.ref x0), .val (.int x1), .val (.int x2), .unset, .unset, .unset, .unset] [(.int wl)])) := X5.iaload hx (j := x1) (v := (.int wl)) (by rw [e5]; exact Ar7.1) (State.isArrayOf_alike hZ.alike Ar7.2.1) Ar7.2.2 in7 at7 (g := (mkF m 13 #[.val (.ref x0), .val (.int x1), .val (.int x2), .unset, .unset, .unset, .unset] [(.int x1), (.ref ao)])) rfl rfl (hb hby d8_13) _ (Steps.refl _)
    have pre7 := pre6.trans st7
    have st8 : Steps p.tables e below (T5.setTop (mkF m 14 #[.val (.ref x0), .val (.int x1), .val (.int x2), .unset, .unset, .unset, .unset] [(.int wl)])) (T5.setTop (mkF m 15 #[.val (.ref x0), .val (.int x1), .val (.int x2), .unset, .unset, .unset, .unset] [(.int x2), (.int wl)])) := by
      refine XS.iloadN X5.here hx rfl (hb hby d8_14) rfl ?_
      show Steps p.tables e below (T5.setTop (mkF m 15 #[.val (.ref x0), .val (.int x1), .val (.int x2), .unset, .unset, .unset, .unset] [(.int x2), (.int wl)])) _
      exact Steps.refl _
    have pre8 := pre7.trans st8
    by_cases hc15 : wl < x2
    · have st9 : Steps p.tables e below (T5.setTop (mkF m 15 #[.val (.ref x0), .val (.int x1), .val (.int x2), .unset, .unset, .unset, .unset] [(.int x2), (.int wl)])) (T5.setTop (mkF m 20 #[.val (.ref x0), .val (.int x1), .val (.int x2), .unset, .unset, .unset, .unset] [])) := by
        refine XS.icmpYes X5.here hx rfl (pc0 := 15) (pc' := 20) rfl (hb hby d8_15) rfl (tlt hc15).1 (by decide) (by decide) ?_
        exact Steps.refl _
      have pre9 := pre8.trans st9
      have st10 : Steps p.tables e below (T5.setTop (mkF m 20 #[.val (.ref x0), .val (.int x1), .val (.int x2), .unset, .unset, .unset, .unset] [])) (T5.setTop (mkF m 26 #[.val (.ref x0), .val (.int x1), .val (.int x2), .val (.int x1), .val (.int (1 : Int32)), .unset, .unset] [(.ref x0)])) := by
        refine XS.iloadN X5.here hx rfl (hb hby d8_20) rfl ?_
        show Steps p.tables e below (T5.setTop (mkF m 21 #[.val (.ref x0), .val (.int x1), .val (.int x2), .unset, .unset, .unset, .unset] [(.int x1)])) _
        refine XS.istoreN X5.here hx rfl (hb hby d8_21) rfl (l' := #[.val (.ref x0), .val (.int x1), .val (.int x2), .val (.int x1), .unset, .unset, .unset]) rfl ?_
        show Steps p.tables e below (T5.setTop (mkF m 22 #[.val (.ref x0), .val (.int x1), .val (.int x2), .val (.int x1), .unset, .unset, .unset] [])) _
        refine XS.iconst X5.here hx rfl (hb hby d8_22) ?_
        show Steps p.tables e below (T5.setTop (mkF m 23 #[.val (.ref x0), .val (.int x1), .val (.int x2), .val (.int x1), .unset, .unset, .unset] [(.int (1 : Int32))])) _
        refine XS.istore X5.here hx rfl (hb hby d8_23) rfl (l' := #[.val (.ref x0), .val (.int x1), .val (.int x2), .val (.int x1), .val (.int (1 : Int32)), .unset, .unset]) rfl ?_
        show Steps p.tables e below (T5.setTop (mkF m 25 #[.val (.ref x0), .val (.int x1), .val (.int x2), .val (.int x1), .val (.int (1 : Int32)), .unset, .unset] [])) _
        refine XS.aloadN X5.here hx rfl (hb hby d8_25) rfl rfl ?_
        show Steps p.tables e below (T5.setTop (mkF m 26 #[.val (.ref x0), .val (.int x1), .val (.int x2), .val (.int x1), .val (.int (1 : Int32)), .unset, .unset] [(.ref x0)])) _
        exact Steps.refl _
      have pre10 := pre9.trans st10
      obtain ⟨T11, X11, e11, st11⟩ := getF X5 hx hZ hown (host := "") (Or.inl (hw _ (List.mem_of_getElem? (i := 26) rfl))) Via.refl e5 B0 (g := (mkF m 26 #[.val (.ref x0), .val (.int x1), .val (.int x2), .val (.int x1), .val (.int (1 : Int32)), .unset, .unset] [(.ref x0)])) rfl rfl (hb hby d8_26)
      have pre11 : Steps p.tables e below (s₁.setTop (entryFrame m #[(.ref x0), (.int x1), (.int x2)] 7)) (T11.setTop (mkF m 29 #[.val (.ref x0), .val (.int x1), .val (.int x2), .val (.int x1), .val (.int (1 : Int32)), .unset, .unset] [(.int sz)])) := pre10.trans (st11 _ (Steps.refl _))
      have st12 : Steps p.tables e below (T11.setTop (mkF m 29 #[.val (.ref x0), .val (.int x1), .val (.int x2), .val (.int x1), .val (.int (1 : Int32)), .unset, .unset] [(.int sz)])) (T11.setTop (mkF m 31 #[.val (.ref x0), .val (.int x1), .val (.int x2), .val (.int x1), .val (.int (1 : Int32)), .val (.int sz), .unset] [])) := by
        refine XS.istore X11.here hx rfl (hb hby d8_29) rfl (l' := #[.val (.ref x0), .val (.int x1), .val (.int x2), .val (.int x1), .val (.int (1 : Int32)), .val (.int sz), .unset]) rfl ?_
        show Steps p.tables e below (T11.setTop (mkF m 31 #[.val (.ref x0), .val (.int x1), .val (.int x2), .val (.int x1), .val (.int (1 : Int32)), .val (.int sz), .unset] [])) _
        exact Steps.refl _
      have pre12 := pre11.trans st12
      have hlt : (oo (x1.toInt.toNat)).toInt < x2.toInt := by rw [← Int32.lt_iff_toInt_lt, ← hwl]; exact hc15
      obtain ⟨Ta13, b13, st13, a13, s13, q13, Xa13, ea13, ⟨f1, f2, f3, f4, f5⟩, sa13⟩ := own_l1 (en := x1) (tg := x2) hx hZ hw hby hml hown B0 B1 B2 G 8 _ x1 (1 : Int32) .unset One.u X11 e11 (by omega) hx1 hlt (by decide) (by decide) (by have := G.1.2.1; have := G.1.2.2.2.1; omega)
      obtain ⟨T13, bb13, r13, ss13, X13, e13, hF13, sb13⟩ := own_l2 (en := x1) (tg := x2) hx hZ hw hby hml hown B0 B1 B2 G 8 _ b13 st13 a13 s13 q13 Xa13 ea13 f1 f2 f3 f4 f5 (by have := G.1.2.1; have := G.1.2.2.2.1; omega)
      have pre13 := pre12.trans (sa13.trans sb13)
      have st14 : Steps p.tables e below (T13.setTop (mkF m 118 #[.val (.ref x0), .val (.int x1), .val (.int x2), .val (.int bb13), .val (.int st13), .val (.int r13), ss13] [])) (T13.setTop (mkF m 120 #[.val (.ref x0), .val (.int x1), .val (.int x2), .val (.int bb13), .val (.int st13), .val (.int r13), ss13] [(.int r13)])) := by
        refine XS.iload X13.here hx rfl (hb hby d8_118) rfl ?_
        show Steps p.tables e below (T13.setTop (mkF m 120 #[.val (.ref x0), .val (.int x1), .val (.int x2), .val (.int bb13), .val (.int st13), .val (.int r13), ss13] [(.int r13)])) _
        exact Steps.refl _
      have pre14 := pre13.trans st14
      obtain ⟨fs, hr, hrun, hended, hW, hsame⟩ := X13.leave (v := some (.int r13)) (fun h => by rw [Bd.returns] at h; cases h)
      refine ⟨_, _, pre14.trans ?_, hrun, hended, _, _, rfl, ?_, ⟨_, rfl⟩, hW, hsame.mono (by decide) (by decide)⟩
      · show Steps p.tables e below (T13.setTop (mkF m 120 #[.val (.ref x0), .val (.int x1), .val (.int x2), .val (.int bb13), .val (.int st13), .val (.int r13), ss13] [(.int r13)])) _
        exact retI X13 hx Bd.returns (hb hby d8_120) hr
      · show Q8 Z x0 x1 x2 sz ao ko zc vs oo h0 n0 _ T13.heap _
        rw [e13]
        exact ⟨r13, rfl, N0, K0, hF13⟩
    · have st15 : Steps p.tables e below (T5.setTop (mkF m 15 #[.val (.ref x0), .val (.int x1), .val (.int x2), .unset, .unset, .unset, .unset] [(.int x2), (.int wl)])) (T5.setTop (mkF m 18 #[.val (.ref x0), .val (.int x1), .val (.int x2), .unset, .unset, .unset, .unset] [])) := by
        refine XS.icmpNo X5.here hx rfl (hb hby d8_15) rfl (flt hc15).1 ?_
        exact Steps.refl _
      have pre15 := pre8.trans st15
      have st16 : Steps p.tables e below (T5.setTop (mkF m 18 #[.val (.ref x0), .val (.int x1), .val (.int x2), .unset, .unset, .unset, .unset] [])) (T5.setTop (mkF m 19 #[.val (.ref x0), .val (.int x1), .val (.int x2), .unset, .unset, .unset, .unset] [(.int x1)])) := by
        refine XS.iloadN X5.here hx rfl (hb hby d8_18) rfl ?_
        show Steps p.tables e below (T5.setTop (mkF m 19 #[.val (.ref x0), .val (.int x1), .val (.int x2), .unset, .unset, .unset, .unset] [(.int x1)])) _
        exact Steps.refl _
      have pre16 := pre15.trans st16
      obtain ⟨fs, hr, hrun, hended, hW, hsame⟩ := X5.leave (v := some (.int x1)) (fun h => by rw [Bd.returns] at h; cases h)
      refine ⟨_, _, pre16.trans ?_, hrun, hended, _, _, rfl, ?_, ⟨_, rfl⟩, hW, hsame.mono (by decide) (by decide)⟩
      · show Steps p.tables e below (T5.setTop (mkF m 19 #[.val (.ref x0), .val (.int x1), .val (.int x2), .unset, .unset, .unset, .unset] [(.int x1)])) _
        exact retI X5 hx Bd.returns (hb hby d8_19) hr
      · show Q8 Z x0 x1 x2 sz ao ko zc vs oo h0 n0 _ T5.heap _
        rw [e5]
        exact ⟨x1, rfl, N0, K0, (own_f2 G hc5 (by rw [← hwl]; exact hc15))⟩
  · have st17 : Steps p.tables e below (T2.setTop (mkF m 5 #[.val (.ref x0), .val (.int x1), .val (.int x2), .unset, .unset, .unset, .unset] [(.int sz), (.int x1)])) (T2.setTop (mkF m 18 #[.val (.ref x0), .val (.int x1), .val (.int x2), .unset, .unset, .unset, .unset] [])) := by
      refine XS.icmpYes X2.here hx rfl (pc0 := 5) (pc' := 18) rfl (hb hby d8_5) rfl (flt hc5).2.1 (by decide) (by decide) ?_
      exact Steps.refl _
    have pre17 := pre2.trans st17
    have st18 : Steps p.tables e below (T2.setTop (mkF m 18 #[.val (.ref x0), .val (.int x1), .val (.int x2), .unset, .unset, .unset, .unset] [])) (T2.setTop (mkF m 19 #[.val (.ref x0), .val (.int x1), .val (.int x2), .unset, .unset, .unset, .unset] [(.int x1)])) := by
      refine XS.iloadN X2.here hx rfl (hb hby d8_18) rfl ?_
      show Steps p.tables e below (T2.setTop (mkF m 19 #[.val (.ref x0), .val (.int x1), .val (.int x2), .unset, .unset, .unset, .unset] [(.int x1)])) _
      exact Steps.refl _
    have pre18 := pre17.trans st18
    obtain ⟨fs, hr, hrun, hended, hW, hsame⟩ := X2.leave (v := some (.int x1)) (fun h => by rw [Bd.returns] at h; cases h)
    refine ⟨_, _, pre18.trans ?_, hrun, hended, _, _, rfl, ?_, ⟨_, rfl⟩, hW, hsame.mono (by decide) (by decide)⟩
    · show Steps p.tables e below (T2.setTop (mkF m 19 #[.val (.ref x0), .val (.int x1), .val (.int x2), .unset, .unset, .unset, .unset] [(.int x1)])) _
      exact retI X2 hx Bd.returns (hb hby d8_19) hr
    · show Q8 Z x0 x1 x2 sz ao ko zc vs oo h0 n0 _ T2.heap _
      rw [e2]
      exact ⟨x1, rfl, N0, K0, (own_f1 G hc5)⟩
theorem own_w {n en tg y W W' i : Int32} (h : W' = (if i < n then (if i < en then W else (if y < tg then W else i)) else W)) : ((i.toInt < n.toInt ∧ en.toInt ≤ i.toInt ∧ tg.toInt ≤ y.toInt) ∧ W'.toInt = i.toInt) ∨ (¬ (i.toInt < n.toInt ∧ en.toInt ≤ i.toInt ∧ tg.toInt ≤ y.toInt) ∧ W'.toInt = W.toInt) := by
  subst h
  by_cases h1 : i < n
  · by_cases h2 : i < en
    · simp only [if_pos h1, if_pos h2]; rw [Int32.lt_iff_toInt_lt] at h1 h2; right; exact ⟨by omega, by first | rfl | trivial⟩
    · by_cases h3 : y < tg
      · simp only [if_pos h1, if_neg h2, if_pos h3]; rw [Int32.lt_iff_toInt_lt] at h1 h2 h3; right; exact ⟨by omega, by first | rfl | trivial⟩
      · simp only [if_pos h1, if_neg h2, if_neg h3]; rw [Int32.lt_iff_toInt_lt] at h1 h2 h3; left; exact ⟨by omega, by first | rfl | trivial⟩
  · simp only [if_neg h1]; rw [Int32.lt_iff_toInt_lt] at h1; right; exact ⟨by omega, by first | rfl | trivial⟩
theorem own_P {n en tg r i y W W' : Int} (hk : ((i < n ∧ en ≤ i ∧ tg ≤ y) ∧ W' = i) ∨ (¬ (i < n ∧ en ≤ i ∧ tg ≤ y) ∧ W' = W)) (ha : en ≤ i → i < r → y < tg) (hb : r = i → i < n → tg ≤ y) (f1 : en ≤ r) (f2 : r ≤ n) (hP : (r = n ∨ i + 1 ≤ r) → W = r) : (r = n ∨ i ≤ r) → W' = r := by
  intro h
  rcases hk with ⟨⟨q1, q2, q3⟩, q4⟩ | ⟨q1, q2⟩
  · by_cases c : i < r
    · have := ha q2 c; omega
    · omega
  · by_cases c : r = i
    · by_cases d : i < n
      · have := hb c d; exact absurd ⟨d, by omega, this⟩ q1
      · rw [q2]; exact hP (Or.inl (by omega))
    · rw [q2]; exact hP (by omega)
theorem own_fin {o : Nat → Int32} {n en tg sz r y0 y1 y2 y3 y4 y5 y6 w0 w1 w2 w3 w4 w5 w6 : Int32} (hF : own_First o sz en tg r) (hsz : sz = n) (hn0 : 0 ≤ sz.toInt) (hn7 : sz.toInt ≤ 7) (he : 0 ≤ en.toInt) (hO0 : 0 < sz.toInt → o 0 = y0) (hO1 : 1 < sz.toInt → o 1 = y1) (hO2 : 2 < sz.toInt → o 2 = y2) (hO3 : 3 < sz.toInt → o 3 = y3) (hO4 : 4 < sz.toInt → o 4 = y4) (hO5 : 5 < sz.toInt → o 5 = y5) (hO6 : 6 < sz.toInt → o 6 = y6) (e6 : w6 = (if (6 : Int32) < n then (if (6 : Int32) < en then n else (if y6 < tg then n else (6 : Int32))) else n)) (e5 : w5 = (if (5 : Int32) < n then (if (5 : Int32) < en then w6 else (if y5 < tg then w6 else (5 : Int32))) else w6)) (e4 : w4 = (if (4 : Int32) < n then (if (4 : Int32) < en then w5 else (if y4 < tg then w5 else (4 : Int32))) else w5)) (e3 : w3 = (if (3 : Int32) < n then (if (3 : Int32) < en then w4 else (if y3 < tg then w4 else (3 : Int32))) else w4)) (e2 : w2 = (if (2 : Int32) < n then (if (2 : Int32) < en then w3 else (if y2 < tg then w3 else (2 : Int32))) else w3)) (e1 : w1 = (if (1 : Int32) < n then (if (1 : Int32) < en then w2 else (if y1 < tg then w2 else (1 : Int32))) else w2)) (e0 : w0 = (if (0 : Int32) < n then (if (0 : Int32) < en then w1 else (if y0 < tg then w1 else (0 : Int32))) else w1)) : r = w0 := by
  subst hsz
  obtain ⟨f1, f2, f3, f4⟩ := hF
  have c0 : (0 : Int32).toInt = 0 := by decide
  have k0 := own_w e0
  rw [c0] at k0
  have a0 : en.toInt ≤ 0 → 0 < r.toInt → y0.toInt < tg.toInt := fun p1 p2 => by have := f3 0 p1 p2; rw [hO0 (by omega)] at this; exact this
  have b0 : r.toInt = 0 → 0 < sz.toInt → tg.toInt ≤ y0.toInt := fun p1 p2 => by have := f4 (by omega); have e : r.toInt.toNat = 0 := (by omega); rw [e, hO0 (by omega)] at this; exact this
  have c1 : (1 : Int32).toInt = 1 := by decide
  have k1 := own_w e1
  rw [c1] at k1
  have a1 : en.toInt ≤ 1 → 1 < r.toInt → y1.toInt < tg.toInt := fun p1 p2 => by have := f3 1 p1 p2; rw [hO1 (by omega)] at this; exact this
  have b1 : r.toInt = 1 → 1 < sz.toInt → tg.toInt ≤ y1.toInt := fun p1 p2 => by have := f4 (by omega); have e : r.toInt.toNat = 1 := (by omega); rw [e, hO1 (by omega)] at this; exact this
  have c2 : (2 : Int32).toInt = 2 := by decide
  have k2 := own_w e2
  rw [c2] at k2
  have a2 : en.toInt ≤ 2 → 2 < r.toInt → y2.toInt < tg.toInt := fun p1 p2 => by have := f3 2 p1 p2; rw [hO2 (by omega)] at this; exact this
  have b2 : r.toInt = 2 → 2 < sz.toInt → tg.toInt ≤ y2.toInt := fun p1 p2 => by have := f4 (by omega); have e : r.toInt.toNat = 2 := (by omega); rw [e, hO2 (by omega)] at this; exact this
  have c3 : (3 : Int32).toInt = 3 := by decide
  have k3 := own_w e3
  rw [c3] at k3
  have a3 : en.toInt ≤ 3 → 3 < r.toInt → y3.toInt < tg.toInt := fun p1 p2 => by have := f3 3 p1 p2; rw [hO3 (by omega)] at this; exact this
  have b3 : r.toInt = 3 → 3 < sz.toInt → tg.toInt ≤ y3.toInt := fun p1 p2 => by have := f4 (by omega); have e : r.toInt.toNat = 3 := (by omega); rw [e, hO3 (by omega)] at this; exact this
  have c4 : (4 : Int32).toInt = 4 := by decide
  have k4 := own_w e4
  rw [c4] at k4
  have a4 : en.toInt ≤ 4 → 4 < r.toInt → y4.toInt < tg.toInt := fun p1 p2 => by have := f3 4 p1 p2; rw [hO4 (by omega)] at this; exact this
  have b4 : r.toInt = 4 → 4 < sz.toInt → tg.toInt ≤ y4.toInt := fun p1 p2 => by have := f4 (by omega); have e : r.toInt.toNat = 4 := (by omega); rw [e, hO4 (by omega)] at this; exact this
  have c5 : (5 : Int32).toInt = 5 := by decide
  have k5 := own_w e5
  rw [c5] at k5
  have a5 : en.toInt ≤ 5 → 5 < r.toInt → y5.toInt < tg.toInt := fun p1 p2 => by have := f3 5 p1 p2; rw [hO5 (by omega)] at this; exact this
  have b5 : r.toInt = 5 → 5 < sz.toInt → tg.toInt ≤ y5.toInt := fun p1 p2 => by have := f4 (by omega); have e : r.toInt.toNat = 5 := (by omega); rw [e, hO5 (by omega)] at this; exact this
  have c6 : (6 : Int32).toInt = 6 := by decide
  have k6 := own_w e6
  rw [c6] at k6
  have a6 : en.toInt ≤ 6 → 6 < r.toInt → y6.toInt < tg.toInt := fun p1 p2 => by have := f3 6 p1 p2; rw [hO6 (by omega)] at this; exact this
  have b6 : r.toInt = 6 → 6 < sz.toInt → tg.toInt ≤ y6.toInt := fun p1 p2 => by have := f4 (by omega); have e : r.toInt.toNat = 6 := (by omega); rw [e, hO6 (by omega)] at this; exact this
  have P7 : (r.toInt = sz.toInt ∨ 6 + 1 ≤ r.toInt) → sz.toInt = r.toInt := by omega
  have P6 : (r.toInt = sz.toInt ∨ (6 : Int) ≤ r.toInt) → w6.toInt = r.toInt := own_P k6 a6 b6 f1 f2 P7
  have P5 : (r.toInt = sz.toInt ∨ (5 : Int) ≤ r.toInt) → w5.toInt = r.toInt := own_P k5 a5 b5 f1 f2 P6
  have P4 : (r.toInt = sz.toInt ∨ (4 : Int) ≤ r.toInt) → w4.toInt = r.toInt := own_P k4 a4 b4 f1 f2 P5
  have P3 : (r.toInt = sz.toInt ∨ (3 : Int) ≤ r.toInt) → w3.toInt = r.toInt := own_P k3 a3 b3 f1 f2 P4
  have P2 : (r.toInt = sz.toInt ∨ (2 : Int) ≤ r.toInt) → w2.toInt = r.toInt := own_P k2 a2 b2 f1 f2 P3
  have P1 : (r.toInt = sz.toInt ∨ (1 : Int) ≤ r.toInt) → w1.toInt = r.toInt := own_P k1 a1 b1 f1 f2 P2
  have P0 : (r.toInt = sz.toInt ∨ (0 : Int) ≤ r.toInt) → w0.toInt = r.toInt := own_P k0 a0 b0 f1 f2 P1
  rw [← Int32.toInt_inj]
  have := P0 (Or.inr (by omega))
  omega
theorem pdT_0 : parseMethodDescriptor "(II)I" = some ⟨[.int, .int], some .int⟩ := by decide +kernel
set_option maxRecDepth 65536 in
set_option maxHeartbeats 40000000 in
theorem own_tail {p : Program} {l : Launch} {e : Env} {s : State} {m : MethodId} {args : Array Value} {below : List Frame} {meth : Method} {c : Code} {T0 : State} {locs : List Loc} {cells slots : Nat} {Z : State} {a0 : Array Value} {h0 : Heap} {x0 x2 x3 x4 n nr en tg : Int32} {x1 : Int64} {br pp ao : Addr} {ko kb : ClassId} {zc sz : Int32} {vs : List Value} {oo : Nat → Int32} {y0 y1 y2 y3 y4 y5 y6 : Int32}
    (X0 : Stand p l e room_1 s m args below meth c T0 locs cells slots) (n0 : Nat) (Z0 : n0 ≤ h0.size) (N0 : Fr n0 locs) (hcl : cells ≤ room_1.cells) (hsl : slots ≤ room_1.slots) (hx : p.tables.exec = Jvm.exec) (hZ : Z.Warmed39 s.vm) (hw : ∀ d ∈ tables_1, d.before a0 Z = true) (hby : c.code = code) (hml : c.maxLocals = 14) (hown : s.vm.findClass "com/example/portia/portia/index/PostingsAdvancePinLaw" = some m.cls) (e0 : T0.heap = h0) (B0 : Exa Z h0 pp "com/example/portia/portia/index/Postings") (B1 : Fld Z h0 pp "com/example/portia/portia/index/Postings" "size" "I" (.int sz)) (B2 : Fld Z h0 pp "com/example/portia/portia/index/Postings" "ordinals" "[I" (.ref ao)) (B3 : Arv Z h0 ao ko .int zc vs (.int (0 : Int32))) (B4 : Arv Z h0 br kb .int (7 : Int32) [(.int y0), (.int y1), (.int y2), (.int y3), (.int y4), (.int y5), (.int y6)] (.int (0 : Int32))) (G : own_G oo vs sz zc en) (hsz : sz = n) (hO0 : 0 < sz.toInt → oo 0 = y0) (hO1 : 1 < sz.toInt → oo 1 = y1) (hO2 : 2 < sz.toInt → oo 2 = y2) (hO3 : 3 < sz.toInt → oo 3 = y3) (hO4 : 4 < sz.toInt → oo 4 = y4) (hO5 : 5 < sz.toInt → oo 5 = y5) (hO6 : 6 < sz.toInt → oo 6 = y6) :
    ∃ (T' : State) (lc : List Loc) (Ls' : Array Slot), Stand p l e room_1 s m args below meth c T' lc cells slots ∧ Fr n0 lc ∧ Steps p.tables e below (T0.setTop (mkF m 316 #[.val (.int x0), .val (.long x1), .second, .val (.int x2), .val (.int x3), .val (.int x4), .val (.int n), .val (.int nr), .val (.ref br), .val (.int en), .val (.int tg), .val (.ref pp), .unset, .unset] [])) (T'.setTop (mkF m 515 Ls' [(.int (1 : Int32))])) := by
  have pre0 : Steps p.tables e below (T0.setTop (mkF m 316 #[.val (.int x0), .val (.long x1), .second, .val (.int x2), .val (.int x3), .val (.int x4), .val (.int n), .val (.int nr), .val (.ref br), .val (.int en), .val (.int tg), .val (.ref pp), .unset, .unset] [])) (T0.setTop (mkF m 316 #[.val (.int x0), .val (.long x1), .second, .val (.int x2), .val (.int x3), .val (.int x4), .val (.int n), .val (.int nr), .val (.ref br), .val (.int en), .val (.int tg), .val (.ref pp), .unset, .unset] [])) := Steps.refl _
  have st1 : Steps p.tables e below (T0.setTop (mkF m 316 #[.val (.int x0), .val (.long x1), .second, .val (.int x2), .val (.int x3), .val (.int x4), .val (.int n), .val (.int nr), .val (.ref br), .val (.int en), .val (.int tg), .val (.ref pp), .unset, .unset] [])) (T0.setTop (mkF m 322 #[.val (.int x0), .val (.long x1), .second, .val (.int x2), .val (.int x3), .val (.int x4), .val (.int n), .val (.int nr), .val (.ref br), .val (.int en), .val (.int tg), .val (.ref pp), .unset, .unset] [(.int tg), (.int en), (.ref pp)])) := by
    refine XS.aload X0.here hx rfl (hb hby at_316) rfl rfl ?_
    show Steps p.tables e below (T0.setTop (mkF m 318 #[.val (.int x0), .val (.long x1), .second, .val (.int x2), .val (.int x3), .val (.int x4), .val (.int n), .val (.int nr), .val (.ref br), .val (.int en), .val (.int tg), .val (.ref pp), .unset, .unset] [(.ref pp)])) _
    refine XS.iload X0.here hx rfl (hb hby at_318) rfl ?_
    show Steps p.tables e below (T0.setTop (mkF m 320 #[.val (.int x0), .val (.long x1), .second, .val (.int x2), .val (.int x3), .val (.int x4), .val (.int n), .val (.int nr), .val (.ref br), .val (.int en), .val (.int tg), .val (.ref pp), .unset, .unset] [(.int en), (.ref pp)])) _
    refine XS.iload X0.here hx rfl (hb hby at_320) rfl ?_
    show Steps p.tables e below (T0.setTop (mkF m 322 #[.val (.int x0), .val (.long x1), .second, .val (.int x2), .val (.int x3), .val (.int x4), .val (.int n), .val (.int nr), .val (.ref br), .val (.int en), .val (.int tg), .val (.ref pp), .unset, .unset] [(.int tg), (.int en), (.ref pp)])) _
    exact Steps.refl _
  have pre1 := pre0.trans st1
  obtain ⟨cq2, kq2, q2a, q2b, q2c⟩ := isOf hZ e0 B0
  obtain ⟨_, _, ⟨T2, L2, k2, n2⟩, -, X2, ⟨Lc2, hQ2, l2, y2, z2⟩, st2⟩ := X0.virtualBack hx (y := (⟨"com/example/portia/portia/index/Postings", "advance", "(II)I"⟩ : MethodName)) (z := (⟨"com/example/portia/portia/index/Postings", "advance", "(II)I"⟩ : MethodName)) hown (mvT hZ (hw _ (List.mem_of_getElem? (i := 21) rfl))) (mvT hZ (hw _ (List.mem_of_getElem? (i := 22) rfl))) (notFace_of_selects (args := #[]) (mvT hZ (hw _ (List.mem_of_getElem? (i := 24) rfl)))) (mvT hZ (hw _ (List.mem_of_getElem? (i := 24) rfl))) (mvT hZ (hw _ (List.mem_of_getElem? (i := 23) rfl))) (by decide) (backOf (W := 0) (rm8 l Z a0 hw [] pp en tg sz ao ko zc vs oo h0 n0 Z0 B1 B2 B3 G) hZ (hw _ (List.mem_of_getElem? (i := 25) rfl)) (hw _ (List.mem_of_getElem? (i := 6) rfl)) (by decide) (by decide)) q2a q2c (g := (mkF m 322 #[.val (.int x0), .val (.long x1), .second, .val (.int x2), .val (.int x3), .val (.int x4), .val (.int n), .val (.int nr), .val (.ref br), .val (.int en), .val (.int tg), .val (.ref pp), .unset, .unset] [(.int tg), (.int en), (.ref pp)])) rfl (by rw [hml]; rfl) (Steps.refl _) (argsL := [(.int en), (.int tg)]) (rest := []) (lenOf pdT_0 rfl) rfl (by show 2 * 0 + _ ≤ _; exact Nat.le_of_eq rfl) (hb hby at_322) (fun _ _ => ⟨rfl, e0, hcl, hsl⟩)
  dsimp only [Pt.U, Pt.locs, Pt.cells, Pt.slots] at X2 l2 y2 z2 st2 hQ2
  subst l2 y2 z2
  obtain ⟨r_2, rfl, Nq2, Kq2, R2_0⟩ := hQ2
  have F3 : Exa Z T2.heap pp "com/example/portia/portia/index/Postings" := B0.keep Kq2
  have F4 : Fld Z T2.heap pp "com/example/portia/portia/index/Postings" "size" "I" (.int sz) := B1.keep Kq2 nin0
  have F5 : Fld Z T2.heap pp "com/example/portia/portia/index/Postings" "ordinals" "[I" (.ref ao) := B2.keep Kq2 nin0
  have F6 : Arv Z T2.heap ao ko .int zc vs (.int (0 : Int32)) := B3.keep Kq2 nin0
  have F7 : Arv Z T2.heap br kb .int (7 : Int32) [(.int y0), (.int y1), (.int y2), (.int y3), (.int y4), (.int y5), (.int y6)] (.int (0 : Int32)) := B4.keep Kq2 nin0
  have Z2 : n0 ≤ T2.heap.size := Nat.le_trans Z0 Kq2.1
  have N2 := Fr.app N0 Nq2
  have pre2 : Steps p.tables e below (T0.setTop (mkF m 316 #[.val (.int x0), .val (.long x1), .second, .val (.int x2), .val (.int x3), .val (.int x4), .val (.int n), .val (.int nr), .val (.ref br), .val (.int en), .val (.int tg), .val (.ref pp), .unset, .unset] [])) (T2.setTop (mkF m 325 #[.val (.int x0), .val (.long x1), .second, .val (.int x2), .val (.int x3), .val (.int x4), .val (.int n), .val (.int nr), .val (.ref br), .val (.int en), .val (.int tg), .val (.ref pp), .unset, .unset] [(.int r_2)])) := pre1.trans st2
  obtain ⟨cl8, Ar8, q8, S8, G8, H8, J8⟩ := id F7
  have in8_6 : ¬ ((6 : Int32) < 0 ∨ cl8.slots.size ≤ ((6 : Int32)).toNatClampNeg) := inb_of S8 ⟨by decide, by decide⟩
  have at8_6 : cl8.slots[((6 : Int32)).toNatClampNeg]? = some (.int y6) := Has.at H8 in8_6 rfl
  obtain ⟨v9, hv9⟩ : ∃ z : Int32, z = (if (6 : Int32) < n then (if (6 : Int32) < en then n else (if y6 < tg then n else (6 : Int32))) else n) := ⟨_, rfl⟩
  have st10 : Steps p.tables e below (T2.setTop (mkF m 325 #[.val (.int x0), .val (.long x1), .second, .val (.int x2), .val (.int x3), .val (.int x4), .val (.int n), .val (.int nr), .val (.ref br), .val (.int en), .val (.int tg), .val (.ref pp), .unset, .unset] [(.int r_2)])) (T2.setTop (mkF m 359 #[.val (.int x0), .val (.long x1), .second, .val (.int x2), .val (.int x3), .val (.int x4), .val (.int n), .val (.int nr), .val (.ref br), .val (.int en), .val (.int tg), .val (.ref pp), .val (.int r_2), .val (.int v9)] [])) := by
    subst v9
    refine XS.istore X2.here hx rfl (hb hby at_325) rfl (l' := #[.val (.int x0), .val (.long x1), .second, .val (.int x2), .val (.int x3), .val (.int x4), .val (.int n), .val (.int nr), .val (.ref br), .val (.int en), .val (.int tg), .val (.ref pp), .val (.int r_2), .unset]) rfl ?_
    show Steps p.tables e below (T2.setTop (mkF m 327 #[.val (.int x0), .val (.long x1), .second, .val (.int x2), .val (.int x3), .val (.int x4), .val (.int n), .val (.int nr), .val (.ref br), .val (.int en), .val (.int tg), .val (.ref pp), .val (.int r_2), .unset] [])) _
    refine XS.iload X2.here hx rfl (hb hby at_327) rfl ?_
    show Steps p.tables e below (T2.setTop (mkF m 329 #[.val (.int x0), .val (.long x1), .second, .val (.int x2), .val (.int x3), .val (.int x4), .val (.int n), .val (.int nr), .val (.ref br), .val (.int en), .val (.int tg), .val (.ref pp), .val (.int r_2), .unset] [(.int n)])) _
    refine XS.istore X2.here hx rfl (hb hby at_329) rfl (l' := #[.val (.int x0), .val (.long x1), .second, .val (.int x2), .val (.int x3), .val (.int x4), .val (.int n), .val (.int nr), .val (.ref br), .val (.int en), .val (.int tg), .val (.ref pp), .val (.int r_2), .val (.int n)]) rfl ?_
    show Steps p.tables e below (T2.setTop (mkF m 331 #[.val (.int x0), .val (.long x1), .second, .val (.int x2), .val (.int x3), .val (.int x4), .val (.int n), .val (.int nr), .val (.ref br), .val (.int en), .val (.int tg), .val (.ref pp), .val (.int r_2), .val (.int n)] [])) _
    refine XS.bipush X2.here hx rfl (hb hby at_331) ?_
    show Steps p.tables e below (T2.setTop (mkF m 333 #[.val (.int x0), .val (.long x1), .second, .val (.int x2), .val (.int x3), .val (.int x4), .val (.int n), .val (.int nr), .val (.ref br), .val (.int en), .val (.int tg), .val (.ref pp), .val (.int r_2), .val (.int n)] [(.int (6 : Int32))])) _
    refine XS.iload X2.here hx rfl (hb hby at_333) rfl ?_
    show Steps p.tables e below (T2.setTop (mkF m 335 #[.val (.int x0), .val (.long x1), .second, .val (.int x2), .val (.int x3), .val (.int x4), .val (.int n), .val (.int nr), .val (.ref br), .val (.int en), .val (.int tg), .val (.ref pp), .val (.int r_2), .val (.int n)] [(.int n), (.int (6 : Int32))])) _
    refine Steps.trans (s₂ := T2.setTop (mkF m 359 #[.val (.int x0), .val (.long x1), .second, .val (.int x2), .val (.int x3), .val (.int x4), .val (.int n), .val (.int nr), .val (.ref br), .val (.int en), .val (.int tg), .val (.ref pp), .val (.int r_2), .val (.int (if (6 : Int32) < n then (if (6 : Int32) < en then n else (if y6 < tg then n else (6 : Int32))) else n))] [])) ?_ ?_
    · by_cases hc335 : (6 : Int32) < n
      · refine XS.icmpNo X2.here hx rfl (hb hby at_335) rfl (tlt hc335).2.1 ?_
        show Steps p.tables e below (T2.setTop (mkF m 338 #[.val (.int x0), .val (.long x1), .second, .val (.int x2), .val (.int x3), .val (.int x4), .val (.int n), .val (.int nr), .val (.ref br), .val (.int en), .val (.int tg), .val (.ref pp), .val (.int r_2), .val (.int n)] [])) _
        refine XS.bipush X2.here hx rfl (hb hby at_338) ?_
        show Steps p.tables e below (T2.setTop (mkF m 340 #[.val (.int x0), .val (.long x1), .second, .val (.int x2), .val (.int x3), .val (.int x4), .val (.int n), .val (.int nr), .val (.ref br), .val (.int en), .val (.int tg), .val (.ref pp), .val (.int r_2), .val (.int n)] [(.int (6 : Int32))])) _
        refine XS.iload X2.here hx rfl (hb hby at_340) rfl ?_
        show Steps p.tables e below (T2.setTop (mkF m 342 #[.val (.int x0), .val (.long x1), .second, .val (.int x2), .val (.int x3), .val (.int x4), .val (.int n), .val (.int nr), .val (.ref br), .val (.int en), .val (.int tg), .val (.ref pp), .val (.int r_2), .val (.int n)] [(.int en), (.int (6 : Int32))])) _
        refine Steps.trans (s₂ := T2.setTop (mkF m 359 #[.val (.int x0), .val (.long x1), .second, .val (.int x2), .val (.int x3), .val (.int x4), .val (.int n), .val (.int nr), .val (.ref br), .val (.int en), .val (.int tg), .val (.ref pp), .val (.int r_2), .val (.int (if (6 : Int32) < en then n else (if y6 < tg then n else (6 : Int32))))] [])) ?_ ?_
        · by_cases hc342 : (6 : Int32) < en
          · refine XS.icmpYes X2.here hx rfl (pc0 := 342) (pc' := 359) rfl (hb hby at_342) rfl (tlt hc342).1 (by decide) (by decide) ?_
            show Steps p.tables e below (T2.setTop (mkF m 359 #[.val (.int x0), .val (.long x1), .second, .val (.int x2), .val (.int x3), .val (.int x4), .val (.int n), .val (.int nr), .val (.ref br), .val (.int en), .val (.int tg), .val (.ref pp), .val (.int r_2), .val (.int n)] [])) _
            try simp only [if_pos hc342]
            exact Steps.refl _
          · refine XS.icmpNo X2.here hx rfl (hb hby at_342) rfl (flt hc342).1 ?_
            show Steps p.tables e below (T2.setTop (mkF m 345 #[.val (.int x0), .val (.long x1), .second, .val (.int x2), .val (.int x3), .val (.int x4), .val (.int n), .val (.int nr), .val (.ref br), .val (.int en), .val (.int tg), .val (.ref pp), .val (.int r_2), .val (.int n)] [])) _
            refine XS.aload X2.here hx rfl (hb hby at_345) rfl rfl ?_
            show Steps p.tables e below (T2.setTop (mkF m 347 #[.val (.int x0), .val (.long x1), .second, .val (.int x2), .val (.int x3), .val (.int x4), .val (.int n), .val (.int nr), .val (.ref br), .val (.int en), .val (.int tg), .val (.ref pp), .val (.int r_2), .val (.int n)] [(.ref br)])) _
            refine XS.bipush X2.here hx rfl (hb hby at_347) ?_
            show Steps p.tables e below (T2.setTop (mkF m 349 #[.val (.int x0), .val (.long x1), .second, .val (.int x2), .val (.int x3), .val (.int x4), .val (.int n), .val (.int nr), .val (.ref br), .val (.int en), .val (.int tg), .val (.ref pp), .val (.int r_2), .val (.int n)] [(.int (6 : Int32)), (.ref br)])) _
            refine X2.iaload hx (j := (6 : Int32)) (v := (.int y6)) Ar8.1 (State.isArrayOf_alike hZ.alike Ar8.2.1) Ar8.2.2 in8_6 at8_6 (g := (mkF m 349 #[.val (.int x0), .val (.long x1), .second, .val (.int x2), .val (.int x3), .val (.int x4), .val (.int n), .val (.int nr), .val (.ref br), .val (.int en), .val (.int tg), .val (.ref pp), .val (.int r_2), .val (.int n)] [(.int (6 : Int32)), (.ref br)])) rfl rfl (hb hby at_349) _ ?_
            show Steps p.tables e below (T2.setTop (mkF m 350 #[.val (.int x0), .val (.long x1), .second, .val (.int x2), .val (.int x3), .val (.int x4), .val (.int n), .val (.int nr), .val (.ref br), .val (.int en), .val (.int tg), .val (.ref pp), .val (.int r_2), .val (.int n)] [(.int y6)])) _
            refine XS.iload X2.here hx rfl (hb hby at_350) rfl ?_
            show Steps p.tables e below (T2.setTop (mkF m 352 #[.val (.int x0), .val (.long x1), .second, .val (.int x2), .val (.int x3), .val (.int x4), .val (.int n), .val (.int nr), .val (.ref br), .val (.int en), .val (.int tg), .val (.ref pp), .val (.int r_2), .val (.int n)] [(.int tg), (.int y6)])) _
            refine Steps.trans (s₂ := T2.setTop (mkF m 359 #[.val (.int x0), .val (.long x1), .second, .val (.int x2), .val (.int x3), .val (.int x4), .val (.int n), .val (.int nr), .val (.ref br), .val (.int en), .val (.int tg), .val (.ref pp), .val (.int r_2), .val (.int (if y6 < tg then n else (6 : Int32)))] [])) ?_ ?_
            · by_cases hc352 : y6 < tg
              · refine XS.icmpYes X2.here hx rfl (pc0 := 352) (pc' := 359) rfl (hb hby at_352) rfl (tlt hc352).1 (by decide) (by decide) ?_
                show Steps p.tables e below (T2.setTop (mkF m 359 #[.val (.int x0), .val (.long x1), .second, .val (.int x2), .val (.int x3), .val (.int x4), .val (.int n), .val (.int nr), .val (.ref br), .val (.int en), .val (.int tg), .val (.ref pp), .val (.int r_2), .val (.int n)] [])) _
                try simp only [if_pos hc352]
                exact Steps.refl _
              · refine XS.icmpNo X2.here hx rfl (hb hby at_352) rfl (flt hc352).1 ?_
                show Steps p.tables e below (T2.setTop (mkF m 355 #[.val (.int x0), .val (.long x1), .second, .val (.int x2), .val (.int x3), .val (.int x4), .val (.int n), .val (.int nr), .val (.ref br), .val (.int en), .val (.int tg), .val (.ref pp), .val (.int r_2), .val (.int n)] [])) _
                refine XS.bipush X2.here hx rfl (hb hby at_355) ?_
                show Steps p.tables e below (T2.setTop (mkF m 357 #[.val (.int x0), .val (.long x1), .second, .val (.int x2), .val (.int x3), .val (.int x4), .val (.int n), .val (.int nr), .val (.ref br), .val (.int en), .val (.int tg), .val (.ref pp), .val (.int r_2), .val (.int n)] [(.int (6 : Int32))])) _
                refine XS.istore X2.here hx rfl (hb hby at_357) rfl (l' := #[.val (.int x0), .val (.long x1), .second, .val (.int x2), .val (.int x3), .val (.int x4), .val (.int n), .val (.int nr), .val (.ref br), .val (.int en), .val (.int tg), .val (.ref pp), .val (.int r_2), .val (.int (6 : Int32))]) rfl ?_
                show Steps p.tables e below (T2.setTop (mkF m 359 #[.val (.int x0), .val (.long x1), .second, .val (.int x2), .val (.int x3), .val (.int x4), .val (.int n), .val (.int nr), .val (.ref br), .val (.int en), .val (.int tg), .val (.ref pp), .val (.int r_2), .val (.int (6 : Int32))] [])) _
                try simp only [if_neg hc352]
                exact Steps.refl _
            show Steps p.tables e below (T2.setTop (mkF m 359 #[.val (.int x0), .val (.long x1), .second, .val (.int x2), .val (.int x3), .val (.int x4), .val (.int n), .val (.int nr), .val (.ref br), .val (.int en), .val (.int tg), .val (.ref pp), .val (.int r_2), .val (.int (if y6 < tg then n else (6 : Int32)))] [])) _
            try simp only [if_neg hc342]
            exact Steps.refl _
        show Steps p.tables e below (T2.setTop (mkF m 359 #[.val (.int x0), .val (.long x1), .second, .val (.int x2), .val (.int x3), .val (.int x4), .val (.int n), .val (.int nr), .val (.ref br), .val (.int en), .val (.int tg), .val (.ref pp), .val (.int r_2), .val (.int (if (6 : Int32) < en then n else (if y6 < tg then n else (6 : Int32))))] [])) _
        try simp only [if_pos hc335]
        exact Steps.refl _
      · refine XS.icmpYes X2.here hx rfl (pc0 := 335) (pc' := 359) rfl (hb hby at_335) rfl (flt hc335).2.1 (by decide) (by decide) ?_
        show Steps p.tables e below (T2.setTop (mkF m 359 #[.val (.int x0), .val (.long x1), .second, .val (.int x2), .val (.int x3), .val (.int x4), .val (.int n), .val (.int nr), .val (.ref br), .val (.int en), .val (.int tg), .val (.ref pp), .val (.int r_2), .val (.int n)] [])) _
        try simp only [if_neg hc335]
        exact Steps.refl _
    show Steps p.tables e below (T2.setTop (mkF m 359 #[.val (.int x0), .val (.long x1), .second, .val (.int x2), .val (.int x3), .val (.int x4), .val (.int n), .val (.int nr), .val (.ref br), .val (.int en), .val (.int tg), .val (.ref pp), .val (.int r_2), .val (.int (if (6 : Int32) < n then (if (6 : Int32) < en then n else (if y6 < tg then n else (6 : Int32))) else n))] [])) _
    exact Steps.refl _
  have pre10 := pre2.trans st10
  have in8_5 : ¬ ((5 : Int32) < 0 ∨ cl8.slots.size ≤ ((5 : Int32)).toNatClampNeg) := inb_of S8 ⟨by decide, by decide⟩
  have at8_5 : cl8.slots[((5 : Int32)).toNatClampNeg]? = some (.int y5) := Has.at H8 in8_5 rfl
  obtain ⟨v11, hv11⟩ : ∃ z : Int32, z = (if (5 : Int32) < n then (if (5 : Int32) < en then v9 else (if y5 < tg then v9 else (5 : Int32))) else v9) := ⟨_, rfl⟩
  have st12 : Steps p.tables e below (T2.setTop (mkF m 359 #[.val (.int x0), .val (.long x1), .second, .val (.int x2), .val (.int x3), .val (.int x4), .val (.int n), .val (.int nr), .val (.ref br), .val (.int en), .val (.int tg), .val (.ref pp), .val (.int r_2), .val (.int v9)] [])) (T2.setTop (mkF m 383 #[.val (.int x0), .val (.long x1), .second, .val (.int x2), .val (.int x3), .val (.int x4), .val (.int n), .val (.int nr), .val (.ref br), .val (.int en), .val (.int tg), .val (.ref pp), .val (.int r_2), .val (.int v11)] [])) := by
    subst v11
    refine XS.iconst X2.here hx rfl (hb hby at_359) ?_
    show Steps p.tables e below (T2.setTop (mkF m 360 #[.val (.int x0), .val (.long x1), .second, .val (.int x2), .val (.int x3), .val (.int x4), .val (.int n), .val (.int nr), .val (.ref br), .val (.int en), .val (.int tg), .val (.ref pp), .val (.int r_2), .val (.int v9)] [(.int (5 : Int32))])) _
    refine XS.iload X2.here hx rfl (hb hby at_360) rfl ?_
    show Steps p.tables e below (T2.setTop (mkF m 362 #[.val (.int x0), .val (.long x1), .second, .val (.int x2), .val (.int x3), .val (.int x4), .val (.int n), .val (.int nr), .val (.ref br), .val (.int en), .val (.int tg), .val (.ref pp), .val (.int r_2), .val (.int v9)] [(.int n), (.int (5 : Int32))])) _
    refine Steps.trans (s₂ := T2.setTop (mkF m 383 #[.val (.int x0), .val (.long x1), .second, .val (.int x2), .val (.int x3), .val (.int x4), .val (.int n), .val (.int nr), .val (.ref br), .val (.int en), .val (.int tg), .val (.ref pp), .val (.int r_2), .val (.int (if (5 : Int32) < n then (if (5 : Int32) < en then v9 else (if y5 < tg then v9 else (5 : Int32))) else v9))] [])) ?_ ?_
    · by_cases hc362 : (5 : Int32) < n
      · refine XS.icmpNo X2.here hx rfl (hb hby at_362) rfl (tlt hc362).2.1 ?_
        show Steps p.tables e below (T2.setTop (mkF m 365 #[.val (.int x0), .val (.long x1), .second, .val (.int x2), .val (.int x3), .val (.int x4), .val (.int n), .val (.int nr), .val (.ref br), .val (.int en), .val (.int tg), .val (.ref pp), .val (.int r_2), .val (.int v9)] [])) _
        refine XS.iconst X2.here hx rfl (hb hby at_365) ?_
        show Steps p.tables e below (T2.setTop (mkF m 366 #[.val (.int x0), .val (.long x1), .second, .val (.int x2), .val (.int x3), .val (.int x4), .val (.int n), .val (.int nr), .val (.ref br), .val (.int en), .val (.int tg), .val (.ref pp), .val (.int r_2), .val (.int v9)] [(.int (5 : Int32))])) _
        refine XS.iload X2.here hx rfl (hb hby at_366) rfl ?_
        show Steps p.tables e below (T2.setTop (mkF m 368 #[.val (.int x0), .val (.long x1), .second, .val (.int x2), .val (.int x3), .val (.int x4), .val (.int n), .val (.int nr), .val (.ref br), .val (.int en), .val (.int tg), .val (.ref pp), .val (.int r_2), .val (.int v9)] [(.int en), (.int (5 : Int32))])) _
        refine Steps.trans (s₂ := T2.setTop (mkF m 383 #[.val (.int x0), .val (.long x1), .second, .val (.int x2), .val (.int x3), .val (.int x4), .val (.int n), .val (.int nr), .val (.ref br), .val (.int en), .val (.int tg), .val (.ref pp), .val (.int r_2), .val (.int (if (5 : Int32) < en then v9 else (if y5 < tg then v9 else (5 : Int32))))] [])) ?_ ?_
        · by_cases hc368 : (5 : Int32) < en
          · refine XS.icmpYes X2.here hx rfl (pc0 := 368) (pc' := 383) rfl (hb hby at_368) rfl (tlt hc368).1 (by decide) (by decide) ?_
            show Steps p.tables e below (T2.setTop (mkF m 383 #[.val (.int x0), .val (.long x1), .second, .val (.int x2), .val (.int x3), .val (.int x4), .val (.int n), .val (.int nr), .val (.ref br), .val (.int en), .val (.int tg), .val (.ref pp), .val (.int r_2), .val (.int v9)] [])) _
            try simp only [if_pos hc368]
            exact Steps.refl _
          · refine XS.icmpNo X2.here hx rfl (hb hby at_368) rfl (flt hc368).1 ?_
            show Steps p.tables e below (T2.setTop (mkF m 371 #[.val (.int x0), .val (.long x1), .second, .val (.int x2), .val (.int x3), .val (.int x4), .val (.int n), .val (.int nr), .val (.ref br), .val (.int en), .val (.int tg), .val (.ref pp), .val (.int r_2), .val (.int v9)] [])) _
            refine XS.aload X2.here hx rfl (hb hby at_371) rfl rfl ?_
            show Steps p.tables e below (T2.setTop (mkF m 373 #[.val (.int x0), .val (.long x1), .second, .val (.int x2), .val (.int x3), .val (.int x4), .val (.int n), .val (.int nr), .val (.ref br), .val (.int en), .val (.int tg), .val (.ref pp), .val (.int r_2), .val (.int v9)] [(.ref br)])) _
            refine XS.iconst X2.here hx rfl (hb hby at_373) ?_
            show Steps p.tables e below (T2.setTop (mkF m 374 #[.val (.int x0), .val (.long x1), .second, .val (.int x2), .val (.int x3), .val (.int x4), .val (.int n), .val (.int nr), .val (.ref br), .val (.int en), .val (.int tg), .val (.ref pp), .val (.int r_2), .val (.int v9)] [(.int (5 : Int32)), (.ref br)])) _
            refine X2.iaload hx (j := (5 : Int32)) (v := (.int y5)) Ar8.1 (State.isArrayOf_alike hZ.alike Ar8.2.1) Ar8.2.2 in8_5 at8_5 (g := (mkF m 374 #[.val (.int x0), .val (.long x1), .second, .val (.int x2), .val (.int x3), .val (.int x4), .val (.int n), .val (.int nr), .val (.ref br), .val (.int en), .val (.int tg), .val (.ref pp), .val (.int r_2), .val (.int v9)] [(.int (5 : Int32)), (.ref br)])) rfl rfl (hb hby at_374) _ ?_
            show Steps p.tables e below (T2.setTop (mkF m 375 #[.val (.int x0), .val (.long x1), .second, .val (.int x2), .val (.int x3), .val (.int x4), .val (.int n), .val (.int nr), .val (.ref br), .val (.int en), .val (.int tg), .val (.ref pp), .val (.int r_2), .val (.int v9)] [(.int y5)])) _
            refine XS.iload X2.here hx rfl (hb hby at_375) rfl ?_
            show Steps p.tables e below (T2.setTop (mkF m 377 #[.val (.int x0), .val (.long x1), .second, .val (.int x2), .val (.int x3), .val (.int x4), .val (.int n), .val (.int nr), .val (.ref br), .val (.int en), .val (.int tg), .val (.ref pp), .val (.int r_2), .val (.int v9)] [(.int tg), (.int y5)])) _
            refine Steps.trans (s₂ := T2.setTop (mkF m 383 #[.val (.int x0), .val (.long x1), .second, .val (.int x2), .val (.int x3), .val (.int x4), .val (.int n), .val (.int nr), .val (.ref br), .val (.int en), .val (.int tg), .val (.ref pp), .val (.int r_2), .val (.int (if y5 < tg then v9 else (5 : Int32)))] [])) ?_ ?_
            · by_cases hc377 : y5 < tg
              · refine XS.icmpYes X2.here hx rfl (pc0 := 377) (pc' := 383) rfl (hb hby at_377) rfl (tlt hc377).1 (by decide) (by decide) ?_
                show Steps p.tables e below (T2.setTop (mkF m 383 #[.val (.int x0), .val (.long x1), .second, .val (.int x2), .val (.int x3), .val (.int x4), .val (.int n), .val (.int nr), .val (.ref br), .val (.int en), .val (.int tg), .val (.ref pp), .val (.int r_2), .val (.int v9)] [])) _
                try simp only [if_pos hc377]
                exact Steps.refl _
              · refine XS.icmpNo X2.here hx rfl (hb hby at_377) rfl (flt hc377).1 ?_
                show Steps p.tables e below (T2.setTop (mkF m 380 #[.val (.int x0), .val (.long x1), .second, .val (.int x2), .val (.int x3), .val (.int x4), .val (.int n), .val (.int nr), .val (.ref br), .val (.int en), .val (.int tg), .val (.ref pp), .val (.int r_2), .val (.int v9)] [])) _
                refine XS.iconst X2.here hx rfl (hb hby at_380) ?_
                show Steps p.tables e below (T2.setTop (mkF m 381 #[.val (.int x0), .val (.long x1), .second, .val (.int x2), .val (.int x3), .val (.int x4), .val (.int n), .val (.int nr), .val (.ref br), .val (.int en), .val (.int tg), .val (.ref pp), .val (.int r_2), .val (.int v9)] [(.int (5 : Int32))])) _
                refine XS.istore X2.here hx rfl (hb hby at_381) rfl (l' := #[.val (.int x0), .val (.long x1), .second, .val (.int x2), .val (.int x3), .val (.int x4), .val (.int n), .val (.int nr), .val (.ref br), .val (.int en), .val (.int tg), .val (.ref pp), .val (.int r_2), .val (.int (5 : Int32))]) rfl ?_
                show Steps p.tables e below (T2.setTop (mkF m 383 #[.val (.int x0), .val (.long x1), .second, .val (.int x2), .val (.int x3), .val (.int x4), .val (.int n), .val (.int nr), .val (.ref br), .val (.int en), .val (.int tg), .val (.ref pp), .val (.int r_2), .val (.int (5 : Int32))] [])) _
                try simp only [if_neg hc377]
                exact Steps.refl _
            show Steps p.tables e below (T2.setTop (mkF m 383 #[.val (.int x0), .val (.long x1), .second, .val (.int x2), .val (.int x3), .val (.int x4), .val (.int n), .val (.int nr), .val (.ref br), .val (.int en), .val (.int tg), .val (.ref pp), .val (.int r_2), .val (.int (if y5 < tg then v9 else (5 : Int32)))] [])) _
            try simp only [if_neg hc368]
            exact Steps.refl _
        show Steps p.tables e below (T2.setTop (mkF m 383 #[.val (.int x0), .val (.long x1), .second, .val (.int x2), .val (.int x3), .val (.int x4), .val (.int n), .val (.int nr), .val (.ref br), .val (.int en), .val (.int tg), .val (.ref pp), .val (.int r_2), .val (.int (if (5 : Int32) < en then v9 else (if y5 < tg then v9 else (5 : Int32))))] [])) _
        try simp only [if_pos hc362]
        exact Steps.refl _
      · refine XS.icmpYes X2.here hx rfl (pc0 := 362) (pc' := 383) rfl (hb hby at_362) rfl (flt hc362).2.1 (by decide) (by decide) ?_
        show Steps p.tables e below (T2.setTop (mkF m 383 #[.val (.int x0), .val (.long x1), .second, .val (.int x2), .val (.int x3), .val (.int x4), .val (.int n), .val (.int nr), .val (.ref br), .val (.int en), .val (.int tg), .val (.ref pp), .val (.int r_2), .val (.int v9)] [])) _
        try simp only [if_neg hc362]
        exact Steps.refl _
    show Steps p.tables e below (T2.setTop (mkF m 383 #[.val (.int x0), .val (.long x1), .second, .val (.int x2), .val (.int x3), .val (.int x4), .val (.int n), .val (.int nr), .val (.ref br), .val (.int en), .val (.int tg), .val (.ref pp), .val (.int r_2), .val (.int (if (5 : Int32) < n then (if (5 : Int32) < en then v9 else (if y5 < tg then v9 else (5 : Int32))) else v9))] [])) _
    exact Steps.refl _
  have pre12 := pre10.trans st12
  have in8_4 : ¬ ((4 : Int32) < 0 ∨ cl8.slots.size ≤ ((4 : Int32)).toNatClampNeg) := inb_of S8 ⟨by decide, by decide⟩
  have at8_4 : cl8.slots[((4 : Int32)).toNatClampNeg]? = some (.int y4) := Has.at H8 in8_4 rfl
  obtain ⟨v13, hv13⟩ : ∃ z : Int32, z = (if (4 : Int32) < n then (if (4 : Int32) < en then v11 else (if y4 < tg then v11 else (4 : Int32))) else v11) := ⟨_, rfl⟩
  have st14 : Steps p.tables e below (T2.setTop (mkF m 383 #[.val (.int x0), .val (.long x1), .second, .val (.int x2), .val (.int x3), .val (.int x4), .val (.int n), .val (.int nr), .val (.ref br), .val (.int en), .val (.int tg), .val (.ref pp), .val (.int r_2), .val (.int v11)] [])) (T2.setTop (mkF m 407 #[.val (.int x0), .val (.long x1), .second, .val (.int x2), .val (.int x3), .val (.int x4), .val (.int n), .val (.int nr), .val (.ref br), .val (.int en), .val (.int tg), .val (.ref pp), .val (.int r_2), .val (.int v13)] [])) := by
    subst v13
    refine XS.iconst X2.here hx rfl (hb hby at_383) ?_
    show Steps p.tables e below (T2.setTop (mkF m 384 #[.val (.int x0), .val (.long x1), .second, .val (.int x2), .val (.int x3), .val (.int x4), .val (.int n), .val (.int nr), .val (.ref br), .val (.int en), .val (.int tg), .val (.ref pp), .val (.int r_2), .val (.int v11)] [(.int (4 : Int32))])) _
    refine XS.iload X2.here hx rfl (hb hby at_384) rfl ?_
    show Steps p.tables e below (T2.setTop (mkF m 386 #[.val (.int x0), .val (.long x1), .second, .val (.int x2), .val (.int x3), .val (.int x4), .val (.int n), .val (.int nr), .val (.ref br), .val (.int en), .val (.int tg), .val (.ref pp), .val (.int r_2), .val (.int v11)] [(.int n), (.int (4 : Int32))])) _
    refine Steps.trans (s₂ := T2.setTop (mkF m 407 #[.val (.int x0), .val (.long x1), .second, .val (.int x2), .val (.int x3), .val (.int x4), .val (.int n), .val (.int nr), .val (.ref br), .val (.int en), .val (.int tg), .val (.ref pp), .val (.int r_2), .val (.int (if (4 : Int32) < n then (if (4 : Int32) < en then v11 else (if y4 < tg then v11 else (4 : Int32))) else v11))] [])) ?_ ?_
    · by_cases hc386 : (4 : Int32) < n
      · refine XS.icmpNo X2.here hx rfl (hb hby at_386) rfl (tlt hc386).2.1 ?_
        show Steps p.tables e below (T2.setTop (mkF m 389 #[.val (.int x0), .val (.long x1), .second, .val (.int x2), .val (.int x3), .val (.int x4), .val (.int n), .val (.int nr), .val (.ref br), .val (.int en), .val (.int tg), .val (.ref pp), .val (.int r_2), .val (.int v11)] [])) _
        refine XS.iconst X2.here hx rfl (hb hby at_389) ?_
        show Steps p.tables e below (T2.setTop (mkF m 390 #[.val (.int x0), .val (.long x1), .second, .val (.int x2), .val (.int x3), .val (.int x4), .val (.int n), .val (.int nr), .val (.ref br), .val (.int en), .val (.int tg), .val (.ref pp), .val (.int r_2), .val (.int v11)] [(.int (4 : Int32))])) _
        refine XS.iload X2.here hx rfl (hb hby at_390) rfl ?_
        show Steps p.tables e below (T2.setTop (mkF m 392 #[.val (.int x0), .val (.long x1), .second, .val (.int x2), .val (.int x3), .val (.int x4), .val (.int n), .val (.int nr), .val (.ref br), .val (.int en), .val (.int tg), .val (.ref pp), .val (.int r_2), .val (.int v11)] [(.int en), (.int (4 : Int32))])) _
        refine Steps.trans (s₂ := T2.setTop (mkF m 407 #[.val (.int x0), .val (.long x1), .second, .val (.int x2), .val (.int x3), .val (.int x4), .val (.int n), .val (.int nr), .val (.ref br), .val (.int en), .val (.int tg), .val (.ref pp), .val (.int r_2), .val (.int (if (4 : Int32) < en then v11 else (if y4 < tg then v11 else (4 : Int32))))] [])) ?_ ?_
        · by_cases hc392 : (4 : Int32) < en
          · refine XS.icmpYes X2.here hx rfl (pc0 := 392) (pc' := 407) rfl (hb hby at_392) rfl (tlt hc392).1 (by decide) (by decide) ?_
            show Steps p.tables e below (T2.setTop (mkF m 407 #[.val (.int x0), .val (.long x1), .second, .val (.int x2), .val (.int x3), .val (.int x4), .val (.int n), .val (.int nr), .val (.ref br), .val (.int en), .val (.int tg), .val (.ref pp), .val (.int r_2), .val (.int v11)] [])) _
            try simp only [if_pos hc392]
            exact Steps.refl _
          · refine XS.icmpNo X2.here hx rfl (hb hby at_392) rfl (flt hc392).1 ?_
            show Steps p.tables e below (T2.setTop (mkF m 395 #[.val (.int x0), .val (.long x1), .second, .val (.int x2), .val (.int x3), .val (.int x4), .val (.int n), .val (.int nr), .val (.ref br), .val (.int en), .val (.int tg), .val (.ref pp), .val (.int r_2), .val (.int v11)] [])) _
            refine XS.aload X2.here hx rfl (hb hby at_395) rfl rfl ?_
            show Steps p.tables e below (T2.setTop (mkF m 397 #[.val (.int x0), .val (.long x1), .second, .val (.int x2), .val (.int x3), .val (.int x4), .val (.int n), .val (.int nr), .val (.ref br), .val (.int en), .val (.int tg), .val (.ref pp), .val (.int r_2), .val (.int v11)] [(.ref br)])) _
            refine XS.iconst X2.here hx rfl (hb hby at_397) ?_
            show Steps p.tables e below (T2.setTop (mkF m 398 #[.val (.int x0), .val (.long x1), .second, .val (.int x2), .val (.int x3), .val (.int x4), .val (.int n), .val (.int nr), .val (.ref br), .val (.int en), .val (.int tg), .val (.ref pp), .val (.int r_2), .val (.int v11)] [(.int (4 : Int32)), (.ref br)])) _
            refine X2.iaload hx (j := (4 : Int32)) (v := (.int y4)) Ar8.1 (State.isArrayOf_alike hZ.alike Ar8.2.1) Ar8.2.2 in8_4 at8_4 (g := (mkF m 398 #[.val (.int x0), .val (.long x1), .second, .val (.int x2), .val (.int x3), .val (.int x4), .val (.int n), .val (.int nr), .val (.ref br), .val (.int en), .val (.int tg), .val (.ref pp), .val (.int r_2), .val (.int v11)] [(.int (4 : Int32)), (.ref br)])) rfl rfl (hb hby at_398) _ ?_
            show Steps p.tables e below (T2.setTop (mkF m 399 #[.val (.int x0), .val (.long x1), .second, .val (.int x2), .val (.int x3), .val (.int x4), .val (.int n), .val (.int nr), .val (.ref br), .val (.int en), .val (.int tg), .val (.ref pp), .val (.int r_2), .val (.int v11)] [(.int y4)])) _
            refine XS.iload X2.here hx rfl (hb hby at_399) rfl ?_
            show Steps p.tables e below (T2.setTop (mkF m 401 #[.val (.int x0), .val (.long x1), .second, .val (.int x2), .val (.int x3), .val (.int x4), .val (.int n), .val (.int nr), .val (.ref br), .val (.int en), .val (.int tg), .val (.ref pp), .val (.int r_2), .val (.int v11)] [(.int tg), (.int y4)])) _
            refine Steps.trans (s₂ := T2.setTop (mkF m 407 #[.val (.int x0), .val (.long x1), .second, .val (.int x2), .val (.int x3), .val (.int x4), .val (.int n), .val (.int nr), .val (.ref br), .val (.int en), .val (.int tg), .val (.ref pp), .val (.int r_2), .val (.int (if y4 < tg then v11 else (4 : Int32)))] [])) ?_ ?_
            · by_cases hc401 : y4 < tg
              · refine XS.icmpYes X2.here hx rfl (pc0 := 401) (pc' := 407) rfl (hb hby at_401) rfl (tlt hc401).1 (by decide) (by decide) ?_
                show Steps p.tables e below (T2.setTop (mkF m 407 #[.val (.int x0), .val (.long x1), .second, .val (.int x2), .val (.int x3), .val (.int x4), .val (.int n), .val (.int nr), .val (.ref br), .val (.int en), .val (.int tg), .val (.ref pp), .val (.int r_2), .val (.int v11)] [])) _
                try simp only [if_pos hc401]
                exact Steps.refl _
              · refine XS.icmpNo X2.here hx rfl (hb hby at_401) rfl (flt hc401).1 ?_
                show Steps p.tables e below (T2.setTop (mkF m 404 #[.val (.int x0), .val (.long x1), .second, .val (.int x2), .val (.int x3), .val (.int x4), .val (.int n), .val (.int nr), .val (.ref br), .val (.int en), .val (.int tg), .val (.ref pp), .val (.int r_2), .val (.int v11)] [])) _
                refine XS.iconst X2.here hx rfl (hb hby at_404) ?_
                show Steps p.tables e below (T2.setTop (mkF m 405 #[.val (.int x0), .val (.long x1), .second, .val (.int x2), .val (.int x3), .val (.int x4), .val (.int n), .val (.int nr), .val (.ref br), .val (.int en), .val (.int tg), .val (.ref pp), .val (.int r_2), .val (.int v11)] [(.int (4 : Int32))])) _
                refine XS.istore X2.here hx rfl (hb hby at_405) rfl (l' := #[.val (.int x0), .val (.long x1), .second, .val (.int x2), .val (.int x3), .val (.int x4), .val (.int n), .val (.int nr), .val (.ref br), .val (.int en), .val (.int tg), .val (.ref pp), .val (.int r_2), .val (.int (4 : Int32))]) rfl ?_
                show Steps p.tables e below (T2.setTop (mkF m 407 #[.val (.int x0), .val (.long x1), .second, .val (.int x2), .val (.int x3), .val (.int x4), .val (.int n), .val (.int nr), .val (.ref br), .val (.int en), .val (.int tg), .val (.ref pp), .val (.int r_2), .val (.int (4 : Int32))] [])) _
                try simp only [if_neg hc401]
                exact Steps.refl _
            show Steps p.tables e below (T2.setTop (mkF m 407 #[.val (.int x0), .val (.long x1), .second, .val (.int x2), .val (.int x3), .val (.int x4), .val (.int n), .val (.int nr), .val (.ref br), .val (.int en), .val (.int tg), .val (.ref pp), .val (.int r_2), .val (.int (if y4 < tg then v11 else (4 : Int32)))] [])) _
            try simp only [if_neg hc392]
            exact Steps.refl _
        show Steps p.tables e below (T2.setTop (mkF m 407 #[.val (.int x0), .val (.long x1), .second, .val (.int x2), .val (.int x3), .val (.int x4), .val (.int n), .val (.int nr), .val (.ref br), .val (.int en), .val (.int tg), .val (.ref pp), .val (.int r_2), .val (.int (if (4 : Int32) < en then v11 else (if y4 < tg then v11 else (4 : Int32))))] [])) _
        try simp only [if_pos hc386]
        exact Steps.refl _
      · refine XS.icmpYes X2.here hx rfl (pc0 := 386) (pc' := 407) rfl (hb hby at_386) rfl (flt hc386).2.1 (by decide) (by decide) ?_
        show Steps p.tables e below (T2.setTop (mkF m 407 #[.val (.int x0), .val (.long x1), .second, .val (.int x2), .val (.int x3), .val (.int x4), .val (.int n), .val (.int nr), .val (.ref br), .val (.int en), .val (.int tg), .val (.ref pp), .val (.int r_2), .val (.int v11)] [])) _
        try simp only [if_neg hc386]
        exact Steps.refl _
    show Steps p.tables e below (T2.setTop (mkF m 407 #[.val (.int x0), .val (.long x1), .second, .val (.int x2), .val (.int x3), .val (.int x4), .val (.int n), .val (.int nr), .val (.ref br), .val (.int en), .val (.int tg), .val (.ref pp), .val (.int r_2), .val (.int (if (4 : Int32) < n then (if (4 : Int32) < en then v11 else (if y4 < tg then v11 else (4 : Int32))) else v11))] [])) _
    exact Steps.refl _
  have pre14 := pre12.trans st14
  have in8_3 : ¬ ((3 : Int32) < 0 ∨ cl8.slots.size ≤ ((3 : Int32)).toNatClampNeg) := inb_of S8 ⟨by decide, by decide⟩
  have at8_3 : cl8.slots[((3 : Int32)).toNatClampNeg]? = some (.int y3) := Has.at H8 in8_3 rfl
  obtain ⟨v15, hv15⟩ : ∃ z : Int32, z = (if (3 : Int32) < n then (if (3 : Int32) < en then v13 else (if y3 < tg then v13 else (3 : Int32))) else v13) := ⟨_, rfl⟩
  have st16 : Steps p.tables e below (T2.setTop (mkF m 407 #[.val (.int x0), .val (.long x1), .second, .val (.int x2), .val (.int x3), .val (.int x4), .val (.int n), .val (.int nr), .val (.ref br), .val (.int en), .val (.int tg), .val (.ref pp), .val (.int r_2), .val (.int v13)] [])) (T2.setTop (mkF m 431 #[.val (.int x0), .val (.long x1), .second, .val (.int x2), .val (.int x3), .val (.int x4), .val (.int n), .val (.int nr), .val (.ref br), .val (.int en), .val (.int tg), .val (.ref pp), .val (.int r_2), .val (.int v15)] [])) := by
    subst v15
    refine XS.iconst X2.here hx rfl (hb hby at_407) ?_
    show Steps p.tables e below (T2.setTop (mkF m 408 #[.val (.int x0), .val (.long x1), .second, .val (.int x2), .val (.int x3), .val (.int x4), .val (.int n), .val (.int nr), .val (.ref br), .val (.int en), .val (.int tg), .val (.ref pp), .val (.int r_2), .val (.int v13)] [(.int (3 : Int32))])) _
    refine XS.iload X2.here hx rfl (hb hby at_408) rfl ?_
    show Steps p.tables e below (T2.setTop (mkF m 410 #[.val (.int x0), .val (.long x1), .second, .val (.int x2), .val (.int x3), .val (.int x4), .val (.int n), .val (.int nr), .val (.ref br), .val (.int en), .val (.int tg), .val (.ref pp), .val (.int r_2), .val (.int v13)] [(.int n), (.int (3 : Int32))])) _
    refine Steps.trans (s₂ := T2.setTop (mkF m 431 #[.val (.int x0), .val (.long x1), .second, .val (.int x2), .val (.int x3), .val (.int x4), .val (.int n), .val (.int nr), .val (.ref br), .val (.int en), .val (.int tg), .val (.ref pp), .val (.int r_2), .val (.int (if (3 : Int32) < n then (if (3 : Int32) < en then v13 else (if y3 < tg then v13 else (3 : Int32))) else v13))] [])) ?_ ?_
    · by_cases hc410 : (3 : Int32) < n
      · refine XS.icmpNo X2.here hx rfl (hb hby at_410) rfl (tlt hc410).2.1 ?_
        show Steps p.tables e below (T2.setTop (mkF m 413 #[.val (.int x0), .val (.long x1), .second, .val (.int x2), .val (.int x3), .val (.int x4), .val (.int n), .val (.int nr), .val (.ref br), .val (.int en), .val (.int tg), .val (.ref pp), .val (.int r_2), .val (.int v13)] [])) _
        refine XS.iconst X2.here hx rfl (hb hby at_413) ?_
        show Steps p.tables e below (T2.setTop (mkF m 414 #[.val (.int x0), .val (.long x1), .second, .val (.int x2), .val (.int x3), .val (.int x4), .val (.int n), .val (.int nr), .val (.ref br), .val (.int en), .val (.int tg), .val (.ref pp), .val (.int r_2), .val (.int v13)] [(.int (3 : Int32))])) _
        refine XS.iload X2.here hx rfl (hb hby at_414) rfl ?_
        show Steps p.tables e below (T2.setTop (mkF m 416 #[.val (.int x0), .val (.long x1), .second, .val (.int x2), .val (.int x3), .val (.int x4), .val (.int n), .val (.int nr), .val (.ref br), .val (.int en), .val (.int tg), .val (.ref pp), .val (.int r_2), .val (.int v13)] [(.int en), (.int (3 : Int32))])) _
        refine Steps.trans (s₂ := T2.setTop (mkF m 431 #[.val (.int x0), .val (.long x1), .second, .val (.int x2), .val (.int x3), .val (.int x4), .val (.int n), .val (.int nr), .val (.ref br), .val (.int en), .val (.int tg), .val (.ref pp), .val (.int r_2), .val (.int (if (3 : Int32) < en then v13 else (if y3 < tg then v13 else (3 : Int32))))] [])) ?_ ?_
        · by_cases hc416 : (3 : Int32) < en
          · refine XS.icmpYes X2.here hx rfl (pc0 := 416) (pc' := 431) rfl (hb hby at_416) rfl (tlt hc416).1 (by decide) (by decide) ?_
            show Steps p.tables e below (T2.setTop (mkF m 431 #[.val (.int x0), .val (.long x1), .second, .val (.int x2), .val (.int x3), .val (.int x4), .val (.int n), .val (.int nr), .val (.ref br), .val (.int en), .val (.int tg), .val (.ref pp), .val (.int r_2), .val (.int v13)] [])) _
            try simp only [if_pos hc416]
            exact Steps.refl _
          · refine XS.icmpNo X2.here hx rfl (hb hby at_416) rfl (flt hc416).1 ?_
            show Steps p.tables e below (T2.setTop (mkF m 419 #[.val (.int x0), .val (.long x1), .second, .val (.int x2), .val (.int x3), .val (.int x4), .val (.int n), .val (.int nr), .val (.ref br), .val (.int en), .val (.int tg), .val (.ref pp), .val (.int r_2), .val (.int v13)] [])) _
            refine XS.aload X2.here hx rfl (hb hby at_419) rfl rfl ?_
            show Steps p.tables e below (T2.setTop (mkF m 421 #[.val (.int x0), .val (.long x1), .second, .val (.int x2), .val (.int x3), .val (.int x4), .val (.int n), .val (.int nr), .val (.ref br), .val (.int en), .val (.int tg), .val (.ref pp), .val (.int r_2), .val (.int v13)] [(.ref br)])) _
            refine XS.iconst X2.here hx rfl (hb hby at_421) ?_
            show Steps p.tables e below (T2.setTop (mkF m 422 #[.val (.int x0), .val (.long x1), .second, .val (.int x2), .val (.int x3), .val (.int x4), .val (.int n), .val (.int nr), .val (.ref br), .val (.int en), .val (.int tg), .val (.ref pp), .val (.int r_2), .val (.int v13)] [(.int (3 : Int32)), (.ref br)])) _
            refine X2.iaload hx (j := (3 : Int32)) (v := (.int y3)) Ar8.1 (State.isArrayOf_alike hZ.alike Ar8.2.1) Ar8.2.2 in8_3 at8_3 (g := (mkF m 422 #[.val (.int x0), .val (.long x1), .second, .val (.int x2), .val (.int x3), .val (.int x4), .val (.int n), .val (.int nr), .val (.ref br), .val (.int en), .val (.int tg), .val (.ref pp), .val (.int r_2), .val (.int v13)] [(.int (3 : Int32)), (.ref br)])) rfl rfl (hb hby at_422) _ ?_
            show Steps p.tables e below (T2.setTop (mkF m 423 #[.val (.int x0), .val (.long x1), .second, .val (.int x2), .val (.int x3), .val (.int x4), .val (.int n), .val (.int nr), .val (.ref br), .val (.int en), .val (.int tg), .val (.ref pp), .val (.int r_2), .val (.int v13)] [(.int y3)])) _
            refine XS.iload X2.here hx rfl (hb hby at_423) rfl ?_
            show Steps p.tables e below (T2.setTop (mkF m 425 #[.val (.int x0), .val (.long x1), .second, .val (.int x2), .val (.int x3), .val (.int x4), .val (.int n), .val (.int nr), .val (.ref br), .val (.int en), .val (.int tg), .val (.ref pp), .val (.int r_2), .val (.int v13)] [(.int tg), (.int y3)])) _
            refine Steps.trans (s₂ := T2.setTop (mkF m 431 #[.val (.int x0), .val (.long x1), .second, .val (.int x2), .val (.int x3), .val (.int x4), .val (.int n), .val (.int nr), .val (.ref br), .val (.int en), .val (.int tg), .val (.ref pp), .val (.int r_2), .val (.int (if y3 < tg then v13 else (3 : Int32)))] [])) ?_ ?_
            · by_cases hc425 : y3 < tg
              · refine XS.icmpYes X2.here hx rfl (pc0 := 425) (pc' := 431) rfl (hb hby at_425) rfl (tlt hc425).1 (by decide) (by decide) ?_
                show Steps p.tables e below (T2.setTop (mkF m 431 #[.val (.int x0), .val (.long x1), .second, .val (.int x2), .val (.int x3), .val (.int x4), .val (.int n), .val (.int nr), .val (.ref br), .val (.int en), .val (.int tg), .val (.ref pp), .val (.int r_2), .val (.int v13)] [])) _
                try simp only [if_pos hc425]
                exact Steps.refl _
              · refine XS.icmpNo X2.here hx rfl (hb hby at_425) rfl (flt hc425).1 ?_
                show Steps p.tables e below (T2.setTop (mkF m 428 #[.val (.int x0), .val (.long x1), .second, .val (.int x2), .val (.int x3), .val (.int x4), .val (.int n), .val (.int nr), .val (.ref br), .val (.int en), .val (.int tg), .val (.ref pp), .val (.int r_2), .val (.int v13)] [])) _
                refine XS.iconst X2.here hx rfl (hb hby at_428) ?_
                show Steps p.tables e below (T2.setTop (mkF m 429 #[.val (.int x0), .val (.long x1), .second, .val (.int x2), .val (.int x3), .val (.int x4), .val (.int n), .val (.int nr), .val (.ref br), .val (.int en), .val (.int tg), .val (.ref pp), .val (.int r_2), .val (.int v13)] [(.int (3 : Int32))])) _
                refine XS.istore X2.here hx rfl (hb hby at_429) rfl (l' := #[.val (.int x0), .val (.long x1), .second, .val (.int x2), .val (.int x3), .val (.int x4), .val (.int n), .val (.int nr), .val (.ref br), .val (.int en), .val (.int tg), .val (.ref pp), .val (.int r_2), .val (.int (3 : Int32))]) rfl ?_
                show Steps p.tables e below (T2.setTop (mkF m 431 #[.val (.int x0), .val (.long x1), .second, .val (.int x2), .val (.int x3), .val (.int x4), .val (.int n), .val (.int nr), .val (.ref br), .val (.int en), .val (.int tg), .val (.ref pp), .val (.int r_2), .val (.int (3 : Int32))] [])) _
                try simp only [if_neg hc425]
                exact Steps.refl _
            show Steps p.tables e below (T2.setTop (mkF m 431 #[.val (.int x0), .val (.long x1), .second, .val (.int x2), .val (.int x3), .val (.int x4), .val (.int n), .val (.int nr), .val (.ref br), .val (.int en), .val (.int tg), .val (.ref pp), .val (.int r_2), .val (.int (if y3 < tg then v13 else (3 : Int32)))] [])) _
            try simp only [if_neg hc416]
            exact Steps.refl _
        show Steps p.tables e below (T2.setTop (mkF m 431 #[.val (.int x0), .val (.long x1), .second, .val (.int x2), .val (.int x3), .val (.int x4), .val (.int n), .val (.int nr), .val (.ref br), .val (.int en), .val (.int tg), .val (.ref pp), .val (.int r_2), .val (.int (if (3 : Int32) < en then v13 else (if y3 < tg then v13 else (3 : Int32))))] [])) _
        try simp only [if_pos hc410]
        exact Steps.refl _
      · refine XS.icmpYes X2.here hx rfl (pc0 := 410) (pc' := 431) rfl (hb hby at_410) rfl (flt hc410).2.1 (by decide) (by decide) ?_
        show Steps p.tables e below (T2.setTop (mkF m 431 #[.val (.int x0), .val (.long x1), .second, .val (.int x2), .val (.int x3), .val (.int x4), .val (.int n), .val (.int nr), .val (.ref br), .val (.int en), .val (.int tg), .val (.ref pp), .val (.int r_2), .val (.int v13)] [])) _
        try simp only [if_neg hc410]
        exact Steps.refl _
    show Steps p.tables e below (T2.setTop (mkF m 431 #[.val (.int x0), .val (.long x1), .second, .val (.int x2), .val (.int x3), .val (.int x4), .val (.int n), .val (.int nr), .val (.ref br), .val (.int en), .val (.int tg), .val (.ref pp), .val (.int r_2), .val (.int (if (3 : Int32) < n then (if (3 : Int32) < en then v13 else (if y3 < tg then v13 else (3 : Int32))) else v13))] [])) _
    exact Steps.refl _
  have pre16 := pre14.trans st16
  have in8_2 : ¬ ((2 : Int32) < 0 ∨ cl8.slots.size ≤ ((2 : Int32)).toNatClampNeg) := inb_of S8 ⟨by decide, by decide⟩
  have at8_2 : cl8.slots[((2 : Int32)).toNatClampNeg]? = some (.int y2) := Has.at H8 in8_2 rfl
  obtain ⟨v17, hv17⟩ : ∃ z : Int32, z = (if (2 : Int32) < n then (if (2 : Int32) < en then v15 else (if y2 < tg then v15 else (2 : Int32))) else v15) := ⟨_, rfl⟩
  have st18 : Steps p.tables e below (T2.setTop (mkF m 431 #[.val (.int x0), .val (.long x1), .second, .val (.int x2), .val (.int x3), .val (.int x4), .val (.int n), .val (.int nr), .val (.ref br), .val (.int en), .val (.int tg), .val (.ref pp), .val (.int r_2), .val (.int v15)] [])) (T2.setTop (mkF m 455 #[.val (.int x0), .val (.long x1), .second, .val (.int x2), .val (.int x3), .val (.int x4), .val (.int n), .val (.int nr), .val (.ref br), .val (.int en), .val (.int tg), .val (.ref pp), .val (.int r_2), .val (.int v17)] [])) := by
    subst v17
    refine XS.iconst X2.here hx rfl (hb hby at_431) ?_
    show Steps p.tables e below (T2.setTop (mkF m 432 #[.val (.int x0), .val (.long x1), .second, .val (.int x2), .val (.int x3), .val (.int x4), .val (.int n), .val (.int nr), .val (.ref br), .val (.int en), .val (.int tg), .val (.ref pp), .val (.int r_2), .val (.int v15)] [(.int (2 : Int32))])) _
    refine XS.iload X2.here hx rfl (hb hby at_432) rfl ?_
    show Steps p.tables e below (T2.setTop (mkF m 434 #[.val (.int x0), .val (.long x1), .second, .val (.int x2), .val (.int x3), .val (.int x4), .val (.int n), .val (.int nr), .val (.ref br), .val (.int en), .val (.int tg), .val (.ref pp), .val (.int r_2), .val (.int v15)] [(.int n), (.int (2 : Int32))])) _
    refine Steps.trans (s₂ := T2.setTop (mkF m 455 #[.val (.int x0), .val (.long x1), .second, .val (.int x2), .val (.int x3), .val (.int x4), .val (.int n), .val (.int nr), .val (.ref br), .val (.int en), .val (.int tg), .val (.ref pp), .val (.int r_2), .val (.int (if (2 : Int32) < n then (if (2 : Int32) < en then v15 else (if y2 < tg then v15 else (2 : Int32))) else v15))] [])) ?_ ?_
    · by_cases hc434 : (2 : Int32) < n
      · refine XS.icmpNo X2.here hx rfl (hb hby at_434) rfl (tlt hc434).2.1 ?_
        show Steps p.tables e below (T2.setTop (mkF m 437 #[.val (.int x0), .val (.long x1), .second, .val (.int x2), .val (.int x3), .val (.int x4), .val (.int n), .val (.int nr), .val (.ref br), .val (.int en), .val (.int tg), .val (.ref pp), .val (.int r_2), .val (.int v15)] [])) _
        refine XS.iconst X2.here hx rfl (hb hby at_437) ?_
        show Steps p.tables e below (T2.setTop (mkF m 438 #[.val (.int x0), .val (.long x1), .second, .val (.int x2), .val (.int x3), .val (.int x4), .val (.int n), .val (.int nr), .val (.ref br), .val (.int en), .val (.int tg), .val (.ref pp), .val (.int r_2), .val (.int v15)] [(.int (2 : Int32))])) _
        refine XS.iload X2.here hx rfl (hb hby at_438) rfl ?_
        show Steps p.tables e below (T2.setTop (mkF m 440 #[.val (.int x0), .val (.long x1), .second, .val (.int x2), .val (.int x3), .val (.int x4), .val (.int n), .val (.int nr), .val (.ref br), .val (.int en), .val (.int tg), .val (.ref pp), .val (.int r_2), .val (.int v15)] [(.int en), (.int (2 : Int32))])) _
        refine Steps.trans (s₂ := T2.setTop (mkF m 455 #[.val (.int x0), .val (.long x1), .second, .val (.int x2), .val (.int x3), .val (.int x4), .val (.int n), .val (.int nr), .val (.ref br), .val (.int en), .val (.int tg), .val (.ref pp), .val (.int r_2), .val (.int (if (2 : Int32) < en then v15 else (if y2 < tg then v15 else (2 : Int32))))] [])) ?_ ?_
        · by_cases hc440 : (2 : Int32) < en
          · refine XS.icmpYes X2.here hx rfl (pc0 := 440) (pc' := 455) rfl (hb hby at_440) rfl (tlt hc440).1 (by decide) (by decide) ?_
            show Steps p.tables e below (T2.setTop (mkF m 455 #[.val (.int x0), .val (.long x1), .second, .val (.int x2), .val (.int x3), .val (.int x4), .val (.int n), .val (.int nr), .val (.ref br), .val (.int en), .val (.int tg), .val (.ref pp), .val (.int r_2), .val (.int v15)] [])) _
            try simp only [if_pos hc440]
            exact Steps.refl _
          · refine XS.icmpNo X2.here hx rfl (hb hby at_440) rfl (flt hc440).1 ?_
            show Steps p.tables e below (T2.setTop (mkF m 443 #[.val (.int x0), .val (.long x1), .second, .val (.int x2), .val (.int x3), .val (.int x4), .val (.int n), .val (.int nr), .val (.ref br), .val (.int en), .val (.int tg), .val (.ref pp), .val (.int r_2), .val (.int v15)] [])) _
            refine XS.aload X2.here hx rfl (hb hby at_443) rfl rfl ?_
            show Steps p.tables e below (T2.setTop (mkF m 445 #[.val (.int x0), .val (.long x1), .second, .val (.int x2), .val (.int x3), .val (.int x4), .val (.int n), .val (.int nr), .val (.ref br), .val (.int en), .val (.int tg), .val (.ref pp), .val (.int r_2), .val (.int v15)] [(.ref br)])) _
            refine XS.iconst X2.here hx rfl (hb hby at_445) ?_
            show Steps p.tables e below (T2.setTop (mkF m 446 #[.val (.int x0), .val (.long x1), .second, .val (.int x2), .val (.int x3), .val (.int x4), .val (.int n), .val (.int nr), .val (.ref br), .val (.int en), .val (.int tg), .val (.ref pp), .val (.int r_2), .val (.int v15)] [(.int (2 : Int32)), (.ref br)])) _
            refine X2.iaload hx (j := (2 : Int32)) (v := (.int y2)) Ar8.1 (State.isArrayOf_alike hZ.alike Ar8.2.1) Ar8.2.2 in8_2 at8_2 (g := (mkF m 446 #[.val (.int x0), .val (.long x1), .second, .val (.int x2), .val (.int x3), .val (.int x4), .val (.int n), .val (.int nr), .val (.ref br), .val (.int en), .val (.int tg), .val (.ref pp), .val (.int r_2), .val (.int v15)] [(.int (2 : Int32)), (.ref br)])) rfl rfl (hb hby at_446) _ ?_
            show Steps p.tables e below (T2.setTop (mkF m 447 #[.val (.int x0), .val (.long x1), .second, .val (.int x2), .val (.int x3), .val (.int x4), .val (.int n), .val (.int nr), .val (.ref br), .val (.int en), .val (.int tg), .val (.ref pp), .val (.int r_2), .val (.int v15)] [(.int y2)])) _
            refine XS.iload X2.here hx rfl (hb hby at_447) rfl ?_
            show Steps p.tables e below (T2.setTop (mkF m 449 #[.val (.int x0), .val (.long x1), .second, .val (.int x2), .val (.int x3), .val (.int x4), .val (.int n), .val (.int nr), .val (.ref br), .val (.int en), .val (.int tg), .val (.ref pp), .val (.int r_2), .val (.int v15)] [(.int tg), (.int y2)])) _
            refine Steps.trans (s₂ := T2.setTop (mkF m 455 #[.val (.int x0), .val (.long x1), .second, .val (.int x2), .val (.int x3), .val (.int x4), .val (.int n), .val (.int nr), .val (.ref br), .val (.int en), .val (.int tg), .val (.ref pp), .val (.int r_2), .val (.int (if y2 < tg then v15 else (2 : Int32)))] [])) ?_ ?_
            · by_cases hc449 : y2 < tg
              · refine XS.icmpYes X2.here hx rfl (pc0 := 449) (pc' := 455) rfl (hb hby at_449) rfl (tlt hc449).1 (by decide) (by decide) ?_
                show Steps p.tables e below (T2.setTop (mkF m 455 #[.val (.int x0), .val (.long x1), .second, .val (.int x2), .val (.int x3), .val (.int x4), .val (.int n), .val (.int nr), .val (.ref br), .val (.int en), .val (.int tg), .val (.ref pp), .val (.int r_2), .val (.int v15)] [])) _
                try simp only [if_pos hc449]
                exact Steps.refl _
              · refine XS.icmpNo X2.here hx rfl (hb hby at_449) rfl (flt hc449).1 ?_
                show Steps p.tables e below (T2.setTop (mkF m 452 #[.val (.int x0), .val (.long x1), .second, .val (.int x2), .val (.int x3), .val (.int x4), .val (.int n), .val (.int nr), .val (.ref br), .val (.int en), .val (.int tg), .val (.ref pp), .val (.int r_2), .val (.int v15)] [])) _
                refine XS.iconst X2.here hx rfl (hb hby at_452) ?_
                show Steps p.tables e below (T2.setTop (mkF m 453 #[.val (.int x0), .val (.long x1), .second, .val (.int x2), .val (.int x3), .val (.int x4), .val (.int n), .val (.int nr), .val (.ref br), .val (.int en), .val (.int tg), .val (.ref pp), .val (.int r_2), .val (.int v15)] [(.int (2 : Int32))])) _
                refine XS.istore X2.here hx rfl (hb hby at_453) rfl (l' := #[.val (.int x0), .val (.long x1), .second, .val (.int x2), .val (.int x3), .val (.int x4), .val (.int n), .val (.int nr), .val (.ref br), .val (.int en), .val (.int tg), .val (.ref pp), .val (.int r_2), .val (.int (2 : Int32))]) rfl ?_
                show Steps p.tables e below (T2.setTop (mkF m 455 #[.val (.int x0), .val (.long x1), .second, .val (.int x2), .val (.int x3), .val (.int x4), .val (.int n), .val (.int nr), .val (.ref br), .val (.int en), .val (.int tg), .val (.ref pp), .val (.int r_2), .val (.int (2 : Int32))] [])) _
                try simp only [if_neg hc449]
                exact Steps.refl _
            show Steps p.tables e below (T2.setTop (mkF m 455 #[.val (.int x0), .val (.long x1), .second, .val (.int x2), .val (.int x3), .val (.int x4), .val (.int n), .val (.int nr), .val (.ref br), .val (.int en), .val (.int tg), .val (.ref pp), .val (.int r_2), .val (.int (if y2 < tg then v15 else (2 : Int32)))] [])) _
            try simp only [if_neg hc440]
            exact Steps.refl _
        show Steps p.tables e below (T2.setTop (mkF m 455 #[.val (.int x0), .val (.long x1), .second, .val (.int x2), .val (.int x3), .val (.int x4), .val (.int n), .val (.int nr), .val (.ref br), .val (.int en), .val (.int tg), .val (.ref pp), .val (.int r_2), .val (.int (if (2 : Int32) < en then v15 else (if y2 < tg then v15 else (2 : Int32))))] [])) _
        try simp only [if_pos hc434]
        exact Steps.refl _
      · refine XS.icmpYes X2.here hx rfl (pc0 := 434) (pc' := 455) rfl (hb hby at_434) rfl (flt hc434).2.1 (by decide) (by decide) ?_
        show Steps p.tables e below (T2.setTop (mkF m 455 #[.val (.int x0), .val (.long x1), .second, .val (.int x2), .val (.int x3), .val (.int x4), .val (.int n), .val (.int nr), .val (.ref br), .val (.int en), .val (.int tg), .val (.ref pp), .val (.int r_2), .val (.int v15)] [])) _
        try simp only [if_neg hc434]
        exact Steps.refl _
    show Steps p.tables e below (T2.setTop (mkF m 455 #[.val (.int x0), .val (.long x1), .second, .val (.int x2), .val (.int x3), .val (.int x4), .val (.int n), .val (.int nr), .val (.ref br), .val (.int en), .val (.int tg), .val (.ref pp), .val (.int r_2), .val (.int (if (2 : Int32) < n then (if (2 : Int32) < en then v15 else (if y2 < tg then v15 else (2 : Int32))) else v15))] [])) _
    exact Steps.refl _
  have pre18 := pre16.trans st18
  have in8_1 : ¬ ((1 : Int32) < 0 ∨ cl8.slots.size ≤ ((1 : Int32)).toNatClampNeg) := inb_of S8 ⟨by decide, by decide⟩
  have at8_1 : cl8.slots[((1 : Int32)).toNatClampNeg]? = some (.int y1) := Has.at H8 in8_1 rfl
  obtain ⟨v19, hv19⟩ : ∃ z : Int32, z = (if (1 : Int32) < n then (if (1 : Int32) < en then v17 else (if y1 < tg then v17 else (1 : Int32))) else v17) := ⟨_, rfl⟩
  have st20 : Steps p.tables e below (T2.setTop (mkF m 455 #[.val (.int x0), .val (.long x1), .second, .val (.int x2), .val (.int x3), .val (.int x4), .val (.int n), .val (.int nr), .val (.ref br), .val (.int en), .val (.int tg), .val (.ref pp), .val (.int r_2), .val (.int v17)] [])) (T2.setTop (mkF m 479 #[.val (.int x0), .val (.long x1), .second, .val (.int x2), .val (.int x3), .val (.int x4), .val (.int n), .val (.int nr), .val (.ref br), .val (.int en), .val (.int tg), .val (.ref pp), .val (.int r_2), .val (.int v19)] [])) := by
    subst v19
    refine XS.iconst X2.here hx rfl (hb hby at_455) ?_
    show Steps p.tables e below (T2.setTop (mkF m 456 #[.val (.int x0), .val (.long x1), .second, .val (.int x2), .val (.int x3), .val (.int x4), .val (.int n), .val (.int nr), .val (.ref br), .val (.int en), .val (.int tg), .val (.ref pp), .val (.int r_2), .val (.int v17)] [(.int (1 : Int32))])) _
    refine XS.iload X2.here hx rfl (hb hby at_456) rfl ?_
    show Steps p.tables e below (T2.setTop (mkF m 458 #[.val (.int x0), .val (.long x1), .second, .val (.int x2), .val (.int x3), .val (.int x4), .val (.int n), .val (.int nr), .val (.ref br), .val (.int en), .val (.int tg), .val (.ref pp), .val (.int r_2), .val (.int v17)] [(.int n), (.int (1 : Int32))])) _
    refine Steps.trans (s₂ := T2.setTop (mkF m 479 #[.val (.int x0), .val (.long x1), .second, .val (.int x2), .val (.int x3), .val (.int x4), .val (.int n), .val (.int nr), .val (.ref br), .val (.int en), .val (.int tg), .val (.ref pp), .val (.int r_2), .val (.int (if (1 : Int32) < n then (if (1 : Int32) < en then v17 else (if y1 < tg then v17 else (1 : Int32))) else v17))] [])) ?_ ?_
    · by_cases hc458 : (1 : Int32) < n
      · refine XS.icmpNo X2.here hx rfl (hb hby at_458) rfl (tlt hc458).2.1 ?_
        show Steps p.tables e below (T2.setTop (mkF m 461 #[.val (.int x0), .val (.long x1), .second, .val (.int x2), .val (.int x3), .val (.int x4), .val (.int n), .val (.int nr), .val (.ref br), .val (.int en), .val (.int tg), .val (.ref pp), .val (.int r_2), .val (.int v17)] [])) _
        refine XS.iconst X2.here hx rfl (hb hby at_461) ?_
        show Steps p.tables e below (T2.setTop (mkF m 462 #[.val (.int x0), .val (.long x1), .second, .val (.int x2), .val (.int x3), .val (.int x4), .val (.int n), .val (.int nr), .val (.ref br), .val (.int en), .val (.int tg), .val (.ref pp), .val (.int r_2), .val (.int v17)] [(.int (1 : Int32))])) _
        refine XS.iload X2.here hx rfl (hb hby at_462) rfl ?_
        show Steps p.tables e below (T2.setTop (mkF m 464 #[.val (.int x0), .val (.long x1), .second, .val (.int x2), .val (.int x3), .val (.int x4), .val (.int n), .val (.int nr), .val (.ref br), .val (.int en), .val (.int tg), .val (.ref pp), .val (.int r_2), .val (.int v17)] [(.int en), (.int (1 : Int32))])) _
        refine Steps.trans (s₂ := T2.setTop (mkF m 479 #[.val (.int x0), .val (.long x1), .second, .val (.int x2), .val (.int x3), .val (.int x4), .val (.int n), .val (.int nr), .val (.ref br), .val (.int en), .val (.int tg), .val (.ref pp), .val (.int r_2), .val (.int (if (1 : Int32) < en then v17 else (if y1 < tg then v17 else (1 : Int32))))] [])) ?_ ?_
        · by_cases hc464 : (1 : Int32) < en
          · refine XS.icmpYes X2.here hx rfl (pc0 := 464) (pc' := 479) rfl (hb hby at_464) rfl (tlt hc464).1 (by decide) (by decide) ?_
            show Steps p.tables e below (T2.setTop (mkF m 479 #[.val (.int x0), .val (.long x1), .second, .val (.int x2), .val (.int x3), .val (.int x4), .val (.int n), .val (.int nr), .val (.ref br), .val (.int en), .val (.int tg), .val (.ref pp), .val (.int r_2), .val (.int v17)] [])) _
            try simp only [if_pos hc464]
            exact Steps.refl _
          · refine XS.icmpNo X2.here hx rfl (hb hby at_464) rfl (flt hc464).1 ?_
            show Steps p.tables e below (T2.setTop (mkF m 467 #[.val (.int x0), .val (.long x1), .second, .val (.int x2), .val (.int x3), .val (.int x4), .val (.int n), .val (.int nr), .val (.ref br), .val (.int en), .val (.int tg), .val (.ref pp), .val (.int r_2), .val (.int v17)] [])) _
            refine XS.aload X2.here hx rfl (hb hby at_467) rfl rfl ?_
            show Steps p.tables e below (T2.setTop (mkF m 469 #[.val (.int x0), .val (.long x1), .second, .val (.int x2), .val (.int x3), .val (.int x4), .val (.int n), .val (.int nr), .val (.ref br), .val (.int en), .val (.int tg), .val (.ref pp), .val (.int r_2), .val (.int v17)] [(.ref br)])) _
            refine XS.iconst X2.here hx rfl (hb hby at_469) ?_
            show Steps p.tables e below (T2.setTop (mkF m 470 #[.val (.int x0), .val (.long x1), .second, .val (.int x2), .val (.int x3), .val (.int x4), .val (.int n), .val (.int nr), .val (.ref br), .val (.int en), .val (.int tg), .val (.ref pp), .val (.int r_2), .val (.int v17)] [(.int (1 : Int32)), (.ref br)])) _
            refine X2.iaload hx (j := (1 : Int32)) (v := (.int y1)) Ar8.1 (State.isArrayOf_alike hZ.alike Ar8.2.1) Ar8.2.2 in8_1 at8_1 (g := (mkF m 470 #[.val (.int x0), .val (.long x1), .second, .val (.int x2), .val (.int x3), .val (.int x4), .val (.int n), .val (.int nr), .val (.ref br), .val (.int en), .val (.int tg), .val (.ref pp), .val (.int r_2), .val (.int v17)] [(.int (1 : Int32)), (.ref br)])) rfl rfl (hb hby at_470) _ ?_
            show Steps p.tables e below (T2.setTop (mkF m 471 #[.val (.int x0), .val (.long x1), .second, .val (.int x2), .val (.int x3), .val (.int x4), .val (.int n), .val (.int nr), .val (.ref br), .val (.int en), .val (.int tg), .val (.ref pp), .val (.int r_2), .val (.int v17)] [(.int y1)])) _
            refine XS.iload X2.here hx rfl (hb hby at_471) rfl ?_
            show Steps p.tables e below (T2.setTop (mkF m 473 #[.val (.int x0), .val (.long x1), .second, .val (.int x2), .val (.int x3), .val (.int x4), .val (.int n), .val (.int nr), .val (.ref br), .val (.int en), .val (.int tg), .val (.ref pp), .val (.int r_2), .val (.int v17)] [(.int tg), (.int y1)])) _
            refine Steps.trans (s₂ := T2.setTop (mkF m 479 #[.val (.int x0), .val (.long x1), .second, .val (.int x2), .val (.int x3), .val (.int x4), .val (.int n), .val (.int nr), .val (.ref br), .val (.int en), .val (.int tg), .val (.ref pp), .val (.int r_2), .val (.int (if y1 < tg then v17 else (1 : Int32)))] [])) ?_ ?_
            · by_cases hc473 : y1 < tg
              · refine XS.icmpYes X2.here hx rfl (pc0 := 473) (pc' := 479) rfl (hb hby at_473) rfl (tlt hc473).1 (by decide) (by decide) ?_
                show Steps p.tables e below (T2.setTop (mkF m 479 #[.val (.int x0), .val (.long x1), .second, .val (.int x2), .val (.int x3), .val (.int x4), .val (.int n), .val (.int nr), .val (.ref br), .val (.int en), .val (.int tg), .val (.ref pp), .val (.int r_2), .val (.int v17)] [])) _
                try simp only [if_pos hc473]
                exact Steps.refl _
              · refine XS.icmpNo X2.here hx rfl (hb hby at_473) rfl (flt hc473).1 ?_
                show Steps p.tables e below (T2.setTop (mkF m 476 #[.val (.int x0), .val (.long x1), .second, .val (.int x2), .val (.int x3), .val (.int x4), .val (.int n), .val (.int nr), .val (.ref br), .val (.int en), .val (.int tg), .val (.ref pp), .val (.int r_2), .val (.int v17)] [])) _
                refine XS.iconst X2.here hx rfl (hb hby at_476) ?_
                show Steps p.tables e below (T2.setTop (mkF m 477 #[.val (.int x0), .val (.long x1), .second, .val (.int x2), .val (.int x3), .val (.int x4), .val (.int n), .val (.int nr), .val (.ref br), .val (.int en), .val (.int tg), .val (.ref pp), .val (.int r_2), .val (.int v17)] [(.int (1 : Int32))])) _
                refine XS.istore X2.here hx rfl (hb hby at_477) rfl (l' := #[.val (.int x0), .val (.long x1), .second, .val (.int x2), .val (.int x3), .val (.int x4), .val (.int n), .val (.int nr), .val (.ref br), .val (.int en), .val (.int tg), .val (.ref pp), .val (.int r_2), .val (.int (1 : Int32))]) rfl ?_
                show Steps p.tables e below (T2.setTop (mkF m 479 #[.val (.int x0), .val (.long x1), .second, .val (.int x2), .val (.int x3), .val (.int x4), .val (.int n), .val (.int nr), .val (.ref br), .val (.int en), .val (.int tg), .val (.ref pp), .val (.int r_2), .val (.int (1 : Int32))] [])) _
                try simp only [if_neg hc473]
                exact Steps.refl _
            show Steps p.tables e below (T2.setTop (mkF m 479 #[.val (.int x0), .val (.long x1), .second, .val (.int x2), .val (.int x3), .val (.int x4), .val (.int n), .val (.int nr), .val (.ref br), .val (.int en), .val (.int tg), .val (.ref pp), .val (.int r_2), .val (.int (if y1 < tg then v17 else (1 : Int32)))] [])) _
            try simp only [if_neg hc464]
            exact Steps.refl _
        show Steps p.tables e below (T2.setTop (mkF m 479 #[.val (.int x0), .val (.long x1), .second, .val (.int x2), .val (.int x3), .val (.int x4), .val (.int n), .val (.int nr), .val (.ref br), .val (.int en), .val (.int tg), .val (.ref pp), .val (.int r_2), .val (.int (if (1 : Int32) < en then v17 else (if y1 < tg then v17 else (1 : Int32))))] [])) _
        try simp only [if_pos hc458]
        exact Steps.refl _
      · refine XS.icmpYes X2.here hx rfl (pc0 := 458) (pc' := 479) rfl (hb hby at_458) rfl (flt hc458).2.1 (by decide) (by decide) ?_
        show Steps p.tables e below (T2.setTop (mkF m 479 #[.val (.int x0), .val (.long x1), .second, .val (.int x2), .val (.int x3), .val (.int x4), .val (.int n), .val (.int nr), .val (.ref br), .val (.int en), .val (.int tg), .val (.ref pp), .val (.int r_2), .val (.int v17)] [])) _
        try simp only [if_neg hc458]
        exact Steps.refl _
    show Steps p.tables e below (T2.setTop (mkF m 479 #[.val (.int x0), .val (.long x1), .second, .val (.int x2), .val (.int x3), .val (.int x4), .val (.int n), .val (.int nr), .val (.ref br), .val (.int en), .val (.int tg), .val (.ref pp), .val (.int r_2), .val (.int (if (1 : Int32) < n then (if (1 : Int32) < en then v17 else (if y1 < tg then v17 else (1 : Int32))) else v17))] [])) _
    exact Steps.refl _
  have pre20 := pre18.trans st20
  have in8_0 : ¬ ((0 : Int32) < 0 ∨ cl8.slots.size ≤ ((0 : Int32)).toNatClampNeg) := inb_of S8 ⟨by decide, by decide⟩
  have at8_0 : cl8.slots[((0 : Int32)).toNatClampNeg]? = some (.int y0) := Has.at H8 in8_0 rfl
  obtain ⟨v21, hv21⟩ : ∃ z : Int32, z = (if (0 : Int32) < n then (if (0 : Int32) < en then v19 else (if y0 < tg then v19 else (0 : Int32))) else v19) := ⟨_, rfl⟩
  have st22 : Steps p.tables e below (T2.setTop (mkF m 479 #[.val (.int x0), .val (.long x1), .second, .val (.int x2), .val (.int x3), .val (.int x4), .val (.int n), .val (.int nr), .val (.ref br), .val (.int en), .val (.int tg), .val (.ref pp), .val (.int r_2), .val (.int v19)] [])) (T2.setTop (mkF m 503 #[.val (.int x0), .val (.long x1), .second, .val (.int x2), .val (.int x3), .val (.int x4), .val (.int n), .val (.int nr), .val (.ref br), .val (.int en), .val (.int tg), .val (.ref pp), .val (.int r_2), .val (.int v21)] [])) := by
    subst v21
    refine XS.iconst X2.here hx rfl (hb hby at_479) ?_
    show Steps p.tables e below (T2.setTop (mkF m 480 #[.val (.int x0), .val (.long x1), .second, .val (.int x2), .val (.int x3), .val (.int x4), .val (.int n), .val (.int nr), .val (.ref br), .val (.int en), .val (.int tg), .val (.ref pp), .val (.int r_2), .val (.int v19)] [(.int (0 : Int32))])) _
    refine XS.iload X2.here hx rfl (hb hby at_480) rfl ?_
    show Steps p.tables e below (T2.setTop (mkF m 482 #[.val (.int x0), .val (.long x1), .second, .val (.int x2), .val (.int x3), .val (.int x4), .val (.int n), .val (.int nr), .val (.ref br), .val (.int en), .val (.int tg), .val (.ref pp), .val (.int r_2), .val (.int v19)] [(.int n), (.int (0 : Int32))])) _
    refine Steps.trans (s₂ := T2.setTop (mkF m 503 #[.val (.int x0), .val (.long x1), .second, .val (.int x2), .val (.int x3), .val (.int x4), .val (.int n), .val (.int nr), .val (.ref br), .val (.int en), .val (.int tg), .val (.ref pp), .val (.int r_2), .val (.int (if (0 : Int32) < n then (if (0 : Int32) < en then v19 else (if y0 < tg then v19 else (0 : Int32))) else v19))] [])) ?_ ?_
    · by_cases hc482 : (0 : Int32) < n
      · refine XS.icmpNo X2.here hx rfl (hb hby at_482) rfl (tlt hc482).2.1 ?_
        show Steps p.tables e below (T2.setTop (mkF m 485 #[.val (.int x0), .val (.long x1), .second, .val (.int x2), .val (.int x3), .val (.int x4), .val (.int n), .val (.int nr), .val (.ref br), .val (.int en), .val (.int tg), .val (.ref pp), .val (.int r_2), .val (.int v19)] [])) _
        refine XS.iconst X2.here hx rfl (hb hby at_485) ?_
        show Steps p.tables e below (T2.setTop (mkF m 486 #[.val (.int x0), .val (.long x1), .second, .val (.int x2), .val (.int x3), .val (.int x4), .val (.int n), .val (.int nr), .val (.ref br), .val (.int en), .val (.int tg), .val (.ref pp), .val (.int r_2), .val (.int v19)] [(.int (0 : Int32))])) _
        refine XS.iload X2.here hx rfl (hb hby at_486) rfl ?_
        show Steps p.tables e below (T2.setTop (mkF m 488 #[.val (.int x0), .val (.long x1), .second, .val (.int x2), .val (.int x3), .val (.int x4), .val (.int n), .val (.int nr), .val (.ref br), .val (.int en), .val (.int tg), .val (.ref pp), .val (.int r_2), .val (.int v19)] [(.int en), (.int (0 : Int32))])) _
        refine Steps.trans (s₂ := T2.setTop (mkF m 503 #[.val (.int x0), .val (.long x1), .second, .val (.int x2), .val (.int x3), .val (.int x4), .val (.int n), .val (.int nr), .val (.ref br), .val (.int en), .val (.int tg), .val (.ref pp), .val (.int r_2), .val (.int (if (0 : Int32) < en then v19 else (if y0 < tg then v19 else (0 : Int32))))] [])) ?_ ?_
        · by_cases hc488 : (0 : Int32) < en
          · refine XS.icmpYes X2.here hx rfl (pc0 := 488) (pc' := 503) rfl (hb hby at_488) rfl (tlt hc488).1 (by decide) (by decide) ?_
            show Steps p.tables e below (T2.setTop (mkF m 503 #[.val (.int x0), .val (.long x1), .second, .val (.int x2), .val (.int x3), .val (.int x4), .val (.int n), .val (.int nr), .val (.ref br), .val (.int en), .val (.int tg), .val (.ref pp), .val (.int r_2), .val (.int v19)] [])) _
            try simp only [if_pos hc488]
            exact Steps.refl _
          · refine XS.icmpNo X2.here hx rfl (hb hby at_488) rfl (flt hc488).1 ?_
            show Steps p.tables e below (T2.setTop (mkF m 491 #[.val (.int x0), .val (.long x1), .second, .val (.int x2), .val (.int x3), .val (.int x4), .val (.int n), .val (.int nr), .val (.ref br), .val (.int en), .val (.int tg), .val (.ref pp), .val (.int r_2), .val (.int v19)] [])) _
            refine XS.aload X2.here hx rfl (hb hby at_491) rfl rfl ?_
            show Steps p.tables e below (T2.setTop (mkF m 493 #[.val (.int x0), .val (.long x1), .second, .val (.int x2), .val (.int x3), .val (.int x4), .val (.int n), .val (.int nr), .val (.ref br), .val (.int en), .val (.int tg), .val (.ref pp), .val (.int r_2), .val (.int v19)] [(.ref br)])) _
            refine XS.iconst X2.here hx rfl (hb hby at_493) ?_
            show Steps p.tables e below (T2.setTop (mkF m 494 #[.val (.int x0), .val (.long x1), .second, .val (.int x2), .val (.int x3), .val (.int x4), .val (.int n), .val (.int nr), .val (.ref br), .val (.int en), .val (.int tg), .val (.ref pp), .val (.int r_2), .val (.int v19)] [(.int (0 : Int32)), (.ref br)])) _
            refine X2.iaload hx (j := (0 : Int32)) (v := (.int y0)) Ar8.1 (State.isArrayOf_alike hZ.alike Ar8.2.1) Ar8.2.2 in8_0 at8_0 (g := (mkF m 494 #[.val (.int x0), .val (.long x1), .second, .val (.int x2), .val (.int x3), .val (.int x4), .val (.int n), .val (.int nr), .val (.ref br), .val (.int en), .val (.int tg), .val (.ref pp), .val (.int r_2), .val (.int v19)] [(.int (0 : Int32)), (.ref br)])) rfl rfl (hb hby at_494) _ ?_
            show Steps p.tables e below (T2.setTop (mkF m 495 #[.val (.int x0), .val (.long x1), .second, .val (.int x2), .val (.int x3), .val (.int x4), .val (.int n), .val (.int nr), .val (.ref br), .val (.int en), .val (.int tg), .val (.ref pp), .val (.int r_2), .val (.int v19)] [(.int y0)])) _
            refine XS.iload X2.here hx rfl (hb hby at_495) rfl ?_
            show Steps p.tables e below (T2.setTop (mkF m 497 #[.val (.int x0), .val (.long x1), .second, .val (.int x2), .val (.int x3), .val (.int x4), .val (.int n), .val (.int nr), .val (.ref br), .val (.int en), .val (.int tg), .val (.ref pp), .val (.int r_2), .val (.int v19)] [(.int tg), (.int y0)])) _
            refine Steps.trans (s₂ := T2.setTop (mkF m 503 #[.val (.int x0), .val (.long x1), .second, .val (.int x2), .val (.int x3), .val (.int x4), .val (.int n), .val (.int nr), .val (.ref br), .val (.int en), .val (.int tg), .val (.ref pp), .val (.int r_2), .val (.int (if y0 < tg then v19 else (0 : Int32)))] [])) ?_ ?_
            · by_cases hc497 : y0 < tg
              · refine XS.icmpYes X2.here hx rfl (pc0 := 497) (pc' := 503) rfl (hb hby at_497) rfl (tlt hc497).1 (by decide) (by decide) ?_
                show Steps p.tables e below (T2.setTop (mkF m 503 #[.val (.int x0), .val (.long x1), .second, .val (.int x2), .val (.int x3), .val (.int x4), .val (.int n), .val (.int nr), .val (.ref br), .val (.int en), .val (.int tg), .val (.ref pp), .val (.int r_2), .val (.int v19)] [])) _
                try simp only [if_pos hc497]
                exact Steps.refl _
              · refine XS.icmpNo X2.here hx rfl (hb hby at_497) rfl (flt hc497).1 ?_
                show Steps p.tables e below (T2.setTop (mkF m 500 #[.val (.int x0), .val (.long x1), .second, .val (.int x2), .val (.int x3), .val (.int x4), .val (.int n), .val (.int nr), .val (.ref br), .val (.int en), .val (.int tg), .val (.ref pp), .val (.int r_2), .val (.int v19)] [])) _
                refine XS.iconst X2.here hx rfl (hb hby at_500) ?_
                show Steps p.tables e below (T2.setTop (mkF m 501 #[.val (.int x0), .val (.long x1), .second, .val (.int x2), .val (.int x3), .val (.int x4), .val (.int n), .val (.int nr), .val (.ref br), .val (.int en), .val (.int tg), .val (.ref pp), .val (.int r_2), .val (.int v19)] [(.int (0 : Int32))])) _
                refine XS.istore X2.here hx rfl (hb hby at_501) rfl (l' := #[.val (.int x0), .val (.long x1), .second, .val (.int x2), .val (.int x3), .val (.int x4), .val (.int n), .val (.int nr), .val (.ref br), .val (.int en), .val (.int tg), .val (.ref pp), .val (.int r_2), .val (.int (0 : Int32))]) rfl ?_
                show Steps p.tables e below (T2.setTop (mkF m 503 #[.val (.int x0), .val (.long x1), .second, .val (.int x2), .val (.int x3), .val (.int x4), .val (.int n), .val (.int nr), .val (.ref br), .val (.int en), .val (.int tg), .val (.ref pp), .val (.int r_2), .val (.int (0 : Int32))] [])) _
                try simp only [if_neg hc497]
                exact Steps.refl _
            show Steps p.tables e below (T2.setTop (mkF m 503 #[.val (.int x0), .val (.long x1), .second, .val (.int x2), .val (.int x3), .val (.int x4), .val (.int n), .val (.int nr), .val (.ref br), .val (.int en), .val (.int tg), .val (.ref pp), .val (.int r_2), .val (.int (if y0 < tg then v19 else (0 : Int32)))] [])) _
            try simp only [if_neg hc488]
            exact Steps.refl _
        show Steps p.tables e below (T2.setTop (mkF m 503 #[.val (.int x0), .val (.long x1), .second, .val (.int x2), .val (.int x3), .val (.int x4), .val (.int n), .val (.int nr), .val (.ref br), .val (.int en), .val (.int tg), .val (.ref pp), .val (.int r_2), .val (.int (if (0 : Int32) < en then v19 else (if y0 < tg then v19 else (0 : Int32))))] [])) _
        try simp only [if_pos hc482]
        exact Steps.refl _
      · refine XS.icmpYes X2.here hx rfl (pc0 := 482) (pc' := 503) rfl (hb hby at_482) rfl (flt hc482).2.1 (by decide) (by decide) ?_
        show Steps p.tables e below (T2.setTop (mkF m 503 #[.val (.int x0), .val (.long x1), .second, .val (.int x2), .val (.int x3), .val (.int x4), .val (.int n), .val (.int nr), .val (.ref br), .val (.int en), .val (.int tg), .val (.ref pp), .val (.int r_2), .val (.int v19)] [])) _
        try simp only [if_neg hc482]
        exact Steps.refl _
    show Steps p.tables e below (T2.setTop (mkF m 503 #[.val (.int x0), .val (.long x1), .second, .val (.int x2), .val (.int x3), .val (.int x4), .val (.int n), .val (.int nr), .val (.ref br), .val (.int en), .val (.int tg), .val (.ref pp), .val (.int r_2), .val (.int (if (0 : Int32) < n then (if (0 : Int32) < en then v19 else (if y0 < tg then v19 else (0 : Int32))) else v19))] [])) _
    exact Steps.refl _
  have pre22 := pre20.trans st22
  have st23 : Steps p.tables e below (T2.setTop (mkF m 503 #[.val (.int x0), .val (.long x1), .second, .val (.int x2), .val (.int x3), .val (.int x4), .val (.int n), .val (.int nr), .val (.ref br), .val (.int en), .val (.int tg), .val (.ref pp), .val (.int r_2), .val (.int v21)] [])) (T2.setTop (mkF m 507 #[.val (.int x0), .val (.long x1), .second, .val (.int x2), .val (.int x3), .val (.int x4), .val (.int n), .val (.int nr), .val (.ref br), .val (.int en), .val (.int tg), .val (.ref pp), .val (.int r_2), .val (.int v21)] [(.int v21), (.int r_2)])) := by
    refine XS.iload X2.here hx rfl (hb hby at_503) rfl ?_
    show Steps p.tables e below (T2.setTop (mkF m 505 #[.val (.int x0), .val (.long x1), .second, .val (.int x2), .val (.int x3), .val (.int x4), .val (.int n), .val (.int nr), .val (.ref br), .val (.int en), .val (.int tg), .val (.ref pp), .val (.int r_2), .val (.int v21)] [(.int r_2)])) _
    refine XS.iload X2.here hx rfl (hb hby at_505) rfl ?_
    show Steps p.tables e below (T2.setTop (mkF m 507 #[.val (.int x0), .val (.long x1), .second, .val (.int x2), .val (.int x3), .val (.int x4), .val (.int n), .val (.int nr), .val (.ref br), .val (.int en), .val (.int tg), .val (.ref pp), .val (.int r_2), .val (.int v21)] [(.int v21), (.int r_2)])) _
    exact Steps.refl _
  have pre23 := pre22.trans st23
  have hc507 : r_2 = v21 := by
    exact own_fin R2_0 hsz G.1.1 G.1.2.1 G.1.2.2.2.1 hO0 hO1 hO2 hO3 hO4 hO5 hO6 hv9 hv11 hv13 hv15 hv17 hv19 hv21
  have st24 : Steps p.tables e below (T2.setTop (mkF m 507 #[.val (.int x0), .val (.long x1), .second, .val (.int x2), .val (.int x3), .val (.int x4), .val (.int n), .val (.int nr), .val (.ref br), .val (.int en), .val (.int tg), .val (.ref pp), .val (.int r_2), .val (.int v21)] [(.int v21), (.int r_2)])) (T2.setTop (mkF m 510 #[.val (.int x0), .val (.long x1), .second, .val (.int x2), .val (.int x3), .val (.int x4), .val (.int n), .val (.int nr), .val (.ref br), .val (.int en), .val (.int tg), .val (.ref pp), .val (.int r_2), .val (.int v21)] [])) := by
    refine XS.icmpNo X2.here hx rfl (hb hby at_507) rfl (teq hc507).2 ?_
    exact Steps.refl _
  have pre24 := pre23.trans st24
  have st25 : Steps p.tables e below (T2.setTop (mkF m 510 #[.val (.int x0), .val (.long x1), .second, .val (.int x2), .val (.int x3), .val (.int x4), .val (.int n), .val (.int nr), .val (.ref br), .val (.int en), .val (.int tg), .val (.ref pp), .val (.int r_2), .val (.int v21)] [])) (T2.setTop (mkF m 515 #[.val (.int x0), .val (.long x1), .second, .val (.int x2), .val (.int x3), .val (.int x4), .val (.int n), .val (.int nr), .val (.ref br), .val (.int en), .val (.int tg), .val (.ref pp), .val (.int r_2), .val (.int v21)] [(.int (1 : Int32))])) := by
    refine XS.iconst X2.here hx rfl (hb hby at_510) ?_
    show Steps p.tables e below (T2.setTop (mkF m 511 #[.val (.int x0), .val (.long x1), .second, .val (.int x2), .val (.int x3), .val (.int x4), .val (.int n), .val (.int nr), .val (.ref br), .val (.int en), .val (.int tg), .val (.ref pp), .val (.int r_2), .val (.int v21)] [(.int (1 : Int32))])) _
    refine XS.goto X2.here hx rfl (pc0 := 511) (pc' := 515) rfl (hb hby at_511) (by decide) (by decide) ?_
    show Steps p.tables e below (T2.setTop (mkF m 515 #[.val (.int x0), .val (.long x1), .second, .val (.int x2), .val (.int x3), .val (.int x4), .val (.int n), .val (.int nr), .val (.ref br), .val (.int en), .val (.int tg), .val (.ref pp), .val (.int r_2), .val (.int v21)] [(.int (1 : Int32))])) _
    exact Steps.refl _
  have pre25 := pre24.trans st25
  exact ⟨T2, _, _, X2, N2, pre25⟩
def own_o (y0 y1 y2 y3 y4 y5 y6 : Int32) : Nat → Int32 := fun j => ([y0, y1, y2, y3, y4, y5, y6] : List Int32).getD j 0
theorem own_srt {y0 y1 y2 y3 y4 y5 y6 : Int32} (h : y0.toInt ≤ y1.toInt ∧ y1.toInt ≤ y2.toInt ∧ y2.toInt ≤ y3.toInt ∧ y3.toInt ≤ y4.toInt ∧ y4.toInt ≤ y5.toInt ∧ y5.toInt ≤ y6.toInt) : ∀ i j : Nat, i ≤ j → j < 7 → ((own_o y0 y1 y2 y3 y4 y5 y6) i).toInt ≤ ((own_o y0 y1 y2 y3 y4 y5 y6) j).toInt := by
  obtain ⟨h0, h1, h2, h3, h4, h5⟩ := h
  have s0 : ((own_o y0 y1 y2 y3 y4 y5 y6) 0).toInt = y0.toInt := rfl
  have s1 : ((own_o y0 y1 y2 y3 y4 y5 y6) 1).toInt = y1.toInt := rfl
  have s2 : ((own_o y0 y1 y2 y3 y4 y5 y6) 2).toInt = y2.toInt := rfl
  have s3 : ((own_o y0 y1 y2 y3 y4 y5 y6) 3).toInt = y3.toInt := rfl
  have s4 : ((own_o y0 y1 y2 y3 y4 y5 y6) 4).toInt = y4.toInt := rfl
  have s5 : ((own_o y0 y1 y2 y3 y4 y5 y6) 5).toInt = y5.toInt := rfl
  have s6 : ((own_o y0 y1 y2 y3 y4 y5 y6) 6).toInt = y6.toInt := rfl
  intro i j hij hj
  rcases (by omega : j = 0 ∨ j = 1 ∨ j = 2 ∨ j = 3 ∨ j = 4 ∨ j = 5 ∨ j = 6) with rfl | rfl | rfl | rfl | rfl | rfl | rfl <;> rcases (by omega : i = 0 ∨ i = 1 ∨ i = 2 ∨ i = 3 ∨ i = 4 ∨ i = 5 ∨ i = 6) with rfl | rfl | rfl | rfl | rfl | rfl | rfl <;> omega
theorem own_n {x n : Int32} (h : n = (x &&& (7 : Int32))) : 0 ≤ n.toInt ∧ n.toInt ≤ 7 := by
  have q := c_and x (7 : Int32) (by decide)
  have e : (7 : Int32).toInt = 7 := by decide
  rw [h]; omega
theorem own_nz (x : Int32) : ((x &&& (7 : Int32)) + (1 : Int32)) ≠ 0 := by
  intro h
  have q := own_n (x := x) rfl
  rw [← Int32.toInt_inj] at h
  have e0 : (0 : Int32).toInt = 0 := by decide
  have e1 : (1 : Int32).toInt = 1 := by decide
  have r := c_iadd (x &&& (7 : Int32)) (1 : Int32)
  omega
theorem own_nz' {n : Int32} (hn : 0 ≤ n.toInt ∧ n.toInt ≤ 7) : (n + (1 : Int32)) ≠ 0 := by
  intro h
  rw [← Int32.toInt_inj] at h
  have e0 : (0 : Int32).toInt = 0 := by decide
  have e1 : (1 : Int32).toInt = 1 := by decide
  have r := c_iadd n (1 : Int32)
  omega
theorem own_en {x n en : Int32} (hn : 0 ≤ n.toInt ∧ n.toInt ≤ 7) (h : en = ((x &&& (2147483647 : Int32)) % (n + (1 : Int32)))) : 0 ≤ en.toInt ∧ en.toInt ≤ n.toInt := by
  have q := own_mask x
  have e1 : (1 : Int32).toInt = 1 := by decide
  have r := c_iadd n (1 : Int32)
  have rr := rng32 (n + (1 : Int32))
  have z := (c_iremV (x &&& (2147483647 : Int32)) (n + (1 : Int32))).1 q.1 (by omega)
  rw [← h] at z
  omega
theorem own_y0 {x y : Int32} (h : y = (x &&& (1073741823 : Int32))) : 0 ≤ y.toInt ∧ y.toInt ≤ 1073741823 := by
  have q := c_and x (1073741823 : Int32) (by decide)
  have e : (1073741823 : Int32).toInt = 1073741823 := by decide
  rw [h]; omega
theorem own_y {y y' : Int32} {g : Int64} (B : Int) (hB : B ≤ 2000000000) (hy : 0 ≤ y.toInt ∧ y.toInt ≤ B) (h : y' = ((y + (1 : Int32)) + ((g &&& (15 : Int64)).toInt32))) : y.toInt ≤ y'.toInt ∧ 0 ≤ y'.toInt ∧ y'.toInt ≤ B + 16 := by
  have b := c_maskL g (15 : Int64) 4 (by decide) (by decide)
  have ep : ((2 ^ 4 : Nat) : Int) = 16 := by decide
  rw [ep] at b
  have l := c_l2i (g &&& (15 : Int64))
  have lr := rng32 ((g &&& (15 : Int64)).toInt32)
  have e1 : (1 : Int32).toInt = 1 := by decide
  have a1 := c_iadd y (1 : Int32)
  have r1 := rng32 (y + (1 : Int32))
  have a2 := c_iadd (y + (1 : Int32)) ((g &&& (15 : Int64)).toInt32)
  have r2 := rng32 ((y + (1 : Int32)) + ((g &&& (15 : Int64)).toInt32))
  rw [← h] at a2 r2
  omega
theorem own_mono {n i j : Int32} (hij : i.toInt ≤ j.toInt) (h : ¬ i < n) : ¬ j < n := by
  rw [Int32.lt_iff_toInt_lt] at *; omega
theorem own_sz {n i j : Int32} (hij : j.toInt = i.toInt + 1) (h : i < n) (h' : ¬ j < n) : j = n := by
  rw [Int32.lt_iff_toInt_lt] at *; rw [← Int32.toInt_inj]; omega
theorem own_sz0 {n : Int32} (hn : 0 ≤ n.toInt ∧ n.toInt ≤ 7) (h' : ¬ (0 : Int32) < n) : (0 : Int32) = n := by
  have e0 : (0 : Int32).toInt = 0 := by decide
  rw [Int32.lt_iff_toInt_lt] at *; rw [← Int32.toInt_inj]; omega
theorem own_sz7 {n : Int32} (hn : 0 ≤ n.toInt ∧ n.toInt ≤ 7) (h' : (6 : Int32) < n) : (7 : Int32) = n := by
  have e0 : (6 : Int32).toInt = 6 := by decide
  have e1 : (7 : Int32).toInt = 7 := by decide
  rw [Int32.lt_iff_toInt_lt] at *; rw [← Int32.toInt_inj]; omega
theorem own_g0 {y0 y1 y2 y3 y4 y5 y6 en n : Int32} (hs : ∀ i j : Nat, i ≤ j → j < 7 → ((own_o y0 y1 y2 y3 y4 y5 y6) i).toInt ≤ ((own_o y0 y1 y2 y3 y4 y5 y6) j).toInt) (hsz : (0 : Int32) = n) (he : 0 ≤ en.toInt ∧ en.toInt ≤ n.toInt) : own_G (own_o y0 y1 y2 y3 y4 y5 y6) [(.int (0 : Int32)), (.int (0 : Int32))] (0 : Int32) (2 : Int32) en := by
  have e1 : (0 : Int32).toInt = 0 := by decide
  have e2 : (2 : Int32).toInt = 2 := by decide
  rw [← hsz, e1] at he
  refine ⟨by (try rw [e1]); (try rw [e2]); omega, fun j hj => ?_, fun i j h1 h2 => hs i j h1 (by rw [e1] at h2; omega)⟩
  · rw [e1] at hj
    omega
theorem own_g1 {y0 y1 y2 y3 y4 y5 y6 en n : Int32} (hs : ∀ i j : Nat, i ≤ j → j < 7 → ((own_o y0 y1 y2 y3 y4 y5 y6) i).toInt ≤ ((own_o y0 y1 y2 y3 y4 y5 y6) j).toInt) (hsz : (1 : Int32) = n) (he : 0 ≤ en.toInt ∧ en.toInt ≤ n.toInt) : own_G (own_o y0 y1 y2 y3 y4 y5 y6) [(.int y0), (.int (0 : Int32))] (1 : Int32) (2 : Int32) en := by
  have e1 : (1 : Int32).toInt = 1 := by decide
  have e2 : (2 : Int32).toInt = 2 := by decide
  rw [← hsz, e1] at he
  refine ⟨by (try rw [e1]); (try rw [e2]); omega, fun j hj => ?_, fun i j h1 h2 => hs i j h1 (by rw [e1] at h2; omega)⟩
  · rw [e1] at hj
    obtain rfl : j = 0 := by omega
    rfl
theorem own_g2 {y0 y1 y2 y3 y4 y5 y6 en n : Int32} (hs : ∀ i j : Nat, i ≤ j → j < 7 → ((own_o y0 y1 y2 y3 y4 y5 y6) i).toInt ≤ ((own_o y0 y1 y2 y3 y4 y5 y6) j).toInt) (hsz : (2 : Int32) = n) (he : 0 ≤ en.toInt ∧ en.toInt ≤ n.toInt) : own_G (own_o y0 y1 y2 y3 y4 y5 y6) [(.int y0), (.int y1)] (2 : Int32) (2 : Int32) en := by
  have e1 : (2 : Int32).toInt = 2 := by decide
  have e2 : (2 : Int32).toInt = 2 := by decide
  rw [← hsz, e1] at he
  refine ⟨by (try rw [e1]); (try rw [e2]); omega, fun j hj => ?_, fun i j h1 h2 => hs i j h1 (by rw [e1] at h2; omega)⟩
  · rw [e1] at hj
    rcases (by omega : j = 0 ∨ j = 1) with rfl | rfl
    all_goals rfl
theorem own_g3 {y0 y1 y2 y3 y4 y5 y6 en n : Int32} (hs : ∀ i j : Nat, i ≤ j → j < 7 → ((own_o y0 y1 y2 y3 y4 y5 y6) i).toInt ≤ ((own_o y0 y1 y2 y3 y4 y5 y6) j).toInt) (hsz : (3 : Int32) = n) (he : 0 ≤ en.toInt ∧ en.toInt ≤ n.toInt) : own_G (own_o y0 y1 y2 y3 y4 y5 y6) [(.int y0), (.int y1), (.int y2), (.int (0 : Int32))] (3 : Int32) (4 : Int32) en := by
  have e1 : (3 : Int32).toInt = 3 := by decide
  have e2 : (4 : Int32).toInt = 4 := by decide
  rw [← hsz, e1] at he
  refine ⟨by (try rw [e1]); (try rw [e2]); omega, fun j hj => ?_, fun i j h1 h2 => hs i j h1 (by rw [e1] at h2; omega)⟩
  · rw [e1] at hj
    rcases (by omega : j = 0 ∨ j = 1 ∨ j = 2) with rfl | rfl | rfl
    all_goals rfl
theorem own_g4 {y0 y1 y2 y3 y4 y5 y6 en n : Int32} (hs : ∀ i j : Nat, i ≤ j → j < 7 → ((own_o y0 y1 y2 y3 y4 y5 y6) i).toInt ≤ ((own_o y0 y1 y2 y3 y4 y5 y6) j).toInt) (hsz : (4 : Int32) = n) (he : 0 ≤ en.toInt ∧ en.toInt ≤ n.toInt) : own_G (own_o y0 y1 y2 y3 y4 y5 y6) [(.int y0), (.int y1), (.int y2), (.int y3)] (4 : Int32) (4 : Int32) en := by
  have e1 : (4 : Int32).toInt = 4 := by decide
  have e2 : (4 : Int32).toInt = 4 := by decide
  rw [← hsz, e1] at he
  refine ⟨by (try rw [e1]); (try rw [e2]); omega, fun j hj => ?_, fun i j h1 h2 => hs i j h1 (by rw [e1] at h2; omega)⟩
  · rw [e1] at hj
    rcases (by omega : j = 0 ∨ j = 1 ∨ j = 2 ∨ j = 3) with rfl | rfl | rfl | rfl
    all_goals rfl
theorem own_g5 {y0 y1 y2 y3 y4 y5 y6 en n : Int32} (hs : ∀ i j : Nat, i ≤ j → j < 7 → ((own_o y0 y1 y2 y3 y4 y5 y6) i).toInt ≤ ((own_o y0 y1 y2 y3 y4 y5 y6) j).toInt) (hsz : (5 : Int32) = n) (he : 0 ≤ en.toInt ∧ en.toInt ≤ n.toInt) : own_G (own_o y0 y1 y2 y3 y4 y5 y6) [(.int y0), (.int y1), (.int y2), (.int y3), (.int y4), (.int (0 : Int32)), (.int (0 : Int32)), (.int (0 : Int32))] (5 : Int32) (8 : Int32) en := by
  have e1 : (5 : Int32).toInt = 5 := by decide
  have e2 : (8 : Int32).toInt = 8 := by decide
  rw [← hsz, e1] at he
  refine ⟨by (try rw [e1]); (try rw [e2]); omega, fun j hj => ?_, fun i j h1 h2 => hs i j h1 (by rw [e1] at h2; omega)⟩
  · rw [e1] at hj
    rcases (by omega : j = 0 ∨ j = 1 ∨ j = 2 ∨ j = 3 ∨ j = 4) with rfl | rfl | rfl | rfl | rfl
    all_goals rfl
theorem own_g6 {y0 y1 y2 y3 y4 y5 y6 en n : Int32} (hs : ∀ i j : Nat, i ≤ j → j < 7 → ((own_o y0 y1 y2 y3 y4 y5 y6) i).toInt ≤ ((own_o y0 y1 y2 y3 y4 y5 y6) j).toInt) (hsz : (6 : Int32) = n) (he : 0 ≤ en.toInt ∧ en.toInt ≤ n.toInt) : own_G (own_o y0 y1 y2 y3 y4 y5 y6) [(.int y0), (.int y1), (.int y2), (.int y3), (.int y4), (.int y5), (.int (0 : Int32)), (.int (0 : Int32))] (6 : Int32) (8 : Int32) en := by
  have e1 : (6 : Int32).toInt = 6 := by decide
  have e2 : (8 : Int32).toInt = 8 := by decide
  rw [← hsz, e1] at he
  refine ⟨by (try rw [e1]); (try rw [e2]); omega, fun j hj => ?_, fun i j h1 h2 => hs i j h1 (by rw [e1] at h2; omega)⟩
  · rw [e1] at hj
    rcases (by omega : j = 0 ∨ j = 1 ∨ j = 2 ∨ j = 3 ∨ j = 4 ∨ j = 5) with rfl | rfl | rfl | rfl | rfl | rfl
    all_goals rfl
theorem own_g7 {y0 y1 y2 y3 y4 y5 y6 en n : Int32} (hs : ∀ i j : Nat, i ≤ j → j < 7 → ((own_o y0 y1 y2 y3 y4 y5 y6) i).toInt ≤ ((own_o y0 y1 y2 y3 y4 y5 y6) j).toInt) (hsz : (7 : Int32) = n) (he : 0 ≤ en.toInt ∧ en.toInt ≤ n.toInt) : own_G (own_o y0 y1 y2 y3 y4 y5 y6) [(.int y0), (.int y1), (.int y2), (.int y3), (.int y4), (.int y5), (.int y6), (.int (0 : Int32))] (7 : Int32) (8 : Int32) en := by
  have e1 : (7 : Int32).toInt = 7 := by decide
  have e2 : (8 : Int32).toInt = 8 := by decide
  rw [← hsz, e1] at he
  refine ⟨by (try rw [e1]); (try rw [e2]); omega, fun j hj => ?_, fun i j h1 h2 => hs i j h1 (by rw [e1] at h2; omega)⟩
  · rw [e1] at hj
    rcases (by omega : j = 0 ∨ j = 1 ∨ j = 2 ∨ j = 3 ∨ j = 4 ∨ j = 5 ∨ j = 6) with rfl | rfl | rfl | rfl | rfl | rfl | rfl
    all_goals rfl
set_option maxRecDepth 65536 in
set_option maxHeartbeats 40000000 in
theorem ch7 {p : Program} {l : Launch} {e : Env} {s : State} {m : MethodId} {args : Array Value} {below : List Frame} {meth : Method} {c : Code} {T0 : State} {locs : List Loc} {Z : State} {a0 : Array Value} {h0 : Heap} {x0 x2 x3 x4 n nr en tg : Int32} {x1 : Int64} {br x ao af ai al : Addr} {ko kf ki kl kb : ClassId} {y0 y1 y2 y3 y4 y5 y6 : Int32}
    (X0 : Stand p l e room_1 s m args below meth c T0 locs 10 44) (n0 : Nat) (Z0 : n0 ≤ h0.size) (N0 : Fr n0 locs) (hx : p.tables.exec = Jvm.exec) (hZ : Z.Warmed39 s.vm) (hw : ∀ d ∈ tables_1, d.before a0 Z = true) (hby : c.code = code) (hml : c.maxLocals = 14) (hown : s.vm.findClass "com/example/portia/portia/index/PostingsAdvancePinLaw" = some m.cls) (e0 : T0.heap = h0) (B0 : Exa Z h0 x "com/example/portia/portia/index/Postings") (B1 : Fld Z h0 x "com/example/portia/portia/index/Postings" "ordinals" "[I" (.ref ao)) (B2 : Fld Z h0 x "com/example/portia/portia/index/Postings" "frequencies" "[I" (.ref af)) (B3 : Fld Z h0 x "com/example/portia/portia/index/Postings" "size" "I" (.int (7 : Int32))) (B4 : Fld Z h0 x "com/example/portia/portia/index/Postings" "documentFrequency" "I" (.int (7 : Int32))) (B5 : Fld Z h0 x "com/example/portia/portia/index/Postings" "impactFrequencies" "[I" (.ref ai)) (B6 : Fld Z h0 x "com/example/portia/portia/index/Postings" "impactLengths" "[I" (.ref al)) (B7 : Fld Z h0 x "com/example/portia/portia/index/Postings" "impactCount" "I" (.int (1 : Int32))) (B8 : Arv Z h0 ao ko .int (8 : Int32) [(.int y0), (.int y1), (.int y2), (.int y3), (.int y4), (.int y5), (.int y6), (.int (0 : Int32))] (.int (0 : Int32))) (B9 : Arv Z h0 af kf .int (8 : Int32) [(.int (1 : Int32)), (.int (1 : Int32)), (.int (1 : Int32)), (.int (1 : Int32)), (.int (1 : Int32)), (.int (1 : Int32)), (.int (1 : Int32)), (.int (0 : Int32))] (.int (0 : Int32))) (B10 : Arv Z h0 ai ki .int (1 : Int32) [(.int (1 : Int32))] (.int (0 : Int32))) (B11 : Arv Z h0 al kl .int (1 : Int32) [(.int (1 : Int32))] (.int (0 : Int32))) (B12 : Arv Z h0 br kb .int (7 : Int32) [(.int y0), (.int y1), (.int y2), (.int y3), (.int y4), (.int y5), (.int y6)] (.int (0 : Int32))) (g_x : n0 ≤ x) (g_ao : n0 ≤ ao) (g_af : n0 ≤ af) (g_ai : n0 ≤ ai) (g_al : n0 ≤ al) (n_x_ao : x ≠ ao) (n_x_af : x ≠ af) (n_x_ai : x ≠ ai) (n_x_al : x ≠ al) (n_ao_af : ao ≠ af) (n_ao_ai : ao ≠ ai) (n_ao_al : ao ≠ al) (n_af_ai : af ≠ ai) (n_af_al : af ≠ al) (n_ai_al : ai ≠ al) (n_br_x : br ≠ x) (n_br_ao : br ≠ ao) (n_br_af : br ≠ af) (n_br_ai : br ≠ ai) (n_br_al : br ≠ al) (hN : 0 ≤ n.toInt ∧ n.toInt ≤ 7) (hE : 0 ≤ en.toInt ∧ en.toInt ≤ n.toInt) (hS : ∀ i j : Nat, i ≤ j → j < 7 → ((own_o y0 y1 y2 y3 y4 y5 y6) i).toInt ≤ ((own_o y0 y1 y2 y3 y4 y5 y6) j).toInt) (hlo : (6 : Int32) < n) :
    ∃ (T' : State) (lc : List Loc) (Ls' : Array Slot), Stand p l e room_1 s m args below meth c T' lc 32 192 ∧ Fr n0 lc ∧ Steps p.tables e below (T0.setTop (mkF m 316 #[.val (.int x0), .val (.long x1), .second, .val (.int x2), .val (.int x3), .val (.int x4), .val (.int n), .val (.int nr), .val (.ref br), .val (.int en), .val (.int tg), .val (.ref x), .unset, .unset] [])) (T'.setTop (mkF m 515 Ls' [(.int (1 : Int32))])) := by
  have pre0 : Steps p.tables e below (T0.setTop (mkF m 316 #[.val (.int x0), .val (.long x1), .second, .val (.int x2), .val (.int x3), .val (.int x4), .val (.int n), .val (.int nr), .val (.ref br), .val (.int en), .val (.int tg), .val (.ref x), .unset, .unset] [])) (T0.setTop (mkF m 316 #[.val (.int x0), .val (.long x1), .second, .val (.int x2), .val (.int x3), .val (.int x4), .val (.int n), .val (.int nr), .val (.ref br), .val (.int en), .val (.int tg), .val (.ref x), .unset, .unset] [])) := Steps.refl _
  have hsz : (7 : Int32) = n := own_sz7 hN hlo
  have hG := own_g7 hS hsz hE
  obtain ⟨T1, lc1, Ls1, X1, N1, st1⟩ := own_tail X0 n0 Z0 N0 (by decide) (by decide) hx hZ hw hby hml hown e0 B0 B3 B1 B8 B12 hG hsz (fun _ => rfl) (fun _ => rfl) (fun _ => rfl) (fun _ => rfl) (fun _ => rfl) (fun _ => rfl) (fun _ => rfl)
  have pre1 := pre0.trans st1
  exact ⟨T1, _, _, X1.more (by decide) (by decide), N1, pre1⟩
theorem pdc6_0 : parseMethodDescriptor "(III)V" = some ⟨[.int, .int, .int], none⟩ := by decide +kernel
set_option maxRecDepth 65536 in
set_option maxHeartbeats 40000000 in
theorem ch6 {p : Program} {l : Launch} {e : Env} {s : State} {m : MethodId} {args : Array Value} {below : List Frame} {meth : Method} {c : Code} {T0 : State} {locs : List Loc} {Z : State} {a0 : Array Value} {h0 : Heap} {x0 x2 x3 x4 n nr en tg : Int32} {x1 : Int64} {br x ao af ai al : Addr} {ko kf ki kl kb : ClassId} {y0 y1 y2 y3 y4 y5 y6 : Int32}
    (X0 : Stand p l e room_1 s m args below meth c T0 locs 10 44) (n0 : Nat) (Z0 : n0 ≤ h0.size) (N0 : Fr n0 locs) (hx : p.tables.exec = Jvm.exec) (hZ : Z.Warmed39 s.vm) (hw : ∀ d ∈ tables_1, d.before a0 Z = true) (hby : c.code = code) (hml : c.maxLocals = 14) (hown : s.vm.findClass "com/example/portia/portia/index/PostingsAdvancePinLaw" = some m.cls) (e0 : T0.heap = h0) (B0 : Exa Z h0 x "com/example/portia/portia/index/Postings") (B1 : Fld Z h0 x "com/example/portia/portia/index/Postings" "ordinals" "[I" (.ref ao)) (B2 : Fld Z h0 x "com/example/portia/portia/index/Postings" "frequencies" "[I" (.ref af)) (B3 : Fld Z h0 x "com/example/portia/portia/index/Postings" "size" "I" (.int (6 : Int32))) (B4 : Fld Z h0 x "com/example/portia/portia/index/Postings" "documentFrequency" "I" (.int (6 : Int32))) (B5 : Fld Z h0 x "com/example/portia/portia/index/Postings" "impactFrequencies" "[I" (.ref ai)) (B6 : Fld Z h0 x "com/example/portia/portia/index/Postings" "impactLengths" "[I" (.ref al)) (B7 : Fld Z h0 x "com/example/portia/portia/index/Postings" "impactCount" "I" (.int (1 : Int32))) (B8 : Arv Z h0 ao ko .int (8 : Int32) [(.int y0), (.int y1), (.int y2), (.int y3), (.int y4), (.int y5), (.int (0 : Int32)), (.int (0 : Int32))] (.int (0 : Int32))) (B9 : Arv Z h0 af kf .int (8 : Int32) [(.int (1 : Int32)), (.int (1 : Int32)), (.int (1 : Int32)), (.int (1 : Int32)), (.int (1 : Int32)), (.int (1 : Int32)), (.int (0 : Int32)), (.int (0 : Int32))] (.int (0 : Int32))) (B10 : Arv Z h0 ai ki .int (1 : Int32) [(.int (1 : Int32))] (.int (0 : Int32))) (B11 : Arv Z h0 al kl .int (1 : Int32) [(.int (1 : Int32))] (.int (0 : Int32))) (B12 : Arv Z h0 br kb .int (7 : Int32) [(.int y0), (.int y1), (.int y2), (.int y3), (.int y4), (.int y5), (.int y6)] (.int (0 : Int32))) (g_x : n0 ≤ x) (g_ao : n0 ≤ ao) (g_af : n0 ≤ af) (g_ai : n0 ≤ ai) (g_al : n0 ≤ al) (n_x_ao : x ≠ ao) (n_x_af : x ≠ af) (n_x_ai : x ≠ ai) (n_x_al : x ≠ al) (n_ao_af : ao ≠ af) (n_ao_ai : ao ≠ ai) (n_ao_al : ao ≠ al) (n_af_ai : af ≠ ai) (n_af_al : af ≠ al) (n_ai_al : ai ≠ al) (n_br_x : br ≠ x) (n_br_ao : br ≠ ao) (n_br_af : br ≠ af) (n_br_ai : br ≠ ai) (n_br_al : br ≠ al) (hN : 0 ≤ n.toInt ∧ n.toInt ≤ 7) (hE : 0 ≤ en.toInt ∧ en.toInt ≤ n.toInt) (hS : ∀ i j : Nat, i ≤ j → j < 7 → ((own_o y0 y1 y2 y3 y4 y5 y6) i).toInt ≤ ((own_o y0 y1 y2 y3 y4 y5 y6) j).toInt) (hlo : (5 : Int32) < n) :
    ∃ (T' : State) (lc : List Loc) (Ls' : Array Slot), Stand p l e room_1 s m args below meth c T' lc 32 192 ∧ Fr n0 lc ∧ Steps p.tables e below (T0.setTop (mkF m 297 #[.val (.int x0), .val (.long x1), .second, .val (.int x2), .val (.int x3), .val (.int x4), .val (.int n), .val (.int nr), .val (.ref br), .val (.int en), .val (.int tg), .val (.ref x), .unset, .unset] [])) (T'.setTop (mkF m 515 Ls' [(.int (1 : Int32))])) := by
  have pre0 : Steps p.tables e below (T0.setTop (mkF m 297 #[.val (.int x0), .val (.long x1), .second, .val (.int x2), .val (.int x3), .val (.int x4), .val (.int n), .val (.int nr), .val (.ref br), .val (.int en), .val (.int tg), .val (.ref x), .unset, .unset] [])) (T0.setTop (mkF m 297 #[.val (.int x0), .val (.long x1), .second, .val (.int x2), .val (.int x3), .val (.int x4), .val (.int n), .val (.int nr), .val (.ref br), .val (.int en), .val (.int tg), .val (.ref x), .unset, .unset] [])) := Steps.refl _
  have st1 : Steps p.tables e below (T0.setTop (mkF m 297 #[.val (.int x0), .val (.long x1), .second, .val (.int x2), .val (.int x3), .val (.int x4), .val (.int n), .val (.int nr), .val (.ref br), .val (.int en), .val (.int tg), .val (.ref x), .unset, .unset] [])) (T0.setTop (mkF m 301 #[.val (.int x0), .val (.long x1), .second, .val (.int x2), .val (.int x3), .val (.int x4), .val (.int n), .val (.int nr), .val (.ref br), .val (.int en), .val (.int tg), .val (.ref x), .unset, .unset] [(.int (6 : Int32)), (.int n)])) := by
    refine XS.iload X0.here hx rfl (hb hby at_297) rfl ?_
    show Steps p.tables e below (T0.setTop (mkF m 299 #[.val (.int x0), .val (.long x1), .second, .val (.int x2), .val (.int x3), .val (.int x4), .val (.int n), .val (.int nr), .val (.ref br), .val (.int en), .val (.int tg), .val (.ref x), .unset, .unset] [(.int n)])) _
    refine XS.bipush X0.here hx rfl (hb hby at_299) ?_
    show Steps p.tables e below (T0.setTop (mkF m 301 #[.val (.int x0), .val (.long x1), .second, .val (.int x2), .val (.int x3), .val (.int x4), .val (.int n), .val (.int nr), .val (.ref br), .val (.int en), .val (.int tg), .val (.ref x), .unset, .unset] [(.int (6 : Int32)), (.int n)])) _
    exact Steps.refl _
  have pre1 := pre0.trans st1
  by_cases hc301 : (6 : Int32) < n
  · have st2 : Steps p.tables e below (T0.setTop (mkF m 301 #[.val (.int x0), .val (.long x1), .second, .val (.int x2), .val (.int x3), .val (.int x4), .val (.int n), .val (.int nr), .val (.ref br), .val (.int en), .val (.int tg), .val (.ref x), .unset, .unset] [(.int (6 : Int32)), (.int n)])) (T0.setTop (mkF m 304 #[.val (.int x0), .val (.long x1), .second, .val (.int x2), .val (.int x3), .val (.int x4), .val (.int n), .val (.int nr), .val (.ref br), .val (.int en), .val (.int tg), .val (.ref x), .unset, .unset] [])) := by
      refine XS.icmpNo X0.here hx rfl (hb hby at_301) rfl (tlt hc301).2.2.2 ?_
      exact Steps.refl _
    have pre2 := pre1.trans st2
    obtain ⟨cl3, Ar3, q3, S3, G3, H3, J3⟩ := id B12
    have in3_6 : ¬ ((6 : Int32) < 0 ∨ cl3.slots.size ≤ ((6 : Int32)).toNatClampNeg) := inb_of S3 ⟨by decide, by decide⟩
    have at3_6 : cl3.slots[((6 : Int32)).toNatClampNeg]? = some (.int y6) := Has.at H3 in3_6 rfl
    have st4 : Steps p.tables e below (T0.setTop (mkF m 304 #[.val (.int x0), .val (.long x1), .second, .val (.int x2), .val (.int x3), .val (.int x4), .val (.int n), .val (.int nr), .val (.ref br), .val (.int en), .val (.int tg), .val (.ref x), .unset, .unset] [])) (T0.setTop (mkF m 313 #[.val (.int x0), .val (.long x1), .second, .val (.int x2), .val (.int x3), .val (.int x4), .val (.int n), .val (.int nr), .val (.ref br), .val (.int en), .val (.int tg), .val (.ref x), .unset, .unset] [(.int (1 : Int32)), (.int (1 : Int32)), (.int y6), (.ref x)])) := by
      refine XS.aload X0.here hx rfl (hb hby at_304) rfl rfl ?_
      show Steps p.tables e below (T0.setTop (mkF m 306 #[.val (.int x0), .val (.long x1), .second, .val (.int x2), .val (.int x3), .val (.int x4), .val (.int n), .val (.int nr), .val (.ref br), .val (.int en), .val (.int tg), .val (.ref x), .unset, .unset] [(.ref x)])) _
      refine XS.aload X0.here hx rfl (hb hby at_306) rfl rfl ?_
      show Steps p.tables e below (T0.setTop (mkF m 308 #[.val (.int x0), .val (.long x1), .second, .val (.int x2), .val (.int x3), .val (.int x4), .val (.int n), .val (.int nr), .val (.ref br), .val (.int en), .val (.int tg), .val (.ref x), .unset, .unset] [(.ref br), (.ref x)])) _
      refine XS.bipush X0.here hx rfl (hb hby at_308) ?_
      show Steps p.tables e below (T0.setTop (mkF m 310 #[.val (.int x0), .val (.long x1), .second, .val (.int x2), .val (.int x3), .val (.int x4), .val (.int n), .val (.int nr), .val (.ref br), .val (.int en), .val (.int tg), .val (.ref x), .unset, .unset] [(.int (6 : Int32)), (.ref br), (.ref x)])) _
      refine X0.iaload hx (j := (6 : Int32)) (v := (.int y6)) (by rw [e0]; exact Ar3.1) (State.isArrayOf_alike hZ.alike Ar3.2.1) Ar3.2.2 in3_6 at3_6 (g := (mkF m 310 #[.val (.int x0), .val (.long x1), .second, .val (.int x2), .val (.int x3), .val (.int x4), .val (.int n), .val (.int nr), .val (.ref br), .val (.int en), .val (.int tg), .val (.ref x), .unset, .unset] [(.int (6 : Int32)), (.ref br), (.ref x)])) rfl rfl (hb hby at_310) _ ?_
      show Steps p.tables e below (T0.setTop (mkF m 311 #[.val (.int x0), .val (.long x1), .second, .val (.int x2), .val (.int x3), .val (.int x4), .val (.int n), .val (.int nr), .val (.ref br), .val (.int en), .val (.int tg), .val (.ref x), .unset, .unset] [(.int y6), (.ref x)])) _
      refine XS.iconst X0.here hx rfl (hb hby at_311) ?_
      show Steps p.tables e below (T0.setTop (mkF m 312 #[.val (.int x0), .val (.long x1), .second, .val (.int x2), .val (.int x3), .val (.int x4), .val (.int n), .val (.int nr), .val (.ref br), .val (.int en), .val (.int tg), .val (.ref x), .unset, .unset] [(.int (1 : Int32)), (.int y6), (.ref x)])) _
      refine XS.iconst X0.here hx rfl (hb hby at_312) ?_
      show Steps p.tables e below (T0.setTop (mkF m 313 #[.val (.int x0), .val (.long x1), .second, .val (.int x2), .val (.int x3), .val (.int x4), .val (.int n), .val (.int nr), .val (.ref br), .val (.int en), .val (.int tg), .val (.ref x), .unset, .unset] [(.int (1 : Int32)), (.int (1 : Int32)), (.int y6), (.ref x)])) _
      exact Steps.refl _
    have pre4 := pre2.trans st4
    obtain ⟨cq5, kq5, q5a, q5b, q5c⟩ := isOf hZ e0 B0
    obtain ⟨_, _, ⟨T5, L5, k5, n5⟩, -, X5, ⟨Lc5, hQ5, l5, y5, z5⟩, st5⟩ := X0.virtualBack hx (y := (⟨"com/example/portia/portia/index/Postings", "add", "(III)V"⟩ : MethodName)) (z := (⟨"com/example/portia/portia/index/Postings", "add", "(III)V"⟩ : MethodName)) hown (mvT hZ (hw _ (List.mem_of_getElem? (i := 28) rfl))) (mvT hZ (hw _ (List.mem_of_getElem? (i := 29) rfl))) (notFace_of_selects (args := #[]) (mvT hZ (hw _ (List.mem_of_getElem? (i := 31) rfl)))) (mvT hZ (hw _ (List.mem_of_getElem? (i := 31) rfl))) (mvT hZ (hw _ (List.mem_of_getElem? (i := 30) rfl))) (by decide) (backOf (W := 0) (rm16 l Z a0 hw [] x y6 ao ko af kf ai ki al kl y0 y1 y2 y3 y4 y5 h0 n0 Z0 B0 B1 B2 B3 B4 B5 B6 B7 B8 B9 B10 B11 g_x g_ao g_af n_x_ao n_x_af n_x_ai n_x_al n_ao_af n_ao_ai n_ao_al n_af_ai n_af_al n_ai_al) hZ (hw _ (List.mem_of_getElem? (i := 32) rfl)) (hw _ (List.mem_of_getElem? (i := 6) rfl)) (by decide) (by decide)) q5a q5c (g := (mkF m 313 #[.val (.int x0), .val (.long x1), .second, .val (.int x2), .val (.int x3), .val (.int x4), .val (.int n), .val (.int nr), .val (.ref br), .val (.int en), .val (.int tg), .val (.ref x), .unset, .unset] [(.int (1 : Int32)), (.int (1 : Int32)), (.int y6), (.ref x)])) rfl (by rw [hml]; rfl) (Steps.refl _) (argsL := [(.int y6), (.int (1 : Int32)), (.int (1 : Int32))]) (rest := []) (lenOf pdc6_0 rfl) rfl (by show 2 * 0 + _ ≤ _; exact Nat.le_of_eq rfl) (hb hby at_313) (fun _ _ => ⟨rfl, e0, (by decide : 10 + 0 ≤ _), (by decide : 44 + 0 ≤ _)⟩)
    dsimp only [Pt.U, Pt.locs, Pt.cells, Pt.slots] at X5 l5 y5 z5 st5 hQ5
    subst l5 y5 z5
    obtain ⟨rfl, Nq5, Kq5, P5_0, P5_1, P5_2, P5_3, P5_4, P5_5, P5_6, P5_7, P5_8, P5_9, P5_10, P5_11⟩ := hQ5
    have F6 : Exa Z T5.heap x "com/example/portia/portia/index/Postings" := B0.keep Kq5
    have F16 : Arv Z T5.heap ai ki .int (1 : Int32) [(.int (1 : Int32))] (.int (0 : Int32)) := B10.keep Kq5 (ninS (Ne.symm n_x_ai) (ninS (Ne.symm n_ao_ai) (ninS (Ne.symm n_af_ai) nin0)))
    have F17 : Arv Z T5.heap al kl .int (1 : Int32) [(.int (1 : Int32))] (.int (0 : Int32)) := B11.keep Kq5 (ninS (Ne.symm n_x_al) (ninS (Ne.symm n_ao_al) (ninS (Ne.symm n_af_al) nin0)))
    have F18 : Arv Z T5.heap br kb .int (7 : Int32) [(.int y0), (.int y1), (.int y2), (.int y3), (.int y4), (.int y5), (.int y6)] (.int (0 : Int32)) := B12.keep Kq5 (ninS n_br_x (ninS n_br_ao (ninS n_br_af nin0)))
    have Z5 : n0 ≤ T5.heap.size := Nat.le_trans Z0 Kq5.1
    have N5 := Fr.app N0 Nq5
    have pre5 : Steps p.tables e below (T0.setTop (mkF m 297 #[.val (.int x0), .val (.long x1), .second, .val (.int x2), .val (.int x3), .val (.int x4), .val (.int n), .val (.int nr), .val (.ref br), .val (.int en), .val (.int tg), .val (.ref x), .unset, .unset] [])) (T5.setTop (mkF m 316 #[.val (.int x0), .val (.long x1), .second, .val (.int x2), .val (.int x3), .val (.int x4), .val (.int n), .val (.int nr), .val (.ref br), .val (.int en), .val (.int tg), .val (.ref x), .unset, .unset] [])) := pre4.trans st5
    obtain ⟨T19, lc19, Ls19, X19, N19, st19⟩ := ch7 X5 n0 Z5 N5 hx hZ hw hby hml hown rfl F6 P5_1 P5_2 P5_3 P5_4 P5_5 P5_6 P5_7 P5_8 P5_9 F16 F17 F18 g_x g_ao g_af g_ai g_al n_x_ao n_x_af n_x_ai n_x_al n_ao_af n_ao_ai n_ao_al n_af_ai n_af_al n_ai_al n_br_x n_br_ao n_br_af n_br_ai n_br_al hN hE hS hc301
    have pre19 := pre5.trans st19
    exact ⟨T19, _, _, X19.more (by decide) (by decide), N19, pre19⟩
  · have st20 : Steps p.tables e below (T0.setTop (mkF m 301 #[.val (.int x0), .val (.long x1), .second, .val (.int x2), .val (.int x3), .val (.int x4), .val (.int n), .val (.int nr), .val (.ref br), .val (.int en), .val (.int tg), .val (.ref x), .unset, .unset] [(.int (6 : Int32)), (.int n)])) (T0.setTop (mkF m 316 #[.val (.int x0), .val (.long x1), .second, .val (.int x2), .val (.int x3), .val (.int x4), .val (.int n), .val (.int nr), .val (.ref br), .val (.int en), .val (.int tg), .val (.ref x), .unset, .unset] [])) := by
      refine XS.icmpYes X0.here hx rfl (pc0 := 301) (pc' := 316) rfl (hb hby at_301) rfl (flt hc301).2.2.2 (by decide) (by decide) ?_
      exact Steps.refl _
    have pre20 := pre1.trans st20
    have hsz : (6 : Int32) = n := own_sz (by decide) hlo hc301
    have hG := own_g6 hS hsz hE
    obtain ⟨T21, lc21, Ls21, X21, N21, st21⟩ := own_tail X0 n0 Z0 N0 (by decide) (by decide) hx hZ hw hby hml hown e0 B0 B3 B1 B8 B12 hG hsz (fun _ => rfl) (fun _ => rfl) (fun _ => rfl) (fun _ => rfl) (fun _ => rfl) (fun _ => rfl) (fun _ => rfl)
    have pre21 := pre20.trans st21
    exact ⟨T21, _, _, X21.more (by decide) (by decide), N21, pre21⟩
theorem pdc5_0 : parseMethodDescriptor "(III)V" = some ⟨[.int, .int, .int], none⟩ := by decide +kernel
set_option maxRecDepth 65536 in
set_option maxHeartbeats 40000000 in
theorem ch5 {p : Program} {l : Launch} {e : Env} {s : State} {m : MethodId} {args : Array Value} {below : List Frame} {meth : Method} {c : Code} {T0 : State} {locs : List Loc} {Z : State} {a0 : Array Value} {h0 : Heap} {x0 x2 x3 x4 n nr en tg : Int32} {x1 : Int64} {br x ao af ai al : Addr} {ko kf ki kl kb : ClassId} {y0 y1 y2 y3 y4 y5 y6 : Int32}
    (X0 : Stand p l e room_1 s m args below meth c T0 locs 10 44) (n0 : Nat) (Z0 : n0 ≤ h0.size) (N0 : Fr n0 locs) (hx : p.tables.exec = Jvm.exec) (hZ : Z.Warmed39 s.vm) (hw : ∀ d ∈ tables_1, d.before a0 Z = true) (hby : c.code = code) (hml : c.maxLocals = 14) (hown : s.vm.findClass "com/example/portia/portia/index/PostingsAdvancePinLaw" = some m.cls) (e0 : T0.heap = h0) (B0 : Exa Z h0 x "com/example/portia/portia/index/Postings") (B1 : Fld Z h0 x "com/example/portia/portia/index/Postings" "ordinals" "[I" (.ref ao)) (B2 : Fld Z h0 x "com/example/portia/portia/index/Postings" "frequencies" "[I" (.ref af)) (B3 : Fld Z h0 x "com/example/portia/portia/index/Postings" "size" "I" (.int (5 : Int32))) (B4 : Fld Z h0 x "com/example/portia/portia/index/Postings" "documentFrequency" "I" (.int (5 : Int32))) (B5 : Fld Z h0 x "com/example/portia/portia/index/Postings" "impactFrequencies" "[I" (.ref ai)) (B6 : Fld Z h0 x "com/example/portia/portia/index/Postings" "impactLengths" "[I" (.ref al)) (B7 : Fld Z h0 x "com/example/portia/portia/index/Postings" "impactCount" "I" (.int (1 : Int32))) (B8 : Arv Z h0 ao ko .int (8 : Int32) [(.int y0), (.int y1), (.int y2), (.int y3), (.int y4), (.int (0 : Int32)), (.int (0 : Int32)), (.int (0 : Int32))] (.int (0 : Int32))) (B9 : Arv Z h0 af kf .int (8 : Int32) [(.int (1 : Int32)), (.int (1 : Int32)), (.int (1 : Int32)), (.int (1 : Int32)), (.int (1 : Int32)), (.int (0 : Int32)), (.int (0 : Int32)), (.int (0 : Int32))] (.int (0 : Int32))) (B10 : Arv Z h0 ai ki .int (1 : Int32) [(.int (1 : Int32))] (.int (0 : Int32))) (B11 : Arv Z h0 al kl .int (1 : Int32) [(.int (1 : Int32))] (.int (0 : Int32))) (B12 : Arv Z h0 br kb .int (7 : Int32) [(.int y0), (.int y1), (.int y2), (.int y3), (.int y4), (.int y5), (.int y6)] (.int (0 : Int32))) (g_x : n0 ≤ x) (g_ao : n0 ≤ ao) (g_af : n0 ≤ af) (g_ai : n0 ≤ ai) (g_al : n0 ≤ al) (n_x_ao : x ≠ ao) (n_x_af : x ≠ af) (n_x_ai : x ≠ ai) (n_x_al : x ≠ al) (n_ao_af : ao ≠ af) (n_ao_ai : ao ≠ ai) (n_ao_al : ao ≠ al) (n_af_ai : af ≠ ai) (n_af_al : af ≠ al) (n_ai_al : ai ≠ al) (n_br_x : br ≠ x) (n_br_ao : br ≠ ao) (n_br_af : br ≠ af) (n_br_ai : br ≠ ai) (n_br_al : br ≠ al) (hN : 0 ≤ n.toInt ∧ n.toInt ≤ 7) (hE : 0 ≤ en.toInt ∧ en.toInt ≤ n.toInt) (hS : ∀ i j : Nat, i ≤ j → j < 7 → ((own_o y0 y1 y2 y3 y4 y5 y6) i).toInt ≤ ((own_o y0 y1 y2 y3 y4 y5 y6) j).toInt) (hlo : (4 : Int32) < n) :
    ∃ (T' : State) (lc : List Loc) (Ls' : Array Slot), Stand p l e room_1 s m args below meth c T' lc 32 192 ∧ Fr n0 lc ∧ Steps p.tables e below (T0.setTop (mkF m 280 #[.val (.int x0), .val (.long x1), .second, .val (.int x2), .val (.int x3), .val (.int x4), .val (.int n), .val (.int nr), .val (.ref br), .val (.int en), .val (.int tg), .val (.ref x), .unset, .unset] [])) (T'.setTop (mkF m 515 Ls' [(.int (1 : Int32))])) := by
  have pre0 : Steps p.tables e below (T0.setTop (mkF m 280 #[.val (.int x0), .val (.long x1), .second, .val (.int x2), .val (.int x3), .val (.int x4), .val (.int n), .val (.int nr), .val (.ref br), .val (.int en), .val (.int tg), .val (.ref x), .unset, .unset] [])) (T0.setTop (mkF m 280 #[.val (.int x0), .val (.long x1), .second, .val (.int x2), .val (.int x3), .val (.int x4), .val (.int n), .val (.int nr), .val (.ref br), .val (.int en), .val (.int tg), .val (.ref x), .unset, .unset] [])) := Steps.refl _
  have st1 : Steps p.tables e below (T0.setTop (mkF m 280 #[.val (.int x0), .val (.long x1), .second, .val (.int x2), .val (.int x3), .val (.int x4), .val (.int n), .val (.int nr), .val (.ref br), .val (.int en), .val (.int tg), .val (.ref x), .unset, .unset] [])) (T0.setTop (mkF m 283 #[.val (.int x0), .val (.long x1), .second, .val (.int x2), .val (.int x3), .val (.int x4), .val (.int n), .val (.int nr), .val (.ref br), .val (.int en), .val (.int tg), .val (.ref x), .unset, .unset] [(.int (5 : Int32)), (.int n)])) := by
    refine XS.iload X0.here hx rfl (hb hby at_280) rfl ?_
    show Steps p.tables e below (T0.setTop (mkF m 282 #[.val (.int x0), .val (.long x1), .second, .val (.int x2), .val (.int x3), .val (.int x4), .val (.int n), .val (.int nr), .val (.ref br), .val (.int en), .val (.int tg), .val (.ref x), .unset, .unset] [(.int n)])) _
    refine XS.iconst X0.here hx rfl (hb hby at_282) ?_
    show Steps p.tables e below (T0.setTop (mkF m 283 #[.val (.int x0), .val (.long x1), .second, .val (.int x2), .val (.int x3), .val (.int x4), .val (.int n), .val (.int nr), .val (.ref br), .val (.int en), .val (.int tg), .val (.ref x), .unset, .unset] [(.int (5 : Int32)), (.int n)])) _
    exact Steps.refl _
  have pre1 := pre0.trans st1
  by_cases hc283 : (5 : Int32) < n
  · have st2 : Steps p.tables e below (T0.setTop (mkF m 283 #[.val (.int x0), .val (.long x1), .second, .val (.int x2), .val (.int x3), .val (.int x4), .val (.int n), .val (.int nr), .val (.ref br), .val (.int en), .val (.int tg), .val (.ref x), .unset, .unset] [(.int (5 : Int32)), (.int n)])) (T0.setTop (mkF m 286 #[.val (.int x0), .val (.long x1), .second, .val (.int x2), .val (.int x3), .val (.int x4), .val (.int n), .val (.int nr), .val (.ref br), .val (.int en), .val (.int tg), .val (.ref x), .unset, .unset] [])) := by
      refine XS.icmpNo X0.here hx rfl (hb hby at_283) rfl (tlt hc283).2.2.2 ?_
      exact Steps.refl _
    have pre2 := pre1.trans st2
    obtain ⟨cl3, Ar3, q3, S3, G3, H3, J3⟩ := id B12
    have in3_5 : ¬ ((5 : Int32) < 0 ∨ cl3.slots.size ≤ ((5 : Int32)).toNatClampNeg) := inb_of S3 ⟨by decide, by decide⟩
    have at3_5 : cl3.slots[((5 : Int32)).toNatClampNeg]? = some (.int y5) := Has.at H3 in3_5 rfl
    have st4 : Steps p.tables e below (T0.setTop (mkF m 286 #[.val (.int x0), .val (.long x1), .second, .val (.int x2), .val (.int x3), .val (.int x4), .val (.int n), .val (.int nr), .val (.ref br), .val (.int en), .val (.int tg), .val (.ref x), .unset, .unset] [])) (T0.setTop (mkF m 294 #[.val (.int x0), .val (.long x1), .second, .val (.int x2), .val (.int x3), .val (.int x4), .val (.int n), .val (.int nr), .val (.ref br), .val (.int en), .val (.int tg), .val (.ref x), .unset, .unset] [(.int (1 : Int32)), (.int (1 : Int32)), (.int y5), (.ref x)])) := by
      refine XS.aload X0.here hx rfl (hb hby at_286) rfl rfl ?_
      show Steps p.tables e below (T0.setTop (mkF m 288 #[.val (.int x0), .val (.long x1), .second, .val (.int x2), .val (.int x3), .val (.int x4), .val (.int n), .val (.int nr), .val (.ref br), .val (.int en), .val (.int tg), .val (.ref x), .unset, .unset] [(.ref x)])) _
      refine XS.aload X0.here hx rfl (hb hby at_288) rfl rfl ?_
      show Steps p.tables e below (T0.setTop (mkF m 290 #[.val (.int x0), .val (.long x1), .second, .val (.int x2), .val (.int x3), .val (.int x4), .val (.int n), .val (.int nr), .val (.ref br), .val (.int en), .val (.int tg), .val (.ref x), .unset, .unset] [(.ref br), (.ref x)])) _
      refine XS.iconst X0.here hx rfl (hb hby at_290) ?_
      show Steps p.tables e below (T0.setTop (mkF m 291 #[.val (.int x0), .val (.long x1), .second, .val (.int x2), .val (.int x3), .val (.int x4), .val (.int n), .val (.int nr), .val (.ref br), .val (.int en), .val (.int tg), .val (.ref x), .unset, .unset] [(.int (5 : Int32)), (.ref br), (.ref x)])) _
      refine X0.iaload hx (j := (5 : Int32)) (v := (.int y5)) (by rw [e0]; exact Ar3.1) (State.isArrayOf_alike hZ.alike Ar3.2.1) Ar3.2.2 in3_5 at3_5 (g := (mkF m 291 #[.val (.int x0), .val (.long x1), .second, .val (.int x2), .val (.int x3), .val (.int x4), .val (.int n), .val (.int nr), .val (.ref br), .val (.int en), .val (.int tg), .val (.ref x), .unset, .unset] [(.int (5 : Int32)), (.ref br), (.ref x)])) rfl rfl (hb hby at_291) _ ?_
      show Steps p.tables e below (T0.setTop (mkF m 292 #[.val (.int x0), .val (.long x1), .second, .val (.int x2), .val (.int x3), .val (.int x4), .val (.int n), .val (.int nr), .val (.ref br), .val (.int en), .val (.int tg), .val (.ref x), .unset, .unset] [(.int y5), (.ref x)])) _
      refine XS.iconst X0.here hx rfl (hb hby at_292) ?_
      show Steps p.tables e below (T0.setTop (mkF m 293 #[.val (.int x0), .val (.long x1), .second, .val (.int x2), .val (.int x3), .val (.int x4), .val (.int n), .val (.int nr), .val (.ref br), .val (.int en), .val (.int tg), .val (.ref x), .unset, .unset] [(.int (1 : Int32)), (.int y5), (.ref x)])) _
      refine XS.iconst X0.here hx rfl (hb hby at_293) ?_
      show Steps p.tables e below (T0.setTop (mkF m 294 #[.val (.int x0), .val (.long x1), .second, .val (.int x2), .val (.int x3), .val (.int x4), .val (.int n), .val (.int nr), .val (.ref br), .val (.int en), .val (.int tg), .val (.ref x), .unset, .unset] [(.int (1 : Int32)), (.int (1 : Int32)), (.int y5), (.ref x)])) _
      exact Steps.refl _
    have pre4 := pre2.trans st4
    obtain ⟨cq5, kq5, q5a, q5b, q5c⟩ := isOf hZ e0 B0
    obtain ⟨_, _, ⟨T5, L5, k5, n5⟩, -, X5, ⟨Lc5, hQ5, l5, y5, z5⟩, st5⟩ := X0.virtualBack hx (y := (⟨"com/example/portia/portia/index/Postings", "add", "(III)V"⟩ : MethodName)) (z := (⟨"com/example/portia/portia/index/Postings", "add", "(III)V"⟩ : MethodName)) hown (mvT hZ (hw _ (List.mem_of_getElem? (i := 28) rfl))) (mvT hZ (hw _ (List.mem_of_getElem? (i := 29) rfl))) (notFace_of_selects (args := #[]) (mvT hZ (hw _ (List.mem_of_getElem? (i := 31) rfl)))) (mvT hZ (hw _ (List.mem_of_getElem? (i := 31) rfl))) (mvT hZ (hw _ (List.mem_of_getElem? (i := 30) rfl))) (by decide) (backOf (W := 0) (rm15 l Z a0 hw [] x y5 ao ko af kf ai ki al kl y0 y1 y2 y3 y4 h0 n0 Z0 B0 B1 B2 B3 B4 B5 B6 B7 B8 B9 B10 B11 g_x g_ao g_af n_x_ao n_x_af n_x_ai n_x_al n_ao_af n_ao_ai n_ao_al n_af_ai n_af_al n_ai_al) hZ (hw _ (List.mem_of_getElem? (i := 32) rfl)) (hw _ (List.mem_of_getElem? (i := 6) rfl)) (by decide) (by decide)) q5a q5c (g := (mkF m 294 #[.val (.int x0), .val (.long x1), .second, .val (.int x2), .val (.int x3), .val (.int x4), .val (.int n), .val (.int nr), .val (.ref br), .val (.int en), .val (.int tg), .val (.ref x), .unset, .unset] [(.int (1 : Int32)), (.int (1 : Int32)), (.int y5), (.ref x)])) rfl (by rw [hml]; rfl) (Steps.refl _) (argsL := [(.int y5), (.int (1 : Int32)), (.int (1 : Int32))]) (rest := []) (lenOf pdc5_0 rfl) rfl (by show 2 * 0 + _ ≤ _; exact Nat.le_of_eq rfl) (hb hby at_294) (fun _ _ => ⟨rfl, e0, (by decide : 10 + 0 ≤ _), (by decide : 44 + 0 ≤ _)⟩)
    dsimp only [Pt.U, Pt.locs, Pt.cells, Pt.slots] at X5 l5 y5 z5 st5 hQ5
    subst l5 y5 z5
    obtain ⟨rfl, Nq5, Kq5, P5_0, P5_1, P5_2, P5_3, P5_4, P5_5, P5_6, P5_7, P5_8, P5_9, P5_10, P5_11⟩ := hQ5
    have F6 : Exa Z T5.heap x "com/example/portia/portia/index/Postings" := B0.keep Kq5
    have F16 : Arv Z T5.heap ai ki .int (1 : Int32) [(.int (1 : Int32))] (.int (0 : Int32)) := B10.keep Kq5 (ninS (Ne.symm n_x_ai) (ninS (Ne.symm n_ao_ai) (ninS (Ne.symm n_af_ai) nin0)))
    have F17 : Arv Z T5.heap al kl .int (1 : Int32) [(.int (1 : Int32))] (.int (0 : Int32)) := B11.keep Kq5 (ninS (Ne.symm n_x_al) (ninS (Ne.symm n_ao_al) (ninS (Ne.symm n_af_al) nin0)))
    have F18 : Arv Z T5.heap br kb .int (7 : Int32) [(.int y0), (.int y1), (.int y2), (.int y3), (.int y4), (.int y5), (.int y6)] (.int (0 : Int32)) := B12.keep Kq5 (ninS n_br_x (ninS n_br_ao (ninS n_br_af nin0)))
    have Z5 : n0 ≤ T5.heap.size := Nat.le_trans Z0 Kq5.1
    have N5 := Fr.app N0 Nq5
    have pre5 : Steps p.tables e below (T0.setTop (mkF m 280 #[.val (.int x0), .val (.long x1), .second, .val (.int x2), .val (.int x3), .val (.int x4), .val (.int n), .val (.int nr), .val (.ref br), .val (.int en), .val (.int tg), .val (.ref x), .unset, .unset] [])) (T5.setTop (mkF m 297 #[.val (.int x0), .val (.long x1), .second, .val (.int x2), .val (.int x3), .val (.int x4), .val (.int n), .val (.int nr), .val (.ref br), .val (.int en), .val (.int tg), .val (.ref x), .unset, .unset] [])) := pre4.trans st5
    obtain ⟨T19, lc19, Ls19, X19, N19, st19⟩ := ch6 X5 n0 Z5 N5 hx hZ hw hby hml hown rfl F6 P5_1 P5_2 P5_3 P5_4 P5_5 P5_6 P5_7 P5_8 P5_9 F16 F17 F18 g_x g_ao g_af g_ai g_al n_x_ao n_x_af n_x_ai n_x_al n_ao_af n_ao_ai n_ao_al n_af_ai n_af_al n_ai_al n_br_x n_br_ao n_br_af n_br_ai n_br_al hN hE hS hc283
    have pre19 := pre5.trans st19
    exact ⟨T19, _, _, X19.more (by decide) (by decide), N19, pre19⟩
  · have st20 : Steps p.tables e below (T0.setTop (mkF m 283 #[.val (.int x0), .val (.long x1), .second, .val (.int x2), .val (.int x3), .val (.int x4), .val (.int n), .val (.int nr), .val (.ref br), .val (.int en), .val (.int tg), .val (.ref x), .unset, .unset] [(.int (5 : Int32)), (.int n)])) (T0.setTop (mkF m 297 #[.val (.int x0), .val (.long x1), .second, .val (.int x2), .val (.int x3), .val (.int x4), .val (.int n), .val (.int nr), .val (.ref br), .val (.int en), .val (.int tg), .val (.ref x), .unset, .unset] [])) := by
      refine XS.icmpYes X0.here hx rfl (pc0 := 283) (pc' := 297) rfl (hb hby at_283) rfl (flt hc283).2.2.2 (by decide) (by decide) ?_
      exact Steps.refl _
    have pre20 := pre1.trans st20
    have st21 : Steps p.tables e below (T0.setTop (mkF m 297 #[.val (.int x0), .val (.long x1), .second, .val (.int x2), .val (.int x3), .val (.int x4), .val (.int n), .val (.int nr), .val (.ref br), .val (.int en), .val (.int tg), .val (.ref x), .unset, .unset] [])) (T0.setTop (mkF m 301 #[.val (.int x0), .val (.long x1), .second, .val (.int x2), .val (.int x3), .val (.int x4), .val (.int n), .val (.int nr), .val (.ref br), .val (.int en), .val (.int tg), .val (.ref x), .unset, .unset] [(.int (6 : Int32)), (.int n)])) := by
      refine XS.iload X0.here hx rfl (hb hby at_297) rfl ?_
      show Steps p.tables e below (T0.setTop (mkF m 299 #[.val (.int x0), .val (.long x1), .second, .val (.int x2), .val (.int x3), .val (.int x4), .val (.int n), .val (.int nr), .val (.ref br), .val (.int en), .val (.int tg), .val (.ref x), .unset, .unset] [(.int n)])) _
      refine XS.bipush X0.here hx rfl (hb hby at_299) ?_
      show Steps p.tables e below (T0.setTop (mkF m 301 #[.val (.int x0), .val (.long x1), .second, .val (.int x2), .val (.int x3), .val (.int x4), .val (.int n), .val (.int nr), .val (.ref br), .val (.int en), .val (.int tg), .val (.ref x), .unset, .unset] [(.int (6 : Int32)), (.int n)])) _
      exact Steps.refl _
    have pre21 := pre20.trans st21
    have hc301 : ¬ ((6 : Int32) < n) := by
      exact own_mono (by decide) hc283
    have st22 : Steps p.tables e below (T0.setTop (mkF m 301 #[.val (.int x0), .val (.long x1), .second, .val (.int x2), .val (.int x3), .val (.int x4), .val (.int n), .val (.int nr), .val (.ref br), .val (.int en), .val (.int tg), .val (.ref x), .unset, .unset] [(.int (6 : Int32)), (.int n)])) (T0.setTop (mkF m 316 #[.val (.int x0), .val (.long x1), .second, .val (.int x2), .val (.int x3), .val (.int x4), .val (.int n), .val (.int nr), .val (.ref br), .val (.int en), .val (.int tg), .val (.ref x), .unset, .unset] [])) := by
      refine XS.icmpYes X0.here hx rfl (pc0 := 301) (pc' := 316) rfl (hb hby at_301) rfl (flt hc301).2.2.2 (by decide) (by decide) ?_
      exact Steps.refl _
    have pre22 := pre21.trans st22
    have hsz : (5 : Int32) = n := own_sz (by decide) hlo hc283
    have hG := own_g5 hS hsz hE
    obtain ⟨T23, lc23, Ls23, X23, N23, st23⟩ := own_tail X0 n0 Z0 N0 (by decide) (by decide) hx hZ hw hby hml hown e0 B0 B3 B1 B8 B12 hG hsz (fun _ => rfl) (fun _ => rfl) (fun _ => rfl) (fun _ => rfl) (fun _ => rfl) (fun _ => rfl) (fun _ => rfl)
    have pre23 := pre22.trans st23
    exact ⟨T23, _, _, X23.more (by decide) (by decide), N23, pre23⟩
theorem pdc4_0 : parseMethodDescriptor "(III)V" = some ⟨[.int, .int, .int], none⟩ := by decide +kernel
set_option maxRecDepth 65536 in
set_option maxHeartbeats 40000000 in
theorem ch4 {p : Program} {l : Launch} {e : Env} {s : State} {m : MethodId} {args : Array Value} {below : List Frame} {meth : Method} {c : Code} {T0 : State} {locs : List Loc} {Z : State} {a0 : Array Value} {h0 : Heap} {x0 x2 x3 x4 n nr en tg : Int32} {x1 : Int64} {br x ao af ai al : Addr} {ko kf ki kl kb : ClassId} {y0 y1 y2 y3 y4 y5 y6 : Int32}
    (X0 : Stand p l e room_1 s m args below meth c T0 locs 8 28) (n0 : Nat) (Z0 : n0 ≤ h0.size) (N0 : Fr n0 locs) (hx : p.tables.exec = Jvm.exec) (hZ : Z.Warmed39 s.vm) (hw : ∀ d ∈ tables_1, d.before a0 Z = true) (hby : c.code = code) (hml : c.maxLocals = 14) (hown : s.vm.findClass "com/example/portia/portia/index/PostingsAdvancePinLaw" = some m.cls) (e0 : T0.heap = h0) (B0 : Exa Z h0 x "com/example/portia/portia/index/Postings") (B1 : Fld Z h0 x "com/example/portia/portia/index/Postings" "ordinals" "[I" (.ref ao)) (B2 : Fld Z h0 x "com/example/portia/portia/index/Postings" "frequencies" "[I" (.ref af)) (B3 : Fld Z h0 x "com/example/portia/portia/index/Postings" "size" "I" (.int (4 : Int32))) (B4 : Fld Z h0 x "com/example/portia/portia/index/Postings" "documentFrequency" "I" (.int (4 : Int32))) (B5 : Fld Z h0 x "com/example/portia/portia/index/Postings" "impactFrequencies" "[I" (.ref ai)) (B6 : Fld Z h0 x "com/example/portia/portia/index/Postings" "impactLengths" "[I" (.ref al)) (B7 : Fld Z h0 x "com/example/portia/portia/index/Postings" "impactCount" "I" (.int (1 : Int32))) (B8 : Arv Z h0 ao ko .int (4 : Int32) [(.int y0), (.int y1), (.int y2), (.int y3)] (.int (0 : Int32))) (B9 : Arv Z h0 af kf .int (4 : Int32) [(.int (1 : Int32)), (.int (1 : Int32)), (.int (1 : Int32)), (.int (1 : Int32))] (.int (0 : Int32))) (B10 : Arv Z h0 ai ki .int (1 : Int32) [(.int (1 : Int32))] (.int (0 : Int32))) (B11 : Arv Z h0 al kl .int (1 : Int32) [(.int (1 : Int32))] (.int (0 : Int32))) (B12 : Arv Z h0 br kb .int (7 : Int32) [(.int y0), (.int y1), (.int y2), (.int y3), (.int y4), (.int y5), (.int y6)] (.int (0 : Int32))) (g_x : n0 ≤ x) (g_ao : n0 ≤ ao) (g_af : n0 ≤ af) (g_ai : n0 ≤ ai) (g_al : n0 ≤ al) (n_x_ao : x ≠ ao) (n_x_af : x ≠ af) (n_x_ai : x ≠ ai) (n_x_al : x ≠ al) (n_ao_af : ao ≠ af) (n_ao_ai : ao ≠ ai) (n_ao_al : ao ≠ al) (n_af_ai : af ≠ ai) (n_af_al : af ≠ al) (n_ai_al : ai ≠ al) (n_br_x : br ≠ x) (n_br_ao : br ≠ ao) (n_br_af : br ≠ af) (n_br_ai : br ≠ ai) (n_br_al : br ≠ al) (hN : 0 ≤ n.toInt ∧ n.toInt ≤ 7) (hE : 0 ≤ en.toInt ∧ en.toInt ≤ n.toInt) (hS : ∀ i j : Nat, i ≤ j → j < 7 → ((own_o y0 y1 y2 y3 y4 y5 y6) i).toInt ≤ ((own_o y0 y1 y2 y3 y4 y5 y6) j).toInt) (hlo : (3 : Int32) < n) :
    ∃ (T' : State) (lc : List Loc) (Ls' : Array Slot), Stand p l e room_1 s m args below meth c T' lc 32 192 ∧ Fr n0 lc ∧ Steps p.tables e below (T0.setTop (mkF m 263 #[.val (.int x0), .val (.long x1), .second, .val (.int x2), .val (.int x3), .val (.int x4), .val (.int n), .val (.int nr), .val (.ref br), .val (.int en), .val (.int tg), .val (.ref x), .unset, .unset] [])) (T'.setTop (mkF m 515 Ls' [(.int (1 : Int32))])) := by
  have pre0 : Steps p.tables e below (T0.setTop (mkF m 263 #[.val (.int x0), .val (.long x1), .second, .val (.int x2), .val (.int x3), .val (.int x4), .val (.int n), .val (.int nr), .val (.ref br), .val (.int en), .val (.int tg), .val (.ref x), .unset, .unset] [])) (T0.setTop (mkF m 263 #[.val (.int x0), .val (.long x1), .second, .val (.int x2), .val (.int x3), .val (.int x4), .val (.int n), .val (.int nr), .val (.ref br), .val (.int en), .val (.int tg), .val (.ref x), .unset, .unset] [])) := Steps.refl _
  have st1 : Steps p.tables e below (T0.setTop (mkF m 263 #[.val (.int x0), .val (.long x1), .second, .val (.int x2), .val (.int x3), .val (.int x4), .val (.int n), .val (.int nr), .val (.ref br), .val (.int en), .val (.int tg), .val (.ref x), .unset, .unset] [])) (T0.setTop (mkF m 266 #[.val (.int x0), .val (.long x1), .second, .val (.int x2), .val (.int x3), .val (.int x4), .val (.int n), .val (.int nr), .val (.ref br), .val (.int en), .val (.int tg), .val (.ref x), .unset, .unset] [(.int (4 : Int32)), (.int n)])) := by
    refine XS.iload X0.here hx rfl (hb hby at_263) rfl ?_
    show Steps p.tables e below (T0.setTop (mkF m 265 #[.val (.int x0), .val (.long x1), .second, .val (.int x2), .val (.int x3), .val (.int x4), .val (.int n), .val (.int nr), .val (.ref br), .val (.int en), .val (.int tg), .val (.ref x), .unset, .unset] [(.int n)])) _
    refine XS.iconst X0.here hx rfl (hb hby at_265) ?_
    show Steps p.tables e below (T0.setTop (mkF m 266 #[.val (.int x0), .val (.long x1), .second, .val (.int x2), .val (.int x3), .val (.int x4), .val (.int n), .val (.int nr), .val (.ref br), .val (.int en), .val (.int tg), .val (.ref x), .unset, .unset] [(.int (4 : Int32)), (.int n)])) _
    exact Steps.refl _
  have pre1 := pre0.trans st1
  by_cases hc266 : (4 : Int32) < n
  · have st2 : Steps p.tables e below (T0.setTop (mkF m 266 #[.val (.int x0), .val (.long x1), .second, .val (.int x2), .val (.int x3), .val (.int x4), .val (.int n), .val (.int nr), .val (.ref br), .val (.int en), .val (.int tg), .val (.ref x), .unset, .unset] [(.int (4 : Int32)), (.int n)])) (T0.setTop (mkF m 269 #[.val (.int x0), .val (.long x1), .second, .val (.int x2), .val (.int x3), .val (.int x4), .val (.int n), .val (.int nr), .val (.ref br), .val (.int en), .val (.int tg), .val (.ref x), .unset, .unset] [])) := by
      refine XS.icmpNo X0.here hx rfl (hb hby at_266) rfl (tlt hc266).2.2.2 ?_
      exact Steps.refl _
    have pre2 := pre1.trans st2
    obtain ⟨cl3, Ar3, q3, S3, G3, H3, J3⟩ := id B12
    have in3_4 : ¬ ((4 : Int32) < 0 ∨ cl3.slots.size ≤ ((4 : Int32)).toNatClampNeg) := inb_of S3 ⟨by decide, by decide⟩
    have at3_4 : cl3.slots[((4 : Int32)).toNatClampNeg]? = some (.int y4) := Has.at H3 in3_4 rfl
    have st4 : Steps p.tables e below (T0.setTop (mkF m 269 #[.val (.int x0), .val (.long x1), .second, .val (.int x2), .val (.int x3), .val (.int x4), .val (.int n), .val (.int nr), .val (.ref br), .val (.int en), .val (.int tg), .val (.ref x), .unset, .unset] [])) (T0.setTop (mkF m 277 #[.val (.int x0), .val (.long x1), .second, .val (.int x2), .val (.int x3), .val (.int x4), .val (.int n), .val (.int nr), .val (.ref br), .val (.int en), .val (.int tg), .val (.ref x), .unset, .unset] [(.int (1 : Int32)), (.int (1 : Int32)), (.int y4), (.ref x)])) := by
      refine XS.aload X0.here hx rfl (hb hby at_269) rfl rfl ?_
      show Steps p.tables e below (T0.setTop (mkF m 271 #[.val (.int x0), .val (.long x1), .second, .val (.int x2), .val (.int x3), .val (.int x4), .val (.int n), .val (.int nr), .val (.ref br), .val (.int en), .val (.int tg), .val (.ref x), .unset, .unset] [(.ref x)])) _
      refine XS.aload X0.here hx rfl (hb hby at_271) rfl rfl ?_
      show Steps p.tables e below (T0.setTop (mkF m 273 #[.val (.int x0), .val (.long x1), .second, .val (.int x2), .val (.int x3), .val (.int x4), .val (.int n), .val (.int nr), .val (.ref br), .val (.int en), .val (.int tg), .val (.ref x), .unset, .unset] [(.ref br), (.ref x)])) _
      refine XS.iconst X0.here hx rfl (hb hby at_273) ?_
      show Steps p.tables e below (T0.setTop (mkF m 274 #[.val (.int x0), .val (.long x1), .second, .val (.int x2), .val (.int x3), .val (.int x4), .val (.int n), .val (.int nr), .val (.ref br), .val (.int en), .val (.int tg), .val (.ref x), .unset, .unset] [(.int (4 : Int32)), (.ref br), (.ref x)])) _
      refine X0.iaload hx (j := (4 : Int32)) (v := (.int y4)) (by rw [e0]; exact Ar3.1) (State.isArrayOf_alike hZ.alike Ar3.2.1) Ar3.2.2 in3_4 at3_4 (g := (mkF m 274 #[.val (.int x0), .val (.long x1), .second, .val (.int x2), .val (.int x3), .val (.int x4), .val (.int n), .val (.int nr), .val (.ref br), .val (.int en), .val (.int tg), .val (.ref x), .unset, .unset] [(.int (4 : Int32)), (.ref br), (.ref x)])) rfl rfl (hb hby at_274) _ ?_
      show Steps p.tables e below (T0.setTop (mkF m 275 #[.val (.int x0), .val (.long x1), .second, .val (.int x2), .val (.int x3), .val (.int x4), .val (.int n), .val (.int nr), .val (.ref br), .val (.int en), .val (.int tg), .val (.ref x), .unset, .unset] [(.int y4), (.ref x)])) _
      refine XS.iconst X0.here hx rfl (hb hby at_275) ?_
      show Steps p.tables e below (T0.setTop (mkF m 276 #[.val (.int x0), .val (.long x1), .second, .val (.int x2), .val (.int x3), .val (.int x4), .val (.int n), .val (.int nr), .val (.ref br), .val (.int en), .val (.int tg), .val (.ref x), .unset, .unset] [(.int (1 : Int32)), (.int y4), (.ref x)])) _
      refine XS.iconst X0.here hx rfl (hb hby at_276) ?_
      show Steps p.tables e below (T0.setTop (mkF m 277 #[.val (.int x0), .val (.long x1), .second, .val (.int x2), .val (.int x3), .val (.int x4), .val (.int n), .val (.int nr), .val (.ref br), .val (.int en), .val (.int tg), .val (.ref x), .unset, .unset] [(.int (1 : Int32)), (.int (1 : Int32)), (.int y4), (.ref x)])) _
      exact Steps.refl _
    have pre4 := pre2.trans st4
    obtain ⟨cq5, kq5, q5a, q5b, q5c⟩ := isOf hZ e0 B0
    obtain ⟨_, _, ⟨T5, L5, k5, n5⟩, -, X5, ⟨Lc5, hQ5, l5, y5, z5⟩, st5⟩ := X0.virtualBack hx (y := (⟨"com/example/portia/portia/index/Postings", "add", "(III)V"⟩ : MethodName)) (z := (⟨"com/example/portia/portia/index/Postings", "add", "(III)V"⟩ : MethodName)) hown (mvT hZ (hw _ (List.mem_of_getElem? (i := 28) rfl))) (mvT hZ (hw _ (List.mem_of_getElem? (i := 29) rfl))) (notFace_of_selects (args := #[]) (mvT hZ (hw _ (List.mem_of_getElem? (i := 31) rfl)))) (mvT hZ (hw _ (List.mem_of_getElem? (i := 31) rfl))) (mvT hZ (hw _ (List.mem_of_getElem? (i := 30) rfl))) (by decide) (backOf (W := 0) (rm14 l Z a0 hw [] x y4 ao ko af kf ai ki al kl y0 y1 y2 y3 h0 n0 Z0 B0 B1 B2 B3 B4 B5 B6 B7 B8 B9 B10 B11 g_x n_x_ao n_x_af n_x_ai n_x_al n_ao_af n_ao_ai n_ao_al n_af_ai n_af_al n_ai_al) hZ (hw _ (List.mem_of_getElem? (i := 32) rfl)) (hw _ (List.mem_of_getElem? (i := 6) rfl)) (by decide) (by decide)) q5a q5c (g := (mkF m 277 #[.val (.int x0), .val (.long x1), .second, .val (.int x2), .val (.int x3), .val (.int x4), .val (.int n), .val (.int nr), .val (.ref br), .val (.int en), .val (.int tg), .val (.ref x), .unset, .unset] [(.int (1 : Int32)), (.int (1 : Int32)), (.int y4), (.ref x)])) rfl (by rw [hml]; rfl) (Steps.refl _) (argsL := [(.int y4), (.int (1 : Int32)), (.int (1 : Int32))]) (rest := []) (lenOf pdc4_0 rfl) rfl (by show 2 * 0 + _ ≤ _; exact Nat.le_of_eq rfl) (hb hby at_277) (fun _ _ => ⟨rfl, e0, (by decide : 8 + 2 ≤ _), (by decide : 28 + 16 ≤ _)⟩)
    dsimp only [Pt.U, Pt.locs, Pt.cells, Pt.slots] at X5 l5 y5 z5 st5 hQ5
    subst l5 y5 z5
    obtain ⟨ao2_5, ko2_5, af2_5, kf2_5, rfl, Nq5, Kq5, P5_0, P5_1, P5_2, P5_3, P5_4, P5_5, P5_6, P5_7, P5_8, P5_9, P5_10, P5_11, SZ5_ao2, SZ5_af2, NE5_ao2_af2⟩ := hQ5
    have gnao2_5 : n0 ≤ ao2_5 := Nat.le_trans Z0 SZ5_ao2
    have nex_ao2_5 : x ≠ ao2_5 := Nat.ne_of_lt (Nat.lt_of_lt_of_le B0.lt SZ5_ao2)
    have neao_ao2_5 : ao ≠ ao2_5 := Nat.ne_of_lt (Nat.lt_of_lt_of_le B8.lt SZ5_ao2)
    have neaf_ao2_5 : af ≠ ao2_5 := Nat.ne_of_lt (Nat.lt_of_lt_of_le B9.lt SZ5_ao2)
    have neai_ao2_5 : ai ≠ ao2_5 := Nat.ne_of_lt (Nat.lt_of_lt_of_le B10.lt SZ5_ao2)
    have neal_ao2_5 : al ≠ ao2_5 := Nat.ne_of_lt (Nat.lt_of_lt_of_le B11.lt SZ5_ao2)
    have nebr_ao2_5 : br ≠ ao2_5 := Nat.ne_of_lt (Nat.lt_of_lt_of_le B12.lt SZ5_ao2)
    have gnaf2_5 : n0 ≤ af2_5 := Nat.le_trans Z0 SZ5_af2
    have nex_af2_5 : x ≠ af2_5 := Nat.ne_of_lt (Nat.lt_of_lt_of_le B0.lt SZ5_af2)
    have neao_af2_5 : ao ≠ af2_5 := Nat.ne_of_lt (Nat.lt_of_lt_of_le B8.lt SZ5_af2)
    have neaf_af2_5 : af ≠ af2_5 := Nat.ne_of_lt (Nat.lt_of_lt_of_le B9.lt SZ5_af2)
    have neai_af2_5 : ai ≠ af2_5 := Nat.ne_of_lt (Nat.lt_of_lt_of_le B10.lt SZ5_af2)
    have neal_af2_5 : al ≠ af2_5 := Nat.ne_of_lt (Nat.lt_of_lt_of_le B11.lt SZ5_af2)
    have nebr_af2_5 : br ≠ af2_5 := Nat.ne_of_lt (Nat.lt_of_lt_of_le B12.lt SZ5_af2)
    have F6 : Exa Z T5.heap x "com/example/portia/portia/index/Postings" := B0.keep Kq5
    have F14 : Arv Z T5.heap ao ko .int (4 : Int32) [(.int y0), (.int y1), (.int y2), (.int y3)] (.int (0 : Int32)) := B8.keep Kq5 (ninS (Ne.symm n_x_ao) nin0)
    have F15 : Arv Z T5.heap af kf .int (4 : Int32) [(.int (1 : Int32)), (.int (1 : Int32)), (.int (1 : Int32)), (.int (1 : Int32))] (.int (0 : Int32)) := B9.keep Kq5 (ninS (Ne.symm n_x_af) nin0)
    have F16 : Arv Z T5.heap ai ki .int (1 : Int32) [(.int (1 : Int32))] (.int (0 : Int32)) := B10.keep Kq5 (ninS (Ne.symm n_x_ai) nin0)
    have F17 : Arv Z T5.heap al kl .int (1 : Int32) [(.int (1 : Int32))] (.int (0 : Int32)) := B11.keep Kq5 (ninS (Ne.symm n_x_al) nin0)
    have F18 : Arv Z T5.heap br kb .int (7 : Int32) [(.int y0), (.int y1), (.int y2), (.int y3), (.int y4), (.int y5), (.int y6)] (.int (0 : Int32)) := B12.keep Kq5 (ninS n_br_x nin0)
    have Z5 : n0 ≤ T5.heap.size := Nat.le_trans Z0 Kq5.1
    have N5 := Fr.app N0 Nq5
    have pre5 : Steps p.tables e below (T0.setTop (mkF m 263 #[.val (.int x0), .val (.long x1), .second, .val (.int x2), .val (.int x3), .val (.int x4), .val (.int n), .val (.int nr), .val (.ref br), .val (.int en), .val (.int tg), .val (.ref x), .unset, .unset] [])) (T5.setTop (mkF m 280 #[.val (.int x0), .val (.long x1), .second, .val (.int x2), .val (.int x3), .val (.int x4), .val (.int n), .val (.int nr), .val (.ref br), .val (.int en), .val (.int tg), .val (.ref x), .unset, .unset] [])) := pre4.trans st5
    obtain ⟨T19, lc19, Ls19, X19, N19, st19⟩ := ch5 X5 n0 Z5 N5 hx hZ hw hby hml hown rfl F6 P5_1 P5_2 P5_3 P5_4 P5_5 P5_6 P5_7 P5_8 P5_9 F16 F17 F18 g_x gnao2_5 gnaf2_5 g_ai g_al nex_ao2_5 nex_af2_5 n_x_ai n_x_al NE5_ao2_af2 (Ne.symm neai_ao2_5) (Ne.symm neal_ao2_5) (Ne.symm neai_af2_5) (Ne.symm neal_af2_5) n_ai_al n_br_x nebr_ao2_5 nebr_af2_5 n_br_ai n_br_al hN hE hS hc266
    have pre19 := pre5.trans st19
    exact ⟨T19, _, _, X19.more (by decide) (by decide), N19, pre19⟩
  · have st20 : Steps p.tables e below (T0.setTop (mkF m 266 #[.val (.int x0), .val (.long x1), .second, .val (.int x2), .val (.int x3), .val (.int x4), .val (.int n), .val (.int nr), .val (.ref br), .val (.int en), .val (.int tg), .val (.ref x), .unset, .unset] [(.int (4 : Int32)), (.int n)])) (T0.setTop (mkF m 280 #[.val (.int x0), .val (.long x1), .second, .val (.int x2), .val (.int x3), .val (.int x4), .val (.int n), .val (.int nr), .val (.ref br), .val (.int en), .val (.int tg), .val (.ref x), .unset, .unset] [])) := by
      refine XS.icmpYes X0.here hx rfl (pc0 := 266) (pc' := 280) rfl (hb hby at_266) rfl (flt hc266).2.2.2 (by decide) (by decide) ?_
      exact Steps.refl _
    have pre20 := pre1.trans st20
    have st21 : Steps p.tables e below (T0.setTop (mkF m 280 #[.val (.int x0), .val (.long x1), .second, .val (.int x2), .val (.int x3), .val (.int x4), .val (.int n), .val (.int nr), .val (.ref br), .val (.int en), .val (.int tg), .val (.ref x), .unset, .unset] [])) (T0.setTop (mkF m 283 #[.val (.int x0), .val (.long x1), .second, .val (.int x2), .val (.int x3), .val (.int x4), .val (.int n), .val (.int nr), .val (.ref br), .val (.int en), .val (.int tg), .val (.ref x), .unset, .unset] [(.int (5 : Int32)), (.int n)])) := by
      refine XS.iload X0.here hx rfl (hb hby at_280) rfl ?_
      show Steps p.tables e below (T0.setTop (mkF m 282 #[.val (.int x0), .val (.long x1), .second, .val (.int x2), .val (.int x3), .val (.int x4), .val (.int n), .val (.int nr), .val (.ref br), .val (.int en), .val (.int tg), .val (.ref x), .unset, .unset] [(.int n)])) _
      refine XS.iconst X0.here hx rfl (hb hby at_282) ?_
      show Steps p.tables e below (T0.setTop (mkF m 283 #[.val (.int x0), .val (.long x1), .second, .val (.int x2), .val (.int x3), .val (.int x4), .val (.int n), .val (.int nr), .val (.ref br), .val (.int en), .val (.int tg), .val (.ref x), .unset, .unset] [(.int (5 : Int32)), (.int n)])) _
      exact Steps.refl _
    have pre21 := pre20.trans st21
    have hc283 : ¬ ((5 : Int32) < n) := by
      exact own_mono (by decide) hc266
    have st22 : Steps p.tables e below (T0.setTop (mkF m 283 #[.val (.int x0), .val (.long x1), .second, .val (.int x2), .val (.int x3), .val (.int x4), .val (.int n), .val (.int nr), .val (.ref br), .val (.int en), .val (.int tg), .val (.ref x), .unset, .unset] [(.int (5 : Int32)), (.int n)])) (T0.setTop (mkF m 297 #[.val (.int x0), .val (.long x1), .second, .val (.int x2), .val (.int x3), .val (.int x4), .val (.int n), .val (.int nr), .val (.ref br), .val (.int en), .val (.int tg), .val (.ref x), .unset, .unset] [])) := by
      refine XS.icmpYes X0.here hx rfl (pc0 := 283) (pc' := 297) rfl (hb hby at_283) rfl (flt hc283).2.2.2 (by decide) (by decide) ?_
      exact Steps.refl _
    have pre22 := pre21.trans st22
    have st23 : Steps p.tables e below (T0.setTop (mkF m 297 #[.val (.int x0), .val (.long x1), .second, .val (.int x2), .val (.int x3), .val (.int x4), .val (.int n), .val (.int nr), .val (.ref br), .val (.int en), .val (.int tg), .val (.ref x), .unset, .unset] [])) (T0.setTop (mkF m 301 #[.val (.int x0), .val (.long x1), .second, .val (.int x2), .val (.int x3), .val (.int x4), .val (.int n), .val (.int nr), .val (.ref br), .val (.int en), .val (.int tg), .val (.ref x), .unset, .unset] [(.int (6 : Int32)), (.int n)])) := by
      refine XS.iload X0.here hx rfl (hb hby at_297) rfl ?_
      show Steps p.tables e below (T0.setTop (mkF m 299 #[.val (.int x0), .val (.long x1), .second, .val (.int x2), .val (.int x3), .val (.int x4), .val (.int n), .val (.int nr), .val (.ref br), .val (.int en), .val (.int tg), .val (.ref x), .unset, .unset] [(.int n)])) _
      refine XS.bipush X0.here hx rfl (hb hby at_299) ?_
      show Steps p.tables e below (T0.setTop (mkF m 301 #[.val (.int x0), .val (.long x1), .second, .val (.int x2), .val (.int x3), .val (.int x4), .val (.int n), .val (.int nr), .val (.ref br), .val (.int en), .val (.int tg), .val (.ref x), .unset, .unset] [(.int (6 : Int32)), (.int n)])) _
      exact Steps.refl _
    have pre23 := pre22.trans st23
    have hc301 : ¬ ((6 : Int32) < n) := by
      exact own_mono (by decide) hc266
    have st24 : Steps p.tables e below (T0.setTop (mkF m 301 #[.val (.int x0), .val (.long x1), .second, .val (.int x2), .val (.int x3), .val (.int x4), .val (.int n), .val (.int nr), .val (.ref br), .val (.int en), .val (.int tg), .val (.ref x), .unset, .unset] [(.int (6 : Int32)), (.int n)])) (T0.setTop (mkF m 316 #[.val (.int x0), .val (.long x1), .second, .val (.int x2), .val (.int x3), .val (.int x4), .val (.int n), .val (.int nr), .val (.ref br), .val (.int en), .val (.int tg), .val (.ref x), .unset, .unset] [])) := by
      refine XS.icmpYes X0.here hx rfl (pc0 := 301) (pc' := 316) rfl (hb hby at_301) rfl (flt hc301).2.2.2 (by decide) (by decide) ?_
      exact Steps.refl _
    have pre24 := pre23.trans st24
    have hsz : (4 : Int32) = n := own_sz (by decide) hlo hc266
    have hG := own_g4 hS hsz hE
    obtain ⟨T25, lc25, Ls25, X25, N25, st25⟩ := own_tail X0 n0 Z0 N0 (by decide) (by decide) hx hZ hw hby hml hown e0 B0 B3 B1 B8 B12 hG hsz (fun _ => rfl) (fun _ => rfl) (fun _ => rfl) (fun _ => rfl) (fun _ => rfl) (fun _ => rfl) (fun _ => rfl)
    have pre25 := pre24.trans st25
    exact ⟨T25, _, _, X25.more (by decide) (by decide), N25, pre25⟩
theorem pdc3_0 : parseMethodDescriptor "(III)V" = some ⟨[.int, .int, .int], none⟩ := by decide +kernel
set_option maxRecDepth 65536 in
set_option maxHeartbeats 40000000 in
theorem ch3 {p : Program} {l : Launch} {e : Env} {s : State} {m : MethodId} {args : Array Value} {below : List Frame} {meth : Method} {c : Code} {T0 : State} {locs : List Loc} {Z : State} {a0 : Array Value} {h0 : Heap} {x0 x2 x3 x4 n nr en tg : Int32} {x1 : Int64} {br x ao af ai al : Addr} {ko kf ki kl kb : ClassId} {y0 y1 y2 y3 y4 y5 y6 : Int32}
    (X0 : Stand p l e room_1 s m args below meth c T0 locs 8 28) (n0 : Nat) (Z0 : n0 ≤ h0.size) (N0 : Fr n0 locs) (hx : p.tables.exec = Jvm.exec) (hZ : Z.Warmed39 s.vm) (hw : ∀ d ∈ tables_1, d.before a0 Z = true) (hby : c.code = code) (hml : c.maxLocals = 14) (hown : s.vm.findClass "com/example/portia/portia/index/PostingsAdvancePinLaw" = some m.cls) (e0 : T0.heap = h0) (B0 : Exa Z h0 x "com/example/portia/portia/index/Postings") (B1 : Fld Z h0 x "com/example/portia/portia/index/Postings" "ordinals" "[I" (.ref ao)) (B2 : Fld Z h0 x "com/example/portia/portia/index/Postings" "frequencies" "[I" (.ref af)) (B3 : Fld Z h0 x "com/example/portia/portia/index/Postings" "size" "I" (.int (3 : Int32))) (B4 : Fld Z h0 x "com/example/portia/portia/index/Postings" "documentFrequency" "I" (.int (3 : Int32))) (B5 : Fld Z h0 x "com/example/portia/portia/index/Postings" "impactFrequencies" "[I" (.ref ai)) (B6 : Fld Z h0 x "com/example/portia/portia/index/Postings" "impactLengths" "[I" (.ref al)) (B7 : Fld Z h0 x "com/example/portia/portia/index/Postings" "impactCount" "I" (.int (1 : Int32))) (B8 : Arv Z h0 ao ko .int (4 : Int32) [(.int y0), (.int y1), (.int y2), (.int (0 : Int32))] (.int (0 : Int32))) (B9 : Arv Z h0 af kf .int (4 : Int32) [(.int (1 : Int32)), (.int (1 : Int32)), (.int (1 : Int32)), (.int (0 : Int32))] (.int (0 : Int32))) (B10 : Arv Z h0 ai ki .int (1 : Int32) [(.int (1 : Int32))] (.int (0 : Int32))) (B11 : Arv Z h0 al kl .int (1 : Int32) [(.int (1 : Int32))] (.int (0 : Int32))) (B12 : Arv Z h0 br kb .int (7 : Int32) [(.int y0), (.int y1), (.int y2), (.int y3), (.int y4), (.int y5), (.int y6)] (.int (0 : Int32))) (g_x : n0 ≤ x) (g_ao : n0 ≤ ao) (g_af : n0 ≤ af) (g_ai : n0 ≤ ai) (g_al : n0 ≤ al) (n_x_ao : x ≠ ao) (n_x_af : x ≠ af) (n_x_ai : x ≠ ai) (n_x_al : x ≠ al) (n_ao_af : ao ≠ af) (n_ao_ai : ao ≠ ai) (n_ao_al : ao ≠ al) (n_af_ai : af ≠ ai) (n_af_al : af ≠ al) (n_ai_al : ai ≠ al) (n_br_x : br ≠ x) (n_br_ao : br ≠ ao) (n_br_af : br ≠ af) (n_br_ai : br ≠ ai) (n_br_al : br ≠ al) (hN : 0 ≤ n.toInt ∧ n.toInt ≤ 7) (hE : 0 ≤ en.toInt ∧ en.toInt ≤ n.toInt) (hS : ∀ i j : Nat, i ≤ j → j < 7 → ((own_o y0 y1 y2 y3 y4 y5 y6) i).toInt ≤ ((own_o y0 y1 y2 y3 y4 y5 y6) j).toInt) (hlo : (2 : Int32) < n) :
    ∃ (T' : State) (lc : List Loc) (Ls' : Array Slot), Stand p l e room_1 s m args below meth c T' lc 32 192 ∧ Fr n0 lc ∧ Steps p.tables e below (T0.setTop (mkF m 246 #[.val (.int x0), .val (.long x1), .second, .val (.int x2), .val (.int x3), .val (.int x4), .val (.int n), .val (.int nr), .val (.ref br), .val (.int en), .val (.int tg), .val (.ref x), .unset, .unset] [])) (T'.setTop (mkF m 515 Ls' [(.int (1 : Int32))])) := by
  have pre0 : Steps p.tables e below (T0.setTop (mkF m 246 #[.val (.int x0), .val (.long x1), .second, .val (.int x2), .val (.int x3), .val (.int x4), .val (.int n), .val (.int nr), .val (.ref br), .val (.int en), .val (.int tg), .val (.ref x), .unset, .unset] [])) (T0.setTop (mkF m 246 #[.val (.int x0), .val (.long x1), .second, .val (.int x2), .val (.int x3), .val (.int x4), .val (.int n), .val (.int nr), .val (.ref br), .val (.int en), .val (.int tg), .val (.ref x), .unset, .unset] [])) := Steps.refl _
  have st1 : Steps p.tables e below (T0.setTop (mkF m 246 #[.val (.int x0), .val (.long x1), .second, .val (.int x2), .val (.int x3), .val (.int x4), .val (.int n), .val (.int nr), .val (.ref br), .val (.int en), .val (.int tg), .val (.ref x), .unset, .unset] [])) (T0.setTop (mkF m 249 #[.val (.int x0), .val (.long x1), .second, .val (.int x2), .val (.int x3), .val (.int x4), .val (.int n), .val (.int nr), .val (.ref br), .val (.int en), .val (.int tg), .val (.ref x), .unset, .unset] [(.int (3 : Int32)), (.int n)])) := by
    refine XS.iload X0.here hx rfl (hb hby at_246) rfl ?_
    show Steps p.tables e below (T0.setTop (mkF m 248 #[.val (.int x0), .val (.long x1), .second, .val (.int x2), .val (.int x3), .val (.int x4), .val (.int n), .val (.int nr), .val (.ref br), .val (.int en), .val (.int tg), .val (.ref x), .unset, .unset] [(.int n)])) _
    refine XS.iconst X0.here hx rfl (hb hby at_248) ?_
    show Steps p.tables e below (T0.setTop (mkF m 249 #[.val (.int x0), .val (.long x1), .second, .val (.int x2), .val (.int x3), .val (.int x4), .val (.int n), .val (.int nr), .val (.ref br), .val (.int en), .val (.int tg), .val (.ref x), .unset, .unset] [(.int (3 : Int32)), (.int n)])) _
    exact Steps.refl _
  have pre1 := pre0.trans st1
  by_cases hc249 : (3 : Int32) < n
  · have st2 : Steps p.tables e below (T0.setTop (mkF m 249 #[.val (.int x0), .val (.long x1), .second, .val (.int x2), .val (.int x3), .val (.int x4), .val (.int n), .val (.int nr), .val (.ref br), .val (.int en), .val (.int tg), .val (.ref x), .unset, .unset] [(.int (3 : Int32)), (.int n)])) (T0.setTop (mkF m 252 #[.val (.int x0), .val (.long x1), .second, .val (.int x2), .val (.int x3), .val (.int x4), .val (.int n), .val (.int nr), .val (.ref br), .val (.int en), .val (.int tg), .val (.ref x), .unset, .unset] [])) := by
      refine XS.icmpNo X0.here hx rfl (hb hby at_249) rfl (tlt hc249).2.2.2 ?_
      exact Steps.refl _
    have pre2 := pre1.trans st2
    obtain ⟨cl3, Ar3, q3, S3, G3, H3, J3⟩ := id B12
    have in3_3 : ¬ ((3 : Int32) < 0 ∨ cl3.slots.size ≤ ((3 : Int32)).toNatClampNeg) := inb_of S3 ⟨by decide, by decide⟩
    have at3_3 : cl3.slots[((3 : Int32)).toNatClampNeg]? = some (.int y3) := Has.at H3 in3_3 rfl
    have st4 : Steps p.tables e below (T0.setTop (mkF m 252 #[.val (.int x0), .val (.long x1), .second, .val (.int x2), .val (.int x3), .val (.int x4), .val (.int n), .val (.int nr), .val (.ref br), .val (.int en), .val (.int tg), .val (.ref x), .unset, .unset] [])) (T0.setTop (mkF m 260 #[.val (.int x0), .val (.long x1), .second, .val (.int x2), .val (.int x3), .val (.int x4), .val (.int n), .val (.int nr), .val (.ref br), .val (.int en), .val (.int tg), .val (.ref x), .unset, .unset] [(.int (1 : Int32)), (.int (1 : Int32)), (.int y3), (.ref x)])) := by
      refine XS.aload X0.here hx rfl (hb hby at_252) rfl rfl ?_
      show Steps p.tables e below (T0.setTop (mkF m 254 #[.val (.int x0), .val (.long x1), .second, .val (.int x2), .val (.int x3), .val (.int x4), .val (.int n), .val (.int nr), .val (.ref br), .val (.int en), .val (.int tg), .val (.ref x), .unset, .unset] [(.ref x)])) _
      refine XS.aload X0.here hx rfl (hb hby at_254) rfl rfl ?_
      show Steps p.tables e below (T0.setTop (mkF m 256 #[.val (.int x0), .val (.long x1), .second, .val (.int x2), .val (.int x3), .val (.int x4), .val (.int n), .val (.int nr), .val (.ref br), .val (.int en), .val (.int tg), .val (.ref x), .unset, .unset] [(.ref br), (.ref x)])) _
      refine XS.iconst X0.here hx rfl (hb hby at_256) ?_
      show Steps p.tables e below (T0.setTop (mkF m 257 #[.val (.int x0), .val (.long x1), .second, .val (.int x2), .val (.int x3), .val (.int x4), .val (.int n), .val (.int nr), .val (.ref br), .val (.int en), .val (.int tg), .val (.ref x), .unset, .unset] [(.int (3 : Int32)), (.ref br), (.ref x)])) _
      refine X0.iaload hx (j := (3 : Int32)) (v := (.int y3)) (by rw [e0]; exact Ar3.1) (State.isArrayOf_alike hZ.alike Ar3.2.1) Ar3.2.2 in3_3 at3_3 (g := (mkF m 257 #[.val (.int x0), .val (.long x1), .second, .val (.int x2), .val (.int x3), .val (.int x4), .val (.int n), .val (.int nr), .val (.ref br), .val (.int en), .val (.int tg), .val (.ref x), .unset, .unset] [(.int (3 : Int32)), (.ref br), (.ref x)])) rfl rfl (hb hby at_257) _ ?_
      show Steps p.tables e below (T0.setTop (mkF m 258 #[.val (.int x0), .val (.long x1), .second, .val (.int x2), .val (.int x3), .val (.int x4), .val (.int n), .val (.int nr), .val (.ref br), .val (.int en), .val (.int tg), .val (.ref x), .unset, .unset] [(.int y3), (.ref x)])) _
      refine XS.iconst X0.here hx rfl (hb hby at_258) ?_
      show Steps p.tables e below (T0.setTop (mkF m 259 #[.val (.int x0), .val (.long x1), .second, .val (.int x2), .val (.int x3), .val (.int x4), .val (.int n), .val (.int nr), .val (.ref br), .val (.int en), .val (.int tg), .val (.ref x), .unset, .unset] [(.int (1 : Int32)), (.int y3), (.ref x)])) _
      refine XS.iconst X0.here hx rfl (hb hby at_259) ?_
      show Steps p.tables e below (T0.setTop (mkF m 260 #[.val (.int x0), .val (.long x1), .second, .val (.int x2), .val (.int x3), .val (.int x4), .val (.int n), .val (.int nr), .val (.ref br), .val (.int en), .val (.int tg), .val (.ref x), .unset, .unset] [(.int (1 : Int32)), (.int (1 : Int32)), (.int y3), (.ref x)])) _
      exact Steps.refl _
    have pre4 := pre2.trans st4
    obtain ⟨cq5, kq5, q5a, q5b, q5c⟩ := isOf hZ e0 B0
    obtain ⟨_, _, ⟨T5, L5, k5, n5⟩, -, X5, ⟨Lc5, hQ5, l5, y5, z5⟩, st5⟩ := X0.virtualBack hx (y := (⟨"com/example/portia/portia/index/Postings", "add", "(III)V"⟩ : MethodName)) (z := (⟨"com/example/portia/portia/index/Postings", "add", "(III)V"⟩ : MethodName)) hown (mvT hZ (hw _ (List.mem_of_getElem? (i := 28) rfl))) (mvT hZ (hw _ (List.mem_of_getElem? (i := 29) rfl))) (notFace_of_selects (args := #[]) (mvT hZ (hw _ (List.mem_of_getElem? (i := 31) rfl)))) (mvT hZ (hw _ (List.mem_of_getElem? (i := 31) rfl))) (mvT hZ (hw _ (List.mem_of_getElem? (i := 30) rfl))) (by decide) (backOf (W := 0) (rm13 l Z a0 hw [] x y3 ao ko af kf ai ki al kl y0 y1 y2 h0 n0 Z0 B0 B1 B2 B3 B4 B5 B6 B7 B8 B9 B10 B11 g_x g_ao g_af n_x_ao n_x_af n_x_ai n_x_al n_ao_af n_ao_ai n_ao_al n_af_ai n_af_al n_ai_al) hZ (hw _ (List.mem_of_getElem? (i := 32) rfl)) (hw _ (List.mem_of_getElem? (i := 6) rfl)) (by decide) (by decide)) q5a q5c (g := (mkF m 260 #[.val (.int x0), .val (.long x1), .second, .val (.int x2), .val (.int x3), .val (.int x4), .val (.int n), .val (.int nr), .val (.ref br), .val (.int en), .val (.int tg), .val (.ref x), .unset, .unset] [(.int (1 : Int32)), (.int (1 : Int32)), (.int y3), (.ref x)])) rfl (by rw [hml]; rfl) (Steps.refl _) (argsL := [(.int y3), (.int (1 : Int32)), (.int (1 : Int32))]) (rest := []) (lenOf pdc3_0 rfl) rfl (by show 2 * 0 + _ ≤ _; exact Nat.le_of_eq rfl) (hb hby at_260) (fun _ _ => ⟨rfl, e0, (by decide : 8 + 0 ≤ _), (by decide : 28 + 0 ≤ _)⟩)
    dsimp only [Pt.U, Pt.locs, Pt.cells, Pt.slots] at X5 l5 y5 z5 st5 hQ5
    subst l5 y5 z5
    obtain ⟨rfl, Nq5, Kq5, P5_0, P5_1, P5_2, P5_3, P5_4, P5_5, P5_6, P5_7, P5_8, P5_9, P5_10, P5_11⟩ := hQ5
    have F6 : Exa Z T5.heap x "com/example/portia/portia/index/Postings" := B0.keep Kq5
    have F16 : Arv Z T5.heap ai ki .int (1 : Int32) [(.int (1 : Int32))] (.int (0 : Int32)) := B10.keep Kq5 (ninS (Ne.symm n_x_ai) (ninS (Ne.symm n_ao_ai) (ninS (Ne.symm n_af_ai) nin0)))
    have F17 : Arv Z T5.heap al kl .int (1 : Int32) [(.int (1 : Int32))] (.int (0 : Int32)) := B11.keep Kq5 (ninS (Ne.symm n_x_al) (ninS (Ne.symm n_ao_al) (ninS (Ne.symm n_af_al) nin0)))
    have F18 : Arv Z T5.heap br kb .int (7 : Int32) [(.int y0), (.int y1), (.int y2), (.int y3), (.int y4), (.int y5), (.int y6)] (.int (0 : Int32)) := B12.keep Kq5 (ninS n_br_x (ninS n_br_ao (ninS n_br_af nin0)))
    have Z5 : n0 ≤ T5.heap.size := Nat.le_trans Z0 Kq5.1
    have N5 := Fr.app N0 Nq5
    have pre5 : Steps p.tables e below (T0.setTop (mkF m 246 #[.val (.int x0), .val (.long x1), .second, .val (.int x2), .val (.int x3), .val (.int x4), .val (.int n), .val (.int nr), .val (.ref br), .val (.int en), .val (.int tg), .val (.ref x), .unset, .unset] [])) (T5.setTop (mkF m 263 #[.val (.int x0), .val (.long x1), .second, .val (.int x2), .val (.int x3), .val (.int x4), .val (.int n), .val (.int nr), .val (.ref br), .val (.int en), .val (.int tg), .val (.ref x), .unset, .unset] [])) := pre4.trans st5
    obtain ⟨T19, lc19, Ls19, X19, N19, st19⟩ := ch4 X5 n0 Z5 N5 hx hZ hw hby hml hown rfl F6 P5_1 P5_2 P5_3 P5_4 P5_5 P5_6 P5_7 P5_8 P5_9 F16 F17 F18 g_x g_ao g_af g_ai g_al n_x_ao n_x_af n_x_ai n_x_al n_ao_af n_ao_ai n_ao_al n_af_ai n_af_al n_ai_al n_br_x n_br_ao n_br_af n_br_ai n_br_al hN hE hS hc249
    have pre19 := pre5.trans st19
    exact ⟨T19, _, _, X19.more (by decide) (by decide), N19, pre19⟩
  · have st20 : Steps p.tables e below (T0.setTop (mkF m 249 #[.val (.int x0), .val (.long x1), .second, .val (.int x2), .val (.int x3), .val (.int x4), .val (.int n), .val (.int nr), .val (.ref br), .val (.int en), .val (.int tg), .val (.ref x), .unset, .unset] [(.int (3 : Int32)), (.int n)])) (T0.setTop (mkF m 263 #[.val (.int x0), .val (.long x1), .second, .val (.int x2), .val (.int x3), .val (.int x4), .val (.int n), .val (.int nr), .val (.ref br), .val (.int en), .val (.int tg), .val (.ref x), .unset, .unset] [])) := by
      refine XS.icmpYes X0.here hx rfl (pc0 := 249) (pc' := 263) rfl (hb hby at_249) rfl (flt hc249).2.2.2 (by decide) (by decide) ?_
      exact Steps.refl _
    have pre20 := pre1.trans st20
    have st21 : Steps p.tables e below (T0.setTop (mkF m 263 #[.val (.int x0), .val (.long x1), .second, .val (.int x2), .val (.int x3), .val (.int x4), .val (.int n), .val (.int nr), .val (.ref br), .val (.int en), .val (.int tg), .val (.ref x), .unset, .unset] [])) (T0.setTop (mkF m 266 #[.val (.int x0), .val (.long x1), .second, .val (.int x2), .val (.int x3), .val (.int x4), .val (.int n), .val (.int nr), .val (.ref br), .val (.int en), .val (.int tg), .val (.ref x), .unset, .unset] [(.int (4 : Int32)), (.int n)])) := by
      refine XS.iload X0.here hx rfl (hb hby at_263) rfl ?_
      show Steps p.tables e below (T0.setTop (mkF m 265 #[.val (.int x0), .val (.long x1), .second, .val (.int x2), .val (.int x3), .val (.int x4), .val (.int n), .val (.int nr), .val (.ref br), .val (.int en), .val (.int tg), .val (.ref x), .unset, .unset] [(.int n)])) _
      refine XS.iconst X0.here hx rfl (hb hby at_265) ?_
      show Steps p.tables e below (T0.setTop (mkF m 266 #[.val (.int x0), .val (.long x1), .second, .val (.int x2), .val (.int x3), .val (.int x4), .val (.int n), .val (.int nr), .val (.ref br), .val (.int en), .val (.int tg), .val (.ref x), .unset, .unset] [(.int (4 : Int32)), (.int n)])) _
      exact Steps.refl _
    have pre21 := pre20.trans st21
    have hc266 : ¬ ((4 : Int32) < n) := by
      exact own_mono (by decide) hc249
    have st22 : Steps p.tables e below (T0.setTop (mkF m 266 #[.val (.int x0), .val (.long x1), .second, .val (.int x2), .val (.int x3), .val (.int x4), .val (.int n), .val (.int nr), .val (.ref br), .val (.int en), .val (.int tg), .val (.ref x), .unset, .unset] [(.int (4 : Int32)), (.int n)])) (T0.setTop (mkF m 280 #[.val (.int x0), .val (.long x1), .second, .val (.int x2), .val (.int x3), .val (.int x4), .val (.int n), .val (.int nr), .val (.ref br), .val (.int en), .val (.int tg), .val (.ref x), .unset, .unset] [])) := by
      refine XS.icmpYes X0.here hx rfl (pc0 := 266) (pc' := 280) rfl (hb hby at_266) rfl (flt hc266).2.2.2 (by decide) (by decide) ?_
      exact Steps.refl _
    have pre22 := pre21.trans st22
    have st23 : Steps p.tables e below (T0.setTop (mkF m 280 #[.val (.int x0), .val (.long x1), .second, .val (.int x2), .val (.int x3), .val (.int x4), .val (.int n), .val (.int nr), .val (.ref br), .val (.int en), .val (.int tg), .val (.ref x), .unset, .unset] [])) (T0.setTop (mkF m 283 #[.val (.int x0), .val (.long x1), .second, .val (.int x2), .val (.int x3), .val (.int x4), .val (.int n), .val (.int nr), .val (.ref br), .val (.int en), .val (.int tg), .val (.ref x), .unset, .unset] [(.int (5 : Int32)), (.int n)])) := by
      refine XS.iload X0.here hx rfl (hb hby at_280) rfl ?_
      show Steps p.tables e below (T0.setTop (mkF m 282 #[.val (.int x0), .val (.long x1), .second, .val (.int x2), .val (.int x3), .val (.int x4), .val (.int n), .val (.int nr), .val (.ref br), .val (.int en), .val (.int tg), .val (.ref x), .unset, .unset] [(.int n)])) _
      refine XS.iconst X0.here hx rfl (hb hby at_282) ?_
      show Steps p.tables e below (T0.setTop (mkF m 283 #[.val (.int x0), .val (.long x1), .second, .val (.int x2), .val (.int x3), .val (.int x4), .val (.int n), .val (.int nr), .val (.ref br), .val (.int en), .val (.int tg), .val (.ref x), .unset, .unset] [(.int (5 : Int32)), (.int n)])) _
      exact Steps.refl _
    have pre23 := pre22.trans st23
    have hc283 : ¬ ((5 : Int32) < n) := by
      exact own_mono (by decide) hc249
    have st24 : Steps p.tables e below (T0.setTop (mkF m 283 #[.val (.int x0), .val (.long x1), .second, .val (.int x2), .val (.int x3), .val (.int x4), .val (.int n), .val (.int nr), .val (.ref br), .val (.int en), .val (.int tg), .val (.ref x), .unset, .unset] [(.int (5 : Int32)), (.int n)])) (T0.setTop (mkF m 297 #[.val (.int x0), .val (.long x1), .second, .val (.int x2), .val (.int x3), .val (.int x4), .val (.int n), .val (.int nr), .val (.ref br), .val (.int en), .val (.int tg), .val (.ref x), .unset, .unset] [])) := by
      refine XS.icmpYes X0.here hx rfl (pc0 := 283) (pc' := 297) rfl (hb hby at_283) rfl (flt hc283).2.2.2 (by decide) (by decide) ?_
      exact Steps.refl _
    have pre24 := pre23.trans st24
    have st25 : Steps p.tables e below (T0.setTop (mkF m 297 #[.val (.int x0), .val (.long x1), .second, .val (.int x2), .val (.int x3), .val (.int x4), .val (.int n), .val (.int nr), .val (.ref br), .val (.int en), .val (.int tg), .val (.ref x), .unset, .unset] [])) (T0.setTop (mkF m 301 #[.val (.int x0), .val (.long x1), .second, .val (.int x2), .val (.int x3), .val (.int x4), .val (.int n), .val (.int nr), .val (.ref br), .val (.int en), .val (.int tg), .val (.ref x), .unset, .unset] [(.int (6 : Int32)), (.int n)])) := by
      refine XS.iload X0.here hx rfl (hb hby at_297) rfl ?_
      show Steps p.tables e below (T0.setTop (mkF m 299 #[.val (.int x0), .val (.long x1), .second, .val (.int x2), .val (.int x3), .val (.int x4), .val (.int n), .val (.int nr), .val (.ref br), .val (.int en), .val (.int tg), .val (.ref x), .unset, .unset] [(.int n)])) _
      refine XS.bipush X0.here hx rfl (hb hby at_299) ?_
      show Steps p.tables e below (T0.setTop (mkF m 301 #[.val (.int x0), .val (.long x1), .second, .val (.int x2), .val (.int x3), .val (.int x4), .val (.int n), .val (.int nr), .val (.ref br), .val (.int en), .val (.int tg), .val (.ref x), .unset, .unset] [(.int (6 : Int32)), (.int n)])) _
      exact Steps.refl _
    have pre25 := pre24.trans st25
    have hc301 : ¬ ((6 : Int32) < n) := by
      exact own_mono (by decide) hc249
    have st26 : Steps p.tables e below (T0.setTop (mkF m 301 #[.val (.int x0), .val (.long x1), .second, .val (.int x2), .val (.int x3), .val (.int x4), .val (.int n), .val (.int nr), .val (.ref br), .val (.int en), .val (.int tg), .val (.ref x), .unset, .unset] [(.int (6 : Int32)), (.int n)])) (T0.setTop (mkF m 316 #[.val (.int x0), .val (.long x1), .second, .val (.int x2), .val (.int x3), .val (.int x4), .val (.int n), .val (.int nr), .val (.ref br), .val (.int en), .val (.int tg), .val (.ref x), .unset, .unset] [])) := by
      refine XS.icmpYes X0.here hx rfl (pc0 := 301) (pc' := 316) rfl (hb hby at_301) rfl (flt hc301).2.2.2 (by decide) (by decide) ?_
      exact Steps.refl _
    have pre26 := pre25.trans st26
    have hsz : (3 : Int32) = n := own_sz (by decide) hlo hc249
    have hG := own_g3 hS hsz hE
    obtain ⟨T27, lc27, Ls27, X27, N27, st27⟩ := own_tail X0 n0 Z0 N0 (by decide) (by decide) hx hZ hw hby hml hown e0 B0 B3 B1 B8 B12 hG hsz (fun _ => rfl) (fun _ => rfl) (fun _ => rfl) (fun _ => rfl) (fun _ => rfl) (fun _ => rfl) (fun _ => rfl)
    have pre27 := pre26.trans st27
    exact ⟨T27, _, _, X27.more (by decide) (by decide), N27, pre27⟩
theorem pdc2_0 : parseMethodDescriptor "(III)V" = some ⟨[.int, .int, .int], none⟩ := by decide +kernel
set_option maxRecDepth 65536 in
set_option maxHeartbeats 40000000 in
theorem ch2 {p : Program} {l : Launch} {e : Env} {s : State} {m : MethodId} {args : Array Value} {below : List Frame} {meth : Method} {c : Code} {T0 : State} {locs : List Loc} {Z : State} {a0 : Array Value} {h0 : Heap} {x0 x2 x3 x4 n nr en tg : Int32} {x1 : Int64} {br x ao af ai al : Addr} {ko kf ki kl kb : ClassId} {y0 y1 y2 y3 y4 y5 y6 : Int32}
    (X0 : Stand p l e room_1 s m args below meth c T0 locs 6 20) (n0 : Nat) (Z0 : n0 ≤ h0.size) (N0 : Fr n0 locs) (hx : p.tables.exec = Jvm.exec) (hZ : Z.Warmed39 s.vm) (hw : ∀ d ∈ tables_1, d.before a0 Z = true) (hby : c.code = code) (hml : c.maxLocals = 14) (hown : s.vm.findClass "com/example/portia/portia/index/PostingsAdvancePinLaw" = some m.cls) (e0 : T0.heap = h0) (B0 : Exa Z h0 x "com/example/portia/portia/index/Postings") (B1 : Fld Z h0 x "com/example/portia/portia/index/Postings" "ordinals" "[I" (.ref ao)) (B2 : Fld Z h0 x "com/example/portia/portia/index/Postings" "frequencies" "[I" (.ref af)) (B3 : Fld Z h0 x "com/example/portia/portia/index/Postings" "size" "I" (.int (2 : Int32))) (B4 : Fld Z h0 x "com/example/portia/portia/index/Postings" "documentFrequency" "I" (.int (2 : Int32))) (B5 : Fld Z h0 x "com/example/portia/portia/index/Postings" "impactFrequencies" "[I" (.ref ai)) (B6 : Fld Z h0 x "com/example/portia/portia/index/Postings" "impactLengths" "[I" (.ref al)) (B7 : Fld Z h0 x "com/example/portia/portia/index/Postings" "impactCount" "I" (.int (1 : Int32))) (B8 : Arv Z h0 ao ko .int (2 : Int32) [(.int y0), (.int y1)] (.int (0 : Int32))) (B9 : Arv Z h0 af kf .int (2 : Int32) [(.int (1 : Int32)), (.int (1 : Int32))] (.int (0 : Int32))) (B10 : Arv Z h0 ai ki .int (1 : Int32) [(.int (1 : Int32))] (.int (0 : Int32))) (B11 : Arv Z h0 al kl .int (1 : Int32) [(.int (1 : Int32))] (.int (0 : Int32))) (B12 : Arv Z h0 br kb .int (7 : Int32) [(.int y0), (.int y1), (.int y2), (.int y3), (.int y4), (.int y5), (.int y6)] (.int (0 : Int32))) (g_x : n0 ≤ x) (g_ao : n0 ≤ ao) (g_af : n0 ≤ af) (g_ai : n0 ≤ ai) (g_al : n0 ≤ al) (n_x_ao : x ≠ ao) (n_x_af : x ≠ af) (n_x_ai : x ≠ ai) (n_x_al : x ≠ al) (n_ao_af : ao ≠ af) (n_ao_ai : ao ≠ ai) (n_ao_al : ao ≠ al) (n_af_ai : af ≠ ai) (n_af_al : af ≠ al) (n_ai_al : ai ≠ al) (n_br_x : br ≠ x) (n_br_ao : br ≠ ao) (n_br_af : br ≠ af) (n_br_ai : br ≠ ai) (n_br_al : br ≠ al) (hN : 0 ≤ n.toInt ∧ n.toInt ≤ 7) (hE : 0 ≤ en.toInt ∧ en.toInt ≤ n.toInt) (hS : ∀ i j : Nat, i ≤ j → j < 7 → ((own_o y0 y1 y2 y3 y4 y5 y6) i).toInt ≤ ((own_o y0 y1 y2 y3 y4 y5 y6) j).toInt) (hlo : (1 : Int32) < n) :
    ∃ (T' : State) (lc : List Loc) (Ls' : Array Slot), Stand p l e room_1 s m args below meth c T' lc 32 192 ∧ Fr n0 lc ∧ Steps p.tables e below (T0.setTop (mkF m 229 #[.val (.int x0), .val (.long x1), .second, .val (.int x2), .val (.int x3), .val (.int x4), .val (.int n), .val (.int nr), .val (.ref br), .val (.int en), .val (.int tg), .val (.ref x), .unset, .unset] [])) (T'.setTop (mkF m 515 Ls' [(.int (1 : Int32))])) := by
  have pre0 : Steps p.tables e below (T0.setTop (mkF m 229 #[.val (.int x0), .val (.long x1), .second, .val (.int x2), .val (.int x3), .val (.int x4), .val (.int n), .val (.int nr), .val (.ref br), .val (.int en), .val (.int tg), .val (.ref x), .unset, .unset] [])) (T0.setTop (mkF m 229 #[.val (.int x0), .val (.long x1), .second, .val (.int x2), .val (.int x3), .val (.int x4), .val (.int n), .val (.int nr), .val (.ref br), .val (.int en), .val (.int tg), .val (.ref x), .unset, .unset] [])) := Steps.refl _
  have st1 : Steps p.tables e below (T0.setTop (mkF m 229 #[.val (.int x0), .val (.long x1), .second, .val (.int x2), .val (.int x3), .val (.int x4), .val (.int n), .val (.int nr), .val (.ref br), .val (.int en), .val (.int tg), .val (.ref x), .unset, .unset] [])) (T0.setTop (mkF m 232 #[.val (.int x0), .val (.long x1), .second, .val (.int x2), .val (.int x3), .val (.int x4), .val (.int n), .val (.int nr), .val (.ref br), .val (.int en), .val (.int tg), .val (.ref x), .unset, .unset] [(.int (2 : Int32)), (.int n)])) := by
    refine XS.iload X0.here hx rfl (hb hby at_229) rfl ?_
    show Steps p.tables e below (T0.setTop (mkF m 231 #[.val (.int x0), .val (.long x1), .second, .val (.int x2), .val (.int x3), .val (.int x4), .val (.int n), .val (.int nr), .val (.ref br), .val (.int en), .val (.int tg), .val (.ref x), .unset, .unset] [(.int n)])) _
    refine XS.iconst X0.here hx rfl (hb hby at_231) ?_
    show Steps p.tables e below (T0.setTop (mkF m 232 #[.val (.int x0), .val (.long x1), .second, .val (.int x2), .val (.int x3), .val (.int x4), .val (.int n), .val (.int nr), .val (.ref br), .val (.int en), .val (.int tg), .val (.ref x), .unset, .unset] [(.int (2 : Int32)), (.int n)])) _
    exact Steps.refl _
  have pre1 := pre0.trans st1
  by_cases hc232 : (2 : Int32) < n
  · have st2 : Steps p.tables e below (T0.setTop (mkF m 232 #[.val (.int x0), .val (.long x1), .second, .val (.int x2), .val (.int x3), .val (.int x4), .val (.int n), .val (.int nr), .val (.ref br), .val (.int en), .val (.int tg), .val (.ref x), .unset, .unset] [(.int (2 : Int32)), (.int n)])) (T0.setTop (mkF m 235 #[.val (.int x0), .val (.long x1), .second, .val (.int x2), .val (.int x3), .val (.int x4), .val (.int n), .val (.int nr), .val (.ref br), .val (.int en), .val (.int tg), .val (.ref x), .unset, .unset] [])) := by
      refine XS.icmpNo X0.here hx rfl (hb hby at_232) rfl (tlt hc232).2.2.2 ?_
      exact Steps.refl _
    have pre2 := pre1.trans st2
    obtain ⟨cl3, Ar3, q3, S3, G3, H3, J3⟩ := id B12
    have in3_2 : ¬ ((2 : Int32) < 0 ∨ cl3.slots.size ≤ ((2 : Int32)).toNatClampNeg) := inb_of S3 ⟨by decide, by decide⟩
    have at3_2 : cl3.slots[((2 : Int32)).toNatClampNeg]? = some (.int y2) := Has.at H3 in3_2 rfl
    have st4 : Steps p.tables e below (T0.setTop (mkF m 235 #[.val (.int x0), .val (.long x1), .second, .val (.int x2), .val (.int x3), .val (.int x4), .val (.int n), .val (.int nr), .val (.ref br), .val (.int en), .val (.int tg), .val (.ref x), .unset, .unset] [])) (T0.setTop (mkF m 243 #[.val (.int x0), .val (.long x1), .second, .val (.int x2), .val (.int x3), .val (.int x4), .val (.int n), .val (.int nr), .val (.ref br), .val (.int en), .val (.int tg), .val (.ref x), .unset, .unset] [(.int (1 : Int32)), (.int (1 : Int32)), (.int y2), (.ref x)])) := by
      refine XS.aload X0.here hx rfl (hb hby at_235) rfl rfl ?_
      show Steps p.tables e below (T0.setTop (mkF m 237 #[.val (.int x0), .val (.long x1), .second, .val (.int x2), .val (.int x3), .val (.int x4), .val (.int n), .val (.int nr), .val (.ref br), .val (.int en), .val (.int tg), .val (.ref x), .unset, .unset] [(.ref x)])) _
      refine XS.aload X0.here hx rfl (hb hby at_237) rfl rfl ?_
      show Steps p.tables e below (T0.setTop (mkF m 239 #[.val (.int x0), .val (.long x1), .second, .val (.int x2), .val (.int x3), .val (.int x4), .val (.int n), .val (.int nr), .val (.ref br), .val (.int en), .val (.int tg), .val (.ref x), .unset, .unset] [(.ref br), (.ref x)])) _
      refine XS.iconst X0.here hx rfl (hb hby at_239) ?_
      show Steps p.tables e below (T0.setTop (mkF m 240 #[.val (.int x0), .val (.long x1), .second, .val (.int x2), .val (.int x3), .val (.int x4), .val (.int n), .val (.int nr), .val (.ref br), .val (.int en), .val (.int tg), .val (.ref x), .unset, .unset] [(.int (2 : Int32)), (.ref br), (.ref x)])) _
      refine X0.iaload hx (j := (2 : Int32)) (v := (.int y2)) (by rw [e0]; exact Ar3.1) (State.isArrayOf_alike hZ.alike Ar3.2.1) Ar3.2.2 in3_2 at3_2 (g := (mkF m 240 #[.val (.int x0), .val (.long x1), .second, .val (.int x2), .val (.int x3), .val (.int x4), .val (.int n), .val (.int nr), .val (.ref br), .val (.int en), .val (.int tg), .val (.ref x), .unset, .unset] [(.int (2 : Int32)), (.ref br), (.ref x)])) rfl rfl (hb hby at_240) _ ?_
      show Steps p.tables e below (T0.setTop (mkF m 241 #[.val (.int x0), .val (.long x1), .second, .val (.int x2), .val (.int x3), .val (.int x4), .val (.int n), .val (.int nr), .val (.ref br), .val (.int en), .val (.int tg), .val (.ref x), .unset, .unset] [(.int y2), (.ref x)])) _
      refine XS.iconst X0.here hx rfl (hb hby at_241) ?_
      show Steps p.tables e below (T0.setTop (mkF m 242 #[.val (.int x0), .val (.long x1), .second, .val (.int x2), .val (.int x3), .val (.int x4), .val (.int n), .val (.int nr), .val (.ref br), .val (.int en), .val (.int tg), .val (.ref x), .unset, .unset] [(.int (1 : Int32)), (.int y2), (.ref x)])) _
      refine XS.iconst X0.here hx rfl (hb hby at_242) ?_
      show Steps p.tables e below (T0.setTop (mkF m 243 #[.val (.int x0), .val (.long x1), .second, .val (.int x2), .val (.int x3), .val (.int x4), .val (.int n), .val (.int nr), .val (.ref br), .val (.int en), .val (.int tg), .val (.ref x), .unset, .unset] [(.int (1 : Int32)), (.int (1 : Int32)), (.int y2), (.ref x)])) _
      exact Steps.refl _
    have pre4 := pre2.trans st4
    obtain ⟨cq5, kq5, q5a, q5b, q5c⟩ := isOf hZ e0 B0
    obtain ⟨_, _, ⟨T5, L5, k5, n5⟩, -, X5, ⟨Lc5, hQ5, l5, y5, z5⟩, st5⟩ := X0.virtualBack hx (y := (⟨"com/example/portia/portia/index/Postings", "add", "(III)V"⟩ : MethodName)) (z := (⟨"com/example/portia/portia/index/Postings", "add", "(III)V"⟩ : MethodName)) hown (mvT hZ (hw _ (List.mem_of_getElem? (i := 28) rfl))) (mvT hZ (hw _ (List.mem_of_getElem? (i := 29) rfl))) (notFace_of_selects (args := #[]) (mvT hZ (hw _ (List.mem_of_getElem? (i := 31) rfl)))) (mvT hZ (hw _ (List.mem_of_getElem? (i := 31) rfl))) (mvT hZ (hw _ (List.mem_of_getElem? (i := 30) rfl))) (by decide) (backOf (W := 0) (rm12 l Z a0 hw [] x y2 ao ko af kf ai ki al kl y0 y1 h0 n0 Z0 B0 B1 B2 B3 B4 B5 B6 B7 B8 B9 B10 B11 g_x n_x_ao n_x_af n_x_ai n_x_al n_ao_af n_ao_ai n_ao_al n_af_ai n_af_al n_ai_al) hZ (hw _ (List.mem_of_getElem? (i := 32) rfl)) (hw _ (List.mem_of_getElem? (i := 6) rfl)) (by decide) (by decide)) q5a q5c (g := (mkF m 243 #[.val (.int x0), .val (.long x1), .second, .val (.int x2), .val (.int x3), .val (.int x4), .val (.int n), .val (.int nr), .val (.ref br), .val (.int en), .val (.int tg), .val (.ref x), .unset, .unset] [(.int (1 : Int32)), (.int (1 : Int32)), (.int y2), (.ref x)])) rfl (by rw [hml]; rfl) (Steps.refl _) (argsL := [(.int y2), (.int (1 : Int32)), (.int (1 : Int32))]) (rest := []) (lenOf pdc2_0 rfl) rfl (by show 2 * 0 + _ ≤ _; exact Nat.le_of_eq rfl) (hb hby at_243) (fun _ _ => ⟨rfl, e0, (by decide : 6 + 2 ≤ _), (by decide : 20 + 8 ≤ _)⟩)
    dsimp only [Pt.U, Pt.locs, Pt.cells, Pt.slots] at X5 l5 y5 z5 st5 hQ5
    subst l5 y5 z5
    obtain ⟨ao2_5, ko2_5, af2_5, kf2_5, rfl, Nq5, Kq5, P5_0, P5_1, P5_2, P5_3, P5_4, P5_5, P5_6, P5_7, P5_8, P5_9, P5_10, P5_11, SZ5_ao2, SZ5_af2, NE5_ao2_af2⟩ := hQ5
    have gnao2_5 : n0 ≤ ao2_5 := Nat.le_trans Z0 SZ5_ao2
    have nex_ao2_5 : x ≠ ao2_5 := Nat.ne_of_lt (Nat.lt_of_lt_of_le B0.lt SZ5_ao2)
    have neao_ao2_5 : ao ≠ ao2_5 := Nat.ne_of_lt (Nat.lt_of_lt_of_le B8.lt SZ5_ao2)
    have neaf_ao2_5 : af ≠ ao2_5 := Nat.ne_of_lt (Nat.lt_of_lt_of_le B9.lt SZ5_ao2)
    have neai_ao2_5 : ai ≠ ao2_5 := Nat.ne_of_lt (Nat.lt_of_lt_of_le B10.lt SZ5_ao2)
    have neal_ao2_5 : al ≠ ao2_5 := Nat.ne_of_lt (Nat.lt_of_lt_of_le B11.lt SZ5_ao2)
    have nebr_ao2_5 : br ≠ ao2_5 := Nat.ne_of_lt (Nat.lt_of_lt_of_le B12.lt SZ5_ao2)
    have gnaf2_5 : n0 ≤ af2_5 := Nat.le_trans Z0 SZ5_af2
    have nex_af2_5 : x ≠ af2_5 := Nat.ne_of_lt (Nat.lt_of_lt_of_le B0.lt SZ5_af2)
    have neao_af2_5 : ao ≠ af2_5 := Nat.ne_of_lt (Nat.lt_of_lt_of_le B8.lt SZ5_af2)
    have neaf_af2_5 : af ≠ af2_5 := Nat.ne_of_lt (Nat.lt_of_lt_of_le B9.lt SZ5_af2)
    have neai_af2_5 : ai ≠ af2_5 := Nat.ne_of_lt (Nat.lt_of_lt_of_le B10.lt SZ5_af2)
    have neal_af2_5 : al ≠ af2_5 := Nat.ne_of_lt (Nat.lt_of_lt_of_le B11.lt SZ5_af2)
    have nebr_af2_5 : br ≠ af2_5 := Nat.ne_of_lt (Nat.lt_of_lt_of_le B12.lt SZ5_af2)
    have F6 : Exa Z T5.heap x "com/example/portia/portia/index/Postings" := B0.keep Kq5
    have F14 : Arv Z T5.heap ao ko .int (2 : Int32) [(.int y0), (.int y1)] (.int (0 : Int32)) := B8.keep Kq5 (ninS (Ne.symm n_x_ao) nin0)
    have F15 : Arv Z T5.heap af kf .int (2 : Int32) [(.int (1 : Int32)), (.int (1 : Int32))] (.int (0 : Int32)) := B9.keep Kq5 (ninS (Ne.symm n_x_af) nin0)
    have F16 : Arv Z T5.heap ai ki .int (1 : Int32) [(.int (1 : Int32))] (.int (0 : Int32)) := B10.keep Kq5 (ninS (Ne.symm n_x_ai) nin0)
    have F17 : Arv Z T5.heap al kl .int (1 : Int32) [(.int (1 : Int32))] (.int (0 : Int32)) := B11.keep Kq5 (ninS (Ne.symm n_x_al) nin0)
    have F18 : Arv Z T5.heap br kb .int (7 : Int32) [(.int y0), (.int y1), (.int y2), (.int y3), (.int y4), (.int y5), (.int y6)] (.int (0 : Int32)) := B12.keep Kq5 (ninS n_br_x nin0)
    have Z5 : n0 ≤ T5.heap.size := Nat.le_trans Z0 Kq5.1
    have N5 := Fr.app N0 Nq5
    have pre5 : Steps p.tables e below (T0.setTop (mkF m 229 #[.val (.int x0), .val (.long x1), .second, .val (.int x2), .val (.int x3), .val (.int x4), .val (.int n), .val (.int nr), .val (.ref br), .val (.int en), .val (.int tg), .val (.ref x), .unset, .unset] [])) (T5.setTop (mkF m 246 #[.val (.int x0), .val (.long x1), .second, .val (.int x2), .val (.int x3), .val (.int x4), .val (.int n), .val (.int nr), .val (.ref br), .val (.int en), .val (.int tg), .val (.ref x), .unset, .unset] [])) := pre4.trans st5
    obtain ⟨T19, lc19, Ls19, X19, N19, st19⟩ := ch3 X5 n0 Z5 N5 hx hZ hw hby hml hown rfl F6 P5_1 P5_2 P5_3 P5_4 P5_5 P5_6 P5_7 P5_8 P5_9 F16 F17 F18 g_x gnao2_5 gnaf2_5 g_ai g_al nex_ao2_5 nex_af2_5 n_x_ai n_x_al NE5_ao2_af2 (Ne.symm neai_ao2_5) (Ne.symm neal_ao2_5) (Ne.symm neai_af2_5) (Ne.symm neal_af2_5) n_ai_al n_br_x nebr_ao2_5 nebr_af2_5 n_br_ai n_br_al hN hE hS hc232
    have pre19 := pre5.trans st19
    exact ⟨T19, _, _, X19.more (by decide) (by decide), N19, pre19⟩
  · have st20 : Steps p.tables e below (T0.setTop (mkF m 232 #[.val (.int x0), .val (.long x1), .second, .val (.int x2), .val (.int x3), .val (.int x4), .val (.int n), .val (.int nr), .val (.ref br), .val (.int en), .val (.int tg), .val (.ref x), .unset, .unset] [(.int (2 : Int32)), (.int n)])) (T0.setTop (mkF m 246 #[.val (.int x0), .val (.long x1), .second, .val (.int x2), .val (.int x3), .val (.int x4), .val (.int n), .val (.int nr), .val (.ref br), .val (.int en), .val (.int tg), .val (.ref x), .unset, .unset] [])) := by
      refine XS.icmpYes X0.here hx rfl (pc0 := 232) (pc' := 246) rfl (hb hby at_232) rfl (flt hc232).2.2.2 (by decide) (by decide) ?_
      exact Steps.refl _
    have pre20 := pre1.trans st20
    have st21 : Steps p.tables e below (T0.setTop (mkF m 246 #[.val (.int x0), .val (.long x1), .second, .val (.int x2), .val (.int x3), .val (.int x4), .val (.int n), .val (.int nr), .val (.ref br), .val (.int en), .val (.int tg), .val (.ref x), .unset, .unset] [])) (T0.setTop (mkF m 249 #[.val (.int x0), .val (.long x1), .second, .val (.int x2), .val (.int x3), .val (.int x4), .val (.int n), .val (.int nr), .val (.ref br), .val (.int en), .val (.int tg), .val (.ref x), .unset, .unset] [(.int (3 : Int32)), (.int n)])) := by
      refine XS.iload X0.here hx rfl (hb hby at_246) rfl ?_
      show Steps p.tables e below (T0.setTop (mkF m 248 #[.val (.int x0), .val (.long x1), .second, .val (.int x2), .val (.int x3), .val (.int x4), .val (.int n), .val (.int nr), .val (.ref br), .val (.int en), .val (.int tg), .val (.ref x), .unset, .unset] [(.int n)])) _
      refine XS.iconst X0.here hx rfl (hb hby at_248) ?_
      show Steps p.tables e below (T0.setTop (mkF m 249 #[.val (.int x0), .val (.long x1), .second, .val (.int x2), .val (.int x3), .val (.int x4), .val (.int n), .val (.int nr), .val (.ref br), .val (.int en), .val (.int tg), .val (.ref x), .unset, .unset] [(.int (3 : Int32)), (.int n)])) _
      exact Steps.refl _
    have pre21 := pre20.trans st21
    have hc249 : ¬ ((3 : Int32) < n) := by
      exact own_mono (by decide) hc232
    have st22 : Steps p.tables e below (T0.setTop (mkF m 249 #[.val (.int x0), .val (.long x1), .second, .val (.int x2), .val (.int x3), .val (.int x4), .val (.int n), .val (.int nr), .val (.ref br), .val (.int en), .val (.int tg), .val (.ref x), .unset, .unset] [(.int (3 : Int32)), (.int n)])) (T0.setTop (mkF m 263 #[.val (.int x0), .val (.long x1), .second, .val (.int x2), .val (.int x3), .val (.int x4), .val (.int n), .val (.int nr), .val (.ref br), .val (.int en), .val (.int tg), .val (.ref x), .unset, .unset] [])) := by
      refine XS.icmpYes X0.here hx rfl (pc0 := 249) (pc' := 263) rfl (hb hby at_249) rfl (flt hc249).2.2.2 (by decide) (by decide) ?_
      exact Steps.refl _
    have pre22 := pre21.trans st22
    have st23 : Steps p.tables e below (T0.setTop (mkF m 263 #[.val (.int x0), .val (.long x1), .second, .val (.int x2), .val (.int x3), .val (.int x4), .val (.int n), .val (.int nr), .val (.ref br), .val (.int en), .val (.int tg), .val (.ref x), .unset, .unset] [])) (T0.setTop (mkF m 266 #[.val (.int x0), .val (.long x1), .second, .val (.int x2), .val (.int x3), .val (.int x4), .val (.int n), .val (.int nr), .val (.ref br), .val (.int en), .val (.int tg), .val (.ref x), .unset, .unset] [(.int (4 : Int32)), (.int n)])) := by
      refine XS.iload X0.here hx rfl (hb hby at_263) rfl ?_
      show Steps p.tables e below (T0.setTop (mkF m 265 #[.val (.int x0), .val (.long x1), .second, .val (.int x2), .val (.int x3), .val (.int x4), .val (.int n), .val (.int nr), .val (.ref br), .val (.int en), .val (.int tg), .val (.ref x), .unset, .unset] [(.int n)])) _
      refine XS.iconst X0.here hx rfl (hb hby at_265) ?_
      show Steps p.tables e below (T0.setTop (mkF m 266 #[.val (.int x0), .val (.long x1), .second, .val (.int x2), .val (.int x3), .val (.int x4), .val (.int n), .val (.int nr), .val (.ref br), .val (.int en), .val (.int tg), .val (.ref x), .unset, .unset] [(.int (4 : Int32)), (.int n)])) _
      exact Steps.refl _
    have pre23 := pre22.trans st23
    have hc266 : ¬ ((4 : Int32) < n) := by
      exact own_mono (by decide) hc232
    have st24 : Steps p.tables e below (T0.setTop (mkF m 266 #[.val (.int x0), .val (.long x1), .second, .val (.int x2), .val (.int x3), .val (.int x4), .val (.int n), .val (.int nr), .val (.ref br), .val (.int en), .val (.int tg), .val (.ref x), .unset, .unset] [(.int (4 : Int32)), (.int n)])) (T0.setTop (mkF m 280 #[.val (.int x0), .val (.long x1), .second, .val (.int x2), .val (.int x3), .val (.int x4), .val (.int n), .val (.int nr), .val (.ref br), .val (.int en), .val (.int tg), .val (.ref x), .unset, .unset] [])) := by
      refine XS.icmpYes X0.here hx rfl (pc0 := 266) (pc' := 280) rfl (hb hby at_266) rfl (flt hc266).2.2.2 (by decide) (by decide) ?_
      exact Steps.refl _
    have pre24 := pre23.trans st24
    have st25 : Steps p.tables e below (T0.setTop (mkF m 280 #[.val (.int x0), .val (.long x1), .second, .val (.int x2), .val (.int x3), .val (.int x4), .val (.int n), .val (.int nr), .val (.ref br), .val (.int en), .val (.int tg), .val (.ref x), .unset, .unset] [])) (T0.setTop (mkF m 283 #[.val (.int x0), .val (.long x1), .second, .val (.int x2), .val (.int x3), .val (.int x4), .val (.int n), .val (.int nr), .val (.ref br), .val (.int en), .val (.int tg), .val (.ref x), .unset, .unset] [(.int (5 : Int32)), (.int n)])) := by
      refine XS.iload X0.here hx rfl (hb hby at_280) rfl ?_
      show Steps p.tables e below (T0.setTop (mkF m 282 #[.val (.int x0), .val (.long x1), .second, .val (.int x2), .val (.int x3), .val (.int x4), .val (.int n), .val (.int nr), .val (.ref br), .val (.int en), .val (.int tg), .val (.ref x), .unset, .unset] [(.int n)])) _
      refine XS.iconst X0.here hx rfl (hb hby at_282) ?_
      show Steps p.tables e below (T0.setTop (mkF m 283 #[.val (.int x0), .val (.long x1), .second, .val (.int x2), .val (.int x3), .val (.int x4), .val (.int n), .val (.int nr), .val (.ref br), .val (.int en), .val (.int tg), .val (.ref x), .unset, .unset] [(.int (5 : Int32)), (.int n)])) _
      exact Steps.refl _
    have pre25 := pre24.trans st25
    have hc283 : ¬ ((5 : Int32) < n) := by
      exact own_mono (by decide) hc232
    have st26 : Steps p.tables e below (T0.setTop (mkF m 283 #[.val (.int x0), .val (.long x1), .second, .val (.int x2), .val (.int x3), .val (.int x4), .val (.int n), .val (.int nr), .val (.ref br), .val (.int en), .val (.int tg), .val (.ref x), .unset, .unset] [(.int (5 : Int32)), (.int n)])) (T0.setTop (mkF m 297 #[.val (.int x0), .val (.long x1), .second, .val (.int x2), .val (.int x3), .val (.int x4), .val (.int n), .val (.int nr), .val (.ref br), .val (.int en), .val (.int tg), .val (.ref x), .unset, .unset] [])) := by
      refine XS.icmpYes X0.here hx rfl (pc0 := 283) (pc' := 297) rfl (hb hby at_283) rfl (flt hc283).2.2.2 (by decide) (by decide) ?_
      exact Steps.refl _
    have pre26 := pre25.trans st26
    have st27 : Steps p.tables e below (T0.setTop (mkF m 297 #[.val (.int x0), .val (.long x1), .second, .val (.int x2), .val (.int x3), .val (.int x4), .val (.int n), .val (.int nr), .val (.ref br), .val (.int en), .val (.int tg), .val (.ref x), .unset, .unset] [])) (T0.setTop (mkF m 301 #[.val (.int x0), .val (.long x1), .second, .val (.int x2), .val (.int x3), .val (.int x4), .val (.int n), .val (.int nr), .val (.ref br), .val (.int en), .val (.int tg), .val (.ref x), .unset, .unset] [(.int (6 : Int32)), (.int n)])) := by
      refine XS.iload X0.here hx rfl (hb hby at_297) rfl ?_
      show Steps p.tables e below (T0.setTop (mkF m 299 #[.val (.int x0), .val (.long x1), .second, .val (.int x2), .val (.int x3), .val (.int x4), .val (.int n), .val (.int nr), .val (.ref br), .val (.int en), .val (.int tg), .val (.ref x), .unset, .unset] [(.int n)])) _
      refine XS.bipush X0.here hx rfl (hb hby at_299) ?_
      show Steps p.tables e below (T0.setTop (mkF m 301 #[.val (.int x0), .val (.long x1), .second, .val (.int x2), .val (.int x3), .val (.int x4), .val (.int n), .val (.int nr), .val (.ref br), .val (.int en), .val (.int tg), .val (.ref x), .unset, .unset] [(.int (6 : Int32)), (.int n)])) _
      exact Steps.refl _
    have pre27 := pre26.trans st27
    have hc301 : ¬ ((6 : Int32) < n) := by
      exact own_mono (by decide) hc232
    have st28 : Steps p.tables e below (T0.setTop (mkF m 301 #[.val (.int x0), .val (.long x1), .second, .val (.int x2), .val (.int x3), .val (.int x4), .val (.int n), .val (.int nr), .val (.ref br), .val (.int en), .val (.int tg), .val (.ref x), .unset, .unset] [(.int (6 : Int32)), (.int n)])) (T0.setTop (mkF m 316 #[.val (.int x0), .val (.long x1), .second, .val (.int x2), .val (.int x3), .val (.int x4), .val (.int n), .val (.int nr), .val (.ref br), .val (.int en), .val (.int tg), .val (.ref x), .unset, .unset] [])) := by
      refine XS.icmpYes X0.here hx rfl (pc0 := 301) (pc' := 316) rfl (hb hby at_301) rfl (flt hc301).2.2.2 (by decide) (by decide) ?_
      exact Steps.refl _
    have pre28 := pre27.trans st28
    have hsz : (2 : Int32) = n := own_sz (by decide) hlo hc232
    have hG := own_g2 hS hsz hE
    obtain ⟨T29, lc29, Ls29, X29, N29, st29⟩ := own_tail X0 n0 Z0 N0 (by decide) (by decide) hx hZ hw hby hml hown e0 B0 B3 B1 B8 B12 hG hsz (fun _ => rfl) (fun _ => rfl) (fun _ => rfl) (fun _ => rfl) (fun _ => rfl) (fun _ => rfl) (fun _ => rfl)
    have pre29 := pre28.trans st29
    exact ⟨T29, _, _, X29.more (by decide) (by decide), N29, pre29⟩
theorem pdc1_0 : parseMethodDescriptor "(III)V" = some ⟨[.int, .int, .int], none⟩ := by decide +kernel
set_option maxRecDepth 65536 in
set_option maxHeartbeats 40000000 in
theorem ch1 {p : Program} {l : Launch} {e : Env} {s : State} {m : MethodId} {args : Array Value} {below : List Frame} {meth : Method} {c : Code} {T0 : State} {locs : List Loc} {Z : State} {a0 : Array Value} {h0 : Heap} {x0 x2 x3 x4 n nr en tg : Int32} {x1 : Int64} {br x ao af ai al : Addr} {ko kf ki kl kb : ClassId} {y0 y1 y2 y3 y4 y5 y6 : Int32}
    (X0 : Stand p l e room_1 s m args below meth c T0 locs 6 20) (n0 : Nat) (Z0 : n0 ≤ h0.size) (N0 : Fr n0 locs) (hx : p.tables.exec = Jvm.exec) (hZ : Z.Warmed39 s.vm) (hw : ∀ d ∈ tables_1, d.before a0 Z = true) (hby : c.code = code) (hml : c.maxLocals = 14) (hown : s.vm.findClass "com/example/portia/portia/index/PostingsAdvancePinLaw" = some m.cls) (e0 : T0.heap = h0) (B0 : Exa Z h0 x "com/example/portia/portia/index/Postings") (B1 : Fld Z h0 x "com/example/portia/portia/index/Postings" "ordinals" "[I" (.ref ao)) (B2 : Fld Z h0 x "com/example/portia/portia/index/Postings" "frequencies" "[I" (.ref af)) (B3 : Fld Z h0 x "com/example/portia/portia/index/Postings" "size" "I" (.int (1 : Int32))) (B4 : Fld Z h0 x "com/example/portia/portia/index/Postings" "documentFrequency" "I" (.int (1 : Int32))) (B5 : Fld Z h0 x "com/example/portia/portia/index/Postings" "impactFrequencies" "[I" (.ref ai)) (B6 : Fld Z h0 x "com/example/portia/portia/index/Postings" "impactLengths" "[I" (.ref al)) (B7 : Fld Z h0 x "com/example/portia/portia/index/Postings" "impactCount" "I" (.int (1 : Int32))) (B8 : Arv Z h0 ao ko .int (2 : Int32) [(.int y0), (.int (0 : Int32))] (.int (0 : Int32))) (B9 : Arv Z h0 af kf .int (2 : Int32) [(.int (1 : Int32)), (.int (0 : Int32))] (.int (0 : Int32))) (B10 : Arv Z h0 ai ki .int (1 : Int32) [(.int (1 : Int32))] (.int (0 : Int32))) (B11 : Arv Z h0 al kl .int (1 : Int32) [(.int (1 : Int32))] (.int (0 : Int32))) (B12 : Arv Z h0 br kb .int (7 : Int32) [(.int y0), (.int y1), (.int y2), (.int y3), (.int y4), (.int y5), (.int y6)] (.int (0 : Int32))) (g_x : n0 ≤ x) (g_ao : n0 ≤ ao) (g_af : n0 ≤ af) (g_ai : n0 ≤ ai) (g_al : n0 ≤ al) (n_x_ao : x ≠ ao) (n_x_af : x ≠ af) (n_x_ai : x ≠ ai) (n_x_al : x ≠ al) (n_ao_af : ao ≠ af) (n_ao_ai : ao ≠ ai) (n_ao_al : ao ≠ al) (n_af_ai : af ≠ ai) (n_af_al : af ≠ al) (n_ai_al : ai ≠ al) (n_br_x : br ≠ x) (n_br_ao : br ≠ ao) (n_br_af : br ≠ af) (n_br_ai : br ≠ ai) (n_br_al : br ≠ al) (hN : 0 ≤ n.toInt ∧ n.toInt ≤ 7) (hE : 0 ≤ en.toInt ∧ en.toInt ≤ n.toInt) (hS : ∀ i j : Nat, i ≤ j → j < 7 → ((own_o y0 y1 y2 y3 y4 y5 y6) i).toInt ≤ ((own_o y0 y1 y2 y3 y4 y5 y6) j).toInt) (hlo : (0 : Int32) < n) :
    ∃ (T' : State) (lc : List Loc) (Ls' : Array Slot), Stand p l e room_1 s m args below meth c T' lc 32 192 ∧ Fr n0 lc ∧ Steps p.tables e below (T0.setTop (mkF m 212 #[.val (.int x0), .val (.long x1), .second, .val (.int x2), .val (.int x3), .val (.int x4), .val (.int n), .val (.int nr), .val (.ref br), .val (.int en), .val (.int tg), .val (.ref x), .unset, .unset] [])) (T'.setTop (mkF m 515 Ls' [(.int (1 : Int32))])) := by
  have pre0 : Steps p.tables e below (T0.setTop (mkF m 212 #[.val (.int x0), .val (.long x1), .second, .val (.int x2), .val (.int x3), .val (.int x4), .val (.int n), .val (.int nr), .val (.ref br), .val (.int en), .val (.int tg), .val (.ref x), .unset, .unset] [])) (T0.setTop (mkF m 212 #[.val (.int x0), .val (.long x1), .second, .val (.int x2), .val (.int x3), .val (.int x4), .val (.int n), .val (.int nr), .val (.ref br), .val (.int en), .val (.int tg), .val (.ref x), .unset, .unset] [])) := Steps.refl _
  have st1 : Steps p.tables e below (T0.setTop (mkF m 212 #[.val (.int x0), .val (.long x1), .second, .val (.int x2), .val (.int x3), .val (.int x4), .val (.int n), .val (.int nr), .val (.ref br), .val (.int en), .val (.int tg), .val (.ref x), .unset, .unset] [])) (T0.setTop (mkF m 215 #[.val (.int x0), .val (.long x1), .second, .val (.int x2), .val (.int x3), .val (.int x4), .val (.int n), .val (.int nr), .val (.ref br), .val (.int en), .val (.int tg), .val (.ref x), .unset, .unset] [(.int (1 : Int32)), (.int n)])) := by
    refine XS.iload X0.here hx rfl (hb hby at_212) rfl ?_
    show Steps p.tables e below (T0.setTop (mkF m 214 #[.val (.int x0), .val (.long x1), .second, .val (.int x2), .val (.int x3), .val (.int x4), .val (.int n), .val (.int nr), .val (.ref br), .val (.int en), .val (.int tg), .val (.ref x), .unset, .unset] [(.int n)])) _
    refine XS.iconst X0.here hx rfl (hb hby at_214) ?_
    show Steps p.tables e below (T0.setTop (mkF m 215 #[.val (.int x0), .val (.long x1), .second, .val (.int x2), .val (.int x3), .val (.int x4), .val (.int n), .val (.int nr), .val (.ref br), .val (.int en), .val (.int tg), .val (.ref x), .unset, .unset] [(.int (1 : Int32)), (.int n)])) _
    exact Steps.refl _
  have pre1 := pre0.trans st1
  by_cases hc215 : (1 : Int32) < n
  · have st2 : Steps p.tables e below (T0.setTop (mkF m 215 #[.val (.int x0), .val (.long x1), .second, .val (.int x2), .val (.int x3), .val (.int x4), .val (.int n), .val (.int nr), .val (.ref br), .val (.int en), .val (.int tg), .val (.ref x), .unset, .unset] [(.int (1 : Int32)), (.int n)])) (T0.setTop (mkF m 218 #[.val (.int x0), .val (.long x1), .second, .val (.int x2), .val (.int x3), .val (.int x4), .val (.int n), .val (.int nr), .val (.ref br), .val (.int en), .val (.int tg), .val (.ref x), .unset, .unset] [])) := by
      refine XS.icmpNo X0.here hx rfl (hb hby at_215) rfl (tlt hc215).2.2.2 ?_
      exact Steps.refl _
    have pre2 := pre1.trans st2
    obtain ⟨cl3, Ar3, q3, S3, G3, H3, J3⟩ := id B12
    have in3_1 : ¬ ((1 : Int32) < 0 ∨ cl3.slots.size ≤ ((1 : Int32)).toNatClampNeg) := inb_of S3 ⟨by decide, by decide⟩
    have at3_1 : cl3.slots[((1 : Int32)).toNatClampNeg]? = some (.int y1) := Has.at H3 in3_1 rfl
    have st4 : Steps p.tables e below (T0.setTop (mkF m 218 #[.val (.int x0), .val (.long x1), .second, .val (.int x2), .val (.int x3), .val (.int x4), .val (.int n), .val (.int nr), .val (.ref br), .val (.int en), .val (.int tg), .val (.ref x), .unset, .unset] [])) (T0.setTop (mkF m 226 #[.val (.int x0), .val (.long x1), .second, .val (.int x2), .val (.int x3), .val (.int x4), .val (.int n), .val (.int nr), .val (.ref br), .val (.int en), .val (.int tg), .val (.ref x), .unset, .unset] [(.int (1 : Int32)), (.int (1 : Int32)), (.int y1), (.ref x)])) := by
      refine XS.aload X0.here hx rfl (hb hby at_218) rfl rfl ?_
      show Steps p.tables e below (T0.setTop (mkF m 220 #[.val (.int x0), .val (.long x1), .second, .val (.int x2), .val (.int x3), .val (.int x4), .val (.int n), .val (.int nr), .val (.ref br), .val (.int en), .val (.int tg), .val (.ref x), .unset, .unset] [(.ref x)])) _
      refine XS.aload X0.here hx rfl (hb hby at_220) rfl rfl ?_
      show Steps p.tables e below (T0.setTop (mkF m 222 #[.val (.int x0), .val (.long x1), .second, .val (.int x2), .val (.int x3), .val (.int x4), .val (.int n), .val (.int nr), .val (.ref br), .val (.int en), .val (.int tg), .val (.ref x), .unset, .unset] [(.ref br), (.ref x)])) _
      refine XS.iconst X0.here hx rfl (hb hby at_222) ?_
      show Steps p.tables e below (T0.setTop (mkF m 223 #[.val (.int x0), .val (.long x1), .second, .val (.int x2), .val (.int x3), .val (.int x4), .val (.int n), .val (.int nr), .val (.ref br), .val (.int en), .val (.int tg), .val (.ref x), .unset, .unset] [(.int (1 : Int32)), (.ref br), (.ref x)])) _
      refine X0.iaload hx (j := (1 : Int32)) (v := (.int y1)) (by rw [e0]; exact Ar3.1) (State.isArrayOf_alike hZ.alike Ar3.2.1) Ar3.2.2 in3_1 at3_1 (g := (mkF m 223 #[.val (.int x0), .val (.long x1), .second, .val (.int x2), .val (.int x3), .val (.int x4), .val (.int n), .val (.int nr), .val (.ref br), .val (.int en), .val (.int tg), .val (.ref x), .unset, .unset] [(.int (1 : Int32)), (.ref br), (.ref x)])) rfl rfl (hb hby at_223) _ ?_
      show Steps p.tables e below (T0.setTop (mkF m 224 #[.val (.int x0), .val (.long x1), .second, .val (.int x2), .val (.int x3), .val (.int x4), .val (.int n), .val (.int nr), .val (.ref br), .val (.int en), .val (.int tg), .val (.ref x), .unset, .unset] [(.int y1), (.ref x)])) _
      refine XS.iconst X0.here hx rfl (hb hby at_224) ?_
      show Steps p.tables e below (T0.setTop (mkF m 225 #[.val (.int x0), .val (.long x1), .second, .val (.int x2), .val (.int x3), .val (.int x4), .val (.int n), .val (.int nr), .val (.ref br), .val (.int en), .val (.int tg), .val (.ref x), .unset, .unset] [(.int (1 : Int32)), (.int y1), (.ref x)])) _
      refine XS.iconst X0.here hx rfl (hb hby at_225) ?_
      show Steps p.tables e below (T0.setTop (mkF m 226 #[.val (.int x0), .val (.long x1), .second, .val (.int x2), .val (.int x3), .val (.int x4), .val (.int n), .val (.int nr), .val (.ref br), .val (.int en), .val (.int tg), .val (.ref x), .unset, .unset] [(.int (1 : Int32)), (.int (1 : Int32)), (.int y1), (.ref x)])) _
      exact Steps.refl _
    have pre4 := pre2.trans st4
    obtain ⟨cq5, kq5, q5a, q5b, q5c⟩ := isOf hZ e0 B0
    obtain ⟨_, _, ⟨T5, L5, k5, n5⟩, -, X5, ⟨Lc5, hQ5, l5, y5, z5⟩, st5⟩ := X0.virtualBack hx (y := (⟨"com/example/portia/portia/index/Postings", "add", "(III)V"⟩ : MethodName)) (z := (⟨"com/example/portia/portia/index/Postings", "add", "(III)V"⟩ : MethodName)) hown (mvT hZ (hw _ (List.mem_of_getElem? (i := 28) rfl))) (mvT hZ (hw _ (List.mem_of_getElem? (i := 29) rfl))) (notFace_of_selects (args := #[]) (mvT hZ (hw _ (List.mem_of_getElem? (i := 31) rfl)))) (mvT hZ (hw _ (List.mem_of_getElem? (i := 31) rfl))) (mvT hZ (hw _ (List.mem_of_getElem? (i := 30) rfl))) (by decide) (backOf (W := 0) (rm11 l Z a0 hw [] x y1 ao ko af kf ai ki al kl y0 h0 n0 Z0 B0 B1 B2 B3 B4 B5 B6 B7 B8 B9 B10 B11 g_x g_ao g_af n_x_ao n_x_af n_x_ai n_x_al n_ao_af n_ao_ai n_ao_al n_af_ai n_af_al n_ai_al) hZ (hw _ (List.mem_of_getElem? (i := 32) rfl)) (hw _ (List.mem_of_getElem? (i := 6) rfl)) (by decide) (by decide)) q5a q5c (g := (mkF m 226 #[.val (.int x0), .val (.long x1), .second, .val (.int x2), .val (.int x3), .val (.int x4), .val (.int n), .val (.int nr), .val (.ref br), .val (.int en), .val (.int tg), .val (.ref x), .unset, .unset] [(.int (1 : Int32)), (.int (1 : Int32)), (.int y1), (.ref x)])) rfl (by rw [hml]; rfl) (Steps.refl _) (argsL := [(.int y1), (.int (1 : Int32)), (.int (1 : Int32))]) (rest := []) (lenOf pdc1_0 rfl) rfl (by show 2 * 0 + _ ≤ _; exact Nat.le_of_eq rfl) (hb hby at_226) (fun _ _ => ⟨rfl, e0, (by decide : 6 + 0 ≤ _), (by decide : 20 + 0 ≤ _)⟩)
    dsimp only [Pt.U, Pt.locs, Pt.cells, Pt.slots] at X5 l5 y5 z5 st5 hQ5
    subst l5 y5 z5
    obtain ⟨rfl, Nq5, Kq5, P5_0, P5_1, P5_2, P5_3, P5_4, P5_5, P5_6, P5_7, P5_8, P5_9, P5_10, P5_11⟩ := hQ5
    have F6 : Exa Z T5.heap x "com/example/portia/portia/index/Postings" := B0.keep Kq5
    have F16 : Arv Z T5.heap ai ki .int (1 : Int32) [(.int (1 : Int32))] (.int (0 : Int32)) := B10.keep Kq5 (ninS (Ne.symm n_x_ai) (ninS (Ne.symm n_ao_ai) (ninS (Ne.symm n_af_ai) nin0)))
    have F17 : Arv Z T5.heap al kl .int (1 : Int32) [(.int (1 : Int32))] (.int (0 : Int32)) := B11.keep Kq5 (ninS (Ne.symm n_x_al) (ninS (Ne.symm n_ao_al) (ninS (Ne.symm n_af_al) nin0)))
    have F18 : Arv Z T5.heap br kb .int (7 : Int32) [(.int y0), (.int y1), (.int y2), (.int y3), (.int y4), (.int y5), (.int y6)] (.int (0 : Int32)) := B12.keep Kq5 (ninS n_br_x (ninS n_br_ao (ninS n_br_af nin0)))
    have Z5 : n0 ≤ T5.heap.size := Nat.le_trans Z0 Kq5.1
    have N5 := Fr.app N0 Nq5
    have pre5 : Steps p.tables e below (T0.setTop (mkF m 212 #[.val (.int x0), .val (.long x1), .second, .val (.int x2), .val (.int x3), .val (.int x4), .val (.int n), .val (.int nr), .val (.ref br), .val (.int en), .val (.int tg), .val (.ref x), .unset, .unset] [])) (T5.setTop (mkF m 229 #[.val (.int x0), .val (.long x1), .second, .val (.int x2), .val (.int x3), .val (.int x4), .val (.int n), .val (.int nr), .val (.ref br), .val (.int en), .val (.int tg), .val (.ref x), .unset, .unset] [])) := pre4.trans st5
    obtain ⟨T19, lc19, Ls19, X19, N19, st19⟩ := ch2 X5 n0 Z5 N5 hx hZ hw hby hml hown rfl F6 P5_1 P5_2 P5_3 P5_4 P5_5 P5_6 P5_7 P5_8 P5_9 F16 F17 F18 g_x g_ao g_af g_ai g_al n_x_ao n_x_af n_x_ai n_x_al n_ao_af n_ao_ai n_ao_al n_af_ai n_af_al n_ai_al n_br_x n_br_ao n_br_af n_br_ai n_br_al hN hE hS hc215
    have pre19 := pre5.trans st19
    exact ⟨T19, _, _, X19.more (by decide) (by decide), N19, pre19⟩
  · have st20 : Steps p.tables e below (T0.setTop (mkF m 215 #[.val (.int x0), .val (.long x1), .second, .val (.int x2), .val (.int x3), .val (.int x4), .val (.int n), .val (.int nr), .val (.ref br), .val (.int en), .val (.int tg), .val (.ref x), .unset, .unset] [(.int (1 : Int32)), (.int n)])) (T0.setTop (mkF m 229 #[.val (.int x0), .val (.long x1), .second, .val (.int x2), .val (.int x3), .val (.int x4), .val (.int n), .val (.int nr), .val (.ref br), .val (.int en), .val (.int tg), .val (.ref x), .unset, .unset] [])) := by
      refine XS.icmpYes X0.here hx rfl (pc0 := 215) (pc' := 229) rfl (hb hby at_215) rfl (flt hc215).2.2.2 (by decide) (by decide) ?_
      exact Steps.refl _
    have pre20 := pre1.trans st20
    have st21 : Steps p.tables e below (T0.setTop (mkF m 229 #[.val (.int x0), .val (.long x1), .second, .val (.int x2), .val (.int x3), .val (.int x4), .val (.int n), .val (.int nr), .val (.ref br), .val (.int en), .val (.int tg), .val (.ref x), .unset, .unset] [])) (T0.setTop (mkF m 232 #[.val (.int x0), .val (.long x1), .second, .val (.int x2), .val (.int x3), .val (.int x4), .val (.int n), .val (.int nr), .val (.ref br), .val (.int en), .val (.int tg), .val (.ref x), .unset, .unset] [(.int (2 : Int32)), (.int n)])) := by
      refine XS.iload X0.here hx rfl (hb hby at_229) rfl ?_
      show Steps p.tables e below (T0.setTop (mkF m 231 #[.val (.int x0), .val (.long x1), .second, .val (.int x2), .val (.int x3), .val (.int x4), .val (.int n), .val (.int nr), .val (.ref br), .val (.int en), .val (.int tg), .val (.ref x), .unset, .unset] [(.int n)])) _
      refine XS.iconst X0.here hx rfl (hb hby at_231) ?_
      show Steps p.tables e below (T0.setTop (mkF m 232 #[.val (.int x0), .val (.long x1), .second, .val (.int x2), .val (.int x3), .val (.int x4), .val (.int n), .val (.int nr), .val (.ref br), .val (.int en), .val (.int tg), .val (.ref x), .unset, .unset] [(.int (2 : Int32)), (.int n)])) _
      exact Steps.refl _
    have pre21 := pre20.trans st21
    have hc232 : ¬ ((2 : Int32) < n) := by
      exact own_mono (by decide) hc215
    have st22 : Steps p.tables e below (T0.setTop (mkF m 232 #[.val (.int x0), .val (.long x1), .second, .val (.int x2), .val (.int x3), .val (.int x4), .val (.int n), .val (.int nr), .val (.ref br), .val (.int en), .val (.int tg), .val (.ref x), .unset, .unset] [(.int (2 : Int32)), (.int n)])) (T0.setTop (mkF m 246 #[.val (.int x0), .val (.long x1), .second, .val (.int x2), .val (.int x3), .val (.int x4), .val (.int n), .val (.int nr), .val (.ref br), .val (.int en), .val (.int tg), .val (.ref x), .unset, .unset] [])) := by
      refine XS.icmpYes X0.here hx rfl (pc0 := 232) (pc' := 246) rfl (hb hby at_232) rfl (flt hc232).2.2.2 (by decide) (by decide) ?_
      exact Steps.refl _
    have pre22 := pre21.trans st22
    have st23 : Steps p.tables e below (T0.setTop (mkF m 246 #[.val (.int x0), .val (.long x1), .second, .val (.int x2), .val (.int x3), .val (.int x4), .val (.int n), .val (.int nr), .val (.ref br), .val (.int en), .val (.int tg), .val (.ref x), .unset, .unset] [])) (T0.setTop (mkF m 249 #[.val (.int x0), .val (.long x1), .second, .val (.int x2), .val (.int x3), .val (.int x4), .val (.int n), .val (.int nr), .val (.ref br), .val (.int en), .val (.int tg), .val (.ref x), .unset, .unset] [(.int (3 : Int32)), (.int n)])) := by
      refine XS.iload X0.here hx rfl (hb hby at_246) rfl ?_
      show Steps p.tables e below (T0.setTop (mkF m 248 #[.val (.int x0), .val (.long x1), .second, .val (.int x2), .val (.int x3), .val (.int x4), .val (.int n), .val (.int nr), .val (.ref br), .val (.int en), .val (.int tg), .val (.ref x), .unset, .unset] [(.int n)])) _
      refine XS.iconst X0.here hx rfl (hb hby at_248) ?_
      show Steps p.tables e below (T0.setTop (mkF m 249 #[.val (.int x0), .val (.long x1), .second, .val (.int x2), .val (.int x3), .val (.int x4), .val (.int n), .val (.int nr), .val (.ref br), .val (.int en), .val (.int tg), .val (.ref x), .unset, .unset] [(.int (3 : Int32)), (.int n)])) _
      exact Steps.refl _
    have pre23 := pre22.trans st23
    have hc249 : ¬ ((3 : Int32) < n) := by
      exact own_mono (by decide) hc215
    have st24 : Steps p.tables e below (T0.setTop (mkF m 249 #[.val (.int x0), .val (.long x1), .second, .val (.int x2), .val (.int x3), .val (.int x4), .val (.int n), .val (.int nr), .val (.ref br), .val (.int en), .val (.int tg), .val (.ref x), .unset, .unset] [(.int (3 : Int32)), (.int n)])) (T0.setTop (mkF m 263 #[.val (.int x0), .val (.long x1), .second, .val (.int x2), .val (.int x3), .val (.int x4), .val (.int n), .val (.int nr), .val (.ref br), .val (.int en), .val (.int tg), .val (.ref x), .unset, .unset] [])) := by
      refine XS.icmpYes X0.here hx rfl (pc0 := 249) (pc' := 263) rfl (hb hby at_249) rfl (flt hc249).2.2.2 (by decide) (by decide) ?_
      exact Steps.refl _
    have pre24 := pre23.trans st24
    have st25 : Steps p.tables e below (T0.setTop (mkF m 263 #[.val (.int x0), .val (.long x1), .second, .val (.int x2), .val (.int x3), .val (.int x4), .val (.int n), .val (.int nr), .val (.ref br), .val (.int en), .val (.int tg), .val (.ref x), .unset, .unset] [])) (T0.setTop (mkF m 266 #[.val (.int x0), .val (.long x1), .second, .val (.int x2), .val (.int x3), .val (.int x4), .val (.int n), .val (.int nr), .val (.ref br), .val (.int en), .val (.int tg), .val (.ref x), .unset, .unset] [(.int (4 : Int32)), (.int n)])) := by
      refine XS.iload X0.here hx rfl (hb hby at_263) rfl ?_
      show Steps p.tables e below (T0.setTop (mkF m 265 #[.val (.int x0), .val (.long x1), .second, .val (.int x2), .val (.int x3), .val (.int x4), .val (.int n), .val (.int nr), .val (.ref br), .val (.int en), .val (.int tg), .val (.ref x), .unset, .unset] [(.int n)])) _
      refine XS.iconst X0.here hx rfl (hb hby at_265) ?_
      show Steps p.tables e below (T0.setTop (mkF m 266 #[.val (.int x0), .val (.long x1), .second, .val (.int x2), .val (.int x3), .val (.int x4), .val (.int n), .val (.int nr), .val (.ref br), .val (.int en), .val (.int tg), .val (.ref x), .unset, .unset] [(.int (4 : Int32)), (.int n)])) _
      exact Steps.refl _
    have pre25 := pre24.trans st25
    have hc266 : ¬ ((4 : Int32) < n) := by
      exact own_mono (by decide) hc215
    have st26 : Steps p.tables e below (T0.setTop (mkF m 266 #[.val (.int x0), .val (.long x1), .second, .val (.int x2), .val (.int x3), .val (.int x4), .val (.int n), .val (.int nr), .val (.ref br), .val (.int en), .val (.int tg), .val (.ref x), .unset, .unset] [(.int (4 : Int32)), (.int n)])) (T0.setTop (mkF m 280 #[.val (.int x0), .val (.long x1), .second, .val (.int x2), .val (.int x3), .val (.int x4), .val (.int n), .val (.int nr), .val (.ref br), .val (.int en), .val (.int tg), .val (.ref x), .unset, .unset] [])) := by
      refine XS.icmpYes X0.here hx rfl (pc0 := 266) (pc' := 280) rfl (hb hby at_266) rfl (flt hc266).2.2.2 (by decide) (by decide) ?_
      exact Steps.refl _
    have pre26 := pre25.trans st26
    have st27 : Steps p.tables e below (T0.setTop (mkF m 280 #[.val (.int x0), .val (.long x1), .second, .val (.int x2), .val (.int x3), .val (.int x4), .val (.int n), .val (.int nr), .val (.ref br), .val (.int en), .val (.int tg), .val (.ref x), .unset, .unset] [])) (T0.setTop (mkF m 283 #[.val (.int x0), .val (.long x1), .second, .val (.int x2), .val (.int x3), .val (.int x4), .val (.int n), .val (.int nr), .val (.ref br), .val (.int en), .val (.int tg), .val (.ref x), .unset, .unset] [(.int (5 : Int32)), (.int n)])) := by
      refine XS.iload X0.here hx rfl (hb hby at_280) rfl ?_
      show Steps p.tables e below (T0.setTop (mkF m 282 #[.val (.int x0), .val (.long x1), .second, .val (.int x2), .val (.int x3), .val (.int x4), .val (.int n), .val (.int nr), .val (.ref br), .val (.int en), .val (.int tg), .val (.ref x), .unset, .unset] [(.int n)])) _
      refine XS.iconst X0.here hx rfl (hb hby at_282) ?_
      show Steps p.tables e below (T0.setTop (mkF m 283 #[.val (.int x0), .val (.long x1), .second, .val (.int x2), .val (.int x3), .val (.int x4), .val (.int n), .val (.int nr), .val (.ref br), .val (.int en), .val (.int tg), .val (.ref x), .unset, .unset] [(.int (5 : Int32)), (.int n)])) _
      exact Steps.refl _
    have pre27 := pre26.trans st27
    have hc283 : ¬ ((5 : Int32) < n) := by
      exact own_mono (by decide) hc215
    have st28 : Steps p.tables e below (T0.setTop (mkF m 283 #[.val (.int x0), .val (.long x1), .second, .val (.int x2), .val (.int x3), .val (.int x4), .val (.int n), .val (.int nr), .val (.ref br), .val (.int en), .val (.int tg), .val (.ref x), .unset, .unset] [(.int (5 : Int32)), (.int n)])) (T0.setTop (mkF m 297 #[.val (.int x0), .val (.long x1), .second, .val (.int x2), .val (.int x3), .val (.int x4), .val (.int n), .val (.int nr), .val (.ref br), .val (.int en), .val (.int tg), .val (.ref x), .unset, .unset] [])) := by
      refine XS.icmpYes X0.here hx rfl (pc0 := 283) (pc' := 297) rfl (hb hby at_283) rfl (flt hc283).2.2.2 (by decide) (by decide) ?_
      exact Steps.refl _
    have pre28 := pre27.trans st28
    have st29 : Steps p.tables e below (T0.setTop (mkF m 297 #[.val (.int x0), .val (.long x1), .second, .val (.int x2), .val (.int x3), .val (.int x4), .val (.int n), .val (.int nr), .val (.ref br), .val (.int en), .val (.int tg), .val (.ref x), .unset, .unset] [])) (T0.setTop (mkF m 301 #[.val (.int x0), .val (.long x1), .second, .val (.int x2), .val (.int x3), .val (.int x4), .val (.int n), .val (.int nr), .val (.ref br), .val (.int en), .val (.int tg), .val (.ref x), .unset, .unset] [(.int (6 : Int32)), (.int n)])) := by
      refine XS.iload X0.here hx rfl (hb hby at_297) rfl ?_
      show Steps p.tables e below (T0.setTop (mkF m 299 #[.val (.int x0), .val (.long x1), .second, .val (.int x2), .val (.int x3), .val (.int x4), .val (.int n), .val (.int nr), .val (.ref br), .val (.int en), .val (.int tg), .val (.ref x), .unset, .unset] [(.int n)])) _
      refine XS.bipush X0.here hx rfl (hb hby at_299) ?_
      show Steps p.tables e below (T0.setTop (mkF m 301 #[.val (.int x0), .val (.long x1), .second, .val (.int x2), .val (.int x3), .val (.int x4), .val (.int n), .val (.int nr), .val (.ref br), .val (.int en), .val (.int tg), .val (.ref x), .unset, .unset] [(.int (6 : Int32)), (.int n)])) _
      exact Steps.refl _
    have pre29 := pre28.trans st29
    have hc301 : ¬ ((6 : Int32) < n) := by
      exact own_mono (by decide) hc215
    have st30 : Steps p.tables e below (T0.setTop (mkF m 301 #[.val (.int x0), .val (.long x1), .second, .val (.int x2), .val (.int x3), .val (.int x4), .val (.int n), .val (.int nr), .val (.ref br), .val (.int en), .val (.int tg), .val (.ref x), .unset, .unset] [(.int (6 : Int32)), (.int n)])) (T0.setTop (mkF m 316 #[.val (.int x0), .val (.long x1), .second, .val (.int x2), .val (.int x3), .val (.int x4), .val (.int n), .val (.int nr), .val (.ref br), .val (.int en), .val (.int tg), .val (.ref x), .unset, .unset] [])) := by
      refine XS.icmpYes X0.here hx rfl (pc0 := 301) (pc' := 316) rfl (hb hby at_301) rfl (flt hc301).2.2.2 (by decide) (by decide) ?_
      exact Steps.refl _
    have pre30 := pre29.trans st30
    have hsz : (1 : Int32) = n := own_sz (by decide) hlo hc215
    have hG := own_g1 hS hsz hE
    obtain ⟨T31, lc31, Ls31, X31, N31, st31⟩ := own_tail X0 n0 Z0 N0 (by decide) (by decide) hx hZ hw hby hml hown e0 B0 B3 B1 B8 B12 hG hsz (fun _ => rfl) (fun _ => rfl) (fun _ => rfl) (fun _ => rfl) (fun _ => rfl) (fun _ => rfl) (fun _ => rfl)
    have pre31 := pre30.trans st31
    exact ⟨T31, _, _, X31.more (by decide) (by decide), N31, pre31⟩
theorem pdc0_0 : parseMethodDescriptor "(III)V" = some ⟨[.int, .int, .int], none⟩ := by decide +kernel
set_option maxRecDepth 65536 in
set_option maxHeartbeats 40000000 in
theorem ch0 {p : Program} {l : Launch} {e : Env} {s : State} {m : MethodId} {args : Array Value} {below : List Frame} {meth : Method} {c : Code} {T0 : State} {locs : List Loc} {Z : State} {a0 : Array Value} {h0 : Heap} {x0 x2 x3 x4 n nr en tg : Int32} {x1 : Int64} {br x ao af ai al : Addr} {ko kf ki kl kb : ClassId} {y0 y1 y2 y3 y4 y5 y6 : Int32}
    (X0 : Stand p l e room_1 s m args below meth c T0 locs 6 20) (n0 : Nat) (Z0 : n0 ≤ h0.size) (N0 : Fr n0 locs) (hx : p.tables.exec = Jvm.exec) (hZ : Z.Warmed39 s.vm) (hw : ∀ d ∈ tables_1, d.before a0 Z = true) (hby : c.code = code) (hml : c.maxLocals = 14) (hown : s.vm.findClass "com/example/portia/portia/index/PostingsAdvancePinLaw" = some m.cls) (e0 : T0.heap = h0) (B0 : Exa Z h0 x "com/example/portia/portia/index/Postings") (B1 : Fld Z h0 x "com/example/portia/portia/index/Postings" "ordinals" "[I" (.ref ao)) (B2 : Fld Z h0 x "com/example/portia/portia/index/Postings" "frequencies" "[I" (.ref af)) (B3 : Fld Z h0 x "com/example/portia/portia/index/Postings" "size" "I" (.int (0 : Int32))) (B4 : Fld Z h0 x "com/example/portia/portia/index/Postings" "documentFrequency" "I" (.int (0 : Int32))) (B5 : Fld Z h0 x "com/example/portia/portia/index/Postings" "impactFrequencies" "[I" (.ref ai)) (B6 : Fld Z h0 x "com/example/portia/portia/index/Postings" "impactLengths" "[I" (.ref al)) (B7 : Fld Z h0 x "com/example/portia/portia/index/Postings" "impactCount" "I" (.int (0 : Int32))) (B8 : Arv Z h0 ao ko .int (2 : Int32) [(.int (0 : Int32)), (.int (0 : Int32))] (.int (0 : Int32))) (B9 : Arv Z h0 af kf .int (2 : Int32) [(.int (0 : Int32)), (.int (0 : Int32))] (.int (0 : Int32))) (B10 : Arv Z h0 ai ki .int (1 : Int32) [(.int (0 : Int32))] (.int (0 : Int32))) (B11 : Arv Z h0 al kl .int (1 : Int32) [(.int (0 : Int32))] (.int (0 : Int32))) (B12 : Arv Z h0 br kb .int (7 : Int32) [(.int y0), (.int y1), (.int y2), (.int y3), (.int y4), (.int y5), (.int y6)] (.int (0 : Int32))) (g_x : n0 ≤ x) (g_ao : n0 ≤ ao) (g_af : n0 ≤ af) (g_ai : n0 ≤ ai) (g_al : n0 ≤ al) (n_x_ao : x ≠ ao) (n_x_af : x ≠ af) (n_x_ai : x ≠ ai) (n_x_al : x ≠ al) (n_ao_af : ao ≠ af) (n_ao_ai : ao ≠ ai) (n_ao_al : ao ≠ al) (n_af_ai : af ≠ ai) (n_af_al : af ≠ al) (n_ai_al : ai ≠ al) (n_br_x : br ≠ x) (n_br_ao : br ≠ ao) (n_br_af : br ≠ af) (n_br_ai : br ≠ ai) (n_br_al : br ≠ al) (hN : 0 ≤ n.toInt ∧ n.toInt ≤ 7) (hE : 0 ≤ en.toInt ∧ en.toInt ≤ n.toInt) (hS : ∀ i j : Nat, i ≤ j → j < 7 → ((own_o y0 y1 y2 y3 y4 y5 y6) i).toInt ≤ ((own_o y0 y1 y2 y3 y4 y5 y6) j).toInt) :
    ∃ (T' : State) (lc : List Loc) (Ls' : Array Slot), Stand p l e room_1 s m args below meth c T' lc 32 192 ∧ Fr n0 lc ∧ Steps p.tables e below (T0.setTop (mkF m 196 #[.val (.int x0), .val (.long x1), .second, .val (.int x2), .val (.int x3), .val (.int x4), .val (.int n), .val (.int nr), .val (.ref br), .val (.int en), .val (.int tg), .val (.ref x), .unset, .unset] [])) (T'.setTop (mkF m 515 Ls' [(.int (1 : Int32))])) := by
  have pre0 : Steps p.tables e below (T0.setTop (mkF m 196 #[.val (.int x0), .val (.long x1), .second, .val (.int x2), .val (.int x3), .val (.int x4), .val (.int n), .val (.int nr), .val (.ref br), .val (.int en), .val (.int tg), .val (.ref x), .unset, .unset] [])) (T0.setTop (mkF m 196 #[.val (.int x0), .val (.long x1), .second, .val (.int x2), .val (.int x3), .val (.int x4), .val (.int n), .val (.int nr), .val (.ref br), .val (.int en), .val (.int tg), .val (.ref x), .unset, .unset] [])) := Steps.refl _
  have st1 : Steps p.tables e below (T0.setTop (mkF m 196 #[.val (.int x0), .val (.long x1), .second, .val (.int x2), .val (.int x3), .val (.int x4), .val (.int n), .val (.int nr), .val (.ref br), .val (.int en), .val (.int tg), .val (.ref x), .unset, .unset] [])) (T0.setTop (mkF m 198 #[.val (.int x0), .val (.long x1), .second, .val (.int x2), .val (.int x3), .val (.int x4), .val (.int n), .val (.int nr), .val (.ref br), .val (.int en), .val (.int tg), .val (.ref x), .unset, .unset] [(.int n)])) := by
    refine XS.iload X0.here hx rfl (hb hby at_196) rfl ?_
    show Steps p.tables e below (T0.setTop (mkF m 198 #[.val (.int x0), .val (.long x1), .second, .val (.int x2), .val (.int x3), .val (.int x4), .val (.int n), .val (.int nr), .val (.ref br), .val (.int en), .val (.int tg), .val (.ref x), .unset, .unset] [(.int n)])) _
    exact Steps.refl _
  have pre1 := pre0.trans st1
  by_cases hc198 : (0 : Int32) < n
  · have st2 : Steps p.tables e below (T0.setTop (mkF m 198 #[.val (.int x0), .val (.long x1), .second, .val (.int x2), .val (.int x3), .val (.int x4), .val (.int n), .val (.int nr), .val (.ref br), .val (.int en), .val (.int tg), .val (.ref x), .unset, .unset] [(.int n)])) (T0.setTop (mkF m 201 #[.val (.int x0), .val (.long x1), .second, .val (.int x2), .val (.int x3), .val (.int x4), .val (.int n), .val (.int nr), .val (.ref br), .val (.int en), .val (.int tg), .val (.ref x), .unset, .unset] [])) := by
      refine XS.ifNo X0.here hx rfl (hb hby at_198) rfl ((if0 _ _).trans (tlt hc198).2.2.2) ?_
      exact Steps.refl _
    have pre2 := pre1.trans st2
    obtain ⟨cl3, Ar3, q3, S3, G3, H3, J3⟩ := id B12
    have in3_0 : ¬ ((0 : Int32) < 0 ∨ cl3.slots.size ≤ ((0 : Int32)).toNatClampNeg) := inb_of S3 ⟨by decide, by decide⟩
    have at3_0 : cl3.slots[((0 : Int32)).toNatClampNeg]? = some (.int y0) := Has.at H3 in3_0 rfl
    have st4 : Steps p.tables e below (T0.setTop (mkF m 201 #[.val (.int x0), .val (.long x1), .second, .val (.int x2), .val (.int x3), .val (.int x4), .val (.int n), .val (.int nr), .val (.ref br), .val (.int en), .val (.int tg), .val (.ref x), .unset, .unset] [])) (T0.setTop (mkF m 209 #[.val (.int x0), .val (.long x1), .second, .val (.int x2), .val (.int x3), .val (.int x4), .val (.int n), .val (.int nr), .val (.ref br), .val (.int en), .val (.int tg), .val (.ref x), .unset, .unset] [(.int (1 : Int32)), (.int (1 : Int32)), (.int y0), (.ref x)])) := by
      refine XS.aload X0.here hx rfl (hb hby at_201) rfl rfl ?_
      show Steps p.tables e below (T0.setTop (mkF m 203 #[.val (.int x0), .val (.long x1), .second, .val (.int x2), .val (.int x3), .val (.int x4), .val (.int n), .val (.int nr), .val (.ref br), .val (.int en), .val (.int tg), .val (.ref x), .unset, .unset] [(.ref x)])) _
      refine XS.aload X0.here hx rfl (hb hby at_203) rfl rfl ?_
      show Steps p.tables e below (T0.setTop (mkF m 205 #[.val (.int x0), .val (.long x1), .second, .val (.int x2), .val (.int x3), .val (.int x4), .val (.int n), .val (.int nr), .val (.ref br), .val (.int en), .val (.int tg), .val (.ref x), .unset, .unset] [(.ref br), (.ref x)])) _
      refine XS.iconst X0.here hx rfl (hb hby at_205) ?_
      show Steps p.tables e below (T0.setTop (mkF m 206 #[.val (.int x0), .val (.long x1), .second, .val (.int x2), .val (.int x3), .val (.int x4), .val (.int n), .val (.int nr), .val (.ref br), .val (.int en), .val (.int tg), .val (.ref x), .unset, .unset] [(.int (0 : Int32)), (.ref br), (.ref x)])) _
      refine X0.iaload hx (j := (0 : Int32)) (v := (.int y0)) (by rw [e0]; exact Ar3.1) (State.isArrayOf_alike hZ.alike Ar3.2.1) Ar3.2.2 in3_0 at3_0 (g := (mkF m 206 #[.val (.int x0), .val (.long x1), .second, .val (.int x2), .val (.int x3), .val (.int x4), .val (.int n), .val (.int nr), .val (.ref br), .val (.int en), .val (.int tg), .val (.ref x), .unset, .unset] [(.int (0 : Int32)), (.ref br), (.ref x)])) rfl rfl (hb hby at_206) _ ?_
      show Steps p.tables e below (T0.setTop (mkF m 207 #[.val (.int x0), .val (.long x1), .second, .val (.int x2), .val (.int x3), .val (.int x4), .val (.int n), .val (.int nr), .val (.ref br), .val (.int en), .val (.int tg), .val (.ref x), .unset, .unset] [(.int y0), (.ref x)])) _
      refine XS.iconst X0.here hx rfl (hb hby at_207) ?_
      show Steps p.tables e below (T0.setTop (mkF m 208 #[.val (.int x0), .val (.long x1), .second, .val (.int x2), .val (.int x3), .val (.int x4), .val (.int n), .val (.int nr), .val (.ref br), .val (.int en), .val (.int tg), .val (.ref x), .unset, .unset] [(.int (1 : Int32)), (.int y0), (.ref x)])) _
      refine XS.iconst X0.here hx rfl (hb hby at_208) ?_
      show Steps p.tables e below (T0.setTop (mkF m 209 #[.val (.int x0), .val (.long x1), .second, .val (.int x2), .val (.int x3), .val (.int x4), .val (.int n), .val (.int nr), .val (.ref br), .val (.int en), .val (.int tg), .val (.ref x), .unset, .unset] [(.int (1 : Int32)), (.int (1 : Int32)), (.int y0), (.ref x)])) _
      exact Steps.refl _
    have pre4 := pre2.trans st4
    obtain ⟨cq5, kq5, q5a, q5b, q5c⟩ := isOf hZ e0 B0
    obtain ⟨_, _, ⟨T5, L5, k5, n5⟩, -, X5, ⟨Lc5, hQ5, l5, y5, z5⟩, st5⟩ := X0.virtualBack hx (y := (⟨"com/example/portia/portia/index/Postings", "add", "(III)V"⟩ : MethodName)) (z := (⟨"com/example/portia/portia/index/Postings", "add", "(III)V"⟩ : MethodName)) hown (mvT hZ (hw _ (List.mem_of_getElem? (i := 28) rfl))) (mvT hZ (hw _ (List.mem_of_getElem? (i := 29) rfl))) (notFace_of_selects (args := #[]) (mvT hZ (hw _ (List.mem_of_getElem? (i := 31) rfl)))) (mvT hZ (hw _ (List.mem_of_getElem? (i := 31) rfl))) (mvT hZ (hw _ (List.mem_of_getElem? (i := 30) rfl))) (by decide) (backOf (W := 0) (rm10 l Z a0 hw [] x y0 ao ko af kf ai ki al kl h0 n0 Z0 B0 B1 B2 B3 B4 B5 B6 B7 B8 B9 B10 B11 g_x g_ao g_af g_ai g_al n_x_ao n_x_af n_x_ai n_x_al n_ao_af n_ao_ai n_ao_al n_af_ai n_af_al n_ai_al) hZ (hw _ (List.mem_of_getElem? (i := 32) rfl)) (hw _ (List.mem_of_getElem? (i := 6) rfl)) (by decide) (by decide)) q5a q5c (g := (mkF m 209 #[.val (.int x0), .val (.long x1), .second, .val (.int x2), .val (.int x3), .val (.int x4), .val (.int n), .val (.int nr), .val (.ref br), .val (.int en), .val (.int tg), .val (.ref x), .unset, .unset] [(.int (1 : Int32)), (.int (1 : Int32)), (.int y0), (.ref x)])) rfl (by rw [hml]; rfl) (Steps.refl _) (argsL := [(.int y0), (.int (1 : Int32)), (.int (1 : Int32))]) (rest := []) (lenOf pdc0_0 rfl) rfl (by show 2 * 0 + _ ≤ _; exact Nat.le_of_eq rfl) (hb hby at_209) (fun _ _ => ⟨rfl, e0, (by decide : 6 + 0 ≤ _), (by decide : 20 + 0 ≤ _)⟩)
    dsimp only [Pt.U, Pt.locs, Pt.cells, Pt.slots] at X5 l5 y5 z5 st5 hQ5
    subst l5 y5 z5
    obtain ⟨rfl, Nq5, Kq5, P5_0, P5_1, P5_2, P5_3, P5_4, P5_5, P5_6, P5_7, P5_8, P5_9, P5_10, P5_11⟩ := hQ5
    have F6 : Exa Z T5.heap x "com/example/portia/portia/index/Postings" := B0.keep Kq5
    have F18 : Arv Z T5.heap br kb .int (7 : Int32) [(.int y0), (.int y1), (.int y2), (.int y3), (.int y4), (.int y5), (.int y6)] (.int (0 : Int32)) := B12.keep Kq5 (ninS n_br_x (ninS n_br_ao (ninS n_br_af (ninS n_br_ai (ninS n_br_al nin0)))))
    have Z5 : n0 ≤ T5.heap.size := Nat.le_trans Z0 Kq5.1
    have N5 := Fr.app N0 Nq5
    have pre5 : Steps p.tables e below (T0.setTop (mkF m 196 #[.val (.int x0), .val (.long x1), .second, .val (.int x2), .val (.int x3), .val (.int x4), .val (.int n), .val (.int nr), .val (.ref br), .val (.int en), .val (.int tg), .val (.ref x), .unset, .unset] [])) (T5.setTop (mkF m 212 #[.val (.int x0), .val (.long x1), .second, .val (.int x2), .val (.int x3), .val (.int x4), .val (.int n), .val (.int nr), .val (.ref br), .val (.int en), .val (.int tg), .val (.ref x), .unset, .unset] [])) := pre4.trans st5
    obtain ⟨T19, lc19, Ls19, X19, N19, st19⟩ := ch1 X5 n0 Z5 N5 hx hZ hw hby hml hown rfl F6 P5_1 P5_2 P5_3 P5_4 P5_5 P5_6 P5_7 P5_8 P5_9 P5_10 P5_11 F18 g_x g_ao g_af g_ai g_al n_x_ao n_x_af n_x_ai n_x_al n_ao_af n_ao_ai n_ao_al n_af_ai n_af_al n_ai_al n_br_x n_br_ao n_br_af n_br_ai n_br_al hN hE hS hc198
    have pre19 := pre5.trans st19
    exact ⟨T19, _, _, X19.more (by decide) (by decide), N19, pre19⟩
  · have st20 : Steps p.tables e below (T0.setTop (mkF m 198 #[.val (.int x0), .val (.long x1), .second, .val (.int x2), .val (.int x3), .val (.int x4), .val (.int n), .val (.int nr), .val (.ref br), .val (.int en), .val (.int tg), .val (.ref x), .unset, .unset] [(.int n)])) (T0.setTop (mkF m 212 #[.val (.int x0), .val (.long x1), .second, .val (.int x2), .val (.int x3), .val (.int x4), .val (.int n), .val (.int nr), .val (.ref br), .val (.int en), .val (.int tg), .val (.ref x), .unset, .unset] [])) := by
      refine XS.ifYes X0.here hx rfl (pc0 := 198) (pc' := 212) rfl (hb hby at_198) rfl ((if0 _ _).trans (flt hc198).2.2.2) (by decide) (by decide) ?_
      exact Steps.refl _
    have pre20 := pre1.trans st20
    have st21 : Steps p.tables e below (T0.setTop (mkF m 212 #[.val (.int x0), .val (.long x1), .second, .val (.int x2), .val (.int x3), .val (.int x4), .val (.int n), .val (.int nr), .val (.ref br), .val (.int en), .val (.int tg), .val (.ref x), .unset, .unset] [])) (T0.setTop (mkF m 215 #[.val (.int x0), .val (.long x1), .second, .val (.int x2), .val (.int x3), .val (.int x4), .val (.int n), .val (.int nr), .val (.ref br), .val (.int en), .val (.int tg), .val (.ref x), .unset, .unset] [(.int (1 : Int32)), (.int n)])) := by
      refine XS.iload X0.here hx rfl (hb hby at_212) rfl ?_
      show Steps p.tables e below (T0.setTop (mkF m 214 #[.val (.int x0), .val (.long x1), .second, .val (.int x2), .val (.int x3), .val (.int x4), .val (.int n), .val (.int nr), .val (.ref br), .val (.int en), .val (.int tg), .val (.ref x), .unset, .unset] [(.int n)])) _
      refine XS.iconst X0.here hx rfl (hb hby at_214) ?_
      show Steps p.tables e below (T0.setTop (mkF m 215 #[.val (.int x0), .val (.long x1), .second, .val (.int x2), .val (.int x3), .val (.int x4), .val (.int n), .val (.int nr), .val (.ref br), .val (.int en), .val (.int tg), .val (.ref x), .unset, .unset] [(.int (1 : Int32)), (.int n)])) _
      exact Steps.refl _
    have pre21 := pre20.trans st21
    have hc215 : ¬ ((1 : Int32) < n) := by
      exact own_mono (by decide) hc198
    have st22 : Steps p.tables e below (T0.setTop (mkF m 215 #[.val (.int x0), .val (.long x1), .second, .val (.int x2), .val (.int x3), .val (.int x4), .val (.int n), .val (.int nr), .val (.ref br), .val (.int en), .val (.int tg), .val (.ref x), .unset, .unset] [(.int (1 : Int32)), (.int n)])) (T0.setTop (mkF m 229 #[.val (.int x0), .val (.long x1), .second, .val (.int x2), .val (.int x3), .val (.int x4), .val (.int n), .val (.int nr), .val (.ref br), .val (.int en), .val (.int tg), .val (.ref x), .unset, .unset] [])) := by
      refine XS.icmpYes X0.here hx rfl (pc0 := 215) (pc' := 229) rfl (hb hby at_215) rfl (flt hc215).2.2.2 (by decide) (by decide) ?_
      exact Steps.refl _
    have pre22 := pre21.trans st22
    have st23 : Steps p.tables e below (T0.setTop (mkF m 229 #[.val (.int x0), .val (.long x1), .second, .val (.int x2), .val (.int x3), .val (.int x4), .val (.int n), .val (.int nr), .val (.ref br), .val (.int en), .val (.int tg), .val (.ref x), .unset, .unset] [])) (T0.setTop (mkF m 232 #[.val (.int x0), .val (.long x1), .second, .val (.int x2), .val (.int x3), .val (.int x4), .val (.int n), .val (.int nr), .val (.ref br), .val (.int en), .val (.int tg), .val (.ref x), .unset, .unset] [(.int (2 : Int32)), (.int n)])) := by
      refine XS.iload X0.here hx rfl (hb hby at_229) rfl ?_
      show Steps p.tables e below (T0.setTop (mkF m 231 #[.val (.int x0), .val (.long x1), .second, .val (.int x2), .val (.int x3), .val (.int x4), .val (.int n), .val (.int nr), .val (.ref br), .val (.int en), .val (.int tg), .val (.ref x), .unset, .unset] [(.int n)])) _
      refine XS.iconst X0.here hx rfl (hb hby at_231) ?_
      show Steps p.tables e below (T0.setTop (mkF m 232 #[.val (.int x0), .val (.long x1), .second, .val (.int x2), .val (.int x3), .val (.int x4), .val (.int n), .val (.int nr), .val (.ref br), .val (.int en), .val (.int tg), .val (.ref x), .unset, .unset] [(.int (2 : Int32)), (.int n)])) _
      exact Steps.refl _
    have pre23 := pre22.trans st23
    have hc232 : ¬ ((2 : Int32) < n) := by
      exact own_mono (by decide) hc198
    have st24 : Steps p.tables e below (T0.setTop (mkF m 232 #[.val (.int x0), .val (.long x1), .second, .val (.int x2), .val (.int x3), .val (.int x4), .val (.int n), .val (.int nr), .val (.ref br), .val (.int en), .val (.int tg), .val (.ref x), .unset, .unset] [(.int (2 : Int32)), (.int n)])) (T0.setTop (mkF m 246 #[.val (.int x0), .val (.long x1), .second, .val (.int x2), .val (.int x3), .val (.int x4), .val (.int n), .val (.int nr), .val (.ref br), .val (.int en), .val (.int tg), .val (.ref x), .unset, .unset] [])) := by
      refine XS.icmpYes X0.here hx rfl (pc0 := 232) (pc' := 246) rfl (hb hby at_232) rfl (flt hc232).2.2.2 (by decide) (by decide) ?_
      exact Steps.refl _
    have pre24 := pre23.trans st24
    have st25 : Steps p.tables e below (T0.setTop (mkF m 246 #[.val (.int x0), .val (.long x1), .second, .val (.int x2), .val (.int x3), .val (.int x4), .val (.int n), .val (.int nr), .val (.ref br), .val (.int en), .val (.int tg), .val (.ref x), .unset, .unset] [])) (T0.setTop (mkF m 249 #[.val (.int x0), .val (.long x1), .second, .val (.int x2), .val (.int x3), .val (.int x4), .val (.int n), .val (.int nr), .val (.ref br), .val (.int en), .val (.int tg), .val (.ref x), .unset, .unset] [(.int (3 : Int32)), (.int n)])) := by
      refine XS.iload X0.here hx rfl (hb hby at_246) rfl ?_
      show Steps p.tables e below (T0.setTop (mkF m 248 #[.val (.int x0), .val (.long x1), .second, .val (.int x2), .val (.int x3), .val (.int x4), .val (.int n), .val (.int nr), .val (.ref br), .val (.int en), .val (.int tg), .val (.ref x), .unset, .unset] [(.int n)])) _
      refine XS.iconst X0.here hx rfl (hb hby at_248) ?_
      show Steps p.tables e below (T0.setTop (mkF m 249 #[.val (.int x0), .val (.long x1), .second, .val (.int x2), .val (.int x3), .val (.int x4), .val (.int n), .val (.int nr), .val (.ref br), .val (.int en), .val (.int tg), .val (.ref x), .unset, .unset] [(.int (3 : Int32)), (.int n)])) _
      exact Steps.refl _
    have pre25 := pre24.trans st25
    have hc249 : ¬ ((3 : Int32) < n) := by
      exact own_mono (by decide) hc198
    have st26 : Steps p.tables e below (T0.setTop (mkF m 249 #[.val (.int x0), .val (.long x1), .second, .val (.int x2), .val (.int x3), .val (.int x4), .val (.int n), .val (.int nr), .val (.ref br), .val (.int en), .val (.int tg), .val (.ref x), .unset, .unset] [(.int (3 : Int32)), (.int n)])) (T0.setTop (mkF m 263 #[.val (.int x0), .val (.long x1), .second, .val (.int x2), .val (.int x3), .val (.int x4), .val (.int n), .val (.int nr), .val (.ref br), .val (.int en), .val (.int tg), .val (.ref x), .unset, .unset] [])) := by
      refine XS.icmpYes X0.here hx rfl (pc0 := 249) (pc' := 263) rfl (hb hby at_249) rfl (flt hc249).2.2.2 (by decide) (by decide) ?_
      exact Steps.refl _
    have pre26 := pre25.trans st26
    have st27 : Steps p.tables e below (T0.setTop (mkF m 263 #[.val (.int x0), .val (.long x1), .second, .val (.int x2), .val (.int x3), .val (.int x4), .val (.int n), .val (.int nr), .val (.ref br), .val (.int en), .val (.int tg), .val (.ref x), .unset, .unset] [])) (T0.setTop (mkF m 266 #[.val (.int x0), .val (.long x1), .second, .val (.int x2), .val (.int x3), .val (.int x4), .val (.int n), .val (.int nr), .val (.ref br), .val (.int en), .val (.int tg), .val (.ref x), .unset, .unset] [(.int (4 : Int32)), (.int n)])) := by
      refine XS.iload X0.here hx rfl (hb hby at_263) rfl ?_
      show Steps p.tables e below (T0.setTop (mkF m 265 #[.val (.int x0), .val (.long x1), .second, .val (.int x2), .val (.int x3), .val (.int x4), .val (.int n), .val (.int nr), .val (.ref br), .val (.int en), .val (.int tg), .val (.ref x), .unset, .unset] [(.int n)])) _
      refine XS.iconst X0.here hx rfl (hb hby at_265) ?_
      show Steps p.tables e below (T0.setTop (mkF m 266 #[.val (.int x0), .val (.long x1), .second, .val (.int x2), .val (.int x3), .val (.int x4), .val (.int n), .val (.int nr), .val (.ref br), .val (.int en), .val (.int tg), .val (.ref x), .unset, .unset] [(.int (4 : Int32)), (.int n)])) _
      exact Steps.refl _
    have pre27 := pre26.trans st27
    have hc266 : ¬ ((4 : Int32) < n) := by
      exact own_mono (by decide) hc198
    have st28 : Steps p.tables e below (T0.setTop (mkF m 266 #[.val (.int x0), .val (.long x1), .second, .val (.int x2), .val (.int x3), .val (.int x4), .val (.int n), .val (.int nr), .val (.ref br), .val (.int en), .val (.int tg), .val (.ref x), .unset, .unset] [(.int (4 : Int32)), (.int n)])) (T0.setTop (mkF m 280 #[.val (.int x0), .val (.long x1), .second, .val (.int x2), .val (.int x3), .val (.int x4), .val (.int n), .val (.int nr), .val (.ref br), .val (.int en), .val (.int tg), .val (.ref x), .unset, .unset] [])) := by
      refine XS.icmpYes X0.here hx rfl (pc0 := 266) (pc' := 280) rfl (hb hby at_266) rfl (flt hc266).2.2.2 (by decide) (by decide) ?_
      exact Steps.refl _
    have pre28 := pre27.trans st28
    have st29 : Steps p.tables e below (T0.setTop (mkF m 280 #[.val (.int x0), .val (.long x1), .second, .val (.int x2), .val (.int x3), .val (.int x4), .val (.int n), .val (.int nr), .val (.ref br), .val (.int en), .val (.int tg), .val (.ref x), .unset, .unset] [])) (T0.setTop (mkF m 283 #[.val (.int x0), .val (.long x1), .second, .val (.int x2), .val (.int x3), .val (.int x4), .val (.int n), .val (.int nr), .val (.ref br), .val (.int en), .val (.int tg), .val (.ref x), .unset, .unset] [(.int (5 : Int32)), (.int n)])) := by
      refine XS.iload X0.here hx rfl (hb hby at_280) rfl ?_
      show Steps p.tables e below (T0.setTop (mkF m 282 #[.val (.int x0), .val (.long x1), .second, .val (.int x2), .val (.int x3), .val (.int x4), .val (.int n), .val (.int nr), .val (.ref br), .val (.int en), .val (.int tg), .val (.ref x), .unset, .unset] [(.int n)])) _
      refine XS.iconst X0.here hx rfl (hb hby at_282) ?_
      show Steps p.tables e below (T0.setTop (mkF m 283 #[.val (.int x0), .val (.long x1), .second, .val (.int x2), .val (.int x3), .val (.int x4), .val (.int n), .val (.int nr), .val (.ref br), .val (.int en), .val (.int tg), .val (.ref x), .unset, .unset] [(.int (5 : Int32)), (.int n)])) _
      exact Steps.refl _
    have pre29 := pre28.trans st29
    have hc283 : ¬ ((5 : Int32) < n) := by
      exact own_mono (by decide) hc198
    have st30 : Steps p.tables e below (T0.setTop (mkF m 283 #[.val (.int x0), .val (.long x1), .second, .val (.int x2), .val (.int x3), .val (.int x4), .val (.int n), .val (.int nr), .val (.ref br), .val (.int en), .val (.int tg), .val (.ref x), .unset, .unset] [(.int (5 : Int32)), (.int n)])) (T0.setTop (mkF m 297 #[.val (.int x0), .val (.long x1), .second, .val (.int x2), .val (.int x3), .val (.int x4), .val (.int n), .val (.int nr), .val (.ref br), .val (.int en), .val (.int tg), .val (.ref x), .unset, .unset] [])) := by
      refine XS.icmpYes X0.here hx rfl (pc0 := 283) (pc' := 297) rfl (hb hby at_283) rfl (flt hc283).2.2.2 (by decide) (by decide) ?_
      exact Steps.refl _
    have pre30 := pre29.trans st30
    have st31 : Steps p.tables e below (T0.setTop (mkF m 297 #[.val (.int x0), .val (.long x1), .second, .val (.int x2), .val (.int x3), .val (.int x4), .val (.int n), .val (.int nr), .val (.ref br), .val (.int en), .val (.int tg), .val (.ref x), .unset, .unset] [])) (T0.setTop (mkF m 301 #[.val (.int x0), .val (.long x1), .second, .val (.int x2), .val (.int x3), .val (.int x4), .val (.int n), .val (.int nr), .val (.ref br), .val (.int en), .val (.int tg), .val (.ref x), .unset, .unset] [(.int (6 : Int32)), (.int n)])) := by
      refine XS.iload X0.here hx rfl (hb hby at_297) rfl ?_
      show Steps p.tables e below (T0.setTop (mkF m 299 #[.val (.int x0), .val (.long x1), .second, .val (.int x2), .val (.int x3), .val (.int x4), .val (.int n), .val (.int nr), .val (.ref br), .val (.int en), .val (.int tg), .val (.ref x), .unset, .unset] [(.int n)])) _
      refine XS.bipush X0.here hx rfl (hb hby at_299) ?_
      show Steps p.tables e below (T0.setTop (mkF m 301 #[.val (.int x0), .val (.long x1), .second, .val (.int x2), .val (.int x3), .val (.int x4), .val (.int n), .val (.int nr), .val (.ref br), .val (.int en), .val (.int tg), .val (.ref x), .unset, .unset] [(.int (6 : Int32)), (.int n)])) _
      exact Steps.refl _
    have pre31 := pre30.trans st31
    have hc301 : ¬ ((6 : Int32) < n) := by
      exact own_mono (by decide) hc198
    have st32 : Steps p.tables e below (T0.setTop (mkF m 301 #[.val (.int x0), .val (.long x1), .second, .val (.int x2), .val (.int x3), .val (.int x4), .val (.int n), .val (.int nr), .val (.ref br), .val (.int en), .val (.int tg), .val (.ref x), .unset, .unset] [(.int (6 : Int32)), (.int n)])) (T0.setTop (mkF m 316 #[.val (.int x0), .val (.long x1), .second, .val (.int x2), .val (.int x3), .val (.int x4), .val (.int n), .val (.int nr), .val (.ref br), .val (.int en), .val (.int tg), .val (.ref x), .unset, .unset] [])) := by
      refine XS.icmpYes X0.here hx rfl (pc0 := 301) (pc' := 316) rfl (hb hby at_301) rfl (flt hc301).2.2.2 (by decide) (by decide) ?_
      exact Steps.refl _
    have pre32 := pre31.trans st32
    have hsz : (0 : Int32) = n := own_sz0 hN hc198
    have hG := own_g0 hS hsz hE
    obtain ⟨T33, lc33, Ls33, X33, N33, st33⟩ := own_tail X0 n0 Z0 N0 (by decide) (by decide) hx hZ hw hby hml hown e0 B0 B3 B1 B8 B12 hG hsz (fun _ => rfl) (fun _ => rfl) (fun _ => rfl) (fun _ => rfl) (fun _ => rfl) (fun _ => rfl) (fun _ => rfl)
    have pre33 := pre32.trans st33
    exact ⟨T33, _, _, X33.more (by decide) (by decide), N33, pre33⟩
theorem pn0 : plainName "com/example/portia/portia/index/PostingsAdvancePinLaw" = true := by first | (simp [plainName, overriddenIn]; done) | decide +kernel
theorem pd0_0 : parseMethodDescriptor "()V" = some ⟨[], none⟩ := by decide +kernel
theorem ef0 (m : MethodId) (x0 : Int32) (x1 : Int64) (x2 : Int32) (x3 : Int32) (x4 : Int32) : entryFrame m #[(.int x0), (.long x1), (.int x2), (.int x3), (.int x4)] maxLocals = mkF m 0 #[.val (.int x0), .val (.long x1), .second, .val (.int x2), .val (.int x3), .val (.int x4), .unset, .unset, .unset, .unset, .unset, .unset, .unset, .unset] [] := by first | (simp [entryFrame, mkF, argsToLocals, Value.category, maxLocals]; done) | rfl
def Q0 (Z : State) (x0 : Int32) (x1 : Int64) (x2 : Int32) (x3 : Int32) (x4 : Int32) (h0 : Heap) (n0 : Nat) (v : Option Value) (h : Heap) (L : List Loc) : Prop := v = some (.int 1) ∧ Fr n0 L
set_option maxRecDepth 65536 in
set_option maxHeartbeats 40000000 in
theorem rm0 (l : Launch) (Z : State) (a0 : Array Value) (hw : ∀ d ∈ tables_1, d.before a0 Z = true) (ws : List Jvm.Cond) (x0 : Int32) (x1 : Int64) (x2 : Int32) (x3 : Int32) (x4 : Int32) (h0 : Heap) (n0 : Nat) (Z0 : n0 ≤ h0.size) :
    MetFree l x (head1 (Jvm.Cond.code x code maxLocals ret :: ws) room_1) (fun a U => a = #[(.int x0), (.long x1), (.int x2), (.int x3), (.int x4)] ∧ Z.Warmed39 U.vm ∧ U.heap = h0) (fun _ _ _ _ _ => True) (fun _ U o U' => ∃ v L, o = .returned v ∧ Q0 Z x0 x1 x2 x3 x4 h0 n0 v U'.heap L ∧ FrameEnd U o U' L room_1.cells room_1.slots) := by
  refine MetFree.of_bodySF (plainFor_of_name pn0) hisR ?_
  intro p e s m args below meth c s₁ Bd hml0 hP hK
  obtain ⟨rfl, hZ, hh⟩ := hP
  have hx := Bd.exec
  have hby := Bd.bytes
  have hml : c.maxLocals = 14 := hml0
  have hown : s.vm.findClass "com/example/portia/portia/index/PostingsAdvancePinLaw" = some m.cls := findClass_of_methodNamed Bd.named
  have hnm := (name_of_methodNamed Bd.named Bd.method).1
  have X0 : Stand p l e room_1 s m #[(.int x0), (.long x1), (.int x2), (.int x3), (.int x4)] below meth c s₁ [] 0 0 := Stand.of_body Bd
  have e0 : s₁.heap = h0 := by rw [← hh, Bd.state]; rfl
  have N0 := Fr.nil n0
  have pre0 : Steps p.tables e below (s₁.setTop (entryFrame m #[(.int x0), (.long x1), (.int x2), (.int x3), (.int x4)] maxLocals)) (s₁.setTop (mkF m 0 #[.val (.int x0), .val (.long x1), .second, .val (.int x2), .val (.int x3), .val (.int x4), .unset, .unset, .unset, .unset, .unset, .unset, .unset, .unset] [])) := castTop (ef0 m x0 x1 x2 x3 x4) (Steps.refl _)
  have K0 := Keep.refl h0 []
  obtain ⟨v1, hv1⟩ : ∃ z : Int32, z = (x0 &&& (7 : Int32)) := ⟨_, rfl⟩
  obtain ⟨v2, hv2⟩ : ∃ z : Int32, z = (if (x0 &&& (8 : Int32)) = (0 : Int32) then (0 : Int32) else (1 : Int32)) := ⟨_, rfl⟩
  have st3 : Steps p.tables e below (s₁.setTop (mkF m 0 #[.val (.int x0), .val (.long x1), .second, .val (.int x2), .val (.int x3), .val (.int x4), .unset, .unset, .unset, .unset, .unset, .unset, .unset, .unset] [])) (s₁.setTop (mkF m 22 #[.val (.int x0), .val (.long x1), .second, .val (.int x2), .val (.int x3), .val (.int x4), .val (.int v1), .val (.int v2), .unset, .unset, .unset, .unset, .unset, .unset] [(.int (7 : Int32))])) := by
    subst v2 v1
    refine XS.iloadN X0.here hx rfl (hb hby at_0) rfl ?_
    show Steps p.tables e below (s₁.setTop (mkF m 1 #[.val (.int x0), .val (.long x1), .second, .val (.int x2), .val (.int x3), .val (.int x4), .unset, .unset, .unset, .unset, .unset, .unset, .unset, .unset] [(.int x0)])) _
    refine XS.bipush X0.here hx rfl (hb hby at_1) ?_
    show Steps p.tables e below (s₁.setTop (mkF m 3 #[.val (.int x0), .val (.long x1), .second, .val (.int x2), .val (.int x3), .val (.int x4), .unset, .unset, .unset, .unset, .unset, .unset, .unset, .unset] [(.int (7 : Int32)), (.int x0)])) _
    refine XS.iand X0.here hx rfl (hb hby at_3) rfl ?_
    show Steps p.tables e below (s₁.setTop (mkF m 4 #[.val (.int x0), .val (.long x1), .second, .val (.int x2), .val (.int x3), .val (.int x4), .unset, .unset, .unset, .unset, .unset, .unset, .unset, .unset] [(.int (x0 &&& (7 : Int32)))])) _
    refine XS.istore X0.here hx rfl (hb hby at_4) rfl (l' := #[.val (.int x0), .val (.long x1), .second, .val (.int x2), .val (.int x3), .val (.int x4), .val (.int (x0 &&& (7 : Int32))), .unset, .unset, .unset, .unset, .unset, .unset, .unset]) rfl ?_
    show Steps p.tables e below (s₁.setTop (mkF m 6 #[.val (.int x0), .val (.long x1), .second, .val (.int x2), .val (.int x3), .val (.int x4), .val (.int (x0 &&& (7 : Int32))), .unset, .unset, .unset, .unset, .unset, .unset, .unset] [])) _
    refine XS.iloadN X0.here hx rfl (hb hby at_6) rfl ?_
    show Steps p.tables e below (s₁.setTop (mkF m 7 #[.val (.int x0), .val (.long x1), .second, .val (.int x2), .val (.int x3), .val (.int x4), .val (.int (x0 &&& (7 : Int32))), .unset, .unset, .unset, .unset, .unset, .unset, .unset] [(.int x0)])) _
    refine XS.bipush X0.here hx rfl (hb hby at_7) ?_
    show Steps p.tables e below (s₁.setTop (mkF m 9 #[.val (.int x0), .val (.long x1), .second, .val (.int x2), .val (.int x3), .val (.int x4), .val (.int (x0 &&& (7 : Int32))), .unset, .unset, .unset, .unset, .unset, .unset, .unset] [(.int (8 : Int32)), (.int x0)])) _
    refine XS.iand X0.here hx rfl (hb hby at_9) rfl ?_
    show Steps p.tables e below (s₁.setTop (mkF m 10 #[.val (.int x0), .val (.long x1), .second, .val (.int x2), .val (.int x3), .val (.int x4), .val (.int (x0 &&& (7 : Int32))), .unset, .unset, .unset, .unset, .unset, .unset, .unset] [(.int (x0 &&& (8 : Int32)))])) _
    refine Steps.trans (s₂ := s₁.setTop (mkF m 18 #[.val (.int x0), .val (.long x1), .second, .val (.int x2), .val (.int x3), .val (.int x4), .val (.int (x0 &&& (7 : Int32))), .unset, .unset, .unset, .unset, .unset, .unset, .unset] [(.int (if (x0 &&& (8 : Int32)) = (0 : Int32) then (0 : Int32) else (1 : Int32)))])) ?_ ?_
    · by_cases hc10 : (x0 &&& (8 : Int32)) = (0 : Int32)
      · refine XS.ifYes X0.here hx rfl (pc0 := 10) (pc' := 17) rfl (hb hby at_10) rfl ((if0 _ _).trans (teq hc10).1) (by decide) (by decide) ?_
        show Steps p.tables e below (s₁.setTop (mkF m 17 #[.val (.int x0), .val (.long x1), .second, .val (.int x2), .val (.int x3), .val (.int x4), .val (.int (x0 &&& (7 : Int32))), .unset, .unset, .unset, .unset, .unset, .unset, .unset] [])) _
        refine XS.iconst X0.here hx rfl (hb hby at_17) ?_
        show Steps p.tables e below (s₁.setTop (mkF m 18 #[.val (.int x0), .val (.long x1), .second, .val (.int x2), .val (.int x3), .val (.int x4), .val (.int (x0 &&& (7 : Int32))), .unset, .unset, .unset, .unset, .unset, .unset, .unset] [(.int (0 : Int32))])) _
        try simp only [if_pos hc10]
        exact Steps.refl _
      · refine XS.ifNo X0.here hx rfl (hb hby at_10) rfl ((if0 _ _).trans (feq hc10).1) ?_
        show Steps p.tables e below (s₁.setTop (mkF m 13 #[.val (.int x0), .val (.long x1), .second, .val (.int x2), .val (.int x3), .val (.int x4), .val (.int (x0 &&& (7 : Int32))), .unset, .unset, .unset, .unset, .unset, .unset, .unset] [])) _
        refine XS.iconst X0.here hx rfl (hb hby at_13) ?_
        show Steps p.tables e below (s₁.setTop (mkF m 14 #[.val (.int x0), .val (.long x1), .second, .val (.int x2), .val (.int x3), .val (.int x4), .val (.int (x0 &&& (7 : Int32))), .unset, .unset, .unset, .unset, .unset, .unset, .unset] [(.int (1 : Int32))])) _
        refine XS.goto X0.here hx rfl (pc0 := 14) (pc' := 18) rfl (hb hby at_14) (by decide) (by decide) ?_
        show Steps p.tables e below (s₁.setTop (mkF m 18 #[.val (.int x0), .val (.long x1), .second, .val (.int x2), .val (.int x3), .val (.int x4), .val (.int (x0 &&& (7 : Int32))), .unset, .unset, .unset, .unset, .unset, .unset, .unset] [(.int (1 : Int32))])) _
        try simp only [if_neg hc10]
        exact Steps.refl _
    show Steps p.tables e below (s₁.setTop (mkF m 18 #[.val (.int x0), .val (.long x1), .second, .val (.int x2), .val (.int x3), .val (.int x4), .val (.int (x0 &&& (7 : Int32))), .unset, .unset, .unset, .unset, .unset, .unset, .unset] [(.int (if (x0 &&& (8 : Int32)) = (0 : Int32) then (0 : Int32) else (1 : Int32)))])) _
    refine XS.istore X0.here hx rfl (hb hby at_18) rfl (l' := #[.val (.int x0), .val (.long x1), .second, .val (.int x2), .val (.int x3), .val (.int x4), .val (.int (x0 &&& (7 : Int32))), .val (.int (if (x0 &&& (8 : Int32)) = (0 : Int32) then (0 : Int32) else (1 : Int32))), .unset, .unset, .unset, .unset, .unset, .unset]) rfl ?_
    show Steps p.tables e below (s₁.setTop (mkF m 20 #[.val (.int x0), .val (.long x1), .second, .val (.int x2), .val (.int x3), .val (.int x4), .val (.int (x0 &&& (7 : Int32))), .val (.int (if (x0 &&& (8 : Int32)) = (0 : Int32) then (0 : Int32) else (1 : Int32))), .unset, .unset, .unset, .unset, .unset, .unset] [])) _
    refine XS.bipush X0.here hx rfl (hb hby at_20) ?_
    show Steps p.tables e below (s₁.setTop (mkF m 22 #[.val (.int x0), .val (.long x1), .second, .val (.int x2), .val (.int x3), .val (.int x4), .val (.int (x0 &&& (7 : Int32))), .val (.int (if (x0 &&& (8 : Int32)) = (0 : Int32) then (0 : Int32) else (1 : Int32))), .unset, .unset, .unset, .unset, .unset, .unset] [(.int (7 : Int32))])) _
    exact Steps.refl _
  have pre3 := pre0.trans st3
  obtain ⟨T4, h4, k4, X4, e4, E4, A4, st4⟩ := newP X0 hx hZ (hw _ (List.mem_of_getElem? (i := 0) rfl)) e0 (g := (mkF m 22 #[.val (.int x0), .val (.long x1), .second, .val (.int x2), .val (.int x3), .val (.int x4), .val (.int v1), .val (.int v2), .unset, .unset, .unset, .unset, .unset, .unset] [(.int (7 : Int32))])) rfl (hb hby at_22) rfl (by decide) (cap := 7) (by decide) (by decide) (by decide) (by decide)
  obtain ⟨b4, g4⟩ : ∃ z, z = h0.size := ⟨_, rfl⟩
  rw [← g4] at A4 st4
  have pre4 : Steps p.tables e below (s₁.setTop (entryFrame m #[(.int x0), (.long x1), (.int x2), (.int x3), (.int x4)] maxLocals)) (T4.setTop (mkF m 24 #[.val (.int x0), .val (.long x1), .second, .val (.int x2), .val (.int x3), .val (.int x4), .val (.int v1), .val (.int v2), .unset, .unset, .unset, .unset, .unset, .unset] [(.ref b4)])) := pre3.trans (st4 _ (Steps.refl _))
  have gn4 : n0 ≤ b4 := Nat.le_trans Z0 (Nat.le_of_eq g4.symm)
  have sz4 : h0.size ≤ b4 := Nat.le_trans K0.1 (Nat.le_of_eq g4.symm)
  have K4 := K0.ext E4
  have Z4 : n0 ≤ h4.size := Nat.le_trans Z0 E4.1
  have F5 : Arv Z h4 b4 k4 .int (7 : Int32) [(.int (0 : Int32)), (.int (0 : Int32)), (.int (0 : Int32)), (.int (0 : Int32)), (.int (0 : Int32)), (.int (0 : Int32)), (.int (0 : Int32))] (.int (0 : Int32)) := (Arv.new A4 (by decide)).pad (pad_rep [] (.int (0 : Int32)) 7)
  obtain ⟨v6, hv6⟩ : ∃ z : Int32, z = (x2 &&& (1073741823 : Int32)) := ⟨_, rfl⟩
  have st7 : Steps p.tables e below (T4.setTop (mkF m 24 #[.val (.int x0), .val (.long x1), .second, .val (.int x2), .val (.int x3), .val (.int x4), .val (.int v1), .val (.int v2), .unset, .unset, .unset, .unset, .unset, .unset] [(.ref b4)])) (T4.setTop (mkF m 33 #[.val (.int x0), .val (.long x1), .second, .val (.int x2), .val (.int x3), .val (.int x4), .val (.int v1), .val (.int v2), .val (.ref b4), .unset, .unset, .unset, .unset, .unset] [(.int v6), (.int (0 : Int32)), (.ref b4)])) := by
    subst v6
    refine XS.astore X4.here hx rfl (hb hby at_24) rfl rfl (l' := #[.val (.int x0), .val (.long x1), .second, .val (.int x2), .val (.int x3), .val (.int x4), .val (.int v1), .val (.int v2), .val (.ref b4), .unset, .unset, .unset, .unset, .unset]) rfl ?_
    show Steps p.tables e below (T4.setTop (mkF m 26 #[.val (.int x0), .val (.long x1), .second, .val (.int x2), .val (.int x3), .val (.int x4), .val (.int v1), .val (.int v2), .val (.ref b4), .unset, .unset, .unset, .unset, .unset] [])) _
    refine XS.aload X4.here hx rfl (hb hby at_26) rfl rfl ?_
    show Steps p.tables e below (T4.setTop (mkF m 28 #[.val (.int x0), .val (.long x1), .second, .val (.int x2), .val (.int x3), .val (.int x4), .val (.int v1), .val (.int v2), .val (.ref b4), .unset, .unset, .unset, .unset, .unset] [(.ref b4)])) _
    refine XS.iconst X4.here hx rfl (hb hby at_28) ?_
    show Steps p.tables e below (T4.setTop (mkF m 29 #[.val (.int x0), .val (.long x1), .second, .val (.int x2), .val (.int x3), .val (.int x4), .val (.int v1), .val (.int v2), .val (.ref b4), .unset, .unset, .unset, .unset, .unset] [(.int (0 : Int32)), (.ref b4)])) _
    refine XS.iloadN X4.here hx rfl (hb hby at_29) rfl ?_
    show Steps p.tables e below (T4.setTop (mkF m 30 #[.val (.int x0), .val (.long x1), .second, .val (.int x2), .val (.int x3), .val (.int x4), .val (.int v1), .val (.int v2), .val (.ref b4), .unset, .unset, .unset, .unset, .unset] [(.int x2), (.int (0 : Int32)), (.ref b4)])) _
    refine X4.ldcInt hx hown (mvT hZ (hw _ (List.mem_of_getElem? (i := 1) rfl))) (g := (mkF m 30 #[.val (.int x0), .val (.long x1), .second, .val (.int x2), .val (.int x3), .val (.int x4), .val (.int v1), .val (.int v2), .val (.ref b4), .unset, .unset, .unset, .unset, .unset] [(.int x2), (.int (0 : Int32)), (.ref b4)])) rfl (hb hby at_30) _ ?_
    show Steps p.tables e below (T4.setTop (mkF m 32 #[.val (.int x0), .val (.long x1), .second, .val (.int x2), .val (.int x3), .val (.int x4), .val (.int v1), .val (.int v2), .val (.ref b4), .unset, .unset, .unset, .unset, .unset] [(.int (1073741823 : Int32)), (.int x2), (.int (0 : Int32)), (.ref b4)])) _
    refine XS.iand X4.here hx rfl (hb hby at_32) rfl ?_
    show Steps p.tables e below (T4.setTop (mkF m 33 #[.val (.int x0), .val (.long x1), .second, .val (.int x2), .val (.int x3), .val (.int x4), .val (.int v1), .val (.int v2), .val (.ref b4), .unset, .unset, .unset, .unset, .unset] [(.int (x2 &&& (1073741823 : Int32))), (.int (0 : Int32)), (.ref b4)])) _
    exact Steps.refl _
  have pre7 := pre4.trans st7
  obtain ⟨cl8, Ar8, q8, S8, G8, H8, J8⟩ := id F5
  have in8 : ¬ ((0 : Int32) < 0 ∨ cl8.slots.size ≤ ((0 : Int32)).toNatClampNeg) := inb_of S8 ⟨by decide, by decide⟩
  obtain ⟨T8, h8, X8, e8, W8, st8⟩ := stI X4 hx hZ e4 Ar8 (j := (0 : Int32)) in8 (g := (mkF m 33 #[.val (.int x0), .val (.long x1), .second, .val (.int x2), .val (.int x3), .val (.int x4), .val (.int v1), .val (.int v2), .val (.ref b4), .unset, .unset, .unset, .unset, .unset] [(.int v6), (.int (0 : Int32)), (.ref b4)])) rfl rfl (hb hby at_33)
  have pre8 : Steps p.tables e below (s₁.setTop (entryFrame m #[(.int x0), (.long x1), (.int x2), (.int x3), (.int x4)] maxLocals)) (T8.setTop (mkF m 34 #[.val (.int x0), .val (.long x1), .second, .val (.int x2), .val (.int x3), .val (.int x4), .val (.int v1), .val (.int v2), .val (.ref b4), .unset, .unset, .unset, .unset, .unset] [])) := pre7.trans (st8 _ (Steps.refl _))
  have K8 := K4.wr W8 (Or.inr sz4)
  have Z8 : n0 ≤ h8.size := Nat.le_trans Z4 (Keep.of_wr W8).1
  have V8 : Arv Z h8 b4 k4 .int (7 : Int32) [(.int v6), (.int (0 : Int32)), (.int (0 : Int32)), (.int (0 : Int32)), (.int (0 : Int32)), (.int (0 : Int32)), (.int (0 : Int32))] (.int (0 : Int32)) := Arv.set Ar8 q8 S8 G8 H8 J8 rfl W8 0 rfl (Nat.le_of_ble_eq_true rfl)
  have N8 := Fr.snoc X8 N0 gn4
  obtain ⟨cl10, Ar10, q10, S10, G10, H10, J10⟩ := id V8
  have in10_0 : ¬ ((0 : Int32) < 0 ∨ cl10.slots.size ≤ ((0 : Int32)).toNatClampNeg) := inb_of S10 ⟨by decide, by decide⟩
  have at10_0 : cl10.slots[((0 : Int32)).toNatClampNeg]? = some (.int v6) := Has.at H10 in10_0 rfl
  obtain ⟨v11, hv11⟩ : ∃ z : Int32, z = ((v6 + (1 : Int32)) + ((x1 &&& (15 : Int64)).toInt32)) := ⟨_, rfl⟩
  have st12 : Steps p.tables e below (T8.setTop (mkF m 34 #[.val (.int x0), .val (.long x1), .second, .val (.int x2), .val (.int x3), .val (.int x4), .val (.int v1), .val (.int v2), .val (.ref b4), .unset, .unset, .unset, .unset, .unset] [])) (T8.setTop (mkF m 50 #[.val (.int x0), .val (.long x1), .second, .val (.int x2), .val (.int x3), .val (.int x4), .val (.int v1), .val (.int v2), .val (.ref b4), .unset, .unset, .unset, .unset, .unset] [(.int v11), (.int (1 : Int32)), (.ref b4)])) := by
    subst v11
    refine XS.aload X8.here hx rfl (hb hby at_34) rfl rfl ?_
    show Steps p.tables e below (T8.setTop (mkF m 36 #[.val (.int x0), .val (.long x1), .second, .val (.int x2), .val (.int x3), .val (.int x4), .val (.int v1), .val (.int v2), .val (.ref b4), .unset, .unset, .unset, .unset, .unset] [(.ref b4)])) _
    refine XS.iconst X8.here hx rfl (hb hby at_36) ?_
    show Steps p.tables e below (T8.setTop (mkF m 37 #[.val (.int x0), .val (.long x1), .second, .val (.int x2), .val (.int x3), .val (.int x4), .val (.int v1), .val (.int v2), .val (.ref b4), .unset, .unset, .unset, .unset, .unset] [(.int (1 : Int32)), (.ref b4)])) _
    refine XS.aload X8.here hx rfl (hb hby at_37) rfl rfl ?_
    show Steps p.tables e below (T8.setTop (mkF m 39 #[.val (.int x0), .val (.long x1), .second, .val (.int x2), .val (.int x3), .val (.int x4), .val (.int v1), .val (.int v2), .val (.ref b4), .unset, .unset, .unset, .unset, .unset] [(.ref b4), (.int (1 : Int32)), (.ref b4)])) _
    refine XS.iconst X8.here hx rfl (hb hby at_39) ?_
    show Steps p.tables e below (T8.setTop (mkF m 40 #[.val (.int x0), .val (.long x1), .second, .val (.int x2), .val (.int x3), .val (.int x4), .val (.int v1), .val (.int v2), .val (.ref b4), .unset, .unset, .unset, .unset, .unset] [(.int (0 : Int32)), (.ref b4), (.int (1 : Int32)), (.ref b4)])) _
    refine X8.iaload hx (j := (0 : Int32)) (v := (.int v6)) (by rw [e8]; exact Ar10.1) (State.isArrayOf_alike hZ.alike Ar10.2.1) Ar10.2.2 in10_0 at10_0 (g := (mkF m 40 #[.val (.int x0), .val (.long x1), .second, .val (.int x2), .val (.int x3), .val (.int x4), .val (.int v1), .val (.int v2), .val (.ref b4), .unset, .unset, .unset, .unset, .unset] [(.int (0 : Int32)), (.ref b4), (.int (1 : Int32)), (.ref b4)])) rfl rfl (hb hby at_40) _ ?_
    show Steps p.tables e below (T8.setTop (mkF m 41 #[.val (.int x0), .val (.long x1), .second, .val (.int x2), .val (.int x3), .val (.int x4), .val (.int v1), .val (.int v2), .val (.ref b4), .unset, .unset, .unset, .unset, .unset] [(.int v6), (.int (1 : Int32)), (.ref b4)])) _
    refine XS.iconst X8.here hx rfl (hb hby at_41) ?_
    show Steps p.tables e below (T8.setTop (mkF m 42 #[.val (.int x0), .val (.long x1), .second, .val (.int x2), .val (.int x3), .val (.int x4), .val (.int v1), .val (.int v2), .val (.ref b4), .unset, .unset, .unset, .unset, .unset] [(.int (1 : Int32)), (.int v6), (.int (1 : Int32)), (.ref b4)])) _
    refine XS.iadd X8.here hx rfl (hb hby at_42) rfl ?_
    show Steps p.tables e below (T8.setTop (mkF m 43 #[.val (.int x0), .val (.long x1), .second, .val (.int x2), .val (.int x3), .val (.int x4), .val (.int v1), .val (.int v2), .val (.ref b4), .unset, .unset, .unset, .unset, .unset] [(.int (v6 + (1 : Int32))), (.int (1 : Int32)), (.ref b4)])) _
    refine XS.lloadN X8.here hx rfl (hb hby at_43) rfl ?_
    show Steps p.tables e below (T8.setTop (mkF m 44 #[.val (.int x0), .val (.long x1), .second, .val (.int x2), .val (.int x3), .val (.int x4), .val (.int v1), .val (.int v2), .val (.ref b4), .unset, .unset, .unset, .unset, .unset] [(.long x1), (.int (v6 + (1 : Int32))), (.int (1 : Int32)), (.ref b4)])) _
    refine X8.ldc2Long hx hown (mvT hZ (hw _ (List.mem_of_getElem? (i := 2) rfl))) (g := (mkF m 44 #[.val (.int x0), .val (.long x1), .second, .val (.int x2), .val (.int x3), .val (.int x4), .val (.int v1), .val (.int v2), .val (.ref b4), .unset, .unset, .unset, .unset, .unset] [(.long x1), (.int (v6 + (1 : Int32))), (.int (1 : Int32)), (.ref b4)])) rfl (hb hby at_44) _ ?_
    show Steps p.tables e below (T8.setTop (mkF m 47 #[.val (.int x0), .val (.long x1), .second, .val (.int x2), .val (.int x3), .val (.int x4), .val (.int v1), .val (.int v2), .val (.ref b4), .unset, .unset, .unset, .unset, .unset] [(.long (15 : Int64)), (.long x1), (.int (v6 + (1 : Int32))), (.int (1 : Int32)), (.ref b4)])) _
    refine XS.land X8.here hx rfl (hb hby at_47) rfl ?_
    show Steps p.tables e below (T8.setTop (mkF m 48 #[.val (.int x0), .val (.long x1), .second, .val (.int x2), .val (.int x3), .val (.int x4), .val (.int v1), .val (.int v2), .val (.ref b4), .unset, .unset, .unset, .unset, .unset] [(.long (x1 &&& (15 : Int64))), (.int (v6 + (1 : Int32))), (.int (1 : Int32)), (.ref b4)])) _
    refine XS.l2i X8.here hx rfl (hb hby at_48) rfl ?_
    show Steps p.tables e below (T8.setTop (mkF m 49 #[.val (.int x0), .val (.long x1), .second, .val (.int x2), .val (.int x3), .val (.int x4), .val (.int v1), .val (.int v2), .val (.ref b4), .unset, .unset, .unset, .unset, .unset] [(.int ((x1 &&& (15 : Int64)).toInt32)), (.int (v6 + (1 : Int32))), (.int (1 : Int32)), (.ref b4)])) _
    refine XS.iadd X8.here hx rfl (hb hby at_49) rfl ?_
    show Steps p.tables e below (T8.setTop (mkF m 50 #[.val (.int x0), .val (.long x1), .second, .val (.int x2), .val (.int x3), .val (.int x4), .val (.int v1), .val (.int v2), .val (.ref b4), .unset, .unset, .unset, .unset, .unset] [(.int ((v6 + (1 : Int32)) + ((x1 &&& (15 : Int64)).toInt32))), (.int (1 : Int32)), (.ref b4)])) _
    exact Steps.refl _
  have pre12 := pre8.trans st12
  obtain ⟨cl13, Ar13, q13, S13, G13, H13, J13⟩ := id V8
  have in13 : ¬ ((1 : Int32) < 0 ∨ cl13.slots.size ≤ ((1 : Int32)).toNatClampNeg) := inb_of S13 ⟨by decide, by decide⟩
  obtain ⟨T13, h13, X13, e13, W13, st13⟩ := stI X8 hx hZ e8 Ar13 (j := (1 : Int32)) in13 (g := (mkF m 50 #[.val (.int x0), .val (.long x1), .second, .val (.int x2), .val (.int x3), .val (.int x4), .val (.int v1), .val (.int v2), .val (.ref b4), .unset, .unset, .unset, .unset, .unset] [(.int v11), (.int (1 : Int32)), (.ref b4)])) rfl rfl (hb hby at_50)
  have pre13 : Steps p.tables e below (s₁.setTop (entryFrame m #[(.int x0), (.long x1), (.int x2), (.int x3), (.int x4)] maxLocals)) (T13.setTop (mkF m 51 #[.val (.int x0), .val (.long x1), .second, .val (.int x2), .val (.int x3), .val (.int x4), .val (.int v1), .val (.int v2), .val (.ref b4), .unset, .unset, .unset, .unset, .unset] [])) := pre12.trans (st13 _ (Steps.refl _))
  have K13 := K8.wr W13 (Or.inr sz4)
  have Z13 : n0 ≤ h13.size := Nat.le_trans Z8 (Keep.of_wr W13).1
  have V13 : Arv Z h13 b4 k4 .int (7 : Int32) [(.int v6), (.int v11), (.int (0 : Int32)), (.int (0 : Int32)), (.int (0 : Int32)), (.int (0 : Int32)), (.int (0 : Int32))] (.int (0 : Int32)) := Arv.set Ar13 q13 S13 G13 H13 J13 rfl W13 1 rfl (Nat.le_of_ble_eq_true rfl)
  have N13 := Fr.snoc X13 N8 gn4
  obtain ⟨cl15, Ar15, q15, S15, G15, H15, J15⟩ := id V13
  have in15_1 : ¬ ((1 : Int32) < 0 ∨ cl15.slots.size ≤ ((1 : Int32)).toNatClampNeg) := inb_of S15 ⟨by decide, by decide⟩
  have at15_1 : cl15.slots[((1 : Int32)).toNatClampNeg]? = some (.int v11) := Has.at H15 in15_1 rfl
  obtain ⟨v16, hv16⟩ : ∃ z : Int32, z = ((v11 + (1 : Int32)) + ((((x1.toUInt64 >>> ((4 : Int32) &&& 0x3f).toInt64.toUInt64).toInt64) &&& (15 : Int64)).toInt32)) := ⟨_, rfl⟩
  have st17 : Steps p.tables e below (T13.setTop (mkF m 51 #[.val (.int x0), .val (.long x1), .second, .val (.int x2), .val (.int x3), .val (.int x4), .val (.int v1), .val (.int v2), .val (.ref b4), .unset, .unset, .unset, .unset, .unset] [])) (T13.setTop (mkF m 69 #[.val (.int x0), .val (.long x1), .second, .val (.int x2), .val (.int x3), .val (.int x4), .val (.int v1), .val (.int v2), .val (.ref b4), .unset, .unset, .unset, .unset, .unset] [(.int v16), (.int (2 : Int32)), (.ref b4)])) := by
    subst v16
    refine XS.aload X13.here hx rfl (hb hby at_51) rfl rfl ?_
    show Steps p.tables e below (T13.setTop (mkF m 53 #[.val (.int x0), .val (.long x1), .second, .val (.int x2), .val (.int x3), .val (.int x4), .val (.int v1), .val (.int v2), .val (.ref b4), .unset, .unset, .unset, .unset, .unset] [(.ref b4)])) _
    refine XS.iconst X13.here hx rfl (hb hby at_53) ?_
    show Steps p.tables e below (T13.setTop (mkF m 54 #[.val (.int x0), .val (.long x1), .second, .val (.int x2), .val (.int x3), .val (.int x4), .val (.int v1), .val (.int v2), .val (.ref b4), .unset, .unset, .unset, .unset, .unset] [(.int (2 : Int32)), (.ref b4)])) _
    refine XS.aload X13.here hx rfl (hb hby at_54) rfl rfl ?_
    show Steps p.tables e below (T13.setTop (mkF m 56 #[.val (.int x0), .val (.long x1), .second, .val (.int x2), .val (.int x3), .val (.int x4), .val (.int v1), .val (.int v2), .val (.ref b4), .unset, .unset, .unset, .unset, .unset] [(.ref b4), (.int (2 : Int32)), (.ref b4)])) _
    refine XS.iconst X13.here hx rfl (hb hby at_56) ?_
    show Steps p.tables e below (T13.setTop (mkF m 57 #[.val (.int x0), .val (.long x1), .second, .val (.int x2), .val (.int x3), .val (.int x4), .val (.int v1), .val (.int v2), .val (.ref b4), .unset, .unset, .unset, .unset, .unset] [(.int (1 : Int32)), (.ref b4), (.int (2 : Int32)), (.ref b4)])) _
    refine X13.iaload hx (j := (1 : Int32)) (v := (.int v11)) (by rw [e13]; exact Ar15.1) (State.isArrayOf_alike hZ.alike Ar15.2.1) Ar15.2.2 in15_1 at15_1 (g := (mkF m 57 #[.val (.int x0), .val (.long x1), .second, .val (.int x2), .val (.int x3), .val (.int x4), .val (.int v1), .val (.int v2), .val (.ref b4), .unset, .unset, .unset, .unset, .unset] [(.int (1 : Int32)), (.ref b4), (.int (2 : Int32)), (.ref b4)])) rfl rfl (hb hby at_57) _ ?_
    show Steps p.tables e below (T13.setTop (mkF m 58 #[.val (.int x0), .val (.long x1), .second, .val (.int x2), .val (.int x3), .val (.int x4), .val (.int v1), .val (.int v2), .val (.ref b4), .unset, .unset, .unset, .unset, .unset] [(.int v11), (.int (2 : Int32)), (.ref b4)])) _
    refine XS.iconst X13.here hx rfl (hb hby at_58) ?_
    show Steps p.tables e below (T13.setTop (mkF m 59 #[.val (.int x0), .val (.long x1), .second, .val (.int x2), .val (.int x3), .val (.int x4), .val (.int v1), .val (.int v2), .val (.ref b4), .unset, .unset, .unset, .unset, .unset] [(.int (1 : Int32)), (.int v11), (.int (2 : Int32)), (.ref b4)])) _
    refine XS.iadd X13.here hx rfl (hb hby at_59) rfl ?_
    show Steps p.tables e below (T13.setTop (mkF m 60 #[.val (.int x0), .val (.long x1), .second, .val (.int x2), .val (.int x3), .val (.int x4), .val (.int v1), .val (.int v2), .val (.ref b4), .unset, .unset, .unset, .unset, .unset] [(.int (v11 + (1 : Int32))), (.int (2 : Int32)), (.ref b4)])) _
    refine XS.lloadN X13.here hx rfl (hb hby at_60) rfl ?_
    show Steps p.tables e below (T13.setTop (mkF m 61 #[.val (.int x0), .val (.long x1), .second, .val (.int x2), .val (.int x3), .val (.int x4), .val (.int v1), .val (.int v2), .val (.ref b4), .unset, .unset, .unset, .unset, .unset] [(.long x1), (.int (v11 + (1 : Int32))), (.int (2 : Int32)), (.ref b4)])) _
    refine XS.iconst X13.here hx rfl (hb hby at_61) ?_
    show Steps p.tables e below (T13.setTop (mkF m 62 #[.val (.int x0), .val (.long x1), .second, .val (.int x2), .val (.int x3), .val (.int x4), .val (.int v1), .val (.int v2), .val (.ref b4), .unset, .unset, .unset, .unset, .unset] [(.int (4 : Int32)), (.long x1), (.int (v11 + (1 : Int32))), (.int (2 : Int32)), (.ref b4)])) _
    refine XS.lushr X13.here hx rfl (hb hby at_62) rfl ?_
    show Steps p.tables e below (T13.setTop (mkF m 63 #[.val (.int x0), .val (.long x1), .second, .val (.int x2), .val (.int x3), .val (.int x4), .val (.int v1), .val (.int v2), .val (.ref b4), .unset, .unset, .unset, .unset, .unset] [(.long ((x1.toUInt64 >>> ((4 : Int32) &&& 0x3f).toInt64.toUInt64).toInt64)), (.int (v11 + (1 : Int32))), (.int (2 : Int32)), (.ref b4)])) _
    refine X13.ldc2Long hx hown (mvT hZ (hw _ (List.mem_of_getElem? (i := 2) rfl))) (g := (mkF m 63 #[.val (.int x0), .val (.long x1), .second, .val (.int x2), .val (.int x3), .val (.int x4), .val (.int v1), .val (.int v2), .val (.ref b4), .unset, .unset, .unset, .unset, .unset] [(.long ((x1.toUInt64 >>> ((4 : Int32) &&& 0x3f).toInt64.toUInt64).toInt64)), (.int (v11 + (1 : Int32))), (.int (2 : Int32)), (.ref b4)])) rfl (hb hby at_63) _ ?_
    show Steps p.tables e below (T13.setTop (mkF m 66 #[.val (.int x0), .val (.long x1), .second, .val (.int x2), .val (.int x3), .val (.int x4), .val (.int v1), .val (.int v2), .val (.ref b4), .unset, .unset, .unset, .unset, .unset] [(.long (15 : Int64)), (.long ((x1.toUInt64 >>> ((4 : Int32) &&& 0x3f).toInt64.toUInt64).toInt64)), (.int (v11 + (1 : Int32))), (.int (2 : Int32)), (.ref b4)])) _
    refine XS.land X13.here hx rfl (hb hby at_66) rfl ?_
    show Steps p.tables e below (T13.setTop (mkF m 67 #[.val (.int x0), .val (.long x1), .second, .val (.int x2), .val (.int x3), .val (.int x4), .val (.int v1), .val (.int v2), .val (.ref b4), .unset, .unset, .unset, .unset, .unset] [(.long (((x1.toUInt64 >>> ((4 : Int32) &&& 0x3f).toInt64.toUInt64).toInt64) &&& (15 : Int64))), (.int (v11 + (1 : Int32))), (.int (2 : Int32)), (.ref b4)])) _
    refine XS.l2i X13.here hx rfl (hb hby at_67) rfl ?_
    show Steps p.tables e below (T13.setTop (mkF m 68 #[.val (.int x0), .val (.long x1), .second, .val (.int x2), .val (.int x3), .val (.int x4), .val (.int v1), .val (.int v2), .val (.ref b4), .unset, .unset, .unset, .unset, .unset] [(.int ((((x1.toUInt64 >>> ((4 : Int32) &&& 0x3f).toInt64.toUInt64).toInt64) &&& (15 : Int64)).toInt32)), (.int (v11 + (1 : Int32))), (.int (2 : Int32)), (.ref b4)])) _
    refine XS.iadd X13.here hx rfl (hb hby at_68) rfl ?_
    show Steps p.tables e below (T13.setTop (mkF m 69 #[.val (.int x0), .val (.long x1), .second, .val (.int x2), .val (.int x3), .val (.int x4), .val (.int v1), .val (.int v2), .val (.ref b4), .unset, .unset, .unset, .unset, .unset] [(.int ((v11 + (1 : Int32)) + ((((x1.toUInt64 >>> ((4 : Int32) &&& 0x3f).toInt64.toUInt64).toInt64) &&& (15 : Int64)).toInt32))), (.int (2 : Int32)), (.ref b4)])) _
    exact Steps.refl _
  have pre17 := pre13.trans st17
  obtain ⟨cl18, Ar18, q18, S18, G18, H18, J18⟩ := id V13
  have in18 : ¬ ((2 : Int32) < 0 ∨ cl18.slots.size ≤ ((2 : Int32)).toNatClampNeg) := inb_of S18 ⟨by decide, by decide⟩
  obtain ⟨T18, h18, X18, e18, W18, st18⟩ := stI X13 hx hZ e13 Ar18 (j := (2 : Int32)) in18 (g := (mkF m 69 #[.val (.int x0), .val (.long x1), .second, .val (.int x2), .val (.int x3), .val (.int x4), .val (.int v1), .val (.int v2), .val (.ref b4), .unset, .unset, .unset, .unset, .unset] [(.int v16), (.int (2 : Int32)), (.ref b4)])) rfl rfl (hb hby at_69)
  have pre18 : Steps p.tables e below (s₁.setTop (entryFrame m #[(.int x0), (.long x1), (.int x2), (.int x3), (.int x4)] maxLocals)) (T18.setTop (mkF m 70 #[.val (.int x0), .val (.long x1), .second, .val (.int x2), .val (.int x3), .val (.int x4), .val (.int v1), .val (.int v2), .val (.ref b4), .unset, .unset, .unset, .unset, .unset] [])) := pre17.trans (st18 _ (Steps.refl _))
  have K18 := K13.wr W18 (Or.inr sz4)
  have Z18 : n0 ≤ h18.size := Nat.le_trans Z13 (Keep.of_wr W18).1
  have V18 : Arv Z h18 b4 k4 .int (7 : Int32) [(.int v6), (.int v11), (.int v16), (.int (0 : Int32)), (.int (0 : Int32)), (.int (0 : Int32)), (.int (0 : Int32))] (.int (0 : Int32)) := Arv.set Ar18 q18 S18 G18 H18 J18 rfl W18 2 rfl (Nat.le_of_ble_eq_true rfl)
  have N18 := Fr.snoc X18 N13 gn4
  obtain ⟨cl20, Ar20, q20, S20, G20, H20, J20⟩ := id V18
  have in20_2 : ¬ ((2 : Int32) < 0 ∨ cl20.slots.size ≤ ((2 : Int32)).toNatClampNeg) := inb_of S20 ⟨by decide, by decide⟩
  have at20_2 : cl20.slots[((2 : Int32)).toNatClampNeg]? = some (.int v16) := Has.at H20 in20_2 rfl
  obtain ⟨v21, hv21⟩ : ∃ z : Int32, z = ((v16 + (1 : Int32)) + ((((x1.toUInt64 >>> ((8 : Int32) &&& 0x3f).toInt64.toUInt64).toInt64) &&& (15 : Int64)).toInt32)) := ⟨_, rfl⟩
  have st22 : Steps p.tables e below (T18.setTop (mkF m 70 #[.val (.int x0), .val (.long x1), .second, .val (.int x2), .val (.int x3), .val (.int x4), .val (.int v1), .val (.int v2), .val (.ref b4), .unset, .unset, .unset, .unset, .unset] [])) (T18.setTop (mkF m 89 #[.val (.int x0), .val (.long x1), .second, .val (.int x2), .val (.int x3), .val (.int x4), .val (.int v1), .val (.int v2), .val (.ref b4), .unset, .unset, .unset, .unset, .unset] [(.int v21), (.int (3 : Int32)), (.ref b4)])) := by
    subst v21
    refine XS.aload X18.here hx rfl (hb hby at_70) rfl rfl ?_
    show Steps p.tables e below (T18.setTop (mkF m 72 #[.val (.int x0), .val (.long x1), .second, .val (.int x2), .val (.int x3), .val (.int x4), .val (.int v1), .val (.int v2), .val (.ref b4), .unset, .unset, .unset, .unset, .unset] [(.ref b4)])) _
    refine XS.iconst X18.here hx rfl (hb hby at_72) ?_
    show Steps p.tables e below (T18.setTop (mkF m 73 #[.val (.int x0), .val (.long x1), .second, .val (.int x2), .val (.int x3), .val (.int x4), .val (.int v1), .val (.int v2), .val (.ref b4), .unset, .unset, .unset, .unset, .unset] [(.int (3 : Int32)), (.ref b4)])) _
    refine XS.aload X18.here hx rfl (hb hby at_73) rfl rfl ?_
    show Steps p.tables e below (T18.setTop (mkF m 75 #[.val (.int x0), .val (.long x1), .second, .val (.int x2), .val (.int x3), .val (.int x4), .val (.int v1), .val (.int v2), .val (.ref b4), .unset, .unset, .unset, .unset, .unset] [(.ref b4), (.int (3 : Int32)), (.ref b4)])) _
    refine XS.iconst X18.here hx rfl (hb hby at_75) ?_
    show Steps p.tables e below (T18.setTop (mkF m 76 #[.val (.int x0), .val (.long x1), .second, .val (.int x2), .val (.int x3), .val (.int x4), .val (.int v1), .val (.int v2), .val (.ref b4), .unset, .unset, .unset, .unset, .unset] [(.int (2 : Int32)), (.ref b4), (.int (3 : Int32)), (.ref b4)])) _
    refine X18.iaload hx (j := (2 : Int32)) (v := (.int v16)) (by rw [e18]; exact Ar20.1) (State.isArrayOf_alike hZ.alike Ar20.2.1) Ar20.2.2 in20_2 at20_2 (g := (mkF m 76 #[.val (.int x0), .val (.long x1), .second, .val (.int x2), .val (.int x3), .val (.int x4), .val (.int v1), .val (.int v2), .val (.ref b4), .unset, .unset, .unset, .unset, .unset] [(.int (2 : Int32)), (.ref b4), (.int (3 : Int32)), (.ref b4)])) rfl rfl (hb hby at_76) _ ?_
    show Steps p.tables e below (T18.setTop (mkF m 77 #[.val (.int x0), .val (.long x1), .second, .val (.int x2), .val (.int x3), .val (.int x4), .val (.int v1), .val (.int v2), .val (.ref b4), .unset, .unset, .unset, .unset, .unset] [(.int v16), (.int (3 : Int32)), (.ref b4)])) _
    refine XS.iconst X18.here hx rfl (hb hby at_77) ?_
    show Steps p.tables e below (T18.setTop (mkF m 78 #[.val (.int x0), .val (.long x1), .second, .val (.int x2), .val (.int x3), .val (.int x4), .val (.int v1), .val (.int v2), .val (.ref b4), .unset, .unset, .unset, .unset, .unset] [(.int (1 : Int32)), (.int v16), (.int (3 : Int32)), (.ref b4)])) _
    refine XS.iadd X18.here hx rfl (hb hby at_78) rfl ?_
    show Steps p.tables e below (T18.setTop (mkF m 79 #[.val (.int x0), .val (.long x1), .second, .val (.int x2), .val (.int x3), .val (.int x4), .val (.int v1), .val (.int v2), .val (.ref b4), .unset, .unset, .unset, .unset, .unset] [(.int (v16 + (1 : Int32))), (.int (3 : Int32)), (.ref b4)])) _
    refine XS.lloadN X18.here hx rfl (hb hby at_79) rfl ?_
    show Steps p.tables e below (T18.setTop (mkF m 80 #[.val (.int x0), .val (.long x1), .second, .val (.int x2), .val (.int x3), .val (.int x4), .val (.int v1), .val (.int v2), .val (.ref b4), .unset, .unset, .unset, .unset, .unset] [(.long x1), (.int (v16 + (1 : Int32))), (.int (3 : Int32)), (.ref b4)])) _
    refine XS.bipush X18.here hx rfl (hb hby at_80) ?_
    show Steps p.tables e below (T18.setTop (mkF m 82 #[.val (.int x0), .val (.long x1), .second, .val (.int x2), .val (.int x3), .val (.int x4), .val (.int v1), .val (.int v2), .val (.ref b4), .unset, .unset, .unset, .unset, .unset] [(.int (8 : Int32)), (.long x1), (.int (v16 + (1 : Int32))), (.int (3 : Int32)), (.ref b4)])) _
    refine XS.lushr X18.here hx rfl (hb hby at_82) rfl ?_
    show Steps p.tables e below (T18.setTop (mkF m 83 #[.val (.int x0), .val (.long x1), .second, .val (.int x2), .val (.int x3), .val (.int x4), .val (.int v1), .val (.int v2), .val (.ref b4), .unset, .unset, .unset, .unset, .unset] [(.long ((x1.toUInt64 >>> ((8 : Int32) &&& 0x3f).toInt64.toUInt64).toInt64)), (.int (v16 + (1 : Int32))), (.int (3 : Int32)), (.ref b4)])) _
    refine X18.ldc2Long hx hown (mvT hZ (hw _ (List.mem_of_getElem? (i := 2) rfl))) (g := (mkF m 83 #[.val (.int x0), .val (.long x1), .second, .val (.int x2), .val (.int x3), .val (.int x4), .val (.int v1), .val (.int v2), .val (.ref b4), .unset, .unset, .unset, .unset, .unset] [(.long ((x1.toUInt64 >>> ((8 : Int32) &&& 0x3f).toInt64.toUInt64).toInt64)), (.int (v16 + (1 : Int32))), (.int (3 : Int32)), (.ref b4)])) rfl (hb hby at_83) _ ?_
    show Steps p.tables e below (T18.setTop (mkF m 86 #[.val (.int x0), .val (.long x1), .second, .val (.int x2), .val (.int x3), .val (.int x4), .val (.int v1), .val (.int v2), .val (.ref b4), .unset, .unset, .unset, .unset, .unset] [(.long (15 : Int64)), (.long ((x1.toUInt64 >>> ((8 : Int32) &&& 0x3f).toInt64.toUInt64).toInt64)), (.int (v16 + (1 : Int32))), (.int (3 : Int32)), (.ref b4)])) _
    refine XS.land X18.here hx rfl (hb hby at_86) rfl ?_
    show Steps p.tables e below (T18.setTop (mkF m 87 #[.val (.int x0), .val (.long x1), .second, .val (.int x2), .val (.int x3), .val (.int x4), .val (.int v1), .val (.int v2), .val (.ref b4), .unset, .unset, .unset, .unset, .unset] [(.long (((x1.toUInt64 >>> ((8 : Int32) &&& 0x3f).toInt64.toUInt64).toInt64) &&& (15 : Int64))), (.int (v16 + (1 : Int32))), (.int (3 : Int32)), (.ref b4)])) _
    refine XS.l2i X18.here hx rfl (hb hby at_87) rfl ?_
    show Steps p.tables e below (T18.setTop (mkF m 88 #[.val (.int x0), .val (.long x1), .second, .val (.int x2), .val (.int x3), .val (.int x4), .val (.int v1), .val (.int v2), .val (.ref b4), .unset, .unset, .unset, .unset, .unset] [(.int ((((x1.toUInt64 >>> ((8 : Int32) &&& 0x3f).toInt64.toUInt64).toInt64) &&& (15 : Int64)).toInt32)), (.int (v16 + (1 : Int32))), (.int (3 : Int32)), (.ref b4)])) _
    refine XS.iadd X18.here hx rfl (hb hby at_88) rfl ?_
    show Steps p.tables e below (T18.setTop (mkF m 89 #[.val (.int x0), .val (.long x1), .second, .val (.int x2), .val (.int x3), .val (.int x4), .val (.int v1), .val (.int v2), .val (.ref b4), .unset, .unset, .unset, .unset, .unset] [(.int ((v16 + (1 : Int32)) + ((((x1.toUInt64 >>> ((8 : Int32) &&& 0x3f).toInt64.toUInt64).toInt64) &&& (15 : Int64)).toInt32))), (.int (3 : Int32)), (.ref b4)])) _
    exact Steps.refl _
  have pre22 := pre18.trans st22
  obtain ⟨cl23, Ar23, q23, S23, G23, H23, J23⟩ := id V18
  have in23 : ¬ ((3 : Int32) < 0 ∨ cl23.slots.size ≤ ((3 : Int32)).toNatClampNeg) := inb_of S23 ⟨by decide, by decide⟩
  obtain ⟨T23, h23, X23, e23, W23, st23⟩ := stI X18 hx hZ e18 Ar23 (j := (3 : Int32)) in23 (g := (mkF m 89 #[.val (.int x0), .val (.long x1), .second, .val (.int x2), .val (.int x3), .val (.int x4), .val (.int v1), .val (.int v2), .val (.ref b4), .unset, .unset, .unset, .unset, .unset] [(.int v21), (.int (3 : Int32)), (.ref b4)])) rfl rfl (hb hby at_89)
  have pre23 : Steps p.tables e below (s₁.setTop (entryFrame m #[(.int x0), (.long x1), (.int x2), (.int x3), (.int x4)] maxLocals)) (T23.setTop (mkF m 90 #[.val (.int x0), .val (.long x1), .second, .val (.int x2), .val (.int x3), .val (.int x4), .val (.int v1), .val (.int v2), .val (.ref b4), .unset, .unset, .unset, .unset, .unset] [])) := pre22.trans (st23 _ (Steps.refl _))
  have K23 := K18.wr W23 (Or.inr sz4)
  have Z23 : n0 ≤ h23.size := Nat.le_trans Z18 (Keep.of_wr W23).1
  have V23 : Arv Z h23 b4 k4 .int (7 : Int32) [(.int v6), (.int v11), (.int v16), (.int v21), (.int (0 : Int32)), (.int (0 : Int32)), (.int (0 : Int32))] (.int (0 : Int32)) := Arv.set Ar23 q23 S23 G23 H23 J23 rfl W23 3 rfl (Nat.le_of_ble_eq_true rfl)
  have N23 := Fr.snoc X23 N18 gn4
  obtain ⟨cl25, Ar25, q25, S25, G25, H25, J25⟩ := id V23
  have in25_3 : ¬ ((3 : Int32) < 0 ∨ cl25.slots.size ≤ ((3 : Int32)).toNatClampNeg) := inb_of S25 ⟨by decide, by decide⟩
  have at25_3 : cl25.slots[((3 : Int32)).toNatClampNeg]? = some (.int v21) := Has.at H25 in25_3 rfl
  obtain ⟨v26, hv26⟩ : ∃ z : Int32, z = ((v21 + (1 : Int32)) + ((((x1.toUInt64 >>> ((12 : Int32) &&& 0x3f).toInt64.toUInt64).toInt64) &&& (15 : Int64)).toInt32)) := ⟨_, rfl⟩
  have st27 : Steps p.tables e below (T23.setTop (mkF m 90 #[.val (.int x0), .val (.long x1), .second, .val (.int x2), .val (.int x3), .val (.int x4), .val (.int v1), .val (.int v2), .val (.ref b4), .unset, .unset, .unset, .unset, .unset] [])) (T23.setTop (mkF m 109 #[.val (.int x0), .val (.long x1), .second, .val (.int x2), .val (.int x3), .val (.int x4), .val (.int v1), .val (.int v2), .val (.ref b4), .unset, .unset, .unset, .unset, .unset] [(.int v26), (.int (4 : Int32)), (.ref b4)])) := by
    subst v26
    refine XS.aload X23.here hx rfl (hb hby at_90) rfl rfl ?_
    show Steps p.tables e below (T23.setTop (mkF m 92 #[.val (.int x0), .val (.long x1), .second, .val (.int x2), .val (.int x3), .val (.int x4), .val (.int v1), .val (.int v2), .val (.ref b4), .unset, .unset, .unset, .unset, .unset] [(.ref b4)])) _
    refine XS.iconst X23.here hx rfl (hb hby at_92) ?_
    show Steps p.tables e below (T23.setTop (mkF m 93 #[.val (.int x0), .val (.long x1), .second, .val (.int x2), .val (.int x3), .val (.int x4), .val (.int v1), .val (.int v2), .val (.ref b4), .unset, .unset, .unset, .unset, .unset] [(.int (4 : Int32)), (.ref b4)])) _
    refine XS.aload X23.here hx rfl (hb hby at_93) rfl rfl ?_
    show Steps p.tables e below (T23.setTop (mkF m 95 #[.val (.int x0), .val (.long x1), .second, .val (.int x2), .val (.int x3), .val (.int x4), .val (.int v1), .val (.int v2), .val (.ref b4), .unset, .unset, .unset, .unset, .unset] [(.ref b4), (.int (4 : Int32)), (.ref b4)])) _
    refine XS.iconst X23.here hx rfl (hb hby at_95) ?_
    show Steps p.tables e below (T23.setTop (mkF m 96 #[.val (.int x0), .val (.long x1), .second, .val (.int x2), .val (.int x3), .val (.int x4), .val (.int v1), .val (.int v2), .val (.ref b4), .unset, .unset, .unset, .unset, .unset] [(.int (3 : Int32)), (.ref b4), (.int (4 : Int32)), (.ref b4)])) _
    refine X23.iaload hx (j := (3 : Int32)) (v := (.int v21)) (by rw [e23]; exact Ar25.1) (State.isArrayOf_alike hZ.alike Ar25.2.1) Ar25.2.2 in25_3 at25_3 (g := (mkF m 96 #[.val (.int x0), .val (.long x1), .second, .val (.int x2), .val (.int x3), .val (.int x4), .val (.int v1), .val (.int v2), .val (.ref b4), .unset, .unset, .unset, .unset, .unset] [(.int (3 : Int32)), (.ref b4), (.int (4 : Int32)), (.ref b4)])) rfl rfl (hb hby at_96) _ ?_
    show Steps p.tables e below (T23.setTop (mkF m 97 #[.val (.int x0), .val (.long x1), .second, .val (.int x2), .val (.int x3), .val (.int x4), .val (.int v1), .val (.int v2), .val (.ref b4), .unset, .unset, .unset, .unset, .unset] [(.int v21), (.int (4 : Int32)), (.ref b4)])) _
    refine XS.iconst X23.here hx rfl (hb hby at_97) ?_
    show Steps p.tables e below (T23.setTop (mkF m 98 #[.val (.int x0), .val (.long x1), .second, .val (.int x2), .val (.int x3), .val (.int x4), .val (.int v1), .val (.int v2), .val (.ref b4), .unset, .unset, .unset, .unset, .unset] [(.int (1 : Int32)), (.int v21), (.int (4 : Int32)), (.ref b4)])) _
    refine XS.iadd X23.here hx rfl (hb hby at_98) rfl ?_
    show Steps p.tables e below (T23.setTop (mkF m 99 #[.val (.int x0), .val (.long x1), .second, .val (.int x2), .val (.int x3), .val (.int x4), .val (.int v1), .val (.int v2), .val (.ref b4), .unset, .unset, .unset, .unset, .unset] [(.int (v21 + (1 : Int32))), (.int (4 : Int32)), (.ref b4)])) _
    refine XS.lloadN X23.here hx rfl (hb hby at_99) rfl ?_
    show Steps p.tables e below (T23.setTop (mkF m 100 #[.val (.int x0), .val (.long x1), .second, .val (.int x2), .val (.int x3), .val (.int x4), .val (.int v1), .val (.int v2), .val (.ref b4), .unset, .unset, .unset, .unset, .unset] [(.long x1), (.int (v21 + (1 : Int32))), (.int (4 : Int32)), (.ref b4)])) _
    refine XS.bipush X23.here hx rfl (hb hby at_100) ?_
    show Steps p.tables e below (T23.setTop (mkF m 102 #[.val (.int x0), .val (.long x1), .second, .val (.int x2), .val (.int x3), .val (.int x4), .val (.int v1), .val (.int v2), .val (.ref b4), .unset, .unset, .unset, .unset, .unset] [(.int (12 : Int32)), (.long x1), (.int (v21 + (1 : Int32))), (.int (4 : Int32)), (.ref b4)])) _
    refine XS.lushr X23.here hx rfl (hb hby at_102) rfl ?_
    show Steps p.tables e below (T23.setTop (mkF m 103 #[.val (.int x0), .val (.long x1), .second, .val (.int x2), .val (.int x3), .val (.int x4), .val (.int v1), .val (.int v2), .val (.ref b4), .unset, .unset, .unset, .unset, .unset] [(.long ((x1.toUInt64 >>> ((12 : Int32) &&& 0x3f).toInt64.toUInt64).toInt64)), (.int (v21 + (1 : Int32))), (.int (4 : Int32)), (.ref b4)])) _
    refine X23.ldc2Long hx hown (mvT hZ (hw _ (List.mem_of_getElem? (i := 2) rfl))) (g := (mkF m 103 #[.val (.int x0), .val (.long x1), .second, .val (.int x2), .val (.int x3), .val (.int x4), .val (.int v1), .val (.int v2), .val (.ref b4), .unset, .unset, .unset, .unset, .unset] [(.long ((x1.toUInt64 >>> ((12 : Int32) &&& 0x3f).toInt64.toUInt64).toInt64)), (.int (v21 + (1 : Int32))), (.int (4 : Int32)), (.ref b4)])) rfl (hb hby at_103) _ ?_
    show Steps p.tables e below (T23.setTop (mkF m 106 #[.val (.int x0), .val (.long x1), .second, .val (.int x2), .val (.int x3), .val (.int x4), .val (.int v1), .val (.int v2), .val (.ref b4), .unset, .unset, .unset, .unset, .unset] [(.long (15 : Int64)), (.long ((x1.toUInt64 >>> ((12 : Int32) &&& 0x3f).toInt64.toUInt64).toInt64)), (.int (v21 + (1 : Int32))), (.int (4 : Int32)), (.ref b4)])) _
    refine XS.land X23.here hx rfl (hb hby at_106) rfl ?_
    show Steps p.tables e below (T23.setTop (mkF m 107 #[.val (.int x0), .val (.long x1), .second, .val (.int x2), .val (.int x3), .val (.int x4), .val (.int v1), .val (.int v2), .val (.ref b4), .unset, .unset, .unset, .unset, .unset] [(.long (((x1.toUInt64 >>> ((12 : Int32) &&& 0x3f).toInt64.toUInt64).toInt64) &&& (15 : Int64))), (.int (v21 + (1 : Int32))), (.int (4 : Int32)), (.ref b4)])) _
    refine XS.l2i X23.here hx rfl (hb hby at_107) rfl ?_
    show Steps p.tables e below (T23.setTop (mkF m 108 #[.val (.int x0), .val (.long x1), .second, .val (.int x2), .val (.int x3), .val (.int x4), .val (.int v1), .val (.int v2), .val (.ref b4), .unset, .unset, .unset, .unset, .unset] [(.int ((((x1.toUInt64 >>> ((12 : Int32) &&& 0x3f).toInt64.toUInt64).toInt64) &&& (15 : Int64)).toInt32)), (.int (v21 + (1 : Int32))), (.int (4 : Int32)), (.ref b4)])) _
    refine XS.iadd X23.here hx rfl (hb hby at_108) rfl ?_
    show Steps p.tables e below (T23.setTop (mkF m 109 #[.val (.int x0), .val (.long x1), .second, .val (.int x2), .val (.int x3), .val (.int x4), .val (.int v1), .val (.int v2), .val (.ref b4), .unset, .unset, .unset, .unset, .unset] [(.int ((v21 + (1 : Int32)) + ((((x1.toUInt64 >>> ((12 : Int32) &&& 0x3f).toInt64.toUInt64).toInt64) &&& (15 : Int64)).toInt32))), (.int (4 : Int32)), (.ref b4)])) _
    exact Steps.refl _
  have pre27 := pre23.trans st27
  obtain ⟨cl28, Ar28, q28, S28, G28, H28, J28⟩ := id V23
  have in28 : ¬ ((4 : Int32) < 0 ∨ cl28.slots.size ≤ ((4 : Int32)).toNatClampNeg) := inb_of S28 ⟨by decide, by decide⟩
  obtain ⟨T28, h28, X28, e28, W28, st28⟩ := stI X23 hx hZ e23 Ar28 (j := (4 : Int32)) in28 (g := (mkF m 109 #[.val (.int x0), .val (.long x1), .second, .val (.int x2), .val (.int x3), .val (.int x4), .val (.int v1), .val (.int v2), .val (.ref b4), .unset, .unset, .unset, .unset, .unset] [(.int v26), (.int (4 : Int32)), (.ref b4)])) rfl rfl (hb hby at_109)
  have pre28 : Steps p.tables e below (s₁.setTop (entryFrame m #[(.int x0), (.long x1), (.int x2), (.int x3), (.int x4)] maxLocals)) (T28.setTop (mkF m 110 #[.val (.int x0), .val (.long x1), .second, .val (.int x2), .val (.int x3), .val (.int x4), .val (.int v1), .val (.int v2), .val (.ref b4), .unset, .unset, .unset, .unset, .unset] [])) := pre27.trans (st28 _ (Steps.refl _))
  have K28 := K23.wr W28 (Or.inr sz4)
  have Z28 : n0 ≤ h28.size := Nat.le_trans Z23 (Keep.of_wr W28).1
  have V28 : Arv Z h28 b4 k4 .int (7 : Int32) [(.int v6), (.int v11), (.int v16), (.int v21), (.int v26), (.int (0 : Int32)), (.int (0 : Int32))] (.int (0 : Int32)) := Arv.set Ar28 q28 S28 G28 H28 J28 rfl W28 4 rfl (Nat.le_of_ble_eq_true rfl)
  have N28 := Fr.snoc X28 N23 gn4
  obtain ⟨cl30, Ar30, q30, S30, G30, H30, J30⟩ := id V28
  have in30_4 : ¬ ((4 : Int32) < 0 ∨ cl30.slots.size ≤ ((4 : Int32)).toNatClampNeg) := inb_of S30 ⟨by decide, by decide⟩
  have at30_4 : cl30.slots[((4 : Int32)).toNatClampNeg]? = some (.int v26) := Has.at H30 in30_4 rfl
  obtain ⟨v31, hv31⟩ : ∃ z : Int32, z = ((v26 + (1 : Int32)) + ((((x1.toUInt64 >>> ((16 : Int32) &&& 0x3f).toInt64.toUInt64).toInt64) &&& (15 : Int64)).toInt32)) := ⟨_, rfl⟩
  have st32 : Steps p.tables e below (T28.setTop (mkF m 110 #[.val (.int x0), .val (.long x1), .second, .val (.int x2), .val (.int x3), .val (.int x4), .val (.int v1), .val (.int v2), .val (.ref b4), .unset, .unset, .unset, .unset, .unset] [])) (T28.setTop (mkF m 129 #[.val (.int x0), .val (.long x1), .second, .val (.int x2), .val (.int x3), .val (.int x4), .val (.int v1), .val (.int v2), .val (.ref b4), .unset, .unset, .unset, .unset, .unset] [(.int v31), (.int (5 : Int32)), (.ref b4)])) := by
    subst v31
    refine XS.aload X28.here hx rfl (hb hby at_110) rfl rfl ?_
    show Steps p.tables e below (T28.setTop (mkF m 112 #[.val (.int x0), .val (.long x1), .second, .val (.int x2), .val (.int x3), .val (.int x4), .val (.int v1), .val (.int v2), .val (.ref b4), .unset, .unset, .unset, .unset, .unset] [(.ref b4)])) _
    refine XS.iconst X28.here hx rfl (hb hby at_112) ?_
    show Steps p.tables e below (T28.setTop (mkF m 113 #[.val (.int x0), .val (.long x1), .second, .val (.int x2), .val (.int x3), .val (.int x4), .val (.int v1), .val (.int v2), .val (.ref b4), .unset, .unset, .unset, .unset, .unset] [(.int (5 : Int32)), (.ref b4)])) _
    refine XS.aload X28.here hx rfl (hb hby at_113) rfl rfl ?_
    show Steps p.tables e below (T28.setTop (mkF m 115 #[.val (.int x0), .val (.long x1), .second, .val (.int x2), .val (.int x3), .val (.int x4), .val (.int v1), .val (.int v2), .val (.ref b4), .unset, .unset, .unset, .unset, .unset] [(.ref b4), (.int (5 : Int32)), (.ref b4)])) _
    refine XS.iconst X28.here hx rfl (hb hby at_115) ?_
    show Steps p.tables e below (T28.setTop (mkF m 116 #[.val (.int x0), .val (.long x1), .second, .val (.int x2), .val (.int x3), .val (.int x4), .val (.int v1), .val (.int v2), .val (.ref b4), .unset, .unset, .unset, .unset, .unset] [(.int (4 : Int32)), (.ref b4), (.int (5 : Int32)), (.ref b4)])) _
    refine X28.iaload hx (j := (4 : Int32)) (v := (.int v26)) (by rw [e28]; exact Ar30.1) (State.isArrayOf_alike hZ.alike Ar30.2.1) Ar30.2.2 in30_4 at30_4 (g := (mkF m 116 #[.val (.int x0), .val (.long x1), .second, .val (.int x2), .val (.int x3), .val (.int x4), .val (.int v1), .val (.int v2), .val (.ref b4), .unset, .unset, .unset, .unset, .unset] [(.int (4 : Int32)), (.ref b4), (.int (5 : Int32)), (.ref b4)])) rfl rfl (hb hby at_116) _ ?_
    show Steps p.tables e below (T28.setTop (mkF m 117 #[.val (.int x0), .val (.long x1), .second, .val (.int x2), .val (.int x3), .val (.int x4), .val (.int v1), .val (.int v2), .val (.ref b4), .unset, .unset, .unset, .unset, .unset] [(.int v26), (.int (5 : Int32)), (.ref b4)])) _
    refine XS.iconst X28.here hx rfl (hb hby at_117) ?_
    show Steps p.tables e below (T28.setTop (mkF m 118 #[.val (.int x0), .val (.long x1), .second, .val (.int x2), .val (.int x3), .val (.int x4), .val (.int v1), .val (.int v2), .val (.ref b4), .unset, .unset, .unset, .unset, .unset] [(.int (1 : Int32)), (.int v26), (.int (5 : Int32)), (.ref b4)])) _
    refine XS.iadd X28.here hx rfl (hb hby at_118) rfl ?_
    show Steps p.tables e below (T28.setTop (mkF m 119 #[.val (.int x0), .val (.long x1), .second, .val (.int x2), .val (.int x3), .val (.int x4), .val (.int v1), .val (.int v2), .val (.ref b4), .unset, .unset, .unset, .unset, .unset] [(.int (v26 + (1 : Int32))), (.int (5 : Int32)), (.ref b4)])) _
    refine XS.lloadN X28.here hx rfl (hb hby at_119) rfl ?_
    show Steps p.tables e below (T28.setTop (mkF m 120 #[.val (.int x0), .val (.long x1), .second, .val (.int x2), .val (.int x3), .val (.int x4), .val (.int v1), .val (.int v2), .val (.ref b4), .unset, .unset, .unset, .unset, .unset] [(.long x1), (.int (v26 + (1 : Int32))), (.int (5 : Int32)), (.ref b4)])) _
    refine XS.bipush X28.here hx rfl (hb hby at_120) ?_
    show Steps p.tables e below (T28.setTop (mkF m 122 #[.val (.int x0), .val (.long x1), .second, .val (.int x2), .val (.int x3), .val (.int x4), .val (.int v1), .val (.int v2), .val (.ref b4), .unset, .unset, .unset, .unset, .unset] [(.int (16 : Int32)), (.long x1), (.int (v26 + (1 : Int32))), (.int (5 : Int32)), (.ref b4)])) _
    refine XS.lushr X28.here hx rfl (hb hby at_122) rfl ?_
    show Steps p.tables e below (T28.setTop (mkF m 123 #[.val (.int x0), .val (.long x1), .second, .val (.int x2), .val (.int x3), .val (.int x4), .val (.int v1), .val (.int v2), .val (.ref b4), .unset, .unset, .unset, .unset, .unset] [(.long ((x1.toUInt64 >>> ((16 : Int32) &&& 0x3f).toInt64.toUInt64).toInt64)), (.int (v26 + (1 : Int32))), (.int (5 : Int32)), (.ref b4)])) _
    refine X28.ldc2Long hx hown (mvT hZ (hw _ (List.mem_of_getElem? (i := 2) rfl))) (g := (mkF m 123 #[.val (.int x0), .val (.long x1), .second, .val (.int x2), .val (.int x3), .val (.int x4), .val (.int v1), .val (.int v2), .val (.ref b4), .unset, .unset, .unset, .unset, .unset] [(.long ((x1.toUInt64 >>> ((16 : Int32) &&& 0x3f).toInt64.toUInt64).toInt64)), (.int (v26 + (1 : Int32))), (.int (5 : Int32)), (.ref b4)])) rfl (hb hby at_123) _ ?_
    show Steps p.tables e below (T28.setTop (mkF m 126 #[.val (.int x0), .val (.long x1), .second, .val (.int x2), .val (.int x3), .val (.int x4), .val (.int v1), .val (.int v2), .val (.ref b4), .unset, .unset, .unset, .unset, .unset] [(.long (15 : Int64)), (.long ((x1.toUInt64 >>> ((16 : Int32) &&& 0x3f).toInt64.toUInt64).toInt64)), (.int (v26 + (1 : Int32))), (.int (5 : Int32)), (.ref b4)])) _
    refine XS.land X28.here hx rfl (hb hby at_126) rfl ?_
    show Steps p.tables e below (T28.setTop (mkF m 127 #[.val (.int x0), .val (.long x1), .second, .val (.int x2), .val (.int x3), .val (.int x4), .val (.int v1), .val (.int v2), .val (.ref b4), .unset, .unset, .unset, .unset, .unset] [(.long (((x1.toUInt64 >>> ((16 : Int32) &&& 0x3f).toInt64.toUInt64).toInt64) &&& (15 : Int64))), (.int (v26 + (1 : Int32))), (.int (5 : Int32)), (.ref b4)])) _
    refine XS.l2i X28.here hx rfl (hb hby at_127) rfl ?_
    show Steps p.tables e below (T28.setTop (mkF m 128 #[.val (.int x0), .val (.long x1), .second, .val (.int x2), .val (.int x3), .val (.int x4), .val (.int v1), .val (.int v2), .val (.ref b4), .unset, .unset, .unset, .unset, .unset] [(.int ((((x1.toUInt64 >>> ((16 : Int32) &&& 0x3f).toInt64.toUInt64).toInt64) &&& (15 : Int64)).toInt32)), (.int (v26 + (1 : Int32))), (.int (5 : Int32)), (.ref b4)])) _
    refine XS.iadd X28.here hx rfl (hb hby at_128) rfl ?_
    show Steps p.tables e below (T28.setTop (mkF m 129 #[.val (.int x0), .val (.long x1), .second, .val (.int x2), .val (.int x3), .val (.int x4), .val (.int v1), .val (.int v2), .val (.ref b4), .unset, .unset, .unset, .unset, .unset] [(.int ((v26 + (1 : Int32)) + ((((x1.toUInt64 >>> ((16 : Int32) &&& 0x3f).toInt64.toUInt64).toInt64) &&& (15 : Int64)).toInt32))), (.int (5 : Int32)), (.ref b4)])) _
    exact Steps.refl _
  have pre32 := pre28.trans st32
  obtain ⟨cl33, Ar33, q33, S33, G33, H33, J33⟩ := id V28
  have in33 : ¬ ((5 : Int32) < 0 ∨ cl33.slots.size ≤ ((5 : Int32)).toNatClampNeg) := inb_of S33 ⟨by decide, by decide⟩
  obtain ⟨T33, h33, X33, e33, W33, st33⟩ := stI X28 hx hZ e28 Ar33 (j := (5 : Int32)) in33 (g := (mkF m 129 #[.val (.int x0), .val (.long x1), .second, .val (.int x2), .val (.int x3), .val (.int x4), .val (.int v1), .val (.int v2), .val (.ref b4), .unset, .unset, .unset, .unset, .unset] [(.int v31), (.int (5 : Int32)), (.ref b4)])) rfl rfl (hb hby at_129)
  have pre33 : Steps p.tables e below (s₁.setTop (entryFrame m #[(.int x0), (.long x1), (.int x2), (.int x3), (.int x4)] maxLocals)) (T33.setTop (mkF m 130 #[.val (.int x0), .val (.long x1), .second, .val (.int x2), .val (.int x3), .val (.int x4), .val (.int v1), .val (.int v2), .val (.ref b4), .unset, .unset, .unset, .unset, .unset] [])) := pre32.trans (st33 _ (Steps.refl _))
  have K33 := K28.wr W33 (Or.inr sz4)
  have Z33 : n0 ≤ h33.size := Nat.le_trans Z28 (Keep.of_wr W33).1
  have V33 : Arv Z h33 b4 k4 .int (7 : Int32) [(.int v6), (.int v11), (.int v16), (.int v21), (.int v26), (.int v31), (.int (0 : Int32))] (.int (0 : Int32)) := Arv.set Ar33 q33 S33 G33 H33 J33 rfl W33 5 rfl (Nat.le_of_ble_eq_true rfl)
  have N33 := Fr.snoc X33 N28 gn4
  obtain ⟨cl35, Ar35, q35, S35, G35, H35, J35⟩ := id V33
  have in35_5 : ¬ ((5 : Int32) < 0 ∨ cl35.slots.size ≤ ((5 : Int32)).toNatClampNeg) := inb_of S35 ⟨by decide, by decide⟩
  have at35_5 : cl35.slots[((5 : Int32)).toNatClampNeg]? = some (.int v31) := Has.at H35 in35_5 rfl
  obtain ⟨v36, hv36⟩ : ∃ z : Int32, z = ((v31 + (1 : Int32)) + ((((x1.toUInt64 >>> ((20 : Int32) &&& 0x3f).toInt64.toUInt64).toInt64) &&& (15 : Int64)).toInt32)) := ⟨_, rfl⟩
  have st37 : Steps p.tables e below (T33.setTop (mkF m 130 #[.val (.int x0), .val (.long x1), .second, .val (.int x2), .val (.int x3), .val (.int x4), .val (.int v1), .val (.int v2), .val (.ref b4), .unset, .unset, .unset, .unset, .unset] [])) (T33.setTop (mkF m 150 #[.val (.int x0), .val (.long x1), .second, .val (.int x2), .val (.int x3), .val (.int x4), .val (.int v1), .val (.int v2), .val (.ref b4), .unset, .unset, .unset, .unset, .unset] [(.int v36), (.int (6 : Int32)), (.ref b4)])) := by
    subst v36
    refine XS.aload X33.here hx rfl (hb hby at_130) rfl rfl ?_
    show Steps p.tables e below (T33.setTop (mkF m 132 #[.val (.int x0), .val (.long x1), .second, .val (.int x2), .val (.int x3), .val (.int x4), .val (.int v1), .val (.int v2), .val (.ref b4), .unset, .unset, .unset, .unset, .unset] [(.ref b4)])) _
    refine XS.bipush X33.here hx rfl (hb hby at_132) ?_
    show Steps p.tables e below (T33.setTop (mkF m 134 #[.val (.int x0), .val (.long x1), .second, .val (.int x2), .val (.int x3), .val (.int x4), .val (.int v1), .val (.int v2), .val (.ref b4), .unset, .unset, .unset, .unset, .unset] [(.int (6 : Int32)), (.ref b4)])) _
    refine XS.aload X33.here hx rfl (hb hby at_134) rfl rfl ?_
    show Steps p.tables e below (T33.setTop (mkF m 136 #[.val (.int x0), .val (.long x1), .second, .val (.int x2), .val (.int x3), .val (.int x4), .val (.int v1), .val (.int v2), .val (.ref b4), .unset, .unset, .unset, .unset, .unset] [(.ref b4), (.int (6 : Int32)), (.ref b4)])) _
    refine XS.iconst X33.here hx rfl (hb hby at_136) ?_
    show Steps p.tables e below (T33.setTop (mkF m 137 #[.val (.int x0), .val (.long x1), .second, .val (.int x2), .val (.int x3), .val (.int x4), .val (.int v1), .val (.int v2), .val (.ref b4), .unset, .unset, .unset, .unset, .unset] [(.int (5 : Int32)), (.ref b4), (.int (6 : Int32)), (.ref b4)])) _
    refine X33.iaload hx (j := (5 : Int32)) (v := (.int v31)) (by rw [e33]; exact Ar35.1) (State.isArrayOf_alike hZ.alike Ar35.2.1) Ar35.2.2 in35_5 at35_5 (g := (mkF m 137 #[.val (.int x0), .val (.long x1), .second, .val (.int x2), .val (.int x3), .val (.int x4), .val (.int v1), .val (.int v2), .val (.ref b4), .unset, .unset, .unset, .unset, .unset] [(.int (5 : Int32)), (.ref b4), (.int (6 : Int32)), (.ref b4)])) rfl rfl (hb hby at_137) _ ?_
    show Steps p.tables e below (T33.setTop (mkF m 138 #[.val (.int x0), .val (.long x1), .second, .val (.int x2), .val (.int x3), .val (.int x4), .val (.int v1), .val (.int v2), .val (.ref b4), .unset, .unset, .unset, .unset, .unset] [(.int v31), (.int (6 : Int32)), (.ref b4)])) _
    refine XS.iconst X33.here hx rfl (hb hby at_138) ?_
    show Steps p.tables e below (T33.setTop (mkF m 139 #[.val (.int x0), .val (.long x1), .second, .val (.int x2), .val (.int x3), .val (.int x4), .val (.int v1), .val (.int v2), .val (.ref b4), .unset, .unset, .unset, .unset, .unset] [(.int (1 : Int32)), (.int v31), (.int (6 : Int32)), (.ref b4)])) _
    refine XS.iadd X33.here hx rfl (hb hby at_139) rfl ?_
    show Steps p.tables e below (T33.setTop (mkF m 140 #[.val (.int x0), .val (.long x1), .second, .val (.int x2), .val (.int x3), .val (.int x4), .val (.int v1), .val (.int v2), .val (.ref b4), .unset, .unset, .unset, .unset, .unset] [(.int (v31 + (1 : Int32))), (.int (6 : Int32)), (.ref b4)])) _
    refine XS.lloadN X33.here hx rfl (hb hby at_140) rfl ?_
    show Steps p.tables e below (T33.setTop (mkF m 141 #[.val (.int x0), .val (.long x1), .second, .val (.int x2), .val (.int x3), .val (.int x4), .val (.int v1), .val (.int v2), .val (.ref b4), .unset, .unset, .unset, .unset, .unset] [(.long x1), (.int (v31 + (1 : Int32))), (.int (6 : Int32)), (.ref b4)])) _
    refine XS.bipush X33.here hx rfl (hb hby at_141) ?_
    show Steps p.tables e below (T33.setTop (mkF m 143 #[.val (.int x0), .val (.long x1), .second, .val (.int x2), .val (.int x3), .val (.int x4), .val (.int v1), .val (.int v2), .val (.ref b4), .unset, .unset, .unset, .unset, .unset] [(.int (20 : Int32)), (.long x1), (.int (v31 + (1 : Int32))), (.int (6 : Int32)), (.ref b4)])) _
    refine XS.lushr X33.here hx rfl (hb hby at_143) rfl ?_
    show Steps p.tables e below (T33.setTop (mkF m 144 #[.val (.int x0), .val (.long x1), .second, .val (.int x2), .val (.int x3), .val (.int x4), .val (.int v1), .val (.int v2), .val (.ref b4), .unset, .unset, .unset, .unset, .unset] [(.long ((x1.toUInt64 >>> ((20 : Int32) &&& 0x3f).toInt64.toUInt64).toInt64)), (.int (v31 + (1 : Int32))), (.int (6 : Int32)), (.ref b4)])) _
    refine X33.ldc2Long hx hown (mvT hZ (hw _ (List.mem_of_getElem? (i := 2) rfl))) (g := (mkF m 144 #[.val (.int x0), .val (.long x1), .second, .val (.int x2), .val (.int x3), .val (.int x4), .val (.int v1), .val (.int v2), .val (.ref b4), .unset, .unset, .unset, .unset, .unset] [(.long ((x1.toUInt64 >>> ((20 : Int32) &&& 0x3f).toInt64.toUInt64).toInt64)), (.int (v31 + (1 : Int32))), (.int (6 : Int32)), (.ref b4)])) rfl (hb hby at_144) _ ?_
    show Steps p.tables e below (T33.setTop (mkF m 147 #[.val (.int x0), .val (.long x1), .second, .val (.int x2), .val (.int x3), .val (.int x4), .val (.int v1), .val (.int v2), .val (.ref b4), .unset, .unset, .unset, .unset, .unset] [(.long (15 : Int64)), (.long ((x1.toUInt64 >>> ((20 : Int32) &&& 0x3f).toInt64.toUInt64).toInt64)), (.int (v31 + (1 : Int32))), (.int (6 : Int32)), (.ref b4)])) _
    refine XS.land X33.here hx rfl (hb hby at_147) rfl ?_
    show Steps p.tables e below (T33.setTop (mkF m 148 #[.val (.int x0), .val (.long x1), .second, .val (.int x2), .val (.int x3), .val (.int x4), .val (.int v1), .val (.int v2), .val (.ref b4), .unset, .unset, .unset, .unset, .unset] [(.long (((x1.toUInt64 >>> ((20 : Int32) &&& 0x3f).toInt64.toUInt64).toInt64) &&& (15 : Int64))), (.int (v31 + (1 : Int32))), (.int (6 : Int32)), (.ref b4)])) _
    refine XS.l2i X33.here hx rfl (hb hby at_148) rfl ?_
    show Steps p.tables e below (T33.setTop (mkF m 149 #[.val (.int x0), .val (.long x1), .second, .val (.int x2), .val (.int x3), .val (.int x4), .val (.int v1), .val (.int v2), .val (.ref b4), .unset, .unset, .unset, .unset, .unset] [(.int ((((x1.toUInt64 >>> ((20 : Int32) &&& 0x3f).toInt64.toUInt64).toInt64) &&& (15 : Int64)).toInt32)), (.int (v31 + (1 : Int32))), (.int (6 : Int32)), (.ref b4)])) _
    refine XS.iadd X33.here hx rfl (hb hby at_149) rfl ?_
    show Steps p.tables e below (T33.setTop (mkF m 150 #[.val (.int x0), .val (.long x1), .second, .val (.int x2), .val (.int x3), .val (.int x4), .val (.int v1), .val (.int v2), .val (.ref b4), .unset, .unset, .unset, .unset, .unset] [(.int ((v31 + (1 : Int32)) + ((((x1.toUInt64 >>> ((20 : Int32) &&& 0x3f).toInt64.toUInt64).toInt64) &&& (15 : Int64)).toInt32))), (.int (6 : Int32)), (.ref b4)])) _
    exact Steps.refl _
  have pre37 := pre33.trans st37
  obtain ⟨cl38, Ar38, q38, S38, G38, H38, J38⟩ := id V33
  have in38 : ¬ ((6 : Int32) < 0 ∨ cl38.slots.size ≤ ((6 : Int32)).toNatClampNeg) := inb_of S38 ⟨by decide, by decide⟩
  obtain ⟨T38, h38, X38, e38, W38, st38⟩ := stI X33 hx hZ e33 Ar38 (j := (6 : Int32)) in38 (g := (mkF m 150 #[.val (.int x0), .val (.long x1), .second, .val (.int x2), .val (.int x3), .val (.int x4), .val (.int v1), .val (.int v2), .val (.ref b4), .unset, .unset, .unset, .unset, .unset] [(.int v36), (.int (6 : Int32)), (.ref b4)])) rfl rfl (hb hby at_150)
  have pre38 : Steps p.tables e below (s₁.setTop (entryFrame m #[(.int x0), (.long x1), (.int x2), (.int x3), (.int x4)] maxLocals)) (T38.setTop (mkF m 151 #[.val (.int x0), .val (.long x1), .second, .val (.int x2), .val (.int x3), .val (.int x4), .val (.int v1), .val (.int v2), .val (.ref b4), .unset, .unset, .unset, .unset, .unset] [])) := pre37.trans (st38 _ (Steps.refl _))
  have K38 := K33.wr W38 (Or.inr sz4)
  have Z38 : n0 ≤ h38.size := Nat.le_trans Z33 (Keep.of_wr W38).1
  have V38 : Arv Z h38 b4 k4 .int (7 : Int32) [(.int v6), (.int v11), (.int v16), (.int v21), (.int v26), (.int v31), (.int v36)] (.int (0 : Int32)) := Arv.set Ar38 q38 S38 G38 H38 J38 rfl W38 6 rfl (Nat.le_of_ble_eq_true rfl)
  have N38 := Fr.snoc X38 N33 gn4
  obtain ⟨cl40, Ar40, q40, S40, G40, H40, J40⟩ := id V38
  have in40_0 : ¬ ((0 : Int32) < 0 ∨ cl40.slots.size ≤ ((0 : Int32)).toNatClampNeg) := inb_of S40 ⟨by decide, by decide⟩
  have at40_0 : cl40.slots[((0 : Int32)).toNatClampNeg]? = some (.int v6) := Has.at H40 in40_0 rfl
  obtain ⟨v41, hv41⟩ : ∃ z : Int32, z = ((x3 &&& (2147483647 : Int32)) % (v1 + (1 : Int32))) := ⟨_, rfl⟩
  obtain ⟨v42, hv42⟩ : ∃ z : Int32, z = (if v2 = (0 : Int32) then x4 else ((v6 - (2 : Int32)) + (x4 &&& (127 : Int32)))) := ⟨_, rfl⟩
  have st43 : Steps p.tables e below (T38.setTop (mkF m 151 #[.val (.int x0), .val (.long x1), .second, .val (.int x2), .val (.int x3), .val (.int x4), .val (.int v1), .val (.int v2), .val (.ref b4), .unset, .unset, .unset, .unset, .unset] [])) (T38.setTop (mkF m 187 #[.val (.int x0), .val (.long x1), .second, .val (.int x2), .val (.int x3), .val (.int x4), .val (.int v1), .val (.int v2), .val (.ref b4), .val (.int v41), .val (.int v42), .unset, .unset, .unset] [])) := by
    subst v42 v41
    refine XS.iload X38.here hx rfl (hb hby at_151) rfl ?_
    show Steps p.tables e below (T38.setTop (mkF m 153 #[.val (.int x0), .val (.long x1), .second, .val (.int x2), .val (.int x3), .val (.int x4), .val (.int v1), .val (.int v2), .val (.ref b4), .unset, .unset, .unset, .unset, .unset] [(.int x3)])) _
    refine X38.ldcInt hx hown (mvT hZ (hw _ (List.mem_of_getElem? (i := 3) rfl))) (g := (mkF m 153 #[.val (.int x0), .val (.long x1), .second, .val (.int x2), .val (.int x3), .val (.int x4), .val (.int v1), .val (.int v2), .val (.ref b4), .unset, .unset, .unset, .unset, .unset] [(.int x3)])) rfl (hb hby at_153) _ ?_
    show Steps p.tables e below (T38.setTop (mkF m 155 #[.val (.int x0), .val (.long x1), .second, .val (.int x2), .val (.int x3), .val (.int x4), .val (.int v1), .val (.int v2), .val (.ref b4), .unset, .unset, .unset, .unset, .unset] [(.int (2147483647 : Int32)), (.int x3)])) _
    refine XS.iand X38.here hx rfl (hb hby at_155) rfl ?_
    show Steps p.tables e below (T38.setTop (mkF m 156 #[.val (.int x0), .val (.long x1), .second, .val (.int x2), .val (.int x3), .val (.int x4), .val (.int v1), .val (.int v2), .val (.ref b4), .unset, .unset, .unset, .unset, .unset] [(.int (x3 &&& (2147483647 : Int32)))])) _
    refine XS.iload X38.here hx rfl (hb hby at_156) rfl ?_
    show Steps p.tables e below (T38.setTop (mkF m 158 #[.val (.int x0), .val (.long x1), .second, .val (.int x2), .val (.int x3), .val (.int x4), .val (.int v1), .val (.int v2), .val (.ref b4), .unset, .unset, .unset, .unset, .unset] [(.int v1), (.int (x3 &&& (2147483647 : Int32)))])) _
    refine XS.iconst X38.here hx rfl (hb hby at_158) ?_
    show Steps p.tables e below (T38.setTop (mkF m 159 #[.val (.int x0), .val (.long x1), .second, .val (.int x2), .val (.int x3), .val (.int x4), .val (.int v1), .val (.int v2), .val (.ref b4), .unset, .unset, .unset, .unset, .unset] [(.int (1 : Int32)), (.int v1), (.int (x3 &&& (2147483647 : Int32)))])) _
    refine XS.iadd X38.here hx rfl (hb hby at_159) rfl ?_
    show Steps p.tables e below (T38.setTop (mkF m 160 #[.val (.int x0), .val (.long x1), .second, .val (.int x2), .val (.int x3), .val (.int x4), .val (.int v1), .val (.int v2), .val (.ref b4), .unset, .unset, .unset, .unset, .unset] [(.int (v1 + (1 : Int32))), (.int (x3 &&& (2147483647 : Int32)))])) _
    refine iremM X38 hx rfl (hb hby at_160) rfl (own_nz' (own_n hv1)) ?_
    show Steps p.tables e below (T38.setTop (mkF m 161 #[.val (.int x0), .val (.long x1), .second, .val (.int x2), .val (.int x3), .val (.int x4), .val (.int v1), .val (.int v2), .val (.ref b4), .unset, .unset, .unset, .unset, .unset] [(.int ((x3 &&& (2147483647 : Int32)) % (v1 + (1 : Int32))))])) _
    refine XS.istore X38.here hx rfl (hb hby at_161) rfl (l' := #[.val (.int x0), .val (.long x1), .second, .val (.int x2), .val (.int x3), .val (.int x4), .val (.int v1), .val (.int v2), .val (.ref b4), .val (.int ((x3 &&& (2147483647 : Int32)) % (v1 + (1 : Int32)))), .unset, .unset, .unset, .unset]) rfl ?_
    show Steps p.tables e below (T38.setTop (mkF m 163 #[.val (.int x0), .val (.long x1), .second, .val (.int x2), .val (.int x3), .val (.int x4), .val (.int v1), .val (.int v2), .val (.ref b4), .val (.int ((x3 &&& (2147483647 : Int32)) % (v1 + (1 : Int32)))), .unset, .unset, .unset, .unset] [])) _
    refine XS.iload X38.here hx rfl (hb hby at_163) rfl ?_
    show Steps p.tables e below (T38.setTop (mkF m 165 #[.val (.int x0), .val (.long x1), .second, .val (.int x2), .val (.int x3), .val (.int x4), .val (.int v1), .val (.int v2), .val (.ref b4), .val (.int ((x3 &&& (2147483647 : Int32)) % (v1 + (1 : Int32)))), .unset, .unset, .unset, .unset] [(.int v2)])) _
    refine Steps.trans (s₂ := T38.setTop (mkF m 185 #[.val (.int x0), .val (.long x1), .second, .val (.int x2), .val (.int x3), .val (.int x4), .val (.int v1), .val (.int v2), .val (.ref b4), .val (.int ((x3 &&& (2147483647 : Int32)) % (v1 + (1 : Int32)))), .unset, .unset, .unset, .unset] [(.int (if v2 = (0 : Int32) then x4 else ((v6 - (2 : Int32)) + (x4 &&& (127 : Int32)))))])) ?_ ?_
    · by_cases hc165 : v2 = (0 : Int32)
      · refine XS.ifYes X38.here hx rfl (pc0 := 165) (pc' := 183) rfl (hb hby at_165) rfl ((if0 _ _).trans (teq hc165).1) (by decide) (by decide) ?_
        show Steps p.tables e below (T38.setTop (mkF m 183 #[.val (.int x0), .val (.long x1), .second, .val (.int x2), .val (.int x3), .val (.int x4), .val (.int v1), .val (.int v2), .val (.ref b4), .val (.int ((x3 &&& (2147483647 : Int32)) % (v1 + (1 : Int32)))), .unset, .unset, .unset, .unset] [])) _
        refine XS.iload X38.here hx rfl (hb hby at_183) rfl ?_
        show Steps p.tables e below (T38.setTop (mkF m 185 #[.val (.int x0), .val (.long x1), .second, .val (.int x2), .val (.int x3), .val (.int x4), .val (.int v1), .val (.int v2), .val (.ref b4), .val (.int ((x3 &&& (2147483647 : Int32)) % (v1 + (1 : Int32)))), .unset, .unset, .unset, .unset] [(.int x4)])) _
        try simp only [if_pos hc165]
        exact Steps.refl _
      · refine XS.ifNo X38.here hx rfl (hb hby at_165) rfl ((if0 _ _).trans (feq hc165).1) ?_
        show Steps p.tables e below (T38.setTop (mkF m 168 #[.val (.int x0), .val (.long x1), .second, .val (.int x2), .val (.int x3), .val (.int x4), .val (.int v1), .val (.int v2), .val (.ref b4), .val (.int ((x3 &&& (2147483647 : Int32)) % (v1 + (1 : Int32)))), .unset, .unset, .unset, .unset] [])) _
        refine XS.aload X38.here hx rfl (hb hby at_168) rfl rfl ?_
        show Steps p.tables e below (T38.setTop (mkF m 170 #[.val (.int x0), .val (.long x1), .second, .val (.int x2), .val (.int x3), .val (.int x4), .val (.int v1), .val (.int v2), .val (.ref b4), .val (.int ((x3 &&& (2147483647 : Int32)) % (v1 + (1 : Int32)))), .unset, .unset, .unset, .unset] [(.ref b4)])) _
        refine XS.iconst X38.here hx rfl (hb hby at_170) ?_
        show Steps p.tables e below (T38.setTop (mkF m 171 #[.val (.int x0), .val (.long x1), .second, .val (.int x2), .val (.int x3), .val (.int x4), .val (.int v1), .val (.int v2), .val (.ref b4), .val (.int ((x3 &&& (2147483647 : Int32)) % (v1 + (1 : Int32)))), .unset, .unset, .unset, .unset] [(.int (0 : Int32)), (.ref b4)])) _
        refine X38.iaload hx (j := (0 : Int32)) (v := (.int v6)) (by rw [e38]; exact Ar40.1) (State.isArrayOf_alike hZ.alike Ar40.2.1) Ar40.2.2 in40_0 at40_0 (g := (mkF m 171 #[.val (.int x0), .val (.long x1), .second, .val (.int x2), .val (.int x3), .val (.int x4), .val (.int v1), .val (.int v2), .val (.ref b4), .val (.int ((x3 &&& (2147483647 : Int32)) % (v1 + (1 : Int32)))), .unset, .unset, .unset, .unset] [(.int (0 : Int32)), (.ref b4)])) rfl rfl (hb hby at_171) _ ?_
        show Steps p.tables e below (T38.setTop (mkF m 172 #[.val (.int x0), .val (.long x1), .second, .val (.int x2), .val (.int x3), .val (.int x4), .val (.int v1), .val (.int v2), .val (.ref b4), .val (.int ((x3 &&& (2147483647 : Int32)) % (v1 + (1 : Int32)))), .unset, .unset, .unset, .unset] [(.int v6)])) _
        refine XS.iconst X38.here hx rfl (hb hby at_172) ?_
        show Steps p.tables e below (T38.setTop (mkF m 173 #[.val (.int x0), .val (.long x1), .second, .val (.int x2), .val (.int x3), .val (.int x4), .val (.int v1), .val (.int v2), .val (.ref b4), .val (.int ((x3 &&& (2147483647 : Int32)) % (v1 + (1 : Int32)))), .unset, .unset, .unset, .unset] [(.int (2 : Int32)), (.int v6)])) _
        refine XS.isub X38.here hx rfl (hb hby at_173) rfl ?_
        show Steps p.tables e below (T38.setTop (mkF m 174 #[.val (.int x0), .val (.long x1), .second, .val (.int x2), .val (.int x3), .val (.int x4), .val (.int v1), .val (.int v2), .val (.ref b4), .val (.int ((x3 &&& (2147483647 : Int32)) % (v1 + (1 : Int32)))), .unset, .unset, .unset, .unset] [(.int (v6 - (2 : Int32)))])) _
        refine XS.iload X38.here hx rfl (hb hby at_174) rfl ?_
        show Steps p.tables e below (T38.setTop (mkF m 176 #[.val (.int x0), .val (.long x1), .second, .val (.int x2), .val (.int x3), .val (.int x4), .val (.int v1), .val (.int v2), .val (.ref b4), .val (.int ((x3 &&& (2147483647 : Int32)) % (v1 + (1 : Int32)))), .unset, .unset, .unset, .unset] [(.int x4), (.int (v6 - (2 : Int32)))])) _
        refine XS.bipush X38.here hx rfl (hb hby at_176) ?_
        show Steps p.tables e below (T38.setTop (mkF m 178 #[.val (.int x0), .val (.long x1), .second, .val (.int x2), .val (.int x3), .val (.int x4), .val (.int v1), .val (.int v2), .val (.ref b4), .val (.int ((x3 &&& (2147483647 : Int32)) % (v1 + (1 : Int32)))), .unset, .unset, .unset, .unset] [(.int (127 : Int32)), (.int x4), (.int (v6 - (2 : Int32)))])) _
        refine XS.iand X38.here hx rfl (hb hby at_178) rfl ?_
        show Steps p.tables e below (T38.setTop (mkF m 179 #[.val (.int x0), .val (.long x1), .second, .val (.int x2), .val (.int x3), .val (.int x4), .val (.int v1), .val (.int v2), .val (.ref b4), .val (.int ((x3 &&& (2147483647 : Int32)) % (v1 + (1 : Int32)))), .unset, .unset, .unset, .unset] [(.int (x4 &&& (127 : Int32))), (.int (v6 - (2 : Int32)))])) _
        refine XS.iadd X38.here hx rfl (hb hby at_179) rfl ?_
        show Steps p.tables e below (T38.setTop (mkF m 180 #[.val (.int x0), .val (.long x1), .second, .val (.int x2), .val (.int x3), .val (.int x4), .val (.int v1), .val (.int v2), .val (.ref b4), .val (.int ((x3 &&& (2147483647 : Int32)) % (v1 + (1 : Int32)))), .unset, .unset, .unset, .unset] [(.int ((v6 - (2 : Int32)) + (x4 &&& (127 : Int32))))])) _
        refine XS.goto X38.here hx rfl (pc0 := 180) (pc' := 185) rfl (hb hby at_180) (by decide) (by decide) ?_
        show Steps p.tables e below (T38.setTop (mkF m 185 #[.val (.int x0), .val (.long x1), .second, .val (.int x2), .val (.int x3), .val (.int x4), .val (.int v1), .val (.int v2), .val (.ref b4), .val (.int ((x3 &&& (2147483647 : Int32)) % (v1 + (1 : Int32)))), .unset, .unset, .unset, .unset] [(.int ((v6 - (2 : Int32)) + (x4 &&& (127 : Int32))))])) _
        try simp only [if_neg hc165]
        exact Steps.refl _
    show Steps p.tables e below (T38.setTop (mkF m 185 #[.val (.int x0), .val (.long x1), .second, .val (.int x2), .val (.int x3), .val (.int x4), .val (.int v1), .val (.int v2), .val (.ref b4), .val (.int ((x3 &&& (2147483647 : Int32)) % (v1 + (1 : Int32)))), .unset, .unset, .unset, .unset] [(.int (if v2 = (0 : Int32) then x4 else ((v6 - (2 : Int32)) + (x4 &&& (127 : Int32)))))])) _
    refine XS.istore X38.here hx rfl (hb hby at_185) rfl (l' := #[.val (.int x0), .val (.long x1), .second, .val (.int x2), .val (.int x3), .val (.int x4), .val (.int v1), .val (.int v2), .val (.ref b4), .val (.int ((x3 &&& (2147483647 : Int32)) % (v1 + (1 : Int32)))), .val (.int (if v2 = (0 : Int32) then x4 else ((v6 - (2 : Int32)) + (x4 &&& (127 : Int32))))), .unset, .unset, .unset]) rfl ?_
    show Steps p.tables e below (T38.setTop (mkF m 187 #[.val (.int x0), .val (.long x1), .second, .val (.int x2), .val (.int x3), .val (.int x4), .val (.int v1), .val (.int v2), .val (.ref b4), .val (.int ((x3 &&& (2147483647 : Int32)) % (v1 + (1 : Int32)))), .val (.int (if v2 = (0 : Int32) then x4 else ((v6 - (2 : Int32)) + (x4 &&& (127 : Int32))))), .unset, .unset, .unset] [])) _
    exact Steps.refl _
  have pre43 := pre38.trans st43
  have hN := own_n hv1
  have hE := own_en hN hv41
  have hY0 := own_y0 hv6
  have hY1 := own_y 1073741823 (by decide) hY0 hv11
  have hY2 := own_y 1073741839 (by decide) hY1.2 hv16
  have hY3 := own_y 1073741855 (by decide) hY2.2 hv21
  have hY4 := own_y 1073741871 (by decide) hY3.2 hv26
  have hY5 := own_y 1073741887 (by decide) hY4.2 hv31
  have hY6 := own_y 1073741903 (by decide) hY5.2 hv36
  have hS := own_srt (y0 := v6) ⟨hY1.1, hY2.1, hY3.1, hY4.1, hY5.1, hY6.1⟩
  obtain ⟨T44, h44, X44, e44, E44, A44, D44, -, st44⟩ := newO X38 hx hZ hown (hw _ (List.mem_of_getElem? (i := 4) rfl)) (hw _ (List.mem_of_getElem? (i := 5) rfl)) (hw _ (List.mem_of_getElem? (i := 6) rfl)) e38 (g := (mkF m 187 #[.val (.int x0), .val (.long x1), .second, .val (.int x2), .val (.int x3), .val (.int x4), .val (.int v1), .val (.int v2), .val (.ref b4), .val (.int v41), .val (.int v42), .unset, .unset, .unset] [])) rfl (hb hby at_187) (by decide) (by decide)
  obtain ⟨b44, g44⟩ : ∃ z, z = h38.size := ⟨_, rfl⟩
  rw [← g44] at A44 D44 st44
  have pre44 : Steps p.tables e below (s₁.setTop (entryFrame m #[(.int x0), (.long x1), (.int x2), (.int x3), (.int x4)] maxLocals)) (T44.setTop (mkF m 190 #[.val (.int x0), .val (.long x1), .second, .val (.int x2), .val (.int x3), .val (.int x4), .val (.int v1), .val (.int v2), .val (.ref b4), .val (.int v41), .val (.int v42), .unset, .unset, .unset] [(.ref b44)])) := pre43.trans (st44 _ (Steps.refl _))
  have gn44 : n0 ≤ b44 := Nat.le_trans Z38 (Nat.le_of_eq g44.symm)
  have sz44 : h0.size ≤ b44 := Nat.le_trans K38.1 (Nat.le_of_eq g44.symm)
  have neb4_b44 : b4 ≠ b44 := Nat.ne_of_lt (Nat.lt_of_lt_of_le V38.lt (Nat.le_of_eq g44.symm))
  have F45 : Arv Z h44 b4 k4 .int (7 : Int32) [(.int v6), (.int v11), (.int v16), (.int v21), (.int v26), (.int v31), (.int v36)] (.int (0 : Int32)) := V38.ext E44
  have K44 := K38.ext E44
  have Z44 : n0 ≤ h44.size := Nat.le_trans Z38 E44.1
  have F46 : Fld Z h44 b44 "com/example/portia/portia/index/Postings" "ordinals" "[I" .null := D44 (Or.inl (hw _ (List.mem_of_getElem? (i := 14) rfl))) (ty := (.array .int)) (by decide)
  have F47 : Fld Z h44 b44 "com/example/portia/portia/index/Postings" "frequencies" "[I" .null := D44 (Or.inl (hw _ (List.mem_of_getElem? (i := 16) rfl))) (ty := (.array .int)) (by decide)
  have F48 : Fld Z h44 b44 "com/example/portia/portia/index/Postings" "impactFrequencies" "[I" .null := D44 (Or.inl (hw _ (List.mem_of_getElem? (i := 18) rfl))) (ty := (.array .int)) (by decide)
  have F49 : Fld Z h44 b44 "com/example/portia/portia/index/Postings" "impactLengths" "[I" .null := D44 (Or.inl (hw _ (List.mem_of_getElem? (i := 20) rfl))) (ty := (.array .int)) (by decide)
  have F50 : Fld Z h44 b44 "com/example/portia/portia/index/Postings" "size" "I" (.int (0 : Int32)) := D44 (Or.inl (hw _ (List.mem_of_getElem? (i := 27) rfl))) (ty := .int) (by decide)
  have F51 : Fld Z h44 b44 "com/example/portia/portia/index/Postings" "documentFrequency" "I" (.int (0 : Int32)) := D44 (Or.inl (hw _ (List.mem_of_getElem? (i := 34) rfl))) (ty := .int) (by decide)
  have F52 : Fld Z h44 b44 "com/example/portia/portia/index/Postings" "impactCount" "I" (.int (0 : Int32)) := D44 (Or.inl (hw _ (List.mem_of_getElem? (i := 40) rfl))) (ty := .int) (by decide)
  have st53 : Steps p.tables e below (T44.setTop (mkF m 190 #[.val (.int x0), .val (.long x1), .second, .val (.int x2), .val (.int x3), .val (.int x4), .val (.int v1), .val (.int v2), .val (.ref b4), .val (.int v41), .val (.int v42), .unset, .unset, .unset] [(.ref b44)])) (T44.setTop (mkF m 191 #[.val (.int x0), .val (.long x1), .second, .val (.int x2), .val (.int x3), .val (.int x4), .val (.int v1), .val (.int v2), .val (.ref b4), .val (.int v41), .val (.int v42), .unset, .unset, .unset] [(.ref b44), (.ref b44)])) := by
    refine XS.dup X44.here hx rfl (hb hby at_190) rfl rfl ?_
    show Steps p.tables e below (T44.setTop (mkF m 191 #[.val (.int x0), .val (.long x1), .second, .val (.int x2), .val (.int x3), .val (.int x4), .val (.int v1), .val (.int v2), .val (.ref b4), .val (.int v41), .val (.int v42), .unset, .unset, .unset] [(.ref b44), (.ref b44)])) _
    exact Steps.refl _
  have pre53 := pre44.trans st53
  obtain ⟨_, _, ⟨T54, L54, k54, n54⟩, -, X54, ⟨Lc54, hQ54, l54, y54, z54⟩, st54⟩ := X44.specialBack hx (y := (⟨"com/example/portia/portia/index/Postings", "<init>", "()V"⟩ : MethodName)) rfl hown (mvT hZ (hw _ (List.mem_of_getElem? (i := 7) rfl))) (mvT hZ (hw _ (List.mem_of_getElem? (i := 8) rfl))) (mvT hZ (hw _ (List.mem_of_getElem? (i := 9) rfl))) (by decide) (backOf (W := 1) (rm1 l Z a0 hw [] b44 .null .null .null .null h44 n0 Z44 A44 F46 F47 F50 F51 F48 F49 F52 gn44) hZ (hw _ (List.mem_of_getElem? (i := 9) rfl)) (hw _ (List.mem_of_getElem? (i := 6) rfl)) (by decide) (by decide)) (g := (mkF m 191 #[.val (.int x0), .val (.long x1), .second, .val (.int x2), .val (.int x3), .val (.int x4), .val (.int v1), .val (.int v2), .val (.ref b4), .val (.int v41), .val (.int v42), .unset, .unset, .unset] [(.ref b44), (.ref b44)])) rfl (by rw [hml]; rfl) (Steps.refl _) (a := b44) (argsL := []) (rest := [(.ref b44)]) (lenOf pd0_0 rfl) rfl (by show 2 * 0 + _ ≤ _; exact Nat.le_of_eq rfl) (hb hby at_191) (fun _ _ => ⟨rfl, e44, (by decide : 2 + 4 ≤ _), (by decide : 14 + 6 ≤ _)⟩)
  dsimp only [Pt.U, Pt.locs, Pt.cells, Pt.slots] at X54 l54 y54 z54 st54 hQ54
  subst l54 y54 z54
  obtain ⟨ao_54, ko_54, af_54, kf_54, ai_54, ki_54, al_54, kl_54, rfl, Nq54, Kq54, P54_0, P54_1, P54_2, P54_3, P54_4, P54_5, P54_6, P54_7, P54_8, P54_9, P54_10, P54_11, SZ54_ao, SZ54_af, SZ54_ai, SZ54_al, NE54_ao_af, NE54_ao_ai, NE54_ao_al, NE54_af_ai, NE54_af_al, NE54_ai_al⟩ := hQ54
  have gnao_54 : n0 ≤ ao_54 := Nat.le_trans Z44 SZ54_ao
  have szao_54 : h0.size ≤ ao_54 := Nat.le_trans K44.1 SZ54_ao
  have neb4_ao_54 : b4 ≠ ao_54 := Nat.ne_of_lt (Nat.lt_of_lt_of_le F45.lt SZ54_ao)
  have neb44_ao_54 : b44 ≠ ao_54 := Nat.ne_of_lt (Nat.lt_of_lt_of_le A44.lt SZ54_ao)
  have gnaf_54 : n0 ≤ af_54 := Nat.le_trans Z44 SZ54_af
  have szaf_54 : h0.size ≤ af_54 := Nat.le_trans K44.1 SZ54_af
  have neb4_af_54 : b4 ≠ af_54 := Nat.ne_of_lt (Nat.lt_of_lt_of_le F45.lt SZ54_af)
  have neb44_af_54 : b44 ≠ af_54 := Nat.ne_of_lt (Nat.lt_of_lt_of_le A44.lt SZ54_af)
  have gnai_54 : n0 ≤ ai_54 := Nat.le_trans Z44 SZ54_ai
  have szai_54 : h0.size ≤ ai_54 := Nat.le_trans K44.1 SZ54_ai
  have neb4_ai_54 : b4 ≠ ai_54 := Nat.ne_of_lt (Nat.lt_of_lt_of_le F45.lt SZ54_ai)
  have neb44_ai_54 : b44 ≠ ai_54 := Nat.ne_of_lt (Nat.lt_of_lt_of_le A44.lt SZ54_ai)
  have gnal_54 : n0 ≤ al_54 := Nat.le_trans Z44 SZ54_al
  have szal_54 : h0.size ≤ al_54 := Nat.le_trans K44.1 SZ54_al
  have neb4_al_54 : b4 ≠ al_54 := Nat.ne_of_lt (Nat.lt_of_lt_of_le F45.lt SZ54_al)
  have neb44_al_54 : b44 ≠ al_54 := Nat.ne_of_lt (Nat.lt_of_lt_of_le A44.lt SZ54_al)
  have F55 : Arv Z T54.heap b4 k4 .int (7 : Int32) [(.int v6), (.int v11), (.int v16), (.int v21), (.int v26), (.int v31), (.int v36)] (.int (0 : Int32)) := F45.keep Kq54 (ninS neb4_b44 nin0)
  have F56 : Exa Z T54.heap b44 "com/example/portia/portia/index/Postings" := A44.keep Kq54
  have KK54 := K44.trans Kq54 (allS (Or.inr sz44) all0)
  have Z54 : n0 ≤ T54.heap.size := Nat.le_trans Z44 Kq54.1
  have N54 := Fr.app N38 Nq54
  have pre54 : Steps p.tables e below (s₁.setTop (entryFrame m #[(.int x0), (.long x1), (.int x2), (.int x3), (.int x4)] maxLocals)) (T54.setTop (mkF m 194 #[.val (.int x0), .val (.long x1), .second, .val (.int x2), .val (.int x3), .val (.int x4), .val (.int v1), .val (.int v2), .val (.ref b4), .val (.int v41), .val (.int v42), .unset, .unset, .unset] [(.ref b44)])) := pre53.trans st54
  have st64 : Steps p.tables e below (T54.setTop (mkF m 194 #[.val (.int x0), .val (.long x1), .second, .val (.int x2), .val (.int x3), .val (.int x4), .val (.int v1), .val (.int v2), .val (.ref b4), .val (.int v41), .val (.int v42), .unset, .unset, .unset] [(.ref b44)])) (T54.setTop (mkF m 196 #[.val (.int x0), .val (.long x1), .second, .val (.int x2), .val (.int x3), .val (.int x4), .val (.int v1), .val (.int v2), .val (.ref b4), .val (.int v41), .val (.int v42), .val (.ref b44), .unset, .unset] [])) := by
    refine XS.astore X54.here hx rfl (hb hby at_194) rfl rfl (l' := #[.val (.int x0), .val (.long x1), .second, .val (.int x2), .val (.int x3), .val (.int x4), .val (.int v1), .val (.int v2), .val (.ref b4), .val (.int v41), .val (.int v42), .val (.ref b44), .unset, .unset]) rfl ?_
    show Steps p.tables e below (T54.setTop (mkF m 196 #[.val (.int x0), .val (.long x1), .second, .val (.int x2), .val (.int x3), .val (.int x4), .val (.int v1), .val (.int v2), .val (.ref b4), .val (.int v41), .val (.int v42), .val (.ref b44), .unset, .unset] [])) _
    exact Steps.refl _
  have pre64 := pre54.trans st64
  obtain ⟨T65, lc65, Ls65, X65, N65, st65⟩ := ch0 X54 n0 Z54 N54 hx hZ hw hby hml hown rfl F56 P54_1 P54_2 P54_3 P54_4 P54_5 P54_6 P54_7 P54_8 P54_9 P54_10 P54_11 F55 gn44 gnao_54 gnaf_54 gnai_54 gnal_54 neb44_ao_54 neb44_af_54 neb44_ai_54 neb44_al_54 NE54_ao_af NE54_ao_ai NE54_ao_al NE54_af_ai NE54_af_al NE54_ai_al neb4_b44 neb4_ao_54 neb4_af_54 neb4_ai_54 neb4_al_54 hN hE hS
  have pre65 := pre64.trans st65
  obtain ⟨fs, hr, hrun, hended, hW, hsame⟩ := X65.leave (v := some (.int (1 : Int32))) (fun h => by rw [Bd.returns] at h; cases h)
  refine ⟨_, _, pre65.trans ?_, hrun, hended, _, _, rfl, ?_, ⟨_, rfl⟩, hW, hsame.mono (by decide) (by decide)⟩
  · show Steps p.tables e below (T65.setTop (mkF m 515 Ls65 [(.int (1 : Int32))])) _
    exact retN X65 hx (t := .boolean) Bd.returns (by simp) (hb hby at_515) hr
  · show Q0 Z x0 x1 x2 x3 x4 h0 n0 _ T65.heap _
    exact ⟨rfl, N65⟩
set_option maxRecDepth 65536 in
set_option maxHeartbeats 40000000 in
theorem comes_1 {Post : Tables → Env → Array Value → State → Outcome → State → Prop} (hpost : ∀ tb e args s v u, (limb_1_1.after args s (.returned v) u = true ∧ limb_1_2.after args s (.returned v) u = true ∧ True) → FrameEnd s (.returned v) u (Jvm.fieldLocs frame_1_writes args s ++ Jvm.arrayLocs frame_1_arrays args s ++ Jvm.staticLocs frame_1_statics s) 32 192 → Post tb e args s (.returned v) u) :
    ArmFor flags0 classFile x code maxLocals ret World_1 tables_1 room_1 Calls_1 rest_1 Pre_1 Post := by
  intro l hfl _ _ p e ha hc hk s m args below hf hA hF happ hP
  obtain ⟨hcalls, hrest, hpre⟩ := hP
  obtain ⟨-, -, -, hnamed, -, -, -, hat⟩ := (Spec.applies_iff hf).mp happ
  obtain ⟨hg, hn⟩ := and_e (Cond.before_iff.mp (show (Jvm.Cond.and given_1 narrow_1).before args s = true from hpre))
  obtain ⟨g1, g2⟩ := and_e hg
  obtain ⟨g3, g4⟩ := and_e g2
  obtain ⟨g5, g6⟩ := and_e g4
  obtain ⟨g7, g8⟩ := and_e g6
  obtain ⟨g9, g10⟩ := and_e g8
  obtain ⟨w0, w1, w2, w3, w4, rfl⟩ : ∃ w0 w1 w2 w3 w4 : Value, args = #[w0, w1, w2, w3, w4] := by
    have hs : args.size = 5 := by simpa [Cond.value, given_1] using g1
    obtain ⟨L⟩ := args
    match L, hs with
    | [w0, w1, w2, w3, w4], _ => exact ⟨w0, w1, w2, w3, w4, rfl⟩
  have hw := fun d (hd : d ∈ tables_1) => atoms_spec (ws := Jvm.Cond.code x code maxLocals ret :: tables_1) hat d (List.mem_cons_of_mem _ hd)
  obtain ⟨i0, ei0⟩ := is_v g3
  obtain rfl : w0 = (.int i0) := Option.some.inj ei0
  obtain ⟨i1, ei1⟩ := isL_v g5
  obtain rfl : w1 = (.long i1) := Option.some.inj ei1
  obtain ⟨i2, ei2⟩ := is_v g7
  obtain rfl : w2 = (.int i2) := Option.some.inj ei2
  obtain ⟨i3, ei3⟩ := is_v g9
  obtain rfl : w3 = (.int i3) := Option.some.inj ei3
  obtain ⟨i4, ei4⟩ := is_v g10
  obtain rfl : w4 = (.int i4) := Option.some.inj ei4
  obtain ⟨n, o, h1, h2, h3, _, L, rfl, ⟨rfl, N⟩, hq⟩ := rm0 l s _ hw tables_1 i0 i1 i2 i3 i4 s.heap s.heap.size (Nat.le_refl _) p e ha hc hk s m _ below hf ((Spec.applies_iff_loose hf).mp happ).1 ⟨rfl, State.Warmed39.refl s, rfl⟩ trivial
  refine ⟨n, _, h1, h2, h3, hpost _ _ _ _ _ _ ⟨Cond.after_iff.mpr rfl, Cond.after_iff.mpr (eq_i res_at (Term.int_eval (1)) rfl), trivial⟩ ⟨hq.1, hq.2.1, (hq.2.2.sift fun y hy => Or.inr (N y hy)).mono (by decide) (by decide)⟩⟩
theorem main_1_1 : Claimed_1_1 := comes_1 fun _ _ _ _ _ _ h hF => ⟨h.1, hF⟩
theorem main_1_2 : Claimed_1_2 := comes_1 fun _ _ _ _ _ _ h hF => ⟨h.2.1, hF⟩
end Jvm.Pilot.@@N@@
namespace Jvm.Pilot.@@N@@
open Jvm Jvm.ClassFile Sem Op Lib Jvm.Free Jvm.Stand Jvm.Pilot.@@N@@.Jvm.D
/-! MADE BY PROGRAM (witnessworld.py) out of the Statement's table words and the real class files: 12 classes; the members and pool entries that the words name. The judged class is class 1, her method 1. -/
namespace start1
open Jvm.ClassFile
def u (s : String) : CpInfo := .utf8 (stringToUtf16 s)
/-- a pool by its gaps: so many unusable entries, then the entry; so many at the end -/
def gap : Nat → List CpInfo → List CpInfo
  | 0, r => r
  | n + 1, r => .unusable :: gap n r
def poolList (es : List (Nat × CpInfo)) (last : Nat) : List CpInfo := es.foldr (fun e r => gap e.1 (e.2 :: r)) (gap last [])
def pool (es : List (Nat × CpInfo)) (last : Nat) : Array CpInfo := ⟨poolList es last⟩
def fileOf (pool : Array CpInfo) (this : Nat) (attrs : Array Attribute := #[]) (ms : Array MethodInfo := #[]) (fl : Nat := 33) (sup : Nat := 0) (ifs : Array Nat := #[]) (fds : Array FieldInfo := #[]) : ClassFile where
  minorVersion := 0
  majorVersion := 65
  constantPool := pool
  accessFlags := fl
  thisClass := this
  superClass := sup
  interfaces := ifs
  fields := fds
  methods := ms
  attributes := attrs
def plain (name : String) (sup : Option ClassId) : Class where
  name := name
  kind := .ordinary
  loader := none
  accessFlags := 33
  super := sup
  interfaces := #[]
  cf := none
  fields := #[]
  methods := #[]
  instanceTypes := #[]
  staticTypes := #[]
  resolved := #[]
  callSites := []
  init := .initialized
  statics := none
  mirror := none

def pool0 : Array CpInfo := pool [(5, u "<init>"), (0, u "()V"), (1, .class_ 10), (1, u "java/lang/Object")] 113

def k0c0 : Code := { maxStack := 0, maxLocals := 1, code := object_method_1_code, exceptionTable := #[], attributes := #[] }
def k0m0 : Method := { name := "<init>", desc := "()V", sig := { parameters := [], returnType := none }, accessFlags := 1, code := some k0c0 }
/-- java/lang/Object -/
def k0 : Class := { plain "java/lang/Object" none with
  accessFlags := 33
  interfaces := #[]
  cf := some (fileOf pool0 8 #[] #[{ accessFlags := 1, nameIndex := 5, descriptorIndex := 6, attributes := #[] }] 33 0 #[] #[])
  fields := #[]
  methods := #[k0m0]
  instanceTypes := #[]
  staticTypes := #[]
  resolved := Array.replicate 124 none
  statics := none }

def pool1 : Array CpInfo := pool [(2, .class_ 4), (0, .nameAndType 5 6), (0, u "java/lang/Object"), (0, u "<init>"), (0, u "()V"), (0, .integer 1073741823), (0, .long 15), (1, .integer 2147483647), (0, .class_ 12), (0, u "com/example/portia/portia/index/Postings"), (0, .methodref 11 3), (0, .methodref 11 15), (0, .nameAndType 16 17), (0, u "add"), (0, u "(III)V"), (0, .methodref 11 19), (0, .nameAndType 20 21), (0, u "advance"), (0, u "(II)I"), (0, .class_ 23), (0, u "com/example/portia/portia/index/PostingsAdvancePinLaw"), (2, u "law"), (0, u "(IJIII)Z")] 5

def k1m0 : Method := { name := "<init>", desc := "()V", sig := { parameters := [], returnType := none }, accessFlags := 1, code := none }
def k1c1 : Code := { maxStack := 7, maxLocals := 14, code := code, exceptionTable := #[], attributes := #[] }
def k1m1 : Method := { name := "law", desc := "(IJIII)Z", sig := { parameters := [.int, .long, .int, .int, .int], returnType := some .boolean }, accessFlags := 9, code := some k1c1 }
/-- com/example/portia/portia/index/PostingsAdvancePinLaw -/
def k1 : Class := { plain "com/example/portia/portia/index/PostingsAdvancePinLaw" (some 0) with
  accessFlags := 49
  interfaces := #[]
  cf := some (fileOf pool1 22 #[] #[{ accessFlags := 1, nameIndex := 5, descriptorIndex := 6, attributes := #[] }, { accessFlags := 9, nameIndex := 26, descriptorIndex := 27, attributes := #[] }] 49 2 #[] #[])
  fields := #[]
  methods := #[k1m0, k1m1]
  instanceTypes := #[]
  staticTypes := #[]
  resolved := Array.replicate 33 none
  statics := none }

def pool2 : Array CpInfo := pool [(1, .methodref 2 3), (0, .class_ 4), (0, .nameAndType 5 6), (0, u "java/lang/Object"), (0, u "<init>"), (0, u "()V"), (0, .fieldref 8 9), (0, .class_ 10), (0, .nameAndType 11 12), (0, u "com/example/portia/portia/index/Postings"), (0, u "ordinals"), (0, u "[I"), (0, .fieldref 8 14), (0, .nameAndType 15 12), (0, u "frequencies"), (0, .fieldref 8 17), (0, .nameAndType 18 12), (0, u "impactFrequencies"), (0, .fieldref 8 20), (0, .nameAndType 21 12), (0, u "impactLengths"), (0, .fieldref 8 23), (0, .nameAndType 24 25), (0, u "size"), (0, u "I"), (0, .fieldref 8 27), (0, .nameAndType 28 25), (0, u "documentFrequency"), (0, .fieldref 8 30), (0, .nameAndType 31 25), (0, u "impactCount"), (0, .methodref 33 34), (0, .class_ 35), (0, .nameAndType 36 37), (0, u "java/util/Arrays"), (0, u "copyOf"), (0, u "([II)[I"), (0, .methodref 8 39), (0, .nameAndType 40 41), (0, u "addImpact"), (0, u "(II)V"), (5, u "(II)I"), (6, u "advance"), (3, u "add"), (0, u "(III)V")] 5

def k2c0 : Code := { maxStack := 2, maxLocals := 1, code := prog_19_method_1_code, exceptionTable := #[], attributes := #[] }
def k2m0 : Method := { name := "<init>", desc := "()V", sig := { parameters := [], returnType := none }, accessFlags := 0, code := some k2c0 }
def k2c1 : Code := { maxStack := 3, maxLocals := 7, code := prog_19_method_5_code, exceptionTable := #[], attributes := #[] }
def k2m1 : Method := { name := "advance", desc := "(II)I", sig := { parameters := [.int, .int], returnType := some .int }, accessFlags := 1, code := some k2c1 }
def k2c2 : Code := { maxStack := 4, maxLocals := 4, code := prog_19_method_10_code, exceptionTable := #[], attributes := #[] }
def k2m2 : Method := { name := "add", desc := "(III)V", sig := { parameters := [.int, .int, .int], returnType := none }, accessFlags := 0, code := some k2c2 }
def k2c3 : Code := { maxStack := 4, maxLocals := 7, code := prog_19_method_11_code, exceptionTable := #[], attributes := #[] }
def k2m3 : Method := { name := "addImpact", desc := "(II)V", sig := { parameters := [.int, .int], returnType := none }, accessFlags := 2, code := some k2c3 }
/-- com/example/portia/portia/index/Postings -/
def k2 : Class := { plain "com/example/portia/portia/index/Postings" (some 0) with
  accessFlags := 49
  interfaces := #[]
  cf := some (fileOf pool2 8 #[] #[{ accessFlags := 0, nameIndex := 5, descriptorIndex := 6, attributes := #[] }, { accessFlags := 1, nameIndex := 54, descriptorIndex := 47, attributes := #[] }, { accessFlags := 0, nameIndex := 58, descriptorIndex := 59, attributes := #[] }, { accessFlags := 2, nameIndex := 40, descriptorIndex := 41, attributes := #[] }] 49 2 #[] #[{ accessFlags := 2, nameIndex := 11, descriptorIndex := 12, attributes := #[] }, { accessFlags := 2, nameIndex := 15, descriptorIndex := 12, attributes := #[] }, { accessFlags := 2, nameIndex := 24, descriptorIndex := 25, attributes := #[] }, { accessFlags := 2, nameIndex := 28, descriptorIndex := 25, attributes := #[] }, { accessFlags := 2, nameIndex := 18, descriptorIndex := 12, attributes := #[] }, { accessFlags := 2, nameIndex := 21, descriptorIndex := 12, attributes := #[] }, { accessFlags := 2, nameIndex := 31, descriptorIndex := 25, attributes := #[] }])
  fields := #[{ name := "ordinals", type := (.array .int), accessFlags := 2, slot := 0, constantValue := 0 }, { name := "frequencies", type := (.array .int), accessFlags := 2, slot := 1, constantValue := 0 }, { name := "size", type := .int, accessFlags := 2, slot := 2, constantValue := 0 }, { name := "documentFrequency", type := .int, accessFlags := 2, slot := 3, constantValue := 0 }, { name := "impactFrequencies", type := (.array .int), accessFlags := 2, slot := 4, constantValue := 0 }, { name := "impactLengths", type := (.array .int), accessFlags := 2, slot := 5, constantValue := 0 }, { name := "impactCount", type := .int, accessFlags := 2, slot := 6, constantValue := 0 }]
  methods := #[k2m0, k2m1, k2m2, k2m3]
  instanceTypes := #[(.array .int), (.array .int), .int, .int, (.array .int), (.array .int), .int]
  staticTypes := #[]
  resolved := Array.replicate 65 none
  statics := none }

def pool3 : Array CpInfo := pool [(2, .class_ 4), (1, u "java/lang/Object"), (0, u "<init>"), (0, u "()V"), (7, .class_ 16), (1, u "java/util/Arrays"), (57, .class_ 76), (1, u "java/util/Arrays$NaturalOrder"), (36, .class_ 115), (1, u "java/util/Arrays$LegacyMergeSort"), (1, u "Z"), (32, .methodref 151 152), (0, .class_ 153), (0, .nameAndType 154 155), (0, u "java/lang/System"), (0, u "arraycopy"), (0, u "(Ljava/lang/Object;ILjava/lang/Object;II)V"), (146, u "copyOf"), (1, .methodref 305 306), (0, .class_ 307), (0, .nameAndType 308 309), (0, u "java/lang/Math"), (0, u "min"), (0, u "(II)I"), (65, .class_ 376), (0, u "java/util/Arrays$ArrayList"), (68, u "$assertionsDisabled"), (269, u "MIN_ARRAY_SORT_GRAN"), (0, u "I"), (2, u "INSERTIONSORT_THRESHOLD"), (151, u "([II)[I"), (103, .class_ 976), (0, u "java/util/Arrays$ArrayItr")] 52

def k3m0 : Method := { name := "<init>", desc := "()V", sig := { parameters := [], returnType := none }, accessFlags := 2, code := none }
def k3c1 : Code := { maxStack := 6, maxLocals := 3, code := jdk_65_method_123_code, exceptionTable := #[], attributes := #[] }
def k3m1 : Method := { name := "copyOf", desc := "([II)[I", sig := { parameters := [(.array .int), .int], returnType := some (.array .int) }, accessFlags := 9, code := some k3c1 }
/-- java/util/Arrays -/
def k3 : Class := { plain "java/util/Arrays" (some 0) with
  accessFlags := 49
  interfaces := #[]
  cf := some (fileOf pool3 14 #[.nestMembers #[975, 375, 113, 74]] #[{ accessFlags := 2, nameIndex := 5, descriptorIndex := 6, attributes := #[] }, { accessFlags := 9, nameIndex := 302, descriptorIndex := 871, attributes := #[] }] 49 2 #[] #[{ accessFlags := 26, nameIndex := 715, descriptorIndex := 716, attributes := #[] }, { accessFlags := 26, nameIndex := 719, descriptorIndex := 716, attributes := #[] }, { accessFlags := 4120, nameIndex := 445, descriptorIndex := 117, attributes := #[] }])
  fields := #[{ name := "MIN_ARRAY_SORT_GRAN", type := .int, accessFlags := 26, slot := 0, constantValue := 0 }, { name := "INSERTIONSORT_THRESHOLD", type := .int, accessFlags := 26, slot := 1, constantValue := 0 }, { name := "$assertionsDisabled", type := .boolean, accessFlags := 4120, slot := 2, constantValue := 0 }]
  methods := #[k3m0, k3m1]
  instanceTypes := #[]
  staticTypes := #[.int, .int, .boolean]
  resolved := Array.replicate 1029 none
  statics := none }

def pool4 : Array CpInfo := pool [(1, .class_ 2), (0, u "java/lang/Math"), (1, .class_ 6), (1, u "java/lang/Object"), (0, u "<init>"), (0, u "()V"), (89, .class_ 100), (1, u "java/lang/Math$RandomNumberGeneratorHolder"), (71, u "negativeZeroFloatBits"), (0, u "J"), (2, u "negativeZeroDoubleBits"), (24, u "min"), (43, u "$assertionsDisabled"), (0, u "Z"), (88, u "(II)I"), (2, u "twoToTheDoubleScaleDown"), (0, u "D"), (4, u "twoToTheDoubleScaleUp"), (9, u "E"), (3, u "PI"), (2, u "TAU"), (2, u "DEGREES_TO_RADIANS"), (0, u "RADIANS_TO_DEGREES")] 94

def k4m0 : Method := { name := "<init>", desc := "()V", sig := { parameters := [], returnType := none }, accessFlags := 2, code := none }
def k4c1 : Code := { maxStack := 2, maxLocals := 2, code := jdk_29_method_69_code, exceptionTable := #[], attributes := #[] }
def k4m1 : Method := { name := "min", desc := "(II)I", sig := { parameters := [.int, .int], returnType := some .int }, accessFlags := 9, code := some k4c1 }
/-- java/lang/Math -/
def k4 : Class := { plain "java/lang/Math" (some 0) with
  accessFlags := 49
  interfaces := #[]
  cf := some (fileOf pool4 1 #[.nestMembers #[98]] #[{ accessFlags := 2, nameIndex := 7, descriptorIndex := 8, attributes := #[] }, { accessFlags := 9, nameIndex := 201, descriptorIndex := 335, attributes := #[] }] 49 4 #[] #[{ accessFlags := 25, nameIndex := 354, descriptorIndex := 339, attributes := #[] }, { accessFlags := 25, nameIndex := 358, descriptorIndex := 339, attributes := #[] }, { accessFlags := 25, nameIndex := 361, descriptorIndex := 339, attributes := #[] }, { accessFlags := 26, nameIndex := 364, descriptorIndex := 339, attributes := #[] }, { accessFlags := 26, nameIndex := 365, descriptorIndex := 339, attributes := #[] }, { accessFlags := 26, nameIndex := 172, descriptorIndex := 173, attributes := #[] }, { accessFlags := 26, nameIndex := 176, descriptorIndex := 173, attributes := #[] }, { accessFlags := 8, nameIndex := 344, descriptorIndex := 339, attributes := #[] }, { accessFlags := 8, nameIndex := 338, descriptorIndex := 339, attributes := #[] }, { accessFlags := 4120, nameIndex := 245, descriptorIndex := 246, attributes := #[] }])
  fields := #[{ name := "E", type := .double, accessFlags := 25, slot := 0, constantValue := 0 }, { name := "PI", type := .double, accessFlags := 25, slot := 1, constantValue := 0 }, { name := "TAU", type := .double, accessFlags := 25, slot := 2, constantValue := 0 }, { name := "DEGREES_TO_RADIANS", type := .double, accessFlags := 26, slot := 3, constantValue := 0 }, { name := "RADIANS_TO_DEGREES", type := .double, accessFlags := 26, slot := 4, constantValue := 0 }, { name := "negativeZeroFloatBits", type := .long, accessFlags := 26, slot := 5, constantValue := 0 }, { name := "negativeZeroDoubleBits", type := .long, accessFlags := 26, slot := 6, constantValue := 0 }, { name := "twoToTheDoubleScaleUp", type := .double, accessFlags := 8, slot := 7, constantValue := 0 }, { name := "twoToTheDoubleScaleDown", type := .double, accessFlags := 8, slot := 8, constantValue := 0 }, { name := "$assertionsDisabled", type := .boolean, accessFlags := 4120, slot := 9, constantValue := 0 }]
  methods := #[k4m0, k4m1]
  instanceTypes := #[]
  staticTypes := #[.double, .double, .double, .double, .double, .long, .long, .double, .double, .boolean]
  resolved := Array.replicate 460 none
  statics := none }

def pool5 : Array CpInfo := pool [(2, .class_ 4), (1, u "java/lang/Object"), (0, u "<init>"), (0, u "()V"), (1, .class_ 10), (1, u "java/lang/System"), (0, u "allowSecurityManager"), (0, u "I"), (16, u "cons"), (0, u "Ljava/io/Console;"), (77, .class_ 110), (1, u "java/lang/System$CallersHolder"), (43, u "initialErrStream"), (0, u "Ljava/io/PrintStream;"), (19, u "security"), (0, u "Ljava/lang/SecurityManager;"), (31, .class_ 209), (0, u "java/lang/System$1"), (7, u "props"), (0, u "Ljava/util/Properties;"), (2, u "lineSeparator"), (0, u "Ljava/lang/String;"), (96, .class_ 321), (1, u "java/lang/System$LoggerFinder"), (5, .class_ 328), (0, u "java/lang/System$Logger"), (67, u "err"), (2, u "out"), (91, u "notSupportedJnuEncoding"), (15, u "in"), (17, u "initialIn"), (0, u "Ljava/io/InputStream;"), (35, u "bootLayer"), (0, u "Ljava/lang/ModuleLayer;"), (99, .class_ 664), (0, u "java/lang/System$2"), (9, u "NEVER"), (2, u "MAYBE"), (49, u "arraycopy"), (0, u "(Ljava/lang/Object;ILjava/lang/Object;II)V"), (72, .class_ 802), (0, u "java/lang/System$Logger$Level")] 31

def k5m0 : Method := { name := "<init>", desc := "()V", sig := { parameters := [], returnType := none }, accessFlags := 2, code := none }
def k5m1 : Method := { name := "arraycopy", desc := "(Ljava/lang/Object;ILjava/lang/Object;II)V", sig := { parameters := [(.object "java/lang/Object"), .int, (.object "java/lang/Object"), .int, .int], returnType := none }, accessFlags := 265, code := none }
/-- java/lang/System -/
def k5 : Class := { plain "java/lang/System" (some 0) with
  accessFlags := 49
  interfaces := #[]
  cf := some (fileOf pool5 8 #[.nestMembers #[319, 327, 801, 108, 663, 208]] #[{ accessFlags := 2, nameIndex := 5, descriptorIndex := 6, attributes := #[] }, { accessFlags := 265, nameIndex := 727, descriptorIndex := 728, attributes := #[] }] 49 2 #[] #[{ accessFlags := 25, nameIndex := 507, descriptorIndex := 526, attributes := #[] }, { accessFlags := 25, nameIndex := 399, descriptorIndex := 155, attributes := #[] }, { accessFlags := 25, nameIndex := 396, descriptorIndex := 155, attributes := #[] }, { accessFlags := 10, nameIndex := 525, descriptorIndex := 526, attributes := #[] }, { accessFlags := 26, nameIndex := 674, descriptorIndex := 12, attributes := #[] }, { accessFlags := 26, nameIndex := 677, descriptorIndex := 12, attributes := #[] }, { accessFlags := 10, nameIndex := 11, descriptorIndex := 12, attributes := #[] }, { accessFlags := 74, nameIndex := 175, descriptorIndex := 176, attributes := #[] }, { accessFlags := 10, nameIndex := 491, descriptorIndex := 222, attributes := #[] }, { accessFlags := 74, nameIndex := 29, descriptorIndex := 30, attributes := #[] }, { accessFlags := 74, nameIndex := 154, descriptorIndex := 155, attributes := #[] }, { accessFlags := 10, nameIndex := 217, descriptorIndex := 218, attributes := #[] }, { accessFlags := 10, nameIndex := 221, descriptorIndex := 222, attributes := #[] }, { accessFlags := 8, nameIndex := 562, descriptorIndex := 563, attributes := #[] }])
  fields := #[{ name := "in", type := (.object "java/io/InputStream"), accessFlags := 25, slot := 0, constantValue := 0 }, { name := "out", type := (.object "java/io/PrintStream"), accessFlags := 25, slot := 1, constantValue := 0 }, { name := "err", type := (.object "java/io/PrintStream"), accessFlags := 25, slot := 2, constantValue := 0 }, { name := "initialIn", type := (.object "java/io/InputStream"), accessFlags := 10, slot := 3, constantValue := 0 }, { name := "NEVER", type := .int, accessFlags := 26, slot := 4, constantValue := 0 }, { name := "MAYBE", type := .int, accessFlags := 26, slot := 5, constantValue := 0 }, { name := "allowSecurityManager", type := .int, accessFlags := 10, slot := 6, constantValue := 0 }, { name := "security", type := (.object "java/lang/SecurityManager"), accessFlags := 74, slot := 7, constantValue := 0 }, { name := "notSupportedJnuEncoding", type := (.object "java/lang/String"), accessFlags := 10, slot := 8, constantValue := 0 }, { name := "cons", type := (.object "java/io/Console"), accessFlags := 74, slot := 9, constantValue := 0 }, { name := "initialErrStream", type := (.object "java/io/PrintStream"), accessFlags := 74, slot := 10, constantValue := 0 }, { name := "props", type := (.object "java/util/Properties"), accessFlags := 10, slot := 11, constantValue := 0 }, { name := "lineSeparator", type := (.object "java/lang/String"), accessFlags := 10, slot := 12, constantValue := 0 }, { name := "bootLayer", type := (.object "java/lang/ModuleLayer"), accessFlags := 8, slot := 13, constantValue := 0 }]
  methods := #[k5m0, k5m1]
  instanceTypes := #[]
  staticTypes := #[(.object "java/io/InputStream"), (.object "java/io/PrintStream"), (.object "java/io/PrintStream"), (.object "java/io/InputStream"), .int, .int, .int, (.object "java/lang/SecurityManager"), (.object "java/lang/String"), (.object "java/io/Console"), (.object "java/io/PrintStream"), (.object "java/util/Properties"), (.object "java/lang/String"), (.object "java/lang/ModuleLayer")]
  resolved := Array.replicate 834 none
  statics := none }

def pool6 : Array CpInfo := pool [(1, u "java/lang/Cloneable"), (0, .class_ 1), (0, u "java/lang/Object"), (0, .class_ 3)] 3

/-- java/lang/Cloneable -/
def k6 : Class := { plain "java/lang/Cloneable" (some 0) with
  accessFlags := 1537
  interfaces := #[]
  cf := some (fileOf pool6 2 #[] #[] 1537 4 #[] #[])
  fields := #[]
  methods := #[]
  instanceTypes := #[]
  staticTypes := #[]
  resolved := Array.replicate 8 none
  statics := none }

def pool7 : Array CpInfo := pool [(1, u "java/io/Serializable"), (0, .class_ 1), (0, u "java/lang/Object"), (0, .class_ 3)] 3

/-- java/io/Serializable -/
def k7 : Class := { plain "java/io/Serializable" (some 0) with
  accessFlags := 1537
  interfaces := #[]
  cf := some (fileOf pool7 2 #[] #[] 1537 4 #[] #[])
  fields := #[]
  methods := #[]
  instanceTypes := #[]
  staticTypes := #[]
  resolved := Array.replicate 8 none
  statics := none }

/-- the primitive byte -/
def k8 : Class := { plain "byte" none with kind := .primitive 'B', accessFlags := 0x411 }
/-- [B -/
def k9 : Class := { plain "[B" (some 0) with kind := .array 8 .byte, interfaces := #[6, 7], accessFlags := 1041 }

/-- the primitive int -/
def k10 : Class := { plain "int" none with kind := .primitive 'I', accessFlags := 0x411 }
/-- [I -/
def k11 : Class := { plain "[I" (some 0) with kind := .array 10 .int, interfaces := #[6, 7], accessFlags := 1041 }

def heap : Heap := #[]
def classes : Array Class := #[k0, k1, k2, k3, k4, k5, k6, k7, k8, k9, k10, k11]
def interned : List (Array UInt16 × Addr) := []
def slotsUsed : Nat := 0
def theMethod : MethodId := ⟨1, 1⟩
def args0 : Array Value := #[.int 5, .long 77, .int 1, .int 2, .int 4]
def aboutOver (below : List Frame) : State where
  vm := { classes := classes, interned := interned.toArray }
  heap := heap
  slotsUsed := slotsUsed
  threads := #[{ frames := .invoking theMethod args0 :: below }]
def below0 : List Frame := [.native { method := ⟨0, 0⟩, args := #[] }]
def about1 : State := aboutOver below0
def p0 : Program := .bare "" "" ""
def e0 : Env := launch0.env 0 0 0
theorem w_frames : about1.frames = Frame.invoking theMethod args0 :: below0 := rfl
set_option maxRecDepth 65536 in
theorem w_args : argsFit about1.vm theMethod args0 = true := by decide +kernel
set_option maxRecDepth 65536 in
theorem w_heap : heapFits about1 = true := by decide +kernel
set_option maxRecDepth 65536 in
theorem w_runnable : about1.curStatus? = some .runnable := by decide +kernel
set_option maxRecDepth 65536 in
theorem w_alone : about1.alone = true := by decide +kernel
set_option maxRecDepth 65536 in
theorem w_named : about1.methodNamed? x = some theMethod := by decide +kernel
set_option maxRecDepth 65536 in
theorem w_hears : about1.hears theMethod below0 = true := by decide +kernel
set_option maxRecDepth 65536 in
theorem w_ripe : about1.ripe theMethod args0 below0 = true := by decide +kernel
theorem w_running : about1.status = .running := rfl
set_option maxRecDepth 65536 in
theorem w_room : about1.hasRoom e0.platform room_1 = true :=
  launch0.hasRoom_least _ room_1 (by decide +kernel) (by decide +kernel) (by decide +kernel) (by decide +kernel) (by decide +kernel) (by decide +kernel)
theorem allAtoms_all (ts : List Jvm.Cond) (a : Array Jvm.Value) (st : Jvm.State) : (allAtoms ts).before a st = ts.all (fun c => c.before a st) := by
  induction ts with
  | nil => rfl
  | cons c t ih =>
    show (Jvm.Cond.and c (allAtoms t)).before a st = _
    rw [Jvm.Cond.before_and, ih, List.all_cons]
def words1 : List Jvm.Cond := Jvm.Cond.code x code maxLocals ret :: tables_1
/-- a 'code' word, met by the world's own term for the bytes: nothing is compared byte by byte -/
theorem code_word {y : MethodName} {bytes : ByteArray} {mx : Nat} {rt : Option FieldType} {a : Array Value} {s : State} {m : MethodId} {meth : Method} {c : Code} (h1 : s.methodNamed? y = some m) (h2 : s.vm.method? m = some meth) (h3 : meth.code = some c) (h4 : c.code = bytes)
    (h5 : (c.maxLocals == mx && c.exceptionTable.isEmpty && decide (c.maxStack ≤ mostOperands) && decide (meth.sig.returnType = rt) && !meth.locks && decide (parseMethodDescriptor y.desc = some meth.sig)) = true) : (Jvm.Cond.code y bytes mx rt).before a s = true := by
  simp only [Bool.and_eq_true, beq_iff_eq, Bool.not_eq_true', decide_eq_true_eq] at h5
  obtain ⟨⟨⟨⟨⟨g1, g2⟩, g3⟩, g4⟩, g5⟩, g6⟩ := h5
  simp [Cond.before, Cond.holds, Cond.value, h1, h2, h3, h4, g1, g2, g3, g4, g5, g6]
def isCode : Jvm.Cond → Bool
  | .code _ _ _ _ => true
  | _ => false
theorem all_split {L : List Jvm.Cond} {P : Jvm.Cond → Bool} (h1 : L.all (fun c => isCode c || P c) = true) (h2 : ∀ c ∈ L.filter isCode, P c = true) : L.all P = true := by
  refine List.all_eq_true.mpr fun c hc => ?_
  have h := List.all_eq_true.mp h1 c hc
  rcases Bool.eq_false_or_eq_true (isCode c) with hi | hi
  · exact h2 c (List.mem_filter.mpr ⟨hc, hi⟩)
  · simpa [hi] using h
set_option maxRecDepth 65536 in
theorem w_c0 : (Jvm.Cond.code x code maxLocals ret).before args0 about1 = true := code_word (m := ⟨1, 1⟩) (meth := k1m1) (c := k1c1) (by decide +kernel) rfl rfl rfl (by decide +kernel)
set_option maxRecDepth 65536 in
theorem w_c1 : (Jvm.Cond.code ({ cls := "com/example/portia/portia/index/Postings", name := "<init>", desc := "()V" } : Jvm.MethodName) prog_19_method_1_code (1 : Nat) (Option.none : Option Jvm.ClassFile.FieldType)).before args0 about1 = true := code_word (m := ⟨2, 0⟩) (meth := k2m0) (c := k2c0) (by decide +kernel) rfl rfl rfl (by decide +kernel)
set_option maxRecDepth 65536 in
theorem w_c2 : (Jvm.Cond.code ({ cls := "java/lang/Object", name := "<init>", desc := "()V" } : Jvm.MethodName) object_method_1_code (1 : Nat) (Option.none : Option Jvm.ClassFile.FieldType)).before args0 about1 = true := code_word (m := ⟨0, 0⟩) (meth := k0m0) (c := k0c0) (by decide +kernel) rfl rfl rfl (by decide +kernel)
set_option maxRecDepth 65536 in
theorem w_c3 : (Jvm.Cond.code ({ cls := "com/example/portia/portia/index/Postings", name := "advance", desc := "(II)I" } : Jvm.MethodName) prog_19_method_5_code (7 : Nat) (Option.some Jvm.ClassFile.FieldType.int)).before args0 about1 = true := code_word (m := ⟨2, 1⟩) (meth := k2m1) (c := k2c1) (by decide +kernel) rfl rfl rfl (by decide +kernel)
set_option maxRecDepth 65536 in
theorem w_c4 : (Jvm.Cond.code ({ cls := "com/example/portia/portia/index/Postings", name := "add", desc := "(III)V" } : Jvm.MethodName) prog_19_method_10_code (4 : Nat) (Option.none : Option Jvm.ClassFile.FieldType)).before args0 about1 = true := code_word (m := ⟨2, 2⟩) (meth := k2m2) (c := k2c2) (by decide +kernel) rfl rfl rfl (by decide +kernel)
set_option maxRecDepth 65536 in
theorem w_c5 : (Jvm.Cond.code ({ cls := "com/example/portia/portia/index/Postings", name := "addImpact", desc := "(II)V" } : Jvm.MethodName) prog_19_method_11_code (7 : Nat) (Option.none : Option Jvm.ClassFile.FieldType)).before args0 about1 = true := code_word (m := ⟨2, 3⟩) (meth := k2m3) (c := k2c3) (by decide +kernel) rfl rfl rfl (by decide +kernel)
set_option maxRecDepth 65536 in
theorem w_c6 : (Jvm.Cond.code ({ cls := "java/util/Arrays", name := "copyOf", desc := "([II)[I" } : Jvm.MethodName) jdk_65_method_123_code (3 : Nat) (Option.some (Jvm.ClassFile.FieldType.array Jvm.ClassFile.FieldType.int))).before args0 about1 = true := code_word (m := ⟨3, 1⟩) (meth := k3m1) (c := k3c1) (by decide +kernel) rfl rfl rfl (by decide +kernel)
set_option maxRecDepth 65536 in
theorem w_c7 : (Jvm.Cond.code ({ cls := "java/lang/Math", name := "min", desc := "(II)I" } : Jvm.MethodName) jdk_29_method_69_code (2 : Nat) (Option.some Jvm.ClassFile.FieldType.int)).before args0 about1 = true := code_word (m := ⟨4, 1⟩) (meth := k4m1) (c := k4c1) (by decide +kernel) rfl rfl rfl (by decide +kernel)
def codes1 : List Jvm.Cond := [Jvm.Cond.code x code maxLocals ret, Jvm.Cond.code ({ cls := "com/example/portia/portia/index/Postings", name := "<init>", desc := "()V" } : Jvm.MethodName) prog_19_method_1_code (1 : Nat) (Option.none : Option Jvm.ClassFile.FieldType), Jvm.Cond.code ({ cls := "java/lang/Object", name := "<init>", desc := "()V" } : Jvm.MethodName) object_method_1_code (1 : Nat) (Option.none : Option Jvm.ClassFile.FieldType), Jvm.Cond.code ({ cls := "com/example/portia/portia/index/Postings", name := "advance", desc := "(II)I" } : Jvm.MethodName) prog_19_method_5_code (7 : Nat) (Option.some Jvm.ClassFile.FieldType.int), Jvm.Cond.code ({ cls := "com/example/portia/portia/index/Postings", name := "add", desc := "(III)V" } : Jvm.MethodName) prog_19_method_10_code (4 : Nat) (Option.none : Option Jvm.ClassFile.FieldType), Jvm.Cond.code ({ cls := "com/example/portia/portia/index/Postings", name := "addImpact", desc := "(II)V" } : Jvm.MethodName) prog_19_method_11_code (7 : Nat) (Option.none : Option Jvm.ClassFile.FieldType), Jvm.Cond.code ({ cls := "java/util/Arrays", name := "copyOf", desc := "([II)[I" } : Jvm.MethodName) jdk_65_method_123_code (3 : Nat) (Option.some (Jvm.ClassFile.FieldType.array Jvm.ClassFile.FieldType.int)), Jvm.Cond.code ({ cls := "java/lang/Math", name := "min", desc := "(II)I" } : Jvm.MethodName) jdk_29_method_69_code (2 : Nat) (Option.some Jvm.ClassFile.FieldType.int)]
set_option maxRecDepth 65536 in
theorem codes_eq : words1.filter isCode = codes1 := rfl
theorem w_codes : ∀ c ∈ words1.filter isCode, c.before args0 about1 = true := by
  rw [codes_eq]
  intro c hc
  simp only [codes1, List.mem_cons, List.not_mem_nil, or_false] at hc
  rcases hc with rfl | rfl | rfl | rfl | rfl | rfl | rfl | rfl
  · exact w_c0
  · exact w_c1
  · exact w_c2
  · exact w_c3
  · exact w_c4
  · exact w_c5
  · exact w_c6
  · exact w_c7
set_option maxRecDepth 65536 in
theorem w_t1 : (words1.take 24).all (fun c => isCode c || c.before args0 about1) = true := by decide +kernel
set_option maxRecDepth 65536 in
theorem w_t2 : ((words1.drop 24).take 24).all (fun c => isCode c || c.before args0 about1) = true := by decide +kernel
set_option maxRecDepth 65536 in
theorem w_t3 : ((words1.drop 24).drop 24).all (fun c => isCode c || c.before args0 about1) = true := by decide +kernel
theorem w_tables : (allAtoms (Jvm.Cond.code x code maxLocals ret :: tables_1)).before args0 about1 = true := by
  rw [allAtoms_all]
  show words1.all (fun c => c.before args0 about1) = true
  refine all_split ?_ w_codes
  rw [← List.take_append_drop 24 words1, List.all_append, w_t1, ← List.take_append_drop 24 (words1.drop 24), List.all_append, w_t2, w_t3]
  rfl
set_option maxRecDepth 65536 in
theorem w_case : (Jvm.Cond.and given_1 narrow_1).before args0 about1 = true := by decide +kernel
theorem w_applies : (headSpec (Jvm.Cond.code x code maxLocals ret :: tables_1) room_1).applies x e0.platform about1 = true :=
  (Spec.applies_iff w_frames).mpr ⟨w_running, w_runnable, w_alone, w_named, w_hears, w_ripe, w_room, w_tables⟩
theorem atStart : AtStart classFile x code maxLocals ret World_1 tables_1 room_1 Calls_1 rest_1 Pre_1 launch0 p0 e0 about1 theMethod args0 below0 :=
  ⟨lists_1, trivial, launch0.admits_env _ _ _, launch0.least_env, fairChoices_fair.cas, fairChoices_fair.clock, w_frames, w_args, w_heap, w_applies, trivial, trivial, w_case⟩
end start1
theorem witness_1 : WitnessClaimed_1 := ⟨start1.p0, start1.e0, start1.about1, start1.theMethod, start1.args0, start1.below0, start1.atStart⟩
end Jvm.Pilot.@@N@@
