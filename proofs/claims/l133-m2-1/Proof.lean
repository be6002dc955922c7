import JvmDerived
import JvmDerived.Pilot.@@N@@Statement
import JvmDerived.Pilot.@@N@@Code
set_option linter.unusedVariables false
set_option linter.unusedSimpArgs false
namespace Jvm.RoadKit
open Sem ClassFile Op Lib Jvm.Stand Jvm.Free Jvm.LawKit
section New
variable {p : Program} {l : Launch} {e : Env} {R : Room} {s : State} {m : MethodId} {args : Array Value} {below : List Frame} {meth : Method} {c : Code} {T : State} {locs : List Loc} {cells slots : Nat}
theorem retI (X : Stand p l e R s m args below meth c T locs cells slots) (hx : p.tables.exec = Jvm.exec) {pc : Nat} {Ls : Array Slot} {z : Int32} {rest : List Value} (hret : meth.sig.returnType = some .int) (hd : decode c.code pc = .ok (.ireturn, 1)) {fs : List Frame}
    (hl : ∀ (f : JFrame) (acts : List Action), f.method = m → f.locked = none → f.entered = [] → (doReturn e (T.setTop f) acts (some (.int z))).1 = T.setFrames fs) : Steps p.tables e below (T.setTop (mkF m pc Ls (.int z :: rest))) (T.setFrames fs) := by
  have hm' : T.vm.method? m = some meth := X.method'
  have hn : narrow .int (.int z) = .int z := rfl
  show Steps p.tables e below (T.setTop { method := m, pc := pc, locals := Ls, stack := _ :: rest, locked := none }) _
  jvm_step X.here [X.here.top, hx, hd, hm', hret, hn]
  first | (intro acts; rw [hl _ acts rfl rfl rfl]) | rw [hl _ _ rfl rfl rfl]
  exact Steps.refl _
end New
end Jvm.RoadKit
namespace Jvm.Pilot.@@N@@
open Jvm Jvm.ClassFile Sem Op Lib Jvm.Free Jvm.Stand Jvm.LawKit Jvm.RoadKit Bundle Jvm.Pilot.@@N@@.Jvm.D

theorem own_mask (x : Int32) : 0 ≤ (x &&& (2147483647 : Int32)).toInt ∧ (x &&& (2147483647 : Int32)).toInt ≤ 2147483647 := by
  have q := c_and x (2147483647 : Int32) (by decide)
  have e : (2147483647 : Int32).toInt = 2147483647 := by decide
  omega
theorem d1_0 : decode jdk_30_method_1_code 0 = .ok (.aload_n 0, 1) := by decide +kernel
theorem d1_1 : decode jdk_30_method_1_code 1 = .ok (.invokespecial 1, 3) := by decide +kernel
theorem d1_4 : decode jdk_30_method_1_code 4 = .ok (.return_, 1) := by decide +kernel
theorem pn1 : plainName "java/lang/Record" = true := by first | (simp [plainName, overriddenIn]; done) | decide +kernel
theorem ef1 (m : MethodId) (x0 : Addr) : entryFrame m #[(.ref x0)] 1 = mkF m 0 #[.val (.ref x0)] [] := by first | (simp [entryFrame, mkF, argsToLocals, Value.category]; done) | rfl
def Q1 (Z : State) (x0 : Addr) (h0 : Heap) (n0 : Nat) (v : Option Value) (h : Heap) (L : List Loc) : Prop := v = none ∧ Fr n0 L ∧ h = h0
set_option maxRecDepth 65536 in
set_option maxHeartbeats 40000000 in
theorem rm1 (l : Launch) (Z : State) (a0 : Array Value) (hw : ∀ d ∈ tables_1, d.before a0 Z = true) (ws : List Jvm.Cond) (x0 : Addr) (h0 : Heap) (n0 : Nat) (Z0 : n0 ≤ h0.size) :
    MetFree l (⟨"java/lang/Record", "<init>", "()V"⟩ : MethodName) (head1 (Jvm.Cond.code (⟨"java/lang/Record", "<init>", "()V"⟩ : MethodName) jdk_30_method_1_code 1 none :: ws) ({ frames := 1, cells := 0, slots := 0, locals := 12 } : Room)) (fun a U => a = #[(.ref x0)] ∧ Z.Warmed39 U.vm ∧ U.heap = h0) (fun _ _ _ _ _ => True) (fun _ U o U' => ∃ v L, o = .returned v ∧ Q1 Z x0 h0 n0 v U'.heap L ∧ FrameEnd U o U' L ({ frames := 1, cells := 0, slots := 0, locals := 12 } : Room).cells ({ frames := 1, cells := 0, slots := 0, locals := 12 } : Room).slots) := by
  refine MetFree.of_bodySF (plainFor_of_name pn1) hisR ?_
  intro p e s m args below meth c s₁ Bd hml0 hP hK
  obtain ⟨rfl, hZ, hh⟩ := hP
  have hx := Bd.exec
  have hby := Bd.bytes
  have hml : c.maxLocals = 1 := hml0
  have hown : s.vm.findClass "java/lang/Record" = some m.cls := findClass_of_methodNamed Bd.named
  have hnm := (name_of_methodNamed Bd.named Bd.method).1
  have X0 : Stand p l e ({ frames := 1, cells := 0, slots := 0, locals := 12 } : Room) s m #[(.ref x0)] below meth c s₁ [] 0 0 := Stand.of_body Bd
  have e0 : s₁.heap = h0 := by rw [← hh, Bd.state]; rfl
  have N0 := Fr.nil n0
  have pre0 : Steps p.tables e below (s₁.setTop (entryFrame m #[(.ref x0)] 1)) (s₁.setTop (mkF m 0 #[.val (.ref x0)] [])) := castTop (ef1 m x0) (Steps.refl _)
  have st1 : Steps p.tables e below (s₁.setTop (mkF m 0 #[.val (.ref x0)] [])) (s₁.setTop (mkF m 1 #[.val (.ref x0)] [(.ref x0)])) := by
    refine XS.aloadN X0.here hx rfl (hb hby d1_0) rfl rfl ?_
    show Steps p.tables e below (s₁.setTop (mkF m 1 #[.val (.ref x0)] [(.ref x0)])) _
    exact Steps.refl _
  have pre1 := pre0.trans st1
  obtain ⟨T2, X2, e2, st2⟩ := initO X0 hx hZ hown (hw _ (List.mem_of_getElem? (i := 13) rfl)) (hw _ (List.mem_of_getElem? (i := 14) rfl)) (hw _ (List.mem_of_getElem? (i := 15) rfl)) e0 (g := (mkF m 1 #[.val (.ref x0)] [(.ref x0)])) rfl (by rw [hml]; rfl) rfl (hb hby d1_1) (by decide) (W := 0) (by show 2 * 0 + _ ≤ _; exact Nat.le_of_eq rfl) (by decide)
  have pre2 : Steps p.tables e below (s₁.setTop (entryFrame m #[(.ref x0)] 1)) (T2.setTop (mkF m 4 #[.val (.ref x0)] [])) := pre1.trans (st2 _ (Steps.refl _))
  obtain ⟨fs, hr, hrun, hended, hW, hsame⟩ := X2.leave (v := none) (fun _ => rfl)
  refine ⟨_, _, pre2.trans ?_, hrun, hended, _, _, rfl, ?_, ⟨_, rfl⟩, hW, hsame.mono (by decide) (by decide)⟩
  · show Steps p.tables e below (T2.setTop (mkF m 4 #[.val (.ref x0)] [])) _
    exact X2.returnOut hx Bd.returns (hb hby d1_4) hr
  · show Q1 Z x0 h0 n0 _ T2.heap _
    rw [e2]
    exact ⟨rfl, N0, rfl⟩
theorem d2_0 : decode prog_8_method_1_code 0 = .ok (.aload_n 0, 1) := by decide +kernel
theorem d2_1 : decode prog_8_method_1_code 1 = .ok (.invokespecial 1, 3) := by decide +kernel
theorem d2_4 : decode prog_8_method_1_code 4 = .ok (.iload_n 1, 1) := by decide +kernel
theorem d2_5 : decode prog_8_method_1_code 5 = .ok (.ifCond .lt 8, 3) := by decide +kernel
theorem d2_8 : decode prog_8_method_1_code 8 = .ok (.iload_n 2, 1) := by decide +kernel
theorem d2_9 : decode prog_8_method_1_code 9 = .ok (.iload_n 1, 1) := by decide +kernel
theorem d2_10 : decode prog_8_method_1_code 10 = .ok (.if_icmp .ge 18, 3) := by decide +kernel
theorem d2_28 : decode prog_8_method_1_code 28 = .ok (.aload_n 0, 1) := by decide +kernel
theorem d2_29 : decode prog_8_method_1_code 29 = .ok (.iload_n 1, 1) := by decide +kernel
theorem d2_30 : decode prog_8_method_1_code 30 = .ok (.putfield 16, 3) := by decide +kernel
theorem d2_33 : decode prog_8_method_1_code 33 = .ok (.aload_n 0, 1) := by decide +kernel
theorem d2_34 : decode prog_8_method_1_code 34 = .ok (.iload_n 2, 1) := by decide +kernel
theorem d2_35 : decode prog_8_method_1_code 35 = .ok (.putfield 22, 3) := by decide +kernel
theorem d2_38 : decode prog_8_method_1_code 38 = .ok (.return_, 1) := by decide +kernel
theorem pn2 : plainName "com/example/vesper/vesper/model/FreeRun" = true := by first | (simp [plainName, overriddenIn]; done) | decide +kernel
theorem pd2_0 : parseMethodDescriptor "()V" = some ⟨[], none⟩ := by decide +kernel
theorem ef2 (m : MethodId) (x0 : Addr) (x1 : Int32) (x2 : Int32) : entryFrame m #[(.ref x0), (.int x1), (.int x2)] 3 = mkF m 0 #[.val (.ref x0), .val (.int x1), .val (.int x2)] [] := by first | (simp [entryFrame, mkF, argsToLocals, Value.category]; done) | rfl
def Q2 (Z : State) (x0 : Addr) (x1 : Int32) (x2 : Int32) (u0 : Value) (u1 : Value) (h0 : Heap) (n0 : Nat) (v : Option Value) (h : Heap) (L : List Loc) : Prop := v = none ∧ Fr n0 L ∧ Keep h0 h [x0] ∧ Exa Z h x0 "com/example/vesper/vesper/model/FreeRun" ∧ Fld Z h x0 "com/example/vesper/vesper/model/FreeRun" "firstSlot" "I" (.int x1) ∧ Fld Z h x0 "com/example/vesper/vesper/model/FreeRun" "lastSlot" "I" (.int x2)
set_option maxRecDepth 65536 in
set_option maxHeartbeats 40000000 in
theorem rm2 (l : Launch) (Z : State) (a0 : Array Value) (hw : ∀ d ∈ tables_1, d.before a0 Z = true) (ws : List Jvm.Cond) (x0 : Addr) (x1 : Int32) (x2 : Int32) (u0 : Value) (u1 : Value) (h0 : Heap) (n0 : Nat) (Z0 : n0 ≤ h0.size) (B0 : Exa Z h0 x0 "com/example/vesper/vesper/model/FreeRun") (B1 : Fld Z h0 x0 "com/example/vesper/vesper/model/FreeRun" "firstSlot" "I" u0) (B2 : Fld Z h0 x0 "com/example/vesper/vesper/model/FreeRun" "lastSlot" "I" u1) (g_x0 : n0 ≤ x0) (hp0 : ¬ (x1 < (0 : Int32))) (hp1 : ¬ (x2 < x1)) :
    MetFree l (⟨"com/example/vesper/vesper/model/FreeRun", "<init>", "(II)V"⟩ : MethodName) (head1 (Jvm.Cond.code (⟨"com/example/vesper/vesper/model/FreeRun", "<init>", "(II)V"⟩ : MethodName) prog_8_method_1_code 3 none :: ws) ({ frames := 2, cells := 0, slots := 0, locals := 24 } : Room)) (fun a U => a = #[(.ref x0), (.int x1), (.int x2)] ∧ Z.Warmed39 U.vm ∧ U.heap = h0) (fun _ _ _ _ _ => True) (fun _ U o U' => ∃ v L, o = .returned v ∧ Q2 Z x0 x1 x2 u0 u1 h0 n0 v U'.heap L ∧ FrameEnd U o U' L ({ frames := 2, cells := 0, slots := 0, locals := 24 } : Room).cells ({ frames := 2, cells := 0, slots := 0, locals := 24 } : Room).slots) := by
  refine MetFree.of_bodySF (plainFor_of_name pn2) hisR ?_
  intro p e s m args below meth c s₁ Bd hml0 hP hK
  obtain ⟨rfl, hZ, hh⟩ := hP
  have hx := Bd.exec
  have hby := Bd.bytes
  have hml : c.maxLocals = 3 := hml0
  have hown : s.vm.findClass "com/example/vesper/vesper/model/FreeRun" = some m.cls := findClass_of_methodNamed Bd.named
  have hnm := (name_of_methodNamed Bd.named Bd.method).1
  have X0 : Stand p l e ({ frames := 2, cells := 0, slots := 0, locals := 24 } : Room) s m #[(.ref x0), (.int x1), (.int x2)] below meth c s₁ [] 0 0 := Stand.of_body Bd
  have e0 : s₁.heap = h0 := by rw [← hh, Bd.state]; rfl
  have N0 := Fr.nil n0
  have pre0 : Steps p.tables e below (s₁.setTop (entryFrame m #[(.ref x0), (.int x1), (.int x2)] 3)) (s₁.setTop (mkF m 0 #[.val (.ref x0), .val (.int x1), .val (.int x2)] [])) := castTop (ef2 m x0 x1 x2) (Steps.refl _)
  have K0 := Keep.refl h0 [x0]
  have st1 : Steps p.tables e below (s₁.setTop (mkF m 0 #[.val (.ref x0), .val (.int x1), .val (.int x2)] [])) (s₁.setTop (mkF m 1 #[.val (.ref x0), .val (.int x1), .val (.int x2)] [(.ref x0)])) := by
    refine XS.aloadN X0.here hx rfl (hb hby d2_0) rfl rfl ?_
    show Steps p.tables e below (s₁.setTop (mkF m 1 #[.val (.ref x0), .val (.int x1), .val (.int x2)] [(.ref x0)])) _
    exact Steps.refl _
  have pre1 := pre0.trans st1
  obtain ⟨_, _, ⟨T2, L2, k2, n2⟩, -, X2, ⟨Lc2, hQ2, l2, y2, z2⟩, st2⟩ := X0.specialBack hx (y := (⟨"java/lang/Record", "<init>", "()V"⟩ : MethodName)) rfl hown (mvT hZ (hw _ (List.mem_of_getElem? (i := 8) rfl))) (mvT hZ (hw _ (List.mem_of_getElem? (i := 9) rfl))) (mvT hZ (hw _ (List.mem_of_getElem? (i := 12) rfl))) (by decide) (backOf (W := 0) (rm1 l Z a0 hw [] x0 h0 n0 Z0) hZ (hw _ (List.mem_of_getElem? (i := 12) rfl)) (hw _ (List.mem_of_getElem? (i := 11) rfl)) (by decide) (by decide)) (g := (mkF m 1 #[.val (.ref x0), .val (.int x1), .val (.int x2)] [(.ref x0)])) rfl (by rw [hml]; rfl) (Steps.refl _) (a := x0) (argsL := []) (rest := []) (lenOf pd2_0 rfl) rfl (by show 2 * 0 + _ ≤ _; exact Nat.le_of_eq rfl) (hb hby d2_1) (fun _ _ => ⟨rfl, e0, (by decide : 0 + 0 ≤ _), (by decide : 0 + 0 ≤ _)⟩)
  dsimp only [Pt.U, Pt.locs, Pt.cells, Pt.slots] at X2 l2 y2 z2 st2 hQ2
  subst l2 y2 z2
  obtain ⟨rfl, Nq2, e2⟩ := hQ2
  have N2 := Fr.app N0 Nq2
  have pre2 : Steps p.tables e below (s₁.setTop (entryFrame m #[(.ref x0), (.int x1), (.int x2)] 3)) (T2.setTop (mkF m 4 #[.val (.ref x0), .val (.int x1), .val (.int x2)] [])) := pre1.trans st2
  have st3 : Steps p.tables e below (T2.setTop (mkF m 4 #[.val (.ref x0), .val (.int x1), .val (.int x2)] [])) (T2.setTop (mkF m 5 #[.val (.ref x0), .val (.int x1), .val (.int x2)] [(.int x1)])) := by
    refine XS.iloadN X2.here hx rfl (hb hby d2_4) rfl ?_
    show Steps p.tables e below (T2.setTop (mkF m 5 #[.val (.ref x0), .val (.int x1), .val (.int x2)] [(.int x1)])) _
    exact Steps.refl _
  have pre3 := pre2.trans st3
  have hc5 : ¬ (x1 < (0 : Int32)) := by
    exact hp0
  have st4 : Steps p.tables e below (T2.setTop (mkF m 5 #[.val (.ref x0), .val (.int x1), .val (.int x2)] [(.int x1)])) (T2.setTop (mkF m 8 #[.val (.ref x0), .val (.int x1), .val (.int x2)] [])) := by
    refine XS.ifNo X2.here hx rfl (hb hby d2_5) rfl ((if0 _ _).trans (flt hc5).1) ?_
    exact Steps.refl _
  have pre4 := pre3.trans st4
  have st5 : Steps p.tables e below (T2.setTop (mkF m 8 #[.val (.ref x0), .val (.int x1), .val (.int x2)] [])) (T2.setTop (mkF m 10 #[.val (.ref x0), .val (.int x1), .val (.int x2)] [(.int x1), (.int x2)])) := by
    refine XS.iloadN X2.here hx rfl (hb hby d2_8) rfl ?_
    show Steps p.tables e below (T2.setTop (mkF m 9 #[.val (.ref x0), .val (.int x1), .val (.int x2)] [(.int x2)])) _
    refine XS.iloadN X2.here hx rfl (hb hby d2_9) rfl ?_
    show Steps p.tables e below (T2.setTop (mkF m 10 #[.val (.ref x0), .val (.int x1), .val (.int x2)] [(.int x1), (.int x2)])) _
    exact Steps.refl _
  have pre5 := pre4.trans st5
  have hc10 : ¬ (x2 < x1) := by
    exact hp1
  have st6 : Steps p.tables e below (T2.setTop (mkF m 10 #[.val (.ref x0), .val (.int x1), .val (.int x2)] [(.int x1), (.int x2)])) (T2.setTop (mkF m 28 #[.val (.ref x0), .val (.int x1), .val (.int x2)] [])) := by
    refine XS.icmpYes X2.here hx rfl (pc0 := 10) (pc' := 28) rfl (hb hby d2_10) rfl (flt hc10).2.1 (by decide) (by decide) ?_
    exact Steps.refl _
  have pre6 := pre5.trans st6
  have st7 : Steps p.tables e below (T2.setTop (mkF m 28 #[.val (.ref x0), .val (.int x1), .val (.int x2)] [])) (T2.setTop (mkF m 30 #[.val (.ref x0), .val (.int x1), .val (.int x2)] [(.int x1), (.ref x0)])) := by
    refine XS.aloadN X2.here hx rfl (hb hby d2_28) rfl rfl ?_
    show Steps p.tables e below (T2.setTop (mkF m 29 #[.val (.ref x0), .val (.int x1), .val (.int x2)] [(.ref x0)])) _
    refine XS.iloadN X2.here hx rfl (hb hby d2_29) rfl ?_
    show Steps p.tables e below (T2.setTop (mkF m 30 #[.val (.ref x0), .val (.int x1), .val (.int x2)] [(.int x1), (.ref x0)])) _
    exact Steps.refl _
  have pre7 := pre6.trans st7
  obtain ⟨T8, h8, X8, e8, W8, st8⟩ := putF X2 hx hZ hown (host := "") (Or.inl (hw _ (List.mem_of_getElem? (i := 16) rfl))) Via.refl e2 B1 B0 (Or.inr ⟨(hw _ (List.mem_of_getElem? (i := 17) rfl)), rfl, hnm⟩) (hw _ (List.mem_of_getElem? (i := 3) rfl)) (ty := .int) (by decide) rfl rfl (g := (mkF m 30 #[.val (.ref x0), .val (.int x1), .val (.int x2)] [(.int x1), (.ref x0)])) rfl rfl (hb hby d2_30)
  have pre8 : Steps p.tables e below (s₁.setTop (entryFrame m #[(.ref x0), (.int x1), (.int x2)] 3)) (T8.setTop (mkF m 33 #[.val (.ref x0), .val (.int x1), .val (.int x2)] [])) := pre7.trans (st8 _ (Steps.refl _))
  have F9 : Exa Z h8 x0 "com/example/vesper/vesper/model/FreeRun" := B0.wr W8
  have F11 : Fld Z h8 x0 "com/example/vesper/vesper/model/FreeRun" "lastSlot" "I" u1 := B2.other W8 (Or.inr (slot_ne (Or.inr (hw _ (List.mem_of_getElem? (i := 19) rfl))) (Or.inr (hw _ (List.mem_of_getElem? (i := 17) rfl))) (by decide) (t := .int) (t' := .int) (by decide) (by decide)))
  have K8 := K0.wr W8 (Or.inl (List.mem_of_getElem? (i := 0) rfl))
  have Z8 : n0 ≤ h8.size := Nat.le_trans Z0 (Keep.of_wr W8).1
  have Fw8 : Fld Z h8 x0 "com/example/vesper/vesper/model/FreeRun" "firstSlot" "I" (.int x1) := B1.same W8
  have N8 := Fr.snoc X8 N2 g_x0
  have st12 : Steps p.tables e below (T8.setTop (mkF m 33 #[.val (.ref x0), .val (.int x1), .val (.int x2)] [])) (T8.setTop (mkF m 35 #[.val (.ref x0), .val (.int x1), .val (.int x2)] [(.int x2), (.ref x0)])) := by
    refine XS.aloadN X8.here hx rfl (hb hby d2_33) rfl rfl ?_
    show Steps p.tables e below (T8.setTop (mkF m 34 #[.val (.ref x0), .val (.int x1), .val (.int x2)] [(.ref x0)])) _
    refine XS.iloadN X8.here hx rfl (hb hby d2_34) rfl ?_
    show Steps p.tables e below (T8.setTop (mkF m 35 #[.val (.ref x0), .val (.int x1), .val (.int x2)] [(.int x2), (.ref x0)])) _
    exact Steps.refl _
  have pre12 := pre8.trans st12
  obtain ⟨T13, h13, X13, e13, W13, st13⟩ := putF X8 hx hZ hown (host := "") (Or.inl (hw _ (List.mem_of_getElem? (i := 18) rfl))) Via.refl e8 F11 F9 (Or.inr ⟨(hw _ (List.mem_of_getElem? (i := 19) rfl)), rfl, hnm⟩) (hw _ (List.mem_of_getElem? (i := 3) rfl)) (ty := .int) (by decide) rfl rfl (g := (mkF m 35 #[.val (.ref x0), .val (.int x1), .val (.int x2)] [(.int x2), (.ref x0)])) rfl rfl (hb hby d2_35)
  have pre13 : Steps p.tables e below (s₁.setTop (entryFrame m #[(.ref x0), (.int x1), (.int x2)] 3)) (T13.setTop (mkF m 38 #[.val (.ref x0), .val (.int x1), .val (.int x2)] [])) := pre12.trans (st13 _ (Steps.refl _))
  have F14 : Exa Z h13 x0 "com/example/vesper/vesper/model/FreeRun" := F9.wr W13
  have F16 : Fld Z h13 x0 "com/example/vesper/vesper/model/FreeRun" "firstSlot" "I" (.int x1) := Fw8.other W13 (Or.inr (slot_ne (Or.inr (hw _ (List.mem_of_getElem? (i := 17) rfl))) (Or.inr (hw _ (List.mem_of_getElem? (i := 19) rfl))) (by decide) (t := .int) (t' := .int) (by decide) (by decide)))
  have K13 := K8.wr W13 (Or.inl (List.mem_of_getElem? (i := 0) rfl))
  have Z13 : n0 ≤ h13.size := Nat.le_trans Z8 (Keep.of_wr W13).1
  have Fw13 : Fld Z h13 x0 "com/example/vesper/vesper/model/FreeRun" "lastSlot" "I" (.int x2) := F11.same W13
  have N13 := Fr.snoc X13 N8 g_x0
  obtain ⟨fs, hr, hrun, hended, hW, hsame⟩ := X13.leave (v := none) (fun _ => rfl)
  refine ⟨_, _, pre13.trans ?_, hrun, hended, _, _, rfl, ?_, ⟨_, rfl⟩, hW, hsame.mono (by decide) (by decide)⟩
  · show Steps p.tables e below (T13.setTop (mkF m 38 #[.val (.ref x0), .val (.int x1), .val (.int x2)] [])) _
    exact X13.returnOut hx Bd.returns (hb hby d2_38) hr
  · show Q2 Z x0 x1 x2 u0 u1 h0 n0 _ T13.heap _
    rw [e13]
    exact ⟨rfl, N13, K13, F14, F16, Fw13⟩
theorem d3_0 : decode prog_8_method_2_code 0 = .ok (.aload_n 0, 1) := by decide +kernel
theorem d3_1 : decode prog_8_method_2_code 1 = .ok (.getfield 22, 3) := by decide +kernel
theorem d3_4 : decode prog_8_method_2_code 4 = .ok (.aload_n 0, 1) := by decide +kernel
theorem d3_5 : decode prog_8_method_2_code 5 = .ok (.getfield 16, 3) := by decide +kernel
theorem d3_8 : decode prog_8_method_2_code 8 = .ok (.isub, 1) := by decide +kernel
theorem d3_9 : decode prog_8_method_2_code 9 = .ok (.iconst 1, 1) := by decide +kernel
theorem d3_10 : decode prog_8_method_2_code 10 = .ok (.iadd, 1) := by decide +kernel
theorem d3_11 : decode prog_8_method_2_code 11 = .ok (.ireturn, 1) := by decide +kernel
theorem pn3 : plainName "com/example/vesper/vesper/model/FreeRun" = true := by first | (simp [plainName, overriddenIn]; done) | decide +kernel
theorem ef3 (m : MethodId) (x0 : Addr) : entryFrame m #[(.ref x0)] 1 = mkF m 0 #[.val (.ref x0)] [] := by first | (simp [entryFrame, mkF, argsToLocals, Value.category]; done) | rfl
def own_F3 (x0 : Addr) (w0 : Int32) (w1 : Int32) : Int32 := ((w0 - w1) + (1 : Int32))
def Q3 (Z : State) (x0 : Addr) (w0 : Int32) (w1 : Int32) (h0 : Heap) (n0 : Nat) (v : Option Value) (h : Heap) (L : List Loc) : Prop := v = some (.int (own_F3 x0 w0 w1)) ∧ Fr n0 L ∧ h = h0
set_option maxRecDepth 65536 in
set_option maxHeartbeats 40000000 in
theorem rm3 (l : Launch) (Z : State) (a0 : Array Value) (hw : ∀ d ∈ tables_1, d.before a0 Z = true) (ws : List Jvm.Cond) (x0 : Addr) (w0 : Int32) (w1 : Int32) (h0 : Heap) (n0 : Nat) (Z0 : n0 ≤ h0.size) (B0 : Fld Z h0 x0 "com/example/vesper/vesper/model/FreeRun" "lastSlot" "I" (.int w0)) (B1 : Fld Z h0 x0 "com/example/vesper/vesper/model/FreeRun" "firstSlot" "I" (.int w1)) :
    MetFree l (⟨"com/example/vesper/vesper/model/FreeRun", "slots", "()I"⟩ : MethodName) (head1 (Jvm.Cond.code (⟨"com/example/vesper/vesper/model/FreeRun", "slots", "()I"⟩ : MethodName) prog_8_method_2_code 1 (some .int) :: ws) ({ frames := 0, cells := 0, slots := 0, locals := 0 } : Room)) (fun a U => a = #[(.ref x0)] ∧ Z.Warmed39 U.vm ∧ U.heap = h0) (fun _ _ _ _ _ => True) (fun _ U o U' => ∃ v L, o = .returned v ∧ Q3 Z x0 w0 w1 h0 n0 v U'.heap L ∧ FrameEnd U o U' L ({ frames := 0, cells := 0, slots := 0, locals := 0 } : Room).cells ({ frames := 0, cells := 0, slots := 0, locals := 0 } : Room).slots) := by
  refine MetFree.of_bodySF (plainFor_of_name pn3) hisR ?_
  intro p e s m args below meth c s₁ Bd hml0 hP hK
  obtain ⟨rfl, hZ, hh⟩ := hP
  have hx := Bd.exec
  have hby := Bd.bytes
  have hml : c.maxLocals = 1 := hml0
  have hown : s.vm.findClass "com/example/vesper/vesper/model/FreeRun" = some m.cls := findClass_of_methodNamed Bd.named
  have hnm := (name_of_methodNamed Bd.named Bd.method).1
  have X0 : Stand p l e ({ frames := 0, cells := 0, slots := 0, locals := 0 } : Room) s m #[(.ref x0)] below meth c s₁ [] 0 0 := Stand.of_body Bd
  have e0 : s₁.heap = h0 := by rw [← hh, Bd.state]; rfl
  have N0 := Fr.nil n0
  have pre0 : Steps p.tables e below (s₁.setTop (entryFrame m #[(.ref x0)] 1)) (s₁.setTop (mkF m 0 #[.val (.ref x0)] [])) := castTop (ef3 m x0) (Steps.refl _)
  have st1 : Steps p.tables e below (s₁.setTop (mkF m 0 #[.val (.ref x0)] [])) (s₁.setTop (mkF m 1 #[.val (.ref x0)] [(.ref x0)])) := by
    refine XS.aloadN X0.here hx rfl (hb hby d3_0) rfl rfl ?_
    show Steps p.tables e below (s₁.setTop (mkF m 1 #[.val (.ref x0)] [(.ref x0)])) _
    exact Steps.refl _
  have pre1 := pre0.trans st1
  obtain ⟨T2, X2, e2, st2⟩ := getF X0 hx hZ hown (host := "") (Or.inl (hw _ (List.mem_of_getElem? (i := 18) rfl))) Via.refl e0 B0 (g := (mkF m 1 #[.val (.ref x0)] [(.ref x0)])) rfl rfl (hb hby d3_1)
  have pre2 : Steps p.tables e below (s₁.setTop (entryFrame m #[(.ref x0)] 1)) (T2.setTop (mkF m 4 #[.val (.ref x0)] [(.int w0)])) := pre1.trans (st2 _ (Steps.refl _))
  have st3 : Steps p.tables e below (T2.setTop (mkF m 4 #[.val (.ref x0)] [(.int w0)])) (T2.setTop (mkF m 5 #[.val (.ref x0)] [(.ref x0), (.int w0)])) := by
    refine XS.aloadN X2.here hx rfl (hb hby d3_4) rfl rfl ?_
    show Steps p.tables e below (T2.setTop (mkF m 5 #[.val (.ref x0)] [(.ref x0), (.int w0)])) _
    exact Steps.refl _
  have pre3 := pre2.trans st3
  obtain ⟨T4, X4, e4, st4⟩ := getF X2 hx hZ hown (host := "") (Or.inl (hw _ (List.mem_of_getElem? (i := 16) rfl))) Via.refl e2 B1 (g := (mkF m 5 #[.val (.ref x0)] [(.ref x0), (.int w0)])) rfl rfl (hb hby d3_5)
  have pre4 : Steps p.tables e below (s₁.setTop (entryFrame m #[(.ref x0)] 1)) (T4.setTop (mkF m 8 #[.val (.ref x0)] [(.int w1), (.int w0)])) := pre3.trans (st4 _ (Steps.refl _))
  obtain ⟨v5, hv5⟩ : ∃ z : Int32, z = ((w0 - w1) + (1 : Int32)) := ⟨_, rfl⟩
  have st6 : Steps p.tables e below (T4.setTop (mkF m 8 #[.val (.ref x0)] [(.int w1), (.int w0)])) (T4.setTop (mkF m 11 #[.val (.ref x0)] [(.int v5)])) := by
    subst v5
    refine XS.isub X4.here hx rfl (hb hby d3_8) rfl ?_
    show Steps p.tables e below (T4.setTop (mkF m 9 #[.val (.ref x0)] [(.int (w0 - w1))])) _
    refine XS.iconst X4.here hx rfl (hb hby d3_9) ?_
    show Steps p.tables e below (T4.setTop (mkF m 10 #[.val (.ref x0)] [(.int (1 : Int32)), (.int (w0 - w1))])) _
    refine XS.iadd X4.here hx rfl (hb hby d3_10) rfl ?_
    show Steps p.tables e below (T4.setTop (mkF m 11 #[.val (.ref x0)] [(.int ((w0 - w1) + (1 : Int32)))])) _
    exact Steps.refl _
  have pre6 := pre4.trans st6
  obtain ⟨fs, hr, hrun, hended, hW, hsame⟩ := X4.leave (v := some (.int v5)) (fun h => by rw [Bd.returns] at h; cases h)
  refine ⟨_, _, pre6.trans ?_, hrun, hended, _, _, rfl, ?_, ⟨_, rfl⟩, hW, hsame.mono (by decide) (by decide)⟩
  · show Steps p.tables e below (T4.setTop (mkF m 11 #[.val (.ref x0)] [(.int v5)])) _
    exact retI X4 hx Bd.returns (hb hby d3_11) hr
  · show Q3 Z x0 w0 w1 h0 n0 _ T4.heap _
    rw [e4]
    have hF : own_F3 x0 w0 w1 = v5 := by
      subst v5
      simp only [own_F3]
    exact ⟨by rw [hF], N0, rfl⟩
theorem own_span (a : Int32) : (((2147483647 : Int64) - ((a &&& (2147483647 : Int32)).toInt64)) + (1 : Int64)) ≠ 0 := by
  intro h
  have q := own_mask a
  rw [← Int64.toInt_inj] at h
  have e0 : (0 : Int64).toInt = 0 := by decide
  have e1 : (1 : Int64).toInt = 1 := by decide
  have e2 : (2147483647 : Int64).toInt = 2147483647 := by decide
  have r1 := c_ladd ((2147483647 : Int64) - ((a &&& (2147483647 : Int32)).toInt64)) (1 : Int64)
  have r2 := c_lsub (2147483647 : Int64) ((a &&& (2147483647 : Int32)).toInt64)
  rw [c_i2l] at r2
  omega
theorem own_all {a b f l : Int32} {sp off : Int64} (h1 : f = (a &&& (2147483647 : Int32))) (h2 : sp = (((2147483647 : Int64) - (f.toInt64)) + (1 : Int64))) (h3 : off = (((b &&& (2147483647 : Int32)).toInt64) - (((b &&& (2147483647 : Int32)).toInt64) / sp) * sp)) (h4 : l = (((f.toInt64) + off).toInt32)) : 0 ≤ f.toInt ∧ f.toInt ≤ l.toInt := by
  have q := own_mask a
  have qb := own_mask b
  rw [← h1] at q
  have e1 : (1 : Int64).toInt = 1 := by decide
  have e2 : (2147483647 : Int64).toInt = 2147483647 := by decide
  have r1 := c_ladd ((2147483647 : Int64) - (f.toInt64)) (1 : Int64)
  have r2 := c_lsub (2147483647 : Int64) (f.toInt64)
  have r3 := rng64 (((2147483647 : Int64) - (f.toInt64)) + (1 : Int64))
  have r4 := rng64 ((2147483647 : Int64) - (f.toInt64))
  rw [c_i2l] at r2
  rw [← h2] at r1 r3
  have hs : sp.toInt = 2147483648 - f.toInt := by omega
  have r5 := (c_lrem ((b &&& (2147483647 : Int32)).toInt64) sp sp.toInt rfl).1 (by rw [c_i2l]; exact qb.1)
  rw [← h3, c_i2l] at r5
  have m1 := Int.emod_nonneg (b &&& (2147483647 : Int32)).toInt (b := sp.toInt) (by omega)
  have m2 := Int.emod_lt_of_pos (b &&& (2147483647 : Int32)).toInt (b := sp.toInt) (by omega)
  have r6 := c_ladd (f.toInt64) off
  rw [c_i2l] at r6
  have r7 := c_l2i ((f.toInt64) + off)
  rw [← h4] at r7
  have r8 := rng32 l
  have r9 := rng64 ((f.toInt64) + off)
  omega
theorem own_fin {f l : Int32} (a : Addr) {cnt : Int64} (hf : 0 ≤ f.toInt ∧ f.toInt ≤ l.toInt) (hc : cnt = (((l.toInt64) - (f.toInt64)) + (1 : Int64))) : (¬ ((2147483647 : Int64) < cnt) → ((own_F3 a l f).toInt64) = cnt) ∧ ((2147483647 : Int64) < cnt → cnt = (2147483648 : Int64) ∧ own_F3 a l f = (-2147483648 : Int32)) := by
  have e1 : (1 : Int64).toInt = 1 := by decide
  have e2 : (2147483647 : Int64).toInt = 2147483647 := by decide
  have e3 : (2147483648 : Int64).toInt = 2147483648 := by decide
  have e4 : (-2147483648 : Int32).toInt = -2147483648 := by decide
  have e5 : (1 : Int32).toInt = 1 := by decide
  have r1 := c_ladd ((l.toInt64) - (f.toInt64)) (1 : Int64)
  have r2 := c_lsub (l.toInt64) (f.toInt64)
  rw [c_i2l, c_i2l] at r2
  rw [← hc] at r1
  have r3 := rng64 cnt
  have r4 := rng64 ((l.toInt64) - (f.toInt64))
  have r5 := rng32 l
  have q1 := c_iadd (l - f) (1 : Int32)
  have q2 := c_isub l f
  have q3 := rng32 ((l - f) + (1 : Int32))
  have q4 := rng32 (l - f)
  rw [Int64.lt_iff_toInt_lt, ← Int64.toInt_inj, ← Int64.toInt_inj, ← Int32.toInt_inj, c_i2l]
  simp only [own_F3]
  omega
theorem own_nn {f l : Int32} (h : 0 ≤ f.toInt ∧ f.toInt ≤ l.toInt) : ¬ (f < (0 : Int32)) ∧ ¬ (l < f) := by
  have e0 : (0 : Int32).toInt = 0 := by decide
  rw [Int32.lt_iff_toInt_lt, Int32.lt_iff_toInt_lt]
  omega
theorem pn0 : plainName "com/example/vesper/vesper/model/FreeRunSlotsPinLaw" = true := by first | (simp [plainName, overriddenIn]; done) | decide +kernel
theorem pd0_0 : parseMethodDescriptor "(II)V" = some ⟨[.int, .int], none⟩ := by decide +kernel
theorem pd0_1 : parseMethodDescriptor "()I" = some ⟨[], some .int⟩ := by decide +kernel
theorem ef0 (m : MethodId) (x0 : Int32) (x1 : Int32) : entryFrame m #[(.int x0), (.int x1)] maxLocals = mkF m 0 #[.val (.int x0), .val (.int x1), .unset, .unset, .unset, .unset, .unset, .unset, .unset, .unset, .unset, .unset] [] := by first | (simp [entryFrame, mkF, argsToLocals, Value.category, maxLocals]; done) | rfl
def Q0 (Z : State) (x0 : Int32) (x1 : Int32) (h0 : Heap) (n0 : Nat) (v : Option Value) (h : Heap) (L : List Loc) : Prop := v = some (.int 1) ∧ Fr n0 L
set_option maxRecDepth 65536 in
set_option maxHeartbeats 40000000 in
theorem rm0 (l : Launch) (Z : State) (a0 : Array Value) (hw : ∀ d ∈ tables_1, d.before a0 Z = true) (ws : List Jvm.Cond) (x0 : Int32) (x1 : Int32) (h0 : Heap) (n0 : Nat) (Z0 : n0 ≤ h0.size) :
    MetFree l x (head1 (Jvm.Cond.code x code maxLocals ret :: ws) room_1) (fun a U => a = #[(.int x0), (.int x1)] ∧ Z.Warmed39 U.vm ∧ U.heap = h0) (fun _ _ _ _ _ => True) (fun _ U o U' => ∃ v L, o = .returned v ∧ Q0 Z x0 x1 h0 n0 v U'.heap L ∧ FrameEnd U o U' L room_1.cells room_1.slots) := by
  refine MetFree.of_bodySF (plainFor_of_name pn0) hisR ?_
  intro p e s m args below meth c s₁ Bd hml0 hP hK
  obtain ⟨rfl, hZ, hh⟩ := hP
  have hx := Bd.exec
  have hby := Bd.bytes
  have hml : c.maxLocals = 12 := hml0
  have hown : s.vm.findClass "com/example/vesper/vesper/model/FreeRunSlotsPinLaw" = some m.cls := findClass_of_methodNamed Bd.named
  have hnm := (name_of_methodNamed Bd.named Bd.method).1
  have X0 : Stand p l e room_1 s m #[(.int x0), (.int x1)] below meth c s₁ [] 0 0 := Stand.of_body Bd
  have e0 : s₁.heap = h0 := by rw [← hh, Bd.state]; rfl
  have N0 := Fr.nil n0
  have pre0 : Steps p.tables e below (s₁.setTop (entryFrame m #[(.int x0), (.int x1)] maxLocals)) (s₁.setTop (mkF m 0 #[.val (.int x0), .val (.int x1), .unset, .unset, .unset, .unset, .unset, .unset, .unset, .unset, .unset, .unset] [])) := castTop (ef0 m x0 x1) (Steps.refl _)
  have K0 := Keep.refl h0 []
  obtain ⟨v1, hv1⟩ : ∃ z : Int32, z = (x0 &&& (2147483647 : Int32)) := ⟨_, rfl⟩
  obtain ⟨v2, hv2⟩ : ∃ z : Int64, z = (((2147483647 : Int64) - (v1.toInt64)) + (1 : Int64)) := ⟨_, rfl⟩
  obtain ⟨v3, hv3⟩ : ∃ z : Int64, z = (((x1 &&& (2147483647 : Int32)).toInt64) - (((x1 &&& (2147483647 : Int32)).toInt64) / v2) * v2) := ⟨_, rfl⟩
  obtain ⟨v4, hv4⟩ : ∃ z : Int32, z = (((v1.toInt64) + v3).toInt32) := ⟨_, rfl⟩
  have st5 : Steps p.tables e below (s₁.setTop (mkF m 0 #[.val (.int x0), .val (.int x1), .unset, .unset, .unset, .unset, .unset, .unset, .unset, .unset, .unset, .unset] [])) (s₁.setTop (mkF m 31 #[.val (.int x0), .val (.int x1), .val (.int v1), .val (.long v2), .second, .val (.long v3), .second, .val (.int v4), .unset, .unset, .unset, .unset] [])) := by
    subst v4 v3 v2 v1
    refine XS.iloadN X0.here hx rfl (hb hby at_0) rfl ?_
    show Steps p.tables e below (s₁.setTop (mkF m 1 #[.val (.int x0), .val (.int x1), .unset, .unset, .unset, .unset, .unset, .unset, .unset, .unset, .unset, .unset] [(.int x0)])) _
    refine X0.ldcInt hx hown (mvT hZ (hw _ (List.mem_of_getElem? (i := 0) rfl))) (g := (mkF m 1 #[.val (.int x0), .val (.int x1), .unset, .unset, .unset, .unset, .unset, .unset, .unset, .unset, .unset, .unset] [(.int x0)])) rfl (hb hby at_1) _ ?_
    show Steps p.tables e below (s₁.setTop (mkF m 3 #[.val (.int x0), .val (.int x1), .unset, .unset, .unset, .unset, .unset, .unset, .unset, .unset, .unset, .unset] [(.int (2147483647 : Int32)), (.int x0)])) _
    refine XS.iand X0.here hx rfl (hb hby at_3) rfl ?_
    show Steps p.tables e below (s₁.setTop (mkF m 4 #[.val (.int x0), .val (.int x1), .unset, .unset, .unset, .unset, .unset, .unset, .unset, .unset, .unset, .unset] [(.int (x0 &&& (2147483647 : Int32)))])) _
    refine XS.istoreN X0.here hx rfl (hb hby at_4) rfl (l' := #[.val (.int x0), .val (.int x1), .val (.int (x0 &&& (2147483647 : Int32))), .unset, .unset, .unset, .unset, .unset, .unset, .unset, .unset, .unset]) rfl ?_
    show Steps p.tables e below (s₁.setTop (mkF m 5 #[.val (.int x0), .val (.int x1), .val (.int (x0 &&& (2147483647 : Int32))), .unset, .unset, .unset, .unset, .unset, .unset, .unset, .unset, .unset] [])) _
    refine X0.ldc2Long hx hown (mvT hZ (hw _ (List.mem_of_getElem? (i := 1) rfl))) (g := (mkF m 5 #[.val (.int x0), .val (.int x1), .val (.int (x0 &&& (2147483647 : Int32))), .unset, .unset, .unset, .unset, .unset, .unset, .unset, .unset, .unset] [])) rfl (hb hby at_5) _ ?_
    show Steps p.tables e below (s₁.setTop (mkF m 8 #[.val (.int x0), .val (.int x1), .val (.int (x0 &&& (2147483647 : Int32))), .unset, .unset, .unset, .unset, .unset, .unset, .unset, .unset, .unset] [(.long (2147483647 : Int64))])) _
    refine XS.iloadN X0.here hx rfl (hb hby at_8) rfl ?_
    show Steps p.tables e below (s₁.setTop (mkF m 9 #[.val (.int x0), .val (.int x1), .val (.int (x0 &&& (2147483647 : Int32))), .unset, .unset, .unset, .unset, .unset, .unset, .unset, .unset, .unset] [(.int (x0 &&& (2147483647 : Int32))), (.long (2147483647 : Int64))])) _
    refine XS.i2l X0.here hx rfl (hb hby at_9) rfl ?_
    show Steps p.tables e below (s₁.setTop (mkF m 10 #[.val (.int x0), .val (.int x1), .val (.int (x0 &&& (2147483647 : Int32))), .unset, .unset, .unset, .unset, .unset, .unset, .unset, .unset, .unset] [(.long ((x0 &&& (2147483647 : Int32)).toInt64)), (.long (2147483647 : Int64))])) _
    refine XS.lsub X0.here hx rfl (hb hby at_10) rfl ?_
    show Steps p.tables e below (s₁.setTop (mkF m 11 #[.val (.int x0), .val (.int x1), .val (.int (x0 &&& (2147483647 : Int32))), .unset, .unset, .unset, .unset, .unset, .unset, .unset, .unset, .unset] [(.long ((2147483647 : Int64) - ((x0 &&& (2147483647 : Int32)).toInt64)))])) _
    refine XS.lconst X0.here hx rfl (hb hby at_11) ?_
    show Steps p.tables e below (s₁.setTop (mkF m 12 #[.val (.int x0), .val (.int x1), .val (.int (x0 &&& (2147483647 : Int32))), .unset, .unset, .unset, .unset, .unset, .unset, .unset, .unset, .unset] [(.long (1 : Int64)), (.long ((2147483647 : Int64) - ((x0 &&& (2147483647 : Int32)).toInt64)))])) _
    refine XS.ladd X0.here hx rfl (hb hby at_12) rfl ?_
    show Steps p.tables e below (s₁.setTop (mkF m 13 #[.val (.int x0), .val (.int x1), .val (.int (x0 &&& (2147483647 : Int32))), .unset, .unset, .unset, .unset, .unset, .unset, .unset, .unset, .unset] [(.long (((2147483647 : Int64) - ((x0 &&& (2147483647 : Int32)).toInt64)) + (1 : Int64)))])) _
    refine XS.lstoreN X0.here hx rfl (hb hby at_13) rfl (l' := #[.val (.int x0), .val (.int x1), .val (.int (x0 &&& (2147483647 : Int32))), .val (.long (((2147483647 : Int64) - ((x0 &&& (2147483647 : Int32)).toInt64)) + (1 : Int64))), .second, .unset, .unset, .unset, .unset, .unset, .unset, .unset]) rfl ?_
    show Steps p.tables e below (s₁.setTop (mkF m 14 #[.val (.int x0), .val (.int x1), .val (.int (x0 &&& (2147483647 : Int32))), .val (.long (((2147483647 : Int64) - ((x0 &&& (2147483647 : Int32)).toInt64)) + (1 : Int64))), .second, .unset, .unset, .unset, .unset, .unset, .unset, .unset] [])) _
    refine XS.iloadN X0.here hx rfl (hb hby at_14) rfl ?_
    show Steps p.tables e below (s₁.setTop (mkF m 15 #[.val (.int x0), .val (.int x1), .val (.int (x0 &&& (2147483647 : Int32))), .val (.long (((2147483647 : Int64) - ((x0 &&& (2147483647 : Int32)).toInt64)) + (1 : Int64))), .second, .unset, .unset, .unset, .unset, .unset, .unset, .unset] [(.int x1)])) _
    refine X0.ldcInt hx hown (mvT hZ (hw _ (List.mem_of_getElem? (i := 0) rfl))) (g := (mkF m 15 #[.val (.int x0), .val (.int x1), .val (.int (x0 &&& (2147483647 : Int32))), .val (.long (((2147483647 : Int64) - ((x0 &&& (2147483647 : Int32)).toInt64)) + (1 : Int64))), .second, .unset, .unset, .unset, .unset, .unset, .unset, .unset] [(.int x1)])) rfl (hb hby at_15) _ ?_
    show Steps p.tables e below (s₁.setTop (mkF m 17 #[.val (.int x0), .val (.int x1), .val (.int (x0 &&& (2147483647 : Int32))), .val (.long (((2147483647 : Int64) - ((x0 &&& (2147483647 : Int32)).toInt64)) + (1 : Int64))), .second, .unset, .unset, .unset, .unset, .unset, .unset, .unset] [(.int (2147483647 : Int32)), (.int x1)])) _
    refine XS.iand X0.here hx rfl (hb hby at_17) rfl ?_
    show Steps p.tables e below (s₁.setTop (mkF m 18 #[.val (.int x0), .val (.int x1), .val (.int (x0 &&& (2147483647 : Int32))), .val (.long (((2147483647 : Int64) - ((x0 &&& (2147483647 : Int32)).toInt64)) + (1 : Int64))), .second, .unset, .unset, .unset, .unset, .unset, .unset, .unset] [(.int (x1 &&& (2147483647 : Int32)))])) _
    refine XS.i2l X0.here hx rfl (hb hby at_18) rfl ?_
    show Steps p.tables e below (s₁.setTop (mkF m 19 #[.val (.int x0), .val (.int x1), .val (.int (x0 &&& (2147483647 : Int32))), .val (.long (((2147483647 : Int64) - ((x0 &&& (2147483647 : Int32)).toInt64)) + (1 : Int64))), .second, .unset, .unset, .unset, .unset, .unset, .unset, .unset] [(.long ((x1 &&& (2147483647 : Int32)).toInt64))])) _
    refine XS.lloadN X0.here hx rfl (hb hby at_19) rfl ?_
    show Steps p.tables e below (s₁.setTop (mkF m 20 #[.val (.int x0), .val (.int x1), .val (.int (x0 &&& (2147483647 : Int32))), .val (.long (((2147483647 : Int64) - ((x0 &&& (2147483647 : Int32)).toInt64)) + (1 : Int64))), .second, .unset, .unset, .unset, .unset, .unset, .unset, .unset] [(.long (((2147483647 : Int64) - ((x0 &&& (2147483647 : Int32)).toInt64)) + (1 : Int64))), (.long ((x1 &&& (2147483647 : Int32)).toInt64))])) _
    refine XS.lrem X0.here hx rfl (hb hby at_20) rfl (own_span _) ?_
    show Steps p.tables e below (s₁.setTop (mkF m 21 #[.val (.int x0), .val (.int x1), .val (.int (x0 &&& (2147483647 : Int32))), .val (.long (((2147483647 : Int64) - ((x0 &&& (2147483647 : Int32)).toInt64)) + (1 : Int64))), .second, .unset, .unset, .unset, .unset, .unset, .unset, .unset] [(.long (((x1 &&& (2147483647 : Int32)).toInt64) - (((x1 &&& (2147483647 : Int32)).toInt64) / (((2147483647 : Int64) - ((x0 &&& (2147483647 : Int32)).toInt64)) + (1 : Int64))) * (((2147483647 : Int64) - ((x0 &&& (2147483647 : Int32)).toInt64)) + (1 : Int64))))])) _
    refine XS.lstore X0.here hx rfl (hb hby at_21) rfl (l' := #[.val (.int x0), .val (.int x1), .val (.int (x0 &&& (2147483647 : Int32))), .val (.long (((2147483647 : Int64) - ((x0 &&& (2147483647 : Int32)).toInt64)) + (1 : Int64))), .second, .val (.long (((x1 &&& (2147483647 : Int32)).toInt64) - (((x1 &&& (2147483647 : Int32)).toInt64) / (((2147483647 : Int64) - ((x0 &&& (2147483647 : Int32)).toInt64)) + (1 : Int64))) * (((2147483647 : Int64) - ((x0 &&& (2147483647 : Int32)).toInt64)) + (1 : Int64)))), .second, .unset, .unset, .unset, .unset, .unset]) rfl ?_
    show Steps p.tables e below (s₁.setTop (mkF m 23 #[.val (.int x0), .val (.int x1), .val (.int (x0 &&& (2147483647 : Int32))), .val (.long (((2147483647 : Int64) - ((x0 &&& (2147483647 : Int32)).toInt64)) + (1 : Int64))), .second, .val (.long (((x1 &&& (2147483647 : Int32)).toInt64) - (((x1 &&& (2147483647 : Int32)).toInt64) / (((2147483647 : Int64) - ((x0 &&& (2147483647 : Int32)).toInt64)) + (1 : Int64))) * (((2147483647 : Int64) - ((x0 &&& (2147483647 : Int32)).toInt64)) + (1 : Int64)))), .second, .unset, .unset, .unset, .unset, .unset] [])) _
    refine XS.iloadN X0.here hx rfl (hb hby at_23) rfl ?_
    show Steps p.tables e below (s₁.setTop (mkF m 24 #[.val (.int x0), .val (.int x1), .val (.int (x0 &&& (2147483647 : Int32))), .val (.long (((2147483647 : Int64) - ((x0 &&& (2147483647 : Int32)).toInt64)) + (1 : Int64))), .second, .val (.long (((x1 &&& (2147483647 : Int32)).toInt64) - (((x1 &&& (2147483647 : Int32)).toInt64) / (((2147483647 : Int64) - ((x0 &&& (2147483647 : Int32)).toInt64)) + (1 : Int64))) * (((2147483647 : Int64) - ((x0 &&& (2147483647 : Int32)).toInt64)) + (1 : Int64)))), .second, .unset, .unset, .unset, .unset, .unset] [(.int (x0 &&& (2147483647 : Int32)))])) _
    refine XS.i2l X0.here hx rfl (hb hby at_24) rfl ?_
    show Steps p.tables e below (s₁.setTop (mkF m 25 #[.val (.int x0), .val (.int x1), .val (.int (x0 &&& (2147483647 : Int32))), .val (.long (((2147483647 : Int64) - ((x0 &&& (2147483647 : Int32)).toInt64)) + (1 : Int64))), .second, .val (.long (((x1 &&& (2147483647 : Int32)).toInt64) - (((x1 &&& (2147483647 : Int32)).toInt64) / (((2147483647 : Int64) - ((x0 &&& (2147483647 : Int32)).toInt64)) + (1 : Int64))) * (((2147483647 : Int64) - ((x0 &&& (2147483647 : Int32)).toInt64)) + (1 : Int64)))), .second, .unset, .unset, .unset, .unset, .unset] [(.long ((x0 &&& (2147483647 : Int32)).toInt64))])) _
    refine XS.lload X0.here hx rfl (hb hby at_25) rfl ?_
    show Steps p.tables e below (s₁.setTop (mkF m 27 #[.val (.int x0), .val (.int x1), .val (.int (x0 &&& (2147483647 : Int32))), .val (.long (((2147483647 : Int64) - ((x0 &&& (2147483647 : Int32)).toInt64)) + (1 : Int64))), .second, .val (.long (((x1 &&& (2147483647 : Int32)).toInt64) - (((x1 &&& (2147483647 : Int32)).toInt64) / (((2147483647 : Int64) - ((x0 &&& (2147483647 : Int32)).toInt64)) + (1 : Int64))) * (((2147483647 : Int64) - ((x0 &&& (2147483647 : Int32)).toInt64)) + (1 : Int64)))), .second, .unset, .unset, .unset, .unset, .unset] [(.long (((x1 &&& (2147483647 : Int32)).toInt64) - (((x1 &&& (2147483647 : Int32)).toInt64) / (((2147483647 : Int64) - ((x0 &&& (2147483647 : Int32)).toInt64)) + (1 : Int64))) * (((2147483647 : Int64) - ((x0 &&& (2147483647 : Int32)).toInt64)) + (1 : Int64)))), (.long ((x0 &&& (2147483647 : Int32)).toInt64))])) _
    refine XS.ladd X0.here hx rfl (hb hby at_27) rfl ?_
    show Steps p.tables e below (s₁.setTop (mkF m 28 #[.val (.int x0), .val (.int x1), .val (.int (x0 &&& (2147483647 : Int32))), .val (.long (((2147483647 : Int64) - ((x0 &&& (2147483647 : Int32)).toInt64)) + (1 : Int64))), .second, .val (.long (((x1 &&& (2147483647 : Int32)).toInt64) - (((x1 &&& (2147483647 : Int32)).toInt64) / (((2147483647 : Int64) - ((x0 &&& (2147483647 : Int32)).toInt64)) + (1 : Int64))) * (((2147483647 : Int64) - ((x0 &&& (2147483647 : Int32)).toInt64)) + (1 : Int64)))), .second, .unset, .unset, .unset, .unset, .unset] [(.long (((x0 &&& (2147483647 : Int32)).toInt64) + (((x1 &&& (2147483647 : Int32)).toInt64) - (((x1 &&& (2147483647 : Int32)).toInt64) / (((2147483647 : Int64) - ((x0 &&& (2147483647 : Int32)).toInt64)) + (1 : Int64))) * (((2147483647 : Int64) - ((x0 &&& (2147483647 : Int32)).toInt64)) + (1 : Int64)))))])) _
    refine XS.l2i X0.here hx rfl (hb hby at_28) rfl ?_
    show Steps p.tables e below (s₁.setTop (mkF m 29 #[.val (.int x0), .val (.int x1), .val (.int (x0 &&& (2147483647 : Int32))), .val (.long (((2147483647 : Int64) - ((x0 &&& (2147483647 : Int32)).toInt64)) + (1 : Int64))), .second, .val (.long (((x1 &&& (2147483647 : Int32)).toInt64) - (((x1 &&& (2147483647 : Int32)).toInt64) / (((2147483647 : Int64) - ((x0 &&& (2147483647 : Int32)).toInt64)) + (1 : Int64))) * (((2147483647 : Int64) - ((x0 &&& (2147483647 : Int32)).toInt64)) + (1 : Int64)))), .second, .unset, .unset, .unset, .unset, .unset] [(.int ((((x0 &&& (2147483647 : Int32)).toInt64) + (((x1 &&& (2147483647 : Int32)).toInt64) - (((x1 &&& (2147483647 : Int32)).toInt64) / (((2147483647 : Int64) - ((x0 &&& (2147483647 : Int32)).toInt64)) + (1 : Int64))) * (((2147483647 : Int64) - ((x0 &&& (2147483647 : Int32)).toInt64)) + (1 : Int64)))).toInt32))])) _
    refine XS.istore X0.here hx rfl (hb hby at_29) rfl (l' := #[.val (.int x0), .val (.int x1), .val (.int (x0 &&& (2147483647 : Int32))), .val (.long (((2147483647 : Int64) - ((x0 &&& (2147483647 : Int32)).toInt64)) + (1 : Int64))), .second, .val (.long (((x1 &&& (2147483647 : Int32)).toInt64) - (((x1 &&& (2147483647 : Int32)).toInt64) / (((2147483647 : Int64) - ((x0 &&& (2147483647 : Int32)).toInt64)) + (1 : Int64))) * (((2147483647 : Int64) - ((x0 &&& (2147483647 : Int32)).toInt64)) + (1 : Int64)))), .second, .val (.int ((((x0 &&& (2147483647 : Int32)).toInt64) + (((x1 &&& (2147483647 : Int32)).toInt64) - (((x1 &&& (2147483647 : Int32)).toInt64) / (((2147483647 : Int64) - ((x0 &&& (2147483647 : Int32)).toInt64)) + (1 : Int64))) * (((2147483647 : Int64) - ((x0 &&& (2147483647 : Int32)).toInt64)) + (1 : Int64)))).toInt32)), .unset, .unset, .unset, .unset]) rfl ?_
    show Steps p.tables e below (s₁.setTop (mkF m 31 #[.val (.int x0), .val (.int x1), .val (.int (x0 &&& (2147483647 : Int32))), .val (.long (((2147483647 : Int64) - ((x0 &&& (2147483647 : Int32)).toInt64)) + (1 : Int64))), .second, .val (.long (((x1 &&& (2147483647 : Int32)).toInt64) - (((x1 &&& (2147483647 : Int32)).toInt64) / (((2147483647 : Int64) - ((x0 &&& (2147483647 : Int32)).toInt64)) + (1 : Int64))) * (((2147483647 : Int64) - ((x0 &&& (2147483647 : Int32)).toInt64)) + (1 : Int64)))), .second, .val (.int ((((x0 &&& (2147483647 : Int32)).toInt64) + (((x1 &&& (2147483647 : Int32)).toInt64) - (((x1 &&& (2147483647 : Int32)).toInt64) / (((2147483647 : Int64) - ((x0 &&& (2147483647 : Int32)).toInt64)) + (1 : Int64))) * (((2147483647 : Int64) - ((x0 &&& (2147483647 : Int32)).toInt64)) + (1 : Int64)))).toInt32)), .unset, .unset, .unset, .unset] [])) _
    exact Steps.refl _
  have pre5 := pre0.trans st5
  obtain ⟨T6, h6, X6, e6, E6, A6, D6, -, st6⟩ := newO X0 hx hZ hown (hw _ (List.mem_of_getElem? (i := 2) rfl)) (hw _ (List.mem_of_getElem? (i := 3) rfl)) (hw _ (List.mem_of_getElem? (i := 4) rfl)) e0 (g := (mkF m 31 #[.val (.int x0), .val (.int x1), .val (.int v1), .val (.long v2), .second, .val (.long v3), .second, .val (.int v4), .unset, .unset, .unset, .unset] [])) rfl (hb hby at_31) (by decide) (by decide)
  obtain ⟨b6, g6⟩ : ∃ z, z = h0.size := ⟨_, rfl⟩
  rw [← g6] at A6 D6 st6
  have pre6 : Steps p.tables e below (s₁.setTop (entryFrame m #[(.int x0), (.int x1)] maxLocals)) (T6.setTop (mkF m 34 #[.val (.int x0), .val (.int x1), .val (.int v1), .val (.long v2), .second, .val (.long v3), .second, .val (.int v4), .unset, .unset, .unset, .unset] [(.ref b6)])) := pre5.trans (st6 _ (Steps.refl _))
  have gn6 : n0 ≤ b6 := Nat.le_trans Z0 (Nat.le_of_eq g6.symm)
  have sz6 : h0.size ≤ b6 := Nat.le_trans K0.1 (Nat.le_of_eq g6.symm)
  have K6 := K0.ext E6
  have Z6 : n0 ≤ h6.size := Nat.le_trans Z0 E6.1
  have F7 : Fld Z h6 b6 "com/example/vesper/vesper/model/FreeRun" "firstSlot" "I" (.int (0 : Int32)) := D6 (Or.inr (hw _ (List.mem_of_getElem? (i := 17) rfl))) (ty := .int) (by decide)
  have F8 : Fld Z h6 b6 "com/example/vesper/vesper/model/FreeRun" "lastSlot" "I" (.int (0 : Int32)) := D6 (Or.inr (hw _ (List.mem_of_getElem? (i := 19) rfl))) (ty := .int) (by decide)
  have st9 : Steps p.tables e below (T6.setTop (mkF m 34 #[.val (.int x0), .val (.int x1), .val (.int v1), .val (.long v2), .second, .val (.long v3), .second, .val (.int v4), .unset, .unset, .unset, .unset] [(.ref b6)])) (T6.setTop (mkF m 38 #[.val (.int x0), .val (.int x1), .val (.int v1), .val (.long v2), .second, .val (.long v3), .second, .val (.int v4), .unset, .unset, .unset, .unset] [(.int v4), (.int v1), (.ref b6), (.ref b6)])) := by
    refine XS.dup X6.here hx rfl (hb hby at_34) rfl rfl ?_
    show Steps p.tables e below (T6.setTop (mkF m 35 #[.val (.int x0), .val (.int x1), .val (.int v1), .val (.long v2), .second, .val (.long v3), .second, .val (.int v4), .unset, .unset, .unset, .unset] [(.ref b6), (.ref b6)])) _
    refine XS.iloadN X6.here hx rfl (hb hby at_35) rfl ?_
    show Steps p.tables e below (T6.setTop (mkF m 36 #[.val (.int x0), .val (.int x1), .val (.int v1), .val (.long v2), .second, .val (.long v3), .second, .val (.int v4), .unset, .unset, .unset, .unset] [(.int v1), (.ref b6), (.ref b6)])) _
    refine XS.iload X6.here hx rfl (hb hby at_36) rfl ?_
    show Steps p.tables e below (T6.setTop (mkF m 38 #[.val (.int x0), .val (.int x1), .val (.int v1), .val (.long v2), .second, .val (.long v3), .second, .val (.int v4), .unset, .unset, .unset, .unset] [(.int v4), (.int v1), (.ref b6), (.ref b6)])) _
    exact Steps.refl _
  have pre9 := pre6.trans st9
  obtain ⟨_, _, ⟨T10, L10, k10, n10⟩, -, X10, ⟨Lc10, hQ10, l10, y10, z10⟩, st10⟩ := X6.specialBack hx (y := (⟨"com/example/vesper/vesper/model/FreeRun", "<init>", "(II)V"⟩ : MethodName)) rfl hown (mvT hZ (hw _ (List.mem_of_getElem? (i := 5) rfl))) (mvT hZ (hw _ (List.mem_of_getElem? (i := 6) rfl))) (mvT hZ (hw _ (List.mem_of_getElem? (i := 7) rfl))) (by decide) (backOf (W := 1) (rm2 l Z a0 hw [] b6 v1 v4 (.int (0 : Int32)) (.int (0 : Int32)) h6 n0 Z6 A6 F7 F8 gn6 (own_nn (own_all hv1 hv2 hv3 hv4)).1 (own_nn (own_all hv1 hv2 hv3 hv4)).2) hZ (hw _ (List.mem_of_getElem? (i := 7) rfl)) (hw _ (List.mem_of_getElem? (i := 4) rfl)) (by decide) (by decide)) (g := (mkF m 38 #[.val (.int x0), .val (.int x1), .val (.int v1), .val (.long v2), .second, .val (.long v3), .second, .val (.int v4), .unset, .unset, .unset, .unset] [(.int v4), (.int v1), (.ref b6), (.ref b6)])) rfl (by rw [hml]; rfl) (Steps.refl _) (a := b6) (argsL := [(.int v1), (.int v4)]) (rest := [(.ref b6)]) (lenOf pd0_0 rfl) rfl (by show 2 * 0 + _ ≤ _; exact Nat.le_of_eq rfl) (hb hby at_38) (fun _ _ => ⟨rfl, e6, (by decide : 1 + 0 ≤ _), (by decide : 2 + 0 ≤ _)⟩)
  dsimp only [Pt.U, Pt.locs, Pt.cells, Pt.slots] at X10 l10 y10 z10 st10 hQ10
  subst l10 y10 z10
  obtain ⟨rfl, Nq10, Kq10, P10_0, P10_1, P10_2⟩ := hQ10
  have F11 : Exa Z T10.heap b6 "com/example/vesper/vesper/model/FreeRun" := A6.keep Kq10
  have KK10 := K6.trans Kq10 (allS (Or.inr sz6) all0)
  have Z10 : n0 ≤ T10.heap.size := Nat.le_trans Z6 Kq10.1
  have N10 := Fr.app N0 Nq10
  have pre10 : Steps p.tables e below (s₁.setTop (entryFrame m #[(.int x0), (.int x1)] maxLocals)) (T10.setTop (mkF m 41 #[.val (.int x0), .val (.int x1), .val (.int v1), .val (.long v2), .second, .val (.long v3), .second, .val (.int v4), .unset, .unset, .unset, .unset] [(.ref b6)])) := pre9.trans st10
  have st14 : Steps p.tables e below (T10.setTop (mkF m 41 #[.val (.int x0), .val (.int x1), .val (.int v1), .val (.long v2), .second, .val (.long v3), .second, .val (.int v4), .unset, .unset, .unset, .unset] [(.ref b6)])) (T10.setTop (mkF m 45 #[.val (.int x0), .val (.int x1), .val (.int v1), .val (.long v2), .second, .val (.long v3), .second, .val (.int v4), .val (.ref b6), .unset, .unset, .unset] [(.ref b6)])) := by
    refine XS.astore X10.here hx rfl (hb hby at_41) rfl rfl (l' := #[.val (.int x0), .val (.int x1), .val (.int v1), .val (.long v2), .second, .val (.long v3), .second, .val (.int v4), .val (.ref b6), .unset, .unset, .unset]) rfl ?_
    show Steps p.tables e below (T10.setTop (mkF m 43 #[.val (.int x0), .val (.int x1), .val (.int v1), .val (.long v2), .second, .val (.long v3), .second, .val (.int v4), .val (.ref b6), .unset, .unset, .unset] [])) _
    refine XS.aload X10.here hx rfl (hb hby at_43) rfl rfl ?_
    show Steps p.tables e below (T10.setTop (mkF m 45 #[.val (.int x0), .val (.int x1), .val (.int v1), .val (.long v2), .second, .val (.long v3), .second, .val (.int v4), .val (.ref b6), .unset, .unset, .unset] [(.ref b6)])) _
    exact Steps.refl _
  have pre14 := pre10.trans st14
  obtain ⟨cq15, kq15, q15a, q15b, q15c⟩ := isOf hZ rfl F11
  obtain ⟨_, _, ⟨T15, L15, k15, n15⟩, -, X15, ⟨Lc15, hQ15, l15, y15, z15⟩, st15⟩ := X10.virtualBack hx (y := (⟨"com/example/vesper/vesper/model/FreeRun", "slots", "()I"⟩ : MethodName)) (z := (⟨"com/example/vesper/vesper/model/FreeRun", "slots", "()I"⟩ : MethodName)) hown (mvT hZ (hw _ (List.mem_of_getElem? (i := 20) rfl))) (mvT hZ (hw _ (List.mem_of_getElem? (i := 21) rfl))) (notFace_of_selects (args := #[]) (mvT hZ (hw _ (List.mem_of_getElem? (i := 23) rfl)))) (mvT hZ (hw _ (List.mem_of_getElem? (i := 23) rfl))) (mvT hZ (hw _ (List.mem_of_getElem? (i := 22) rfl))) (by decide) (backOf (W := 0) (rm3 l Z a0 hw [] b6 v4 v1 T10.heap n0 Z10 P10_2 P10_1) hZ (hw _ (List.mem_of_getElem? (i := 24) rfl)) (hw _ (List.mem_of_getElem? (i := 4) rfl)) (by decide) (by decide)) q15a q15c (g := (mkF m 45 #[.val (.int x0), .val (.int x1), .val (.int v1), .val (.long v2), .second, .val (.long v3), .second, .val (.int v4), .val (.ref b6), .unset, .unset, .unset] [(.ref b6)])) rfl (by rw [hml]; rfl) (Steps.refl _) (argsL := []) (rest := []) (lenOf pd0_1 rfl) rfl (by show 2 * 0 + _ ≤ _; exact Nat.le_of_eq rfl) (hb hby at_45) (fun _ _ => ⟨rfl, rfl, (by decide : 1 + 0 ≤ _), (by decide : 2 + 0 ≤ _)⟩)
  dsimp only [Pt.U, Pt.locs, Pt.cells, Pt.slots] at X15 l15 y15 z15 st15 hQ15
  subst l15 y15 z15
  obtain ⟨rfl, Nq15, e15⟩ := hQ15
  have N15 := Fr.app N10 Nq15
  have pre15 : Steps p.tables e below (s₁.setTop (entryFrame m #[(.int x0), (.int x1)] maxLocals)) (T15.setTop (mkF m 48 #[.val (.int x0), .val (.int x1), .val (.int v1), .val (.long v2), .second, .val (.long v3), .second, .val (.int v4), .val (.ref b6), .unset, .unset, .unset] [(.int (own_F3 b6 v4 v1))])) := pre14.trans st15
  obtain ⟨v16, hv16⟩ : ∃ z : Int32, z = (own_F3 b6 v4 v1) := ⟨_, rfl⟩
  obtain ⟨v17, hv17⟩ : ∃ z : Int64, z = (((v4.toInt64) - (v1.toInt64)) + (1 : Int64)) := ⟨_, rfl⟩
  have st18 : Steps p.tables e below (T15.setTop (mkF m 48 #[.val (.int x0), .val (.int x1), .val (.int v1), .val (.long v2), .second, .val (.long v3), .second, .val (.int v4), .val (.ref b6), .unset, .unset, .unset] [(.int (own_F3 b6 v4 v1))])) (T15.setTop (mkF m 66 #[.val (.int x0), .val (.int x1), .val (.int v1), .val (.long v2), .second, .val (.long v3), .second, .val (.int v4), .val (.ref b6), .val (.int v16), .val (.long v17), .second] [(.int (lcmpW v17 (2147483647 : Int64)))])) := by
    subst v17 v16
    refine XS.istore X15.here hx rfl (hb hby at_48) rfl (l' := #[.val (.int x0), .val (.int x1), .val (.int v1), .val (.long v2), .second, .val (.long v3), .second, .val (.int v4), .val (.ref b6), .val (.int (own_F3 b6 v4 v1)), .unset, .unset]) rfl ?_
    show Steps p.tables e below (T15.setTop (mkF m 50 #[.val (.int x0), .val (.int x1), .val (.int v1), .val (.long v2), .second, .val (.long v3), .second, .val (.int v4), .val (.ref b6), .val (.int (own_F3 b6 v4 v1)), .unset, .unset] [])) _
    refine XS.iload X15.here hx rfl (hb hby at_50) rfl ?_
    show Steps p.tables e below (T15.setTop (mkF m 52 #[.val (.int x0), .val (.int x1), .val (.int v1), .val (.long v2), .second, .val (.long v3), .second, .val (.int v4), .val (.ref b6), .val (.int (own_F3 b6 v4 v1)), .unset, .unset] [(.int v4)])) _
    refine XS.i2l X15.here hx rfl (hb hby at_52) rfl ?_
    show Steps p.tables e below (T15.setTop (mkF m 53 #[.val (.int x0), .val (.int x1), .val (.int v1), .val (.long v2), .second, .val (.long v3), .second, .val (.int v4), .val (.ref b6), .val (.int (own_F3 b6 v4 v1)), .unset, .unset] [(.long (v4.toInt64))])) _
    refine XS.iloadN X15.here hx rfl (hb hby at_53) rfl ?_
    show Steps p.tables e below (T15.setTop (mkF m 54 #[.val (.int x0), .val (.int x1), .val (.int v1), .val (.long v2), .second, .val (.long v3), .second, .val (.int v4), .val (.ref b6), .val (.int (own_F3 b6 v4 v1)), .unset, .unset] [(.int v1), (.long (v4.toInt64))])) _
    refine XS.i2l X15.here hx rfl (hb hby at_54) rfl ?_
    show Steps p.tables e below (T15.setTop (mkF m 55 #[.val (.int x0), .val (.int x1), .val (.int v1), .val (.long v2), .second, .val (.long v3), .second, .val (.int v4), .val (.ref b6), .val (.int (own_F3 b6 v4 v1)), .unset, .unset] [(.long (v1.toInt64)), (.long (v4.toInt64))])) _
    refine XS.lsub X15.here hx rfl (hb hby at_55) rfl ?_
    show Steps p.tables e below (T15.setTop (mkF m 56 #[.val (.int x0), .val (.int x1), .val (.int v1), .val (.long v2), .second, .val (.long v3), .second, .val (.int v4), .val (.ref b6), .val (.int (own_F3 b6 v4 v1)), .unset, .unset] [(.long ((v4.toInt64) - (v1.toInt64)))])) _
    refine XS.lconst X15.here hx rfl (hb hby at_56) ?_
    show Steps p.tables e below (T15.setTop (mkF m 57 #[.val (.int x0), .val (.int x1), .val (.int v1), .val (.long v2), .second, .val (.long v3), .second, .val (.int v4), .val (.ref b6), .val (.int (own_F3 b6 v4 v1)), .unset, .unset] [(.long (1 : Int64)), (.long ((v4.toInt64) - (v1.toInt64)))])) _
    refine XS.ladd X15.here hx rfl (hb hby at_57) rfl ?_
    show Steps p.tables e below (T15.setTop (mkF m 58 #[.val (.int x0), .val (.int x1), .val (.int v1), .val (.long v2), .second, .val (.long v3), .second, .val (.int v4), .val (.ref b6), .val (.int (own_F3 b6 v4 v1)), .unset, .unset] [(.long (((v4.toInt64) - (v1.toInt64)) + (1 : Int64)))])) _
    refine XS.lstore X15.here hx rfl (hb hby at_58) rfl (l' := #[.val (.int x0), .val (.int x1), .val (.int v1), .val (.long v2), .second, .val (.long v3), .second, .val (.int v4), .val (.ref b6), .val (.int (own_F3 b6 v4 v1)), .val (.long (((v4.toInt64) - (v1.toInt64)) + (1 : Int64))), .second]) rfl ?_
    show Steps p.tables e below (T15.setTop (mkF m 60 #[.val (.int x0), .val (.int x1), .val (.int v1), .val (.long v2), .second, .val (.long v3), .second, .val (.int v4), .val (.ref b6), .val (.int (own_F3 b6 v4 v1)), .val (.long (((v4.toInt64) - (v1.toInt64)) + (1 : Int64))), .second] [])) _
    refine XS.lload X15.here hx rfl (hb hby at_60) rfl ?_
    show Steps p.tables e below (T15.setTop (mkF m 62 #[.val (.int x0), .val (.int x1), .val (.int v1), .val (.long v2), .second, .val (.long v3), .second, .val (.int v4), .val (.ref b6), .val (.int (own_F3 b6 v4 v1)), .val (.long (((v4.toInt64) - (v1.toInt64)) + (1 : Int64))), .second] [(.long (((v4.toInt64) - (v1.toInt64)) + (1 : Int64)))])) _
    refine X15.ldc2Long hx hown (mvT hZ (hw _ (List.mem_of_getElem? (i := 1) rfl))) (g := (mkF m 62 #[.val (.int x0), .val (.int x1), .val (.int v1), .val (.long v2), .second, .val (.long v3), .second, .val (.int v4), .val (.ref b6), .val (.int (own_F3 b6 v4 v1)), .val (.long (((v4.toInt64) - (v1.toInt64)) + (1 : Int64))), .second] [(.long (((v4.toInt64) - (v1.toInt64)) + (1 : Int64)))])) rfl (hb hby at_62) _ ?_
    show Steps p.tables e below (T15.setTop (mkF m 65 #[.val (.int x0), .val (.int x1), .val (.int v1), .val (.long v2), .second, .val (.long v3), .second, .val (.int v4), .val (.ref b6), .val (.int (own_F3 b6 v4 v1)), .val (.long (((v4.toInt64) - (v1.toInt64)) + (1 : Int64))), .second] [(.long (2147483647 : Int64)), (.long (((v4.toInt64) - (v1.toInt64)) + (1 : Int64)))])) _
    refine XS.lcmp X15.here hx rfl (hb hby at_65) rfl ?_
    show Steps p.tables e below (T15.setTop (mkF m 66 #[.val (.int x0), .val (.int x1), .val (.int v1), .val (.long v2), .second, .val (.long v3), .second, .val (.int v4), .val (.ref b6), .val (.int (own_F3 b6 v4 v1)), .val (.long (((v4.toInt64) - (v1.toInt64)) + (1 : Int64))), .second] [(.int (lcmpW (((v4.toInt64) - (v1.toInt64)) + (1 : Int64)) (2147483647 : Int64)))])) _
    exact Steps.refl _
  have pre18 := pre15.trans st18
  by_cases hc66 : (2147483647 : Int64) < v17
  · have st19 : Steps p.tables e below (T15.setTop (mkF m 66 #[.val (.int x0), .val (.int x1), .val (.int v1), .val (.long v2), .second, .val (.long v3), .second, .val (.int v4), .val (.ref b6), .val (.int v16), .val (.long v17), .second] [(.int (lcmpW v17 (2147483647 : Int64)))])) (T15.setTop (mkF m 84 #[.val (.int x0), .val (.int x1), .val (.int v1), .val (.long v2), .second, .val (.long v3), .second, .val (.int v4), .val (.ref b6), .val (.int v16), .val (.long v17), .second] [])) := by
      refine XS.ifYes X15.here hx rfl (pc0 := 66) (pc' := 84) rfl (hb hby at_66) rfl ((if0 _ _).trans (tlt ((lw_gt v17 (2147483647 : Int64)).mpr hc66)).2.2.1) (by decide) (by decide) ?_
      exact Steps.refl _
    have pre19 := pre18.trans st19
    have st20 : Steps p.tables e below (T15.setTop (mkF m 84 #[.val (.int x0), .val (.int x1), .val (.int v1), .val (.long v2), .second, .val (.long v3), .second, .val (.int v4), .val (.ref b6), .val (.int v16), .val (.long v17), .second] [])) (T15.setTop (mkF m 90 #[.val (.int x0), .val (.int x1), .val (.int v1), .val (.long v2), .second, .val (.long v3), .second, .val (.int v4), .val (.ref b6), .val (.int v16), .val (.long v17), .second] [(.int (lcmpW v17 (2147483648 : Int64)))])) := by
      refine XS.lload X15.here hx rfl (hb hby at_84) rfl ?_
      show Steps p.tables e below (T15.setTop (mkF m 86 #[.val (.int x0), .val (.int x1), .val (.int v1), .val (.long v2), .second, .val (.long v3), .second, .val (.int v4), .val (.ref b6), .val (.int v16), .val (.long v17), .second] [(.long v17)])) _
      refine X15.ldc2Long hx hown (mvT hZ (hw _ (List.mem_of_getElem? (i := 25) rfl))) (g := (mkF m 86 #[.val (.int x0), .val (.int x1), .val (.int v1), .val (.long v2), .second, .val (.long v3), .second, .val (.int v4), .val (.ref b6), .val (.int v16), .val (.long v17), .second] [(.long v17)])) rfl (hb hby at_86) _ ?_
      show Steps p.tables e below (T15.setTop (mkF m 89 #[.val (.int x0), .val (.int x1), .val (.int v1), .val (.long v2), .second, .val (.long v3), .second, .val (.int v4), .val (.ref b6), .val (.int v16), .val (.long v17), .second] [(.long (2147483648 : Int64)), (.long v17)])) _
      refine XS.lcmp X15.here hx rfl (hb hby at_89) rfl ?_
      show Steps p.tables e below (T15.setTop (mkF m 90 #[.val (.int x0), .val (.int x1), .val (.int v1), .val (.long v2), .second, .val (.long v3), .second, .val (.int v4), .val (.ref b6), .val (.int v16), .val (.long v17), .second] [(.int (lcmpW v17 (2147483648 : Int64)))])) _
      exact Steps.refl _
    have pre20 := pre19.trans st20
    have hc90 : v17 = (2147483648 : Int64) := by
      exact ((own_fin b6 (own_all hv1 hv2 hv3 hv4) hv17).2 hc66).1
    have st21 : Steps p.tables e below (T15.setTop (mkF m 90 #[.val (.int x0), .val (.int x1), .val (.int v1), .val (.long v2), .second, .val (.long v3), .second, .val (.int v4), .val (.ref b6), .val (.int v16), .val (.long v17), .second] [(.int (lcmpW v17 (2147483648 : Int64)))])) (T15.setTop (mkF m 93 #[.val (.int x0), .val (.int x1), .val (.int v1), .val (.long v2), .second, .val (.long v3), .second, .val (.int v4), .val (.ref b6), .val (.int v16), .val (.long v17), .second] [])) := by
      refine XS.ifNo X15.here hx rfl (hb hby at_90) rfl ((if0 _ _).trans (teq ((lw_eq v17 (2147483648 : Int64)).mpr hc90)).2) ?_
      exact Steps.refl _
    have pre21 := pre20.trans st21
    have st22 : Steps p.tables e below (T15.setTop (mkF m 93 #[.val (.int x0), .val (.int x1), .val (.int v1), .val (.long v2), .second, .val (.long v3), .second, .val (.int v4), .val (.ref b6), .val (.int v16), .val (.long v17), .second] [])) (T15.setTop (mkF m 97 #[.val (.int x0), .val (.int x1), .val (.int v1), .val (.long v2), .second, .val (.long v3), .second, .val (.int v4), .val (.ref b6), .val (.int v16), .val (.long v17), .second] [(.int (-2147483648 : Int32)), (.int v16)])) := by
      refine XS.iload X15.here hx rfl (hb hby at_93) rfl ?_
      show Steps p.tables e below (T15.setTop (mkF m 95 #[.val (.int x0), .val (.int x1), .val (.int v1), .val (.long v2), .second, .val (.long v3), .second, .val (.int v4), .val (.ref b6), .val (.int v16), .val (.long v17), .second] [(.int v16)])) _
      refine X15.ldcInt hx hown (mvT hZ (hw _ (List.mem_of_getElem? (i := 26) rfl))) (g := (mkF m 95 #[.val (.int x0), .val (.int x1), .val (.int v1), .val (.long v2), .second, .val (.long v3), .second, .val (.int v4), .val (.ref b6), .val (.int v16), .val (.long v17), .second] [(.int v16)])) rfl (hb hby at_95) _ ?_
      show Steps p.tables e below (T15.setTop (mkF m 97 #[.val (.int x0), .val (.int x1), .val (.int v1), .val (.long v2), .second, .val (.long v3), .second, .val (.int v4), .val (.ref b6), .val (.int v16), .val (.long v17), .second] [(.int (-2147483648 : Int32)), (.int v16)])) _
      exact Steps.refl _
    have pre22 := pre21.trans st22
    have hc97 : v16 = (-2147483648 : Int32) := by
      rw [hv16]
      exact ((own_fin _ (own_all hv1 hv2 hv3 hv4) hv17).2 hc66).2
    have st23 : Steps p.tables e below (T15.setTop (mkF m 97 #[.val (.int x0), .val (.int x1), .val (.int v1), .val (.long v2), .second, .val (.long v3), .second, .val (.int v4), .val (.ref b6), .val (.int v16), .val (.long v17), .second] [(.int (-2147483648 : Int32)), (.int v16)])) (T15.setTop (mkF m 100 #[.val (.int x0), .val (.int x1), .val (.int v1), .val (.long v2), .second, .val (.long v3), .second, .val (.int v4), .val (.ref b6), .val (.int v16), .val (.long v17), .second] [])) := by
      refine XS.icmpNo X15.here hx rfl (hb hby at_97) rfl (teq hc97).2 ?_
      exact Steps.refl _
    have pre23 := pre22.trans st23
    have st24 : Steps p.tables e below (T15.setTop (mkF m 100 #[.val (.int x0), .val (.int x1), .val (.int v1), .val (.long v2), .second, .val (.long v3), .second, .val (.int v4), .val (.ref b6), .val (.int v16), .val (.long v17), .second] [])) (T15.setTop (mkF m 105 #[.val (.int x0), .val (.int x1), .val (.int v1), .val (.long v2), .second, .val (.long v3), .second, .val (.int v4), .val (.ref b6), .val (.int v16), .val (.long v17), .second] [(.int (1 : Int32))])) := by
      refine XS.iconst X15.here hx rfl (hb hby at_100) ?_
      show Steps p.tables e below (T15.setTop (mkF m 101 #[.val (.int x0), .val (.int x1), .val (.int v1), .val (.long v2), .second, .val (.long v3), .second, .val (.int v4), .val (.ref b6), .val (.int v16), .val (.long v17), .second] [(.int (1 : Int32))])) _
      refine XS.goto X15.here hx rfl (pc0 := 101) (pc' := 105) rfl (hb hby at_101) (by decide) (by decide) ?_
      show Steps p.tables e below (T15.setTop (mkF m 105 #[.val (.int x0), .val (.int x1), .val (.int v1), .val (.long v2), .second, .val (.long v3), .second, .val (.int v4), .val (.ref b6), .val (.int v16), .val (.long v17), .second] [(.int (1 : Int32))])) _
      exact Steps.refl _
    have pre24 := pre23.trans st24
    obtain ⟨fs, hr, hrun, hended, hW, hsame⟩ := X15.leave (v := some (.int (1 : Int32))) (fun h => by rw [Bd.returns] at h; cases h)
    refine ⟨_, _, pre24.trans ?_, hrun, hended, _, _, rfl, ?_, ⟨_, rfl⟩, hW, hsame.mono (by decide) (by decide)⟩
    · show Steps p.tables e below (T15.setTop (mkF m 105 #[.val (.int x0), .val (.int x1), .val (.int v1), .val (.long v2), .second, .val (.long v3), .second, .val (.int v4), .val (.ref b6), .val (.int v16), .val (.long v17), .second] [(.int (1 : Int32))])) _
      exact retN X15 hx (t := .boolean) Bd.returns (by simp) (hb hby at_105) hr
    · show Q0 Z x0 x1 h0 n0 _ T15.heap _
      rw [e15]
      exact ⟨rfl, N15⟩
  · have st25 : Steps p.tables e below (T15.setTop (mkF m 66 #[.val (.int x0), .val (.int x1), .val (.int v1), .val (.long v2), .second, .val (.long v3), .second, .val (.int v4), .val (.ref b6), .val (.int v16), .val (.long v17), .second] [(.int (lcmpW v17 (2147483647 : Int64)))])) (T15.setTop (mkF m 69 #[.val (.int x0), .val (.int x1), .val (.int v1), .val (.long v2), .second, .val (.long v3), .second, .val (.int v4), .val (.ref b6), .val (.int v16), .val (.long v17), .second] [])) := by
      refine XS.ifNo X15.here hx rfl (hb hby at_66) rfl ((if0 _ _).trans (flt (fun q => hc66 ((lw_gt v17 (2147483647 : Int64)).mp q))).2.2.1) ?_
      exact Steps.refl _
    have pre25 := pre18.trans st25
    have st26 : Steps p.tables e below (T15.setTop (mkF m 69 #[.val (.int x0), .val (.int x1), .val (.int v1), .val (.long v2), .second, .val (.long v3), .second, .val (.int v4), .val (.ref b6), .val (.int v16), .val (.long v17), .second] [])) (T15.setTop (mkF m 75 #[.val (.int x0), .val (.int x1), .val (.int v1), .val (.long v2), .second, .val (.long v3), .second, .val (.int v4), .val (.ref b6), .val (.int v16), .val (.long v17), .second] [(.int (lcmpW (v16.toInt64) v17))])) := by
      refine XS.iload X15.here hx rfl (hb hby at_69) rfl ?_
      show Steps p.tables e below (T15.setTop (mkF m 71 #[.val (.int x0), .val (.int x1), .val (.int v1), .val (.long v2), .second, .val (.long v3), .second, .val (.int v4), .val (.ref b6), .val (.int v16), .val (.long v17), .second] [(.int v16)])) _
      refine XS.i2l X15.here hx rfl (hb hby at_71) rfl ?_
      show Steps p.tables e below (T15.setTop (mkF m 72 #[.val (.int x0), .val (.int x1), .val (.int v1), .val (.long v2), .second, .val (.long v3), .second, .val (.int v4), .val (.ref b6), .val (.int v16), .val (.long v17), .second] [(.long (v16.toInt64))])) _
      refine XS.lload X15.here hx rfl (hb hby at_72) rfl ?_
      show Steps p.tables e below (T15.setTop (mkF m 74 #[.val (.int x0), .val (.int x1), .val (.int v1), .val (.long v2), .second, .val (.long v3), .second, .val (.int v4), .val (.ref b6), .val (.int v16), .val (.long v17), .second] [(.long v17), (.long (v16.toInt64))])) _
      refine XS.lcmp X15.here hx rfl (hb hby at_74) rfl ?_
      show Steps p.tables e below (T15.setTop (mkF m 75 #[.val (.int x0), .val (.int x1), .val (.int v1), .val (.long v2), .second, .val (.long v3), .second, .val (.int v4), .val (.ref b6), .val (.int v16), .val (.long v17), .second] [(.int (lcmpW (v16.toInt64) v17))])) _
      exact Steps.refl _
    have pre26 := pre25.trans st26
    have hc75 : (v16.toInt64) = v17 := by
      rw [hv16]
      exact (own_fin _ (own_all hv1 hv2 hv3 hv4) hv17).1 hc66
    have st27 : Steps p.tables e below (T15.setTop (mkF m 75 #[.val (.int x0), .val (.int x1), .val (.int v1), .val (.long v2), .second, .val (.long v3), .second, .val (.int v4), .val (.ref b6), .val (.int v16), .val (.long v17), .second] [(.int (lcmpW (v16.toInt64) v17))])) (T15.setTop (mkF m 78 #[.val (.int x0), .val (.int x1), .val (.int v1), .val (.long v2), .second, .val (.long v3), .second, .val (.int v4), .val (.ref b6), .val (.int v16), .val (.long v17), .second] [])) := by
      refine XS.ifNo X15.here hx rfl (hb hby at_75) rfl ((if0 _ _).trans (teq ((lw_eq (v16.toInt64) v17).mpr hc75)).2) ?_
      exact Steps.refl _
    have pre27 := pre26.trans st27
    have st28 : Steps p.tables e below (T15.setTop (mkF m 78 #[.val (.int x0), .val (.int x1), .val (.int v1), .val (.long v2), .second, .val (.long v3), .second, .val (.int v4), .val (.ref b6), .val (.int v16), .val (.long v17), .second] [])) (T15.setTop (mkF m 83 #[.val (.int x0), .val (.int x1), .val (.int v1), .val (.long v2), .second, .val (.long v3), .second, .val (.int v4), .val (.ref b6), .val (.int v16), .val (.long v17), .second] [(.int (1 : Int32))])) := by
      refine XS.iconst X15.here hx rfl (hb hby at_78) ?_
      show Steps p.tables e below (T15.setTop (mkF m 79 #[.val (.int x0), .val (.int x1), .val (.int v1), .val (.long v2), .second, .val (.long v3), .second, .val (.int v4), .val (.ref b6), .val (.int v16), .val (.long v17), .second] [(.int (1 : Int32))])) _
      refine XS.goto X15.here hx rfl (pc0 := 79) (pc' := 83) rfl (hb hby at_79) (by decide) (by decide) ?_
      show Steps p.tables e below (T15.setTop (mkF m 83 #[.val (.int x0), .val (.int x1), .val (.int v1), .val (.long v2), .second, .val (.long v3), .second, .val (.int v4), .val (.ref b6), .val (.int v16), .val (.long v17), .second] [(.int (1 : Int32))])) _
      exact Steps.refl _
    have pre28 := pre27.trans st28
    obtain ⟨fs, hr, hrun, hended, hW, hsame⟩ := X15.leave (v := some (.int (1 : Int32))) (fun h => by rw [Bd.returns] at h; cases h)
    refine ⟨_, _, pre28.trans ?_, hrun, hended, _, _, rfl, ?_, ⟨_, rfl⟩, hW, hsame.mono (by decide) (by decide)⟩
    · show Steps p.tables e below (T15.setTop (mkF m 83 #[.val (.int x0), .val (.int x1), .val (.int v1), .val (.long v2), .second, .val (.long v3), .second, .val (.int v4), .val (.ref b6), .val (.int v16), .val (.long v17), .second] [(.int (1 : Int32))])) _
      exact retN X15 hx (t := .boolean) Bd.returns (by simp) (hb hby at_83) hr
    · show Q0 Z x0 x1 h0 n0 _ T15.heap _
      rw [e15]
      exact ⟨rfl, N15⟩
set_option maxRecDepth 65536 in
set_option maxHeartbeats 40000000 in
theorem comes_1 {Post : Tables → Env → Array Value → State → Outcome → State → Prop} (hpost : ∀ tb e args s v u, (limb_1_1.after args s (.returned v) u = true ∧ limb_1_2.after args s (.returned v) u = true ∧ True) → FrameEnd s (.returned v) u (Jvm.fieldLocs frame_1_writes args s ++ Jvm.arrayLocs frame_1_arrays args s ++ Jvm.staticLocs frame_1_statics s) 16 128 → Post tb e args s (.returned v) u) :
    ArmFor flags0 classFile x code maxLocals ret World_1 tables_1 room_1 Calls_1 rest_1 Pre_1 Post := by
  intro l hfl _ _ p e ha hc hk s m args below hf hA hF happ hP
  obtain ⟨hcalls, hrest, hpre⟩ := hP
  obtain ⟨-, -, -, hnamed, -, -, -, hat⟩ := (Spec.applies_iff hf).mp happ
  obtain ⟨hg, hn⟩ := and_e (Cond.before_iff.mp (show (Jvm.Cond.and given_1 narrow_1).before args s = true from hpre))
  obtain ⟨g1, g2⟩ := and_e hg
  obtain ⟨g3, g4⟩ := and_e g2
  obtain ⟨w0, w1, rfl⟩ : ∃ w0 w1 : Value, args = #[w0, w1] := by
    have hs : args.size = 2 := by simpa [Cond.value, given_1] using g1
    obtain ⟨L⟩ := args
    match L, hs with
    | [w0, w1], _ => exact ⟨w0, w1, rfl⟩
  have hw := fun d (hd : d ∈ tables_1) => atoms_spec (ws := Jvm.Cond.code x code maxLocals ret :: tables_1) hat d (List.mem_cons_of_mem _ hd)
  obtain ⟨i0, ei0⟩ := is_v g3
  obtain rfl : w0 = (.int i0) := Option.some.inj ei0
  obtain ⟨i1, ei1⟩ := is_v g4
  obtain rfl : w1 = (.int i1) := Option.some.inj ei1
  obtain ⟨n, o, h1, h2, h3, _, L, rfl, ⟨rfl, N⟩, hq⟩ := rm0 l s _ hw tables_1 i0 i1 s.heap s.heap.size (Nat.le_refl _) p e ha hc hk s m _ below hf ((Spec.applies_iff_loose hf).mp happ).1 ⟨rfl, State.Warmed39.refl s, rfl⟩ trivial
  refine ⟨n, _, h1, h2, h3, hpost _ _ _ _ _ _ ⟨Cond.after_iff.mpr rfl, Cond.after_iff.mpr (eq_i res_at (Term.int_eval (1)) rfl), trivial⟩ ⟨hq.1, hq.2.1, (hq.2.2.sift fun y hy => Or.inr (N y hy)).mono (by decide) (by decide)⟩⟩
theorem main_1_1 : Claimed_1_1 := comes_1 fun _ _ _ _ _ _ h hF => ⟨h.1, hF⟩
theorem main_1_2 : Claimed_1_2 := comes_1 fun _ _ _ _ _ _ h hF => ⟨h.2.1, hF⟩
end Jvm.Pilot.@@N@@
namespace Jvm.Pilot.@@N@@
open Jvm Jvm.ClassFile Sem Op Lib Jvm.Free Jvm.Stand Jvm.Pilot.@@N@@.Jvm.D
/-! MADE BY PROGRAM (witnessworld.py) out of the Statement's table words and the real class files: 10 classes; the members and pool entries that the words name. The judged class is class 1, her method 1. -/
namespace start1
open Jvm.ClassFile
def u (s : String) : CpInfo := .utf8 (stringToUtf16 s)
/-- a pool by its gaps: so many unusable entries, then the entry; so many at the end -/
def gap : Nat → List CpInfo → List CpInfo
  | 0, r => r
  | n + 1, r => .unusable :: gap n r
def poolList (es : List (Nat × CpInfo)) (last : Nat) : List CpInfo := es.foldr (fun e r => gap e.1 (e.2 :: r)) (gap last [])
def pool (es : List (Nat × CpInfo)) (last : Nat) : Array CpInfo := ⟨poolList es last⟩
def fileOf (pool : Array CpInfo) (this : Nat) (attrs : Array Attribute := #[]) (ms : Array MethodInfo := #[]) (fl : Nat := 33) (sup : Nat := 0) (ifs : Array Nat := #[]) (fds : Array FieldInfo := #[]) : ClassFile where
  minorVersion := 0
  majorVersion := 65
  constantPool := pool
  accessFlags := fl
  thisClass := this
  superClass := sup
  interfaces := ifs
  fields := fds
  methods := ms
  attributes := attrs
def plain (name : String) (sup : Option ClassId) : Class where
  name := name
  kind := .ordinary
  loader := none
  accessFlags := 33
  super := sup
  interfaces := #[]
  cf := none
  fields := #[]
  methods := #[]
  instanceTypes := #[]
  staticTypes := #[]
  resolved := #[]
  callSites := []
  init := .initialized
  statics := none
  mirror := none

def pool0 : Array CpInfo := pool [(5, u "<init>"), (0, u "()V"), (1, .class_ 10), (1, u "java/lang/Object")] 113

def k0c0 : Code := { maxStack := 0, maxLocals := 1, code := object_method_1_code, exceptionTable := #[], attributes := #[] }
def k0m0 : Method := { name := "<init>", desc := "()V", sig := { parameters := [], returnType := none }, accessFlags := 1, code := some k0c0 }
/-- java/lang/Object -/
def k0 : Class := { plain "java/lang/Object" none with
  accessFlags := 33
  interfaces := #[]
  cf := some (fileOf pool0 8 #[] #[{ accessFlags := 1, nameIndex := 5, descriptorIndex := 6, attributes := #[] }] 33 0 #[] #[])
  fields := #[]
  methods := #[k0m0]
  instanceTypes := #[]
  staticTypes := #[]
  resolved := Array.replicate 124 none
  statics := none }

def pool1 : Array CpInfo := pool [(2, .class_ 4), (1, u "java/lang/Object"), (0, u "<init>"), (0, u "()V"), (0, .integer 2147483647), (2, .long 2147483647), (1, .class_ 13), (0, u "com/example/vesper/vesper/model/FreeRun"), (0, .methodref 12 15), (0, .nameAndType 5 16), (0, u "(II)V"), (0, .methodref 12 18), (0, .nameAndType 19 20), (0, u "slots"), (0, u "()I"), (0, .long 2147483648), (1, .integer 2147483648), (0, .class_ 25), (0, u "com/example/vesper/vesper/model/FreeRunSlotsPinLaw"), (2, u "law"), (0, u "(II)Z")] 3

def k1m0 : Method := { name := "<init>", desc := "()V", sig := { parameters := [], returnType := none }, accessFlags := 1, code := none }
def k1c1 : Code := { maxStack := 4, maxLocals := 12, code := code, exceptionTable := #[], attributes := #[] }
def k1m1 : Method := { name := "law", desc := "(II)Z", sig := { parameters := [.int, .int], returnType := some .boolean }, accessFlags := 9, code := some k1c1 }
/-- com/example/vesper/vesper/model/FreeRunSlotsPinLaw -/
def k1 : Class := { plain "com/example/vesper/vesper/model/FreeRunSlotsPinLaw" (some 0) with
  accessFlags := 49
  interfaces := #[]
  cf := some (fileOf pool1 24 #[] #[{ accessFlags := 1, nameIndex := 5, descriptorIndex := 6, attributes := #[] }, { accessFlags := 9, nameIndex := 28, descriptorIndex := 29, attributes := #[] }] 49 2 #[] #[])
  fields := #[]
  methods := #[k1m0, k1m1]
  instanceTypes := #[]
  staticTypes := #[]
  resolved := Array.replicate 33 none
  statics := none }

def pool2 : Array CpInfo := pool [(1, .methodref 2 3), (0, .class_ 4), (0, .nameAndType 5 6), (0, u "java/lang/Object"), (0, u "<init>"), (0, u "()V"), (0, .class_ 8), (0, u "java/lang/Record")] 13

def k2c0 : Code := { maxStack := 1, maxLocals := 1, code := jdk_30_method_1_code, exceptionTable := #[], attributes := #[] }
def k2m0 : Method := { name := "<init>", desc := "()V", sig := { parameters := [], returnType := none }, accessFlags := 4, code := some k2c0 }
/-- java/lang/Record -/
def k2 : Class := { plain "java/lang/Record" (some 0) with
  accessFlags := 1057
  interfaces := #[]
  cf := some (fileOf pool2 7 #[] #[{ accessFlags := 4, nameIndex := 5, descriptorIndex := 6, attributes := #[] }] 1057 2 #[] #[])
  fields := #[]
  methods := #[k2m0]
  instanceTypes := #[]
  staticTypes := #[]
  resolved := Array.replicate 22 none
  statics := none }

def pool3 : Array CpInfo := pool [(1, .methodref 2 3), (0, .class_ 4), (0, .nameAndType 5 6), (0, u "java/lang/Record"), (0, u "<init>"), (0, u "()V"), (9, .fieldref 17 18), (0, .class_ 19), (0, .nameAndType 20 21), (0, u "com/example/vesper/vesper/model/FreeRun"), (0, u "firstSlot"), (0, u "I"), (0, .fieldref 17 23), (0, .nameAndType 24 21), (0, u "lastSlot"), (12, u "(II)V"), (4, u "slots"), (0, u "()I")] 31

def k3c0 : Code := { maxStack := 4, maxLocals := 3, code := prog_8_method_1_code, exceptionTable := #[], attributes := #[] }
def k3m0 : Method := { name := "<init>", desc := "(II)V", sig := { parameters := [.int, .int], returnType := none }, accessFlags := 1, code := some k3c0 }
def k3c1 : Code := { maxStack := 2, maxLocals := 1, code := prog_8_method_2_code, exceptionTable := #[], attributes := #[] }
def k3m1 : Method := { name := "slots", desc := "()I", sig := { parameters := [], returnType := some .int }, accessFlags := 1, code := some k3c1 }
/-- com/example/vesper/vesper/model/FreeRun -/
def k3 : Class := { plain "com/example/vesper/vesper/model/FreeRun" (some 2) with
  accessFlags := 49
  interfaces := #[]
  cf := some (fileOf pool3 17 #[] #[{ accessFlags := 1, nameIndex := 5, descriptorIndex := 37, attributes := #[] }, { accessFlags := 1, nameIndex := 42, descriptorIndex := 43, attributes := #[] }] 49 2 #[] #[{ accessFlags := 18, nameIndex := 20, descriptorIndex := 21, attributes := #[] }, { accessFlags := 18, nameIndex := 24, descriptorIndex := 21, attributes := #[] }])
  fields := #[{ name := "firstSlot", type := .int, accessFlags := 18, slot := 0, constantValue := 0 }, { name := "lastSlot", type := .int, accessFlags := 18, slot := 1, constantValue := 0 }]
  methods := #[k3m0, k3m1]
  instanceTypes := #[.int, .int]
  staticTypes := #[]
  resolved := Array.replicate 75 none
  statics := none }

def pool4 : Array CpInfo := pool [(1, u "java/lang/Cloneable"), (0, .class_ 1), (0, u "java/lang/Object"), (0, .class_ 3)] 3

/-- java/lang/Cloneable -/
def k4 : Class := { plain "java/lang/Cloneable" (some 0) with
  accessFlags := 1537
  interfaces := #[]
  cf := some (fileOf pool4 2 #[] #[] 1537 4 #[] #[])
  fields := #[]
  methods := #[]
  instanceTypes := #[]
  staticTypes := #[]
  resolved := Array.replicate 8 none
  statics := none }

def pool5 : Array CpInfo := pool [(1, u "java/io/Serializable"), (0, .class_ 1), (0, u "java/lang/Object"), (0, .class_ 3)] 3

/-- java/io/Serializable -/
def k5 : Class := { plain "java/io/Serializable" (some 0) with
  accessFlags := 1537
  interfaces := #[]
  cf := some (fileOf pool5 2 #[] #[] 1537 4 #[] #[])
  fields := #[]
  methods := #[]
  instanceTypes := #[]
  staticTypes := #[]
  resolved := Array.replicate 8 none
  statics := none }

/-- the primitive byte -/
def k6 : Class := { plain "byte" none with kind := .primitive 'B', accessFlags := 0x411 }
/-- [B -/
def k7 : Class := { plain "[B" (some 0) with kind := .array 6 .byte, interfaces := #[4, 5], accessFlags := 1041 }

/-- the primitive int -/
def k8 : Class := { plain "int" none with kind := .primitive 'I', accessFlags := 0x411 }
/-- [I -/
def k9 : Class := { plain "[I" (some 0) with kind := .array 8 .int, interfaces := #[4, 5], accessFlags := 1041 }

def heap : Heap := #[]
def classes : Array Class := #[k0, k1, k2, k3, k4, k5, k6, k7, k8, k9]
def interned : List (Array UInt16 × Addr) := []
def slotsUsed : Nat := 0
def theMethod : MethodId := ⟨1, 1⟩
def args0 : Array Value := #[.int 5, .int 77]
def aboutOver (below : List Frame) : State where
  vm := { classes := classes, interned := interned.toArray }
  heap := heap
  slotsUsed := slotsUsed
  threads := #[{ frames := .invoking theMethod args0 :: below }]
def below0 : List Frame := [.native { method := ⟨0, 0⟩, args := #[] }]
def about1 : State := aboutOver below0
def p0 : Program := .bare "" "" ""
def e0 : Env := launch0.env 0 0 0
theorem w_frames : about1.frames = Frame.invoking theMethod args0 :: below0 := rfl
set_option maxRecDepth 65536 in
theorem w_args : argsFit about1.vm theMethod args0 = true := by decide +kernel
set_option maxRecDepth 65536 in
theorem w_heap : heapFits about1 = true := by decide +kernel
set_option maxRecDepth 65536 in
theorem w_runnable : about1.curStatus? = some .runnable := by decide +kernel
set_option maxRecDepth 65536 in
theorem w_alone : about1.alone = true := by decide +kernel
set_option maxRecDepth 65536 in
theorem w_named : about1.methodNamed? x = some theMethod := by decide +kernel
set_option maxRecDepth 65536 in
theorem w_hears : about1.hears theMethod below0 = true := by decide +kernel
set_option maxRecDepth 65536 in
theorem w_ripe : about1.ripe theMethod args0 below0 = true := by decide +kernel
theorem w_running : about1.status = .running := rfl
set_option maxRecDepth 65536 in
theorem w_room : about1.hasRoom e0.platform room_1 = true :=
  launch0.hasRoom_least _ room_1 (by decide +kernel) (by decide +kernel) (by decide +kernel) (by decide +kernel) (by decide +kernel) (by decide +kernel)
theorem allAtoms_all (ts : List Jvm.Cond) (a : Array Jvm.Value) (st : Jvm.State) : (allAtoms ts).before a st = ts.all (fun c => c.before a st) := by
  induction ts with
  | nil => rfl
  | cons c t ih =>
    show (Jvm.Cond.and c (allAtoms t)).before a st = _
    rw [Jvm.Cond.before_and, ih, List.all_cons]
def words1 : List Jvm.Cond := Jvm.Cond.code x code maxLocals ret :: tables_1
/-- a 'code' word, met by the world's own term for the bytes: nothing is compared byte by byte -/
theorem code_word {y : MethodName} {bytes : ByteArray} {mx : Nat} {rt : Option FieldType} {a : Array Value} {s : State} {m : MethodId} {meth : Method} {c : Code} (h1 : s.methodNamed? y = some m) (h2 : s.vm.method? m = some meth) (h3 : meth.code = some c) (h4 : c.code = bytes)
    (h5 : (c.maxLocals == mx && c.exceptionTable.isEmpty && decide (c.maxStack ≤ mostOperands) && decide (meth.sig.returnType = rt) && !meth.locks && decide (parseMethodDescriptor y.desc = some meth.sig)) = true) : (Jvm.Cond.code y bytes mx rt).before a s = true := by
  simp only [Bool.and_eq_true, beq_iff_eq, Bool.not_eq_true', decide_eq_true_eq] at h5
  obtain ⟨⟨⟨⟨⟨g1, g2⟩, g3⟩, g4⟩, g5⟩, g6⟩ := h5
  simp [Cond.before, Cond.holds, Cond.value, h1, h2, h3, h4, g1, g2, g3, g4, g5, g6]
def isCode : Jvm.Cond → Bool
  | .code _ _ _ _ => true
  | _ => false
theorem all_split {L : List Jvm.Cond} {P : Jvm.Cond → Bool} (h1 : L.all (fun c => isCode c || P c) = true) (h2 : ∀ c ∈ L.filter isCode, P c = true) : L.all P = true := by
  refine List.all_eq_true.mpr fun c hc => ?_
  have h := List.all_eq_true.mp h1 c hc
  rcases Bool.eq_false_or_eq_true (isCode c) with hi | hi
  · exact h2 c (List.mem_filter.mpr ⟨hc, hi⟩)
  · simpa [hi] using h
set_option maxRecDepth 65536 in
theorem w_c0 : (Jvm.Cond.code x code maxLocals ret).before args0 about1 = true := code_word (m := ⟨1, 1⟩) (meth := k1m1) (c := k1c1) (by decide +kernel) rfl rfl rfl (by decide +kernel)
set_option maxRecDepth 65536 in
theorem w_c1 : (Jvm.Cond.code ({ cls := "com/example/vesper/vesper/model/FreeRun", name := "<init>", desc := "(II)V" } : Jvm.MethodName) prog_8_method_1_code (3 : Nat) (Option.none : Option Jvm.ClassFile.FieldType)).before args0 about1 = true := code_word (m := ⟨3, 0⟩) (meth := k3m0) (c := k3c0) (by decide +kernel) rfl rfl rfl (by decide +kernel)
set_option maxRecDepth 65536 in
theorem w_c2 : (Jvm.Cond.code ({ cls := "java/lang/Record", name := "<init>", desc := "()V" } : Jvm.MethodName) jdk_30_method_1_code (1 : Nat) (Option.none : Option Jvm.ClassFile.FieldType)).before args0 about1 = true := code_word (m := ⟨2, 0⟩) (meth := k2m0) (c := k2c0) (by decide +kernel) rfl rfl rfl (by decide +kernel)
set_option maxRecDepth 65536 in
theorem w_c3 : (Jvm.Cond.code ({ cls := "java/lang/Object", name := "<init>", desc := "()V" } : Jvm.MethodName) object_method_1_code (1 : Nat) (Option.none : Option Jvm.ClassFile.FieldType)).before args0 about1 = true := code_word (m := ⟨0, 0⟩) (meth := k0m0) (c := k0c0) (by decide +kernel) rfl rfl rfl (by decide +kernel)
set_option maxRecDepth 65536 in
theorem w_c4 : (Jvm.Cond.code ({ cls := "com/example/vesper/vesper/model/FreeRun", name := "slots", desc := "()I" } : Jvm.MethodName) prog_8_method_2_code (1 : Nat) (Option.some Jvm.ClassFile.FieldType.int)).before args0 about1 = true := code_word (m := ⟨3, 1⟩) (meth := k3m1) (c := k3c1) (by decide +kernel) rfl rfl rfl (by decide +kernel)
def codes1 : List Jvm.Cond := [Jvm.Cond.code x code maxLocals ret, Jvm.Cond.code ({ cls := "com/example/vesper/vesper/model/FreeRun", name := "<init>", desc := "(II)V" } : Jvm.MethodName) prog_8_method_1_code (3 : Nat) (Option.none : Option Jvm.ClassFile.FieldType), Jvm.Cond.code ({ cls := "java/lang/Record", name := "<init>", desc := "()V" } : Jvm.MethodName) jdk_30_method_1_code (1 : Nat) (Option.none : Option Jvm.ClassFile.FieldType), Jvm.Cond.code ({ cls := "java/lang/Object", name := "<init>", desc := "()V" } : Jvm.MethodName) object_method_1_code (1 : Nat) (Option.none : Option Jvm.ClassFile.FieldType), Jvm.Cond.code ({ cls := "com/example/vesper/vesper/model/FreeRun", name := "slots", desc := "()I" } : Jvm.MethodName) prog_8_method_2_code (1 : Nat) (Option.some Jvm.ClassFile.FieldType.int)]
set_option maxRecDepth 65536 in
theorem codes_eq : words1.filter isCode = codes1 := rfl
theorem w_codes : ∀ c ∈ words1.filter isCode, c.before args0 about1 = true := by
  rw [codes_eq]
  intro c hc
  simp only [codes1, List.mem_cons, List.not_mem_nil, or_false] at hc
  rcases hc with rfl | rfl | rfl | rfl | rfl
  · exact w_c0
  · exact w_c1
  · exact w_c2
  · exact w_c3
  · exact w_c4
set_option maxRecDepth 65536 in
theorem w_t1 : (words1.take 24).all (fun c => isCode c || c.before args0 about1) = true := by decide +kernel
set_option maxRecDepth 65536 in
theorem w_t2 : (words1.drop 24).all (fun c => isCode c || c.before args0 about1) = true := by decide +kernel
theorem w_tables : (allAtoms (Jvm.Cond.code x code maxLocals ret :: tables_1)).before args0 about1 = true := by
  rw [allAtoms_all]
  show words1.all (fun c => c.before args0 about1) = true
  refine all_split ?_ w_codes
  rw [← List.take_append_drop 24 words1, List.all_append, w_t1, w_t2]
  rfl
set_option maxRecDepth 65536 in
theorem w_case : (Jvm.Cond.and given_1 narrow_1).before args0 about1 = true := by decide +kernel
theorem w_applies : (headSpec (Jvm.Cond.code x code maxLocals ret :: tables_1) room_1).applies x e0.platform about1 = true :=
  (Spec.applies_iff w_frames).mpr ⟨w_running, w_runnable, w_alone, w_named, w_hears, w_ripe, w_room, w_tables⟩
theorem atStart : AtStart classFile x code maxLocals ret World_1 tables_1 room_1 Calls_1 rest_1 Pre_1 launch0 p0 e0 about1 theMethod args0 below0 :=
  ⟨lists_1, trivial, launch0.admits_env _ _ _, launch0.least_env, fairChoices_fair.cas, fairChoices_fair.clock, w_frames, w_args, w_heap, w_applies, trivial, trivial, w_case⟩
end start1
theorem witness_1 : WitnessClaimed_1 := ⟨start1.p0, start1.e0, start1.about1, start1.theMethod, start1.args0, start1.below0, start1.atStart⟩
end Jvm.Pilot.@@N@@
