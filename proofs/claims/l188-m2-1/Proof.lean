import JvmDerived
import JvmDerived.Pilot.@@N@@Statement
import JvmDerived.Pilot.@@N@@Code
set_option linter.unusedVariables false
set_option linter.unusedSimpArgs false
namespace Jvm.RoadKit
open Sem ClassFile Op Lib Jvm.Stand Jvm.Free Jvm.LawKit
section New
variable {p : Program} {l : Launch} {e : Env} {R : Room} {s : State} {m : MethodId} {args : Array Value} {below : List Frame} {meth : Method} {c : Code} {T : State} {locs : List Loc} {cells slots : Nat}
theorem retI (X : Stand p l e R s m args below meth c T locs cells slots) (hx : p.tables.exec = Jvm.exec) {pc : Nat} {Ls : Array Slot} {z : Int32} {rest : List Value} (hret : meth.sig.returnType = some .int) (hd : decode c.code pc = .ok (.ireturn, 1)) {fs : List Frame}
    (hl : ∀ (f : JFrame) (acts : List Action), f.method = m → f.locked = none → f.entered = [] → (doReturn e (T.setTop f) acts (some (.int z))).1 = T.setFrames fs) : Steps p.tables e below (T.setTop (mkF m pc Ls (.int z :: rest))) (T.setFrames fs) := by
  have hm' : T.vm.method? m = some meth := X.method'
  have hn : narrow .int (.int z) = .int z := rfl
  show Steps p.tables e below (T.setTop { method := m, pc := pc, locals := Ls, stack := _ :: rest, locked := none }) _
  jvm_step X.here [X.here.top, hx, hd, hm', hret, hn]
  first | (intro acts; rw [hl _ acts rfl rfl rfl]) | rw [hl _ _ rfl rfl rfl]
  exact Steps.refl _
end New
end Jvm.RoadKit
namespace Jvm.Pilot.@@N@@
open Jvm Jvm.ClassFile Sem Op Lib Jvm.Free Jvm.Stand Jvm.LawKit Jvm.RoadKit Bundle Jvm.Pilot.@@N@@.Jvm.D

theorem own_mask (x : Int32) : 0 ≤ (x &&& (2147483647 : Int32)).toInt ∧ (x &&& (2147483647 : Int32)).toInt ≤ 2147483647 := by
  have q := c_and x (2147483647 : Int32) (by decide)
  have e : (2147483647 : Int32).toInt = 2147483647 := by decide
  omega
theorem d1_0 : decode jdk_30_method_1_code 0 = .ok (.aload_n 0, 1) := by decide +kernel
theorem d1_1 : decode jdk_30_method_1_code 1 = .ok (.invokespecial 1, 3) := by decide +kernel
theorem d1_4 : decode jdk_30_method_1_code 4 = .ok (.return_, 1) := by decide +kernel
theorem pn1 : plainName "java/lang/Record" = true := by first | (simp [plainName, overriddenIn]; done) | decide +kernel
theorem ef1 (m : MethodId) (x0 : Addr) : entryFrame m #[(.ref x0)] 1 = mkF m 0 #[.val (.ref x0)] [] := by first | (simp [entryFrame, mkF, argsToLocals, Value.category]; done) | rfl
def Q1 (Z : State) (x0 : Addr) (h0 : Heap) (n0 : Nat) (v : Option Value) (h : Heap) (L : List Loc) : Prop := v = none ∧ Fr n0 L ∧ h = h0
set_option maxRecDepth 65536 in
set_option maxHeartbeats 40000000 in
theorem rm1 (l : Launch) (Z : State) (a0 : Array Value) (hw : ∀ d ∈ tables_1, d.before a0 Z = true) (ws : List Jvm.Cond) (x0 : Addr) (h0 : Heap) (n0 : Nat) (Z0 : n0 ≤ h0.size) :
    MetFree l (⟨"java/lang/Record", "<init>", "()V"⟩ : MethodName) (head1 (Jvm.Cond.code (⟨"java/lang/Record", "<init>", "()V"⟩ : MethodName) jdk_30_method_1_code 1 none :: ws) ({ frames := 1, cells := 0, slots := 0, locals := 12 } : Room)) (fun a U => a = #[(.ref x0)] ∧ Z.Warmed39 U.vm ∧ U.heap = h0) (fun _ _ _ _ _ => True) (fun _ U o U' => ∃ v L, o = .returned v ∧ Q1 Z x0 h0 n0 v U'.heap L ∧ FrameEnd U o U' L ({ frames := 1, cells := 0, slots := 0, locals := 12 } : Room).cells ({ frames := 1, cells := 0, slots := 0, locals := 12 } : Room).slots) := by
  refine MetFree.of_bodySF (plainFor_of_name pn1) hisR ?_
  intro p e s m args below meth c s₁ Bd hml0 hP hK
  obtain ⟨rfl, hZ, hh⟩ := hP
  have hx := Bd.exec
  have hby := Bd.bytes
  have hml : c.maxLocals = 1 := hml0
  have hown : s.vm.findClass "java/lang/Record" = some m.cls := findClass_of_methodNamed Bd.named
  have hnm := (name_of_methodNamed Bd.named Bd.method).1
  have X0 : Stand p l e ({ frames := 1, cells := 0, slots := 0, locals := 12 } : Room) s m #[(.ref x0)] below meth c s₁ [] 0 0 := Stand.of_body Bd
  have e0 : s₁.heap = h0 := by rw [← hh, Bd.state]; rfl
  have N0 := Fr.nil n0
  have pre0 : Steps p.tables e below (s₁.setTop (entryFrame m #[(.ref x0)] 1)) (s₁.setTop (mkF m 0 #[.val (.ref x0)] [])) := castTop (ef1 m x0) (Steps.refl _)
  have st1 : Steps p.tables e below (s₁.setTop (mkF m 0 #[.val (.ref x0)] [])) (s₁.setTop (mkF m 1 #[.val (.ref x0)] [(.ref x0)])) := by
    refine XS.aloadN X0.here hx rfl (hb hby d1_0) rfl rfl ?_
    show Steps p.tables e below (s₁.setTop (mkF m 1 #[.val (.ref x0)] [(.ref x0)])) _
    exact Steps.refl _
  have pre1 := pre0.trans st1
  obtain ⟨T2, X2, e2, st2⟩ := initO X0 hx hZ hown (hw _ (List.mem_of_getElem? (i := 16) rfl)) (hw _ (List.mem_of_getElem? (i := 17) rfl)) (hw _ (List.mem_of_getElem? (i := 18) rfl)) e0 (g := (mkF m 1 #[.val (.ref x0)] [(.ref x0)])) rfl (by rw [hml]; rfl) rfl (hb hby d1_1) (by decide) (W := 0) (by show 2 * 0 + _ ≤ _; exact Nat.le_of_eq rfl) (by decide)
  have pre2 : Steps p.tables e below (s₁.setTop (entryFrame m #[(.ref x0)] 1)) (T2.setTop (mkF m 4 #[.val (.ref x0)] [])) := pre1.trans (st2 _ (Steps.refl _))
  obtain ⟨fs, hr, hrun, hended, hW, hsame⟩ := X2.leave (v := none) (fun _ => rfl)
  refine ⟨_, _, pre2.trans ?_, hrun, hended, _, _, rfl, ?_, ⟨_, rfl⟩, hW, hsame.mono (by decide) (by decide)⟩
  · show Steps p.tables e below (T2.setTop (mkF m 4 #[.val (.ref x0)] [])) _
    exact X2.returnOut hx Bd.returns (hb hby d1_4) hr
  · show Q1 Z x0 h0 n0 _ T2.heap _
    rw [e2]
    exact ⟨rfl, N0, rfl⟩
theorem d2_0 : decode prog_39_method_1_code 0 = .ok (.aload_n 0, 1) := by decide +kernel
theorem d2_1 : decode prog_39_method_1_code 1 = .ok (.invokespecial 1, 3) := by decide +kernel
theorem d2_4 : decode prog_39_method_1_code 4 = .ok (.iload_n 1, 1) := by decide +kernel
theorem d2_5 : decode prog_39_method_1_code 5 = .ok (.ifCond .lt 10, 3) := by decide +kernel
theorem d2_8 : decode prog_39_method_1_code 8 = .ok (.iload_n 1, 1) := by decide +kernel
theorem d2_9 : decode prog_39_method_1_code 9 = .ok (.sipush 1440, 3) := by decide +kernel
theorem d2_12 : decode prog_39_method_1_code 12 = .ok (.if_icmp .le 17, 3) := by decide +kernel
theorem d2_29 : decode prog_39_method_1_code 29 = .ok (.aload_n 0, 1) := by decide +kernel
theorem d2_30 : decode prog_39_method_1_code 30 = .ok (.iload_n 1, 1) := by decide +kernel
theorem d2_31 : decode prog_39_method_1_code 31 = .ok (.putfield 18, 3) := by decide +kernel
theorem d2_34 : decode prog_39_method_1_code 34 = .ok (.return_, 1) := by decide +kernel
theorem pn2 : plainName "com/example/neat_careplan/neatcareplan/model/TimeOfDay" = true := by first | (simp [plainName, overriddenIn]; done) | decide +kernel
theorem pd2_0 : parseMethodDescriptor "()V" = some ⟨[], none⟩ := by decide +kernel
theorem ef2 (m : MethodId) (x0 : Addr) (x1 : Int32) : entryFrame m #[(.ref x0), (.int x1)] 2 = mkF m 0 #[.val (.ref x0), .val (.int x1)] [] := by first | (simp [entryFrame, mkF, argsToLocals, Value.category]; done) | rfl
def Q2 (Z : State) (x0 : Addr) (x1 : Int32) (u0 : Value) (h0 : Heap) (n0 : Nat) (v : Option Value) (h : Heap) (L : List Loc) : Prop := v = none ∧ Fr n0 L ∧ Keep h0 h [x0] ∧ Exa Z h x0 "com/example/neat_careplan/neatcareplan/model/TimeOfDay" ∧ Fld Z h x0 "com/example/neat_careplan/neatcareplan/model/TimeOfDay" "minutes" "I" (.int x1)
set_option maxRecDepth 65536 in
set_option maxHeartbeats 40000000 in
theorem rm2 (l : Launch) (Z : State) (a0 : Array Value) (hw : ∀ d ∈ tables_1, d.before a0 Z = true) (ws : List Jvm.Cond) (x0 : Addr) (x1 : Int32) (u0 : Value) (h0 : Heap) (n0 : Nat) (Z0 : n0 ≤ h0.size) (B0 : Exa Z h0 x0 "com/example/neat_careplan/neatcareplan/model/TimeOfDay") (B1 : Fld Z h0 x0 "com/example/neat_careplan/neatcareplan/model/TimeOfDay" "minutes" "I" u0) (g_x0 : n0 ≤ x0) (hp0 : ¬ (x1 < (0 : Int32))) (hp1 : ¬ ((1440 : Int32) < x1)) :
    MetFree l (⟨"com/example/neat_careplan/neatcareplan/model/TimeOfDay", "<init>", "(I)V"⟩ : MethodName) (head1 (Jvm.Cond.code (⟨"com/example/neat_careplan/neatcareplan/model/TimeOfDay", "<init>", "(I)V"⟩ : MethodName) prog_39_method_1_code 2 none :: ws) ({ frames := 2, cells := 0, slots := 0, locals := 24 } : Room)) (fun a U => a = #[(.ref x0), (.int x1)] ∧ Z.Warmed39 U.vm ∧ U.heap = h0) (fun _ _ _ _ _ => True) (fun _ U o U' => ∃ v L, o = .returned v ∧ Q2 Z x0 x1 u0 h0 n0 v U'.heap L ∧ FrameEnd U o U' L ({ frames := 2, cells := 0, slots := 0, locals := 24 } : Room).cells ({ frames := 2, cells := 0, slots := 0, locals := 24 } : Room).slots) := by
  refine MetFree.of_bodySF (plainFor_of_name pn2) hisR ?_
  intro p e s m args below meth c s₁ Bd hml0 hP hK
  obtain ⟨rfl, hZ, hh⟩ := hP
  have hx := Bd.exec
  have hby := Bd.bytes
  have hml : c.maxLocals = 2 := hml0
  have hown : s.vm.findClass "com/example/neat_careplan/neatcareplan/model/TimeOfDay" = some m.cls := findClass_of_methodNamed Bd.named
  have hnm := (name_of_methodNamed Bd.named Bd.method).1
  have X0 : Stand p l e ({ frames := 2, cells := 0, slots := 0, locals := 24 } : Room) s m #[(.ref x0), (.int x1)] below meth c s₁ [] 0 0 := Stand.of_body Bd
  have e0 : s₁.heap = h0 := by rw [← hh, Bd.state]; rfl
  have N0 := Fr.nil n0
  have pre0 : Steps p.tables e below (s₁.setTop (entryFrame m #[(.ref x0), (.int x1)] 2)) (s₁.setTop (mkF m 0 #[.val (.ref x0), .val (.int x1)] [])) := castTop (ef2 m x0 x1) (Steps.refl _)
  have K0 := Keep.refl h0 [x0]
  have st1 : Steps p.tables e below (s₁.setTop (mkF m 0 #[.val (.ref x0), .val (.int x1)] [])) (s₁.setTop (mkF m 1 #[.val (.ref x0), .val (.int x1)] [(.ref x0)])) := by
    refine XS.aloadN X0.here hx rfl (hb hby d2_0) rfl rfl ?_
    show Steps p.tables e below (s₁.setTop (mkF m 1 #[.val (.ref x0), .val (.int x1)] [(.ref x0)])) _
    exact Steps.refl _
  have pre1 := pre0.trans st1
  obtain ⟨_, _, ⟨T2, L2, k2, n2⟩, -, X2, ⟨Lc2, hQ2, l2, y2, z2⟩, st2⟩ := X0.specialBack hx (y := (⟨"java/lang/Record", "<init>", "()V"⟩ : MethodName)) rfl hown (mvT hZ (hw _ (List.mem_of_getElem? (i := 11) rfl))) (mvT hZ (hw _ (List.mem_of_getElem? (i := 12) rfl))) (mvT hZ (hw _ (List.mem_of_getElem? (i := 15) rfl))) (by decide) (backOf (W := 0) (rm1 l Z a0 hw [] x0 h0 n0 Z0) hZ (hw _ (List.mem_of_getElem? (i := 15) rfl)) (hw _ (List.mem_of_getElem? (i := 14) rfl)) (by decide) (by decide)) (g := (mkF m 1 #[.val (.ref x0), .val (.int x1)] [(.ref x0)])) rfl (by rw [hml]; rfl) (Steps.refl _) (a := x0) (argsL := []) (rest := []) (lenOf pd2_0 rfl) rfl (by show 2 * 0 + _ ≤ _; exact Nat.le_of_eq rfl) (hb hby d2_1) (fun _ _ => ⟨rfl, e0, (by decide : 0 + 0 ≤ _), (by decide : 0 + 0 ≤ _)⟩)
  dsimp only [Pt.U, Pt.locs, Pt.cells, Pt.slots] at X2 l2 y2 z2 st2 hQ2
  subst l2 y2 z2
  obtain ⟨rfl, Nq2, e2⟩ := hQ2
  have N2 := Fr.app N0 Nq2
  have pre2 : Steps p.tables e below (s₁.setTop (entryFrame m #[(.ref x0), (.int x1)] 2)) (T2.setTop (mkF m 4 #[.val (.ref x0), .val (.int x1)] [])) := pre1.trans st2
  have st3 : Steps p.tables e below (T2.setTop (mkF m 4 #[.val (.ref x0), .val (.int x1)] [])) (T2.setTop (mkF m 5 #[.val (.ref x0), .val (.int x1)] [(.int x1)])) := by
    refine XS.iloadN X2.here hx rfl (hb hby d2_4) rfl ?_
    show Steps p.tables e below (T2.setTop (mkF m 5 #[.val (.ref x0), .val (.int x1)] [(.int x1)])) _
    exact Steps.refl _
  have pre3 := pre2.trans st3
  have hc5 : ¬ (x1 < (0 : Int32)) := by
    exact hp0
  have st4 : Steps p.tables e below (T2.setTop (mkF m 5 #[.val (.ref x0), .val (.int x1)] [(.int x1)])) (T2.setTop (mkF m 8 #[.val (.ref x0), .val (.int x1)] [])) := by
    refine XS.ifNo X2.here hx rfl (hb hby d2_5) rfl ((if0 _ _).trans (flt hc5).1) ?_
    exact Steps.refl _
  have pre4 := pre3.trans st4
  have st5 : Steps p.tables e below (T2.setTop (mkF m 8 #[.val (.ref x0), .val (.int x1)] [])) (T2.setTop (mkF m 12 #[.val (.ref x0), .val (.int x1)] [(.int (1440 : Int32)), (.int x1)])) := by
    refine XS.iloadN X2.here hx rfl (hb hby d2_8) rfl ?_
    show Steps p.tables e below (T2.setTop (mkF m 9 #[.val (.ref x0), .val (.int x1)] [(.int x1)])) _
    refine XS.sipush X2.here hx rfl (hb hby d2_9) ?_
    show Steps p.tables e below (T2.setTop (mkF m 12 #[.val (.ref x0), .val (.int x1)] [(.int (1440 : Int32)), (.int x1)])) _
    exact Steps.refl _
  have pre5 := pre4.trans st5
  have hc12 : ¬ ((1440 : Int32) < x1) := by
    exact hp1
  have st6 : Steps p.tables e below (T2.setTop (mkF m 12 #[.val (.ref x0), .val (.int x1)] [(.int (1440 : Int32)), (.int x1)])) (T2.setTop (mkF m 29 #[.val (.ref x0), .val (.int x1)] [])) := by
    refine XS.icmpYes X2.here hx rfl (pc0 := 12) (pc' := 29) rfl (hb hby d2_12) rfl (flt hc12).2.2.2 (by decide) (by decide) ?_
    exact Steps.refl _
  have pre6 := pre5.trans st6
  have st7 : Steps p.tables e below (T2.setTop (mkF m 29 #[.val (.ref x0), .val (.int x1)] [])) (T2.setTop (mkF m 31 #[.val (.ref x0), .val (.int x1)] [(.int x1), (.ref x0)])) := by
    refine XS.aloadN X2.here hx rfl (hb hby d2_29) rfl rfl ?_
    show Steps p.tables e below (T2.setTop (mkF m 30 #[.val (.ref x0), .val (.int x1)] [(.ref x0)])) _
    refine XS.iloadN X2.here hx rfl (hb hby d2_30) rfl ?_
    show Steps p.tables e below (T2.setTop (mkF m 31 #[.val (.ref x0), .val (.int x1)] [(.int x1), (.ref x0)])) _
    exact Steps.refl _
  have pre7 := pre6.trans st7
  obtain ⟨T8, h8, X8, e8, W8, st8⟩ := putF X2 hx hZ hown (host := "") (Or.inl (hw _ (List.mem_of_getElem? (i := 19) rfl))) Via.refl e2 B1 B0 (Or.inr ⟨(hw _ (List.mem_of_getElem? (i := 20) rfl)), rfl, hnm⟩) (hw _ (List.mem_of_getElem? (i := 6) rfl)) (ty := .int) (by decide) rfl rfl (g := (mkF m 31 #[.val (.ref x0), .val (.int x1)] [(.int x1), (.ref x0)])) rfl rfl (hb hby d2_31)
  have pre8 : Steps p.tables e below (s₁.setTop (entryFrame m #[(.ref x0), (.int x1)] 2)) (T8.setTop (mkF m 34 #[.val (.ref x0), .val (.int x1)] [])) := pre7.trans (st8 _ (Steps.refl _))
  have F9 : Exa Z h8 x0 "com/example/neat_careplan/neatcareplan/model/TimeOfDay" := B0.wr W8
  have K8 := K0.wr W8 (Or.inl (List.mem_of_getElem? (i := 0) rfl))
  have Z8 : n0 ≤ h8.size := Nat.le_trans Z0 (Keep.of_wr W8).1
  have Fw8 : Fld Z h8 x0 "com/example/neat_careplan/neatcareplan/model/TimeOfDay" "minutes" "I" (.int x1) := B1.same W8
  have N8 := Fr.snoc X8 N2 g_x0
  obtain ⟨fs, hr, hrun, hended, hW, hsame⟩ := X8.leave (v := none) (fun _ => rfl)
  refine ⟨_, _, pre8.trans ?_, hrun, hended, _, _, rfl, ?_, ⟨_, rfl⟩, hW, hsame.mono (by decide) (by decide)⟩
  · show Steps p.tables e below (T8.setTop (mkF m 34 #[.val (.ref x0), .val (.int x1)] [])) _
    exact X8.returnOut hx Bd.returns (hb hby d2_34) hr
  · show Q2 Z x0 x1 u0 h0 n0 _ T8.heap _
    rw [e8]
    exact ⟨rfl, N8, K8, F9, Fw8⟩
theorem d3_0 : decode jdk_33_method_40_code 0 = .ok (.iload_n 0, 1) := by decide +kernel
theorem d3_1 : decode jdk_33_method_40_code 1 = .ok (.iload_n 1, 1) := by decide +kernel
theorem d3_2 : decode jdk_33_method_40_code 2 = .ok (.if_icmp .ge 7, 3) := by decide +kernel
theorem d3_5 : decode jdk_33_method_40_code 5 = .ok (.iconst (-1), 1) := by decide +kernel
theorem d3_6 : decode jdk_33_method_40_code 6 = .ok (.goto 13, 3) := by decide +kernel
theorem d3_9 : decode jdk_33_method_40_code 9 = .ok (.iload_n 0, 1) := by decide +kernel
theorem d3_10 : decode jdk_33_method_40_code 10 = .ok (.iload_n 1, 1) := by decide +kernel
theorem d3_11 : decode jdk_33_method_40_code 11 = .ok (.if_icmp .ne 7, 3) := by decide +kernel
theorem d3_14 : decode jdk_33_method_40_code 14 = .ok (.iconst 0, 1) := by decide +kernel
theorem d3_15 : decode jdk_33_method_40_code 15 = .ok (.goto 4, 3) := by decide +kernel
theorem d3_18 : decode jdk_33_method_40_code 18 = .ok (.iconst 1, 1) := by decide +kernel
theorem d3_19 : decode jdk_33_method_40_code 19 = .ok (.ireturn, 1) := by decide +kernel
theorem pn3 : plainName "java/lang/Integer" = true := by first | (simp [plainName, overriddenIn]; done) | decide +kernel
theorem ef3 (m : MethodId) (x0 : Int32) (x1 : Int32) : entryFrame m #[(.int x0), (.int x1)] 2 = mkF m 0 #[.val (.int x0), .val (.int x1)] [] := by first | (simp [entryFrame, mkF, argsToLocals, Value.category]; done) | rfl
def own_F3 (x0 : Int32) (x1 : Int32) : Int32 := (if x0 < x1 then (-1 : Int32) else (if x0 = x1 then (0 : Int32) else (1 : Int32)))
def Q3 (Z : State) (x0 : Int32) (x1 : Int32) (h0 : Heap) (n0 : Nat) (v : Option Value) (h : Heap) (L : List Loc) : Prop := v = some (.int (own_F3 x0 x1)) ∧ Fr n0 L ∧ h = h0
set_option maxRecDepth 65536 in
set_option maxHeartbeats 40000000 in
theorem rm3 (l : Launch) (Z : State) (a0 : Array Value) (hw : ∀ d ∈ tables_1, d.before a0 Z = true) (ws : List Jvm.Cond) (x0 : Int32) (x1 : Int32) (h0 : Heap) (n0 : Nat) (Z0 : n0 ≤ h0.size) :
    MetFree l (⟨"java/lang/Integer", "compare", "(II)I"⟩ : MethodName) (head1 (Jvm.Cond.code (⟨"java/lang/Integer", "compare", "(II)I"⟩ : MethodName) jdk_33_method_40_code 2 (some .int) :: ws) ({ frames := 0, cells := 0, slots := 0, locals := 0 } : Room)) (fun a U => a = #[(.int x0), (.int x1)] ∧ Z.Warmed39 U.vm ∧ U.heap = h0) (fun _ _ _ _ _ => True) (fun _ U o U' => ∃ v L, o = .returned v ∧ Q3 Z x0 x1 h0 n0 v U'.heap L ∧ FrameEnd U o U' L ({ frames := 0, cells := 0, slots := 0, locals := 0 } : Room).cells ({ frames := 0, cells := 0, slots := 0, locals := 0 } : Room).slots) := by
  refine MetFree.of_bodySF (plainFor_of_name pn3) hisR ?_
  intro p e s m args below meth c s₁ Bd hml0 hP hK
  obtain ⟨rfl, hZ, hh⟩ := hP
  have hx := Bd.exec
  have hby := Bd.bytes
  have hml : c.maxLocals = 2 := hml0
  have hown : s.vm.findClass "java/lang/Integer" = some m.cls := findClass_of_methodNamed Bd.named
  have hnm := (name_of_methodNamed Bd.named Bd.method).1
  have X0 : Stand p l e ({ frames := 0, cells := 0, slots := 0, locals := 0 } : Room) s m #[(.int x0), (.int x1)] below meth c s₁ [] 0 0 := Stand.of_body Bd
  have e0 : s₁.heap = h0 := by rw [← hh, Bd.state]; rfl
  have N0 := Fr.nil n0
  have pre0 : Steps p.tables e below (s₁.setTop (entryFrame m #[(.int x0), (.int x1)] 2)) (s₁.setTop (mkF m 0 #[.val (.int x0), .val (.int x1)] [])) := castTop (ef3 m x0 x1) (Steps.refl _)
  obtain ⟨v1, hv1⟩ : ∃ z : Int32, z = (if x0 < x1 then (-1 : Int32) else (if x0 = x1 then (0 : Int32) else (1 : Int32))) := ⟨_, rfl⟩
  have st2 : Steps p.tables e below (s₁.setTop (mkF m 0 #[.val (.int x0), .val (.int x1)] [])) (s₁.setTop (mkF m 19 #[.val (.int x0), .val (.int x1)] [(.int v1)])) := by
    subst v1
    refine XS.iloadN X0.here hx rfl (hb hby d3_0) rfl ?_
    show Steps p.tables e below (s₁.setTop (mkF m 1 #[.val (.int x0), .val (.int x1)] [(.int x0)])) _
    refine XS.iloadN X0.here hx rfl (hb hby d3_1) rfl ?_
    show Steps p.tables e below (s₁.setTop (mkF m 2 #[.val (.int x0), .val (.int x1)] [(.int x1), (.int x0)])) _
    refine Steps.trans (s₂ := s₁.setTop (mkF m 19 #[.val (.int x0), .val (.int x1)] [(.int (if x0 < x1 then (-1 : Int32) else (if x0 = x1 then (0 : Int32) else (1 : Int32))))])) ?_ ?_
    · by_cases hc2 : x0 < x1
      · refine XS.icmpNo X0.here hx rfl (hb hby d3_2) rfl (tlt hc2).2.1 ?_
        show Steps p.tables e below (s₁.setTop (mkF m 5 #[.val (.int x0), .val (.int x1)] [])) _
        refine XS.iconst X0.here hx rfl (hb hby d3_5) ?_
        show Steps p.tables e below (s₁.setTop (mkF m 6 #[.val (.int x0), .val (.int x1)] [(.int (-1 : Int32))])) _
        refine XS.goto X0.here hx rfl (pc0 := 6) (pc' := 19) rfl (hb hby d3_6) (by decide) (by decide) ?_
        show Steps p.tables e below (s₁.setTop (mkF m 19 #[.val (.int x0), .val (.int x1)] [(.int (-1 : Int32))])) _
        try simp only [if_pos hc2]
        exact Steps.refl _
      · refine XS.icmpYes X0.here hx rfl (pc0 := 2) (pc' := 9) rfl (hb hby d3_2) rfl (flt hc2).2.1 (by decide) (by decide) ?_
        show Steps p.tables e below (s₁.setTop (mkF m 9 #[.val (.int x0), .val (.int x1)] [])) _
        refine XS.iloadN X0.here hx rfl (hb hby d3_9) rfl ?_
        show Steps p.tables e below (s₁.setTop (mkF m 10 #[.val (.int x0), .val (.int x1)] [(.int x0)])) _
        refine XS.iloadN X0.here hx rfl (hb hby d3_10) rfl ?_
        show Steps p.tables e below (s₁.setTop (mkF m 11 #[.val (.int x0), .val (.int x1)] [(.int x1), (.int x0)])) _
        refine Steps.trans (s₂ := s₁.setTop (mkF m 19 #[.val (.int x0), .val (.int x1)] [(.int (if x0 = x1 then (0 : Int32) else (1 : Int32)))])) ?_ ?_
        · by_cases hc11 : x0 = x1
          · refine XS.icmpNo X0.here hx rfl (hb hby d3_11) rfl (teq hc11).2 ?_
            show Steps p.tables e below (s₁.setTop (mkF m 14 #[.val (.int x0), .val (.int x1)] [])) _
            refine XS.iconst X0.here hx rfl (hb hby d3_14) ?_
            show Steps p.tables e below (s₁.setTop (mkF m 15 #[.val (.int x0), .val (.int x1)] [(.int (0 : Int32))])) _
            refine XS.goto X0.here hx rfl (pc0 := 15) (pc' := 19) rfl (hb hby d3_15) (by decide) (by decide) ?_
            show Steps p.tables e below (s₁.setTop (mkF m 19 #[.val (.int x0), .val (.int x1)] [(.int (0 : Int32))])) _
            try simp only [if_pos hc11]
            exact Steps.refl _
          · refine XS.icmpYes X0.here hx rfl (pc0 := 11) (pc' := 18) rfl (hb hby d3_11) rfl (feq hc11).2 (by decide) (by decide) ?_
            show Steps p.tables e below (s₁.setTop (mkF m 18 #[.val (.int x0), .val (.int x1)] [])) _
            refine XS.iconst X0.here hx rfl (hb hby d3_18) ?_
            show Steps p.tables e below (s₁.setTop (mkF m 19 #[.val (.int x0), .val (.int x1)] [(.int (1 : Int32))])) _
            try simp only [if_neg hc11]
            exact Steps.refl _
        show Steps p.tables e below (s₁.setTop (mkF m 19 #[.val (.int x0), .val (.int x1)] [(.int (if x0 = x1 then (0 : Int32) else (1 : Int32)))])) _
        try simp only [if_neg hc2]
        exact Steps.refl _
    show Steps p.tables e below (s₁.setTop (mkF m 19 #[.val (.int x0), .val (.int x1)] [(.int (if x0 < x1 then (-1 : Int32) else (if x0 = x1 then (0 : Int32) else (1 : Int32))))])) _
    exact Steps.refl _
  have pre2 := pre0.trans st2
  obtain ⟨fs, hr, hrun, hended, hW, hsame⟩ := X0.leave (v := some (.int v1)) (fun h => by rw [Bd.returns] at h; cases h)
  refine ⟨_, _, pre2.trans ?_, hrun, hended, _, _, rfl, ?_, ⟨_, rfl⟩, hW, hsame.mono (by decide) (by decide)⟩
  · show Steps p.tables e below (s₁.setTop (mkF m 19 #[.val (.int x0), .val (.int x1)] [(.int v1)])) _
    exact retI X0 hx Bd.returns (hb hby d3_19) hr
  · show Q3 Z x0 x1 h0 n0 _ s₁.heap _
    rw [e0]
    have hF : own_F3 x0 x1 = v1 := by
      subst v1
      simp only [own_F3]
    exact ⟨by rw [hF], N0, rfl⟩
theorem d4_0 : decode prog_39_method_3_code 0 = .ok (.aload_n 0, 1) := by decide +kernel
theorem d4_1 : decode prog_39_method_3_code 1 = .ok (.getfield 18, 3) := by decide +kernel
theorem d4_4 : decode prog_39_method_3_code 4 = .ok (.aload_n 1, 1) := by decide +kernel
theorem d4_5 : decode prog_39_method_3_code 5 = .ok (.getfield 18, 3) := by decide +kernel
theorem d4_8 : decode prog_39_method_3_code 8 = .ok (.invokestatic 42, 3) := by decide +kernel
theorem d4_11 : decode prog_39_method_3_code 11 = .ok (.ireturn, 1) := by decide +kernel
theorem pn4 : plainName "com/example/neat_careplan/neatcareplan/model/TimeOfDay" = true := by first | (simp [plainName, overriddenIn]; done) | decide +kernel
theorem pd4_0 : parseMethodDescriptor "(II)I" = some ⟨[.int, .int], some .int⟩ := by decide +kernel
theorem ef4 (m : MethodId) (x0 : Addr) (x1 : Addr) : entryFrame m #[(.ref x0), (.ref x1)] 2 = mkF m 0 #[.val (.ref x0), .val (.ref x1)] [] := by first | (simp [entryFrame, mkF, argsToLocals, Value.category]; done) | rfl
def own_F4 (x0 : Addr) (x1 : Addr) (w0 : Int32) (w1 : Int32) : Int32 := (own_F3 w0 w1)
def Q4 (Z : State) (x0 : Addr) (x1 : Addr) (w0 : Int32) (w1 : Int32) (h0 : Heap) (n0 : Nat) (v : Option Value) (h : Heap) (L : List Loc) : Prop := v = some (.int (own_F4 x0 x1 w0 w1)) ∧ Fr n0 L ∧ h = h0
set_option maxRecDepth 65536 in
set_option maxHeartbeats 40000000 in
theorem rm4 (l : Launch) (Z : State) (a0 : Array Value) (hw : ∀ d ∈ tables_1, d.before a0 Z = true) (ws : List Jvm.Cond) (x0 : Addr) (x1 : Addr) (w0 : Int32) (w1 : Int32) (h0 : Heap) (n0 : Nat) (Z0 : n0 ≤ h0.size) (B0 : Fld Z h0 x0 "com/example/neat_careplan/neatcareplan/model/TimeOfDay" "minutes" "I" (.int w0)) (B1 : Fld Z h0 x1 "com/example/neat_careplan/neatcareplan/model/TimeOfDay" "minutes" "I" (.int w1)) :
    MetFree l (⟨"com/example/neat_careplan/neatcareplan/model/TimeOfDay", "compareTo", "(Lcom/example/neat_careplan/neatcareplan/model/TimeOfDay;)I"⟩ : MethodName) (head1 (Jvm.Cond.code (⟨"com/example/neat_careplan/neatcareplan/model/TimeOfDay", "compareTo", "(Lcom/example/neat_careplan/neatcareplan/model/TimeOfDay;)I"⟩ : MethodName) prog_39_method_3_code 2 (some .int) :: ws) ({ frames := 1, cells := 0, slots := 0, locals := 13 } : Room)) (fun a U => a = #[(.ref x0), (.ref x1)] ∧ Z.Warmed39 U.vm ∧ U.heap = h0) (fun _ _ _ _ _ => True) (fun _ U o U' => ∃ v L, o = .returned v ∧ Q4 Z x0 x1 w0 w1 h0 n0 v U'.heap L ∧ FrameEnd U o U' L ({ frames := 1, cells := 0, slots := 0, locals := 13 } : Room).cells ({ frames := 1, cells := 0, slots := 0, locals := 13 } : Room).slots) := by
  refine MetFree.of_bodySF (plainFor_of_name pn4) hisR ?_
  intro p e s m args below meth c s₁ Bd hml0 hP hK
  obtain ⟨rfl, hZ, hh⟩ := hP
  have hx := Bd.exec
  have hby := Bd.bytes
  have hml : c.maxLocals = 2 := hml0
  have hown : s.vm.findClass "com/example/neat_careplan/neatcareplan/model/TimeOfDay" = some m.cls := findClass_of_methodNamed Bd.named
  have hnm := (name_of_methodNamed Bd.named Bd.method).1
  have X0 : Stand p l e ({ frames := 1, cells := 0, slots := 0, locals := 13 } : Room) s m #[(.ref x0), (.ref x1)] below meth c s₁ [] 0 0 := Stand.of_body Bd
  have e0 : s₁.heap = h0 := by rw [← hh, Bd.state]; rfl
  have N0 := Fr.nil n0
  have pre0 : Steps p.tables e below (s₁.setTop (entryFrame m #[(.ref x0), (.ref x1)] 2)) (s₁.setTop (mkF m 0 #[.val (.ref x0), .val (.ref x1)] [])) := castTop (ef4 m x0 x1) (Steps.refl _)
  have st1 : Steps p.tables e below (s₁.setTop (mkF m 0 #[.val (.ref x0), .val (.ref x1)] [])) (s₁.setTop (mkF m 1 #[.val (.ref x0), .val (.ref x1)] [(.ref x0)])) := by
    refine XS.aloadN X0.here hx rfl (hb hby d4_0) rfl rfl ?_
    show Steps p.tables e below (s₁.setTop (mkF m 1 #[.val (.ref x0), .val (.ref x1)] [(.ref x0)])) _
    exact Steps.refl _
  have pre1 := pre0.trans st1
  obtain ⟨T2, X2, e2, st2⟩ := getF X0 hx hZ hown (host := "") (Or.inl (hw _ (List.mem_of_getElem? (i := 19) rfl))) Via.refl e0 B0 (g := (mkF m 1 #[.val (.ref x0), .val (.ref x1)] [(.ref x0)])) rfl rfl (hb hby d4_1)
  have pre2 : Steps p.tables e below (s₁.setTop (entryFrame m #[(.ref x0), (.ref x1)] 2)) (T2.setTop (mkF m 4 #[.val (.ref x0), .val (.ref x1)] [(.int w0)])) := pre1.trans (st2 _ (Steps.refl _))
  have st3 : Steps p.tables e below (T2.setTop (mkF m 4 #[.val (.ref x0), .val (.ref x1)] [(.int w0)])) (T2.setTop (mkF m 5 #[.val (.ref x0), .val (.ref x1)] [(.ref x1), (.int w0)])) := by
    refine XS.aloadN X2.here hx rfl (hb hby d4_4) rfl rfl ?_
    show Steps p.tables e below (T2.setTop (mkF m 5 #[.val (.ref x0), .val (.ref x1)] [(.ref x1), (.int w0)])) _
    exact Steps.refl _
  have pre3 := pre2.trans st3
  obtain ⟨T4, X4, e4, st4⟩ := getF X2 hx hZ hown (host := "") (Or.inl (hw _ (List.mem_of_getElem? (i := 19) rfl))) Via.refl e2 B1 (g := (mkF m 5 #[.val (.ref x0), .val (.ref x1)] [(.ref x1), (.int w0)])) rfl rfl (hb hby d4_5)
  have pre4 : Steps p.tables e below (s₁.setTop (entryFrame m #[(.ref x0), (.ref x1)] 2)) (T4.setTop (mkF m 8 #[.val (.ref x0), .val (.ref x1)] [(.int w1), (.int w0)])) := pre3.trans (st4 _ (Steps.refl _))
  obtain ⟨_, _, ⟨T5, L5, k5, n5⟩, -, X5, ⟨Lc5, hQ5, l5, y5, z5⟩, st5⟩ := Jvm.LawKit.callS X4 hx (y := (⟨"java/lang/Integer", "compare", "(II)I"⟩ : MethodName)) hown (mvT hZ (hw _ (List.mem_of_getElem? (i := 26) rfl))) (mvT hZ (hw _ (List.mem_of_getElem? (i := 27) rfl))) (mvT hZ (hw _ (List.mem_of_getElem? (i := 28) rfl))) (mvT hZ (hw _ (List.mem_of_getElem? (i := 29) rfl))) (by decide) (backOf (W := 0) (rm3 l Z a0 hw [] w0 w1 h0 n0 Z0) hZ (hw _ (List.mem_of_getElem? (i := 29) rfl)) (hw _ (List.mem_of_getElem? (i := 28) rfl)) (by decide) (by decide)) (g := (mkF m 8 #[.val (.ref x0), .val (.ref x1)] [(.int w1), (.int w0)])) rfl (by rw [hml]; rfl) (argsL := [(.int w0), (.int w1)]) (rest := []) (lenOf pd4_0 rfl) rfl (by show 2 * 0 + _ ≤ _; exact Nat.le_of_eq rfl) (hb hby d4_8) (fun _ _ => ⟨rfl, e4, (by decide : 0 + 0 ≤ _), (by decide : 0 + 0 ≤ _)⟩)
  dsimp only [Pt.U, Pt.locs, Pt.cells, Pt.slots] at X5 l5 y5 z5 st5 hQ5
  subst l5 y5 z5
  obtain ⟨rfl, Nq5, e5⟩ := hQ5
  have N5 := Fr.app N0 Nq5
  have pre5 : Steps p.tables e below (s₁.setTop (entryFrame m #[(.ref x0), (.ref x1)] 2)) (T5.setTop (mkF m 11 #[.val (.ref x0), .val (.ref x1)] [(.int (own_F3 w0 w1))])) := pre4.trans (st5 _ (Steps.refl _))
  obtain ⟨fs, hr, hrun, hended, hW, hsame⟩ := X5.leave (v := some (.int (own_F3 w0 w1))) (fun h => by rw [Bd.returns] at h; cases h)
  refine ⟨_, _, pre5.trans ?_, hrun, hended, _, _, rfl, ?_, ⟨_, rfl⟩, hW, hsame.mono (by decide) (by decide)⟩
  · show Steps p.tables e below (T5.setTop (mkF m 11 #[.val (.ref x0), .val (.ref x1)] [(.int (own_F3 w0 w1))])) _
    exact retI X5 hx Bd.returns (hb hby d4_11) hr
  · show Q4 Z x0 x1 w0 w1 h0 n0 _ T5.heap _
    rw [e5]
    have hF : own_F4 x0 x1 w0 w1 = (own_F3 w0 w1) := by
      simp only [own_F4]
    exact ⟨by rw [hF], N5, rfl⟩
theorem d5_0 : decode method_2_code 0 = .ok (.iload_n 0, 1) := by decide +kernel
theorem d5_1 : decode method_2_code 1 = .ok (.ifCond .ge 5, 3) := by decide +kernel
theorem d5_4 : decode method_2_code 4 = .ok (.iconst (-1), 1) := by decide +kernel
theorem d5_5 : decode method_2_code 5 = .ok (.ireturn, 1) := by decide +kernel
theorem d5_6 : decode method_2_code 6 = .ok (.iload_n 0, 1) := by decide +kernel
theorem d5_7 : decode method_2_code 7 = .ok (.ifCond .le 5, 3) := by decide +kernel
theorem d5_10 : decode method_2_code 10 = .ok (.iconst 1, 1) := by decide +kernel
theorem d5_11 : decode method_2_code 11 = .ok (.ireturn, 1) := by decide +kernel
theorem d5_12 : decode method_2_code 12 = .ok (.iconst 0, 1) := by decide +kernel
theorem d5_13 : decode method_2_code 13 = .ok (.ireturn, 1) := by decide +kernel
theorem pn5 : plainName "com/example/neat_careplan/neatcareplan/model/TimeOfDayCompareToPinLaw" = true := by first | (simp [plainName, overriddenIn]; done) | decide +kernel
theorem ef5 (m : MethodId) (x0 : Int32) : entryFrame m #[(.int x0)] 1 = mkF m 0 #[.val (.int x0)] [] := by first | (simp [entryFrame, mkF, argsToLocals, Value.category]; done) | rfl
def own_F5 (x0 : Int32) : Int32 := (if x0 < (0 : Int32) then (-1 : Int32) else (if (0 : Int32) < x0 then (1 : Int32) else (0 : Int32)))
def Q5 (Z : State) (x0 : Int32) (h0 : Heap) (n0 : Nat) (v : Option Value) (h : Heap) (L : List Loc) : Prop := v = some (.int (own_F5 x0)) ∧ Fr n0 L ∧ h = h0
set_option maxRecDepth 65536 in
set_option maxHeartbeats 40000000 in
theorem rm5 (l : Launch) (Z : State) (a0 : Array Value) (hw : ∀ d ∈ tables_1, d.before a0 Z = true) (ws : List Jvm.Cond) (x0 : Int32) (h0 : Heap) (n0 : Nat) (Z0 : n0 ≤ h0.size) :
    MetFree l (⟨"com/example/neat_careplan/neatcareplan/model/TimeOfDayCompareToPinLaw", "sign", "(I)I"⟩ : MethodName) (head1 (Jvm.Cond.code (⟨"com/example/neat_careplan/neatcareplan/model/TimeOfDayCompareToPinLaw", "sign", "(I)I"⟩ : MethodName) method_2_code 1 (some .int) :: ws) ({ frames := 0, cells := 0, slots := 0, locals := 0 } : Room)) (fun a U => a = #[(.int x0)] ∧ Z.Warmed39 U.vm ∧ U.heap = h0) (fun _ _ _ _ _ => True) (fun _ U o U' => ∃ v L, o = .returned v ∧ Q5 Z x0 h0 n0 v U'.heap L ∧ FrameEnd U o U' L ({ frames := 0, cells := 0, slots := 0, locals := 0 } : Room).cells ({ frames := 0, cells := 0, slots := 0, locals := 0 } : Room).slots) := by
  refine MetFree.of_bodySF (plainFor_of_name pn5) hisR ?_
  intro p e s m args below meth c s₁ Bd hml0 hP hK
  obtain ⟨rfl, hZ, hh⟩ := hP
  have hx := Bd.exec
  have hby := Bd.bytes
  have hml : c.maxLocals = 1 := hml0
  have hown : s.vm.findClass "com/example/neat_careplan/neatcareplan/model/TimeOfDayCompareToPinLaw" = some m.cls := findClass_of_methodNamed Bd.named
  have hnm := (name_of_methodNamed Bd.named Bd.method).1
  have X0 : Stand p l e ({ frames := 0, cells := 0, slots := 0, locals := 0 } : Room) s m #[(.int x0)] below meth c s₁ [] 0 0 := Stand.of_body Bd
  have e0 : s₁.heap = h0 := by rw [← hh, Bd.state]; rfl
  have N0 := Fr.nil n0
  have pre0 : Steps p.tables e below (s₁.setTop (entryFrame m #[(.int x0)] 1)) (s₁.setTop (mkF m 0 #[.val (.int x0)] [])) := castTop (ef5 m x0) (Steps.refl _)
  have st1 : Steps p.tables e below (s₁.setTop (mkF m 0 #[.val (.int x0)] [])) (s₁.setTop (mkF m 1 #[.val (.int x0)] [(.int x0)])) := by
    refine XS.iloadN X0.here hx rfl (hb hby d5_0) rfl ?_
    show Steps p.tables e below (s₁.setTop (mkF m 1 #[.val (.int x0)] [(.int x0)])) _
    exact Steps.refl _
  have pre1 := pre0.trans st1
  by_cases hc1 : x0 < (0 : Int32)
  · have st2 : Steps p.tables e below (s₁.setTop (mkF m 1 #[.val (.int x0)] [(.int x0)])) (s₁.setTop (mkF m 4 #[.val (.int x0)] [])) := by
      refine XS.ifNo X0.here hx rfl (hb hby d5_1) rfl ((if0 _ _).trans (tlt hc1).2.1) ?_
      exact Steps.refl _
    have pre2 := pre1.trans st2
    have st3 : Steps p.tables e below (s₁.setTop (mkF m 4 #[.val (.int x0)] [])) (s₁.setTop (mkF m 5 #[.val (.int x0)] [(.int (-1 : Int32))])) := by
      refine XS.iconst X0.here hx rfl (hb hby d5_4) ?_
      show Steps p.tables e below (s₁.setTop (mkF m 5 #[.val (.int x0)] [(.int (-1 : Int32))])) _
      exact Steps.refl _
    have pre3 := pre2.trans st3
    obtain ⟨fs, hr, hrun, hended, hW, hsame⟩ := X0.leave (v := some (.int (-1 : Int32))) (fun h => by rw [Bd.returns] at h; cases h)
    refine ⟨_, _, pre3.trans ?_, hrun, hended, _, _, rfl, ?_, ⟨_, rfl⟩, hW, hsame.mono (by decide) (by decide)⟩
    · show Steps p.tables e below (s₁.setTop (mkF m 5 #[.val (.int x0)] [(.int (-1 : Int32))])) _
      exact retI X0 hx Bd.returns (hb hby d5_5) hr
    · show Q5 Z x0 h0 n0 _ s₁.heap _
      rw [e0]
      have hF : own_F5 x0 = (-1 : Int32) := by
        simp only [own_F5, if_pos hc1]
      exact ⟨by rw [hF], N0, rfl⟩
  · have st4 : Steps p.tables e below (s₁.setTop (mkF m 1 #[.val (.int x0)] [(.int x0)])) (s₁.setTop (mkF m 6 #[.val (.int x0)] [])) := by
      refine XS.ifYes X0.here hx rfl (pc0 := 1) (pc' := 6) rfl (hb hby d5_1) rfl ((if0 _ _).trans (flt hc1).2.1) (by decide) (by decide) ?_
      exact Steps.refl _
    have pre4 := pre1.trans st4
    have st5 : Steps p.tables e below (s₁.setTop (mkF m 6 #[.val (.int x0)] [])) (s₁.setTop (mkF m 7 #[.val (.int x0)] [(.int x0)])) := by
      refine XS.iloadN X0.here hx rfl (hb hby d5_6) rfl ?_
      show Steps p.tables e below (s₁.setTop (mkF m 7 #[.val (.int x0)] [(.int x0)])) _
      exact Steps.refl _
    have pre5 := pre4.trans st5
    by_cases hc7 : (0 : Int32) < x0
    · have st6 : Steps p.tables e below (s₁.setTop (mkF m 7 #[.val (.int x0)] [(.int x0)])) (s₁.setTop (mkF m 10 #[.val (.int x0)] [])) := by
        refine XS.ifNo X0.here hx rfl (hb hby d5_7) rfl ((if0 _ _).trans (tlt hc7).2.2.2) ?_
        exact Steps.refl _
      have pre6 := pre5.trans st6
      have st7 : Steps p.tables e below (s₁.setTop (mkF m 10 #[.val (.int x0)] [])) (s₁.setTop (mkF m 11 #[.val (.int x0)] [(.int (1 : Int32))])) := by
        refine XS.iconst X0.here hx rfl (hb hby d5_10) ?_
        show Steps p.tables e below (s₁.setTop (mkF m 11 #[.val (.int x0)] [(.int (1 : Int32))])) _
        exact Steps.refl _
      have pre7 := pre6.trans st7
      obtain ⟨fs, hr, hrun, hended, hW, hsame⟩ := X0.leave (v := some (.int (1 : Int32))) (fun h => by rw [Bd.returns] at h; cases h)
      refine ⟨_, _, pre7.trans ?_, hrun, hended, _, _, rfl, ?_, ⟨_, rfl⟩, hW, hsame.mono (by decide) (by decide)⟩
      · show Steps p.tables e below (s₁.setTop (mkF m 11 #[.val (.int x0)] [(.int (1 : Int32))])) _
        exact retI X0 hx Bd.returns (hb hby d5_11) hr
      · show Q5 Z x0 h0 n0 _ s₁.heap _
        rw [e0]
        have hF : own_F5 x0 = (1 : Int32) := by
          simp only [own_F5, if_neg hc1, if_pos hc7]
        exact ⟨by rw [hF], N0, rfl⟩
    · have st8 : Steps p.tables e below (s₁.setTop (mkF m 7 #[.val (.int x0)] [(.int x0)])) (s₁.setTop (mkF m 12 #[.val (.int x0)] [])) := by
        refine XS.ifYes X0.here hx rfl (pc0 := 7) (pc' := 12) rfl (hb hby d5_7) rfl ((if0 _ _).trans (flt hc7).2.2.2) (by decide) (by decide) ?_
        exact Steps.refl _
      have pre8 := pre5.trans st8
      have st9 : Steps p.tables e below (s₁.setTop (mkF m 12 #[.val (.int x0)] [])) (s₁.setTop (mkF m 13 #[.val (.int x0)] [(.int (0 : Int32))])) := by
        refine XS.iconst X0.here hx rfl (hb hby d5_12) ?_
        show Steps p.tables e below (s₁.setTop (mkF m 13 #[.val (.int x0)] [(.int (0 : Int32))])) _
        exact Steps.refl _
      have pre9 := pre8.trans st9
      obtain ⟨fs, hr, hrun, hended, hW, hsame⟩ := X0.leave (v := some (.int (0 : Int32))) (fun h => by rw [Bd.returns] at h; cases h)
      refine ⟨_, _, pre9.trans ?_, hrun, hended, _, _, rfl, ?_, ⟨_, rfl⟩, hW, hsame.mono (by decide) (by decide)⟩
      · show Steps p.tables e below (s₁.setTop (mkF m 13 #[.val (.int x0)] [(.int (0 : Int32))])) _
        exact retI X0 hx Bd.returns (hb hby d5_13) hr
      · show Q5 Z x0 h0 n0 _ s₁.heap _
        rw [e0]
        have hF : own_F5 x0 = (0 : Int32) := by
          simp only [own_F5, if_neg hc1, if_neg hc7]
        exact ⟨by rw [hF], N0, rfl⟩
theorem d6_0 : decode jdk_29_method_69_code 0 = .ok (.iload_n 0, 1) := by decide +kernel
theorem d6_1 : decode jdk_29_method_69_code 1 = .ok (.iload_n 1, 1) := by decide +kernel
theorem d6_2 : decode jdk_29_method_69_code 2 = .ok (.if_icmp .gt 7, 3) := by decide +kernel
theorem d6_5 : decode jdk_29_method_69_code 5 = .ok (.iload_n 0, 1) := by decide +kernel
theorem d6_6 : decode jdk_29_method_69_code 6 = .ok (.goto 4, 3) := by decide +kernel
theorem d6_9 : decode jdk_29_method_69_code 9 = .ok (.iload_n 1, 1) := by decide +kernel
theorem d6_10 : decode jdk_29_method_69_code 10 = .ok (.ireturn, 1) := by decide +kernel
theorem ef6 (m : MethodId) (x0 : Int32) (x1 : Int32) : entryFrame m #[(.int x0), (.int x1)] 2 = mkF m 0 #[.val (.int x0), .val (.int x1)] [] := by first | (simp [entryFrame, mkF, argsToLocals, Value.category]; done) | rfl
def own_F6 (x0 : Int32) (x1 : Int32) : Int32 := (if x1 < x0 then x1 else x0)
def Q6 (Z : State) (x0 : Int32) (x1 : Int32) (h0 : Heap) (n0 : Nat) (v : Option Value) (h : Heap) (L : List Loc) : Prop := v = some (.int (own_F6 x0 x1)) ∧ Fr n0 L ∧ h = h0
set_option maxRecDepth 65536 in
set_option maxHeartbeats 40000000 in
theorem rm6 (l : Launch) (Z : State) (a0 : Array Value) (hw : ∀ d ∈ tables_1, d.before a0 Z = true) (ws : List Jvm.Cond) (x0 : Int32) (x1 : Int32) (h0 : Heap) (n0 : Nat) (Z0 : n0 ≤ h0.size) :
    MetFree l (⟨"java/lang/Math", "min", "(II)I"⟩ : MethodName) (head1 (Jvm.Cond.code (⟨"java/lang/Math", "min", "(II)I"⟩ : MethodName) jdk_29_method_69_code 2 (some .int) :: ws) ({ frames := 0, cells := 0, slots := 0, locals := 0 } : Room)) (fun a U => a = #[(.int x0), (.int x1)] ∧ Z.Warmed39 U.vm ∧ U.heap = h0) (fun _ _ _ _ _ => True) (fun _ U o U' => ∃ v L, o = .returned v ∧ Q6 Z x0 x1 h0 n0 v U'.heap L ∧ FrameEnd U o U' L ({ frames := 0, cells := 0, slots := 0, locals := 0 } : Room).cells ({ frames := 0, cells := 0, slots := 0, locals := 0 } : Room).slots) := by
  refine MetFree.of_bodySF (Jvm.Free.JP.mathPlain rfl (by decide +kernel)) hisR ?_
  intro p e s m args below meth c s₁ Bd hml0 hP hK
  obtain ⟨rfl, hZ, hh⟩ := hP
  have hx := Bd.exec
  have hby := Bd.bytes
  have hml : c.maxLocals = 2 := hml0
  have hown : s.vm.findClass "java/lang/Math" = some m.cls := findClass_of_methodNamed Bd.named
  have hnm := (name_of_methodNamed Bd.named Bd.method).1
  have X0 : Stand p l e ({ frames := 0, cells := 0, slots := 0, locals := 0 } : Room) s m #[(.int x0), (.int x1)] below meth c s₁ [] 0 0 := Stand.of_body Bd
  have e0 : s₁.heap = h0 := by rw [← hh, Bd.state]; rfl
  have N0 := Fr.nil n0
  have pre0 : Steps p.tables e below (s₁.setTop (entryFrame m #[(.int x0), (.int x1)] 2)) (s₁.setTop (mkF m 0 #[.val (.int x0), .val (.int x1)] [])) := castTop (ef6 m x0 x1) (Steps.refl _)
  obtain ⟨v1, hv1⟩ : ∃ z : Int32, z = (if x1 < x0 then x1 else x0) := ⟨_, rfl⟩
  have st2 : Steps p.tables e below (s₁.setTop (mkF m 0 #[.val (.int x0), .val (.int x1)] [])) (s₁.setTop (mkF m 10 #[.val (.int x0), .val (.int x1)] [(.int v1)])) := by
    subst v1
    refine XS.iloadN X0.here hx rfl (hb hby d6_0) rfl ?_
    show Steps p.tables e below (s₁.setTop (mkF m 1 #[.val (.int x0), .val (.int x1)] [(.int x0)])) _
    refine XS.iloadN X0.here hx rfl (hb hby d6_1) rfl ?_
    show Steps p.tables e below (s₁.setTop (mkF m 2 #[.val (.int x0), .val (.int x1)] [(.int x1), (.int x0)])) _
    refine Steps.trans (s₂ := s₁.setTop (mkF m 10 #[.val (.int x0), .val (.int x1)] [(.int (if x1 < x0 then x1 else x0))])) ?_ ?_
    · by_cases hc2 : x1 < x0
      · refine XS.icmpYes X0.here hx rfl (pc0 := 2) (pc' := 9) rfl (hb hby d6_2) rfl (tlt hc2).2.2.1 (by decide) (by decide) ?_
        show Steps p.tables e below (s₁.setTop (mkF m 9 #[.val (.int x0), .val (.int x1)] [])) _
        refine XS.iloadN X0.here hx rfl (hb hby d6_9) rfl ?_
        show Steps p.tables e below (s₁.setTop (mkF m 10 #[.val (.int x0), .val (.int x1)] [(.int x1)])) _
        try simp only [if_pos hc2]
        exact Steps.refl _
      · refine XS.icmpNo X0.here hx rfl (hb hby d6_2) rfl (flt hc2).2.2.1 ?_
        show Steps p.tables e below (s₁.setTop (mkF m 5 #[.val (.int x0), .val (.int x1)] [])) _
        refine XS.iloadN X0.here hx rfl (hb hby d6_5) rfl ?_
        show Steps p.tables e below (s₁.setTop (mkF m 6 #[.val (.int x0), .val (.int x1)] [(.int x0)])) _
        refine XS.goto X0.here hx rfl (pc0 := 6) (pc' := 10) rfl (hb hby d6_6) (by decide) (by decide) ?_
        show Steps p.tables e below (s₁.setTop (mkF m 10 #[.val (.int x0), .val (.int x1)] [(.int x0)])) _
        try simp only [if_neg hc2]
        exact Steps.refl _
    show Steps p.tables e below (s₁.setTop (mkF m 10 #[.val (.int x0), .val (.int x1)] [(.int (if x1 < x0 then x1 else x0))])) _
    exact Steps.refl _
  have pre2 := pre0.trans st2
  obtain ⟨fs, hr, hrun, hended, hW, hsame⟩ := X0.leave (v := some (.int v1)) (fun h => by rw [Bd.returns] at h; cases h)
  refine ⟨_, _, pre2.trans ?_, hrun, hended, _, _, rfl, ?_, ⟨_, rfl⟩, hW, hsame.mono (by decide) (by decide)⟩
  · show Steps p.tables e below (s₁.setTop (mkF m 10 #[.val (.int x0), .val (.int x1)] [(.int v1)])) _
    exact retI X0 hx Bd.returns (hb hby d6_10) hr
  · show Q6 Z x0 x1 h0 n0 _ s₁.heap _
    rw [e0]
    have hF : own_F6 x0 x1 = v1 := by
      subst v1
      simp only [own_F6]
    exact ⟨by rw [hF], N0, rfl⟩
theorem d7_0 : decode jdk_29_method_65_code 0 = .ok (.iload_n 0, 1) := by decide +kernel
theorem d7_1 : decode jdk_29_method_65_code 1 = .ok (.iload_n 1, 1) := by decide +kernel
theorem d7_2 : decode jdk_29_method_65_code 2 = .ok (.if_icmp .lt 7, 3) := by decide +kernel
theorem d7_5 : decode jdk_29_method_65_code 5 = .ok (.iload_n 0, 1) := by decide +kernel
theorem d7_6 : decode jdk_29_method_65_code 6 = .ok (.goto 4, 3) := by decide +kernel
theorem d7_9 : decode jdk_29_method_65_code 9 = .ok (.iload_n 1, 1) := by decide +kernel
theorem d7_10 : decode jdk_29_method_65_code 10 = .ok (.ireturn, 1) := by decide +kernel
theorem ef7 (m : MethodId) (x0 : Int32) (x1 : Int32) : entryFrame m #[(.int x0), (.int x1)] 2 = mkF m 0 #[.val (.int x0), .val (.int x1)] [] := by first | (simp [entryFrame, mkF, argsToLocals, Value.category]; done) | rfl
def own_F7 (x0 : Int32) (x1 : Int32) : Int32 := (if x0 < x1 then x1 else x0)
def Q7 (Z : State) (x0 : Int32) (x1 : Int32) (h0 : Heap) (n0 : Nat) (v : Option Value) (h : Heap) (L : List Loc) : Prop := v = some (.int (own_F7 x0 x1)) ∧ Fr n0 L ∧ h = h0
set_option maxRecDepth 65536 in
set_option maxHeartbeats 40000000 in
theorem rm7 (l : Launch) (Z : State) (a0 : Array Value) (hw : ∀ d ∈ tables_1, d.before a0 Z = true) (ws : List Jvm.Cond) (x0 : Int32) (x1 : Int32) (h0 : Heap) (n0 : Nat) (Z0 : n0 ≤ h0.size) :
    MetFree l (⟨"java/lang/Math", "max", "(II)I"⟩ : MethodName) (head1 (Jvm.Cond.code (⟨"java/lang/Math", "max", "(II)I"⟩ : MethodName) jdk_29_method_65_code 2 (some .int) :: ws) ({ frames := 0, cells := 0, slots := 0, locals := 0 } : Room)) (fun a U => a = #[(.int x0), (.int x1)] ∧ Z.Warmed39 U.vm ∧ U.heap = h0) (fun _ _ _ _ _ => True) (fun _ U o U' => ∃ v L, o = .returned v ∧ Q7 Z x0 x1 h0 n0 v U'.heap L ∧ FrameEnd U o U' L ({ frames := 0, cells := 0, slots := 0, locals := 0 } : Room).cells ({ frames := 0, cells := 0, slots := 0, locals := 0 } : Room).slots) := by
  refine MetFree.of_bodySF (Jvm.Free.JP.mathPlain rfl (by decide +kernel)) hisR ?_
  intro p e s m args below meth c s₁ Bd hml0 hP hK
  obtain ⟨rfl, hZ, hh⟩ := hP
  have hx := Bd.exec
  have hby := Bd.bytes
  have hml : c.maxLocals = 2 := hml0
  have hown : s.vm.findClass "java/lang/Math" = some m.cls := findClass_of_methodNamed Bd.named
  have hnm := (name_of_methodNamed Bd.named Bd.method).1
  have X0 : Stand p l e ({ frames := 0, cells := 0, slots := 0, locals := 0 } : Room) s m #[(.int x0), (.int x1)] below meth c s₁ [] 0 0 := Stand.of_body Bd
  have e0 : s₁.heap = h0 := by rw [← hh, Bd.state]; rfl
  have N0 := Fr.nil n0
  have pre0 : Steps p.tables e below (s₁.setTop (entryFrame m #[(.int x0), (.int x1)] 2)) (s₁.setTop (mkF m 0 #[.val (.int x0), .val (.int x1)] [])) := castTop (ef7 m x0 x1) (Steps.refl _)
  obtain ⟨v1, hv1⟩ : ∃ z : Int32, z = (if x0 < x1 then x1 else x0) := ⟨_, rfl⟩
  have st2 : Steps p.tables e below (s₁.setTop (mkF m 0 #[.val (.int x0), .val (.int x1)] [])) (s₁.setTop (mkF m 10 #[.val (.int x0), .val (.int x1)] [(.int v1)])) := by
    subst v1
    refine XS.iloadN X0.here hx rfl (hb hby d7_0) rfl ?_
    show Steps p.tables e below (s₁.setTop (mkF m 1 #[.val (.int x0), .val (.int x1)] [(.int x0)])) _
    refine XS.iloadN X0.here hx rfl (hb hby d7_1) rfl ?_
    show Steps p.tables e below (s₁.setTop (mkF m 2 #[.val (.int x0), .val (.int x1)] [(.int x1), (.int x0)])) _
    refine Steps.trans (s₂ := s₁.setTop (mkF m 10 #[.val (.int x0), .val (.int x1)] [(.int (if x0 < x1 then x1 else x0))])) ?_ ?_
    · by_cases hc2 : x0 < x1
      · refine XS.icmpYes X0.here hx rfl (pc0 := 2) (pc' := 9) rfl (hb hby d7_2) rfl (tlt hc2).1 (by decide) (by decide) ?_
        show Steps p.tables e below (s₁.setTop (mkF m 9 #[.val (.int x0), .val (.int x1)] [])) _
        refine XS.iloadN X0.here hx rfl (hb hby d7_9) rfl ?_
        show Steps p.tables e below (s₁.setTop (mkF m 10 #[.val (.int x0), .val (.int x1)] [(.int x1)])) _
        try simp only [if_pos hc2]
        exact Steps.refl _
      · refine XS.icmpNo X0.here hx rfl (hb hby d7_2) rfl (flt hc2).1 ?_
        show Steps p.tables e below (s₁.setTop (mkF m 5 #[.val (.int x0), .val (.int x1)] [])) _
        refine XS.iloadN X0.here hx rfl (hb hby d7_5) rfl ?_
        show Steps p.tables e below (s₁.setTop (mkF m 6 #[.val (.int x0), .val (.int x1)] [(.int x0)])) _
        refine XS.goto X0.here hx rfl (pc0 := 6) (pc' := 10) rfl (hb hby d7_6) (by decide) (by decide) ?_
        show Steps p.tables e below (s₁.setTop (mkF m 10 #[.val (.int x0), .val (.int x1)] [(.int x0)])) _
        try simp only [if_neg hc2]
        exact Steps.refl _
    show Steps p.tables e below (s₁.setTop (mkF m 10 #[.val (.int x0), .val (.int x1)] [(.int (if x0 < x1 then x1 else x0))])) _
    exact Steps.refl _
  have pre2 := pre0.trans st2
  obtain ⟨fs, hr, hrun, hended, hW, hsame⟩ := X0.leave (v := some (.int v1)) (fun h => by rw [Bd.returns] at h; cases h)
  refine ⟨_, _, pre2.trans ?_, hrun, hended, _, _, rfl, ?_, ⟨_, rfl⟩, hW, hsame.mono (by decide) (by decide)⟩
  · show Steps p.tables e below (s₁.setTop (mkF m 10 #[.val (.int x0), .val (.int x1)] [(.int v1)])) _
    exact retI X0 hx Bd.returns (hb hby d7_10) hr
  · show Q7 Z x0 x1 h0 n0 _ s₁.heap _
    rw [e0]
    have hF : own_F7 x0 x1 = v1 := by
      subst v1
      simp only [own_F7]
    exact ⟨by rw [hF], N0, rfl⟩
def own_R (v : Int32) : Prop := 0 ≤ v.toInt ∧ v.toInt ≤ 1440
theorem own_r1 {x v : Int32} (h : v = ((x &&& (2147483647 : Int32)) % (1441 : Int32))) : own_R v := by
  have q := own_mask x
  have r := (c_irem (x &&& (2147483647 : Int32)) (1441 : Int32) 1441 (by decide)).1 q.1
  rw [← h] at r
  unfold own_R
  omega
theorem own_r2 {a k v : Int32} (ha : own_R a) (hk : k = (a + (1 : Int32))) (h : v = own_F6 k (1440 : Int32)) : own_R v := by
  subst hk
  have e : (1440 : Int32).toInt = 1440 := by decide
  have e1 : (1 : Int32).toInt = 1 := by decide
  have q := c_iadd a (1 : Int32)
  have r := rng32 (a + (1 : Int32))
  subst h
  unfold own_R at *
  simp only [own_F6]
  by_cases c : (1440 : Int32) < (a + (1 : Int32))
  · simp only [if_pos c]; omega
  · simp only [if_neg c]; rw [Int32.lt_iff_toInt_lt] at c; omega
theorem own_r3 {a k v : Int32} (ha : own_R a) (hk : k = (a - (1 : Int32))) (h : v = own_F7 k (0 : Int32)) : own_R v := by
  subst hk
  have e : (0 : Int32).toInt = 0 := by decide
  have e1 : (1 : Int32).toInt = 1 := by decide
  have q := c_isub a (1 : Int32)
  have r := rng32 (a - (1 : Int32))
  subst h
  unfold own_R at *
  simp only [own_F7]
  by_cases c : (a - (1 : Int32)) < (0 : Int32)
  · simp only [if_pos c]; omega
  · simp only [if_neg c]; rw [Int32.lt_iff_toInt_lt] at c; omega
theorem own_p {v : Int32} (h : own_R v) : ¬ (v < (0 : Int32)) ∧ ¬ ((1440 : Int32) < v) := by
  have e : (1440 : Int32).toInt = 1440 := by decide
  have e0 : (0 : Int32).toInt = 0 := by decide
  rw [Int32.lt_iff_toInt_lt, Int32.lt_iff_toInt_lt]
  unfold own_R at h
  omega
theorem own_tri (a b : Int32) : (a < b ∧ ¬ b < a ∧ ¬ a = b ∧ ¬ b = a) ∨ (¬ a < b ∧ b < a ∧ ¬ a = b ∧ ¬ b = a) ∨ (¬ a < b ∧ ¬ b < a ∧ a = b ∧ b = a) := by
  simp only [Int32.lt_iff_toInt_lt, ← Int32.toInt_inj]
  omega
theorem own_dec (a b : Int32) (x y : Addr) : own_F5 (own_F4 x y a b) = (if a < b then (-1 : Int32) else (if b < a then (1 : Int32) else (0 : Int32))) ∧ own_F5 (own_F4 y x b a) = (-(if a < b then (-1 : Int32) else (if b < a then (1 : Int32) else (0 : Int32)))) := by
  rcases own_tri a b with ⟨h1, h2, h3, h4⟩ | ⟨h1, h2, h3, h4⟩ | ⟨h1, h2, rfl, h4⟩
  · simp only [own_F5, own_F4, own_F3, if_pos h1, if_neg h2, if_neg h3, if_neg h4]; decide
  · simp only [own_F5, own_F4, own_F3, if_neg h1, if_pos h2, if_neg h3, if_neg h4]; decide
  · simp only [own_F5, own_F4, own_F3, if_neg h1, if_true]; decide
theorem pn0 : plainName "com/example/neat_careplan/neatcareplan/model/TimeOfDayCompareToPinLaw" = true := by first | (simp [plainName, overriddenIn]; done) | decide +kernel
theorem pd0_0 : parseMethodDescriptor "(I)V" = some ⟨[.int], none⟩ := by decide +kernel
theorem pd0_1 : parseMethodDescriptor "(Lcom/example/neat_careplan/neatcareplan/model/TimeOfDay;)I" = some ⟨[(.object "com/example/neat_careplan/neatcareplan/model/TimeOfDay")], some .int⟩ := by decide +kernel
theorem pd0_2 : parseMethodDescriptor "(I)I" = some ⟨[.int], some .int⟩ := by decide +kernel
theorem pd0_3 : parseMethodDescriptor "(II)I" = some ⟨[.int, .int], some .int⟩ := by decide +kernel
theorem ef0 (m : MethodId) (x0 : Int32) (x1 : Int32) (x2 : Int32) : entryFrame m #[(.int x0), (.int x1), (.int x2)] maxLocals = mkF m 0 #[.val (.int x0), .val (.int x1), .val (.int x2), .unset, .unset, .unset, .unset, .unset, .unset] [] := by first | (simp [entryFrame, mkF, argsToLocals, Value.category, maxLocals]; done) | rfl
def Q0 (Z : State) (x0 : Int32) (x1 : Int32) (x2 : Int32) (h0 : Heap) (n0 : Nat) (v : Option Value) (h : Heap) (L : List Loc) : Prop := v = some (.int 1) ∧ Fr n0 L
set_option maxRecDepth 65536 in
set_option maxHeartbeats 40000000 in
theorem rm0 (l : Launch) (Z : State) (a0 : Array Value) (hw : ∀ d ∈ tables_1, d.before a0 Z = true) (ws : List Jvm.Cond) (x0 : Int32) (x1 : Int32) (x2 : Int32) (h0 : Heap) (n0 : Nat) (Z0 : n0 ≤ h0.size) :
    MetFree l x (head1 (Jvm.Cond.code x code maxLocals ret :: ws) room_1) (fun a U => a = #[(.int x0), (.int x1), (.int x2)] ∧ Z.Warmed39 U.vm ∧ U.heap = h0) (fun _ _ _ _ _ => True) (fun _ U o U' => ∃ v L, o = .returned v ∧ Q0 Z x0 x1 x2 h0 n0 v U'.heap L ∧ FrameEnd U o U' L room_1.cells room_1.slots) := by
  refine MetFree.of_bodySF (plainFor_of_name pn0) hisR ?_
  intro p e s m args below meth c s₁ Bd hml0 hP hK
  obtain ⟨rfl, hZ, hh⟩ := hP
  have hx := Bd.exec
  have hby := Bd.bytes
  have hml : c.maxLocals = 9 := hml0
  have hown : s.vm.findClass "com/example/neat_careplan/neatcareplan/model/TimeOfDayCompareToPinLaw" = some m.cls := findClass_of_methodNamed Bd.named
  have hnm := (name_of_methodNamed Bd.named Bd.method).1
  have X0 : Stand p l e room_1 s m #[(.int x0), (.int x1), (.int x2)] below meth c s₁ [] 0 0 := Stand.of_body Bd
  have e0 : s₁.heap = h0 := by rw [← hh, Bd.state]; rfl
  have N0 := Fr.nil n0
  have pre0 : Steps p.tables e below (s₁.setTop (entryFrame m #[(.int x0), (.int x1), (.int x2)] maxLocals)) (s₁.setTop (mkF m 0 #[.val (.int x0), .val (.int x1), .val (.int x2), .unset, .unset, .unset, .unset, .unset, .unset] [])) := castTop (ef0 m x0 x1 x2) (Steps.refl _)
  have K0 := Keep.refl h0 []
  obtain ⟨v1, hv1⟩ : ∃ z : Int32, z = (x2 &&& (3 : Int32)) := ⟨_, rfl⟩
  obtain ⟨v2, hv2⟩ : ∃ z : Int32, z = ((x0 &&& (2147483647 : Int32)) % (1441 : Int32)) := ⟨_, rfl⟩
  obtain ⟨v3, hv3⟩ : ∃ z : Int32, z = ((x1 &&& (2147483647 : Int32)) % (1441 : Int32)) := ⟨_, rfl⟩
  have st4 : Steps p.tables e below (s₁.setTop (mkF m 0 #[.val (.int x0), .val (.int x1), .val (.int x2), .unset, .unset, .unset, .unset, .unset, .unset] [])) (s₁.setTop (mkF m 27 #[.val (.int x0), .val (.int x1), .val (.int x2), .val (.int v2), .val (.int v3), .val (.int v1), .unset, .unset, .unset] [(.int (1 : Int32)), (.int v1)])) := by
    subst v3 v2 v1
    refine XS.iloadN X0.here hx rfl (hb hby at_0) rfl ?_
    show Steps p.tables e below (s₁.setTop (mkF m 1 #[.val (.int x0), .val (.int x1), .val (.int x2), .unset, .unset, .unset, .unset, .unset, .unset] [(.int x0)])) _
    refine X0.ldcInt hx hown (mvT hZ (hw _ (List.mem_of_getElem? (i := 0) rfl))) (g := (mkF m 1 #[.val (.int x0), .val (.int x1), .val (.int x2), .unset, .unset, .unset, .unset, .unset, .unset] [(.int x0)])) rfl (hb hby at_1) _ ?_
    show Steps p.tables e below (s₁.setTop (mkF m 3 #[.val (.int x0), .val (.int x1), .val (.int x2), .unset, .unset, .unset, .unset, .unset, .unset] [(.int (2147483647 : Int32)), (.int x0)])) _
    refine XS.iand X0.here hx rfl (hb hby at_3) rfl ?_
    show Steps p.tables e below (s₁.setTop (mkF m 4 #[.val (.int x0), .val (.int x1), .val (.int x2), .unset, .unset, .unset, .unset, .unset, .unset] [(.int (x0 &&& (2147483647 : Int32)))])) _
    refine XS.sipush X0.here hx rfl (hb hby at_4) ?_
    show Steps p.tables e below (s₁.setTop (mkF m 7 #[.val (.int x0), .val (.int x1), .val (.int x2), .unset, .unset, .unset, .unset, .unset, .unset] [(.int (1441 : Int32)), (.int (x0 &&& (2147483647 : Int32)))])) _
    refine iremM X0 hx rfl (hb hby at_7) rfl (by decide) ?_
    show Steps p.tables e below (s₁.setTop (mkF m 8 #[.val (.int x0), .val (.int x1), .val (.int x2), .unset, .unset, .unset, .unset, .unset, .unset] [(.int ((x0 &&& (2147483647 : Int32)) % (1441 : Int32)))])) _
    refine XS.istoreN X0.here hx rfl (hb hby at_8) rfl (l' := #[.val (.int x0), .val (.int x1), .val (.int x2), .val (.int ((x0 &&& (2147483647 : Int32)) % (1441 : Int32))), .unset, .unset, .unset, .unset, .unset]) rfl ?_
    show Steps p.tables e below (s₁.setTop (mkF m 9 #[.val (.int x0), .val (.int x1), .val (.int x2), .val (.int ((x0 &&& (2147483647 : Int32)) % (1441 : Int32))), .unset, .unset, .unset, .unset, .unset] [])) _
    refine XS.iloadN X0.here hx rfl (hb hby at_9) rfl ?_
    show Steps p.tables e below (s₁.setTop (mkF m 10 #[.val (.int x0), .val (.int x1), .val (.int x2), .val (.int ((x0 &&& (2147483647 : Int32)) % (1441 : Int32))), .unset, .unset, .unset, .unset, .unset] [(.int x1)])) _
    refine X0.ldcInt hx hown (mvT hZ (hw _ (List.mem_of_getElem? (i := 0) rfl))) (g := (mkF m 10 #[.val (.int x0), .val (.int x1), .val (.int x2), .val (.int ((x0 &&& (2147483647 : Int32)) % (1441 : Int32))), .unset, .unset, .unset, .unset, .unset] [(.int x1)])) rfl (hb hby at_10) _ ?_
    show Steps p.tables e below (s₁.setTop (mkF m 12 #[.val (.int x0), .val (.int x1), .val (.int x2), .val (.int ((x0 &&& (2147483647 : Int32)) % (1441 : Int32))), .unset, .unset, .unset, .unset, .unset] [(.int (2147483647 : Int32)), (.int x1)])) _
    refine XS.iand X0.here hx rfl (hb hby at_12) rfl ?_
    show Steps p.tables e below (s₁.setTop (mkF m 13 #[.val (.int x0), .val (.int x1), .val (.int x2), .val (.int ((x0 &&& (2147483647 : Int32)) % (1441 : Int32))), .unset, .unset, .unset, .unset, .unset] [(.int (x1 &&& (2147483647 : Int32)))])) _
    refine XS.sipush X0.here hx rfl (hb hby at_13) ?_
    show Steps p.tables e below (s₁.setTop (mkF m 16 #[.val (.int x0), .val (.int x1), .val (.int x2), .val (.int ((x0 &&& (2147483647 : Int32)) % (1441 : Int32))), .unset, .unset, .unset, .unset, .unset] [(.int (1441 : Int32)), (.int (x1 &&& (2147483647 : Int32)))])) _
    refine iremM X0 hx rfl (hb hby at_16) rfl (by decide) ?_
    show Steps p.tables e below (s₁.setTop (mkF m 17 #[.val (.int x0), .val (.int x1), .val (.int x2), .val (.int ((x0 &&& (2147483647 : Int32)) % (1441 : Int32))), .unset, .unset, .unset, .unset, .unset] [(.int ((x1 &&& (2147483647 : Int32)) % (1441 : Int32)))])) _
    refine XS.istore X0.here hx rfl (hb hby at_17) rfl (l' := #[.val (.int x0), .val (.int x1), .val (.int x2), .val (.int ((x0 &&& (2147483647 : Int32)) % (1441 : Int32))), .val (.int ((x1 &&& (2147483647 : Int32)) % (1441 : Int32))), .unset, .unset, .unset, .unset]) rfl ?_
    show Steps p.tables e below (s₁.setTop (mkF m 19 #[.val (.int x0), .val (.int x1), .val (.int x2), .val (.int ((x0 &&& (2147483647 : Int32)) % (1441 : Int32))), .val (.int ((x1 &&& (2147483647 : Int32)) % (1441 : Int32))), .unset, .unset, .unset, .unset] [])) _
    refine XS.iloadN X0.here hx rfl (hb hby at_19) rfl ?_
    show Steps p.tables e below (s₁.setTop (mkF m 20 #[.val (.int x0), .val (.int x1), .val (.int x2), .val (.int ((x0 &&& (2147483647 : Int32)) % (1441 : Int32))), .val (.int ((x1 &&& (2147483647 : Int32)) % (1441 : Int32))), .unset, .unset, .unset, .unset] [(.int x2)])) _
    refine XS.iconst X0.here hx rfl (hb hby at_20) ?_
    show Steps p.tables e below (s₁.setTop (mkF m 21 #[.val (.int x0), .val (.int x1), .val (.int x2), .val (.int ((x0 &&& (2147483647 : Int32)) % (1441 : Int32))), .val (.int ((x1 &&& (2147483647 : Int32)) % (1441 : Int32))), .unset, .unset, .unset, .unset] [(.int (3 : Int32)), (.int x2)])) _
    refine XS.iand X0.here hx rfl (hb hby at_21) rfl ?_
    show Steps p.tables e below (s₁.setTop (mkF m 22 #[.val (.int x0), .val (.int x1), .val (.int x2), .val (.int ((x0 &&& (2147483647 : Int32)) % (1441 : Int32))), .val (.int ((x1 &&& (2147483647 : Int32)) % (1441 : Int32))), .unset, .unset, .unset, .unset] [(.int (x2 &&& (3 : Int32)))])) _
    refine XS.istore X0.here hx rfl (hb hby at_22) rfl (l' := #[.val (.int x0), .val (.int x1), .val (.int x2), .val (.int ((x0 &&& (2147483647 : Int32)) % (1441 : Int32))), .val (.int ((x1 &&& (2147483647 : Int32)) % (1441 : Int32))), .val (.int (x2 &&& (3 : Int32))), .unset, .unset, .unset]) rfl ?_
    show Steps p.tables e below (s₁.setTop (mkF m 24 #[.val (.int x0), .val (.int x1), .val (.int x2), .val (.int ((x0 &&& (2147483647 : Int32)) % (1441 : Int32))), .val (.int ((x1 &&& (2147483647 : Int32)) % (1441 : Int32))), .val (.int (x2 &&& (3 : Int32))), .unset, .unset, .unset] [])) _
    refine XS.iload X0.here hx rfl (hb hby at_24) rfl ?_
    show Steps p.tables e below (s₁.setTop (mkF m 26 #[.val (.int x0), .val (.int x1), .val (.int x2), .val (.int ((x0 &&& (2147483647 : Int32)) % (1441 : Int32))), .val (.int ((x1 &&& (2147483647 : Int32)) % (1441 : Int32))), .val (.int (x2 &&& (3 : Int32))), .unset, .unset, .unset] [(.int (x2 &&& (3 : Int32)))])) _
    refine XS.iconst X0.here hx rfl (hb hby at_26) ?_
    show Steps p.tables e below (s₁.setTop (mkF m 27 #[.val (.int x0), .val (.int x1), .val (.int x2), .val (.int ((x0 &&& (2147483647 : Int32)) % (1441 : Int32))), .val (.int ((x1 &&& (2147483647 : Int32)) % (1441 : Int32))), .val (.int (x2 &&& (3 : Int32))), .unset, .unset, .unset] [(.int (1 : Int32)), (.int (x2 &&& (3 : Int32)))])) _
    exact Steps.refl _
  have pre4 := pre0.trans st4
  by_cases hc27 : v1 = (1 : Int32)
  · have st5 : Steps p.tables e below (s₁.setTop (mkF m 27 #[.val (.int x0), .val (.int x1), .val (.int x2), .val (.int v2), .val (.int v3), .val (.int v1), .unset, .unset, .unset] [(.int (1 : Int32)), (.int v1)])) (s₁.setTop (mkF m 30 #[.val (.int x0), .val (.int x1), .val (.int x2), .val (.int v2), .val (.int v3), .val (.int v1), .unset, .unset, .unset] [])) := by
      refine XS.icmpNo X0.here hx rfl (hb hby at_27) rfl (teq hc27).2 ?_
      exact Steps.refl _
    have pre5 := pre4.trans st5
    have st6 : Steps p.tables e below (s₁.setTop (mkF m 30 #[.val (.int x0), .val (.int x1), .val (.int x2), .val (.int v2), .val (.int v3), .val (.int v1), .unset, .unset, .unset] [])) (s₁.setTop (mkF m 71 #[.val (.int x0), .val (.int x1), .val (.int x2), .val (.int v2), .val (.int v2), .val (.int v1), .unset, .unset, .unset] [])) := by
      refine XS.iloadN X0.here hx rfl (hb hby at_30) rfl ?_
      show Steps p.tables e below (s₁.setTop (mkF m 31 #[.val (.int x0), .val (.int x1), .val (.int x2), .val (.int v2), .val (.int v3), .val (.int v1), .unset, .unset, .unset] [(.int v2)])) _
      refine XS.istore X0.here hx rfl (hb hby at_31) rfl (l' := #[.val (.int x0), .val (.int x1), .val (.int x2), .val (.int v2), .val (.int v2), .val (.int v1), .unset, .unset, .unset]) rfl ?_
      show Steps p.tables e below (s₁.setTop (mkF m 33 #[.val (.int x0), .val (.int x1), .val (.int x2), .val (.int v2), .val (.int v2), .val (.int v1), .unset, .unset, .unset] [])) _
      refine XS.goto X0.here hx rfl (pc0 := 33) (pc' := 71) rfl (hb hby at_33) (by decide) (by decide) ?_
      show Steps p.tables e below (s₁.setTop (mkF m 71 #[.val (.int x0), .val (.int x1), .val (.int x2), .val (.int v2), .val (.int v2), .val (.int v1), .unset, .unset, .unset] [])) _
      exact Steps.refl _
    have pre6 := pre5.trans st6
    have hB3 : own_R v2 := own_r1 hv2
    have hB4 : own_R v2 := own_r1 hv2
    obtain ⟨T7, h7, X7, e7, E7, A7, D7, -, st7⟩ := newO X0 hx hZ hown (hw _ (List.mem_of_getElem? (i := 5) rfl)) (hw _ (List.mem_of_getElem? (i := 6) rfl)) (hw _ (List.mem_of_getElem? (i := 7) rfl)) e0 (g := (mkF m 71 #[.val (.int x0), .val (.int x1), .val (.int x2), .val (.int v2), .val (.int v2), .val (.int v1), .unset, .unset, .unset] [])) rfl (hb hby at_71) (by decide) (by decide)
    obtain ⟨b7, g7⟩ : ∃ z, z = h0.size := ⟨_, rfl⟩
    rw [← g7] at A7 D7 st7
    have pre7 : Steps p.tables e below (s₁.setTop (entryFrame m #[(.int x0), (.int x1), (.int x2)] maxLocals)) (T7.setTop (mkF m 74 #[.val (.int x0), .val (.int x1), .val (.int x2), .val (.int v2), .val (.int v2), .val (.int v1), .unset, .unset, .unset] [(.ref b7)])) := pre6.trans (st7 _ (Steps.refl _))
    have gn7 : n0 ≤ b7 := Nat.le_trans Z0 (Nat.le_of_eq g7.symm)
    have sz7 : h0.size ≤ b7 := Nat.le_trans K0.1 (Nat.le_of_eq g7.symm)
    have K7 := K0.ext E7
    have Z7 : n0 ≤ h7.size := Nat.le_trans Z0 E7.1
    have F8 : Fld Z h7 b7 "com/example/neat_careplan/neatcareplan/model/TimeOfDay" "minutes" "I" (.int (0 : Int32)) := D7 (Or.inr (hw _ (List.mem_of_getElem? (i := 20) rfl))) (ty := .int) (by decide)
    have st9 : Steps p.tables e below (T7.setTop (mkF m 74 #[.val (.int x0), .val (.int x1), .val (.int x2), .val (.int v2), .val (.int v2), .val (.int v1), .unset, .unset, .unset] [(.ref b7)])) (T7.setTop (mkF m 76 #[.val (.int x0), .val (.int x1), .val (.int x2), .val (.int v2), .val (.int v2), .val (.int v1), .unset, .unset, .unset] [(.int v2), (.ref b7), (.ref b7)])) := by
      refine XS.dup X7.here hx rfl (hb hby at_74) rfl rfl ?_
      show Steps p.tables e below (T7.setTop (mkF m 75 #[.val (.int x0), .val (.int x1), .val (.int x2), .val (.int v2), .val (.int v2), .val (.int v1), .unset, .unset, .unset] [(.ref b7), (.ref b7)])) _
      refine XS.iloadN X7.here hx rfl (hb hby at_75) rfl ?_
      show Steps p.tables e below (T7.setTop (mkF m 76 #[.val (.int x0), .val (.int x1), .val (.int x2), .val (.int v2), .val (.int v2), .val (.int v1), .unset, .unset, .unset] [(.int v2), (.ref b7), (.ref b7)])) _
      exact Steps.refl _
    have pre9 := pre7.trans st9
    obtain ⟨_, _, ⟨T10, L10, k10, n10⟩, -, X10, ⟨Lc10, hQ10, l10, y10, z10⟩, st10⟩ := X7.specialBack hx (y := (⟨"com/example/neat_careplan/neatcareplan/model/TimeOfDay", "<init>", "(I)V"⟩ : MethodName)) rfl hown (mvT hZ (hw _ (List.mem_of_getElem? (i := 8) rfl))) (mvT hZ (hw _ (List.mem_of_getElem? (i := 9) rfl))) (mvT hZ (hw _ (List.mem_of_getElem? (i := 10) rfl))) (by decide) (backOf (W := 1) (rm2 l Z a0 hw [] b7 v2 (.int (0 : Int32)) h7 n0 Z7 A7 F8 gn7 (own_p hB3).1 (own_p hB3).2) hZ (hw _ (List.mem_of_getElem? (i := 10) rfl)) (hw _ (List.mem_of_getElem? (i := 7) rfl)) (by decide) (by decide)) (g := (mkF m 76 #[.val (.int x0), .val (.int x1), .val (.int x2), .val (.int v2), .val (.int v2), .val (.int v1), .unset, .unset, .unset] [(.int v2), (.ref b7), (.ref b7)])) rfl (by rw [hml]; rfl) (Steps.refl _) (a := b7) (argsL := [(.int v2)]) (rest := [(.ref b7)]) (lenOf pd0_0 rfl) rfl (by show 2 * 0 + _ ≤ _; exact Nat.le_of_eq rfl) (hb hby at_76) (fun _ _ => ⟨rfl, e7, (by decide : 1 + 0 ≤ _), (by decide : 1 + 0 ≤ _)⟩)
    dsimp only [Pt.U, Pt.locs, Pt.cells, Pt.slots] at X10 l10 y10 z10 st10 hQ10
    subst l10 y10 z10
    obtain ⟨rfl, Nq10, Kq10, P10_0, P10_1⟩ := hQ10
    have F11 : Exa Z T10.heap b7 "com/example/neat_careplan/neatcareplan/model/TimeOfDay" := A7.keep Kq10
    have KK10 := K7.trans Kq10 (allS (Or.inr sz7) all0)
    have Z10 : n0 ≤ T10.heap.size := Nat.le_trans Z7 Kq10.1
    have N10 := Fr.app N0 Nq10
    have pre10 : Steps p.tables e below (s₁.setTop (entryFrame m #[(.int x0), (.int x1), (.int x2)] maxLocals)) (T10.setTop (mkF m 79 #[.val (.int x0), .val (.int x1), .val (.int x2), .val (.int v2), .val (.int v2), .val (.int v1), .unset, .unset, .unset] [(.ref b7)])) := pre9.trans st10
    have st13 : Steps p.tables e below (T10.setTop (mkF m 79 #[.val (.int x0), .val (.int x1), .val (.int x2), .val (.int v2), .val (.int v2), .val (.int v1), .unset, .unset, .unset] [(.ref b7)])) (T10.setTop (mkF m 81 #[.val (.int x0), .val (.int x1), .val (.int x2), .val (.int v2), .val (.int v2), .val (.int v1), .val (.ref b7), .unset, .unset] [])) := by
      refine XS.astore X10.here hx rfl (hb hby at_79) rfl rfl (l' := #[.val (.int x0), .val (.int x1), .val (.int x2), .val (.int v2), .val (.int v2), .val (.int v1), .val (.ref b7), .unset, .unset]) rfl ?_
      show Steps p.tables e below (T10.setTop (mkF m 81 #[.val (.int x0), .val (.int x1), .val (.int x2), .val (.int v2), .val (.int v2), .val (.int v1), .val (.ref b7), .unset, .unset] [])) _
      exact Steps.refl _
    have pre13 := pre10.trans st13
    obtain ⟨T14, h14, X14, e14, E14, A14, D14, -, st14⟩ := newO X10 hx hZ hown (hw _ (List.mem_of_getElem? (i := 5) rfl)) (hw _ (List.mem_of_getElem? (i := 6) rfl)) (hw _ (List.mem_of_getElem? (i := 7) rfl)) rfl (g := (mkF m 81 #[.val (.int x0), .val (.int x1), .val (.int x2), .val (.int v2), .val (.int v2), .val (.int v1), .val (.ref b7), .unset, .unset] [])) rfl (hb hby at_81) (by decide) (by decide)
    obtain ⟨b14, g14⟩ : ∃ z, z = T10.heap.size := ⟨_, rfl⟩
    rw [← g14] at A14 D14 st14
    have pre14 : Steps p.tables e below (s₁.setTop (entryFrame m #[(.int x0), (.int x1), (.int x2)] maxLocals)) (T14.setTop (mkF m 84 #[.val (.int x0), .val (.int x1), .val (.int x2), .val (.int v2), .val (.int v2), .val (.int v1), .val (.ref b7), .unset, .unset] [(.ref b14)])) := pre13.trans (st14 _ (Steps.refl _))
    have gn14 : n0 ≤ b14 := Nat.le_trans Z10 (Nat.le_of_eq g14.symm)
    have sz14 : h0.size ≤ b14 := Nat.le_trans KK10.1 (Nat.le_of_eq g14.symm)
    have neb7_b14 : b7 ≠ b14 := Nat.ne_of_lt (Nat.lt_of_lt_of_le F11.lt (Nat.le_of_eq g14.symm))
    have F15 : Exa Z h14 b7 "com/example/neat_careplan/neatcareplan/model/TimeOfDay" := F11.ext E14
    have F16 : Exa Z h14 b7 "com/example/neat_careplan/neatcareplan/model/TimeOfDay" := P10_0.ext E14
    have F17 : Fld Z h14 b7 "com/example/neat_careplan/neatcareplan/model/TimeOfDay" "minutes" "I" (.int v2) := P10_1.ext E14
    have K14 := KK10.ext E14
    have Z14 : n0 ≤ h14.size := Nat.le_trans Z10 E14.1
    have F18 : Fld Z h14 b14 "com/example/neat_careplan/neatcareplan/model/TimeOfDay" "minutes" "I" (.int (0 : Int32)) := D14 (Or.inr (hw _ (List.mem_of_getElem? (i := 20) rfl))) (ty := .int) (by decide)
    have st19 : Steps p.tables e below (T14.setTop (mkF m 84 #[.val (.int x0), .val (.int x1), .val (.int x2), .val (.int v2), .val (.int v2), .val (.int v1), .val (.ref b7), .unset, .unset] [(.ref b14)])) (T14.setTop (mkF m 87 #[.val (.int x0), .val (.int x1), .val (.int x2), .val (.int v2), .val (.int v2), .val (.int v1), .val (.ref b7), .unset, .unset] [(.int v2), (.ref b14), (.ref b14)])) := by
      refine XS.dup X14.here hx rfl (hb hby at_84) rfl rfl ?_
      show Steps p.tables e below (T14.setTop (mkF m 85 #[.val (.int x0), .val (.int x1), .val (.int x2), .val (.int v2), .val (.int v2), .val (.int v1), .val (.ref b7), .unset, .unset] [(.ref b14), (.ref b14)])) _
      refine XS.iload X14.here hx rfl (hb hby at_85) rfl ?_
      show Steps p.tables e below (T14.setTop (mkF m 87 #[.val (.int x0), .val (.int x1), .val (.int x2), .val (.int v2), .val (.int v2), .val (.int v1), .val (.ref b7), .unset, .unset] [(.int v2), (.ref b14), (.ref b14)])) _
      exact Steps.refl _
    have pre19 := pre14.trans st19
    obtain ⟨_, _, ⟨T20, L20, k20, n20⟩, -, X20, ⟨Lc20, hQ20, l20, y20, z20⟩, st20⟩ := X14.specialBack hx (y := (⟨"com/example/neat_careplan/neatcareplan/model/TimeOfDay", "<init>", "(I)V"⟩ : MethodName)) rfl hown (mvT hZ (hw _ (List.mem_of_getElem? (i := 8) rfl))) (mvT hZ (hw _ (List.mem_of_getElem? (i := 9) rfl))) (mvT hZ (hw _ (List.mem_of_getElem? (i := 10) rfl))) (by decide) (backOf (W := 1) (rm2 l Z a0 hw [] b14 v2 (.int (0 : Int32)) h14 n0 Z14 A14 F18 gn14 (own_p hB4).1 (own_p hB4).2) hZ (hw _ (List.mem_of_getElem? (i := 10) rfl)) (hw _ (List.mem_of_getElem? (i := 7) rfl)) (by decide) (by decide)) (g := (mkF m 87 #[.val (.int x0), .val (.int x1), .val (.int x2), .val (.int v2), .val (.int v2), .val (.int v1), .val (.ref b7), .unset, .unset] [(.int v2), (.ref b14), (.ref b14)])) rfl (by rw [hml]; rfl) (Steps.refl _) (a := b14) (argsL := [(.int v2)]) (rest := [(.ref b14)]) (lenOf pd0_0 rfl) rfl (by show 2 * 0 + _ ≤ _; exact Nat.le_of_eq rfl) (hb hby at_87) (fun _ _ => ⟨rfl, e14, (by decide : 2 + 0 ≤ _), (by decide : 2 + 0 ≤ _)⟩)
    dsimp only [Pt.U, Pt.locs, Pt.cells, Pt.slots] at X20 l20 y20 z20 st20 hQ20
    subst l20 y20 z20
    obtain ⟨rfl, Nq20, Kq20, P20_0, P20_1⟩ := hQ20
    have F21 : Exa Z T20.heap b7 "com/example/neat_careplan/neatcareplan/model/TimeOfDay" := F15.keep Kq20
    have F22 : Exa Z T20.heap b7 "com/example/neat_careplan/neatcareplan/model/TimeOfDay" := F16.keep Kq20
    have F23 : Fld Z T20.heap b7 "com/example/neat_careplan/neatcareplan/model/TimeOfDay" "minutes" "I" (.int v2) := F17.keep Kq20 (ninS neb7_b14 nin0)
    have F24 : Exa Z T20.heap b14 "com/example/neat_careplan/neatcareplan/model/TimeOfDay" := A14.keep Kq20
    have KK20 := K14.trans Kq20 (allS (Or.inr sz14) all0)
    have Z20 : n0 ≤ T20.heap.size := Nat.le_trans Z14 Kq20.1
    have N20 := Fr.app N10 Nq20
    have pre20 : Steps p.tables e below (s₁.setTop (entryFrame m #[(.int x0), (.int x1), (.int x2)] maxLocals)) (T20.setTop (mkF m 90 #[.val (.int x0), .val (.int x1), .val (.int x2), .val (.int v2), .val (.int v2), .val (.int v1), .val (.ref b7), .unset, .unset] [(.ref b14)])) := pre19.trans st20
    obtain ⟨v26, hv26⟩ : ∃ z : Int32, z = (if v2 < v2 then (-1 : Int32) else (if v2 < v2 then (1 : Int32) else (0 : Int32))) := ⟨_, rfl⟩
    have st27 : Steps p.tables e below (T20.setTop (mkF m 90 #[.val (.int x0), .val (.int x1), .val (.int x2), .val (.int v2), .val (.int v2), .val (.int v1), .val (.ref b7), .unset, .unset] [(.ref b14)])) (T20.setTop (mkF m 123 #[.val (.int x0), .val (.int x1), .val (.int x2), .val (.int v2), .val (.int v2), .val (.int v1), .val (.ref b7), .val (.ref b14), .val (.int v26)] [(.ref b14), (.ref b7)])) := by
      subst v26
      refine XS.astore X20.here hx rfl (hb hby at_90) rfl rfl (l' := #[.val (.int x0), .val (.int x1), .val (.int x2), .val (.int v2), .val (.int v2), .val (.int v1), .val (.ref b7), .val (.ref b14), .unset]) rfl ?_
      show Steps p.tables e below (T20.setTop (mkF m 92 #[.val (.int x0), .val (.int x1), .val (.int x2), .val (.int v2), .val (.int v2), .val (.int v1), .val (.ref b7), .val (.ref b14), .unset] [])) _
      refine XS.iloadN X20.here hx rfl (hb hby at_92) rfl ?_
      show Steps p.tables e below (T20.setTop (mkF m 93 #[.val (.int x0), .val (.int x1), .val (.int x2), .val (.int v2), .val (.int v2), .val (.int v1), .val (.ref b7), .val (.ref b14), .unset] [(.int v2)])) _
      refine XS.iload X20.here hx rfl (hb hby at_93) rfl ?_
      show Steps p.tables e below (T20.setTop (mkF m 95 #[.val (.int x0), .val (.int x1), .val (.int x2), .val (.int v2), .val (.int v2), .val (.int v1), .val (.ref b7), .val (.ref b14), .unset] [(.int v2), (.int v2)])) _
      refine Steps.trans (s₂ := T20.setTop (mkF m 119 #[.val (.int x0), .val (.int x1), .val (.int x2), .val (.int v2), .val (.int v2), .val (.int v1), .val (.ref b7), .val (.ref b14), .val (.int (if v2 < v2 then (-1 : Int32) else (if v2 < v2 then (1 : Int32) else (0 : Int32))))] [])) ?_ ?_
      · by_cases hc95 : v2 < v2
        · refine XS.icmpNo X20.here hx rfl (hb hby at_95) rfl (tlt hc95).2.1 ?_
          show Steps p.tables e below (T20.setTop (mkF m 98 #[.val (.int x0), .val (.int x1), .val (.int x2), .val (.int v2), .val (.int v2), .val (.int v1), .val (.ref b7), .val (.ref b14), .unset] [])) _
          refine XS.iconst X20.here hx rfl (hb hby at_98) ?_
          show Steps p.tables e below (T20.setTop (mkF m 99 #[.val (.int x0), .val (.int x1), .val (.int x2), .val (.int v2), .val (.int v2), .val (.int v1), .val (.ref b7), .val (.ref b14), .unset] [(.int (-1 : Int32))])) _
          refine XS.istore X20.here hx rfl (hb hby at_99) rfl (l' := #[.val (.int x0), .val (.int x1), .val (.int x2), .val (.int v2), .val (.int v2), .val (.int v1), .val (.ref b7), .val (.ref b14), .val (.int (-1 : Int32))]) rfl ?_
          show Steps p.tables e below (T20.setTop (mkF m 101 #[.val (.int x0), .val (.int x1), .val (.int x2), .val (.int v2), .val (.int v2), .val (.int v1), .val (.ref b7), .val (.ref b14), .val (.int (-1 : Int32))] [])) _
          refine XS.goto X20.here hx rfl (pc0 := 101) (pc' := 119) rfl (hb hby at_101) (by decide) (by decide) ?_
          show Steps p.tables e below (T20.setTop (mkF m 119 #[.val (.int x0), .val (.int x1), .val (.int x2), .val (.int v2), .val (.int v2), .val (.int v1), .val (.ref b7), .val (.ref b14), .val (.int (-1 : Int32))] [])) _
          try simp only [if_pos hc95]
          exact Steps.refl _
        · refine XS.icmpYes X20.here hx rfl (pc0 := 95) (pc' := 104) rfl (hb hby at_95) rfl (flt hc95).2.1 (by decide) (by decide) ?_
          show Steps p.tables e below (T20.setTop (mkF m 104 #[.val (.int x0), .val (.int x1), .val (.int x2), .val (.int v2), .val (.int v2), .val (.int v1), .val (.ref b7), .val (.ref b14), .unset] [])) _
          refine XS.iloadN X20.here hx rfl (hb hby at_104) rfl ?_
          show Steps p.tables e below (T20.setTop (mkF m 105 #[.val (.int x0), .val (.int x1), .val (.int x2), .val (.int v2), .val (.int v2), .val (.int v1), .val (.ref b7), .val (.ref b14), .unset] [(.int v2)])) _
          refine XS.iload X20.here hx rfl (hb hby at_105) rfl ?_
          show Steps p.tables e below (T20.setTop (mkF m 107 #[.val (.int x0), .val (.int x1), .val (.int x2), .val (.int v2), .val (.int v2), .val (.int v1), .val (.ref b7), .val (.ref b14), .unset] [(.int v2), (.int v2)])) _
          refine Steps.trans (s₂ := T20.setTop (mkF m 119 #[.val (.int x0), .val (.int x1), .val (.int x2), .val (.int v2), .val (.int v2), .val (.int v1), .val (.ref b7), .val (.ref b14), .val (.int (if v2 < v2 then (1 : Int32) else (0 : Int32)))] [])) ?_ ?_
          · by_cases hc107 : v2 < v2
            · refine XS.icmpNo X20.here hx rfl (hb hby at_107) rfl (tlt hc107).2.2.2 ?_
              show Steps p.tables e below (T20.setTop (mkF m 110 #[.val (.int x0), .val (.int x1), .val (.int x2), .val (.int v2), .val (.int v2), .val (.int v1), .val (.ref b7), .val (.ref b14), .unset] [])) _
              refine XS.iconst X20.here hx rfl (hb hby at_110) ?_
              show Steps p.tables e below (T20.setTop (mkF m 111 #[.val (.int x0), .val (.int x1), .val (.int x2), .val (.int v2), .val (.int v2), .val (.int v1), .val (.ref b7), .val (.ref b14), .unset] [(.int (1 : Int32))])) _
              refine XS.istore X20.here hx rfl (hb hby at_111) rfl (l' := #[.val (.int x0), .val (.int x1), .val (.int x2), .val (.int v2), .val (.int v2), .val (.int v1), .val (.ref b7), .val (.ref b14), .val (.int (1 : Int32))]) rfl ?_
              show Steps p.tables e below (T20.setTop (mkF m 113 #[.val (.int x0), .val (.int x1), .val (.int x2), .val (.int v2), .val (.int v2), .val (.int v1), .val (.ref b7), .val (.ref b14), .val (.int (1 : Int32))] [])) _
              refine XS.goto X20.here hx rfl (pc0 := 113) (pc' := 119) rfl (hb hby at_113) (by decide) (by decide) ?_
              show Steps p.tables e below (T20.setTop (mkF m 119 #[.val (.int x0), .val (.int x1), .val (.int x2), .val (.int v2), .val (.int v2), .val (.int v1), .val (.ref b7), .val (.ref b14), .val (.int (1 : Int32))] [])) _
              try simp only [if_pos hc107]
              exact Steps.refl _
            · refine XS.icmpYes X20.here hx rfl (pc0 := 107) (pc' := 116) rfl (hb hby at_107) rfl (flt hc107).2.2.2 (by decide) (by decide) ?_
              show Steps p.tables e below (T20.setTop (mkF m 116 #[.val (.int x0), .val (.int x1), .val (.int x2), .val (.int v2), .val (.int v2), .val (.int v1), .val (.ref b7), .val (.ref b14), .unset] [])) _
              refine XS.iconst X20.here hx rfl (hb hby at_116) ?_
              show Steps p.tables e below (T20.setTop (mkF m 117 #[.val (.int x0), .val (.int x1), .val (.int x2), .val (.int v2), .val (.int v2), .val (.int v1), .val (.ref b7), .val (.ref b14), .unset] [(.int (0 : Int32))])) _
              refine XS.istore X20.here hx rfl (hb hby at_117) rfl (l' := #[.val (.int x0), .val (.int x1), .val (.int x2), .val (.int v2), .val (.int v2), .val (.int v1), .val (.ref b7), .val (.ref b14), .val (.int (0 : Int32))]) rfl ?_
              show Steps p.tables e below (T20.setTop (mkF m 119 #[.val (.int x0), .val (.int x1), .val (.int x2), .val (.int v2), .val (.int v2), .val (.int v1), .val (.ref b7), .val (.ref b14), .val (.int (0 : Int32))] [])) _
              try simp only [if_neg hc107]
              exact Steps.refl _
          show Steps p.tables e below (T20.setTop (mkF m 119 #[.val (.int x0), .val (.int x1), .val (.int x2), .val (.int v2), .val (.int v2), .val (.int v1), .val (.ref b7), .val (.ref b14), .val (.int (if v2 < v2 then (1 : Int32) else (0 : Int32)))] [])) _
          try simp only [if_neg hc95]
          exact Steps.refl _
      show Steps p.tables e below (T20.setTop (mkF m 119 #[.val (.int x0), .val (.int x1), .val (.int x2), .val (.int v2), .val (.int v2), .val (.int v1), .val (.ref b7), .val (.ref b14), .val (.int (if v2 < v2 then (-1 : Int32) else (if v2 < v2 then (1 : Int32) else (0 : Int32))))] [])) _
      refine XS.aload X20.here hx rfl (hb hby at_119) rfl rfl ?_
      show Steps p.tables e below (T20.setTop (mkF m 121 #[.val (.int x0), .val (.int x1), .val (.int x2), .val (.int v2), .val (.int v2), .val (.int v1), .val (.ref b7), .val (.ref b14), .val (.int (if v2 < v2 then (-1 : Int32) else (if v2 < v2 then (1 : Int32) else (0 : Int32))))] [(.ref b7)])) _
      refine XS.aload X20.here hx rfl (hb hby at_121) rfl rfl ?_
      show Steps p.tables e below (T20.setTop (mkF m 123 #[.val (.int x0), .val (.int x1), .val (.int x2), .val (.int v2), .val (.int v2), .val (.int v1), .val (.ref b7), .val (.ref b14), .val (.int (if v2 < v2 then (-1 : Int32) else (if v2 < v2 then (1 : Int32) else (0 : Int32))))] [(.ref b14), (.ref b7)])) _
      exact Steps.refl _
    have pre27 := pre20.trans st27
    obtain ⟨cq28, kq28, q28a, q28b, q28c⟩ := isOf hZ rfl F21
    obtain ⟨_, _, ⟨T28, L28, k28, n28⟩, -, X28, ⟨Lc28, hQ28, l28, y28, z28⟩, st28⟩ := X20.virtualBack hx (y := (⟨"com/example/neat_careplan/neatcareplan/model/TimeOfDay", "compareTo", "(Lcom/example/neat_careplan/neatcareplan/model/TimeOfDay;)I"⟩ : MethodName)) (z := (⟨"com/example/neat_careplan/neatcareplan/model/TimeOfDay", "compareTo", "(Lcom/example/neat_careplan/neatcareplan/model/TimeOfDay;)I"⟩ : MethodName)) hown (mvT hZ (hw _ (List.mem_of_getElem? (i := 21) rfl))) (mvT hZ (hw _ (List.mem_of_getElem? (i := 22) rfl))) (notFace_of_selects (args := #[]) (mvT hZ (hw _ (List.mem_of_getElem? (i := 24) rfl)))) (mvT hZ (hw _ (List.mem_of_getElem? (i := 24) rfl))) (mvT hZ (hw _ (List.mem_of_getElem? (i := 23) rfl))) (by decide) (backOf (W := 0) (rm4 l Z a0 hw [] b7 b14 v2 v2 T20.heap n0 Z20 F23 P20_1) hZ (hw _ (List.mem_of_getElem? (i := 25) rfl)) (hw _ (List.mem_of_getElem? (i := 7) rfl)) (by decide) (by decide)) q28a q28c (g := (mkF m 123 #[.val (.int x0), .val (.int x1), .val (.int x2), .val (.int v2), .val (.int v2), .val (.int v1), .val (.ref b7), .val (.ref b14), .val (.int v26)] [(.ref b14), (.ref b7)])) rfl (by rw [hml]; rfl) (Steps.refl _) (argsL := [(.ref b14)]) (rest := []) (lenOf pd0_1 rfl) rfl (by show 2 * 0 + _ ≤ _; exact Nat.le_of_eq rfl) (hb hby at_123) (fun _ _ => ⟨rfl, rfl, (by decide : 2 + 0 ≤ _), (by decide : 2 + 0 ≤ _)⟩)
    dsimp only [Pt.U, Pt.locs, Pt.cells, Pt.slots] at X28 l28 y28 z28 st28 hQ28
    subst l28 y28 z28
    obtain ⟨rfl, Nq28, e28⟩ := hQ28
    have N28 := Fr.app N20 Nq28
    have pre28 : Steps p.tables e below (s₁.setTop (entryFrame m #[(.int x0), (.int x1), (.int x2)] maxLocals)) (T28.setTop (mkF m 126 #[.val (.int x0), .val (.int x1), .val (.int x2), .val (.int v2), .val (.int v2), .val (.int v1), .val (.ref b7), .val (.ref b14), .val (.int v26)] [(.int (own_F4 b7 b14 v2 v2))])) := pre27.trans st28
    obtain ⟨_, _, ⟨T29, L29, k29, n29⟩, -, X29, ⟨Lc29, hQ29, l29, y29, z29⟩, st29⟩ := Jvm.LawKit.callS X28 hx (y := (⟨"com/example/neat_careplan/neatcareplan/model/TimeOfDayCompareToPinLaw", "sign", "(I)I"⟩ : MethodName)) hown (mvT hZ (hw _ (List.mem_of_getElem? (i := 30) rfl))) (mvT hZ (hw _ (List.mem_of_getElem? (i := 31) rfl))) (mvT hZ (hw _ (List.mem_of_getElem? (i := 32) rfl))) (mvT hZ (hw _ (List.mem_of_getElem? (i := 33) rfl))) (by decide) (backOf (W := 0) (rm5 l Z a0 hw [] (own_F4 b7 b14 v2 v2) T20.heap n0 Z20) hZ (hw _ (List.mem_of_getElem? (i := 33) rfl)) (hw _ (List.mem_of_getElem? (i := 32) rfl)) (by decide) (by decide)) (g := (mkF m 126 #[.val (.int x0), .val (.int x1), .val (.int x2), .val (.int v2), .val (.int v2), .val (.int v1), .val (.ref b7), .val (.ref b14), .val (.int v26)] [(.int (own_F4 b7 b14 v2 v2))])) rfl (by rw [hml]; rfl) (argsL := [(.int (own_F4 b7 b14 v2 v2))]) (rest := []) (lenOf pd0_2 rfl) rfl (by show 2 * 0 + _ ≤ _; exact Nat.le_of_eq rfl) (hb hby at_126) (fun _ _ => ⟨rfl, e28, (by decide : 2 + 0 ≤ _), (by decide : 2 + 0 ≤ _)⟩)
    dsimp only [Pt.U, Pt.locs, Pt.cells, Pt.slots] at X29 l29 y29 z29 st29 hQ29
    subst l29 y29 z29
    obtain ⟨rfl, Nq29, e29⟩ := hQ29
    have N29 := Fr.app N28 Nq29
    have pre29 : Steps p.tables e below (s₁.setTop (entryFrame m #[(.int x0), (.int x1), (.int x2)] maxLocals)) (T29.setTop (mkF m 129 #[.val (.int x0), .val (.int x1), .val (.int x2), .val (.int v2), .val (.int v2), .val (.int v1), .val (.ref b7), .val (.ref b14), .val (.int v26)] [(.int (own_F5 (own_F4 b7 b14 v2 v2)))])) := pre28.trans (st29 _ (Steps.refl _))
    obtain ⟨v30, hv30⟩ : ∃ z : Int32, z = (own_F5 (own_F4 b7 b14 v2 v2)) := ⟨_, rfl⟩
    have st31 : Steps p.tables e below (T29.setTop (mkF m 129 #[.val (.int x0), .val (.int x1), .val (.int x2), .val (.int v2), .val (.int v2), .val (.int v1), .val (.ref b7), .val (.ref b14), .val (.int v26)] [(.int (own_F5 (own_F4 b7 b14 v2 v2)))])) (T29.setTop (mkF m 131 #[.val (.int x0), .val (.int x1), .val (.int x2), .val (.int v2), .val (.int v2), .val (.int v1), .val (.ref b7), .val (.ref b14), .val (.int v26)] [(.int v26), (.int v30)])) := by
      subst v30
      refine XS.iload X29.here hx rfl (hb hby at_129) rfl ?_
      show Steps p.tables e below (T29.setTop (mkF m 131 #[.val (.int x0), .val (.int x1), .val (.int x2), .val (.int v2), .val (.int v2), .val (.int v1), .val (.ref b7), .val (.ref b14), .val (.int v26)] [(.int v26), (.int (own_F5 (own_F4 b7 b14 v2 v2)))])) _
      exact Steps.refl _
    have pre31 := pre29.trans st31
    have hc131 : v30 = v26 := by
      rw [hv30, hv26]
      exact (own_dec _ _ _ _).1
    have st32 : Steps p.tables e below (T29.setTop (mkF m 131 #[.val (.int x0), .val (.int x1), .val (.int x2), .val (.int v2), .val (.int v2), .val (.int v1), .val (.ref b7), .val (.ref b14), .val (.int v26)] [(.int v26), (.int v30)])) (T29.setTop (mkF m 134 #[.val (.int x0), .val (.int x1), .val (.int x2), .val (.int v2), .val (.int v2), .val (.int v1), .val (.ref b7), .val (.ref b14), .val (.int v26)] [])) := by
      refine XS.icmpNo X29.here hx rfl (hb hby at_131) rfl (teq hc131).2 ?_
      exact Steps.refl _
    have pre32 := pre31.trans st32
    have st33 : Steps p.tables e below (T29.setTop (mkF m 134 #[.val (.int x0), .val (.int x1), .val (.int x2), .val (.int v2), .val (.int v2), .val (.int v1), .val (.ref b7), .val (.ref b14), .val (.int v26)] [])) (T29.setTop (mkF m 138 #[.val (.int x0), .val (.int x1), .val (.int x2), .val (.int v2), .val (.int v2), .val (.int v1), .val (.ref b7), .val (.ref b14), .val (.int v26)] [(.ref b7), (.ref b14)])) := by
      refine XS.aload X29.here hx rfl (hb hby at_134) rfl rfl ?_
      show Steps p.tables e below (T29.setTop (mkF m 136 #[.val (.int x0), .val (.int x1), .val (.int x2), .val (.int v2), .val (.int v2), .val (.int v1), .val (.ref b7), .val (.ref b14), .val (.int v26)] [(.ref b14)])) _
      refine XS.aload X29.here hx rfl (hb hby at_136) rfl rfl ?_
      show Steps p.tables e below (T29.setTop (mkF m 138 #[.val (.int x0), .val (.int x1), .val (.int x2), .val (.int v2), .val (.int v2), .val (.int v1), .val (.ref b7), .val (.ref b14), .val (.int v26)] [(.ref b7), (.ref b14)])) _
      exact Steps.refl _
    have pre33 := pre32.trans st33
    obtain ⟨cq34, kq34, q34a, q34b, q34c⟩ := isOf hZ e29 F24
    obtain ⟨_, _, ⟨T34, L34, k34, n34⟩, -, X34, ⟨Lc34, hQ34, l34, y34, z34⟩, st34⟩ := X29.virtualBack hx (y := (⟨"com/example/neat_careplan/neatcareplan/model/TimeOfDay", "compareTo", "(Lcom/example/neat_careplan/neatcareplan/model/TimeOfDay;)I"⟩ : MethodName)) (z := (⟨"com/example/neat_careplan/neatcareplan/model/TimeOfDay", "compareTo", "(Lcom/example/neat_careplan/neatcareplan/model/TimeOfDay;)I"⟩ : MethodName)) hown (mvT hZ (hw _ (List.mem_of_getElem? (i := 21) rfl))) (mvT hZ (hw _ (List.mem_of_getElem? (i := 22) rfl))) (notFace_of_selects (args := #[]) (mvT hZ (hw _ (List.mem_of_getElem? (i := 24) rfl)))) (mvT hZ (hw _ (List.mem_of_getElem? (i := 24) rfl))) (mvT hZ (hw _ (List.mem_of_getElem? (i := 23) rfl))) (by decide) (backOf (W := 0) (rm4 l Z a0 hw [] b14 b7 v2 v2 T20.heap n0 Z20 P20_1 F23) hZ (hw _ (List.mem_of_getElem? (i := 25) rfl)) (hw _ (List.mem_of_getElem? (i := 7) rfl)) (by decide) (by decide)) q34a q34c (g := (mkF m 138 #[.val (.int x0), .val (.int x1), .val (.int x2), .val (.int v2), .val (.int v2), .val (.int v1), .val (.ref b7), .val (.ref b14), .val (.int v26)] [(.ref b7), (.ref b14)])) rfl (by rw [hml]; rfl) (Steps.refl _) (argsL := [(.ref b7)]) (rest := []) (lenOf pd0_1 rfl) rfl (by show 2 * 0 + _ ≤ _; exact Nat.le_of_eq rfl) (hb hby at_138) (fun _ _ => ⟨rfl, e29, (by decide : 2 + 0 ≤ _), (by decide : 2 + 0 ≤ _)⟩)
    dsimp only [Pt.U, Pt.locs, Pt.cells, Pt.slots] at X34 l34 y34 z34 st34 hQ34
    subst l34 y34 z34
    obtain ⟨rfl, Nq34, e34⟩ := hQ34
    have N34 := Fr.app N29 Nq34
    have pre34 : Steps p.tables e below (s₁.setTop (entryFrame m #[(.int x0), (.int x1), (.int x2)] maxLocals)) (T34.setTop (mkF m 141 #[.val (.int x0), .val (.int x1), .val (.int x2), .val (.int v2), .val (.int v2), .val (.int v1), .val (.ref b7), .val (.ref b14), .val (.int v26)] [(.int (own_F4 b14 b7 v2 v2))])) := pre33.trans st34
    obtain ⟨_, _, ⟨T35, L35, k35, n35⟩, -, X35, ⟨Lc35, hQ35, l35, y35, z35⟩, st35⟩ := Jvm.LawKit.callS X34 hx (y := (⟨"com/example/neat_careplan/neatcareplan/model/TimeOfDayCompareToPinLaw", "sign", "(I)I"⟩ : MethodName)) hown (mvT hZ (hw _ (List.mem_of_getElem? (i := 30) rfl))) (mvT hZ (hw _ (List.mem_of_getElem? (i := 31) rfl))) (mvT hZ (hw _ (List.mem_of_getElem? (i := 32) rfl))) (mvT hZ (hw _ (List.mem_of_getElem? (i := 33) rfl))) (by decide) (backOf (W := 0) (rm5 l Z a0 hw [] (own_F4 b14 b7 v2 v2) T20.heap n0 Z20) hZ (hw _ (List.mem_of_getElem? (i := 33) rfl)) (hw _ (List.mem_of_getElem? (i := 32) rfl)) (by decide) (by decide)) (g := (mkF m 141 #[.val (.int x0), .val (.int x1), .val (.int x2), .val (.int v2), .val (.int v2), .val (.int v1), .val (.ref b7), .val (.ref b14), .val (.int v26)] [(.int (own_F4 b14 b7 v2 v2))])) rfl (by rw [hml]; rfl) (argsL := [(.int (own_F4 b14 b7 v2 v2))]) (rest := []) (lenOf pd0_2 rfl) rfl (by show 2 * 0 + _ ≤ _; exact Nat.le_of_eq rfl) (hb hby at_141) (fun _ _ => ⟨rfl, e34, (by decide : 2 + 0 ≤ _), (by decide : 2 + 0 ≤ _)⟩)
    dsimp only [Pt.U, Pt.locs, Pt.cells, Pt.slots] at X35 l35 y35 z35 st35 hQ35
    subst l35 y35 z35
    obtain ⟨rfl, Nq35, e35⟩ := hQ35
    have N35 := Fr.app N34 Nq35
    have pre35 : Steps p.tables e below (s₁.setTop (entryFrame m #[(.int x0), (.int x1), (.int x2)] maxLocals)) (T35.setTop (mkF m 144 #[.val (.int x0), .val (.int x1), .val (.int x2), .val (.int v2), .val (.int v2), .val (.int v1), .val (.ref b7), .val (.ref b14), .val (.int v26)] [(.int (own_F5 (own_F4 b14 b7 v2 v2)))])) := pre34.trans (st35 _ (Steps.refl _))
    obtain ⟨v36, hv36⟩ : ∃ z : Int32, z = (-v26) := ⟨_, rfl⟩
    obtain ⟨v37, hv37⟩ : ∃ z : Int32, z = (own_F5 (own_F4 b14 b7 v2 v2)) := ⟨_, rfl⟩
    have st38 : Steps p.tables e below (T35.setTop (mkF m 144 #[.val (.int x0), .val (.int x1), .val (.int x2), .val (.int v2), .val (.int v2), .val (.int v1), .val (.ref b7), .val (.ref b14), .val (.int v26)] [(.int (own_F5 (own_F4 b14 b7 v2 v2)))])) (T35.setTop (mkF m 147 #[.val (.int x0), .val (.int x1), .val (.int x2), .val (.int v2), .val (.int v2), .val (.int v1), .val (.ref b7), .val (.ref b14), .val (.int v26)] [(.int v36), (.int v37)])) := by
      subst v37 v36
      refine XS.iload X35.here hx rfl (hb hby at_144) rfl ?_
      show Steps p.tables e below (T35.setTop (mkF m 146 #[.val (.int x0), .val (.int x1), .val (.int x2), .val (.int v2), .val (.int v2), .val (.int v1), .val (.ref b7), .val (.ref b14), .val (.int v26)] [(.int v26), (.int (own_F5 (own_F4 b14 b7 v2 v2)))])) _
      refine XS.ineg X35.here hx rfl (hb hby at_146) rfl ?_
      show Steps p.tables e below (T35.setTop (mkF m 147 #[.val (.int x0), .val (.int x1), .val (.int x2), .val (.int v2), .val (.int v2), .val (.int v1), .val (.ref b7), .val (.ref b14), .val (.int v26)] [(.int (-v26)), (.int (own_F5 (own_F4 b14 b7 v2 v2)))])) _
      exact Steps.refl _
    have pre38 := pre35.trans st38
    have hc147 : v37 = v36 := by
      rw [hv37, hv36]
      rw [hv26]
      exact (own_dec _ _ _ _).2
    have st39 : Steps p.tables e below (T35.setTop (mkF m 147 #[.val (.int x0), .val (.int x1), .val (.int x2), .val (.int v2), .val (.int v2), .val (.int v1), .val (.ref b7), .val (.ref b14), .val (.int v26)] [(.int v36), (.int v37)])) (T35.setTop (mkF m 150 #[.val (.int x0), .val (.int x1), .val (.int x2), .val (.int v2), .val (.int v2), .val (.int v1), .val (.ref b7), .val (.ref b14), .val (.int v26)] [])) := by
      refine XS.icmpNo X35.here hx rfl (hb hby at_147) rfl (teq hc147).2 ?_
      exact Steps.refl _
    have pre39 := pre38.trans st39
    have st40 : Steps p.tables e below (T35.setTop (mkF m 150 #[.val (.int x0), .val (.int x1), .val (.int x2), .val (.int v2), .val (.int v2), .val (.int v1), .val (.ref b7), .val (.ref b14), .val (.int v26)] [])) (T35.setTop (mkF m 155 #[.val (.int x0), .val (.int x1), .val (.int x2), .val (.int v2), .val (.int v2), .val (.int v1), .val (.ref b7), .val (.ref b14), .val (.int v26)] [(.int (1 : Int32))])) := by
      refine XS.iconst X35.here hx rfl (hb hby at_150) ?_
      show Steps p.tables e below (T35.setTop (mkF m 151 #[.val (.int x0), .val (.int x1), .val (.int x2), .val (.int v2), .val (.int v2), .val (.int v1), .val (.ref b7), .val (.ref b14), .val (.int v26)] [(.int (1 : Int32))])) _
      refine XS.goto X35.here hx rfl (pc0 := 151) (pc' := 155) rfl (hb hby at_151) (by decide) (by decide) ?_
      show Steps p.tables e below (T35.setTop (mkF m 155 #[.val (.int x0), .val (.int x1), .val (.int x2), .val (.int v2), .val (.int v2), .val (.int v1), .val (.ref b7), .val (.ref b14), .val (.int v26)] [(.int (1 : Int32))])) _
      exact Steps.refl _
    have pre40 := pre39.trans st40
    obtain ⟨fs, hr, hrun, hended, hW, hsame⟩ := X35.leave (v := some (.int (1 : Int32))) (fun h => by rw [Bd.returns] at h; cases h)
    refine ⟨_, _, pre40.trans ?_, hrun, hended, _, _, rfl, ?_, ⟨_, rfl⟩, hW, hsame.mono (by decide) (by decide)⟩
    · show Steps p.tables e below (T35.setTop (mkF m 155 #[.val (.int x0), .val (.int x1), .val (.int x2), .val (.int v2), .val (.int v2), .val (.int v1), .val (.ref b7), .val (.ref b14), .val (.int v26)] [(.int (1 : Int32))])) _
      exact retN X35 hx (t := .boolean) Bd.returns (by simp) (hb hby at_155) hr
    · show Q0 Z x0 x1 x2 h0 n0 _ T35.heap _
      rw [e35]
      exact ⟨rfl, N35⟩
  · have st41 : Steps p.tables e below (s₁.setTop (mkF m 27 #[.val (.int x0), .val (.int x1), .val (.int x2), .val (.int v2), .val (.int v3), .val (.int v1), .unset, .unset, .unset] [(.int (1 : Int32)), (.int v1)])) (s₁.setTop (mkF m 36 #[.val (.int x0), .val (.int x1), .val (.int x2), .val (.int v2), .val (.int v3), .val (.int v1), .unset, .unset, .unset] [])) := by
      refine XS.icmpYes X0.here hx rfl (pc0 := 27) (pc' := 36) rfl (hb hby at_27) rfl (feq hc27).2 (by decide) (by decide) ?_
      exact Steps.refl _
    have pre41 := pre4.trans st41
    have st42 : Steps p.tables e below (s₁.setTop (mkF m 36 #[.val (.int x0), .val (.int x1), .val (.int x2), .val (.int v2), .val (.int v3), .val (.int v1), .unset, .unset, .unset] [])) (s₁.setTop (mkF m 39 #[.val (.int x0), .val (.int x1), .val (.int x2), .val (.int v2), .val (.int v3), .val (.int v1), .unset, .unset, .unset] [(.int (2 : Int32)), (.int v1)])) := by
      refine XS.iload X0.here hx rfl (hb hby at_36) rfl ?_
      show Steps p.tables e below (s₁.setTop (mkF m 38 #[.val (.int x0), .val (.int x1), .val (.int x2), .val (.int v2), .val (.int v3), .val (.int v1), .unset, .unset, .unset] [(.int v1)])) _
      refine XS.iconst X0.here hx rfl (hb hby at_38) ?_
      show Steps p.tables e below (s₁.setTop (mkF m 39 #[.val (.int x0), .val (.int x1), .val (.int x2), .val (.int v2), .val (.int v3), .val (.int v1), .unset, .unset, .unset] [(.int (2 : Int32)), (.int v1)])) _
      exact Steps.refl _
    have pre42 := pre41.trans st42
    by_cases hc39 : v1 = (2 : Int32)
    · have st43 : Steps p.tables e below (s₁.setTop (mkF m 39 #[.val (.int x0), .val (.int x1), .val (.int x2), .val (.int v2), .val (.int v3), .val (.int v1), .unset, .unset, .unset] [(.int (2 : Int32)), (.int v1)])) (s₁.setTop (mkF m 42 #[.val (.int x0), .val (.int x1), .val (.int x2), .val (.int v2), .val (.int v3), .val (.int v1), .unset, .unset, .unset] [])) := by
        refine XS.icmpNo X0.here hx rfl (hb hby at_39) rfl (teq hc39).2 ?_
        exact Steps.refl _
      have pre43 := pre42.trans st43
      obtain ⟨v44, hv44⟩ : ∃ z : Int32, z = (v2 + (1 : Int32)) := ⟨_, rfl⟩
      have st45 : Steps p.tables e below (s₁.setTop (mkF m 42 #[.val (.int x0), .val (.int x1), .val (.int x2), .val (.int v2), .val (.int v3), .val (.int v1), .unset, .unset, .unset] [])) (s₁.setTop (mkF m 48 #[.val (.int x0), .val (.int x1), .val (.int x2), .val (.int v2), .val (.int v3), .val (.int v1), .unset, .unset, .unset] [(.int (1440 : Int32)), (.int v44)])) := by
        subst v44
        refine XS.iloadN X0.here hx rfl (hb hby at_42) rfl ?_
        show Steps p.tables e below (s₁.setTop (mkF m 43 #[.val (.int x0), .val (.int x1), .val (.int x2), .val (.int v2), .val (.int v3), .val (.int v1), .unset, .unset, .unset] [(.int v2)])) _
        refine XS.iconst X0.here hx rfl (hb hby at_43) ?_
        show Steps p.tables e below (s₁.setTop (mkF m 44 #[.val (.int x0), .val (.int x1), .val (.int x2), .val (.int v2), .val (.int v3), .val (.int v1), .unset, .unset, .unset] [(.int (1 : Int32)), (.int v2)])) _
        refine XS.iadd X0.here hx rfl (hb hby at_44) rfl ?_
        show Steps p.tables e below (s₁.setTop (mkF m 45 #[.val (.int x0), .val (.int x1), .val (.int x2), .val (.int v2), .val (.int v3), .val (.int v1), .unset, .unset, .unset] [(.int (v2 + (1 : Int32)))])) _
        refine XS.sipush X0.here hx rfl (hb hby at_45) ?_
        show Steps p.tables e below (s₁.setTop (mkF m 48 #[.val (.int x0), .val (.int x1), .val (.int x2), .val (.int v2), .val (.int v3), .val (.int v1), .unset, .unset, .unset] [(.int (1440 : Int32)), (.int (v2 + (1 : Int32)))])) _
        exact Steps.refl _
      have pre45 := pre43.trans st45
      obtain ⟨_, _, ⟨T46, L46, k46, n46⟩, -, X46, ⟨Lc46, hQ46, l46, y46, z46⟩, st46⟩ := Jvm.LawKit.callS X0 hx (y := (⟨"java/lang/Math", "min", "(II)I"⟩ : MethodName)) hown (mvT hZ (hw _ (List.mem_of_getElem? (i := 1) rfl))) (mvT hZ (hw _ (List.mem_of_getElem? (i := 2) rfl))) (mvT hZ (hw _ (List.mem_of_getElem? (i := 3) rfl))) (mvT hZ (hw _ (List.mem_of_getElem? (i := 4) rfl))) (by decide) (backOf (W := 0) (rm6 l Z a0 hw [] v44 (1440 : Int32) h0 n0 Z0) hZ (hw _ (List.mem_of_getElem? (i := 4) rfl)) (hw _ (List.mem_of_getElem? (i := 3) rfl)) (by decide) (by decide)) (g := (mkF m 48 #[.val (.int x0), .val (.int x1), .val (.int x2), .val (.int v2), .val (.int v3), .val (.int v1), .unset, .unset, .unset] [(.int (1440 : Int32)), (.int v44)])) rfl (by rw [hml]; rfl) (argsL := [(.int v44), (.int (1440 : Int32))]) (rest := []) (lenOf pd0_3 rfl) rfl (by show 2 * 0 + _ ≤ _; exact Nat.le_of_eq rfl) (hb hby at_48) (fun _ _ => ⟨rfl, e0, (by decide : 0 + 0 ≤ _), (by decide : 0 + 0 ≤ _)⟩)
      dsimp only [Pt.U, Pt.locs, Pt.cells, Pt.slots] at X46 l46 y46 z46 st46 hQ46
      subst l46 y46 z46
      obtain ⟨rfl, Nq46, e46⟩ := hQ46
      have N46 := Fr.app N0 Nq46
      have pre46 : Steps p.tables e below (s₁.setTop (entryFrame m #[(.int x0), (.int x1), (.int x2)] maxLocals)) (T46.setTop (mkF m 51 #[.val (.int x0), .val (.int x1), .val (.int x2), .val (.int v2), .val (.int v3), .val (.int v1), .unset, .unset, .unset] [(.int (own_F6 v44 (1440 : Int32)))])) := pre45.trans (st46 _ (Steps.refl _))
      obtain ⟨v47, hv47⟩ : ∃ z : Int32, z = (own_F6 v44 (1440 : Int32)) := ⟨_, rfl⟩
      have st48 : Steps p.tables e below (T46.setTop (mkF m 51 #[.val (.int x0), .val (.int x1), .val (.int x2), .val (.int v2), .val (.int v3), .val (.int v1), .unset, .unset, .unset] [(.int (own_F6 v44 (1440 : Int32)))])) (T46.setTop (mkF m 71 #[.val (.int x0), .val (.int x1), .val (.int x2), .val (.int v2), .val (.int v47), .val (.int v1), .unset, .unset, .unset] [])) := by
        subst v47
        refine XS.istore X46.here hx rfl (hb hby at_51) rfl (l' := #[.val (.int x0), .val (.int x1), .val (.int x2), .val (.int v2), .val (.int (own_F6 v44 (1440 : Int32))), .val (.int v1), .unset, .unset, .unset]) rfl ?_
        show Steps p.tables e below (T46.setTop (mkF m 53 #[.val (.int x0), .val (.int x1), .val (.int x2), .val (.int v2), .val (.int (own_F6 v44 (1440 : Int32))), .val (.int v1), .unset, .unset, .unset] [])) _
        refine XS.goto X46.here hx rfl (pc0 := 53) (pc' := 71) rfl (hb hby at_53) (by decide) (by decide) ?_
        show Steps p.tables e below (T46.setTop (mkF m 71 #[.val (.int x0), .val (.int x1), .val (.int x2), .val (.int v2), .val (.int (own_F6 v44 (1440 : Int32))), .val (.int v1), .unset, .unset, .unset] [])) _
        exact Steps.refl _
      have pre48 := pre46.trans st48
      have hB3 : own_R v2 := own_r1 hv2
      have hB4 : own_R v47 := own_r2 hB3 hv44 hv47
      obtain ⟨T49, h49, X49, e49, E49, A49, D49, -, st49⟩ := newO X46 hx hZ hown (hw _ (List.mem_of_getElem? (i := 5) rfl)) (hw _ (List.mem_of_getElem? (i := 6) rfl)) (hw _ (List.mem_of_getElem? (i := 7) rfl)) e46 (g := (mkF m 71 #[.val (.int x0), .val (.int x1), .val (.int x2), .val (.int v2), .val (.int v47), .val (.int v1), .unset, .unset, .unset] [])) rfl (hb hby at_71) (by decide) (by decide)
      obtain ⟨b49, g49⟩ : ∃ z, z = h0.size := ⟨_, rfl⟩
      rw [← g49] at A49 D49 st49
      have pre49 : Steps p.tables e below (s₁.setTop (entryFrame m #[(.int x0), (.int x1), (.int x2)] maxLocals)) (T49.setTop (mkF m 74 #[.val (.int x0), .val (.int x1), .val (.int x2), .val (.int v2), .val (.int v47), .val (.int v1), .unset, .unset, .unset] [(.ref b49)])) := pre48.trans (st49 _ (Steps.refl _))
      have gn49 : n0 ≤ b49 := Nat.le_trans Z0 (Nat.le_of_eq g49.symm)
      have sz49 : h0.size ≤ b49 := Nat.le_trans K0.1 (Nat.le_of_eq g49.symm)
      have K49 := K0.ext E49
      have Z49 : n0 ≤ h49.size := Nat.le_trans Z0 E49.1
      have F50 : Fld Z h49 b49 "com/example/neat_careplan/neatcareplan/model/TimeOfDay" "minutes" "I" (.int (0 : Int32)) := D49 (Or.inr (hw _ (List.mem_of_getElem? (i := 20) rfl))) (ty := .int) (by decide)
      have st51 : Steps p.tables e below (T49.setTop (mkF m 74 #[.val (.int x0), .val (.int x1), .val (.int x2), .val (.int v2), .val (.int v47), .val (.int v1), .unset, .unset, .unset] [(.ref b49)])) (T49.setTop (mkF m 76 #[.val (.int x0), .val (.int x1), .val (.int x2), .val (.int v2), .val (.int v47), .val (.int v1), .unset, .unset, .unset] [(.int v2), (.ref b49), (.ref b49)])) := by
        refine XS.dup X49.here hx rfl (hb hby at_74) rfl rfl ?_
        show Steps p.tables e below (T49.setTop (mkF m 75 #[.val (.int x0), .val (.int x1), .val (.int x2), .val (.int v2), .val (.int v47), .val (.int v1), .unset, .unset, .unset] [(.ref b49), (.ref b49)])) _
        refine XS.iloadN X49.here hx rfl (hb hby at_75) rfl ?_
        show Steps p.tables e below (T49.setTop (mkF m 76 #[.val (.int x0), .val (.int x1), .val (.int x2), .val (.int v2), .val (.int v47), .val (.int v1), .unset, .unset, .unset] [(.int v2), (.ref b49), (.ref b49)])) _
        exact Steps.refl _
      have pre51 := pre49.trans st51
      obtain ⟨_, _, ⟨T52, L52, k52, n52⟩, -, X52, ⟨Lc52, hQ52, l52, y52, z52⟩, st52⟩ := X49.specialBack hx (y := (⟨"com/example/neat_careplan/neatcareplan/model/TimeOfDay", "<init>", "(I)V"⟩ : MethodName)) rfl hown (mvT hZ (hw _ (List.mem_of_getElem? (i := 8) rfl))) (mvT hZ (hw _ (List.mem_of_getElem? (i := 9) rfl))) (mvT hZ (hw _ (List.mem_of_getElem? (i := 10) rfl))) (by decide) (backOf (W := 1) (rm2 l Z a0 hw [] b49 v2 (.int (0 : Int32)) h49 n0 Z49 A49 F50 gn49 (own_p hB3).1 (own_p hB3).2) hZ (hw _ (List.mem_of_getElem? (i := 10) rfl)) (hw _ (List.mem_of_getElem? (i := 7) rfl)) (by decide) (by decide)) (g := (mkF m 76 #[.val (.int x0), .val (.int x1), .val (.int x2), .val (.int v2), .val (.int v47), .val (.int v1), .unset, .unset, .unset] [(.int v2), (.ref b49), (.ref b49)])) rfl (by rw [hml]; rfl) (Steps.refl _) (a := b49) (argsL := [(.int v2)]) (rest := [(.ref b49)]) (lenOf pd0_0 rfl) rfl (by show 2 * 0 + _ ≤ _; exact Nat.le_of_eq rfl) (hb hby at_76) (fun _ _ => ⟨rfl, e49, (by decide : 1 + 0 ≤ _), (by decide : 1 + 0 ≤ _)⟩)
      dsimp only [Pt.U, Pt.locs, Pt.cells, Pt.slots] at X52 l52 y52 z52 st52 hQ52
      subst l52 y52 z52
      obtain ⟨rfl, Nq52, Kq52, P52_0, P52_1⟩ := hQ52
      have F53 : Exa Z T52.heap b49 "com/example/neat_careplan/neatcareplan/model/TimeOfDay" := A49.keep Kq52
      have KK52 := K49.trans Kq52 (allS (Or.inr sz49) all0)
      have Z52 : n0 ≤ T52.heap.size := Nat.le_trans Z49 Kq52.1
      have N52 := Fr.app N46 Nq52
      have pre52 : Steps p.tables e below (s₁.setTop (entryFrame m #[(.int x0), (.int x1), (.int x2)] maxLocals)) (T52.setTop (mkF m 79 #[.val (.int x0), .val (.int x1), .val (.int x2), .val (.int v2), .val (.int v47), .val (.int v1), .unset, .unset, .unset] [(.ref b49)])) := pre51.trans st52
      have st55 : Steps p.tables e below (T52.setTop (mkF m 79 #[.val (.int x0), .val (.int x1), .val (.int x2), .val (.int v2), .val (.int v47), .val (.int v1), .unset, .unset, .unset] [(.ref b49)])) (T52.setTop (mkF m 81 #[.val (.int x0), .val (.int x1), .val (.int x2), .val (.int v2), .val (.int v47), .val (.int v1), .val (.ref b49), .unset, .unset] [])) := by
        refine XS.astore X52.here hx rfl (hb hby at_79) rfl rfl (l' := #[.val (.int x0), .val (.int x1), .val (.int x2), .val (.int v2), .val (.int v47), .val (.int v1), .val (.ref b49), .unset, .unset]) rfl ?_
        show Steps p.tables e below (T52.setTop (mkF m 81 #[.val (.int x0), .val (.int x1), .val (.int x2), .val (.int v2), .val (.int v47), .val (.int v1), .val (.ref b49), .unset, .unset] [])) _
        exact Steps.refl _
      have pre55 := pre52.trans st55
      obtain ⟨T56, h56, X56, e56, E56, A56, D56, -, st56⟩ := newO X52 hx hZ hown (hw _ (List.mem_of_getElem? (i := 5) rfl)) (hw _ (List.mem_of_getElem? (i := 6) rfl)) (hw _ (List.mem_of_getElem? (i := 7) rfl)) rfl (g := (mkF m 81 #[.val (.int x0), .val (.int x1), .val (.int x2), .val (.int v2), .val (.int v47), .val (.int v1), .val (.ref b49), .unset, .unset] [])) rfl (hb hby at_81) (by decide) (by decide)
      obtain ⟨b56, g56⟩ : ∃ z, z = T52.heap.size := ⟨_, rfl⟩
      rw [← g56] at A56 D56 st56
      have pre56 : Steps p.tables e below (s₁.setTop (entryFrame m #[(.int x0), (.int x1), (.int x2)] maxLocals)) (T56.setTop (mkF m 84 #[.val (.int x0), .val (.int x1), .val (.int x2), .val (.int v2), .val (.int v47), .val (.int v1), .val (.ref b49), .unset, .unset] [(.ref b56)])) := pre55.trans (st56 _ (Steps.refl _))
      have gn56 : n0 ≤ b56 := Nat.le_trans Z52 (Nat.le_of_eq g56.symm)
      have sz56 : h0.size ≤ b56 := Nat.le_trans KK52.1 (Nat.le_of_eq g56.symm)
      have neb49_b56 : b49 ≠ b56 := Nat.ne_of_lt (Nat.lt_of_lt_of_le F53.lt (Nat.le_of_eq g56.symm))
      have F57 : Exa Z h56 b49 "com/example/neat_careplan/neatcareplan/model/TimeOfDay" := F53.ext E56
      have F58 : Exa Z h56 b49 "com/example/neat_careplan/neatcareplan/model/TimeOfDay" := P52_0.ext E56
      have F59 : Fld Z h56 b49 "com/example/neat_careplan/neatcareplan/model/TimeOfDay" "minutes" "I" (.int v2) := P52_1.ext E56
      have K56 := KK52.ext E56
      have Z56 : n0 ≤ h56.size := Nat.le_trans Z52 E56.1
      have F60 : Fld Z h56 b56 "com/example/neat_careplan/neatcareplan/model/TimeOfDay" "minutes" "I" (.int (0 : Int32)) := D56 (Or.inr (hw _ (List.mem_of_getElem? (i := 20) rfl))) (ty := .int) (by decide)
      have st61 : Steps p.tables e below (T56.setTop (mkF m 84 #[.val (.int x0), .val (.int x1), .val (.int x2), .val (.int v2), .val (.int v47), .val (.int v1), .val (.ref b49), .unset, .unset] [(.ref b56)])) (T56.setTop (mkF m 87 #[.val (.int x0), .val (.int x1), .val (.int x2), .val (.int v2), .val (.int v47), .val (.int v1), .val (.ref b49), .unset, .unset] [(.int v47), (.ref b56), (.ref b56)])) := by
        refine XS.dup X56.here hx rfl (hb hby at_84) rfl rfl ?_
        show Steps p.tables e below (T56.setTop (mkF m 85 #[.val (.int x0), .val (.int x1), .val (.int x2), .val (.int v2), .val (.int v47), .val (.int v1), .val (.ref b49), .unset, .unset] [(.ref b56), (.ref b56)])) _
        refine XS.iload X56.here hx rfl (hb hby at_85) rfl ?_
        show Steps p.tables e below (T56.setTop (mkF m 87 #[.val (.int x0), .val (.int x1), .val (.int x2), .val (.int v2), .val (.int v47), .val (.int v1), .val (.ref b49), .unset, .unset] [(.int v47), (.ref b56), (.ref b56)])) _
        exact Steps.refl _
      have pre61 := pre56.trans st61
      obtain ⟨_, _, ⟨T62, L62, k62, n62⟩, -, X62, ⟨Lc62, hQ62, l62, y62, z62⟩, st62⟩ := X56.specialBack hx (y := (⟨"com/example/neat_careplan/neatcareplan/model/TimeOfDay", "<init>", "(I)V"⟩ : MethodName)) rfl hown (mvT hZ (hw _ (List.mem_of_getElem? (i := 8) rfl))) (mvT hZ (hw _ (List.mem_of_getElem? (i := 9) rfl))) (mvT hZ (hw _ (List.mem_of_getElem? (i := 10) rfl))) (by decide) (backOf (W := 1) (rm2 l Z a0 hw [] b56 v47 (.int (0 : Int32)) h56 n0 Z56 A56 F60 gn56 (own_p hB4).1 (own_p hB4).2) hZ (hw _ (List.mem_of_getElem? (i := 10) rfl)) (hw _ (List.mem_of_getElem? (i := 7) rfl)) (by decide) (by decide)) (g := (mkF m 87 #[.val (.int x0), .val (.int x1), .val (.int x2), .val (.int v2), .val (.int v47), .val (.int v1), .val (.ref b49), .unset, .unset] [(.int v47), (.ref b56), (.ref b56)])) rfl (by rw [hml]; rfl) (Steps.refl _) (a := b56) (argsL := [(.int v47)]) (rest := [(.ref b56)]) (lenOf pd0_0 rfl) rfl (by show 2 * 0 + _ ≤ _; exact Nat.le_of_eq rfl) (hb hby at_87) (fun _ _ => ⟨rfl, e56, (by decide : 2 + 0 ≤ _), (by decide : 2 + 0 ≤ _)⟩)
      dsimp only [Pt.U, Pt.locs, Pt.cells, Pt.slots] at X62 l62 y62 z62 st62 hQ62
      subst l62 y62 z62
      obtain ⟨rfl, Nq62, Kq62, P62_0, P62_1⟩ := hQ62
      have F63 : Exa Z T62.heap b49 "com/example/neat_careplan/neatcareplan/model/TimeOfDay" := F57.keep Kq62
      have F64 : Exa Z T62.heap b49 "com/example/neat_careplan/neatcareplan/model/TimeOfDay" := F58.keep Kq62
      have F65 : Fld Z T62.heap b49 "com/example/neat_careplan/neatcareplan/model/TimeOfDay" "minutes" "I" (.int v2) := F59.keep Kq62 (ninS neb49_b56 nin0)
      have F66 : Exa Z T62.heap b56 "com/example/neat_careplan/neatcareplan/model/TimeOfDay" := A56.keep Kq62
      have KK62 := K56.trans Kq62 (allS (Or.inr sz56) all0)
      have Z62 : n0 ≤ T62.heap.size := Nat.le_trans Z56 Kq62.1
      have N62 := Fr.app N52 Nq62
      have pre62 : Steps p.tables e below (s₁.setTop (entryFrame m #[(.int x0), (.int x1), (.int x2)] maxLocals)) (T62.setTop (mkF m 90 #[.val (.int x0), .val (.int x1), .val (.int x2), .val (.int v2), .val (.int v47), .val (.int v1), .val (.ref b49), .unset, .unset] [(.ref b56)])) := pre61.trans st62
      obtain ⟨v68, hv68⟩ : ∃ z : Int32, z = (if v2 < v47 then (-1 : Int32) else (if v47 < v2 then (1 : Int32) else (0 : Int32))) := ⟨_, rfl⟩
      have st69 : Steps p.tables e below (T62.setTop (mkF m 90 #[.val (.int x0), .val (.int x1), .val (.int x2), .val (.int v2), .val (.int v47), .val (.int v1), .val (.ref b49), .unset, .unset] [(.ref b56)])) (T62.setTop (mkF m 123 #[.val (.int x0), .val (.int x1), .val (.int x2), .val (.int v2), .val (.int v47), .val (.int v1), .val (.ref b49), .val (.ref b56), .val (.int v68)] [(.ref b56), (.ref b49)])) := by
        subst v68
        refine XS.astore X62.here hx rfl (hb hby at_90) rfl rfl (l' := #[.val (.int x0), .val (.int x1), .val (.int x2), .val (.int v2), .val (.int v47), .val (.int v1), .val (.ref b49), .val (.ref b56), .unset]) rfl ?_
        show Steps p.tables e below (T62.setTop (mkF m 92 #[.val (.int x0), .val (.int x1), .val (.int x2), .val (.int v2), .val (.int v47), .val (.int v1), .val (.ref b49), .val (.ref b56), .unset] [])) _
        refine XS.iloadN X62.here hx rfl (hb hby at_92) rfl ?_
        show Steps p.tables e below (T62.setTop (mkF m 93 #[.val (.int x0), .val (.int x1), .val (.int x2), .val (.int v2), .val (.int v47), .val (.int v1), .val (.ref b49), .val (.ref b56), .unset] [(.int v2)])) _
        refine XS.iload X62.here hx rfl (hb hby at_93) rfl ?_
        show Steps p.tables e below (T62.setTop (mkF m 95 #[.val (.int x0), .val (.int x1), .val (.int x2), .val (.int v2), .val (.int v47), .val (.int v1), .val (.ref b49), .val (.ref b56), .unset] [(.int v47), (.int v2)])) _
        refine Steps.trans (s₂ := T62.setTop (mkF m 119 #[.val (.int x0), .val (.int x1), .val (.int x2), .val (.int v2), .val (.int v47), .val (.int v1), .val (.ref b49), .val (.ref b56), .val (.int (if v2 < v47 then (-1 : Int32) else (if v47 < v2 then (1 : Int32) else (0 : Int32))))] [])) ?_ ?_
        · by_cases hc95 : v2 < v47
          · refine XS.icmpNo X62.here hx rfl (hb hby at_95) rfl (tlt hc95).2.1 ?_
            show Steps p.tables e below (T62.setTop (mkF m 98 #[.val (.int x0), .val (.int x1), .val (.int x2), .val (.int v2), .val (.int v47), .val (.int v1), .val (.ref b49), .val (.ref b56), .unset] [])) _
            refine XS.iconst X62.here hx rfl (hb hby at_98) ?_
            show Steps p.tables e below (T62.setTop (mkF m 99 #[.val (.int x0), .val (.int x1), .val (.int x2), .val (.int v2), .val (.int v47), .val (.int v1), .val (.ref b49), .val (.ref b56), .unset] [(.int (-1 : Int32))])) _
            refine XS.istore X62.here hx rfl (hb hby at_99) rfl (l' := #[.val (.int x0), .val (.int x1), .val (.int x2), .val (.int v2), .val (.int v47), .val (.int v1), .val (.ref b49), .val (.ref b56), .val (.int (-1 : Int32))]) rfl ?_
            show Steps p.tables e below (T62.setTop (mkF m 101 #[.val (.int x0), .val (.int x1), .val (.int x2), .val (.int v2), .val (.int v47), .val (.int v1), .val (.ref b49), .val (.ref b56), .val (.int (-1 : Int32))] [])) _
            refine XS.goto X62.here hx rfl (pc0 := 101) (pc' := 119) rfl (hb hby at_101) (by decide) (by decide) ?_
            show Steps p.tables e below (T62.setTop (mkF m 119 #[.val (.int x0), .val (.int x1), .val (.int x2), .val (.int v2), .val (.int v47), .val (.int v1), .val (.ref b49), .val (.ref b56), .val (.int (-1 : Int32))] [])) _
            try simp only [if_pos hc95]
            exact Steps.refl _
          · refine XS.icmpYes X62.here hx rfl (pc0 := 95) (pc' := 104) rfl (hb hby at_95) rfl (flt hc95).2.1 (by decide) (by decide) ?_
            show Steps p.tables e below (T62.setTop (mkF m 104 #[.val (.int x0), .val (.int x1), .val (.int x2), .val (.int v2), .val (.int v47), .val (.int v1), .val (.ref b49), .val (.ref b56), .unset] [])) _
            refine XS.iloadN X62.here hx rfl (hb hby at_104) rfl ?_
            show Steps p.tables e below (T62.setTop (mkF m 105 #[.val (.int x0), .val (.int x1), .val (.int x2), .val (.int v2), .val (.int v47), .val (.int v1), .val (.ref b49), .val (.ref b56), .unset] [(.int v2)])) _
            refine XS.iload X62.here hx rfl (hb hby at_105) rfl ?_
            show Steps p.tables e below (T62.setTop (mkF m 107 #[.val (.int x0), .val (.int x1), .val (.int x2), .val (.int v2), .val (.int v47), .val (.int v1), .val (.ref b49), .val (.ref b56), .unset] [(.int v47), (.int v2)])) _
            refine Steps.trans (s₂ := T62.setTop (mkF m 119 #[.val (.int x0), .val (.int x1), .val (.int x2), .val (.int v2), .val (.int v47), .val (.int v1), .val (.ref b49), .val (.ref b56), .val (.int (if v47 < v2 then (1 : Int32) else (0 : Int32)))] [])) ?_ ?_
            · by_cases hc107 : v47 < v2
              · refine XS.icmpNo X62.here hx rfl (hb hby at_107) rfl (tlt hc107).2.2.2 ?_
                show Steps p.tables e below (T62.setTop (mkF m 110 #[.val (.int x0), .val (.int x1), .val (.int x2), .val (.int v2), .val (.int v47), .val (.int v1), .val (.ref b49), .val (.ref b56), .unset] [])) _
                refine XS.iconst X62.here hx rfl (hb hby at_110) ?_
                show Steps p.tables e below (T62.setTop (mkF m 111 #[.val (.int x0), .val (.int x1), .val (.int x2), .val (.int v2), .val (.int v47), .val (.int v1), .val (.ref b49), .val (.ref b56), .unset] [(.int (1 : Int32))])) _
                refine XS.istore X62.here hx rfl (hb hby at_111) rfl (l' := #[.val (.int x0), .val (.int x1), .val (.int x2), .val (.int v2), .val (.int v47), .val (.int v1), .val (.ref b49), .val (.ref b56), .val (.int (1 : Int32))]) rfl ?_
                show Steps p.tables e below (T62.setTop (mkF m 113 #[.val (.int x0), .val (.int x1), .val (.int x2), .val (.int v2), .val (.int v47), .val (.int v1), .val (.ref b49), .val (.ref b56), .val (.int (1 : Int32))] [])) _
                refine XS.goto X62.here hx rfl (pc0 := 113) (pc' := 119) rfl (hb hby at_113) (by decide) (by decide) ?_
                show Steps p.tables e below (T62.setTop (mkF m 119 #[.val (.int x0), .val (.int x1), .val (.int x2), .val (.int v2), .val (.int v47), .val (.int v1), .val (.ref b49), .val (.ref b56), .val (.int (1 : Int32))] [])) _
                try simp only [if_pos hc107]
                exact Steps.refl _
              · refine XS.icmpYes X62.here hx rfl (pc0 := 107) (pc' := 116) rfl (hb hby at_107) rfl (flt hc107).2.2.2 (by decide) (by decide) ?_
                show Steps p.tables e below (T62.setTop (mkF m 116 #[.val (.int x0), .val (.int x1), .val (.int x2), .val (.int v2), .val (.int v47), .val (.int v1), .val (.ref b49), .val (.ref b56), .unset] [])) _
                refine XS.iconst X62.here hx rfl (hb hby at_116) ?_
                show Steps p.tables e below (T62.setTop (mkF m 117 #[.val (.int x0), .val (.int x1), .val (.int x2), .val (.int v2), .val (.int v47), .val (.int v1), .val (.ref b49), .val (.ref b56), .unset] [(.int (0 : Int32))])) _
                refine XS.istore X62.here hx rfl (hb hby at_117) rfl (l' := #[.val (.int x0), .val (.int x1), .val (.int x2), .val (.int v2), .val (.int v47), .val (.int v1), .val (.ref b49), .val (.ref b56), .val (.int (0 : Int32))]) rfl ?_
                show Steps p.tables e below (T62.setTop (mkF m 119 #[.val (.int x0), .val (.int x1), .val (.int x2), .val (.int v2), .val (.int v47), .val (.int v1), .val (.ref b49), .val (.ref b56), .val (.int (0 : Int32))] [])) _
                try simp only [if_neg hc107]
                exact Steps.refl _
            show Steps p.tables e below (T62.setTop (mkF m 119 #[.val (.int x0), .val (.int x1), .val (.int x2), .val (.int v2), .val (.int v47), .val (.int v1), .val (.ref b49), .val (.ref b56), .val (.int (if v47 < v2 then (1 : Int32) else (0 : Int32)))] [])) _
            try simp only [if_neg hc95]
            exact Steps.refl _
        show Steps p.tables e below (T62.setTop (mkF m 119 #[.val (.int x0), .val (.int x1), .val (.int x2), .val (.int v2), .val (.int v47), .val (.int v1), .val (.ref b49), .val (.ref b56), .val (.int (if v2 < v47 then (-1 : Int32) else (if v47 < v2 then (1 : Int32) else (0 : Int32))))] [])) _
        refine XS.aload X62.here hx rfl (hb hby at_119) rfl rfl ?_
        show Steps p.tables e below (T62.setTop (mkF m 121 #[.val (.int x0), .val (.int x1), .val (.int x2), .val (.int v2), .val (.int v47), .val (.int v1), .val (.ref b49), .val (.ref b56), .val (.int (if v2 < v47 then (-1 : Int32) else (if v47 < v2 then (1 : Int32) else (0 : Int32))))] [(.ref b49)])) _
        refine XS.aload X62.here hx rfl (hb hby at_121) rfl rfl ?_
        show Steps p.tables e below (T62.setTop (mkF m 123 #[.val (.int x0), .val (.int x1), .val (.int x2), .val (.int v2), .val (.int v47), .val (.int v1), .val (.ref b49), .val (.ref b56), .val (.int (if v2 < v47 then (-1 : Int32) else (if v47 < v2 then (1 : Int32) else (0 : Int32))))] [(.ref b56), (.ref b49)])) _
        exact Steps.refl _
      have pre69 := pre62.trans st69
      obtain ⟨cq70, kq70, q70a, q70b, q70c⟩ := isOf hZ rfl F63
      obtain ⟨_, _, ⟨T70, L70, k70, n70⟩, -, X70, ⟨Lc70, hQ70, l70, y70, z70⟩, st70⟩ := X62.virtualBack hx (y := (⟨"com/example/neat_careplan/neatcareplan/model/TimeOfDay", "compareTo", "(Lcom/example/neat_careplan/neatcareplan/model/TimeOfDay;)I"⟩ : MethodName)) (z := (⟨"com/example/neat_careplan/neatcareplan/model/TimeOfDay", "compareTo", "(Lcom/example/neat_careplan/neatcareplan/model/TimeOfDay;)I"⟩ : MethodName)) hown (mvT hZ (hw _ (List.mem_of_getElem? (i := 21) rfl))) (mvT hZ (hw _ (List.mem_of_getElem? (i := 22) rfl))) (notFace_of_selects (args := #[]) (mvT hZ (hw _ (List.mem_of_getElem? (i := 24) rfl)))) (mvT hZ (hw _ (List.mem_of_getElem? (i := 24) rfl))) (mvT hZ (hw _ (List.mem_of_getElem? (i := 23) rfl))) (by decide) (backOf (W := 0) (rm4 l Z a0 hw [] b49 b56 v2 v47 T62.heap n0 Z62 F65 P62_1) hZ (hw _ (List.mem_of_getElem? (i := 25) rfl)) (hw _ (List.mem_of_getElem? (i := 7) rfl)) (by decide) (by decide)) q70a q70c (g := (mkF m 123 #[.val (.int x0), .val (.int x1), .val (.int x2), .val (.int v2), .val (.int v47), .val (.int v1), .val (.ref b49), .val (.ref b56), .val (.int v68)] [(.ref b56), (.ref b49)])) rfl (by rw [hml]; rfl) (Steps.refl _) (argsL := [(.ref b56)]) (rest := []) (lenOf pd0_1 rfl) rfl (by show 2 * 0 + _ ≤ _; exact Nat.le_of_eq rfl) (hb hby at_123) (fun _ _ => ⟨rfl, rfl, (by decide : 2 + 0 ≤ _), (by decide : 2 + 0 ≤ _)⟩)
      dsimp only [Pt.U, Pt.locs, Pt.cells, Pt.slots] at X70 l70 y70 z70 st70 hQ70
      subst l70 y70 z70
      obtain ⟨rfl, Nq70, e70⟩ := hQ70
      have N70 := Fr.app N62 Nq70
      have pre70 : Steps p.tables e below (s₁.setTop (entryFrame m #[(.int x0), (.int x1), (.int x2)] maxLocals)) (T70.setTop (mkF m 126 #[.val (.int x0), .val (.int x1), .val (.int x2), .val (.int v2), .val (.int v47), .val (.int v1), .val (.ref b49), .val (.ref b56), .val (.int v68)] [(.int (own_F4 b49 b56 v2 v47))])) := pre69.trans st70
      obtain ⟨_, _, ⟨T71, L71, k71, n71⟩, -, X71, ⟨Lc71, hQ71, l71, y71, z71⟩, st71⟩ := Jvm.LawKit.callS X70 hx (y := (⟨"com/example/neat_careplan/neatcareplan/model/TimeOfDayCompareToPinLaw", "sign", "(I)I"⟩ : MethodName)) hown (mvT hZ (hw _ (List.mem_of_getElem? (i := 30) rfl))) (mvT hZ (hw _ (List.mem_of_getElem? (i := 31) rfl))) (mvT hZ (hw _ (List.mem_of_getElem? (i := 32) rfl))) (mvT hZ (hw _ (List.mem_of_getElem? (i := 33) rfl))) (by decide) (backOf (W := 0) (rm5 l Z a0 hw [] (own_F4 b49 b56 v2 v47) T62.heap n0 Z62) hZ (hw _ (List.mem_of_getElem? (i := 33) rfl)) (hw _ (List.mem_of_getElem? (i := 32) rfl)) (by decide) (by decide)) (g := (mkF m 126 #[.val (.int x0), .val (.int x1), .val (.int x2), .val (.int v2), .val (.int v47), .val (.int v1), .val (.ref b49), .val (.ref b56), .val (.int v68)] [(.int (own_F4 b49 b56 v2 v47))])) rfl (by rw [hml]; rfl) (argsL := [(.int (own_F4 b49 b56 v2 v47))]) (rest := []) (lenOf pd0_2 rfl) rfl (by show 2 * 0 + _ ≤ _; exact Nat.le_of_eq rfl) (hb hby at_126) (fun _ _ => ⟨rfl, e70, (by decide : 2 + 0 ≤ _), (by decide : 2 + 0 ≤ _)⟩)
      dsimp only [Pt.U, Pt.locs, Pt.cells, Pt.slots] at X71 l71 y71 z71 st71 hQ71
      subst l71 y71 z71
      obtain ⟨rfl, Nq71, e71⟩ := hQ71
      have N71 := Fr.app N70 Nq71
      have pre71 : Steps p.tables e below (s₁.setTop (entryFrame m #[(.int x0), (.int x1), (.int x2)] maxLocals)) (T71.setTop (mkF m 129 #[.val (.int x0), .val (.int x1), .val (.int x2), .val (.int v2), .val (.int v47), .val (.int v1), .val (.ref b49), .val (.ref b56), .val (.int v68)] [(.int (own_F5 (own_F4 b49 b56 v2 v47)))])) := pre70.trans (st71 _ (Steps.refl _))
      obtain ⟨v72, hv72⟩ : ∃ z : Int32, z = (own_F5 (own_F4 b49 b56 v2 v47)) := ⟨_, rfl⟩
      have st73 : Steps p.tables e below (T71.setTop (mkF m 129 #[.val (.int x0), .val (.int x1), .val (.int x2), .val (.int v2), .val (.int v47), .val (.int v1), .val (.ref b49), .val (.ref b56), .val (.int v68)] [(.int (own_F5 (own_F4 b49 b56 v2 v47)))])) (T71.setTop (mkF m 131 #[.val (.int x0), .val (.int x1), .val (.int x2), .val (.int v2), .val (.int v47), .val (.int v1), .val (.ref b49), .val (.ref b56), .val (.int v68)] [(.int v68), (.int v72)])) := by
        subst v72
        refine XS.iload X71.here hx rfl (hb hby at_129) rfl ?_
        show Steps p.tables e below (T71.setTop (mkF m 131 #[.val (.int x0), .val (.int x1), .val (.int x2), .val (.int v2), .val (.int v47), .val (.int v1), .val (.ref b49), .val (.ref b56), .val (.int v68)] [(.int v68), (.int (own_F5 (own_F4 b49 b56 v2 v47)))])) _
        exact Steps.refl _
      have pre73 := pre71.trans st73
      have hc131 : v72 = v68 := by
        rw [hv72, hv68]
        exact (own_dec _ _ _ _).1
      have st74 : Steps p.tables e below (T71.setTop (mkF m 131 #[.val (.int x0), .val (.int x1), .val (.int x2), .val (.int v2), .val (.int v47), .val (.int v1), .val (.ref b49), .val (.ref b56), .val (.int v68)] [(.int v68), (.int v72)])) (T71.setTop (mkF m 134 #[.val (.int x0), .val (.int x1), .val (.int x2), .val (.int v2), .val (.int v47), .val (.int v1), .val (.ref b49), .val (.ref b56), .val (.int v68)] [])) := by
        refine XS.icmpNo X71.here hx rfl (hb hby at_131) rfl (teq hc131).2 ?_
        exact Steps.refl _
      have pre74 := pre73.trans st74
      have st75 : Steps p.tables e below (T71.setTop (mkF m 134 #[.val (.int x0), .val (.int x1), .val (.int x2), .val (.int v2), .val (.int v47), .val (.int v1), .val (.ref b49), .val (.ref b56), .val (.int v68)] [])) (T71.setTop (mkF m 138 #[.val (.int x0), .val (.int x1), .val (.int x2), .val (.int v2), .val (.int v47), .val (.int v1), .val (.ref b49), .val (.ref b56), .val (.int v68)] [(.ref b49), (.ref b56)])) := by
        refine XS.aload X71.here hx rfl (hb hby at_134) rfl rfl ?_
        show Steps p.tables e below (T71.setTop (mkF m 136 #[.val (.int x0), .val (.int x1), .val (.int x2), .val (.int v2), .val (.int v47), .val (.int v1), .val (.ref b49), .val (.ref b56), .val (.int v68)] [(.ref b56)])) _
        refine XS.aload X71.here hx rfl (hb hby at_136) rfl rfl ?_
        show Steps p.tables e below (T71.setTop (mkF m 138 #[.val (.int x0), .val (.int x1), .val (.int x2), .val (.int v2), .val (.int v47), .val (.int v1), .val (.ref b49), .val (.ref b56), .val (.int v68)] [(.ref b49), (.ref b56)])) _
        exact Steps.refl _
      have pre75 := pre74.trans st75
      obtain ⟨cq76, kq76, q76a, q76b, q76c⟩ := isOf hZ e71 F66
      obtain ⟨_, _, ⟨T76, L76, k76, n76⟩, -, X76, ⟨Lc76, hQ76, l76, y76, z76⟩, st76⟩ := X71.virtualBack hx (y := (⟨"com/example/neat_careplan/neatcareplan/model/TimeOfDay", "compareTo", "(Lcom/example/neat_careplan/neatcareplan/model/TimeOfDay;)I"⟩ : MethodName)) (z := (⟨"com/example/neat_careplan/neatcareplan/model/TimeOfDay", "compareTo", "(Lcom/example/neat_careplan/neatcareplan/model/TimeOfDay;)I"⟩ : MethodName)) hown (mvT hZ (hw _ (List.mem_of_getElem? (i := 21) rfl))) (mvT hZ (hw _ (List.mem_of_getElem? (i := 22) rfl))) (notFace_of_selects (args := #[]) (mvT hZ (hw _ (List.mem_of_getElem? (i := 24) rfl)))) (mvT hZ (hw _ (List.mem_of_getElem? (i := 24) rfl))) (mvT hZ (hw _ (List.mem_of_getElem? (i := 23) rfl))) (by decide) (backOf (W := 0) (rm4 l Z a0 hw [] b56 b49 v47 v2 T62.heap n0 Z62 P62_1 F65) hZ (hw _ (List.mem_of_getElem? (i := 25) rfl)) (hw _ (List.mem_of_getElem? (i := 7) rfl)) (by decide) (by decide)) q76a q76c (g := (mkF m 138 #[.val (.int x0), .val (.int x1), .val (.int x2), .val (.int v2), .val (.int v47), .val (.int v1), .val (.ref b49), .val (.ref b56), .val (.int v68)] [(.ref b49), (.ref b56)])) rfl (by rw [hml]; rfl) (Steps.refl _) (argsL := [(.ref b49)]) (rest := []) (lenOf pd0_1 rfl) rfl (by show 2 * 0 + _ ≤ _; exact Nat.le_of_eq rfl) (hb hby at_138) (fun _ _ => ⟨rfl, e71, (by decide : 2 + 0 ≤ _), (by decide : 2 + 0 ≤ _)⟩)
      dsimp only [Pt.U, Pt.locs, Pt.cells, Pt.slots] at X76 l76 y76 z76 st76 hQ76
      subst l76 y76 z76
      obtain ⟨rfl, Nq76, e76⟩ := hQ76
      have N76 := Fr.app N71 Nq76
      have pre76 : Steps p.tables e below (s₁.setTop (entryFrame m #[(.int x0), (.int x1), (.int x2)] maxLocals)) (T76.setTop (mkF m 141 #[.val (.int x0), .val (.int x1), .val (.int x2), .val (.int v2), .val (.int v47), .val (.int v1), .val (.ref b49), .val (.ref b56), .val (.int v68)] [(.int (own_F4 b56 b49 v47 v2))])) := pre75.trans st76
      obtain ⟨_, _, ⟨T77, L77, k77, n77⟩, -, X77, ⟨Lc77, hQ77, l77, y77, z77⟩, st77⟩ := Jvm.LawKit.callS X76 hx (y := (⟨"com/example/neat_careplan/neatcareplan/model/TimeOfDayCompareToPinLaw", "sign", "(I)I"⟩ : MethodName)) hown (mvT hZ (hw _ (List.mem_of_getElem? (i := 30) rfl))) (mvT hZ (hw _ (List.mem_of_getElem? (i := 31) rfl))) (mvT hZ (hw _ (List.mem_of_getElem? (i := 32) rfl))) (mvT hZ (hw _ (List.mem_of_getElem? (i := 33) rfl))) (by decide) (backOf (W := 0) (rm5 l Z a0 hw [] (own_F4 b56 b49 v47 v2) T62.heap n0 Z62) hZ (hw _ (List.mem_of_getElem? (i := 33) rfl)) (hw _ (List.mem_of_getElem? (i := 32) rfl)) (by decide) (by decide)) (g := (mkF m 141 #[.val (.int x0), .val (.int x1), .val (.int x2), .val (.int v2), .val (.int v47), .val (.int v1), .val (.ref b49), .val (.ref b56), .val (.int v68)] [(.int (own_F4 b56 b49 v47 v2))])) rfl (by rw [hml]; rfl) (argsL := [(.int (own_F4 b56 b49 v47 v2))]) (rest := []) (lenOf pd0_2 rfl) rfl (by show 2 * 0 + _ ≤ _; exact Nat.le_of_eq rfl) (hb hby at_141) (fun _ _ => ⟨rfl, e76, (by decide : 2 + 0 ≤ _), (by decide : 2 + 0 ≤ _)⟩)
      dsimp only [Pt.U, Pt.locs, Pt.cells, Pt.slots] at X77 l77 y77 z77 st77 hQ77
      subst l77 y77 z77
      obtain ⟨rfl, Nq77, e77⟩ := hQ77
      have N77 := Fr.app N76 Nq77
      have pre77 : Steps p.tables e below (s₁.setTop (entryFrame m #[(.int x0), (.int x1), (.int x2)] maxLocals)) (T77.setTop (mkF m 144 #[.val (.int x0), .val (.int x1), .val (.int x2), .val (.int v2), .val (.int v47), .val (.int v1), .val (.ref b49), .val (.ref b56), .val (.int v68)] [(.int (own_F5 (own_F4 b56 b49 v47 v2)))])) := pre76.trans (st77 _ (Steps.refl _))
      obtain ⟨v78, hv78⟩ : ∃ z : Int32, z = (-v68) := ⟨_, rfl⟩
      obtain ⟨v79, hv79⟩ : ∃ z : Int32, z = (own_F5 (own_F4 b56 b49 v47 v2)) := ⟨_, rfl⟩
      have st80 : Steps p.tables e below (T77.setTop (mkF m 144 #[.val (.int x0), .val (.int x1), .val (.int x2), .val (.int v2), .val (.int v47), .val (.int v1), .val (.ref b49), .val (.ref b56), .val (.int v68)] [(.int (own_F5 (own_F4 b56 b49 v47 v2)))])) (T77.setTop (mkF m 147 #[.val (.int x0), .val (.int x1), .val (.int x2), .val (.int v2), .val (.int v47), .val (.int v1), .val (.ref b49), .val (.ref b56), .val (.int v68)] [(.int v78), (.int v79)])) := by
        subst v79 v78
        refine XS.iload X77.here hx rfl (hb hby at_144) rfl ?_
        show Steps p.tables e below (T77.setTop (mkF m 146 #[.val (.int x0), .val (.int x1), .val (.int x2), .val (.int v2), .val (.int v47), .val (.int v1), .val (.ref b49), .val (.ref b56), .val (.int v68)] [(.int v68), (.int (own_F5 (own_F4 b56 b49 v47 v2)))])) _
        refine XS.ineg X77.here hx rfl (hb hby at_146) rfl ?_
        show Steps p.tables e below (T77.setTop (mkF m 147 #[.val (.int x0), .val (.int x1), .val (.int x2), .val (.int v2), .val (.int v47), .val (.int v1), .val (.ref b49), .val (.ref b56), .val (.int v68)] [(.int (-v68)), (.int (own_F5 (own_F4 b56 b49 v47 v2)))])) _
        exact Steps.refl _
      have pre80 := pre77.trans st80
      have hc147 : v79 = v78 := by
        rw [hv79, hv78]
        rw [hv68]
        exact (own_dec _ _ _ _).2
      have st81 : Steps p.tables e below (T77.setTop (mkF m 147 #[.val (.int x0), .val (.int x1), .val (.int x2), .val (.int v2), .val (.int v47), .val (.int v1), .val (.ref b49), .val (.ref b56), .val (.int v68)] [(.int v78), (.int v79)])) (T77.setTop (mkF m 150 #[.val (.int x0), .val (.int x1), .val (.int x2), .val (.int v2), .val (.int v47), .val (.int v1), .val (.ref b49), .val (.ref b56), .val (.int v68)] [])) := by
        refine XS.icmpNo X77.here hx rfl (hb hby at_147) rfl (teq hc147).2 ?_
        exact Steps.refl _
      have pre81 := pre80.trans st81
      have st82 : Steps p.tables e below (T77.setTop (mkF m 150 #[.val (.int x0), .val (.int x1), .val (.int x2), .val (.int v2), .val (.int v47), .val (.int v1), .val (.ref b49), .val (.ref b56), .val (.int v68)] [])) (T77.setTop (mkF m 155 #[.val (.int x0), .val (.int x1), .val (.int x2), .val (.int v2), .val (.int v47), .val (.int v1), .val (.ref b49), .val (.ref b56), .val (.int v68)] [(.int (1 : Int32))])) := by
        refine XS.iconst X77.here hx rfl (hb hby at_150) ?_
        show Steps p.tables e below (T77.setTop (mkF m 151 #[.val (.int x0), .val (.int x1), .val (.int x2), .val (.int v2), .val (.int v47), .val (.int v1), .val (.ref b49), .val (.ref b56), .val (.int v68)] [(.int (1 : Int32))])) _
        refine XS.goto X77.here hx rfl (pc0 := 151) (pc' := 155) rfl (hb hby at_151) (by decide) (by decide) ?_
        show Steps p.tables e below (T77.setTop (mkF m 155 #[.val (.int x0), .val (.int x1), .val (.int x2), .val (.int v2), .val (.int v47), .val (.int v1), .val (.ref b49), .val (.ref b56), .val (.int v68)] [(.int (1 : Int32))])) _
        exact Steps.refl _
      have pre82 := pre81.trans st82
      obtain ⟨fs, hr, hrun, hended, hW, hsame⟩ := X77.leave (v := some (.int (1 : Int32))) (fun h => by rw [Bd.returns] at h; cases h)
      refine ⟨_, _, pre82.trans ?_, hrun, hended, _, _, rfl, ?_, ⟨_, rfl⟩, hW, hsame.mono (by decide) (by decide)⟩
      · show Steps p.tables e below (T77.setTop (mkF m 155 #[.val (.int x0), .val (.int x1), .val (.int x2), .val (.int v2), .val (.int v47), .val (.int v1), .val (.ref b49), .val (.ref b56), .val (.int v68)] [(.int (1 : Int32))])) _
        exact retN X77 hx (t := .boolean) Bd.returns (by simp) (hb hby at_155) hr
      · show Q0 Z x0 x1 x2 h0 n0 _ T77.heap _
        rw [e77]
        exact ⟨rfl, N77⟩
    · have st83 : Steps p.tables e below (s₁.setTop (mkF m 39 #[.val (.int x0), .val (.int x1), .val (.int x2), .val (.int v2), .val (.int v3), .val (.int v1), .unset, .unset, .unset] [(.int (2 : Int32)), (.int v1)])) (s₁.setTop (mkF m 56 #[.val (.int x0), .val (.int x1), .val (.int x2), .val (.int v2), .val (.int v3), .val (.int v1), .unset, .unset, .unset] [])) := by
        refine XS.icmpYes X0.here hx rfl (pc0 := 39) (pc' := 56) rfl (hb hby at_39) rfl (feq hc39).2 (by decide) (by decide) ?_
        exact Steps.refl _
      have pre83 := pre42.trans st83
      have st84 : Steps p.tables e below (s₁.setTop (mkF m 56 #[.val (.int x0), .val (.int x1), .val (.int x2), .val (.int v2), .val (.int v3), .val (.int v1), .unset, .unset, .unset] [])) (s₁.setTop (mkF m 59 #[.val (.int x0), .val (.int x1), .val (.int x2), .val (.int v2), .val (.int v3), .val (.int v1), .unset, .unset, .unset] [(.int (3 : Int32)), (.int v1)])) := by
        refine XS.iload X0.here hx rfl (hb hby at_56) rfl ?_
        show Steps p.tables e below (s₁.setTop (mkF m 58 #[.val (.int x0), .val (.int x1), .val (.int x2), .val (.int v2), .val (.int v3), .val (.int v1), .unset, .unset, .unset] [(.int v1)])) _
        refine XS.iconst X0.here hx rfl (hb hby at_58) ?_
        show Steps p.tables e below (s₁.setTop (mkF m 59 #[.val (.int x0), .val (.int x1), .val (.int x2), .val (.int v2), .val (.int v3), .val (.int v1), .unset, .unset, .unset] [(.int (3 : Int32)), (.int v1)])) _
        exact Steps.refl _
      have pre84 := pre83.trans st84
      by_cases hc59 : v1 = (3 : Int32)
      · have st85 : Steps p.tables e below (s₁.setTop (mkF m 59 #[.val (.int x0), .val (.int x1), .val (.int x2), .val (.int v2), .val (.int v3), .val (.int v1), .unset, .unset, .unset] [(.int (3 : Int32)), (.int v1)])) (s₁.setTop (mkF m 62 #[.val (.int x0), .val (.int x1), .val (.int x2), .val (.int v2), .val (.int v3), .val (.int v1), .unset, .unset, .unset] [])) := by
          refine XS.icmpNo X0.here hx rfl (hb hby at_59) rfl (teq hc59).2 ?_
          exact Steps.refl _
        have pre85 := pre84.trans st85
        obtain ⟨v86, hv86⟩ : ∃ z : Int32, z = (v2 - (1 : Int32)) := ⟨_, rfl⟩
        have st87 : Steps p.tables e below (s₁.setTop (mkF m 62 #[.val (.int x0), .val (.int x1), .val (.int x2), .val (.int v2), .val (.int v3), .val (.int v1), .unset, .unset, .unset] [])) (s₁.setTop (mkF m 66 #[.val (.int x0), .val (.int x1), .val (.int x2), .val (.int v2), .val (.int v3), .val (.int v1), .unset, .unset, .unset] [(.int (0 : Int32)), (.int v86)])) := by
          subst v86
          refine XS.iloadN X0.here hx rfl (hb hby at_62) rfl ?_
          show Steps p.tables e below (s₁.setTop (mkF m 63 #[.val (.int x0), .val (.int x1), .val (.int x2), .val (.int v2), .val (.int v3), .val (.int v1), .unset, .unset, .unset] [(.int v2)])) _
          refine XS.iconst X0.here hx rfl (hb hby at_63) ?_
          show Steps p.tables e below (s₁.setTop (mkF m 64 #[.val (.int x0), .val (.int x1), .val (.int x2), .val (.int v2), .val (.int v3), .val (.int v1), .unset, .unset, .unset] [(.int (1 : Int32)), (.int v2)])) _
          refine XS.isub X0.here hx rfl (hb hby at_64) rfl ?_
          show Steps p.tables e below (s₁.setTop (mkF m 65 #[.val (.int x0), .val (.int x1), .val (.int x2), .val (.int v2), .val (.int v3), .val (.int v1), .unset, .unset, .unset] [(.int (v2 - (1 : Int32)))])) _
          refine XS.iconst X0.here hx rfl (hb hby at_65) ?_
          show Steps p.tables e below (s₁.setTop (mkF m 66 #[.val (.int x0), .val (.int x1), .val (.int x2), .val (.int v2), .val (.int v3), .val (.int v1), .unset, .unset, .unset] [(.int (0 : Int32)), (.int (v2 - (1 : Int32)))])) _
          exact Steps.refl _
        have pre87 := pre85.trans st87
        obtain ⟨_, _, ⟨T88, L88, k88, n88⟩, -, X88, ⟨Lc88, hQ88, l88, y88, z88⟩, st88⟩ := Jvm.LawKit.callS X0 hx (y := (⟨"java/lang/Math", "max", "(II)I"⟩ : MethodName)) hown (mvT hZ (hw _ (List.mem_of_getElem? (i := 34) rfl))) (mvT hZ (hw _ (List.mem_of_getElem? (i := 35) rfl))) (mvT hZ (hw _ (List.mem_of_getElem? (i := 3) rfl))) (mvT hZ (hw _ (List.mem_of_getElem? (i := 36) rfl))) (by decide) (backOf (W := 0) (rm7 l Z a0 hw [] v86 (0 : Int32) h0 n0 Z0) hZ (hw _ (List.mem_of_getElem? (i := 36) rfl)) (hw _ (List.mem_of_getElem? (i := 3) rfl)) (by decide) (by decide)) (g := (mkF m 66 #[.val (.int x0), .val (.int x1), .val (.int x2), .val (.int v2), .val (.int v3), .val (.int v1), .unset, .unset, .unset] [(.int (0 : Int32)), (.int v86)])) rfl (by rw [hml]; rfl) (argsL := [(.int v86), (.int (0 : Int32))]) (rest := []) (lenOf pd0_3 rfl) rfl (by show 2 * 0 + _ ≤ _; exact Nat.le_of_eq rfl) (hb hby at_66) (fun _ _ => ⟨rfl, e0, (by decide : 0 + 0 ≤ _), (by decide : 0 + 0 ≤ _)⟩)
        dsimp only [Pt.U, Pt.locs, Pt.cells, Pt.slots] at X88 l88 y88 z88 st88 hQ88
        subst l88 y88 z88
        obtain ⟨rfl, Nq88, e88⟩ := hQ88
        have N88 := Fr.app N0 Nq88
        have pre88 : Steps p.tables e below (s₁.setTop (entryFrame m #[(.int x0), (.int x1), (.int x2)] maxLocals)) (T88.setTop (mkF m 69 #[.val (.int x0), .val (.int x1), .val (.int x2), .val (.int v2), .val (.int v3), .val (.int v1), .unset, .unset, .unset] [(.int (own_F7 v86 (0 : Int32)))])) := pre87.trans (st88 _ (Steps.refl _))
        obtain ⟨v89, hv89⟩ : ∃ z : Int32, z = (own_F7 v86 (0 : Int32)) := ⟨_, rfl⟩
        have st90 : Steps p.tables e below (T88.setTop (mkF m 69 #[.val (.int x0), .val (.int x1), .val (.int x2), .val (.int v2), .val (.int v3), .val (.int v1), .unset, .unset, .unset] [(.int (own_F7 v86 (0 : Int32)))])) (T88.setTop (mkF m 71 #[.val (.int x0), .val (.int x1), .val (.int x2), .val (.int v2), .val (.int v89), .val (.int v1), .unset, .unset, .unset] [])) := by
          subst v89
          refine XS.istore X88.here hx rfl (hb hby at_69) rfl (l' := #[.val (.int x0), .val (.int x1), .val (.int x2), .val (.int v2), .val (.int (own_F7 v86 (0 : Int32))), .val (.int v1), .unset, .unset, .unset]) rfl ?_
          show Steps p.tables e below (T88.setTop (mkF m 71 #[.val (.int x0), .val (.int x1), .val (.int x2), .val (.int v2), .val (.int (own_F7 v86 (0 : Int32))), .val (.int v1), .unset, .unset, .unset] [])) _
          exact Steps.refl _
        have pre90 := pre88.trans st90
        have hB3 : own_R v2 := own_r1 hv2
        have hB4 : own_R v89 := own_r3 hB3 hv86 hv89
        obtain ⟨T91, h91, X91, e91, E91, A91, D91, -, st91⟩ := newO X88 hx hZ hown (hw _ (List.mem_of_getElem? (i := 5) rfl)) (hw _ (List.mem_of_getElem? (i := 6) rfl)) (hw _ (List.mem_of_getElem? (i := 7) rfl)) e88 (g := (mkF m 71 #[.val (.int x0), .val (.int x1), .val (.int x2), .val (.int v2), .val (.int v89), .val (.int v1), .unset, .unset, .unset] [])) rfl (hb hby at_71) (by decide) (by decide)
        obtain ⟨b91, g91⟩ : ∃ z, z = h0.size := ⟨_, rfl⟩
        rw [← g91] at A91 D91 st91
        have pre91 : Steps p.tables e below (s₁.setTop (entryFrame m #[(.int x0), (.int x1), (.int x2)] maxLocals)) (T91.setTop (mkF m 74 #[.val (.int x0), .val (.int x1), .val (.int x2), .val (.int v2), .val (.int v89), .val (.int v1), .unset, .unset, .unset] [(.ref b91)])) := pre90.trans (st91 _ (Steps.refl _))
        have gn91 : n0 ≤ b91 := Nat.le_trans Z0 (Nat.le_of_eq g91.symm)
        have sz91 : h0.size ≤ b91 := Nat.le_trans K0.1 (Nat.le_of_eq g91.symm)
        have K91 := K0.ext E91
        have Z91 : n0 ≤ h91.size := Nat.le_trans Z0 E91.1
        have F92 : Fld Z h91 b91 "com/example/neat_careplan/neatcareplan/model/TimeOfDay" "minutes" "I" (.int (0 : Int32)) := D91 (Or.inr (hw _ (List.mem_of_getElem? (i := 20) rfl))) (ty := .int) (by decide)
        have st93 : Steps p.tables e below (T91.setTop (mkF m 74 #[.val (.int x0), .val (.int x1), .val (.int x2), .val (.int v2), .val (.int v89), .val (.int v1), .unset, .unset, .unset] [(.ref b91)])) (T91.setTop (mkF m 76 #[.val (.int x0), .val (.int x1), .val (.int x2), .val (.int v2), .val (.int v89), .val (.int v1), .unset, .unset, .unset] [(.int v2), (.ref b91), (.ref b91)])) := by
          refine XS.dup X91.here hx rfl (hb hby at_74) rfl rfl ?_
          show Steps p.tables e below (T91.setTop (mkF m 75 #[.val (.int x0), .val (.int x1), .val (.int x2), .val (.int v2), .val (.int v89), .val (.int v1), .unset, .unset, .unset] [(.ref b91), (.ref b91)])) _
          refine XS.iloadN X91.here hx rfl (hb hby at_75) rfl ?_
          show Steps p.tables e below (T91.setTop (mkF m 76 #[.val (.int x0), .val (.int x1), .val (.int x2), .val (.int v2), .val (.int v89), .val (.int v1), .unset, .unset, .unset] [(.int v2), (.ref b91), (.ref b91)])) _
          exact Steps.refl _
        have pre93 := pre91.trans st93
        obtain ⟨_, _, ⟨T94, L94, k94, n94⟩, -, X94, ⟨Lc94, hQ94, l94, y94, z94⟩, st94⟩ := X91.specialBack hx (y := (⟨"com/example/neat_careplan/neatcareplan/model/TimeOfDay", "<init>", "(I)V"⟩ : MethodName)) rfl hown (mvT hZ (hw _ (List.mem_of_getElem? (i := 8) rfl))) (mvT hZ (hw _ (List.mem_of_getElem? (i := 9) rfl))) (mvT hZ (hw _ (List.mem_of_getElem? (i := 10) rfl))) (by decide) (backOf (W := 1) (rm2 l Z a0 hw [] b91 v2 (.int (0 : Int32)) h91 n0 Z91 A91 F92 gn91 (own_p hB3).1 (own_p hB3).2) hZ (hw _ (List.mem_of_getElem? (i := 10) rfl)) (hw _ (List.mem_of_getElem? (i := 7) rfl)) (by decide) (by decide)) (g := (mkF m 76 #[.val (.int x0), .val (.int x1), .val (.int x2), .val (.int v2), .val (.int v89), .val (.int v1), .unset, .unset, .unset] [(.int v2), (.ref b91), (.ref b91)])) rfl (by rw [hml]; rfl) (Steps.refl _) (a := b91) (argsL := [(.int v2)]) (rest := [(.ref b91)]) (lenOf pd0_0 rfl) rfl (by show 2 * 0 + _ ≤ _; exact Nat.le_of_eq rfl) (hb hby at_76) (fun _ _ => ⟨rfl, e91, (by decide : 1 + 0 ≤ _), (by decide : 1 + 0 ≤ _)⟩)
        dsimp only [Pt.U, Pt.locs, Pt.cells, Pt.slots] at X94 l94 y94 z94 st94 hQ94
        subst l94 y94 z94
        obtain ⟨rfl, Nq94, Kq94, P94_0, P94_1⟩ := hQ94
        have F95 : Exa Z T94.heap b91 "com/example/neat_careplan/neatcareplan/model/TimeOfDay" := A91.keep Kq94
        have KK94 := K91.trans Kq94 (allS (Or.inr sz91) all0)
        have Z94 : n0 ≤ T94.heap.size := Nat.le_trans Z91 Kq94.1
        have N94 := Fr.app N88 Nq94
        have pre94 : Steps p.tables e below (s₁.setTop (entryFrame m #[(.int x0), (.int x1), (.int x2)] maxLocals)) (T94.setTop (mkF m 79 #[.val (.int x0), .val (.int x1), .val (.int x2), .val (.int v2), .val (.int v89), .val (.int v1), .unset, .unset, .unset] [(.ref b91)])) := pre93.trans st94
        have st97 : Steps p.tables e below (T94.setTop (mkF m 79 #[.val (.int x0), .val (.int x1), .val (.int x2), .val (.int v2), .val (.int v89), .val (.int v1), .unset, .unset, .unset] [(.ref b91)])) (T94.setTop (mkF m 81 #[.val (.int x0), .val (.int x1), .val (.int x2), .val (.int v2), .val (.int v89), .val (.int v1), .val (.ref b91), .unset, .unset] [])) := by
          refine XS.astore X94.here hx rfl (hb hby at_79) rfl rfl (l' := #[.val (.int x0), .val (.int x1), .val (.int x2), .val (.int v2), .val (.int v89), .val (.int v1), .val (.ref b91), .unset, .unset]) rfl ?_
          show Steps p.tables e below (T94.setTop (mkF m 81 #[.val (.int x0), .val (.int x1), .val (.int x2), .val (.int v2), .val (.int v89), .val (.int v1), .val (.ref b91), .unset, .unset] [])) _
          exact Steps.refl _
        have pre97 := pre94.trans st97
        obtain ⟨T98, h98, X98, e98, E98, A98, D98, -, st98⟩ := newO X94 hx hZ hown (hw _ (List.mem_of_getElem? (i := 5) rfl)) (hw _ (List.mem_of_getElem? (i := 6) rfl)) (hw _ (List.mem_of_getElem? (i := 7) rfl)) rfl (g := (mkF m 81 #[.val (.int x0), .val (.int x1), .val (.int x2), .val (.int v2), .val (.int v89), .val (.int v1), .val (.ref b91), .unset, .unset] [])) rfl (hb hby at_81) (by decide) (by decide)
        obtain ⟨b98, g98⟩ : ∃ z, z = T94.heap.size := ⟨_, rfl⟩
        rw [← g98] at A98 D98 st98
        have pre98 : Steps p.tables e below (s₁.setTop (entryFrame m #[(.int x0), (.int x1), (.int x2)] maxLocals)) (T98.setTop (mkF m 84 #[.val (.int x0), .val (.int x1), .val (.int x2), .val (.int v2), .val (.int v89), .val (.int v1), .val (.ref b91), .unset, .unset] [(.ref b98)])) := pre97.trans (st98 _ (Steps.refl _))
        have gn98 : n0 ≤ b98 := Nat.le_trans Z94 (Nat.le_of_eq g98.symm)
        have sz98 : h0.size ≤ b98 := Nat.le_trans KK94.1 (Nat.le_of_eq g98.symm)
        have neb91_b98 : b91 ≠ b98 := Nat.ne_of_lt (Nat.lt_of_lt_of_le F95.lt (Nat.le_of_eq g98.symm))
        have F99 : Exa Z h98 b91 "com/example/neat_careplan/neatcareplan/model/TimeOfDay" := F95.ext E98
        have F100 : Exa Z h98 b91 "com/example/neat_careplan/neatcareplan/model/TimeOfDay" := P94_0.ext E98
        have F101 : Fld Z h98 b91 "com/example/neat_careplan/neatcareplan/model/TimeOfDay" "minutes" "I" (.int v2) := P94_1.ext E98
        have K98 := KK94.ext E98
        have Z98 : n0 ≤ h98.size := Nat.le_trans Z94 E98.1
        have F102 : Fld Z h98 b98 "com/example/neat_careplan/neatcareplan/model/TimeOfDay" "minutes" "I" (.int (0 : Int32)) := D98 (Or.inr (hw _ (List.mem_of_getElem? (i := 20) rfl))) (ty := .int) (by decide)
        have st103 : Steps p.tables e below (T98.setTop (mkF m 84 #[.val (.int x0), .val (.int x1), .val (.int x2), .val (.int v2), .val (.int v89), .val (.int v1), .val (.ref b91), .unset, .unset] [(.ref b98)])) (T98.setTop (mkF m 87 #[.val (.int x0), .val (.int x1), .val (.int x2), .val (.int v2), .val (.int v89), .val (.int v1), .val (.ref b91), .unset, .unset] [(.int v89), (.ref b98), (.ref b98)])) := by
          refine XS.dup X98.here hx rfl (hb hby at_84) rfl rfl ?_
          show Steps p.tables e below (T98.setTop (mkF m 85 #[.val (.int x0), .val (.int x1), .val (.int x2), .val (.int v2), .val (.int v89), .val (.int v1), .val (.ref b91), .unset, .unset] [(.ref b98), (.ref b98)])) _
          refine XS.iload X98.here hx rfl (hb hby at_85) rfl ?_
          show Steps p.tables e below (T98.setTop (mkF m 87 #[.val (.int x0), .val (.int x1), .val (.int x2), .val (.int v2), .val (.int v89), .val (.int v1), .val (.ref b91), .unset, .unset] [(.int v89), (.ref b98), (.ref b98)])) _
          exact Steps.refl _
        have pre103 := pre98.trans st103
        obtain ⟨_, _, ⟨T104, L104, k104, n104⟩, -, X104, ⟨Lc104, hQ104, l104, y104, z104⟩, st104⟩ := X98.specialBack hx (y := (⟨"com/example/neat_careplan/neatcareplan/model/TimeOfDay", "<init>", "(I)V"⟩ : MethodName)) rfl hown (mvT hZ (hw _ (List.mem_of_getElem? (i := 8) rfl))) (mvT hZ (hw _ (List.mem_of_getElem? (i := 9) rfl))) (mvT hZ (hw _ (List.mem_of_getElem? (i := 10) rfl))) (by decide) (backOf (W := 1) (rm2 l Z a0 hw [] b98 v89 (.int (0 : Int32)) h98 n0 Z98 A98 F102 gn98 (own_p hB4).1 (own_p hB4).2) hZ (hw _ (List.mem_of_getElem? (i := 10) rfl)) (hw _ (List.mem_of_getElem? (i := 7) rfl)) (by decide) (by decide)) (g := (mkF m 87 #[.val (.int x0), .val (.int x1), .val (.int x2), .val (.int v2), .val (.int v89), .val (.int v1), .val (.ref b91), .unset, .unset] [(.int v89), (.ref b98), (.ref b98)])) rfl (by rw [hml]; rfl) (Steps.refl _) (a := b98) (argsL := [(.int v89)]) (rest := [(.ref b98)]) (lenOf pd0_0 rfl) rfl (by show 2 * 0 + _ ≤ _; exact Nat.le_of_eq rfl) (hb hby at_87) (fun _ _ => ⟨rfl, e98, (by decide : 2 + 0 ≤ _), (by decide : 2 + 0 ≤ _)⟩)
        dsimp only [Pt.U, Pt.locs, Pt.cells, Pt.slots] at X104 l104 y104 z104 st104 hQ104
        subst l104 y104 z104
        obtain ⟨rfl, Nq104, Kq104, P104_0, P104_1⟩ := hQ104
        have F105 : Exa Z T104.heap b91 "com/example/neat_careplan/neatcareplan/model/TimeOfDay" := F99.keep Kq104
        have F106 : Exa Z T104.heap b91 "com/example/neat_careplan/neatcareplan/model/TimeOfDay" := F100.keep Kq104
        have F107 : Fld Z T104.heap b91 "com/example/neat_careplan/neatcareplan/model/TimeOfDay" "minutes" "I" (.int v2) := F101.keep Kq104 (ninS neb91_b98 nin0)
        have F108 : Exa Z T104.heap b98 "com/example/neat_careplan/neatcareplan/model/TimeOfDay" := A98.keep Kq104
        have KK104 := K98.trans Kq104 (allS (Or.inr sz98) all0)
        have Z104 : n0 ≤ T104.heap.size := Nat.le_trans Z98 Kq104.1
        have N104 := Fr.app N94 Nq104
        have pre104 : Steps p.tables e below (s₁.setTop (entryFrame m #[(.int x0), (.int x1), (.int x2)] maxLocals)) (T104.setTop (mkF m 90 #[.val (.int x0), .val (.int x1), .val (.int x2), .val (.int v2), .val (.int v89), .val (.int v1), .val (.ref b91), .unset, .unset] [(.ref b98)])) := pre103.trans st104
        obtain ⟨v110, hv110⟩ : ∃ z : Int32, z = (if v2 < v89 then (-1 : Int32) else (if v89 < v2 then (1 : Int32) else (0 : Int32))) := ⟨_, rfl⟩
        have st111 : Steps p.tables e below (T104.setTop (mkF m 90 #[.val (.int x0), .val (.int x1), .val (.int x2), .val (.int v2), .val (.int v89), .val (.int v1), .val (.ref b91), .unset, .unset] [(.ref b98)])) (T104.setTop (mkF m 123 #[.val (.int x0), .val (.int x1), .val (.int x2), .val (.int v2), .val (.int v89), .val (.int v1), .val (.ref b91), .val (.ref b98), .val (.int v110)] [(.ref b98), (.ref b91)])) := by
          subst v110
          refine XS.astore X104.here hx rfl (hb hby at_90) rfl rfl (l' := #[.val (.int x0), .val (.int x1), .val (.int x2), .val (.int v2), .val (.int v89), .val (.int v1), .val (.ref b91), .val (.ref b98), .unset]) rfl ?_
          show Steps p.tables e below (T104.setTop (mkF m 92 #[.val (.int x0), .val (.int x1), .val (.int x2), .val (.int v2), .val (.int v89), .val (.int v1), .val (.ref b91), .val (.ref b98), .unset] [])) _
          refine XS.iloadN X104.here hx rfl (hb hby at_92) rfl ?_
          show Steps p.tables e below (T104.setTop (mkF m 93 #[.val (.int x0), .val (.int x1), .val (.int x2), .val (.int v2), .val (.int v89), .val (.int v1), .val (.ref b91), .val (.ref b98), .unset] [(.int v2)])) _
          refine XS.iload X104.here hx rfl (hb hby at_93) rfl ?_
          show Steps p.tables e below (T104.setTop (mkF m 95 #[.val (.int x0), .val (.int x1), .val (.int x2), .val (.int v2), .val (.int v89), .val (.int v1), .val (.ref b91), .val (.ref b98), .unset] [(.int v89), (.int v2)])) _
          refine Steps.trans (s₂ := T104.setTop (mkF m 119 #[.val (.int x0), .val (.int x1), .val (.int x2), .val (.int v2), .val (.int v89), .val (.int v1), .val (.ref b91), .val (.ref b98), .val (.int (if v2 < v89 then (-1 : Int32) else (if v89 < v2 then (1 : Int32) else (0 : Int32))))] [])) ?_ ?_
          · by_cases hc95 : v2 < v89
            · refine XS.icmpNo X104.here hx rfl (hb hby at_95) rfl (tlt hc95).2.1 ?_
              show Steps p.tables e below (T104.setTop (mkF m 98 #[.val (.int x0), .val (.int x1), .val (.int x2), .val (.int v2), .val (.int v89), .val (.int v1), .val (.ref b91), .val (.ref b98), .unset] [])) _
              refine XS.iconst X104.here hx rfl (hb hby at_98) ?_
              show Steps p.tables e below (T104.setTop (mkF m 99 #[.val (.int x0), .val (.int x1), .val (.int x2), .val (.int v2), .val (.int v89), .val (.int v1), .val (.ref b91), .val (.ref b98), .unset] [(.int (-1 : Int32))])) _
              refine XS.istore X104.here hx rfl (hb hby at_99) rfl (l' := #[.val (.int x0), .val (.int x1), .val (.int x2), .val (.int v2), .val (.int v89), .val (.int v1), .val (.ref b91), .val (.ref b98), .val (.int (-1 : Int32))]) rfl ?_
              show Steps p.tables e below (T104.setTop (mkF m 101 #[.val (.int x0), .val (.int x1), .val (.int x2), .val (.int v2), .val (.int v89), .val (.int v1), .val (.ref b91), .val (.ref b98), .val (.int (-1 : Int32))] [])) _
              refine XS.goto X104.here hx rfl (pc0 := 101) (pc' := 119) rfl (hb hby at_101) (by decide) (by decide) ?_
              show Steps p.tables e below (T104.setTop (mkF m 119 #[.val (.int x0), .val (.int x1), .val (.int x2), .val (.int v2), .val (.int v89), .val (.int v1), .val (.ref b91), .val (.ref b98), .val (.int (-1 : Int32))] [])) _
              try simp only [if_pos hc95]
              exact Steps.refl _
            · refine XS.icmpYes X104.here hx rfl (pc0 := 95) (pc' := 104) rfl (hb hby at_95) rfl (flt hc95).2.1 (by decide) (by decide) ?_
              show Steps p.tables e below (T104.setTop (mkF m 104 #[.val (.int x0), .val (.int x1), .val (.int x2), .val (.int v2), .val (.int v89), .val (.int v1), .val (.ref b91), .val (.ref b98), .unset] [])) _
              refine XS.iloadN X104.here hx rfl (hb hby at_104) rfl ?_
              show Steps p.tables e below (T104.setTop (mkF m 105 #[.val (.int x0), .val (.int x1), .val (.int x2), .val (.int v2), .val (.int v89), .val (.int v1), .val (.ref b91), .val (.ref b98), .unset] [(.int v2)])) _
              refine XS.iload X104.here hx rfl (hb hby at_105) rfl ?_
              show Steps p.tables e below (T104.setTop (mkF m 107 #[.val (.int x0), .val (.int x1), .val (.int x2), .val (.int v2), .val (.int v89), .val (.int v1), .val (.ref b91), .val (.ref b98), .unset] [(.int v89), (.int v2)])) _
              refine Steps.trans (s₂ := T104.setTop (mkF m 119 #[.val (.int x0), .val (.int x1), .val (.int x2), .val (.int v2), .val (.int v89), .val (.int v1), .val (.ref b91), .val (.ref b98), .val (.int (if v89 < v2 then (1 : Int32) else (0 : Int32)))] [])) ?_ ?_
              · by_cases hc107 : v89 < v2
                · refine XS.icmpNo X104.here hx rfl (hb hby at_107) rfl (tlt hc107).2.2.2 ?_
                  show Steps p.tables e below (T104.setTop (mkF m 110 #[.val (.int x0), .val (.int x1), .val (.int x2), .val (.int v2), .val (.int v89), .val (.int v1), .val (.ref b91), .val (.ref b98), .unset] [])) _
                  refine XS.iconst X104.here hx rfl (hb hby at_110) ?_
                  show Steps p.tables e below (T104.setTop (mkF m 111 #[.val (.int x0), .val (.int x1), .val (.int x2), .val (.int v2), .val (.int v89), .val (.int v1), .val (.ref b91), .val (.ref b98), .unset] [(.int (1 : Int32))])) _
                  refine XS.istore X104.here hx rfl (hb hby at_111) rfl (l' := #[.val (.int x0), .val (.int x1), .val (.int x2), .val (.int v2), .val (.int v89), .val (.int v1), .val (.ref b91), .val (.ref b98), .val (.int (1 : Int32))]) rfl ?_
                  show Steps p.tables e below (T104.setTop (mkF m 113 #[.val (.int x0), .val (.int x1), .val (.int x2), .val (.int v2), .val (.int v89), .val (.int v1), .val (.ref b91), .val (.ref b98), .val (.int (1 : Int32))] [])) _
                  refine XS.goto X104.here hx rfl (pc0 := 113) (pc' := 119) rfl (hb hby at_113) (by decide) (by decide) ?_
                  show Steps p.tables e below (T104.setTop (mkF m 119 #[.val (.int x0), .val (.int x1), .val (.int x2), .val (.int v2), .val (.int v89), .val (.int v1), .val (.ref b91), .val (.ref b98), .val (.int (1 : Int32))] [])) _
                  try simp only [if_pos hc107]
                  exact Steps.refl _
                · refine XS.icmpYes X104.here hx rfl (pc0 := 107) (pc' := 116) rfl (hb hby at_107) rfl (flt hc107).2.2.2 (by decide) (by decide) ?_
                  show Steps p.tables e below (T104.setTop (mkF m 116 #[.val (.int x0), .val (.int x1), .val (.int x2), .val (.int v2), .val (.int v89), .val (.int v1), .val (.ref b91), .val (.ref b98), .unset] [])) _
                  refine XS.iconst X104.here hx rfl (hb hby at_116) ?_
                  show Steps p.tables e below (T104.setTop (mkF m 117 #[.val (.int x0), .val (.int x1), .val (.int x2), .val (.int v2), .val (.int v89), .val (.int v1), .val (.ref b91), .val (.ref b98), .unset] [(.int (0 : Int32))])) _
                  refine XS.istore X104.here hx rfl (hb hby at_117) rfl (l' := #[.val (.int x0), .val (.int x1), .val (.int x2), .val (.int v2), .val (.int v89), .val (.int v1), .val (.ref b91), .val (.ref b98), .val (.int (0 : Int32))]) rfl ?_
                  show Steps p.tables e below (T104.setTop (mkF m 119 #[.val (.int x0), .val (.int x1), .val (.int x2), .val (.int v2), .val (.int v89), .val (.int v1), .val (.ref b91), .val (.ref b98), .val (.int (0 : Int32))] [])) _
                  try simp only [if_neg hc107]
                  exact Steps.refl _
              show Steps p.tables e below (T104.setTop (mkF m 119 #[.val (.int x0), .val (.int x1), .val (.int x2), .val (.int v2), .val (.int v89), .val (.int v1), .val (.ref b91), .val (.ref b98), .val (.int (if v89 < v2 then (1 : Int32) else (0 : Int32)))] [])) _
              try simp only [if_neg hc95]
              exact Steps.refl _
          show Steps p.tables e below (T104.setTop (mkF m 119 #[.val (.int x0), .val (.int x1), .val (.int x2), .val (.int v2), .val (.int v89), .val (.int v1), .val (.ref b91), .val (.ref b98), .val (.int (if v2 < v89 then (-1 : Int32) else (if v89 < v2 then (1 : Int32) else (0 : Int32))))] [])) _
          refine XS.aload X104.here hx rfl (hb hby at_119) rfl rfl ?_
          show Steps p.tables e below (T104.setTop (mkF m 121 #[.val (.int x0), .val (.int x1), .val (.int x2), .val (.int v2), .val (.int v89), .val (.int v1), .val (.ref b91), .val (.ref b98), .val (.int (if v2 < v89 then (-1 : Int32) else (if v89 < v2 then (1 : Int32) else (0 : Int32))))] [(.ref b91)])) _
          refine XS.aload X104.here hx rfl (hb hby at_121) rfl rfl ?_
          show Steps p.tables e below (T104.setTop (mkF m 123 #[.val (.int x0), .val (.int x1), .val (.int x2), .val (.int v2), .val (.int v89), .val (.int v1), .val (.ref b91), .val (.ref b98), .val (.int (if v2 < v89 then (-1 : Int32) else (if v89 < v2 then (1 : Int32) else (0 : Int32))))] [(.ref b98), (.ref b91)])) _
          exact Steps.refl _
        have pre111 := pre104.trans st111
        obtain ⟨cq112, kq112, q112a, q112b, q112c⟩ := isOf hZ rfl F105
        obtain ⟨_, _, ⟨T112, L112, k112, n112⟩, -, X112, ⟨Lc112, hQ112, l112, y112, z112⟩, st112⟩ := X104.virtualBack hx (y := (⟨"com/example/neat_careplan/neatcareplan/model/TimeOfDay", "compareTo", "(Lcom/example/neat_careplan/neatcareplan/model/TimeOfDay;)I"⟩ : MethodName)) (z := (⟨"com/example/neat_careplan/neatcareplan/model/TimeOfDay", "compareTo", "(Lcom/example/neat_careplan/neatcareplan/model/TimeOfDay;)I"⟩ : MethodName)) hown (mvT hZ (hw _ (List.mem_of_getElem? (i := 21) rfl))) (mvT hZ (hw _ (List.mem_of_getElem? (i := 22) rfl))) (notFace_of_selects (args := #[]) (mvT hZ (hw _ (List.mem_of_getElem? (i := 24) rfl)))) (mvT hZ (hw _ (List.mem_of_getElem? (i := 24) rfl))) (mvT hZ (hw _ (List.mem_of_getElem? (i := 23) rfl))) (by decide) (backOf (W := 0) (rm4 l Z a0 hw [] b91 b98 v2 v89 T104.heap n0 Z104 F107 P104_1) hZ (hw _ (List.mem_of_getElem? (i := 25) rfl)) (hw _ (List.mem_of_getElem? (i := 7) rfl)) (by decide) (by decide)) q112a q112c (g := (mkF m 123 #[.val (.int x0), .val (.int x1), .val (.int x2), .val (.int v2), .val (.int v89), .val (.int v1), .val (.ref b91), .val (.ref b98), .val (.int v110)] [(.ref b98), (.ref b91)])) rfl (by rw [hml]; rfl) (Steps.refl _) (argsL := [(.ref b98)]) (rest := []) (lenOf pd0_1 rfl) rfl (by show 2 * 0 + _ ≤ _; exact Nat.le_of_eq rfl) (hb hby at_123) (fun _ _ => ⟨rfl, rfl, (by decide : 2 + 0 ≤ _), (by decide : 2 + 0 ≤ _)⟩)
        dsimp only [Pt.U, Pt.locs, Pt.cells, Pt.slots] at X112 l112 y112 z112 st112 hQ112
        subst l112 y112 z112
        obtain ⟨rfl, Nq112, e112⟩ := hQ112
        have N112 := Fr.app N104 Nq112
        have pre112 : Steps p.tables e below (s₁.setTop (entryFrame m #[(.int x0), (.int x1), (.int x2)] maxLocals)) (T112.setTop (mkF m 126 #[.val (.int x0), .val (.int x1), .val (.int x2), .val (.int v2), .val (.int v89), .val (.int v1), .val (.ref b91), .val (.ref b98), .val (.int v110)] [(.int (own_F4 b91 b98 v2 v89))])) := pre111.trans st112
        obtain ⟨_, _, ⟨T113, L113, k113, n113⟩, -, X113, ⟨Lc113, hQ113, l113, y113, z113⟩, st113⟩ := Jvm.LawKit.callS X112 hx (y := (⟨"com/example/neat_careplan/neatcareplan/model/TimeOfDayCompareToPinLaw", "sign", "(I)I"⟩ : MethodName)) hown (mvT hZ (hw _ (List.mem_of_getElem? (i := 30) rfl))) (mvT hZ (hw _ (List.mem_of_getElem? (i := 31) rfl))) (mvT hZ (hw _ (List.mem_of_getElem? (i := 32) rfl))) (mvT hZ (hw _ (List.mem_of_getElem? (i := 33) rfl))) (by decide) (backOf (W := 0) (rm5 l Z a0 hw [] (own_F4 b91 b98 v2 v89) T104.heap n0 Z104) hZ (hw _ (List.mem_of_getElem? (i := 33) rfl)) (hw _ (List.mem_of_getElem? (i := 32) rfl)) (by decide) (by decide)) (g := (mkF m 126 #[.val (.int x0), .val (.int x1), .val (.int x2), .val (.int v2), .val (.int v89), .val (.int v1), .val (.ref b91), .val (.ref b98), .val (.int v110)] [(.int (own_F4 b91 b98 v2 v89))])) rfl (by rw [hml]; rfl) (argsL := [(.int (own_F4 b91 b98 v2 v89))]) (rest := []) (lenOf pd0_2 rfl) rfl (by show 2 * 0 + _ ≤ _; exact Nat.le_of_eq rfl) (hb hby at_126) (fun _ _ => ⟨rfl, e112, (by decide : 2 + 0 ≤ _), (by decide : 2 + 0 ≤ _)⟩)
        dsimp only [Pt.U, Pt.locs, Pt.cells, Pt.slots] at X113 l113 y113 z113 st113 hQ113
        subst l113 y113 z113
        obtain ⟨rfl, Nq113, e113⟩ := hQ113
        have N113 := Fr.app N112 Nq113
        have pre113 : Steps p.tables e below (s₁.setTop (entryFrame m #[(.int x0), (.int x1), (.int x2)] maxLocals)) (T113.setTop (mkF m 129 #[.val (.int x0), .val (.int x1), .val (.int x2), .val (.int v2), .val (.int v89), .val (.int v1), .val (.ref b91), .val (.ref b98), .val (.int v110)] [(.int (own_F5 (own_F4 b91 b98 v2 v89)))])) := pre112.trans (st113 _ (Steps.refl _))
        obtain ⟨v114, hv114⟩ : ∃ z : Int32, z = (own_F5 (own_F4 b91 b98 v2 v89)) := ⟨_, rfl⟩
        have st115 : Steps p.tables e below (T113.setTop (mkF m 129 #[.val (.int x0), .val (.int x1), .val (.int x2), .val (.int v2), .val (.int v89), .val (.int v1), .val (.ref b91), .val (.ref b98), .val (.int v110)] [(.int (own_F5 (own_F4 b91 b98 v2 v89)))])) (T113.setTop (mkF m 131 #[.val (.int x0), .val (.int x1), .val (.int x2), .val (.int v2), .val (.int v89), .val (.int v1), .val (.ref b91), .val (.ref b98), .val (.int v110)] [(.int v110), (.int v114)])) := by
          subst v114
          refine XS.iload X113.here hx rfl (hb hby at_129) rfl ?_
          show Steps p.tables e below (T113.setTop (mkF m 131 #[.val (.int x0), .val (.int x1), .val (.int x2), .val (.int v2), .val (.int v89), .val (.int v1), .val (.ref b91), .val (.ref b98), .val (.int v110)] [(.int v110), (.int (own_F5 (own_F4 b91 b98 v2 v89)))])) _
          exact Steps.refl _
        have pre115 := pre113.trans st115
        have hc131 : v114 = v110 := by
          rw [hv114, hv110]
          exact (own_dec _ _ _ _).1
        have st116 : Steps p.tables e below (T113.setTop (mkF m 131 #[.val (.int x0), .val (.int x1), .val (.int x2), .val (.int v2), .val (.int v89), .val (.int v1), .val (.ref b91), .val (.ref b98), .val (.int v110)] [(.int v110), (.int v114)])) (T113.setTop (mkF m 134 #[.val (.int x0), .val (.int x1), .val (.int x2), .val (.int v2), .val (.int v89), .val (.int v1), .val (.ref b91), .val (.ref b98), .val (.int v110)] [])) := by
          refine XS.icmpNo X113.here hx rfl (hb hby at_131) rfl (teq hc131).2 ?_
          exact Steps.refl _
        have pre116 := pre115.trans st116
        have st117 : Steps p.tables e below (T113.setTop (mkF m 134 #[.val (.int x0), .val (.int x1), .val (.int x2), .val (.int v2), .val (.int v89), .val (.int v1), .val (.ref b91), .val (.ref b98), .val (.int v110)] [])) (T113.setTop (mkF m 138 #[.val (.int x0), .val (.int x1), .val (.int x2), .val (.int v2), .val (.int v89), .val (.int v1), .val (.ref b91), .val (.ref b98), .val (.int v110)] [(.ref b91), (.ref b98)])) := by
          refine XS.aload X113.here hx rfl (hb hby at_134) rfl rfl ?_
          show Steps p.tables e below (T113.setTop (mkF m 136 #[.val (.int x0), .val (.int x1), .val (.int x2), .val (.int v2), .val (.int v89), .val (.int v1), .val (.ref b91), .val (.ref b98), .val (.int v110)] [(.ref b98)])) _
          refine XS.aload X113.here hx rfl (hb hby at_136) rfl rfl ?_
          show Steps p.tables e below (T113.setTop (mkF m 138 #[.val (.int x0), .val (.int x1), .val (.int x2), .val (.int v2), .val (.int v89), .val (.int v1), .val (.ref b91), .val (.ref b98), .val (.int v110)] [(.ref b91), (.ref b98)])) _
          exact Steps.refl _
        have pre117 := pre116.trans st117
        obtain ⟨cq118, kq118, q118a, q118b, q118c⟩ := isOf hZ e113 F108
        obtain ⟨_, _, ⟨T118, L118, k118, n118⟩, -, X118, ⟨Lc118, hQ118, l118, y118, z118⟩, st118⟩ := X113.virtualBack hx (y := (⟨"com/example/neat_careplan/neatcareplan/model/TimeOfDay", "compareTo", "(Lcom/example/neat_careplan/neatcareplan/model/TimeOfDay;)I"⟩ : MethodName)) (z := (⟨"com/example/neat_careplan/neatcareplan/model/TimeOfDay", "compareTo", "(Lcom/example/neat_careplan/neatcareplan/model/TimeOfDay;)I"⟩ : MethodName)) hown (mvT hZ (hw _ (List.mem_of_getElem? (i := 21) rfl))) (mvT hZ (hw _ (List.mem_of_getElem? (i := 22) rfl))) (notFace_of_selects (args := #[]) (mvT hZ (hw _ (List.mem_of_getElem? (i := 24) rfl)))) (mvT hZ (hw _ (List.mem_of_getElem? (i := 24) rfl))) (mvT hZ (hw _ (List.mem_of_getElem? (i := 23) rfl))) (by decide) (backOf (W := 0) (rm4 l Z a0 hw [] b98 b91 v89 v2 T104.heap n0 Z104 P104_1 F107) hZ (hw _ (List.mem_of_getElem? (i := 25) rfl)) (hw _ (List.mem_of_getElem? (i := 7) rfl)) (by decide) (by decide)) q118a q118c (g := (mkF m 138 #[.val (.int x0), .val (.int x1), .val (.int x2), .val (.int v2), .val (.int v89), .val (.int v1), .val (.ref b91), .val (.ref b98), .val (.int v110)] [(.ref b91), (.ref b98)])) rfl (by rw [hml]; rfl) (Steps.refl _) (argsL := [(.ref b91)]) (rest := []) (lenOf pd0_1 rfl) rfl (by show 2 * 0 + _ ≤ _; exact Nat.le_of_eq rfl) (hb hby at_138) (fun _ _ => ⟨rfl, e113, (by decide : 2 + 0 ≤ _), (by decide : 2 + 0 ≤ _)⟩)
        dsimp only [Pt.U, Pt.locs, Pt.cells, Pt.slots] at X118 l118 y118 z118 st118 hQ118
        subst l118 y118 z118
        obtain ⟨rfl, Nq118, e118⟩ := hQ118
        have N118 := Fr.app N113 Nq118
        have pre118 : Steps p.tables e below (s₁.setTop (entryFrame m #[(.int x0), (.int x1), (.int x2)] maxLocals)) (T118.setTop (mkF m 141 #[.val (.int x0), .val (.int x1), .val (.int x2), .val (.int v2), .val (.int v89), .val (.int v1), .val (.ref b91), .val (.ref b98), .val (.int v110)] [(.int (own_F4 b98 b91 v89 v2))])) := pre117.trans st118
        obtain ⟨_, _, ⟨T119, L119, k119, n119⟩, -, X119, ⟨Lc119, hQ119, l119, y119, z119⟩, st119⟩ := Jvm.LawKit.callS X118 hx (y := (⟨"com/example/neat_careplan/neatcareplan/model/TimeOfDayCompareToPinLaw", "sign", "(I)I"⟩ : MethodName)) hown (mvT hZ (hw _ (List.mem_of_getElem? (i := 30) rfl))) (mvT hZ (hw _ (List.mem_of_getElem? (i := 31) rfl))) (mvT hZ (hw _ (List.mem_of_getElem? (i := 32) rfl))) (mvT hZ (hw _ (List.mem_of_getElem? (i := 33) rfl))) (by decide) (backOf (W := 0) (rm5 l Z a0 hw [] (own_F4 b98 b91 v89 v2) T104.heap n0 Z104) hZ (hw _ (List.mem_of_getElem? (i := 33) rfl)) (hw _ (List.mem_of_getElem? (i := 32) rfl)) (by decide) (by decide)) (g := (mkF m 141 #[.val (.int x0), .val (.int x1), .val (.int x2), .val (.int v2), .val (.int v89), .val (.int v1), .val (.ref b91), .val (.ref b98), .val (.int v110)] [(.int (own_F4 b98 b91 v89 v2))])) rfl (by rw [hml]; rfl) (argsL := [(.int (own_F4 b98 b91 v89 v2))]) (rest := []) (lenOf pd0_2 rfl) rfl (by show 2 * 0 + _ ≤ _; exact Nat.le_of_eq rfl) (hb hby at_141) (fun _ _ => ⟨rfl, e118, (by decide : 2 + 0 ≤ _), (by decide : 2 + 0 ≤ _)⟩)
        dsimp only [Pt.U, Pt.locs, Pt.cells, Pt.slots] at X119 l119 y119 z119 st119 hQ119
        subst l119 y119 z119
        obtain ⟨rfl, Nq119, e119⟩ := hQ119
        have N119 := Fr.app N118 Nq119
        have pre119 : Steps p.tables e below (s₁.setTop (entryFrame m #[(.int x0), (.int x1), (.int x2)] maxLocals)) (T119.setTop (mkF m 144 #[.val (.int x0), .val (.int x1), .val (.int x2), .val (.int v2), .val (.int v89), .val (.int v1), .val (.ref b91), .val (.ref b98), .val (.int v110)] [(.int (own_F5 (own_F4 b98 b91 v89 v2)))])) := pre118.trans (st119 _ (Steps.refl _))
        obtain ⟨v120, hv120⟩ : ∃ z : Int32, z = (-v110) := ⟨_, rfl⟩
        obtain ⟨v121, hv121⟩ : ∃ z : Int32, z = (own_F5 (own_F4 b98 b91 v89 v2)) := ⟨_, rfl⟩
        have st122 : Steps p.tables e below (T119.setTop (mkF m 144 #[.val (.int x0), .val (.int x1), .val (.int x2), .val (.int v2), .val (.int v89), .val (.int v1), .val (.ref b91), .val (.ref b98), .val (.int v110)] [(.int (own_F5 (own_F4 b98 b91 v89 v2)))])) (T119.setTop (mkF m 147 #[.val (.int x0), .val (.int x1), .val (.int x2), .val (.int v2), .val (.int v89), .val (.int v1), .val (.ref b91), .val (.ref b98), .val (.int v110)] [(.int v120), (.int v121)])) := by
          subst v121 v120
          refine XS.iload X119.here hx rfl (hb hby at_144) rfl ?_
          show Steps p.tables e below (T119.setTop (mkF m 146 #[.val (.int x0), .val (.int x1), .val (.int x2), .val (.int v2), .val (.int v89), .val (.int v1), .val (.ref b91), .val (.ref b98), .val (.int v110)] [(.int v110), (.int (own_F5 (own_F4 b98 b91 v89 v2)))])) _
          refine XS.ineg X119.here hx rfl (hb hby at_146) rfl ?_
          show Steps p.tables e below (T119.setTop (mkF m 147 #[.val (.int x0), .val (.int x1), .val (.int x2), .val (.int v2), .val (.int v89), .val (.int v1), .val (.ref b91), .val (.ref b98), .val (.int v110)] [(.int (-v110)), (.int (own_F5 (own_F4 b98 b91 v89 v2)))])) _
          exact Steps.refl _
        have pre122 := pre119.trans st122
        have hc147 : v121 = v120 := by
          rw [hv121, hv120]
          rw [hv110]
          exact (own_dec _ _ _ _).2
        have st123 : Steps p.tables e below (T119.setTop (mkF m 147 #[.val (.int x0), .val (.int x1), .val (.int x2), .val (.int v2), .val (.int v89), .val (.int v1), .val (.ref b91), .val (.ref b98), .val (.int v110)] [(.int v120), (.int v121)])) (T119.setTop (mkF m 150 #[.val (.int x0), .val (.int x1), .val (.int x2), .val (.int v2), .val (.int v89), .val (.int v1), .val (.ref b91), .val (.ref b98), .val (.int v110)] [])) := by
          refine XS.icmpNo X119.here hx rfl (hb hby at_147) rfl (teq hc147).2 ?_
          exact Steps.refl _
        have pre123 := pre122.trans st123
        have st124 : Steps p.tables e below (T119.setTop (mkF m 150 #[.val (.int x0), .val (.int x1), .val (.int x2), .val (.int v2), .val (.int v89), .val (.int v1), .val (.ref b91), .val (.ref b98), .val (.int v110)] [])) (T119.setTop (mkF m 155 #[.val (.int x0), .val (.int x1), .val (.int x2), .val (.int v2), .val (.int v89), .val (.int v1), .val (.ref b91), .val (.ref b98), .val (.int v110)] [(.int (1 : Int32))])) := by
          refine XS.iconst X119.here hx rfl (hb hby at_150) ?_
          show Steps p.tables e below (T119.setTop (mkF m 151 #[.val (.int x0), .val (.int x1), .val (.int x2), .val (.int v2), .val (.int v89), .val (.int v1), .val (.ref b91), .val (.ref b98), .val (.int v110)] [(.int (1 : Int32))])) _
          refine XS.goto X119.here hx rfl (pc0 := 151) (pc' := 155) rfl (hb hby at_151) (by decide) (by decide) ?_
          show Steps p.tables e below (T119.setTop (mkF m 155 #[.val (.int x0), .val (.int x1), .val (.int x2), .val (.int v2), .val (.int v89), .val (.int v1), .val (.ref b91), .val (.ref b98), .val (.int v110)] [(.int (1 : Int32))])) _
          exact Steps.refl _
        have pre124 := pre123.trans st124
        obtain ⟨fs, hr, hrun, hended, hW, hsame⟩ := X119.leave (v := some (.int (1 : Int32))) (fun h => by rw [Bd.returns] at h; cases h)
        refine ⟨_, _, pre124.trans ?_, hrun, hended, _, _, rfl, ?_, ⟨_, rfl⟩, hW, hsame.mono (by decide) (by decide)⟩
        · show Steps p.tables e below (T119.setTop (mkF m 155 #[.val (.int x0), .val (.int x1), .val (.int x2), .val (.int v2), .val (.int v89), .val (.int v1), .val (.ref b91), .val (.ref b98), .val (.int v110)] [(.int (1 : Int32))])) _
          exact retN X119 hx (t := .boolean) Bd.returns (by simp) (hb hby at_155) hr
        · show Q0 Z x0 x1 x2 h0 n0 _ T119.heap _
          rw [e119]
          exact ⟨rfl, N119⟩
      · have st125 : Steps p.tables e below (s₁.setTop (mkF m 59 #[.val (.int x0), .val (.int x1), .val (.int x2), .val (.int v2), .val (.int v3), .val (.int v1), .unset, .unset, .unset] [(.int (3 : Int32)), (.int v1)])) (s₁.setTop (mkF m 71 #[.val (.int x0), .val (.int x1), .val (.int x2), .val (.int v2), .val (.int v3), .val (.int v1), .unset, .unset, .unset] [])) := by
          refine XS.icmpYes X0.here hx rfl (pc0 := 59) (pc' := 71) rfl (hb hby at_59) rfl (feq hc59).2 (by decide) (by decide) ?_
          exact Steps.refl _
        have pre125 := pre84.trans st125
        have hB3 : own_R v2 := own_r1 hv2
        have hB4 : own_R v3 := own_r1 hv3
        obtain ⟨T126, h126, X126, e126, E126, A126, D126, -, st126⟩ := newO X0 hx hZ hown (hw _ (List.mem_of_getElem? (i := 5) rfl)) (hw _ (List.mem_of_getElem? (i := 6) rfl)) (hw _ (List.mem_of_getElem? (i := 7) rfl)) e0 (g := (mkF m 71 #[.val (.int x0), .val (.int x1), .val (.int x2), .val (.int v2), .val (.int v3), .val (.int v1), .unset, .unset, .unset] [])) rfl (hb hby at_71) (by decide) (by decide)
        obtain ⟨b126, g126⟩ : ∃ z, z = h0.size := ⟨_, rfl⟩
        rw [← g126] at A126 D126 st126
        have pre126 : Steps p.tables e below (s₁.setTop (entryFrame m #[(.int x0), (.int x1), (.int x2)] maxLocals)) (T126.setTop (mkF m 74 #[.val (.int x0), .val (.int x1), .val (.int x2), .val (.int v2), .val (.int v3), .val (.int v1), .unset, .unset, .unset] [(.ref b126)])) := pre125.trans (st126 _ (Steps.refl _))
        have gn126 : n0 ≤ b126 := Nat.le_trans Z0 (Nat.le_of_eq g126.symm)
        have sz126 : h0.size ≤ b126 := Nat.le_trans K0.1 (Nat.le_of_eq g126.symm)
        have K126 := K0.ext E126
        have Z126 : n0 ≤ h126.size := Nat.le_trans Z0 E126.1
        have F127 : Fld Z h126 b126 "com/example/neat_careplan/neatcareplan/model/TimeOfDay" "minutes" "I" (.int (0 : Int32)) := D126 (Or.inr (hw _ (List.mem_of_getElem? (i := 20) rfl))) (ty := .int) (by decide)
        have st128 : Steps p.tables e below (T126.setTop (mkF m 74 #[.val (.int x0), .val (.int x1), .val (.int x2), .val (.int v2), .val (.int v3), .val (.int v1), .unset, .unset, .unset] [(.ref b126)])) (T126.setTop (mkF m 76 #[.val (.int x0), .val (.int x1), .val (.int x2), .val (.int v2), .val (.int v3), .val (.int v1), .unset, .unset, .unset] [(.int v2), (.ref b126), (.ref b126)])) := by
          refine XS.dup X126.here hx rfl (hb hby at_74) rfl rfl ?_
          show Steps p.tables e below (T126.setTop (mkF m 75 #[.val (.int x0), .val (.int x1), .val (.int x2), .val (.int v2), .val (.int v3), .val (.int v1), .unset, .unset, .unset] [(.ref b126), (.ref b126)])) _
          refine XS.iloadN X126.here hx rfl (hb hby at_75) rfl ?_
          show Steps p.tables e below (T126.setTop (mkF m 76 #[.val (.int x0), .val (.int x1), .val (.int x2), .val (.int v2), .val (.int v3), .val (.int v1), .unset, .unset, .unset] [(.int v2), (.ref b126), (.ref b126)])) _
          exact Steps.refl _
        have pre128 := pre126.trans st128
        obtain ⟨_, _, ⟨T129, L129, k129, n129⟩, -, X129, ⟨Lc129, hQ129, l129, y129, z129⟩, st129⟩ := X126.specialBack hx (y := (⟨"com/example/neat_careplan/neatcareplan/model/TimeOfDay", "<init>", "(I)V"⟩ : MethodName)) rfl hown (mvT hZ (hw _ (List.mem_of_getElem? (i := 8) rfl))) (mvT hZ (hw _ (List.mem_of_getElem? (i := 9) rfl))) (mvT hZ (hw _ (List.mem_of_getElem? (i := 10) rfl))) (by decide) (backOf (W := 1) (rm2 l Z a0 hw [] b126 v2 (.int (0 : Int32)) h126 n0 Z126 A126 F127 gn126 (own_p hB3).1 (own_p hB3).2) hZ (hw _ (List.mem_of_getElem? (i := 10) rfl)) (hw _ (List.mem_of_getElem? (i := 7) rfl)) (by decide) (by decide)) (g := (mkF m 76 #[.val (.int x0), .val (.int x1), .val (.int x2), .val (.int v2), .val (.int v3), .val (.int v1), .unset, .unset, .unset] [(.int v2), (.ref b126), (.ref b126)])) rfl (by rw [hml]; rfl) (Steps.refl _) (a := b126) (argsL := [(.int v2)]) (rest := [(.ref b126)]) (lenOf pd0_0 rfl) rfl (by show 2 * 0 + _ ≤ _; exact Nat.le_of_eq rfl) (hb hby at_76) (fun _ _ => ⟨rfl, e126, (by decide : 1 + 0 ≤ _), (by decide : 1 + 0 ≤ _)⟩)
        dsimp only [Pt.U, Pt.locs, Pt.cells, Pt.slots] at X129 l129 y129 z129 st129 hQ129
        subst l129 y129 z129
        obtain ⟨rfl, Nq129, Kq129, P129_0, P129_1⟩ := hQ129
        have F130 : Exa Z T129.heap b126 "com/example/neat_careplan/neatcareplan/model/TimeOfDay" := A126.keep Kq129
        have KK129 := K126.trans Kq129 (allS (Or.inr sz126) all0)
        have Z129 : n0 ≤ T129.heap.size := Nat.le_trans Z126 Kq129.1
        have N129 := Fr.app N0 Nq129
        have pre129 : Steps p.tables e below (s₁.setTop (entryFrame m #[(.int x0), (.int x1), (.int x2)] maxLocals)) (T129.setTop (mkF m 79 #[.val (.int x0), .val (.int x1), .val (.int x2), .val (.int v2), .val (.int v3), .val (.int v1), .unset, .unset, .unset] [(.ref b126)])) := pre128.trans st129
        have st132 : Steps p.tables e below (T129.setTop (mkF m 79 #[.val (.int x0), .val (.int x1), .val (.int x2), .val (.int v2), .val (.int v3), .val (.int v1), .unset, .unset, .unset] [(.ref b126)])) (T129.setTop (mkF m 81 #[.val (.int x0), .val (.int x1), .val (.int x2), .val (.int v2), .val (.int v3), .val (.int v1), .val (.ref b126), .unset, .unset] [])) := by
          refine XS.astore X129.here hx rfl (hb hby at_79) rfl rfl (l' := #[.val (.int x0), .val (.int x1), .val (.int x2), .val (.int v2), .val (.int v3), .val (.int v1), .val (.ref b126), .unset, .unset]) rfl ?_
          show Steps p.tables e below (T129.setTop (mkF m 81 #[.val (.int x0), .val (.int x1), .val (.int x2), .val (.int v2), .val (.int v3), .val (.int v1), .val (.ref b126), .unset, .unset] [])) _
          exact Steps.refl _
        have pre132 := pre129.trans st132
        obtain ⟨T133, h133, X133, e133, E133, A133, D133, -, st133⟩ := newO X129 hx hZ hown (hw _ (List.mem_of_getElem? (i := 5) rfl)) (hw _ (List.mem_of_getElem? (i := 6) rfl)) (hw _ (List.mem_of_getElem? (i := 7) rfl)) rfl (g := (mkF m 81 #[.val (.int x0), .val (.int x1), .val (.int x2), .val (.int v2), .val (.int v3), .val (.int v1), .val (.ref b126), .unset, .unset] [])) rfl (hb hby at_81) (by decide) (by decide)
        obtain ⟨b133, g133⟩ : ∃ z, z = T129.heap.size := ⟨_, rfl⟩
        rw [← g133] at A133 D133 st133
        have pre133 : Steps p.tables e below (s₁.setTop (entryFrame m #[(.int x0), (.int x1), (.int x2)] maxLocals)) (T133.setTop (mkF m 84 #[.val (.int x0), .val (.int x1), .val (.int x2), .val (.int v2), .val (.int v3), .val (.int v1), .val (.ref b126), .unset, .unset] [(.ref b133)])) := pre132.trans (st133 _ (Steps.refl _))
        have gn133 : n0 ≤ b133 := Nat.le_trans Z129 (Nat.le_of_eq g133.symm)
        have sz133 : h0.size ≤ b133 := Nat.le_trans KK129.1 (Nat.le_of_eq g133.symm)
        have neb126_b133 : b126 ≠ b133 := Nat.ne_of_lt (Nat.lt_of_lt_of_le F130.lt (Nat.le_of_eq g133.symm))
        have F134 : Exa Z h133 b126 "com/example/neat_careplan/neatcareplan/model/TimeOfDay" := F130.ext E133
        have F135 : Exa Z h133 b126 "com/example/neat_careplan/neatcareplan/model/TimeOfDay" := P129_0.ext E133
        have F136 : Fld Z h133 b126 "com/example/neat_careplan/neatcareplan/model/TimeOfDay" "minutes" "I" (.int v2) := P129_1.ext E133
        have K133 := KK129.ext E133
        have Z133 : n0 ≤ h133.size := Nat.le_trans Z129 E133.1
        have F137 : Fld Z h133 b133 "com/example/neat_careplan/neatcareplan/model/TimeOfDay" "minutes" "I" (.int (0 : Int32)) := D133 (Or.inr (hw _ (List.mem_of_getElem? (i := 20) rfl))) (ty := .int) (by decide)
        have st138 : Steps p.tables e below (T133.setTop (mkF m 84 #[.val (.int x0), .val (.int x1), .val (.int x2), .val (.int v2), .val (.int v3), .val (.int v1), .val (.ref b126), .unset, .unset] [(.ref b133)])) (T133.setTop (mkF m 87 #[.val (.int x0), .val (.int x1), .val (.int x2), .val (.int v2), .val (.int v3), .val (.int v1), .val (.ref b126), .unset, .unset] [(.int v3), (.ref b133), (.ref b133)])) := by
          refine XS.dup X133.here hx rfl (hb hby at_84) rfl rfl ?_
          show Steps p.tables e below (T133.setTop (mkF m 85 #[.val (.int x0), .val (.int x1), .val (.int x2), .val (.int v2), .val (.int v3), .val (.int v1), .val (.ref b126), .unset, .unset] [(.ref b133), (.ref b133)])) _
          refine XS.iload X133.here hx rfl (hb hby at_85) rfl ?_
          show Steps p.tables e below (T133.setTop (mkF m 87 #[.val (.int x0), .val (.int x1), .val (.int x2), .val (.int v2), .val (.int v3), .val (.int v1), .val (.ref b126), .unset, .unset] [(.int v3), (.ref b133), (.ref b133)])) _
          exact Steps.refl _
        have pre138 := pre133.trans st138
        obtain ⟨_, _, ⟨T139, L139, k139, n139⟩, -, X139, ⟨Lc139, hQ139, l139, y139, z139⟩, st139⟩ := X133.specialBack hx (y := (⟨"com/example/neat_careplan/neatcareplan/model/TimeOfDay", "<init>", "(I)V"⟩ : MethodName)) rfl hown (mvT hZ (hw _ (List.mem_of_getElem? (i := 8) rfl))) (mvT hZ (hw _ (List.mem_of_getElem? (i := 9) rfl))) (mvT hZ (hw _ (List.mem_of_getElem? (i := 10) rfl))) (by decide) (backOf (W := 1) (rm2 l Z a0 hw [] b133 v3 (.int (0 : Int32)) h133 n0 Z133 A133 F137 gn133 (own_p hB4).1 (own_p hB4).2) hZ (hw _ (List.mem_of_getElem? (i := 10) rfl)) (hw _ (List.mem_of_getElem? (i := 7) rfl)) (by decide) (by decide)) (g := (mkF m 87 #[.val (.int x0), .val (.int x1), .val (.int x2), .val (.int v2), .val (.int v3), .val (.int v1), .val (.ref b126), .unset, .unset] [(.int v3), (.ref b133), (.ref b133)])) rfl (by rw [hml]; rfl) (Steps.refl _) (a := b133) (argsL := [(.int v3)]) (rest := [(.ref b133)]) (lenOf pd0_0 rfl) rfl (by show 2 * 0 + _ ≤ _; exact Nat.le_of_eq rfl) (hb hby at_87) (fun _ _ => ⟨rfl, e133, (by decide : 2 + 0 ≤ _), (by decide : 2 + 0 ≤ _)⟩)
        dsimp only [Pt.U, Pt.locs, Pt.cells, Pt.slots] at X139 l139 y139 z139 st139 hQ139
        subst l139 y139 z139
        obtain ⟨rfl, Nq139, Kq139, P139_0, P139_1⟩ := hQ139
        have F140 : Exa Z T139.heap b126 "com/example/neat_careplan/neatcareplan/model/TimeOfDay" := F134.keep Kq139
        have F141 : Exa Z T139.heap b126 "com/example/neat_careplan/neatcareplan/model/TimeOfDay" := F135.keep Kq139
        have F142 : Fld Z T139.heap b126 "com/example/neat_careplan/neatcareplan/model/TimeOfDay" "minutes" "I" (.int v2) := F136.keep Kq139 (ninS neb126_b133 nin0)
        have F143 : Exa Z T139.heap b133 "com/example/neat_careplan/neatcareplan/model/TimeOfDay" := A133.keep Kq139
        have KK139 := K133.trans Kq139 (allS (Or.inr sz133) all0)
        have Z139 : n0 ≤ T139.heap.size := Nat.le_trans Z133 Kq139.1
        have N139 := Fr.app N129 Nq139
        have pre139 : Steps p.tables e below (s₁.setTop (entryFrame m #[(.int x0), (.int x1), (.int x2)] maxLocals)) (T139.setTop (mkF m 90 #[.val (.int x0), .val (.int x1), .val (.int x2), .val (.int v2), .val (.int v3), .val (.int v1), .val (.ref b126), .unset, .unset] [(.ref b133)])) := pre138.trans st139
        obtain ⟨v145, hv145⟩ : ∃ z : Int32, z = (if v2 < v3 then (-1 : Int32) else (if v3 < v2 then (1 : Int32) else (0 : Int32))) := ⟨_, rfl⟩
        have st146 : Steps p.tables e below (T139.setTop (mkF m 90 #[.val (.int x0), .val (.int x1), .val (.int x2), .val (.int v2), .val (.int v3), .val (.int v1), .val (.ref b126), .unset, .unset] [(.ref b133)])) (T139.setTop (mkF m 123 #[.val (.int x0), .val (.int x1), .val (.int x2), .val (.int v2), .val (.int v3), .val (.int v1), .val (.ref b126), .val (.ref b133), .val (.int v145)] [(.ref b133), (.ref b126)])) := by
          subst v145
          refine XS.astore X139.here hx rfl (hb hby at_90) rfl rfl (l' := #[.val (.int x0), .val (.int x1), .val (.int x2), .val (.int v2), .val (.int v3), .val (.int v1), .val (.ref b126), .val (.ref b133), .unset]) rfl ?_
          show Steps p.tables e below (T139.setTop (mkF m 92 #[.val (.int x0), .val (.int x1), .val (.int x2), .val (.int v2), .val (.int v3), .val (.int v1), .val (.ref b126), .val (.ref b133), .unset] [])) _
          refine XS.iloadN X139.here hx rfl (hb hby at_92) rfl ?_
          show Steps p.tables e below (T139.setTop (mkF m 93 #[.val (.int x0), .val (.int x1), .val (.int x2), .val (.int v2), .val (.int v3), .val (.int v1), .val (.ref b126), .val (.ref b133), .unset] [(.int v2)])) _
          refine XS.iload X139.here hx rfl (hb hby at_93) rfl ?_
          show Steps p.tables e below (T139.setTop (mkF m 95 #[.val (.int x0), .val (.int x1), .val (.int x2), .val (.int v2), .val (.int v3), .val (.int v1), .val (.ref b126), .val (.ref b133), .unset] [(.int v3), (.int v2)])) _
          refine Steps.trans (s₂ := T139.setTop (mkF m 119 #[.val (.int x0), .val (.int x1), .val (.int x2), .val (.int v2), .val (.int v3), .val (.int v1), .val (.ref b126), .val (.ref b133), .val (.int (if v2 < v3 then (-1 : Int32) else (if v3 < v2 then (1 : Int32) else (0 : Int32))))] [])) ?_ ?_
          · by_cases hc95 : v2 < v3
            · refine XS.icmpNo X139.here hx rfl (hb hby at_95) rfl (tlt hc95).2.1 ?_
              show Steps p.tables e below (T139.setTop (mkF m 98 #[.val (.int x0), .val (.int x1), .val (.int x2), .val (.int v2), .val (.int v3), .val (.int v1), .val (.ref b126), .val (.ref b133), .unset] [])) _
              refine XS.iconst X139.here hx rfl (hb hby at_98) ?_
              show Steps p.tables e below (T139.setTop (mkF m 99 #[.val (.int x0), .val (.int x1), .val (.int x2), .val (.int v2), .val (.int v3), .val (.int v1), .val (.ref b126), .val (.ref b133), .unset] [(.int (-1 : Int32))])) _
              refine XS.istore X139.here hx rfl (hb hby at_99) rfl (l' := #[.val (.int x0), .val (.int x1), .val (.int x2), .val (.int v2), .val (.int v3), .val (.int v1), .val (.ref b126), .val (.ref b133), .val (.int (-1 : Int32))]) rfl ?_
              show Steps p.tables e below (T139.setTop (mkF m 101 #[.val (.int x0), .val (.int x1), .val (.int x2), .val (.int v2), .val (.int v3), .val (.int v1), .val (.ref b126), .val (.ref b133), .val (.int (-1 : Int32))] [])) _
              refine XS.goto X139.here hx rfl (pc0 := 101) (pc' := 119) rfl (hb hby at_101) (by decide) (by decide) ?_
              show Steps p.tables e below (T139.setTop (mkF m 119 #[.val (.int x0), .val (.int x1), .val (.int x2), .val (.int v2), .val (.int v3), .val (.int v1), .val (.ref b126), .val (.ref b133), .val (.int (-1 : Int32))] [])) _
              try simp only [if_pos hc95]
              exact Steps.refl _
            · refine XS.icmpYes X139.here hx rfl (pc0 := 95) (pc' := 104) rfl (hb hby at_95) rfl (flt hc95).2.1 (by decide) (by decide) ?_
              show Steps p.tables e below (T139.setTop (mkF m 104 #[.val (.int x0), .val (.int x1), .val (.int x2), .val (.int v2), .val (.int v3), .val (.int v1), .val (.ref b126), .val (.ref b133), .unset] [])) _
              refine XS.iloadN X139.here hx rfl (hb hby at_104) rfl ?_
              show Steps p.tables e below (T139.setTop (mkF m 105 #[.val (.int x0), .val (.int x1), .val (.int x2), .val (.int v2), .val (.int v3), .val (.int v1), .val (.ref b126), .val (.ref b133), .unset] [(.int v2)])) _
              refine XS.iload X139.here hx rfl (hb hby at_105) rfl ?_
              show Steps p.tables e below (T139.setTop (mkF m 107 #[.val (.int x0), .val (.int x1), .val (.int x2), .val (.int v2), .val (.int v3), .val (.int v1), .val (.ref b126), .val (.ref b133), .unset] [(.int v3), (.int v2)])) _
              refine Steps.trans (s₂ := T139.setTop (mkF m 119 #[.val (.int x0), .val (.int x1), .val (.int x2), .val (.int v2), .val (.int v3), .val (.int v1), .val (.ref b126), .val (.ref b133), .val (.int (if v3 < v2 then (1 : Int32) else (0 : Int32)))] [])) ?_ ?_
              · by_cases hc107 : v3 < v2
                · refine XS.icmpNo X139.here hx rfl (hb hby at_107) rfl (tlt hc107).2.2.2 ?_
                  show Steps p.tables e below (T139.setTop (mkF m 110 #[.val (.int x0), .val (.int x1), .val (.int x2), .val (.int v2), .val (.int v3), .val (.int v1), .val (.ref b126), .val (.ref b133), .unset] [])) _
                  refine XS.iconst X139.here hx rfl (hb hby at_110) ?_
                  show Steps p.tables e below (T139.setTop (mkF m 111 #[.val (.int x0), .val (.int x1), .val (.int x2), .val (.int v2), .val (.int v3), .val (.int v1), .val (.ref b126), .val (.ref b133), .unset] [(.int (1 : Int32))])) _
                  refine XS.istore X139.here hx rfl (hb hby at_111) rfl (l' := #[.val (.int x0), .val (.int x1), .val (.int x2), .val (.int v2), .val (.int v3), .val (.int v1), .val (.ref b126), .val (.ref b133), .val (.int (1 : Int32))]) rfl ?_
                  show Steps p.tables e below (T139.setTop (mkF m 113 #[.val (.int x0), .val (.int x1), .val (.int x2), .val (.int v2), .val (.int v3), .val (.int v1), .val (.ref b126), .val (.ref b133), .val (.int (1 : Int32))] [])) _
                  refine XS.goto X139.here hx rfl (pc0 := 113) (pc' := 119) rfl (hb hby at_113) (by decide) (by decide) ?_
                  show Steps p.tables e below (T139.setTop (mkF m 119 #[.val (.int x0), .val (.int x1), .val (.int x2), .val (.int v2), .val (.int v3), .val (.int v1), .val (.ref b126), .val (.ref b133), .val (.int (1 : Int32))] [])) _
                  try simp only [if_pos hc107]
                  exact Steps.refl _
                · refine XS.icmpYes X139.here hx rfl (pc0 := 107) (pc' := 116) rfl (hb hby at_107) rfl (flt hc107).2.2.2 (by decide) (by decide) ?_
                  show Steps p.tables e below (T139.setTop (mkF m 116 #[.val (.int x0), .val (.int x1), .val (.int x2), .val (.int v2), .val (.int v3), .val (.int v1), .val (.ref b126), .val (.ref b133), .unset] [])) _
                  refine XS.iconst X139.here hx rfl (hb hby at_116) ?_
                  show Steps p.tables e below (T139.setTop (mkF m 117 #[.val (.int x0), .val (.int x1), .val (.int x2), .val (.int v2), .val (.int v3), .val (.int v1), .val (.ref b126), .val (.ref b133), .unset] [(.int (0 : Int32))])) _
                  refine XS.istore X139.here hx rfl (hb hby at_117) rfl (l' := #[.val (.int x0), .val (.int x1), .val (.int x2), .val (.int v2), .val (.int v3), .val (.int v1), .val (.ref b126), .val (.ref b133), .val (.int (0 : Int32))]) rfl ?_
                  show Steps p.tables e below (T139.setTop (mkF m 119 #[.val (.int x0), .val (.int x1), .val (.int x2), .val (.int v2), .val (.int v3), .val (.int v1), .val (.ref b126), .val (.ref b133), .val (.int (0 : Int32))] [])) _
                  try simp only [if_neg hc107]
                  exact Steps.refl _
              show Steps p.tables e below (T139.setTop (mkF m 119 #[.val (.int x0), .val (.int x1), .val (.int x2), .val (.int v2), .val (.int v3), .val (.int v1), .val (.ref b126), .val (.ref b133), .val (.int (if v3 < v2 then (1 : Int32) else (0 : Int32)))] [])) _
              try simp only [if_neg hc95]
              exact Steps.refl _
          show Steps p.tables e below (T139.setTop (mkF m 119 #[.val (.int x0), .val (.int x1), .val (.int x2), .val (.int v2), .val (.int v3), .val (.int v1), .val (.ref b126), .val (.ref b133), .val (.int (if v2 < v3 then (-1 : Int32) else (if v3 < v2 then (1 : Int32) else (0 : Int32))))] [])) _
          refine XS.aload X139.here hx rfl (hb hby at_119) rfl rfl ?_
          show Steps p.tables e below (T139.setTop (mkF m 121 #[.val (.int x0), .val (.int x1), .val (.int x2), .val (.int v2), .val (.int v3), .val (.int v1), .val (.ref b126), .val (.ref b133), .val (.int (if v2 < v3 then (-1 : Int32) else (if v3 < v2 then (1 : Int32) else (0 : Int32))))] [(.ref b126)])) _
          refine XS.aload X139.here hx rfl (hb hby at_121) rfl rfl ?_
          show Steps p.tables e below (T139.setTop (mkF m 123 #[.val (.int x0), .val (.int x1), .val (.int x2), .val (.int v2), .val (.int v3), .val (.int v1), .val (.ref b126), .val (.ref b133), .val (.int (if v2 < v3 then (-1 : Int32) else (if v3 < v2 then (1 : Int32) else (0 : Int32))))] [(.ref b133), (.ref b126)])) _
          exact Steps.refl _
        have pre146 := pre139.trans st146
        obtain ⟨cq147, kq147, q147a, q147b, q147c⟩ := isOf hZ rfl F140
        obtain ⟨_, _, ⟨T147, L147, k147, n147⟩, -, X147, ⟨Lc147, hQ147, l147, y147, z147⟩, st147⟩ := X139.virtualBack hx (y := (⟨"com/example/neat_careplan/neatcareplan/model/TimeOfDay", "compareTo", "(Lcom/example/neat_careplan/neatcareplan/model/TimeOfDay;)I"⟩ : MethodName)) (z := (⟨"com/example/neat_careplan/neatcareplan/model/TimeOfDay", "compareTo", "(Lcom/example/neat_careplan/neatcareplan/model/TimeOfDay;)I"⟩ : MethodName)) hown (mvT hZ (hw _ (List.mem_of_getElem? (i := 21) rfl))) (mvT hZ (hw _ (List.mem_of_getElem? (i := 22) rfl))) (notFace_of_selects (args := #[]) (mvT hZ (hw _ (List.mem_of_getElem? (i := 24) rfl)))) (mvT hZ (hw _ (List.mem_of_getElem? (i := 24) rfl))) (mvT hZ (hw _ (List.mem_of_getElem? (i := 23) rfl))) (by decide) (backOf (W := 0) (rm4 l Z a0 hw [] b126 b133 v2 v3 T139.heap n0 Z139 F142 P139_1) hZ (hw _ (List.mem_of_getElem? (i := 25) rfl)) (hw _ (List.mem_of_getElem? (i := 7) rfl)) (by decide) (by decide)) q147a q147c (g := (mkF m 123 #[.val (.int x0), .val (.int x1), .val (.int x2), .val (.int v2), .val (.int v3), .val (.int v1), .val (.ref b126), .val (.ref b133), .val (.int v145)] [(.ref b133), (.ref b126)])) rfl (by rw [hml]; rfl) (Steps.refl _) (argsL := [(.ref b133)]) (rest := []) (lenOf pd0_1 rfl) rfl (by show 2 * 0 + _ ≤ _; exact Nat.le_of_eq rfl) (hb hby at_123) (fun _ _ => ⟨rfl, rfl, (by decide : 2 + 0 ≤ _), (by decide : 2 + 0 ≤ _)⟩)
        dsimp only [Pt.U, Pt.locs, Pt.cells, Pt.slots] at X147 l147 y147 z147 st147 hQ147
        subst l147 y147 z147
        obtain ⟨rfl, Nq147, e147⟩ := hQ147
        have N147 := Fr.app N139 Nq147
        have pre147 : Steps p.tables e below (s₁.setTop (entryFrame m #[(.int x0), (.int x1), (.int x2)] maxLocals)) (T147.setTop (mkF m 126 #[.val (.int x0), .val (.int x1), .val (.int x2), .val (.int v2), .val (.int v3), .val (.int v1), .val (.ref b126), .val (.ref b133), .val (.int v145)] [(.int (own_F4 b126 b133 v2 v3))])) := pre146.trans st147
        obtain ⟨_, _, ⟨T148, L148, k148, n148⟩, -, X148, ⟨Lc148, hQ148, l148, y148, z148⟩, st148⟩ := Jvm.LawKit.callS X147 hx (y := (⟨"com/example/neat_careplan/neatcareplan/model/TimeOfDayCompareToPinLaw", "sign", "(I)I"⟩ : MethodName)) hown (mvT hZ (hw _ (List.mem_of_getElem? (i := 30) rfl))) (mvT hZ (hw _ (List.mem_of_getElem? (i := 31) rfl))) (mvT hZ (hw _ (List.mem_of_getElem? (i := 32) rfl))) (mvT hZ (hw _ (List.mem_of_getElem? (i := 33) rfl))) (by decide) (backOf (W := 0) (rm5 l Z a0 hw [] (own_F4 b126 b133 v2 v3) T139.heap n0 Z139) hZ (hw _ (List.mem_of_getElem? (i := 33) rfl)) (hw _ (List.mem_of_getElem? (i := 32) rfl)) (by decide) (by decide)) (g := (mkF m 126 #[.val (.int x0), .val (.int x1), .val (.int x2), .val (.int v2), .val (.int v3), .val (.int v1), .val (.ref b126), .val (.ref b133), .val (.int v145)] [(.int (own_F4 b126 b133 v2 v3))])) rfl (by rw [hml]; rfl) (argsL := [(.int (own_F4 b126 b133 v2 v3))]) (rest := []) (lenOf pd0_2 rfl) rfl (by show 2 * 0 + _ ≤ _; exact Nat.le_of_eq rfl) (hb hby at_126) (fun _ _ => ⟨rfl, e147, (by decide : 2 + 0 ≤ _), (by decide : 2 + 0 ≤ _)⟩)
        dsimp only [Pt.U, Pt.locs, Pt.cells, Pt.slots] at X148 l148 y148 z148 st148 hQ148
        subst l148 y148 z148
        obtain ⟨rfl, Nq148, e148⟩ := hQ148
        have N148 := Fr.app N147 Nq148
        have pre148 : Steps p.tables e below (s₁.setTop (entryFrame m #[(.int x0), (.int x1), (.int x2)] maxLocals)) (T148.setTop (mkF m 129 #[.val (.int x0), .val (.int x1), .val (.int x2), .val (.int v2), .val (.int v3), .val (.int v1), .val (.ref b126), .val (.ref b133), .val (.int v145)] [(.int (own_F5 (own_F4 b126 b133 v2 v3)))])) := pre147.trans (st148 _ (Steps.refl _))
        obtain ⟨v149, hv149⟩ : ∃ z : Int32, z = (own_F5 (own_F4 b126 b133 v2 v3)) := ⟨_, rfl⟩
        have st150 : Steps p.tables e below (T148.setTop (mkF m 129 #[.val (.int x0), .val (.int x1), .val (.int x2), .val (.int v2), .val (.int v3), .val (.int v1), .val (.ref b126), .val (.ref b133), .val (.int v145)] [(.int (own_F5 (own_F4 b126 b133 v2 v3)))])) (T148.setTop (mkF m 131 #[.val (.int x0), .val (.int x1), .val (.int x2), .val (.int v2), .val (.int v3), .val (.int v1), .val (.ref b126), .val (.ref b133), .val (.int v145)] [(.int v145), (.int v149)])) := by
          subst v149
          refine XS.iload X148.here hx rfl (hb hby at_129) rfl ?_
          show Steps p.tables e below (T148.setTop (mkF m 131 #[.val (.int x0), .val (.int x1), .val (.int x2), .val (.int v2), .val (.int v3), .val (.int v1), .val (.ref b126), .val (.ref b133), .val (.int v145)] [(.int v145), (.int (own_F5 (own_F4 b126 b133 v2 v3)))])) _
          exact Steps.refl _
        have pre150 := pre148.trans st150
        have hc131 : v149 = v145 := by
          rw [hv149, hv145]
          exact (own_dec _ _ _ _).1
        have st151 : Steps p.tables e below (T148.setTop (mkF m 131 #[.val (.int x0), .val (.int x1), .val (.int x2), .val (.int v2), .val (.int v3), .val (.int v1), .val (.ref b126), .val (.ref b133), .val (.int v145)] [(.int v145), (.int v149)])) (T148.setTop (mkF m 134 #[.val (.int x0), .val (.int x1), .val (.int x2), .val (.int v2), .val (.int v3), .val (.int v1), .val (.ref b126), .val (.ref b133), .val (.int v145)] [])) := by
          refine XS.icmpNo X148.here hx rfl (hb hby at_131) rfl (teq hc131).2 ?_
          exact Steps.refl _
        have pre151 := pre150.trans st151
        have st152 : Steps p.tables e below (T148.setTop (mkF m 134 #[.val (.int x0), .val (.int x1), .val (.int x2), .val (.int v2), .val (.int v3), .val (.int v1), .val (.ref b126), .val (.ref b133), .val (.int v145)] [])) (T148.setTop (mkF m 138 #[.val (.int x0), .val (.int x1), .val (.int x2), .val (.int v2), .val (.int v3), .val (.int v1), .val (.ref b126), .val (.ref b133), .val (.int v145)] [(.ref b126), (.ref b133)])) := by
          refine XS.aload X148.here hx rfl (hb hby at_134) rfl rfl ?_
          show Steps p.tables e below (T148.setTop (mkF m 136 #[.val (.int x0), .val (.int x1), .val (.int x2), .val (.int v2), .val (.int v3), .val (.int v1), .val (.ref b126), .val (.ref b133), .val (.int v145)] [(.ref b133)])) _
          refine XS.aload X148.here hx rfl (hb hby at_136) rfl rfl ?_
          show Steps p.tables e below (T148.setTop (mkF m 138 #[.val (.int x0), .val (.int x1), .val (.int x2), .val (.int v2), .val (.int v3), .val (.int v1), .val (.ref b126), .val (.ref b133), .val (.int v145)] [(.ref b126), (.ref b133)])) _
          exact Steps.refl _
        have pre152 := pre151.trans st152
        obtain ⟨cq153, kq153, q153a, q153b, q153c⟩ := isOf hZ e148 F143
        obtain ⟨_, _, ⟨T153, L153, k153, n153⟩, -, X153, ⟨Lc153, hQ153, l153, y153, z153⟩, st153⟩ := X148.virtualBack hx (y := (⟨"com/example/neat_careplan/neatcareplan/model/TimeOfDay", "compareTo", "(Lcom/example/neat_careplan/neatcareplan/model/TimeOfDay;)I"⟩ : MethodName)) (z := (⟨"com/example/neat_careplan/neatcareplan/model/TimeOfDay", "compareTo", "(Lcom/example/neat_careplan/neatcareplan/model/TimeOfDay;)I"⟩ : MethodName)) hown (mvT hZ (hw _ (List.mem_of_getElem? (i := 21) rfl))) (mvT hZ (hw _ (List.mem_of_getElem? (i := 22) rfl))) (notFace_of_selects (args := #[]) (mvT hZ (hw _ (List.mem_of_getElem? (i := 24) rfl)))) (mvT hZ (hw _ (List.mem_of_getElem? (i := 24) rfl))) (mvT hZ (hw _ (List.mem_of_getElem? (i := 23) rfl))) (by decide) (backOf (W := 0) (rm4 l Z a0 hw [] b133 b126 v3 v2 T139.heap n0 Z139 P139_1 F142) hZ (hw _ (List.mem_of_getElem? (i := 25) rfl)) (hw _ (List.mem_of_getElem? (i := 7) rfl)) (by decide) (by decide)) q153a q153c (g := (mkF m 138 #[.val (.int x0), .val (.int x1), .val (.int x2), .val (.int v2), .val (.int v3), .val (.int v1), .val (.ref b126), .val (.ref b133), .val (.int v145)] [(.ref b126), (.ref b133)])) rfl (by rw [hml]; rfl) (Steps.refl _) (argsL := [(.ref b126)]) (rest := []) (lenOf pd0_1 rfl) rfl (by show 2 * 0 + _ ≤ _; exact Nat.le_of_eq rfl) (hb hby at_138) (fun _ _ => ⟨rfl, e148, (by decide : 2 + 0 ≤ _), (by decide : 2 + 0 ≤ _)⟩)
        dsimp only [Pt.U, Pt.locs, Pt.cells, Pt.slots] at X153 l153 y153 z153 st153 hQ153
        subst l153 y153 z153
        obtain ⟨rfl, Nq153, e153⟩ := hQ153
        have N153 := Fr.app N148 Nq153
        have pre153 : Steps p.tables e below (s₁.setTop (entryFrame m #[(.int x0), (.int x1), (.int x2)] maxLocals)) (T153.setTop (mkF m 141 #[.val (.int x0), .val (.int x1), .val (.int x2), .val (.int v2), .val (.int v3), .val (.int v1), .val (.ref b126), .val (.ref b133), .val (.int v145)] [(.int (own_F4 b133 b126 v3 v2))])) := pre152.trans st153
        obtain ⟨_, _, ⟨T154, L154, k154, n154⟩, -, X154, ⟨Lc154, hQ154, l154, y154, z154⟩, st154⟩ := Jvm.LawKit.callS X153 hx (y := (⟨"com/example/neat_careplan/neatcareplan/model/TimeOfDayCompareToPinLaw", "sign", "(I)I"⟩ : MethodName)) hown (mvT hZ (hw _ (List.mem_of_getElem? (i := 30) rfl))) (mvT hZ (hw _ (List.mem_of_getElem? (i := 31) rfl))) (mvT hZ (hw _ (List.mem_of_getElem? (i := 32) rfl))) (mvT hZ (hw _ (List.mem_of_getElem? (i := 33) rfl))) (by decide) (backOf (W := 0) (rm5 l Z a0 hw [] (own_F4 b133 b126 v3 v2) T139.heap n0 Z139) hZ (hw _ (List.mem_of_getElem? (i := 33) rfl)) (hw _ (List.mem_of_getElem? (i := 32) rfl)) (by decide) (by decide)) (g := (mkF m 141 #[.val (.int x0), .val (.int x1), .val (.int x2), .val (.int v2), .val (.int v3), .val (.int v1), .val (.ref b126), .val (.ref b133), .val (.int v145)] [(.int (own_F4 b133 b126 v3 v2))])) rfl (by rw [hml]; rfl) (argsL := [(.int (own_F4 b133 b126 v3 v2))]) (rest := []) (lenOf pd0_2 rfl) rfl (by show 2 * 0 + _ ≤ _; exact Nat.le_of_eq rfl) (hb hby at_141) (fun _ _ => ⟨rfl, e153, (by decide : 2 + 0 ≤ _), (by decide : 2 + 0 ≤ _)⟩)
        dsimp only [Pt.U, Pt.locs, Pt.cells, Pt.slots] at X154 l154 y154 z154 st154 hQ154
        subst l154 y154 z154
        obtain ⟨rfl, Nq154, e154⟩ := hQ154
        have N154 := Fr.app N153 Nq154
        have pre154 : Steps p.tables e below (s₁.setTop (entryFrame m #[(.int x0), (.int x1), (.int x2)] maxLocals)) (T154.setTop (mkF m 144 #[.val (.int x0), .val (.int x1), .val (.int x2), .val (.int v2), .val (.int v3), .val (.int v1), .val (.ref b126), .val (.ref b133), .val (.int v145)] [(.int (own_F5 (own_F4 b133 b126 v3 v2)))])) := pre153.trans (st154 _ (Steps.refl _))
        obtain ⟨v155, hv155⟩ : ∃ z : Int32, z = (-v145) := ⟨_, rfl⟩
        obtain ⟨v156, hv156⟩ : ∃ z : Int32, z = (own_F5 (own_F4 b133 b126 v3 v2)) := ⟨_, rfl⟩
        have st157 : Steps p.tables e below (T154.setTop (mkF m 144 #[.val (.int x0), .val (.int x1), .val (.int x2), .val (.int v2), .val (.int v3), .val (.int v1), .val (.ref b126), .val (.ref b133), .val (.int v145)] [(.int (own_F5 (own_F4 b133 b126 v3 v2)))])) (T154.setTop (mkF m 147 #[.val (.int x0), .val (.int x1), .val (.int x2), .val (.int v2), .val (.int v3), .val (.int v1), .val (.ref b126), .val (.ref b133), .val (.int v145)] [(.int v155), (.int v156)])) := by
          subst v156 v155
          refine XS.iload X154.here hx rfl (hb hby at_144) rfl ?_
          show Steps p.tables e below (T154.setTop (mkF m 146 #[.val (.int x0), .val (.int x1), .val (.int x2), .val (.int v2), .val (.int v3), .val (.int v1), .val (.ref b126), .val (.ref b133), .val (.int v145)] [(.int v145), (.int (own_F5 (own_F4 b133 b126 v3 v2)))])) _
          refine XS.ineg X154.here hx rfl (hb hby at_146) rfl ?_
          show Steps p.tables e below (T154.setTop (mkF m 147 #[.val (.int x0), .val (.int x1), .val (.int x2), .val (.int v2), .val (.int v3), .val (.int v1), .val (.ref b126), .val (.ref b133), .val (.int v145)] [(.int (-v145)), (.int (own_F5 (own_F4 b133 b126 v3 v2)))])) _
          exact Steps.refl _
        have pre157 := pre154.trans st157
        have hc147 : v156 = v155 := by
          rw [hv156, hv155]
          rw [hv145]
          exact (own_dec _ _ _ _).2
        have st158 : Steps p.tables e below (T154.setTop (mkF m 147 #[.val (.int x0), .val (.int x1), .val (.int x2), .val (.int v2), .val (.int v3), .val (.int v1), .val (.ref b126), .val (.ref b133), .val (.int v145)] [(.int v155), (.int v156)])) (T154.setTop (mkF m 150 #[.val (.int x0), .val (.int x1), .val (.int x2), .val (.int v2), .val (.int v3), .val (.int v1), .val (.ref b126), .val (.ref b133), .val (.int v145)] [])) := by
          refine XS.icmpNo X154.here hx rfl (hb hby at_147) rfl (teq hc147).2 ?_
          exact Steps.refl _
        have pre158 := pre157.trans st158
        have st159 : Steps p.tables e below (T154.setTop (mkF m 150 #[.val (.int x0), .val (.int x1), .val (.int x2), .val (.int v2), .val (.int v3), .val (.int v1), .val (.ref b126), .val (.ref b133), .val (.int v145)] [])) (T154.setTop (mkF m 155 #[.val (.int x0), .val (.int x1), .val (.int x2), .val (.int v2), .val (.int v3), .val (.int v1), .val (.ref b126), .val (.ref b133), .val (.int v145)] [(.int (1 : Int32))])) := by
          refine XS.iconst X154.here hx rfl (hb hby at_150) ?_
          show Steps p.tables e below (T154.setTop (mkF m 151 #[.val (.int x0), .val (.int x1), .val (.int x2), .val (.int v2), .val (.int v3), .val (.int v1), .val (.ref b126), .val (.ref b133), .val (.int v145)] [(.int (1 : Int32))])) _
          refine XS.goto X154.here hx rfl (pc0 := 151) (pc' := 155) rfl (hb hby at_151) (by decide) (by decide) ?_
          show Steps p.tables e below (T154.setTop (mkF m 155 #[.val (.int x0), .val (.int x1), .val (.int x2), .val (.int v2), .val (.int v3), .val (.int v1), .val (.ref b126), .val (.ref b133), .val (.int v145)] [(.int (1 : Int32))])) _
          exact Steps.refl _
        have pre159 := pre158.trans st159
        obtain ⟨fs, hr, hrun, hended, hW, hsame⟩ := X154.leave (v := some (.int (1 : Int32))) (fun h => by rw [Bd.returns] at h; cases h)
        refine ⟨_, _, pre159.trans ?_, hrun, hended, _, _, rfl, ?_, ⟨_, rfl⟩, hW, hsame.mono (by decide) (by decide)⟩
        · show Steps p.tables e below (T154.setTop (mkF m 155 #[.val (.int x0), .val (.int x1), .val (.int x2), .val (.int v2), .val (.int v3), .val (.int v1), .val (.ref b126), .val (.ref b133), .val (.int v145)] [(.int (1 : Int32))])) _
          exact retN X154 hx (t := .boolean) Bd.returns (by simp) (hb hby at_155) hr
        · show Q0 Z x0 x1 x2 h0 n0 _ T154.heap _
          rw [e154]
          exact ⟨rfl, N154⟩
set_option maxRecDepth 65536 in
set_option maxHeartbeats 40000000 in
theorem comes_1 {Post : Tables → Env → Array Value → State → Outcome → State → Prop} (hpost : ∀ tb e args s v u, (limb_1_1.after args s (.returned v) u = true ∧ limb_1_2.after args s (.returned v) u = true ∧ True) → FrameEnd s (.returned v) u (Jvm.fieldLocs frame_1_writes args s ++ Jvm.arrayLocs frame_1_arrays args s ++ Jvm.staticLocs frame_1_statics s) 16 128 → Post tb e args s (.returned v) u) :
    ArmFor flags0 classFile x code maxLocals ret World_1 tables_1 room_1 Calls_1 rest_1 Pre_1 Post := by
  intro l hfl _ _ p e ha hc hk s m args below hf hA hF happ hP
  obtain ⟨hcalls, hrest, hpre⟩ := hP
  obtain ⟨-, -, -, hnamed, -, -, -, hat⟩ := (Spec.applies_iff hf).mp happ
  obtain ⟨hg, hn⟩ := and_e (Cond.before_iff.mp (show (Jvm.Cond.and given_1 narrow_1).before args s = true from hpre))
  obtain ⟨g1, g2⟩ := and_e hg
  obtain ⟨g3, g4⟩ := and_e g2
  obtain ⟨g5, g6⟩ := and_e g4
  obtain ⟨w0, w1, w2, rfl⟩ : ∃ w0 w1 w2 : Value, args = #[w0, w1, w2] := by
    have hs : args.size = 3 := by simpa [Cond.value, given_1] using g1
    obtain ⟨L⟩ := args
    match L, hs with
    | [w0, w1, w2], _ => exact ⟨w0, w1, w2, rfl⟩
  have hw := fun d (hd : d ∈ tables_1) => atoms_spec (ws := Jvm.Cond.code x code maxLocals ret :: tables_1) hat d (List.mem_cons_of_mem _ hd)
  obtain ⟨i0, ei0⟩ := is_v g3
  obtain rfl : w0 = (.int i0) := Option.some.inj ei0
  obtain ⟨i1, ei1⟩ := is_v g5
  obtain rfl : w1 = (.int i1) := Option.some.inj ei1
  obtain ⟨i2, ei2⟩ := is_v g6
  obtain rfl : w2 = (.int i2) := Option.some.inj ei2
  obtain ⟨n, o, h1, h2, h3, _, L, rfl, ⟨rfl, N⟩, hq⟩ := rm0 l s _ hw tables_1 i0 i1 i2 s.heap s.heap.size (Nat.le_refl _) p e ha hc hk s m _ below hf ((Spec.applies_iff_loose hf).mp happ).1 ⟨rfl, State.Warmed39.refl s, rfl⟩ trivial
  refine ⟨n, _, h1, h2, h3, hpost _ _ _ _ _ _ ⟨Cond.after_iff.mpr rfl, Cond.after_iff.mpr (eq_i res_at (Term.int_eval (1)) rfl), trivial⟩ ⟨hq.1, hq.2.1, (hq.2.2.sift fun y hy => Or.inr (N y hy)).mono (by decide) (by decide)⟩⟩
theorem main_1_1 : Claimed_1_1 := comes_1 fun _ _ _ _ _ _ h hF => ⟨h.1, hF⟩
theorem main_1_2 : Claimed_1_2 := comes_1 fun _ _ _ _ _ _ h hF => ⟨h.2.1, hF⟩
end Jvm.Pilot.@@N@@
namespace Jvm.Pilot.@@N@@
open Jvm Jvm.ClassFile Sem Op Lib Jvm.Free Jvm.Stand Jvm.Pilot.@@N@@.Jvm.D
/-! MADE BY PROGRAM (witnessworld.py) out of the Statement's table words and the real class files: 16 classes; the members and pool entries that the words name. The judged class is class 1, her method 2. -/
namespace start1
open Jvm.ClassFile
def u (s : String) : CpInfo := .utf8 (stringToUtf16 s)
/-- a pool by its gaps: so many unusable entries, then the entry; so many at the end -/
def gap : Nat → List CpInfo → List CpInfo
  | 0, r => r
  | n + 1, r => .unusable :: gap n r
def poolList (es : List (Nat × CpInfo)) (last : Nat) : List CpInfo := es.foldr (fun e r => gap e.1 (e.2 :: r)) (gap last [])
def pool (es : List (Nat × CpInfo)) (last : Nat) : Array CpInfo := ⟨poolList es last⟩
def fileOf (pool : Array CpInfo) (this : Nat) (attrs : Array Attribute := #[]) (ms : Array MethodInfo := #[]) (fl : Nat := 33) (sup : Nat := 0) (ifs : Array Nat := #[]) (fds : Array FieldInfo := #[]) : ClassFile where
  minorVersion := 0
  majorVersion := 65
  constantPool := pool
  accessFlags := fl
  thisClass := this
  superClass := sup
  interfaces := ifs
  fields := fds
  methods := ms
  attributes := attrs
def plain (name : String) (sup : Option ClassId) : Class where
  name := name
  kind := .ordinary
  loader := none
  accessFlags := 33
  super := sup
  interfaces := #[]
  cf := none
  fields := #[]
  methods := #[]
  instanceTypes := #[]
  staticTypes := #[]
  resolved := #[]
  callSites := []
  init := .initialized
  statics := none
  mirror := none

def pool0 : Array CpInfo := pool [(5, u "<init>"), (0, u "()V"), (1, .class_ 10), (1, u "java/lang/Object")] 113

def k0c0 : Code := { maxStack := 0, maxLocals := 1, code := object_method_1_code, exceptionTable := #[], attributes := #[] }
def k0m0 : Method := { name := "<init>", desc := "()V", sig := { parameters := [], returnType := none }, accessFlags := 1, code := some k0c0 }
/-- java/lang/Object -/
def k0 : Class := { plain "java/lang/Object" none with
  accessFlags := 33
  interfaces := #[]
  cf := some (fileOf pool0 8 #[] #[{ accessFlags := 1, nameIndex := 5, descriptorIndex := 6, attributes := #[] }] 33 0 #[] #[])
  fields := #[]
  methods := #[k0m0]
  instanceTypes := #[]
  staticTypes := #[]
  resolved := Array.replicate 124 none
  statics := none }

def pool1 : Array CpInfo := pool [(2, .class_ 4), (1, u "java/lang/Object"), (0, u "<init>"), (0, u "()V"), (0, .integer 2147483647), (0, .methodref 9 10), (0, .class_ 11), (0, .nameAndType 12 13), (0, u "java/lang/Math"), (0, u "min"), (0, u "(II)I"), (0, .methodref 9 15), (0, .nameAndType 16 13), (0, u "max"), (0, .class_ 18), (0, u "com/example/neat_careplan/neatcareplan/model/TimeOfDay"), (0, .methodref 17 20), (0, .nameAndType 5 21), (0, u "(I)V"), (0, .methodref 17 23), (0, .nameAndType 24 25), (0, u "compareTo"), (0, u "(Lcom/example/neat_careplan/neatcareplan/model/TimeOfDay;)I"), (0, .methodref 27 28), (0, .class_ 29), (0, .nameAndType 30 31), (0, u "com/example/neat_careplan/neatcareplan/model/TimeOfDayCompareToPinLaw"), (0, u "sign"), (0, u "(I)I"), (3, u "law"), (0, u "(III)Z")] 2

def k1m0 : Method := { name := "<init>", desc := "()V", sig := { parameters := [], returnType := none }, accessFlags := 2, code := none }
def k1c1 : Code := { maxStack := 1, maxLocals := 1, code := method_2_code, exceptionTable := #[], attributes := #[] }
def k1m1 : Method := { name := "sign", desc := "(I)I", sig := { parameters := [.int], returnType := some .int }, accessFlags := 10, code := some k1c1 }
def k1c2 : Code := { maxStack := 3, maxLocals := 9, code := code, exceptionTable := #[], attributes := #[] }
def k1m2 : Method := { name := "law", desc := "(III)Z", sig := { parameters := [.int, .int, .int], returnType := some .boolean }, accessFlags := 9, code := some k1c2 }
/-- com/example/neat_careplan/neatcareplan/model/TimeOfDayCompareToPinLaw -/
def k1 : Class := { plain "com/example/neat_careplan/neatcareplan/model/TimeOfDayCompareToPinLaw" (some 0) with
  accessFlags := 49
  interfaces := #[]
  cf := some (fileOf pool1 27 #[] #[{ accessFlags := 2, nameIndex := 5, descriptorIndex := 6, attributes := #[] }, { accessFlags := 10, nameIndex := 30, descriptorIndex := 31, attributes := #[] }, { accessFlags := 9, nameIndex := 35, descriptorIndex := 36, attributes := #[] }] 49 2 #[] #[])
  fields := #[]
  methods := #[k1m0, k1m1, k1m2]
  instanceTypes := #[]
  staticTypes := #[]
  resolved := Array.replicate 39 none
  statics := none }

def pool2 : Array CpInfo := pool [(1, .class_ 2), (0, u "java/lang/Math"), (1, .class_ 6), (1, u "java/lang/Object"), (0, u "<init>"), (0, u "()V"), (89, .class_ 100), (1, u "java/lang/Math$RandomNumberGeneratorHolder"), (71, u "negativeZeroFloatBits"), (0, u "J"), (2, u "negativeZeroDoubleBits"), (21, u "max"), (2, u "min"), (43, u "$assertionsDisabled"), (0, u "Z"), (88, u "(II)I"), (2, u "twoToTheDoubleScaleDown"), (0, u "D"), (4, u "twoToTheDoubleScaleUp"), (9, u "E"), (3, u "PI"), (2, u "TAU"), (2, u "DEGREES_TO_RADIANS"), (0, u "RADIANS_TO_DEGREES")] 94

def k2m0 : Method := { name := "<init>", desc := "()V", sig := { parameters := [], returnType := none }, accessFlags := 2, code := none }
def k2c1 : Code := { maxStack := 2, maxLocals := 2, code := jdk_29_method_65_code, exceptionTable := #[], attributes := #[] }
def k2m1 : Method := { name := "max", desc := "(II)I", sig := { parameters := [.int, .int], returnType := some .int }, accessFlags := 9, code := some k2c1 }
def k2c2 : Code := { maxStack := 2, maxLocals := 2, code := jdk_29_method_69_code, exceptionTable := #[], attributes := #[] }
def k2m2 : Method := { name := "min", desc := "(II)I", sig := { parameters := [.int, .int], returnType := some .int }, accessFlags := 9, code := some k2c2 }
/-- java/lang/Math -/
def k2 : Class := { plain "java/lang/Math" (some 0) with
  accessFlags := 49
  interfaces := #[]
  cf := some (fileOf pool2 1 #[.nestMembers #[98]] #[{ accessFlags := 2, nameIndex := 7, descriptorIndex := 8, attributes := #[] }, { accessFlags := 9, nameIndex := 198, descriptorIndex := 335, attributes := #[] }, { accessFlags := 9, nameIndex := 201, descriptorIndex := 335, attributes := #[] }] 49 4 #[] #[{ accessFlags := 25, nameIndex := 354, descriptorIndex := 339, attributes := #[] }, { accessFlags := 25, nameIndex := 358, descriptorIndex := 339, attributes := #[] }, { accessFlags := 25, nameIndex := 361, descriptorIndex := 339, attributes := #[] }, { accessFlags := 26, nameIndex := 364, descriptorIndex := 339, attributes := #[] }, { accessFlags := 26, nameIndex := 365, descriptorIndex := 339, attributes := #[] }, { accessFlags := 26, nameIndex := 172, descriptorIndex := 173, attributes := #[] }, { accessFlags := 26, nameIndex := 176, descriptorIndex := 173, attributes := #[] }, { accessFlags := 8, nameIndex := 344, descriptorIndex := 339, attributes := #[] }, { accessFlags := 8, nameIndex := 338, descriptorIndex := 339, attributes := #[] }, { accessFlags := 4120, nameIndex := 245, descriptorIndex := 246, attributes := #[] }])
  fields := #[{ name := "E", type := .double, accessFlags := 25, slot := 0, constantValue := 0 }, { name := "PI", type := .double, accessFlags := 25, slot := 1, constantValue := 0 }, { name := "TAU", type := .double, accessFlags := 25, slot := 2, constantValue := 0 }, { name := "DEGREES_TO_RADIANS", type := .double, accessFlags := 26, slot := 3, constantValue := 0 }, { name := "RADIANS_TO_DEGREES", type := .double, accessFlags := 26, slot := 4, constantValue := 0 }, { name := "negativeZeroFloatBits", type := .long, accessFlags := 26, slot := 5, constantValue := 0 }, { name := "negativeZeroDoubleBits", type := .long, accessFlags := 26, slot := 6, constantValue := 0 }, { name := "twoToTheDoubleScaleUp", type := .double, accessFlags := 8, slot := 7, constantValue := 0 }, { name := "twoToTheDoubleScaleDown", type := .double, accessFlags := 8, slot := 8, constantValue := 0 }, { name := "$assertionsDisabled", type := .boolean, accessFlags := 4120, slot := 9, constantValue := 0 }]
  methods := #[k2m0, k2m1, k2m2]
  instanceTypes := #[]
  staticTypes := #[.double, .double, .double, .double, .double, .long, .long, .double, .double, .boolean]
  resolved := Array.replicate 460 none
  statics := none }

def pool3 : Array CpInfo := pool [(1, .methodref 2 3), (0, .class_ 4), (0, .nameAndType 5 6), (0, u "java/lang/Object"), (0, u "<init>"), (0, u "()V"), (0, .class_ 8), (0, u "java/lang/Record")] 13

def k3c0 : Code := { maxStack := 1, maxLocals := 1, code := jdk_30_method_1_code, exceptionTable := #[], attributes := #[] }
def k3m0 : Method := { name := "<init>", desc := "()V", sig := { parameters := [], returnType := none }, accessFlags := 4, code := some k3c0 }
/-- java/lang/Record -/
def k3 : Class := { plain "java/lang/Record" (some 0) with
  accessFlags := 1057
  interfaces := #[]
  cf := some (fileOf pool3 7 #[] #[{ accessFlags := 4, nameIndex := 5, descriptorIndex := 6, attributes := #[] }] 1057 2 #[] #[])
  fields := #[]
  methods := #[k3m0]
  instanceTypes := #[]
  staticTypes := #[]
  resolved := Array.replicate 22 none
  statics := none }

def pool4 : Array CpInfo := pool [(1, .class_ 2), (0, u "java/lang/Comparable"), (0, .class_ 4), (0, u "java/lang/Object")] 7

/-- java/lang/Comparable -/
def k4 : Class := { plain "java/lang/Comparable" (some 0) with
  accessFlags := 1537
  interfaces := #[]
  cf := some (fileOf pool4 1 #[] #[] 1537 3 #[] #[])
  fields := #[]
  methods := #[]
  instanceTypes := #[]
  staticTypes := #[]
  resolved := Array.replicate 12 none
  statics := none }

def pool5 : Array CpInfo := pool [(1, .methodref 2 3), (0, .class_ 4), (0, .nameAndType 5 6), (0, u "java/lang/Record"), (0, u "<init>"), (0, u "()V"), (0, .class_ 8), (0, u "com/example/neat_careplan/neatcareplan/model/TimeOfDay"), (9, .fieldref 7 19), (0, .nameAndType 20 21), (0, u "minutes"), (0, u "I"), (19, u "(I)V"), (0, .methodref 43 44), (0, .class_ 45), (0, .nameAndType 46 47), (0, u "java/lang/Integer"), (0, u "compare"), (0, u "(II)I"), (28, u "compareTo"), (0, u "(Lcom/example/neat_careplan/neatcareplan/model/TimeOfDay;)I"), (7, .class_ 86), (0, u "java/lang/Comparable"), (0, u "MINUTES_PER_DAY"), (2, u "LONGEST_QUOTE")] 48

def k5c0 : Code := { maxStack := 3, maxLocals := 2, code := prog_39_method_1_code, exceptionTable := #[], attributes := #[] }
def k5m0 : Method := { name := "<init>", desc := "(I)V", sig := { parameters := [.int], returnType := none }, accessFlags := 1, code := some k5c0 }
def k5c1 : Code := { maxStack := 2, maxLocals := 2, code := prog_39_method_3_code, exceptionTable := #[], attributes := #[] }
def k5m1 : Method := { name := "compareTo", desc := "(Lcom/example/neat_careplan/neatcareplan/model/TimeOfDay;)I", sig := { parameters := [(.object "com/example/neat_careplan/neatcareplan/model/TimeOfDay")], returnType := some .int }, accessFlags := 1, code := some k5c1 }
/-- com/example/neat_careplan/neatcareplan/model/TimeOfDay -/
def k5 : Class := { plain "com/example/neat_careplan/neatcareplan/model/TimeOfDay" (some 3) with
  accessFlags := 49
  interfaces := #[4]
  cf := some (fileOf pool5 7 #[] #[{ accessFlags := 1, nameIndex := 5, descriptorIndex := 41, attributes := #[] }, { accessFlags := 1, nameIndex := 76, descriptorIndex := 77, attributes := #[] }] 49 2 #[85] #[{ accessFlags := 18, nameIndex := 20, descriptorIndex := 21, attributes := #[] }, { accessFlags := 25, nameIndex := 87, descriptorIndex := 21, attributes := #[] }, { accessFlags := 26, nameIndex := 90, descriptorIndex := 21, attributes := #[] }])
  fields := #[{ name := "minutes", type := .int, accessFlags := 18, slot := 0, constantValue := 0 }, { name := "MINUTES_PER_DAY", type := .int, accessFlags := 25, slot := 0, constantValue := 0 }, { name := "LONGEST_QUOTE", type := .int, accessFlags := 26, slot := 1, constantValue := 0 }]
  methods := #[k5m0, k5m1]
  instanceTypes := #[.int]
  staticTypes := #[.int, .int]
  resolved := Array.replicate 139 none
  statics := none }

def pool6 : Array CpInfo := pool [(1, .class_ 2), (0, u "java/io/Serializable"), (0, .class_ 4), (0, u "java/lang/Object")] 2

/-- java/io/Serializable -/
def k6 : Class := { plain "java/io/Serializable" (some 0) with
  accessFlags := 1537
  interfaces := #[]
  cf := some (fileOf pool6 1 #[] #[] 1537 3 #[] #[])
  fields := #[]
  methods := #[]
  instanceTypes := #[]
  staticTypes := #[]
  resolved := Array.replicate 7 none
  statics := none }

def pool7 : Array CpInfo := pool [(2, .class_ 4), (1, u "java/lang/Object"), (0, u "<init>"), (0, u "()V"), (1, .class_ 10), (1, u "java/lang/Number"), (2, .class_ 14), (0, u "java/io/Serializable"), (0, u "serialVersionUID"), (0, u "J")] 20

def k7m0 : Method := { name := "<init>", desc := "()V", sig := { parameters := [], returnType := none }, accessFlags := 1, code := none }
/-- java/lang/Number -/
def k7 : Class := { plain "java/lang/Number" (some 0) with
  accessFlags := 1057
  interfaces := #[6]
  cf := some (fileOf pool7 8 #[] #[{ accessFlags := 1, nameIndex := 5, descriptorIndex := 6, attributes := #[] }] 1057 2 #[13] #[{ accessFlags := 26, nameIndex := 15, descriptorIndex := 16, attributes := #[] }])
  fields := #[{ name := "serialVersionUID", type := .long, accessFlags := 26, slot := 0, constantValue := 0 }]
  methods := #[k7m0]
  instanceTypes := #[]
  staticTypes := #[.long]
  resolved := Array.replicate 37 none
  statics := none }

def pool8 : Array CpInfo := pool [(1, .class_ 2), (0, u "java/lang/constant/Constable"), (0, .class_ 4), (0, u "java/lang/Object")] 6

/-- java/lang/constant/Constable -/
def k8 : Class := { plain "java/lang/constant/Constable" (some 0) with
  accessFlags := 1537
  interfaces := #[]
  cf := some (fileOf pool8 1 #[] #[] 1537 3 #[] #[])
  fields := #[]
  methods := #[]
  instanceTypes := #[]
  staticTypes := #[]
  resolved := Array.replicate 11 none
  statics := none }

def pool9 : Array CpInfo := pool [(1, .class_ 2), (0, u "java/lang/constant/ConstantDesc"), (0, .class_ 4), (0, u "java/lang/Object")] 32

/-- java/lang/constant/ConstantDesc -/
def k9 : Class := { plain "java/lang/constant/ConstantDesc" (some 0) with
  accessFlags := 1537
  interfaces := #[]
  cf := some (fileOf pool9 1 #[] #[] 1537 3 #[] #[])
  fields := #[]
  methods := #[]
  instanceTypes := #[]
  staticTypes := #[]
  resolved := Array.replicate 37 none
  statics := none }

def pool10 : Array CpInfo := pool [(1, .class_ 2), (0, u "java/lang/Integer"), (16, u "digits"), (0, u "[C"), (39, u "(II)I"), (24, u "DigitOnes"), (0, u "[B"), (2, u "DigitTens"), (99, .class_ 190), (0, u "java/lang/Integer$IntegerCache"), (3, u "I"), (8, .class_ 204), (0, u "java/lang/Number"), (2, u "value"), (53, u "compare"), (40, u "TYPE"), (0, u "Ljava/lang/Class;"), (0, .class_ 305), (0, u "java/lang/Comparable"), (0, .class_ 307), (0, u "java/lang/constant/Constable"), (0, .class_ 309), (0, u "java/lang/constant/ConstantDesc"), (0, u "MIN_VALUE"), (1, u "MAX_VALUE"), (3, u "SIZE"), (1, u "BYTES"), (1, u "serialVersionUID"), (0, u "J")] 131

def k10c0 : Code := { maxStack := 2, maxLocals := 2, code := jdk_33_method_40_code, exceptionTable := #[], attributes := #[] }
def k10m0 : Method := { name := "compare", desc := "(II)I", sig := { parameters := [.int, .int], returnType := some .int }, accessFlags := 9, code := some k10c0 }
/-- java/lang/Integer -/
def k10 : Class := { plain "java/lang/Integer" (some 7) with
  accessFlags := 49
  interfaces := #[4, 8, 9]
  cf := some (fileOf pool10 1 #[.nestMembers #[189]] #[{ accessFlags := 9, nameIndex := 261, descriptorIndex := 60, attributes := #[] }] 49 203 #[304, 306, 308] #[{ accessFlags := 25, nameIndex := 310, descriptorIndex := 194, attributes := #[] }, { accessFlags := 25, nameIndex := 312, descriptorIndex := 194, attributes := #[] }, { accessFlags := 25, nameIndex := 302, descriptorIndex := 303, attributes := #[] }, { accessFlags := 24, nameIndex := 19, descriptorIndex := 20, attributes := #[] }, { accessFlags := 24, nameIndex := 89, descriptorIndex := 86, attributes := #[] }, { accessFlags := 24, nameIndex := 85, descriptorIndex := 86, attributes := #[] }, { accessFlags := 18, nameIndex := 207, descriptorIndex := 194, attributes := #[] }, { accessFlags := 25, nameIndex := 316, descriptorIndex := 194, attributes := #[] }, { accessFlags := 25, nameIndex := 318, descriptorIndex := 194, attributes := #[] }, { accessFlags := 26, nameIndex := 320, descriptorIndex := 321, attributes := #[] }])
  fields := #[{ name := "MIN_VALUE", type := .int, accessFlags := 25, slot := 0, constantValue := 0 }, { name := "MAX_VALUE", type := .int, accessFlags := 25, slot := 1, constantValue := 0 }, { name := "TYPE", type := (.object "java/lang/Class"), accessFlags := 25, slot := 2, constantValue := 0 }, { name := "digits", type := (.array .char), accessFlags := 24, slot := 3, constantValue := 0 }, { name := "DigitTens", type := (.array .byte), accessFlags := 24, slot := 4, constantValue := 0 }, { name := "DigitOnes", type := (.array .byte), accessFlags := 24, slot := 5, constantValue := 0 }, { name := "value", type := .int, accessFlags := 18, slot := 0, constantValue := 0 }, { name := "SIZE", type := .int, accessFlags := 25, slot := 6, constantValue := 0 }, { name := "BYTES", type := .int, accessFlags := 25, slot := 7, constantValue := 0 }, { name := "serialVersionUID", type := .long, accessFlags := 26, slot := 8, constantValue := 0 }]
  methods := #[k10m0]
  instanceTypes := #[.int]
  staticTypes := #[.int, .int, (.object "java/lang/Class"), (.array .char), (.array .byte), (.array .byte), .int, .int, .long]
  resolved := Array.replicate 453 none
  statics := none }

def pool11 : Array CpInfo := pool [(1, u "java/lang/Cloneable"), (0, .class_ 1), (0, u "java/lang/Object"), (0, .class_ 3)] 3

/-- java/lang/Cloneable -/
def k11 : Class := { plain "java/lang/Cloneable" (some 0) with
  accessFlags := 1537
  interfaces := #[]
  cf := some (fileOf pool11 2 #[] #[] 1537 4 #[] #[])
  fields := #[]
  methods := #[]
  instanceTypes := #[]
  staticTypes := #[]
  resolved := Array.replicate 8 none
  statics := none }

/-- the primitive byte -/
def k12 : Class := { plain "byte" none with kind := .primitive 'B', accessFlags := 0x411 }
/-- [B -/
def k13 : Class := { plain "[B" (some 0) with kind := .array 12 .byte, interfaces := #[11, 6], accessFlags := 1041 }

/-- the primitive int -/
def k14 : Class := { plain "int" none with kind := .primitive 'I', accessFlags := 0x411 }
/-- [I -/
def k15 : Class := { plain "[I" (some 0) with kind := .array 14 .int, interfaces := #[11, 6], accessFlags := 1041 }

def heap : Heap := #[]
def classes : Array Class := #[k0, k1, k2, k3, k4, k5, k6, k7, k8, k9, k10, k11, k12, k13, k14, k15]
def interned : List (Array UInt16 × Addr) := []
def slotsUsed : Nat := 0
def theMethod : MethodId := ⟨1, 2⟩
def args0 : Array Value := #[.int 5, .int 77, .int 2]
def aboutOver (below : List Frame) : State where
  vm := { classes := classes, interned := interned.toArray }
  heap := heap
  slotsUsed := slotsUsed
  threads := #[{ frames := .invoking theMethod args0 :: below }]
def below0 : List Frame := [.native { method := ⟨0, 0⟩, args := #[] }]
def about1 : State := aboutOver below0
def p0 : Program := .bare "" "" ""
def e0 : Env := launch0.env 0 0 0
theorem w_frames : about1.frames = Frame.invoking theMethod args0 :: below0 := rfl
set_option maxRecDepth 65536 in
theorem w_args : argsFit about1.vm theMethod args0 = true := by decide +kernel
set_option maxRecDepth 65536 in
theorem w_heap : heapFits about1 = true := by decide +kernel
set_option maxRecDepth 65536 in
theorem w_runnable : about1.curStatus? = some .runnable := by decide +kernel
set_option maxRecDepth 65536 in
theorem w_alone : about1.alone = true := by decide +kernel
set_option maxRecDepth 65536 in
theorem w_named : about1.methodNamed? x = some theMethod := by decide +kernel
set_option maxRecDepth 65536 in
theorem w_hears : about1.hears theMethod below0 = true := by decide +kernel
set_option maxRecDepth 65536 in
theorem w_ripe : about1.ripe theMethod args0 below0 = true := by decide +kernel
theorem w_running : about1.status = .running := rfl
set_option maxRecDepth 65536 in
theorem w_room : about1.hasRoom e0.platform room_1 = true :=
  launch0.hasRoom_least _ room_1 (by decide +kernel) (by decide +kernel) (by decide +kernel) (by decide +kernel) (by decide +kernel) (by decide +kernel)
theorem allAtoms_all (ts : List Jvm.Cond) (a : Array Jvm.Value) (st : Jvm.State) : (allAtoms ts).before a st = ts.all (fun c => c.before a st) := by
  induction ts with
  | nil => rfl
  | cons c t ih =>
    show (Jvm.Cond.and c (allAtoms t)).before a st = _
    rw [Jvm.Cond.before_and, ih, List.all_cons]
def words1 : List Jvm.Cond := Jvm.Cond.code x code maxLocals ret :: tables_1
/-- a 'code' word, met by the world's own term for the bytes: nothing is compared byte by byte -/
theorem code_word {y : MethodName} {bytes : ByteArray} {mx : Nat} {rt : Option FieldType} {a : Array Value} {s : State} {m : MethodId} {meth : Method} {c : Code} (h1 : s.methodNamed? y = some m) (h2 : s.vm.method? m = some meth) (h3 : meth.code = some c) (h4 : c.code = bytes)
    (h5 : (c.maxLocals == mx && c.exceptionTable.isEmpty && decide (c.maxStack ≤ mostOperands) && decide (meth.sig.returnType = rt) && !meth.locks && decide (parseMethodDescriptor y.desc = some meth.sig)) = true) : (Jvm.Cond.code y bytes mx rt).before a s = true := by
  simp only [Bool.and_eq_true, beq_iff_eq, Bool.not_eq_true', decide_eq_true_eq] at h5
  obtain ⟨⟨⟨⟨⟨g1, g2⟩, g3⟩, g4⟩, g5⟩, g6⟩ := h5
  simp [Cond.before, Cond.holds, Cond.value, h1, h2, h3, h4, g1, g2, g3, g4, g5, g6]
def isCode : Jvm.Cond → Bool
  | .code _ _ _ _ => true
  | _ => false
theorem all_split {L : List Jvm.Cond} {P : Jvm.Cond → Bool} (h1 : L.all (fun c => isCode c || P c) = true) (h2 : ∀ c ∈ L.filter isCode, P c = true) : L.all P = true := by
  refine List.all_eq_true.mpr fun c hc => ?_
  have h := List.all_eq_true.mp h1 c hc
  rcases Bool.eq_false_or_eq_true (isCode c) with hi | hi
  · exact h2 c (List.mem_filter.mpr ⟨hc, hi⟩)
  · simpa [hi] using h
set_option maxRecDepth 65536 in
theorem w_c0 : (Jvm.Cond.code x code maxLocals ret).before args0 about1 = true := code_word (m := ⟨1, 2⟩) (meth := k1m2) (c := k1c2) (by decide +kernel) rfl rfl rfl (by decide +kernel)
set_option maxRecDepth 65536 in
theorem w_c1 : (Jvm.Cond.code ({ cls := "java/lang/Math", name := "min", desc := "(II)I" } : Jvm.MethodName) jdk_29_method_69_code (2 : Nat) (Option.some Jvm.ClassFile.FieldType.int)).before args0 about1 = true := code_word (m := ⟨2, 2⟩) (meth := k2m2) (c := k2c2) (by decide +kernel) rfl rfl rfl (by decide +kernel)
set_option maxRecDepth 65536 in
theorem w_c2 : (Jvm.Cond.code ({ cls := "com/example/neat_careplan/neatcareplan/model/TimeOfDay", name := "<init>", desc := "(I)V" } : Jvm.MethodName) prog_39_method_1_code (2 : Nat) (Option.none : Option Jvm.ClassFile.FieldType)).before args0 about1 = true := code_word (m := ⟨5, 0⟩) (meth := k5m0) (c := k5c0) (by decide +kernel) rfl rfl rfl (by decide +kernel)
set_option maxRecDepth 65536 in
theorem w_c3 : (Jvm.Cond.code ({ cls := "java/lang/Record", name := "<init>", desc := "()V" } : Jvm.MethodName) jdk_30_method_1_code (1 : Nat) (Option.none : Option Jvm.ClassFile.FieldType)).before args0 about1 = true := code_word (m := ⟨3, 0⟩) (meth := k3m0) (c := k3c0) (by decide +kernel) rfl rfl rfl (by decide +kernel)
set_option maxRecDepth 65536 in
theorem w_c4 : (Jvm.Cond.code ({ cls := "java/lang/Object", name := "<init>", desc := "()V" } : Jvm.MethodName) object_method_1_code (1 : Nat) (Option.none : Option Jvm.ClassFile.FieldType)).before args0 about1 = true := code_word (m := ⟨0, 0⟩) (meth := k0m0) (c := k0c0) (by decide +kernel) rfl rfl rfl (by decide +kernel)
set_option maxRecDepth 65536 in
theorem w_c5 : (Jvm.Cond.code ({ cls := "com/example/neat_careplan/neatcareplan/model/TimeOfDay", name := "compareTo", desc := "(Lcom/example/neat_careplan/neatcareplan/model/TimeOfDay;)I" } : Jvm.MethodName) prog_39_method_3_code (2 : Nat) (Option.some Jvm.ClassFile.FieldType.int)).before args0 about1 = true := code_word (m := ⟨5, 1⟩) (meth := k5m1) (c := k5c1) (by decide +kernel) rfl rfl rfl (by decide +kernel)
set_option maxRecDepth 65536 in
theorem w_c6 : (Jvm.Cond.code ({ cls := "java/lang/Integer", name := "compare", desc := "(II)I" } : Jvm.MethodName) jdk_33_method_40_code (2 : Nat) (Option.some Jvm.ClassFile.FieldType.int)).before args0 about1 = true := code_word (m := ⟨10, 0⟩) (meth := k10m0) (c := k10c0) (by decide +kernel) rfl rfl rfl (by decide +kernel)
set_option maxRecDepth 65536 in
theorem w_c7 : (Jvm.Cond.code ({ cls := "com/example/neat_careplan/neatcareplan/model/TimeOfDayCompareToPinLaw", name := "sign", desc := "(I)I" } : Jvm.MethodName) method_2_code (1 : Nat) (Option.some Jvm.ClassFile.FieldType.int)).before args0 about1 = true := code_word (m := ⟨1, 1⟩) (meth := k1m1) (c := k1c1) (by decide +kernel) rfl rfl rfl (by decide +kernel)
set_option maxRecDepth 65536 in
theorem w_c8 : (Jvm.Cond.code ({ cls := "java/lang/Math", name := "max", desc := "(II)I" } : Jvm.MethodName) jdk_29_method_65_code (2 : Nat) (Option.some Jvm.ClassFile.FieldType.int)).before args0 about1 = true := code_word (m := ⟨2, 1⟩) (meth := k2m1) (c := k2c1) (by decide +kernel) rfl rfl rfl (by decide +kernel)
def codes1 : List Jvm.Cond := [Jvm.Cond.code x code maxLocals ret, Jvm.Cond.code ({ cls := "java/lang/Math", name := "min", desc := "(II)I" } : Jvm.MethodName) jdk_29_method_69_code (2 : Nat) (Option.some Jvm.ClassFile.FieldType.int), Jvm.Cond.code ({ cls := "com/example/neat_careplan/neatcareplan/model/TimeOfDay", name := "<init>", desc := "(I)V" } : Jvm.MethodName) prog_39_method_1_code (2 : Nat) (Option.none : Option Jvm.ClassFile.FieldType), Jvm.Cond.code ({ cls := "java/lang/Record", name := "<init>", desc := "()V" } : Jvm.MethodName) jdk_30_method_1_code (1 : Nat) (Option.none : Option Jvm.ClassFile.FieldType), Jvm.Cond.code ({ cls := "java/lang/Object", name := "<init>", desc := "()V" } : Jvm.MethodName) object_method_1_code (1 : Nat) (Option.none : Option Jvm.ClassFile.FieldType), Jvm.Cond.code ({ cls := "com/example/neat_careplan/neatcareplan/model/TimeOfDay", name := "compareTo", desc := "(Lcom/example/neat_careplan/neatcareplan/model/TimeOfDay;)I" } : Jvm.MethodName) prog_39_method_3_code (2 : Nat) (Option.some Jvm.ClassFile.FieldType.int), Jvm.Cond.code ({ cls := "java/lang/Integer", name := "compare", desc := "(II)I" } : Jvm.MethodName) jdk_33_method_40_code (2 : Nat) (Option.some Jvm.ClassFile.FieldType.int), Jvm.Cond.code ({ cls := "com/example/neat_careplan/neatcareplan/model/TimeOfDayCompareToPinLaw", name := "sign", desc := "(I)I" } : Jvm.MethodName) method_2_code (1 : Nat) (Option.some Jvm.ClassFile.FieldType.int), Jvm.Cond.code ({ cls := "java/lang/Math", name := "max", desc := "(II)I" } : Jvm.MethodName) jdk_29_method_65_code (2 : Nat) (Option.some Jvm.ClassFile.FieldType.int)]
set_option maxRecDepth 65536 in
theorem codes_eq : words1.filter isCode = codes1 := rfl
theorem w_codes : ∀ c ∈ words1.filter isCode, c.before args0 about1 = true := by
  rw [codes_eq]
  intro c hc
  simp only [codes1, List.mem_cons, List.not_mem_nil, or_false] at hc
  rcases hc with rfl | rfl | rfl | rfl | rfl | rfl | rfl | rfl | rfl
  · exact w_c0
  · exact w_c1
  · exact w_c2
  · exact w_c3
  · exact w_c4
  · exact w_c5
  · exact w_c6
  · exact w_c7
  · exact w_c8
set_option maxRecDepth 65536 in
theorem w_t1 : (words1.take 24).all (fun c => isCode c || c.before args0 about1) = true := by decide +kernel
set_option maxRecDepth 65536 in
theorem w_t2 : (words1.drop 24).all (fun c => isCode c || c.before args0 about1) = true := by decide +kernel
theorem w_tables : (allAtoms (Jvm.Cond.code x code maxLocals ret :: tables_1)).before args0 about1 = true := by
  rw [allAtoms_all]
  show words1.all (fun c => c.before args0 about1) = true
  refine all_split ?_ w_codes
  rw [← List.take_append_drop 24 words1, List.all_append, w_t1, w_t2]
  rfl
set_option maxRecDepth 65536 in
theorem w_case : (Jvm.Cond.and given_1 narrow_1).before args0 about1 = true := by decide +kernel
theorem w_applies : (headSpec (Jvm.Cond.code x code maxLocals ret :: tables_1) room_1).applies x e0.platform about1 = true :=
  (Spec.applies_iff w_frames).mpr ⟨w_running, w_runnable, w_alone, w_named, w_hears, w_ripe, w_room, w_tables⟩
theorem atStart : AtStart classFile x code maxLocals ret World_1 tables_1 room_1 Calls_1 rest_1 Pre_1 launch0 p0 e0 about1 theMethod args0 below0 :=
  ⟨lists_1, trivial, launch0.admits_env _ _ _, launch0.least_env, fairChoices_fair.cas, fairChoices_fair.clock, w_frames, w_args, w_heap, w_applies, trivial, trivial, w_case⟩
end start1
theorem witness_1 : WitnessClaimed_1 := ⟨start1.p0, start1.e0, start1.about1, start1.theMethod, start1.args0, start1.below0, start1.atStart⟩
end Jvm.Pilot.@@N@@
