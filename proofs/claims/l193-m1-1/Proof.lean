import JvmDerived
import JvmDerived.Pilot.@@N@@Statement
import JvmDerived.Pilot.@@N@@Code
set_option linter.unusedVariables false
set_option linter.unusedSimpArgs false
namespace Jvm.RoadKit
open Sem ClassFile Op Lib Jvm.Stand Jvm.Free Jvm.LawKit
section New
variable {p : Program} {l : Launch} {e : Env} {R : Room} {s : State} {m : MethodId} {args : Array Value} {below : List Frame} {meth : Method} {c : Code} {T : State} {locs : List Loc} {cells slots : Nat}
theorem retI (X : Stand p l e R s m args below meth c T locs cells slots) (hx : p.tables.exec = Jvm.exec) {pc : Nat} {Ls : Array Slot} {z : Int32} {rest : List Value} (hret : meth.sig.returnType = some .int) (hd : decode c.code pc = .ok (.ireturn, 1)) {fs : List Frame}
    (hl : ∀ (f : JFrame) (acts : List Action), f.method = m → f.locked = none → f.entered = [] → (doReturn e (T.setTop f) acts (some (.int z))).1 = T.setFrames fs) : Steps p.tables e below (T.setTop (mkF m pc Ls (.int z :: rest))) (T.setFrames fs) := by
  have hm' : T.vm.method? m = some meth := X.method'
  have hn : narrow .int (.int z) = .int z := rfl
  show Steps p.tables e below (T.setTop { method := m, pc := pc, locals := Ls, stack := _ :: rest, locked := none }) _
  jvm_step X.here [X.here.top, hx, hd, hm', hret, hn]
  first | (intro acts; rw [hl _ acts rfl rfl rfl]) | rw [hl _ _ rfl rfl rfl]
  exact Steps.refl _
end New
end Jvm.RoadKit
namespace Jvm.Pilot.@@N@@
open Jvm Jvm.ClassFile Sem Op Lib Jvm.Free Jvm.Stand Jvm.LawKit Jvm.RoadKit Bundle Jvm.Pilot.@@N@@.Jvm.D

theorem d1_0 : decode prog_1_method_1_code 0 = .ok (.aload_n 0, 1) := by decide +kernel
theorem d1_1 : decode prog_1_method_1_code 1 = .ok (.invokespecial 1, 3) := by decide +kernel
theorem d1_4 : decode prog_1_method_1_code 4 = .ok (.aload_n 0, 1) := by decide +kernel
theorem d1_5 : decode prog_1_method_1_code 5 = .ok (.lload_n 1, 1) := by decide +kernel
theorem d1_6 : decode prog_1_method_1_code 6 = .ok (.putfield 7, 3) := by decide +kernel
theorem d1_9 : decode prog_1_method_1_code 9 = .ok (.aload_n 0, 1) := by decide +kernel
theorem d1_10 : decode prog_1_method_1_code 10 = .ok (.lload_n 3, 1) := by decide +kernel
theorem d1_11 : decode prog_1_method_1_code 11 = .ok (.putfield 13, 3) := by decide +kernel
theorem d1_14 : decode prog_1_method_1_code 14 = .ok (.return_, 1) := by decide +kernel
theorem pn1 : plainName "com/example/orlok/orlok/Deadline" = true := by first | (simp [plainName, overriddenIn]; done) | decide +kernel
theorem ef1 (m : MethodId) (x0 : Addr) (x1 : Int64) (x2 : Int64) : entryFrame m #[(.ref x0), (.long x1), (.long x2)] 5 = mkF m 0 #[.val (.ref x0), .val (.long x1), .second, .val (.long x2), .second] [] := by first | (simp [entryFrame, mkF, argsToLocals, Value.category]; done) | rfl
def Q1 (Z : State) (x0 : Addr) (x1 : Int64) (x2 : Int64) (u0 : Value) (u1 : Value) (h0 : Heap) (n0 : Nat) (v : Option Value) (h : Heap) (L : List Loc) : Prop := v = none ∧ Fr n0 L ∧ Keep h0 h [x0] ∧ Exa Z h x0 "com/example/orlok/orlok/Deadline" ∧ Fld Z h x0 "com/example/orlok/orlok/Deadline" "startNanos" "J" (.long x1) ∧ Fld Z h x0 "com/example/orlok/orlok/Deadline" "lengthNanos" "J" (.long x2)
set_option maxRecDepth 65536 in
set_option maxHeartbeats 40000000 in
theorem rm1 (l : Launch) (Z : State) (a0 : Array Value) (hw : ∀ d ∈ tables_1, d.before a0 Z = true) (ws : List Jvm.Cond) (x0 : Addr) (x1 : Int64) (x2 : Int64) (u0 : Value) (u1 : Value) (h0 : Heap) (n0 : Nat) (Z0 : n0 ≤ h0.size) (B0 : Exa Z h0 x0 "com/example/orlok/orlok/Deadline") (B1 : Fld Z h0 x0 "com/example/orlok/orlok/Deadline" "startNanos" "J" u0) (B2 : Fld Z h0 x0 "com/example/orlok/orlok/Deadline" "lengthNanos" "J" u1) (g_x0 : n0 ≤ x0) :
    MetFree l (⟨"com/example/orlok/orlok/Deadline", "<init>", "(JJ)V"⟩ : MethodName) (head1 (Jvm.Cond.code (⟨"com/example/orlok/orlok/Deadline", "<init>", "(JJ)V"⟩ : MethodName) prog_1_method_1_code 5 none :: ws) ({ frames := 1, cells := 0, slots := 0, locals := 12 } : Room)) (fun a U => a = #[(.ref x0), (.long x1), (.long x2)] ∧ Z.Warmed39 U.vm ∧ U.heap = h0) (fun _ _ _ _ _ => True) (fun _ U o U' => ∃ v L, o = .returned v ∧ Q1 Z x0 x1 x2 u0 u1 h0 n0 v U'.heap L ∧ FrameEnd U o U' L ({ frames := 1, cells := 0, slots := 0, locals := 12 } : Room).cells ({ frames := 1, cells := 0, slots := 0, locals := 12 } : Room).slots) := by
  refine MetFree.of_bodySF (plainFor_of_name pn1) hisR ?_
  intro p e s m args below meth c s₁ Bd hml0 hP hK
  obtain ⟨rfl, hZ, hh⟩ := hP
  have hx := Bd.exec
  have hby := Bd.bytes
  have hml : c.maxLocals = 5 := hml0
  have hown : s.vm.findClass "com/example/orlok/orlok/Deadline" = some m.cls := findClass_of_methodNamed Bd.named
  have hnm := (name_of_methodNamed Bd.named Bd.method).1
  have X0 : Stand p l e ({ frames := 1, cells := 0, slots := 0, locals := 12 } : Room) s m #[(.ref x0), (.long x1), (.long x2)] below meth c s₁ [] 0 0 := Stand.of_body Bd
  have e0 : s₁.heap = h0 := by rw [← hh, Bd.state]; rfl
  have N0 := Fr.nil n0
  have pre0 : Steps p.tables e below (s₁.setTop (entryFrame m #[(.ref x0), (.long x1), (.long x2)] 5)) (s₁.setTop (mkF m 0 #[.val (.ref x0), .val (.long x1), .second, .val (.long x2), .second] [])) := castTop (ef1 m x0 x1 x2) (Steps.refl _)
  have K0 := Keep.refl h0 [x0]
  have st1 : Steps p.tables e below (s₁.setTop (mkF m 0 #[.val (.ref x0), .val (.long x1), .second, .val (.long x2), .second] [])) (s₁.setTop (mkF m 1 #[.val (.ref x0), .val (.long x1), .second, .val (.long x2), .second] [(.ref x0)])) := by
    refine XS.aloadN X0.here hx rfl (hb hby d1_0) rfl rfl ?_
    show Steps p.tables e below (s₁.setTop (mkF m 1 #[.val (.ref x0), .val (.long x1), .second, .val (.long x2), .second] [(.ref x0)])) _
    exact Steps.refl _
  have pre1 := pre0.trans st1
  obtain ⟨T2, X2, e2, st2⟩ := initO X0 hx hZ hown (hw _ (List.mem_of_getElem? (i := 11) rfl)) (hw _ (List.mem_of_getElem? (i := 12) rfl)) (hw _ (List.mem_of_getElem? (i := 13) rfl)) e0 (g := (mkF m 1 #[.val (.ref x0), .val (.long x1), .second, .val (.long x2), .second] [(.ref x0)])) rfl (by rw [hml]; rfl) rfl (hb hby d1_1) (by decide) (W := 0) (by show 2 * 0 + _ ≤ _; exact Nat.le_of_eq rfl) (by decide)
  have pre2 : Steps p.tables e below (s₁.setTop (entryFrame m #[(.ref x0), (.long x1), (.long x2)] 5)) (T2.setTop (mkF m 4 #[.val (.ref x0), .val (.long x1), .second, .val (.long x2), .second] [])) := pre1.trans (st2 _ (Steps.refl _))
  have st3 : Steps p.tables e below (T2.setTop (mkF m 4 #[.val (.ref x0), .val (.long x1), .second, .val (.long x2), .second] [])) (T2.setTop (mkF m 6 #[.val (.ref x0), .val (.long x1), .second, .val (.long x2), .second] [(.long x1), (.ref x0)])) := by
    refine XS.aloadN X2.here hx rfl (hb hby d1_4) rfl rfl ?_
    show Steps p.tables e below (T2.setTop (mkF m 5 #[.val (.ref x0), .val (.long x1), .second, .val (.long x2), .second] [(.ref x0)])) _
    refine XS.lloadN X2.here hx rfl (hb hby d1_5) rfl ?_
    show Steps p.tables e below (T2.setTop (mkF m 6 #[.val (.ref x0), .val (.long x1), .second, .val (.long x2), .second] [(.long x1), (.ref x0)])) _
    exact Steps.refl _
  have pre3 := pre2.trans st3
  obtain ⟨T4, h4, X4, e4, W4, st4⟩ := putF X2 hx hZ hown (host := "") (Or.inl (hw _ (List.mem_of_getElem? (i := 14) rfl))) Via.refl e2 B1 B0 (Or.inr ⟨(hw _ (List.mem_of_getElem? (i := 15) rfl)), rfl, hnm⟩) (hw _ (List.mem_of_getElem? (i := 6) rfl)) (ty := .long) (by decide) rfl rfl (g := (mkF m 6 #[.val (.ref x0), .val (.long x1), .second, .val (.long x2), .second] [(.long x1), (.ref x0)])) rfl rfl (hb hby d1_6)
  have pre4 : Steps p.tables e below (s₁.setTop (entryFrame m #[(.ref x0), (.long x1), (.long x2)] 5)) (T4.setTop (mkF m 9 #[.val (.ref x0), .val (.long x1), .second, .val (.long x2), .second] [])) := pre3.trans (st4 _ (Steps.refl _))
  have F5 : Exa Z h4 x0 "com/example/orlok/orlok/Deadline" := B0.wr W4
  have F7 : Fld Z h4 x0 "com/example/orlok/orlok/Deadline" "lengthNanos" "J" u1 := B2.other W4 (Or.inr (slot_ne (Or.inr (hw _ (List.mem_of_getElem? (i := 17) rfl))) (Or.inr (hw _ (List.mem_of_getElem? (i := 15) rfl))) (by decide) (t := .long) (t' := .long) (by decide) (by decide)))
  have K4 := K0.wr W4 (Or.inl (List.mem_of_getElem? (i := 0) rfl))
  have Z4 : n0 ≤ h4.size := Nat.le_trans Z0 (Keep.of_wr W4).1
  have Fw4 : Fld Z h4 x0 "com/example/orlok/orlok/Deadline" "startNanos" "J" (.long x1) := B1.same W4
  have N4 := Fr.snoc X4 N0 g_x0
  have st8 : Steps p.tables e below (T4.setTop (mkF m 9 #[.val (.ref x0), .val (.long x1), .second, .val (.long x2), .second] [])) (T4.setTop (mkF m 11 #[.val (.ref x0), .val (.long x1), .second, .val (.long x2), .second] [(.long x2), (.ref x0)])) := by
    refine XS.aloadN X4.here hx rfl (hb hby d1_9) rfl rfl ?_
    show Steps p.tables e below (T4.setTop (mkF m 10 #[.val (.ref x0), .val (.long x1), .second, .val (.long x2), .second] [(.ref x0)])) _
    refine XS.lloadN X4.here hx rfl (hb hby d1_10) rfl ?_
    show Steps p.tables e below (T4.setTop (mkF m 11 #[.val (.ref x0), .val (.long x1), .second, .val (.long x2), .second] [(.long x2), (.ref x0)])) _
    exact Steps.refl _
  have pre8 := pre4.trans st8
  obtain ⟨T9, h9, X9, e9, W9, st9⟩ := putF X4 hx hZ hown (host := "") (Or.inl (hw _ (List.mem_of_getElem? (i := 16) rfl))) Via.refl e4 F7 F5 (Or.inr ⟨(hw _ (List.mem_of_getElem? (i := 17) rfl)), rfl, hnm⟩) (hw _ (List.mem_of_getElem? (i := 6) rfl)) (ty := .long) (by decide) rfl rfl (g := (mkF m 11 #[.val (.ref x0), .val (.long x1), .second, .val (.long x2), .second] [(.long x2), (.ref x0)])) rfl rfl (hb hby d1_11)
  have pre9 : Steps p.tables e below (s₁.setTop (entryFrame m #[(.ref x0), (.long x1), (.long x2)] 5)) (T9.setTop (mkF m 14 #[.val (.ref x0), .val (.long x1), .second, .val (.long x2), .second] [])) := pre8.trans (st9 _ (Steps.refl _))
  have F10 : Exa Z h9 x0 "com/example/orlok/orlok/Deadline" := F5.wr W9
  have F12 : Fld Z h9 x0 "com/example/orlok/orlok/Deadline" "startNanos" "J" (.long x1) := Fw4.other W9 (Or.inr (slot_ne (Or.inr (hw _ (List.mem_of_getElem? (i := 15) rfl))) (Or.inr (hw _ (List.mem_of_getElem? (i := 17) rfl))) (by decide) (t := .long) (t' := .long) (by decide) (by decide)))
  have K9 := K4.wr W9 (Or.inl (List.mem_of_getElem? (i := 0) rfl))
  have Z9 : n0 ≤ h9.size := Nat.le_trans Z4 (Keep.of_wr W9).1
  have Fw9 : Fld Z h9 x0 "com/example/orlok/orlok/Deadline" "lengthNanos" "J" (.long x2) := F7.same W9
  have N9 := Fr.snoc X9 N4 g_x0
  obtain ⟨fs, hr, hrun, hended, hW, hsame⟩ := X9.leave (v := none) (fun _ => rfl)
  refine ⟨_, _, pre9.trans ?_, hrun, hended, _, _, rfl, ?_, ⟨_, rfl⟩, hW, hsame.mono (by decide) (by decide)⟩
  · show Steps p.tables e below (T9.setTop (mkF m 14 #[.val (.ref x0), .val (.long x1), .second, .val (.long x2), .second] [])) _
    exact X9.returnOut hx Bd.returns (hb hby d1_14) hr
  · show Q1 Z x0 x1 x2 u0 u1 h0 n0 _ T9.heap _
    rw [e9]
    exact ⟨rfl, N9, K9, F10, F12, Fw9⟩
theorem d2_0 : decode prog_1_method_3_code 0 = .ok (.new 8, 3) := by decide +kernel
theorem d2_3 : decode prog_1_method_3_code 3 = .ok (.dup, 1) := by decide +kernel
theorem d2_4 : decode prog_1_method_3_code 4 = .ok (.lload_n 0, 1) := by decide +kernel
theorem d2_5 : decode prog_1_method_3_code 5 = .ok (.ldc2_w 29, 3) := by decide +kernel
theorem d2_8 : decode prog_1_method_3_code 8 = .ok (.invokespecial 26, 3) := by decide +kernel
theorem d2_11 : decode prog_1_method_3_code 11 = .ok (.areturn, 1) := by decide +kernel
theorem pn2 : plainName "com/example/orlok/orlok/Deadline" = true := by first | (simp [plainName, overriddenIn]; done) | decide +kernel
theorem pd2_0 : parseMethodDescriptor "(JJ)V" = some ⟨[.long, .long], none⟩ := by decide +kernel
theorem ef2 (m : MethodId) (x0 : Int64) : entryFrame m #[(.long x0)] 2 = mkF m 0 #[.val (.long x0), .second] [] := by first | (simp [entryFrame, mkF, argsToLocals, Value.category]; done) | rfl
def Q2 (Z : State) (x0 : Int64) (h0 : Heap) (n0 : Nat) (v : Option Value) (h : Heap) (L : List Loc) : Prop := ∃ res : Addr, v = some (.ref res) ∧ Fr n0 L ∧ Keep h0 h [] ∧ h0.size ≤ res ∧ Exa Z h res "com/example/orlok/orlok/Deadline" ∧ Fld Z h res "com/example/orlok/orlok/Deadline" "startNanos" "J" (.long x0) ∧ Fld Z h res "com/example/orlok/orlok/Deadline" "lengthNanos" "J" (.long (-1 : Int64))
set_option maxRecDepth 65536 in
set_option maxHeartbeats 40000000 in
theorem rm2 (l : Launch) (Z : State) (a0 : Array Value) (hw : ∀ d ∈ tables_1, d.before a0 Z = true) (ws : List Jvm.Cond) (x0 : Int64) (h0 : Heap) (n0 : Nat) (Z0 : n0 ≤ h0.size) :
    MetFree l (⟨"com/example/orlok/orlok/Deadline", "passedAt", "(J)Lcom/example/orlok/orlok/Deadline;"⟩ : MethodName) (head1 (Jvm.Cond.code (⟨"com/example/orlok/orlok/Deadline", "passedAt", "(J)Lcom/example/orlok/orlok/Deadline;"⟩ : MethodName) prog_1_method_3_code 2 (some (.object "com/example/orlok/orlok/Deadline")) :: ws) ({ frames := 2, cells := 1, slots := 2, locals := 29 } : Room)) (fun a U => a = #[(.long x0)] ∧ Z.Warmed39 U.vm ∧ U.heap = h0) (fun _ _ _ _ _ => True) (fun _ U o U' => ∃ v L, o = .returned v ∧ Q2 Z x0 h0 n0 v U'.heap L ∧ FrameEnd U o U' L ({ frames := 2, cells := 1, slots := 2, locals := 29 } : Room).cells ({ frames := 2, cells := 1, slots := 2, locals := 29 } : Room).slots) := by
  refine MetFree.of_bodySF (plainFor_of_name pn2) hisR ?_
  intro p e s m args below meth c s₁ Bd hml0 hP hK
  obtain ⟨rfl, hZ, hh⟩ := hP
  have hx := Bd.exec
  have hby := Bd.bytes
  have hml : c.maxLocals = 2 := hml0
  have hown : s.vm.findClass "com/example/orlok/orlok/Deadline" = some m.cls := findClass_of_methodNamed Bd.named
  have hnm := (name_of_methodNamed Bd.named Bd.method).1
  have X0 : Stand p l e ({ frames := 2, cells := 1, slots := 2, locals := 29 } : Room) s m #[(.long x0)] below meth c s₁ [] 0 0 := Stand.of_body Bd
  have e0 : s₁.heap = h0 := by rw [← hh, Bd.state]; rfl
  have N0 := Fr.nil n0
  have pre0 : Steps p.tables e below (s₁.setTop (entryFrame m #[(.long x0)] 2)) (s₁.setTop (mkF m 0 #[.val (.long x0), .second] [])) := castTop (ef2 m x0) (Steps.refl _)
  have K0 := Keep.refl h0 []
  obtain ⟨T1, h1, X1, e1, E1, A1, D1, -, st1⟩ := newO X0 hx hZ hown (hw _ (List.mem_of_getElem? (i := 5) rfl)) (hw _ (List.mem_of_getElem? (i := 6) rfl)) (hw _ (List.mem_of_getElem? (i := 3) rfl)) e0 (g := (mkF m 0 #[.val (.long x0), .second] [])) rfl (hb hby d2_0) (by decide) (by decide)
  obtain ⟨b1, g1⟩ : ∃ z, z = h0.size := ⟨_, rfl⟩
  rw [← g1] at A1 D1 st1
  have pre1 : Steps p.tables e below (s₁.setTop (entryFrame m #[(.long x0)] 2)) (T1.setTop (mkF m 3 #[.val (.long x0), .second] [(.ref b1)])) := pre0.trans (st1 _ (Steps.refl _))
  have gn1 : n0 ≤ b1 := Nat.le_trans Z0 (Nat.le_of_eq g1.symm)
  have sz1 : h0.size ≤ b1 := Nat.le_trans K0.1 (Nat.le_of_eq g1.symm)
  have K1 := K0.ext E1
  have Z1 : n0 ≤ h1.size := Nat.le_trans Z0 E1.1
  have F2 : Fld Z h1 b1 "com/example/orlok/orlok/Deadline" "startNanos" "J" (.long (0 : Int64)) := D1 (Or.inr (hw _ (List.mem_of_getElem? (i := 15) rfl))) (ty := .long) (by decide)
  have F3 : Fld Z h1 b1 "com/example/orlok/orlok/Deadline" "lengthNanos" "J" (.long (0 : Int64)) := D1 (Or.inr (hw _ (List.mem_of_getElem? (i := 17) rfl))) (ty := .long) (by decide)
  have st4 : Steps p.tables e below (T1.setTop (mkF m 3 #[.val (.long x0), .second] [(.ref b1)])) (T1.setTop (mkF m 8 #[.val (.long x0), .second] [(.long (-1 : Int64)), (.long x0), (.ref b1), (.ref b1)])) := by
    refine XS.dup X1.here hx rfl (hb hby d2_3) rfl rfl ?_
    show Steps p.tables e below (T1.setTop (mkF m 4 #[.val (.long x0), .second] [(.ref b1), (.ref b1)])) _
    refine XS.lloadN X1.here hx rfl (hb hby d2_4) rfl ?_
    show Steps p.tables e below (T1.setTop (mkF m 5 #[.val (.long x0), .second] [(.long x0), (.ref b1), (.ref b1)])) _
    refine X1.ldc2Long hx hown (mvT hZ (hw _ (List.mem_of_getElem? (i := 7) rfl))) (g := (mkF m 5 #[.val (.long x0), .second] [(.long x0), (.ref b1), (.ref b1)])) rfl (hb hby d2_5) _ ?_
    show Steps p.tables e below (T1.setTop (mkF m 8 #[.val (.long x0), .second] [(.long (-1 : Int64)), (.long x0), (.ref b1), (.ref b1)])) _
    exact Steps.refl _
  have pre4 := pre1.trans st4
  obtain ⟨_, _, ⟨T5, L5, k5, n5⟩, -, X5, ⟨Lc5, hQ5, l5, y5, z5⟩, st5⟩ := X1.specialBack hx (y := (⟨"com/example/orlok/orlok/Deadline", "<init>", "(JJ)V"⟩ : MethodName)) rfl hown (mvT hZ (hw _ (List.mem_of_getElem? (i := 8) rfl))) (mvT hZ (hw _ (List.mem_of_getElem? (i := 9) rfl))) (mvT hZ (hw _ (List.mem_of_getElem? (i := 10) rfl))) (by decide) (backOf (W := 1) (rm1 l Z a0 hw [] b1 x0 (-1 : Int64) (.long (0 : Int64)) (.long (0 : Int64)) h1 n0 Z1 A1 F2 F3 gn1) hZ (hw _ (List.mem_of_getElem? (i := 10) rfl)) (hw _ (List.mem_of_getElem? (i := 3) rfl)) (by decide) (by decide)) (g := (mkF m 8 #[.val (.long x0), .second] [(.long (-1 : Int64)), (.long x0), (.ref b1), (.ref b1)])) rfl (by rw [hml]; rfl) (Steps.refl _) (a := b1) (argsL := [(.long x0), (.long (-1 : Int64))]) (rest := [(.ref b1)]) (lenOf pd2_0 rfl) rfl (by show 2 * 0 + _ ≤ _; exact Nat.le_of_eq rfl) (hb hby d2_8) (fun _ _ => ⟨rfl, e1, (by decide : 1 + 0 ≤ _), (by decide : 2 + 0 ≤ _)⟩)
  dsimp only [Pt.U, Pt.locs, Pt.cells, Pt.slots] at X5 l5 y5 z5 st5 hQ5
  subst l5 y5 z5
  obtain ⟨rfl, Nq5, Kq5, P5_0, P5_1, P5_2⟩ := hQ5
  have F6 : Exa Z T5.heap b1 "com/example/orlok/orlok/Deadline" := A1.keep Kq5
  have KK5 := K1.trans Kq5 (allS (Or.inr sz1) all0)
  have Z5 : n0 ≤ T5.heap.size := Nat.le_trans Z1 Kq5.1
  have N5 := Fr.app N0 Nq5
  have pre5 : Steps p.tables e below (s₁.setTop (entryFrame m #[(.long x0)] 2)) (T5.setTop (mkF m 11 #[.val (.long x0), .second] [(.ref b1)])) := pre4.trans st5
  obtain ⟨fs, hr, hrun, hended, hW, hsame⟩ := X5.leave (v := some (.ref b1)) (fun h => by rw [Bd.returns] at h; cases h)
  refine ⟨_, _, pre5.trans ?_, hrun, hended, _, _, rfl, ?_, ⟨_, rfl⟩, hW, hsame.mono (by decide) (by decide)⟩
  · show Steps p.tables e below (T5.setTop (mkF m 11 #[.val (.long x0), .second] [(.ref b1)])) _
    jvm_step X5.here [X5.here.top, hx, (hb hby d2_11), X5.method', Bd.returns, Value.isRef, FieldType.isReference]
    first | (intro acts; rw [hr _ acts rfl rfl rfl]) | rw [hr _ _ rfl rfl rfl]
    exact Steps.refl _
  · show Q2 Z x0 h0 n0 _ T5.heap _
    exact ⟨b1, rfl, N5, KK5, sz1, F6, P5_1, P5_2⟩
theorem d3_0 : decode prog_1_method_4_code 0 = .ok (.aload_n 0, 1) := by decide +kernel
theorem d3_1 : decode prog_1_method_4_code 1 = .ok (.getfield 13, 3) := by decide +kernel
theorem d3_4 : decode prog_1_method_4_code 4 = .ok (.ldc2_w 33, 3) := by decide +kernel
theorem d3_7 : decode prog_1_method_4_code 7 = .ok (.lcmp, 1) := by decide +kernel
theorem d3_8 : decode prog_1_method_4_code 8 = .ok (.ifCond .ne 9, 3) := by decide +kernel
theorem d3_11 : decode prog_1_method_4_code 11 = .ok (.ldc2_w 33, 3) := by decide +kernel
theorem d3_14 : decode prog_1_method_4_code 14 = .ok (.goto 14, 3) := by decide +kernel
theorem d3_17 : decode prog_1_method_4_code 17 = .ok (.aload_n 0, 1) := by decide +kernel
theorem d3_18 : decode prog_1_method_4_code 18 = .ok (.getfield 13, 3) := by decide +kernel
theorem d3_21 : decode prog_1_method_4_code 21 = .ok (.lload_n 1, 1) := by decide +kernel
theorem d3_22 : decode prog_1_method_4_code 22 = .ok (.aload_n 0, 1) := by decide +kernel
theorem d3_23 : decode prog_1_method_4_code 23 = .ok (.getfield 7, 3) := by decide +kernel
theorem d3_26 : decode prog_1_method_4_code 26 = .ok (.lsub, 1) := by decide +kernel
theorem d3_27 : decode prog_1_method_4_code 27 = .ok (.lsub, 1) := by decide +kernel
theorem d3_28 : decode prog_1_method_4_code 28 = .ok (.lreturn, 1) := by decide +kernel
theorem pn3 : plainName "com/example/orlok/orlok/Deadline" = true := by first | (simp [plainName, overriddenIn]; done) | decide +kernel
theorem ef3 (m : MethodId) (x0 : Addr) (x1 : Int64) : entryFrame m #[(.ref x0), (.long x1)] 3 = mkF m 0 #[.val (.ref x0), .val (.long x1), .second] [] := by first | (simp [entryFrame, mkF, argsToLocals, Value.category]; done) | rfl
def own_F3 (x0 : Addr) (x1 : Int64) (w0 : Int64) (w1 : Int64) : Int64 := (if w0 = (9223372036854775807 : Int64) then (9223372036854775807 : Int64) else (w0 - (x1 - w1)))
def Q3 (Z : State) (x0 : Addr) (x1 : Int64) (w0 : Int64) (w1 : Int64) (h0 : Heap) (n0 : Nat) (v : Option Value) (h : Heap) (L : List Loc) : Prop := v = some (.long (own_F3 x0 x1 w0 w1)) ∧ Fr n0 L ∧ h = h0
set_option maxRecDepth 65536 in
set_option maxHeartbeats 40000000 in
theorem rm3 (l : Launch) (Z : State) (a0 : Array Value) (hw : ∀ d ∈ tables_1, d.before a0 Z = true) (ws : List Jvm.Cond) (x0 : Addr) (x1 : Int64) (w0 : Int64) (w1 : Int64) (h0 : Heap) (n0 : Nat) (Z0 : n0 ≤ h0.size) (B0 : Fld Z h0 x0 "com/example/orlok/orlok/Deadline" "lengthNanos" "J" (.long w0)) (B1 : Fld Z h0 x0 "com/example/orlok/orlok/Deadline" "startNanos" "J" (.long w1)) :
    MetFree l (⟨"com/example/orlok/orlok/Deadline", "nanosLeftAt", "(J)J"⟩ : MethodName) (head1 (Jvm.Cond.code (⟨"com/example/orlok/orlok/Deadline", "nanosLeftAt", "(J)J"⟩ : MethodName) prog_1_method_4_code 3 (some .long) :: ws) ({ frames := 0, cells := 0, slots := 0, locals := 0 } : Room)) (fun a U => a = #[(.ref x0), (.long x1)] ∧ Z.Warmed39 U.vm ∧ U.heap = h0) (fun _ _ _ _ _ => True) (fun _ U o U' => ∃ v L, o = .returned v ∧ Q3 Z x0 x1 w0 w1 h0 n0 v U'.heap L ∧ FrameEnd U o U' L ({ frames := 0, cells := 0, slots := 0, locals := 0 } : Room).cells ({ frames := 0, cells := 0, slots := 0, locals := 0 } : Room).slots) := by
  refine MetFree.of_bodySF (plainFor_of_name pn3) hisR ?_
  intro p e s m args below meth c s₁ Bd hml0 hP hK
  obtain ⟨rfl, hZ, hh⟩ := hP
  have hx := Bd.exec
  have hby := Bd.bytes
  have hml : c.maxLocals = 3 := hml0
  have hown : s.vm.findClass "com/example/orlok/orlok/Deadline" = some m.cls := findClass_of_methodNamed Bd.named
  have hnm := (name_of_methodNamed Bd.named Bd.method).1
  have X0 : Stand p l e ({ frames := 0, cells := 0, slots := 0, locals := 0 } : Room) s m #[(.ref x0), (.long x1)] below meth c s₁ [] 0 0 := Stand.of_body Bd
  have e0 : s₁.heap = h0 := by rw [← hh, Bd.state]; rfl
  have N0 := Fr.nil n0
  have pre0 : Steps p.tables e below (s₁.setTop (entryFrame m #[(.ref x0), (.long x1)] 3)) (s₁.setTop (mkF m 0 #[.val (.ref x0), .val (.long x1), .second] [])) := castTop (ef3 m x0 x1) (Steps.refl _)
  have st1 : Steps p.tables e below (s₁.setTop (mkF m 0 #[.val (.ref x0), .val (.long x1), .second] [])) (s₁.setTop (mkF m 1 #[.val (.ref x0), .val (.long x1), .second] [(.ref x0)])) := by
    refine XS.aloadN X0.here hx rfl (hb hby d3_0) rfl rfl ?_
    show Steps p.tables e below (s₁.setTop (mkF m 1 #[.val (.ref x0), .val (.long x1), .second] [(.ref x0)])) _
    exact Steps.refl _
  have pre1 := pre0.trans st1
  obtain ⟨T2, X2, e2, st2⟩ := getF X0 hx hZ hown (host := "") (Or.inl (hw _ (List.mem_of_getElem? (i := 16) rfl))) Via.refl e0 B0 (g := (mkF m 1 #[.val (.ref x0), .val (.long x1), .second] [(.ref x0)])) rfl rfl (hb hby d3_1)
  have pre2 : Steps p.tables e below (s₁.setTop (entryFrame m #[(.ref x0), (.long x1)] 3)) (T2.setTop (mkF m 4 #[.val (.ref x0), .val (.long x1), .second] [(.long w0)])) := pre1.trans (st2 _ (Steps.refl _))
  have st3 : Steps p.tables e below (T2.setTop (mkF m 4 #[.val (.ref x0), .val (.long x1), .second] [(.long w0)])) (T2.setTop (mkF m 8 #[.val (.ref x0), .val (.long x1), .second] [(.int (lcmpW w0 (9223372036854775807 : Int64)))])) := by
    refine X2.ldc2Long hx hown (mvT hZ (hw _ (List.mem_of_getElem? (i := 23) rfl))) (g := (mkF m 4 #[.val (.ref x0), .val (.long x1), .second] [(.long w0)])) rfl (hb hby d3_4) _ ?_
    show Steps p.tables e below (T2.setTop (mkF m 7 #[.val (.ref x0), .val (.long x1), .second] [(.long (9223372036854775807 : Int64)), (.long w0)])) _
    refine XS.lcmp X2.here hx rfl (hb hby d3_7) rfl ?_
    show Steps p.tables e below (T2.setTop (mkF m 8 #[.val (.ref x0), .val (.long x1), .second] [(.int (lcmpW w0 (9223372036854775807 : Int64)))])) _
    exact Steps.refl _
  have pre3 := pre2.trans st3
  by_cases hc8 : w0 = (9223372036854775807 : Int64)
  · have st4 : Steps p.tables e below (T2.setTop (mkF m 8 #[.val (.ref x0), .val (.long x1), .second] [(.int (lcmpW w0 (9223372036854775807 : Int64)))])) (T2.setTop (mkF m 11 #[.val (.ref x0), .val (.long x1), .second] [])) := by
      refine XS.ifNo X2.here hx rfl (hb hby d3_8) rfl ((if0 _ _).trans (teq ((lw_eq w0 (9223372036854775807 : Int64)).mpr hc8)).2) ?_
      exact Steps.refl _
    have pre4 := pre3.trans st4
    have st5 : Steps p.tables e below (T2.setTop (mkF m 11 #[.val (.ref x0), .val (.long x1), .second] [])) (T2.setTop (mkF m 28 #[.val (.ref x0), .val (.long x1), .second] [(.long (9223372036854775807 : Int64))])) := by
      refine X2.ldc2Long hx hown (mvT hZ (hw _ (List.mem_of_getElem? (i := 23) rfl))) (g := (mkF m 11 #[.val (.ref x0), .val (.long x1), .second] [])) rfl (hb hby d3_11) _ ?_
      show Steps p.tables e below (T2.setTop (mkF m 14 #[.val (.ref x0), .val (.long x1), .second] [(.long (9223372036854775807 : Int64))])) _
      refine XS.goto X2.here hx rfl (pc0 := 14) (pc' := 28) rfl (hb hby d3_14) (by decide) (by decide) ?_
      show Steps p.tables e below (T2.setTop (mkF m 28 #[.val (.ref x0), .val (.long x1), .second] [(.long (9223372036854775807 : Int64))])) _
      exact Steps.refl _
    have pre5 := pre4.trans st5
    obtain ⟨fs, hr, hrun, hended, hW, hsame⟩ := X2.leave (v := some (.long (9223372036854775807 : Int64))) (fun h => by rw [Bd.returns] at h; cases h)
    refine ⟨_, _, pre5.trans ?_, hrun, hended, _, _, rfl, ?_, ⟨_, rfl⟩, hW, hsame.mono (by decide) (by decide)⟩
    · show Steps p.tables e below (T2.setTop (mkF m 28 #[.val (.ref x0), .val (.long x1), .second] [(.long (9223372036854775807 : Int64))])) _
      jvm_step X2.here [X2.here.top, hx, (hb hby d3_28), X2.method', Bd.returns, narrow]
      first | (intro acts; rw [hr _ acts rfl rfl rfl]) | rw [hr _ _ rfl rfl rfl]
      exact Steps.refl _
    · show Q3 Z x0 x1 w0 w1 h0 n0 _ T2.heap _
      rw [e2]
      have hF : own_F3 x0 x1 w0 w1 = (9223372036854775807 : Int64) := by
        simp only [own_F3, if_pos hc8]
      exact ⟨by rw [hF], N0, rfl⟩
  · have st6 : Steps p.tables e below (T2.setTop (mkF m 8 #[.val (.ref x0), .val (.long x1), .second] [(.int (lcmpW w0 (9223372036854775807 : Int64)))])) (T2.setTop (mkF m 17 #[.val (.ref x0), .val (.long x1), .second] [])) := by
      refine XS.ifYes X2.here hx rfl (pc0 := 8) (pc' := 17) rfl (hb hby d3_8) rfl ((if0 _ _).trans (feq (fun q => hc8 ((lw_eq w0 (9223372036854775807 : Int64)).mp q))).2) (by decide) (by decide) ?_
      exact Steps.refl _
    have pre6 := pre3.trans st6
    have st7 : Steps p.tables e below (T2.setTop (mkF m 17 #[.val (.ref x0), .val (.long x1), .second] [])) (T2.setTop (mkF m 18 #[.val (.ref x0), .val (.long x1), .second] [(.ref x0)])) := by
      refine XS.aloadN X2.here hx rfl (hb hby d3_17) rfl rfl ?_
      show Steps p.tables e below (T2.setTop (mkF m 18 #[.val (.ref x0), .val (.long x1), .second] [(.ref x0)])) _
      exact Steps.refl _
    have pre7 := pre6.trans st7
    obtain ⟨T8, X8, e8, st8⟩ := getF X2 hx hZ hown (host := "") (Or.inl (hw _ (List.mem_of_getElem? (i := 16) rfl))) Via.refl e2 B0 (g := (mkF m 18 #[.val (.ref x0), .val (.long x1), .second] [(.ref x0)])) rfl rfl (hb hby d3_18)
    have pre8 : Steps p.tables e below (s₁.setTop (entryFrame m #[(.ref x0), (.long x1)] 3)) (T8.setTop (mkF m 21 #[.val (.ref x0), .val (.long x1), .second] [(.long w0)])) := pre7.trans (st8 _ (Steps.refl _))
    have st9 : Steps p.tables e below (T8.setTop (mkF m 21 #[.val (.ref x0), .val (.long x1), .second] [(.long w0)])) (T8.setTop (mkF m 23 #[.val (.ref x0), .val (.long x1), .second] [(.ref x0), (.long x1), (.long w0)])) := by
      refine XS.lloadN X8.here hx rfl (hb hby d3_21) rfl ?_
      show Steps p.tables e below (T8.setTop (mkF m 22 #[.val (.ref x0), .val (.long x1), .second] [(.long x1), (.long w0)])) _
      refine XS.aloadN X8.here hx rfl (hb hby d3_22) rfl rfl ?_
      show Steps p.tables e below (T8.setTop (mkF m 23 #[.val (.ref x0), .val (.long x1), .second] [(.ref x0), (.long x1), (.long w0)])) _
      exact Steps.refl _
    have pre9 := pre8.trans st9
    obtain ⟨T10, X10, e10, st10⟩ := getF X8 hx hZ hown (host := "") (Or.inl (hw _ (List.mem_of_getElem? (i := 14) rfl))) Via.refl e8 B1 (g := (mkF m 23 #[.val (.ref x0), .val (.long x1), .second] [(.ref x0), (.long x1), (.long w0)])) rfl rfl (hb hby d3_23)
    have pre10 : Steps p.tables e below (s₁.setTop (entryFrame m #[(.ref x0), (.long x1)] 3)) (T10.setTop (mkF m 26 #[.val (.ref x0), .val (.long x1), .second] [(.long w1), (.long x1), (.long w0)])) := pre9.trans (st10 _ (Steps.refl _))
    obtain ⟨v11, hv11⟩ : ∃ z : Int64, z = (w0 - (x1 - w1)) := ⟨_, rfl⟩
    have st12 : Steps p.tables e below (T10.setTop (mkF m 26 #[.val (.ref x0), .val (.long x1), .second] [(.long w1), (.long x1), (.long w0)])) (T10.setTop (mkF m 28 #[.val (.ref x0), .val (.long x1), .second] [(.long v11)])) := by
      subst v11
      refine XS.lsub X10.here hx rfl (hb hby d3_26) rfl ?_
      show Steps p.tables e below (T10.setTop (mkF m 27 #[.val (.ref x0), .val (.long x1), .second] [(.long (x1 - w1)), (.long w0)])) _
      refine XS.lsub X10.here hx rfl (hb hby d3_27) rfl ?_
      show Steps p.tables e below (T10.setTop (mkF m 28 #[.val (.ref x0), .val (.long x1), .second] [(.long (w0 - (x1 - w1)))])) _
      exact Steps.refl _
    have pre12 := pre10.trans st12
    obtain ⟨fs, hr, hrun, hended, hW, hsame⟩ := X10.leave (v := some (.long v11)) (fun h => by rw [Bd.returns] at h; cases h)
    refine ⟨_, _, pre12.trans ?_, hrun, hended, _, _, rfl, ?_, ⟨_, rfl⟩, hW, hsame.mono (by decide) (by decide)⟩
    · show Steps p.tables e below (T10.setTop (mkF m 28 #[.val (.ref x0), .val (.long x1), .second] [(.long v11)])) _
      jvm_step X10.here [X10.here.top, hx, (hb hby d3_28), X10.method', Bd.returns, narrow]
      first | (intro acts; rw [hr _ acts rfl rfl rfl]) | rw [hr _ _ rfl rfl rfl]
      exact Steps.refl _
    · show Q3 Z x0 x1 w0 w1 h0 n0 _ T10.heap _
      rw [e10]
      have hF : own_F3 x0 x1 w0 w1 = v11 := by
        subst v11
        simp only [own_F3, if_neg hc8]
      exact ⟨by rw [hF], N0, rfl⟩
theorem own_left {d e n r k : Int64} {a : Addr} (he : e = (d &&& (9223372036854775807 : Int64))) (hk : k = (n + e)) (hr : r = own_F3 a k (-1 : Int64) n) : r = ((-1 : Int64) - e) ∧ r < (0 : Int64) := by
  subst hk
  have h1 : r = (-1 : Int64) - ((n + e) - n) := by rw [hr, own_F3, if_neg (by decide)]
  have b := c_maskL d (9223372036854775807 : Int64) 63 (by decide) (by decide)
  rw [← he] at b
  have e1 : (-1 : Int64).toInt = -1 := by decide
  have e0 : (0 : Int64).toInt = 0 := by decide
  have q1 := c_lsub (-1 : Int64) e
  have q2 := c_lsub (-1 : Int64) ((n + e) - n)
  have q3 := c_lsub (n + e) n
  have q4 := c_ladd n e
  have r1 := rng64 ((-1 : Int64) - e)
  have r2 := rng64 ((-1 : Int64) - ((n + e) - n))
  have r3 := rng64 e
  have r4 := rng64 n
  rw [← h1] at q2 r2
  have hb : 0 ≤ e.toInt := by rw [b]; omega
  rw [← Int64.toInt_inj, Int64.lt_iff_toInt_lt]
  omega
theorem pn0 : plainName "com/example/orlok/orlok/DeadlinePassedAtPinLaw" = true := by first | (simp [plainName, overriddenIn]; done) | decide +kernel
theorem pd0_0 : parseMethodDescriptor "(J)Lcom/example/orlok/orlok/Deadline;" = some ⟨[.long], some (.object "com/example/orlok/orlok/Deadline")⟩ := by decide +kernel
theorem pd0_1 : parseMethodDescriptor "(J)J" = some ⟨[.long], some .long⟩ := by decide +kernel
theorem ef0 (m : MethodId) (x0 : Int64) (x1 : Int64) : entryFrame m #[(.long x0), (.long x1)] maxLocals = mkF m 0 #[.val (.long x0), .second, .val (.long x1), .second, .unset, .unset, .unset, .unset, .unset] [] := by first | (simp [entryFrame, mkF, argsToLocals, Value.category, maxLocals]; done) | rfl
def Q0 (Z : State) (x0 : Int64) (x1 : Int64) (h0 : Heap) (n0 : Nat) (v : Option Value) (h : Heap) (L : List Loc) : Prop := v = some (.int 1) ∧ Fr n0 L
set_option maxRecDepth 65536 in
set_option maxHeartbeats 40000000 in
theorem rm0 (l : Launch) (Z : State) (a0 : Array Value) (hw : ∀ d ∈ tables_1, d.before a0 Z = true) (ws : List Jvm.Cond) (x0 : Int64) (x1 : Int64) (h0 : Heap) (n0 : Nat) (Z0 : n0 ≤ h0.size) :
    MetFree l x (head1 (Jvm.Cond.code x code maxLocals ret :: ws) room_1) (fun a U => a = #[(.long x0), (.long x1)] ∧ Z.Warmed39 U.vm ∧ U.heap = h0) (fun _ _ _ _ _ => True) (fun _ U o U' => ∃ v L, o = .returned v ∧ Q0 Z x0 x1 h0 n0 v U'.heap L ∧ FrameEnd U o U' L room_1.cells room_1.slots) := by
  refine MetFree.of_bodySF (plainFor_of_name pn0) hisR ?_
  intro p e s m args below meth c s₁ Bd hml0 hP hK
  obtain ⟨rfl, hZ, hh⟩ := hP
  have hx := Bd.exec
  have hby := Bd.bytes
  have hml : c.maxLocals = 9 := hml0
  have hown : s.vm.findClass "com/example/orlok/orlok/DeadlinePassedAtPinLaw" = some m.cls := findClass_of_methodNamed Bd.named
  have hnm := (name_of_methodNamed Bd.named Bd.method).1
  have X0 : Stand p l e room_1 s m #[(.long x0), (.long x1)] below meth c s₁ [] 0 0 := Stand.of_body Bd
  have e0 : s₁.heap = h0 := by rw [← hh, Bd.state]; rfl
  have N0 := Fr.nil n0
  have pre0 : Steps p.tables e below (s₁.setTop (entryFrame m #[(.long x0), (.long x1)] maxLocals)) (s₁.setTop (mkF m 0 #[.val (.long x0), .second, .val (.long x1), .second, .unset, .unset, .unset, .unset, .unset] [])) := castTop (ef0 m x0 x1) (Steps.refl _)
  have K0 := Keep.refl h0 []
  obtain ⟨v1, hv1⟩ : ∃ z : Int64, z = (x1 &&& (9223372036854775807 : Int64)) := ⟨_, rfl⟩
  have st2 : Steps p.tables e below (s₁.setTop (mkF m 0 #[.val (.long x0), .second, .val (.long x1), .second, .unset, .unset, .unset, .unset, .unset] [])) (s₁.setTop (mkF m 8 #[.val (.long x0), .second, .val (.long x1), .second, .val (.long v1), .second, .unset, .unset, .unset] [(.long x0)])) := by
    subst v1
    refine XS.lloadN X0.here hx rfl (hb hby at_0) rfl ?_
    show Steps p.tables e below (s₁.setTop (mkF m 1 #[.val (.long x0), .second, .val (.long x1), .second, .unset, .unset, .unset, .unset, .unset] [(.long x1)])) _
    refine X0.ldc2Long hx hown (mvT hZ (hw _ (List.mem_of_getElem? (i := 0) rfl))) (g := (mkF m 1 #[.val (.long x0), .second, .val (.long x1), .second, .unset, .unset, .unset, .unset, .unset] [(.long x1)])) rfl (hb hby at_1) _ ?_
    show Steps p.tables e below (s₁.setTop (mkF m 4 #[.val (.long x0), .second, .val (.long x1), .second, .unset, .unset, .unset, .unset, .unset] [(.long (9223372036854775807 : Int64)), (.long x1)])) _
    refine XS.land X0.here hx rfl (hb hby at_4) rfl ?_
    show Steps p.tables e below (s₁.setTop (mkF m 5 #[.val (.long x0), .second, .val (.long x1), .second, .unset, .unset, .unset, .unset, .unset] [(.long (x1 &&& (9223372036854775807 : Int64)))])) _
    refine XS.lstore X0.here hx rfl (hb hby at_5) rfl (l' := #[.val (.long x0), .second, .val (.long x1), .second, .val (.long (x1 &&& (9223372036854775807 : Int64))), .second, .unset, .unset, .unset]) rfl ?_
    show Steps p.tables e below (s₁.setTop (mkF m 7 #[.val (.long x0), .second, .val (.long x1), .second, .val (.long (x1 &&& (9223372036854775807 : Int64))), .second, .unset, .unset, .unset] [])) _
    refine XS.lloadN X0.here hx rfl (hb hby at_7) rfl ?_
    show Steps p.tables e below (s₁.setTop (mkF m 8 #[.val (.long x0), .second, .val (.long x1), .second, .val (.long (x1 &&& (9223372036854775807 : Int64))), .second, .unset, .unset, .unset] [(.long x0)])) _
    exact Steps.refl _
  have pre2 := pre0.trans st2
  obtain ⟨_, _, ⟨T3, L3, k3, n3⟩, -, X3, ⟨Lc3, hQ3, l3, y3, z3⟩, st3⟩ := Jvm.LawKit.callS X0 hx (y := (⟨"com/example/orlok/orlok/Deadline", "passedAt", "(J)Lcom/example/orlok/orlok/Deadline;"⟩ : MethodName)) hown (mvT hZ (hw _ (List.mem_of_getElem? (i := 1) rfl))) (mvT hZ (hw _ (List.mem_of_getElem? (i := 2) rfl))) (mvT hZ (hw _ (List.mem_of_getElem? (i := 3) rfl))) (mvT hZ (hw _ (List.mem_of_getElem? (i := 4) rfl))) (by decide) (backOf (W := 0) (rm2 l Z a0 hw [] x0 h0 n0 Z0) hZ (hw _ (List.mem_of_getElem? (i := 4) rfl)) (hw _ (List.mem_of_getElem? (i := 3) rfl)) (by decide) (by decide)) (g := (mkF m 8 #[.val (.long x0), .second, .val (.long x1), .second, .val (.long v1), .second, .unset, .unset, .unset] [(.long x0)])) rfl (by rw [hml]; rfl) (argsL := [(.long x0)]) (rest := []) (lenOf pd0_0 rfl) rfl (by show 2 * 0 + _ ≤ _; exact Nat.le_of_eq rfl) (hb hby at_8) (fun _ _ => ⟨rfl, e0, (by decide : 0 + 1 ≤ _), (by decide : 0 + 2 ≤ _)⟩)
  dsimp only [Pt.U, Pt.locs, Pt.cells, Pt.slots] at X3 l3 y3 z3 st3 hQ3
  subst l3 y3 z3
  obtain ⟨b3, rfl, Nq3, Kq3, gf3, P3_0, P3_1, P3_2⟩ := hQ3
  have gn3 : n0 ≤ b3 := Nat.le_trans Z0 gf3
  have sz3 : h0.size ≤ b3 := Nat.le_trans K0.1 gf3
  have KK3 := K0.trans Kq3 all0
  have Z3 : n0 ≤ T3.heap.size := Nat.le_trans Z0 Kq3.1
  have N3 := Fr.app N0 Nq3
  have pre3 : Steps p.tables e below (s₁.setTop (entryFrame m #[(.long x0), (.long x1)] maxLocals)) (T3.setTop (mkF m 11 #[.val (.long x0), .second, .val (.long x1), .second, .val (.long v1), .second, .unset, .unset, .unset] [(.ref b3)])) := pre2.trans (st3 _ (Steps.refl _))
  obtain ⟨v4, hv4⟩ : ∃ z : Int64, z = (x0 + v1) := ⟨_, rfl⟩
  have st5 : Steps p.tables e below (T3.setTop (mkF m 11 #[.val (.long x0), .second, .val (.long x1), .second, .val (.long v1), .second, .unset, .unset, .unset] [(.ref b3)])) (T3.setTop (mkF m 19 #[.val (.long x0), .second, .val (.long x1), .second, .val (.long v1), .second, .val (.ref b3), .unset, .unset] [(.long v4), (.ref b3)])) := by
    subst v4
    refine XS.astore X3.here hx rfl (hb hby at_11) rfl rfl (l' := #[.val (.long x0), .second, .val (.long x1), .second, .val (.long v1), .second, .val (.ref b3), .unset, .unset]) rfl ?_
    show Steps p.tables e below (T3.setTop (mkF m 13 #[.val (.long x0), .second, .val (.long x1), .second, .val (.long v1), .second, .val (.ref b3), .unset, .unset] [])) _
    refine XS.aload X3.here hx rfl (hb hby at_13) rfl rfl ?_
    show Steps p.tables e below (T3.setTop (mkF m 15 #[.val (.long x0), .second, .val (.long x1), .second, .val (.long v1), .second, .val (.ref b3), .unset, .unset] [(.ref b3)])) _
    refine XS.lloadN X3.here hx rfl (hb hby at_15) rfl ?_
    show Steps p.tables e below (T3.setTop (mkF m 16 #[.val (.long x0), .second, .val (.long x1), .second, .val (.long v1), .second, .val (.ref b3), .unset, .unset] [(.long x0), (.ref b3)])) _
    refine XS.lload X3.here hx rfl (hb hby at_16) rfl ?_
    show Steps p.tables e below (T3.setTop (mkF m 18 #[.val (.long x0), .second, .val (.long x1), .second, .val (.long v1), .second, .val (.ref b3), .unset, .unset] [(.long v1), (.long x0), (.ref b3)])) _
    refine XS.ladd X3.here hx rfl (hb hby at_18) rfl ?_
    show Steps p.tables e below (T3.setTop (mkF m 19 #[.val (.long x0), .second, .val (.long x1), .second, .val (.long v1), .second, .val (.ref b3), .unset, .unset] [(.long (x0 + v1)), (.ref b3)])) _
    exact Steps.refl _
  have pre5 := pre3.trans st5
  obtain ⟨cq6, kq6, q6a, q6b, q6c⟩ := isOf hZ rfl P3_0
  obtain ⟨_, _, ⟨T6, L6, k6, n6⟩, -, X6, ⟨Lc6, hQ6, l6, y6, z6⟩, st6⟩ := X3.virtualBack hx (y := (⟨"com/example/orlok/orlok/Deadline", "nanosLeftAt", "(J)J"⟩ : MethodName)) (z := (⟨"com/example/orlok/orlok/Deadline", "nanosLeftAt", "(J)J"⟩ : MethodName)) hown (mvT hZ (hw _ (List.mem_of_getElem? (i := 18) rfl))) (mvT hZ (hw _ (List.mem_of_getElem? (i := 19) rfl))) (notFace_of_selects (args := #[]) (mvT hZ (hw _ (List.mem_of_getElem? (i := 21) rfl)))) (mvT hZ (hw _ (List.mem_of_getElem? (i := 21) rfl))) (mvT hZ (hw _ (List.mem_of_getElem? (i := 20) rfl))) (by decide) (backOf (W := 0) (rm3 l Z a0 hw [] b3 v4 (-1 : Int64) x0 T3.heap n0 Z3 P3_2 P3_1) hZ (hw _ (List.mem_of_getElem? (i := 22) rfl)) (hw _ (List.mem_of_getElem? (i := 3) rfl)) (by decide) (by decide)) q6a q6c (g := (mkF m 19 #[.val (.long x0), .second, .val (.long x1), .second, .val (.long v1), .second, .val (.ref b3), .unset, .unset] [(.long v4), (.ref b3)])) rfl (by rw [hml]; rfl) (Steps.refl _) (argsL := [(.long v4)]) (rest := []) (lenOf pd0_1 rfl) rfl (by show 2 * 0 + _ ≤ _; exact Nat.le_of_eq rfl) (hb hby at_19) (fun _ _ => ⟨rfl, rfl, (by decide : 1 + 0 ≤ _), (by decide : 2 + 0 ≤ _)⟩)
  dsimp only [Pt.U, Pt.locs, Pt.cells, Pt.slots] at X6 l6 y6 z6 st6 hQ6
  subst l6 y6 z6
  obtain ⟨rfl, Nq6, e6⟩ := hQ6
  have N6 := Fr.app N3 Nq6
  have pre6 : Steps p.tables e below (s₁.setTop (entryFrame m #[(.long x0), (.long x1)] maxLocals)) (T6.setTop (mkF m 22 #[.val (.long x0), .second, .val (.long x1), .second, .val (.long v1), .second, .val (.ref b3), .unset, .unset] [(.long (own_F3 b3 v4 (-1 : Int64) x0))])) := pre5.trans st6
  obtain ⟨v7, hv7⟩ : ∃ z : Int64, z = (own_F3 b3 v4 (-1 : Int64) x0) := ⟨_, rfl⟩
  have st8 : Steps p.tables e below (T6.setTop (mkF m 22 #[.val (.long x0), .second, .val (.long x1), .second, .val (.long v1), .second, .val (.ref b3), .unset, .unset] [(.long (own_F3 b3 v4 (-1 : Int64) x0))])) (T6.setTop (mkF m 33 #[.val (.long x0), .second, .val (.long x1), .second, .val (.long v1), .second, .val (.ref b3), .val (.long v7), .second] [(.int (lcmpW v7 ((-1 : Int64) - v1)))])) := by
    subst v7
    refine XS.lstore X6.here hx rfl (hb hby at_22) rfl (l' := #[.val (.long x0), .second, .val (.long x1), .second, .val (.long v1), .second, .val (.ref b3), .val (.long (own_F3 b3 v4 (-1 : Int64) x0)), .second]) rfl ?_
    show Steps p.tables e below (T6.setTop (mkF m 24 #[.val (.long x0), .second, .val (.long x1), .second, .val (.long v1), .second, .val (.ref b3), .val (.long (own_F3 b3 v4 (-1 : Int64) x0)), .second] [])) _
    refine XS.lload X6.here hx rfl (hb hby at_24) rfl ?_
    show Steps p.tables e below (T6.setTop (mkF m 26 #[.val (.long x0), .second, .val (.long x1), .second, .val (.long v1), .second, .val (.ref b3), .val (.long (own_F3 b3 v4 (-1 : Int64) x0)), .second] [(.long (own_F3 b3 v4 (-1 : Int64) x0))])) _
    refine X6.ldc2Long hx hown (mvT hZ (hw _ (List.mem_of_getElem? (i := 24) rfl))) (g := (mkF m 26 #[.val (.long x0), .second, .val (.long x1), .second, .val (.long v1), .second, .val (.ref b3), .val (.long (own_F3 b3 v4 (-1 : Int64) x0)), .second] [(.long (own_F3 b3 v4 (-1 : Int64) x0))])) rfl (hb hby at_26) _ ?_
    show Steps p.tables e below (T6.setTop (mkF m 29 #[.val (.long x0), .second, .val (.long x1), .second, .val (.long v1), .second, .val (.ref b3), .val (.long (own_F3 b3 v4 (-1 : Int64) x0)), .second] [(.long (-1 : Int64)), (.long (own_F3 b3 v4 (-1 : Int64) x0))])) _
    refine XS.lload X6.here hx rfl (hb hby at_29) rfl ?_
    show Steps p.tables e below (T6.setTop (mkF m 31 #[.val (.long x0), .second, .val (.long x1), .second, .val (.long v1), .second, .val (.ref b3), .val (.long (own_F3 b3 v4 (-1 : Int64) x0)), .second] [(.long v1), (.long (-1 : Int64)), (.long (own_F3 b3 v4 (-1 : Int64) x0))])) _
    refine XS.lsub X6.here hx rfl (hb hby at_31) rfl ?_
    show Steps p.tables e below (T6.setTop (mkF m 32 #[.val (.long x0), .second, .val (.long x1), .second, .val (.long v1), .second, .val (.ref b3), .val (.long (own_F3 b3 v4 (-1 : Int64) x0)), .second] [(.long ((-1 : Int64) - v1)), (.long (own_F3 b3 v4 (-1 : Int64) x0))])) _
    refine XS.lcmp X6.here hx rfl (hb hby at_32) rfl ?_
    show Steps p.tables e below (T6.setTop (mkF m 33 #[.val (.long x0), .second, .val (.long x1), .second, .val (.long v1), .second, .val (.ref b3), .val (.long (own_F3 b3 v4 (-1 : Int64) x0)), .second] [(.int (lcmpW (own_F3 b3 v4 (-1 : Int64) x0) ((-1 : Int64) - v1)))])) _
    exact Steps.refl _
  have pre8 := pre6.trans st8
  have hc33 : v7 = ((-1 : Int64) - v1) := by
    exact (own_left hv1 hv4 hv7).1
  have st9 : Steps p.tables e below (T6.setTop (mkF m 33 #[.val (.long x0), .second, .val (.long x1), .second, .val (.long v1), .second, .val (.ref b3), .val (.long v7), .second] [(.int (lcmpW v7 ((-1 : Int64) - v1)))])) (T6.setTop (mkF m 36 #[.val (.long x0), .second, .val (.long x1), .second, .val (.long v1), .second, .val (.ref b3), .val (.long v7), .second] [])) := by
    refine XS.ifNo X6.here hx rfl (hb hby at_33) rfl ((if0 _ _).trans (teq ((lw_eq v7 ((-1 : Int64) - v1)).mpr hc33)).2) ?_
    exact Steps.refl _
  have pre9 := pre8.trans st9
  have st10 : Steps p.tables e below (T6.setTop (mkF m 36 #[.val (.long x0), .second, .val (.long x1), .second, .val (.long v1), .second, .val (.ref b3), .val (.long v7), .second] [])) (T6.setTop (mkF m 40 #[.val (.long x0), .second, .val (.long x1), .second, .val (.long v1), .second, .val (.ref b3), .val (.long v7), .second] [(.int (lcmpW v7 (0 : Int64)))])) := by
    refine XS.lload X6.here hx rfl (hb hby at_36) rfl ?_
    show Steps p.tables e below (T6.setTop (mkF m 38 #[.val (.long x0), .second, .val (.long x1), .second, .val (.long v1), .second, .val (.ref b3), .val (.long v7), .second] [(.long v7)])) _
    refine XS.lconst X6.here hx rfl (hb hby at_38) ?_
    show Steps p.tables e below (T6.setTop (mkF m 39 #[.val (.long x0), .second, .val (.long x1), .second, .val (.long v1), .second, .val (.ref b3), .val (.long v7), .second] [(.long (0 : Int64)), (.long v7)])) _
    refine XS.lcmp X6.here hx rfl (hb hby at_39) rfl ?_
    show Steps p.tables e below (T6.setTop (mkF m 40 #[.val (.long x0), .second, .val (.long x1), .second, .val (.long v1), .second, .val (.ref b3), .val (.long v7), .second] [(.int (lcmpW v7 (0 : Int64)))])) _
    exact Steps.refl _
  have pre10 := pre9.trans st10
  have hc40 : v7 < (0 : Int64) := by
    exact (own_left hv1 hv4 hv7).2
  have st11 : Steps p.tables e below (T6.setTop (mkF m 40 #[.val (.long x0), .second, .val (.long x1), .second, .val (.long v1), .second, .val (.ref b3), .val (.long v7), .second] [(.int (lcmpW v7 (0 : Int64)))])) (T6.setTop (mkF m 43 #[.val (.long x0), .second, .val (.long x1), .second, .val (.long v1), .second, .val (.ref b3), .val (.long v7), .second] [])) := by
    refine XS.ifNo X6.here hx rfl (hb hby at_40) rfl ((if0 _ _).trans (tlt ((lw_lt v7 (0 : Int64)).mpr hc40)).2.1) ?_
    exact Steps.refl _
  have pre11 := pre10.trans st11
  have st12 : Steps p.tables e below (T6.setTop (mkF m 43 #[.val (.long x0), .second, .val (.long x1), .second, .val (.long v1), .second, .val (.ref b3), .val (.long v7), .second] [])) (T6.setTop (mkF m 48 #[.val (.long x0), .second, .val (.long x1), .second, .val (.long v1), .second, .val (.ref b3), .val (.long v7), .second] [(.int (1 : Int32))])) := by
    refine XS.iconst X6.here hx rfl (hb hby at_43) ?_
    show Steps p.tables e below (T6.setTop (mkF m 44 #[.val (.long x0), .second, .val (.long x1), .second, .val (.long v1), .second, .val (.ref b3), .val (.long v7), .second] [(.int (1 : Int32))])) _
    refine XS.goto X6.here hx rfl (pc0 := 44) (pc' := 48) rfl (hb hby at_44) (by decide) (by decide) ?_
    show Steps p.tables e below (T6.setTop (mkF m 48 #[.val (.long x0), .second, .val (.long x1), .second, .val (.long v1), .second, .val (.ref b3), .val (.long v7), .second] [(.int (1 : Int32))])) _
    exact Steps.refl _
  have pre12 := pre11.trans st12
  obtain ⟨fs, hr, hrun, hended, hW, hsame⟩ := X6.leave (v := some (.int (1 : Int32))) (fun h => by rw [Bd.returns] at h; cases h)
  refine ⟨_, _, pre12.trans ?_, hrun, hended, _, _, rfl, ?_, ⟨_, rfl⟩, hW, hsame.mono (by decide) (by decide)⟩
  · show Steps p.tables e below (T6.setTop (mkF m 48 #[.val (.long x0), .second, .val (.long x1), .second, .val (.long v1), .second, .val (.ref b3), .val (.long v7), .second] [(.int (1 : Int32))])) _
    exact retN X6 hx (t := .boolean) Bd.returns (by simp) (hb hby at_48) hr
  · show Q0 Z x0 x1 h0 n0 _ T6.heap _
    rw [e6]
    exact ⟨rfl, N6⟩
set_option maxRecDepth 65536 in
set_option maxHeartbeats 40000000 in
theorem comes_1 {Post : Tables → Env → Array Value → State → Outcome → State → Prop} (hpost : ∀ tb e args s v u, (limb_1_1.after args s (.returned v) u = true ∧ limb_1_2.after args s (.returned v) u = true ∧ True) → FrameEnd s (.returned v) u (Jvm.fieldLocs frame_1_writes args s ++ Jvm.arrayLocs frame_1_arrays args s ++ Jvm.staticLocs frame_1_statics s) 16 128 → Post tb e args s (.returned v) u) :
    ArmFor flags0 classFile x code maxLocals ret World_1 tables_1 room_1 Calls_1 rest_1 Pre_1 Post := by
  intro l hfl _ _ p e ha hc hk s m args below hf hA hF happ hP
  obtain ⟨hcalls, hrest, hpre⟩ := hP
  obtain ⟨-, -, -, hnamed, -, -, -, hat⟩ := (Spec.applies_iff hf).mp happ
  obtain ⟨hg, hn⟩ := and_e (Cond.before_iff.mp (show (Jvm.Cond.and given_1 narrow_1).before args s = true from hpre))
  obtain ⟨g1, g2⟩ := and_e hg
  obtain ⟨g3, g4⟩ := and_e g2
  obtain ⟨w0, w1, rfl⟩ : ∃ w0 w1 : Value, args = #[w0, w1] := by
    have hs : args.size = 2 := by simpa [Cond.value, given_1] using g1
    obtain ⟨L⟩ := args
    match L, hs with
    | [w0, w1], _ => exact ⟨w0, w1, rfl⟩
  have hw := fun d (hd : d ∈ tables_1) => atoms_spec (ws := Jvm.Cond.code x code maxLocals ret :: tables_1) hat d (List.mem_cons_of_mem _ hd)
  obtain ⟨i0, ei0⟩ := isL_v g3
  obtain rfl : w0 = (.long i0) := Option.some.inj ei0
  obtain ⟨i1, ei1⟩ := isL_v g4
  obtain rfl : w1 = (.long i1) := Option.some.inj ei1
  obtain ⟨n, o, h1, h2, h3, _, L, rfl, ⟨rfl, N⟩, hq⟩ := rm0 l s _ hw tables_1 i0 i1 s.heap s.heap.size (Nat.le_refl _) p e ha hc hk s m _ below hf ((Spec.applies_iff_loose hf).mp happ).1 ⟨rfl, State.Warmed39.refl s, rfl⟩ trivial
  refine ⟨n, _, h1, h2, h3, hpost _ _ _ _ _ _ ⟨Cond.after_iff.mpr rfl, Cond.after_iff.mpr (eq_i res_at (Term.int_eval (1)) rfl), trivial⟩ ⟨hq.1, hq.2.1, (hq.2.2.sift fun y hy => Or.inr (N y hy)).mono (by decide) (by decide)⟩⟩
theorem main_1_1 : Claimed_1_1 := comes_1 fun _ _ _ _ _ _ h hF => ⟨h.1, hF⟩
theorem main_1_2 : Claimed_1_2 := comes_1 fun _ _ _ _ _ _ h hF => ⟨h.2.1, hF⟩
end Jvm.Pilot.@@N@@
namespace Jvm.Pilot.@@N@@
open Jvm Jvm.ClassFile Sem Op Lib Jvm.Free Jvm.Stand Jvm.Pilot.@@N@@.Jvm.D
/-! MADE BY PROGRAM (witnessworld.py) out of the Statement's table words and the real class files: 9 classes; the members and pool entries that the words name. The judged class is class 1, her method 1. -/
namespace start1
open Jvm.ClassFile
def u (s : String) : CpInfo := .utf8 (stringToUtf16 s)
/-- a pool by its gaps: so many unusable entries, then the entry; so many at the end -/
def gap : Nat → List CpInfo → List CpInfo
  | 0, r => r
  | n + 1, r => .unusable :: gap n r
def poolList (es : List (Nat × CpInfo)) (last : Nat) : List CpInfo := es.foldr (fun e r => gap e.1 (e.2 :: r)) (gap last [])
def pool (es : List (Nat × CpInfo)) (last : Nat) : Array CpInfo := ⟨poolList es last⟩
def fileOf (pool : Array CpInfo) (this : Nat) (attrs : Array Attribute := #[]) (ms : Array MethodInfo := #[]) (fl : Nat := 33) (sup : Nat := 0) (ifs : Array Nat := #[]) (fds : Array FieldInfo := #[]) : ClassFile where
  minorVersion := 0
  majorVersion := 65
  constantPool := pool
  accessFlags := fl
  thisClass := this
  superClass := sup
  interfaces := ifs
  fields := fds
  methods := ms
  attributes := attrs
def plain (name : String) (sup : Option ClassId) : Class where
  name := name
  kind := .ordinary
  loader := none
  accessFlags := 33
  super := sup
  interfaces := #[]
  cf := none
  fields := #[]
  methods := #[]
  instanceTypes := #[]
  staticTypes := #[]
  resolved := #[]
  callSites := []
  init := .initialized
  statics := none
  mirror := none

def pool0 : Array CpInfo := pool [(5, u "<init>"), (0, u "()V"), (1, .class_ 10), (1, u "java/lang/Object")] 113

def k0c0 : Code := { maxStack := 0, maxLocals := 1, code := object_method_1_code, exceptionTable := #[], attributes := #[] }
def k0m0 : Method := { name := "<init>", desc := "()V", sig := { parameters := [], returnType := none }, accessFlags := 1, code := some k0c0 }
/-- java/lang/Object -/
def k0 : Class := { plain "java/lang/Object" none with
  accessFlags := 33
  interfaces := #[]
  cf := some (fileOf pool0 8 #[] #[{ accessFlags := 1, nameIndex := 5, descriptorIndex := 6, attributes := #[] }] 33 0 #[] #[])
  fields := #[]
  methods := #[k0m0]
  instanceTypes := #[]
  staticTypes := #[]
  resolved := Array.replicate 124 none
  statics := none }

def pool1 : Array CpInfo := pool [(2, .class_ 4), (1, u "java/lang/Object"), (0, u "<init>"), (0, u "()V"), (2, .long 9223372036854775807), (1, .methodref 12 13), (0, .class_ 14), (0, .nameAndType 15 16), (0, u "com/example/orlok/orlok/Deadline"), (0, u "passedAt"), (0, u "(J)Lcom/example/orlok/orlok/Deadline;"), (0, .methodref 12 18), (0, .nameAndType 19 20), (0, u "nanosLeftAt"), (0, u "(J)J"), (0, .long 18446744073709551615), (1, .class_ 24), (0, u "com/example/orlok/orlok/DeadlinePassedAtPinLaw"), (2, u "law"), (0, u "(JJ)Z")] 3

def k1m0 : Method := { name := "<init>", desc := "()V", sig := { parameters := [], returnType := none }, accessFlags := 1, code := none }
def k1c1 : Code := { maxStack := 6, maxLocals := 9, code := code, exceptionTable := #[], attributes := #[] }
def k1m1 : Method := { name := "law", desc := "(JJ)Z", sig := { parameters := [.long, .long], returnType := some .boolean }, accessFlags := 9, code := some k1c1 }
/-- com/example/orlok/orlok/DeadlinePassedAtPinLaw -/
def k1 : Class := { plain "com/example/orlok/orlok/DeadlinePassedAtPinLaw" (some 0) with
  accessFlags := 49
  interfaces := #[]
  cf := some (fileOf pool1 23 #[] #[{ accessFlags := 1, nameIndex := 5, descriptorIndex := 6, attributes := #[] }, { accessFlags := 9, nameIndex := 27, descriptorIndex := 28, attributes := #[] }] 49 2 #[] #[])
  fields := #[]
  methods := #[k1m0, k1m1]
  instanceTypes := #[]
  staticTypes := #[]
  resolved := Array.replicate 32 none
  statics := none }

def pool2 : Array CpInfo := pool [(1, .methodref 2 3), (0, .class_ 4), (0, .nameAndType 5 6), (0, u "java/lang/Object"), (0, u "<init>"), (0, u "()V"), (0, .fieldref 8 9), (0, .class_ 10), (0, .nameAndType 11 12), (0, u "com/example/orlok/orlok/Deadline"), (0, u "startNanos"), (0, u "J"), (0, .fieldref 8 14), (0, .nameAndType 15 12), (0, u "lengthNanos"), (9, u "(J)J"), (0, .methodref 8 27), (0, .nameAndType 5 28), (0, u "(JJ)V"), (0, .long 18446744073709551615), (3, .long 9223372036854775807), (9, u "nanosLeftAt"), (2, u "NONE"), (0, u "Lcom/example/orlok/orlok/Deadline;"), (4, u "passedAt"), (0, u "(J)Lcom/example/orlok/orlok/Deadline;")] 6

def k2c0 : Code := { maxStack := 3, maxLocals := 5, code := prog_1_method_1_code, exceptionTable := #[], attributes := #[] }
def k2m0 : Method := { name := "<init>", desc := "(JJ)V", sig := { parameters := [.long, .long], returnType := none }, accessFlags := 2, code := some k2c0 }
def k2c1 : Code := { maxStack := 6, maxLocals := 2, code := prog_1_method_3_code, exceptionTable := #[], attributes := #[] }
def k2m1 : Method := { name := "passedAt", desc := "(J)Lcom/example/orlok/orlok/Deadline;", sig := { parameters := [.long], returnType := some (.object "com/example/orlok/orlok/Deadline") }, accessFlags := 8, code := some k2c1 }
def k2c2 : Code := { maxStack := 6, maxLocals := 3, code := prog_1_method_4_code, exceptionTable := #[], attributes := #[] }
def k2m2 : Method := { name := "nanosLeftAt", desc := "(J)J", sig := { parameters := [.long], returnType := some .long }, accessFlags := 0, code := some k2c2 }
/-- com/example/orlok/orlok/Deadline -/
def k2 : Class := { plain "com/example/orlok/orlok/Deadline" (some 0) with
  accessFlags := 48
  interfaces := #[]
  cf := some (fileOf pool2 8 #[] #[{ accessFlags := 2, nameIndex := 5, descriptorIndex := 28, attributes := #[] }, { accessFlags := 8, nameIndex := 52, descriptorIndex := 53, attributes := #[] }, { accessFlags := 0, nameIndex := 43, descriptorIndex := 25, attributes := #[] }] 48 2 #[] #[{ accessFlags := 24, nameIndex := 46, descriptorIndex := 47, attributes := #[] }, { accessFlags := 18, nameIndex := 11, descriptorIndex := 12, attributes := #[] }, { accessFlags := 18, nameIndex := 15, descriptorIndex := 12, attributes := #[] }])
  fields := #[{ name := "NONE", type := (.object "com/example/orlok/orlok/Deadline"), accessFlags := 24, slot := 0, constantValue := 0 }, { name := "startNanos", type := .long, accessFlags := 18, slot := 0, constantValue := 0 }, { name := "lengthNanos", type := .long, accessFlags := 18, slot := 1, constantValue := 0 }]
  methods := #[k2m0, k2m1, k2m2]
  instanceTypes := #[.long, .long]
  staticTypes := #[(.object "com/example/orlok/orlok/Deadline")]
  resolved := Array.replicate 60 none
  statics := none }

def pool3 : Array CpInfo := pool [(1, u "java/lang/Cloneable"), (0, .class_ 1), (0, u "java/lang/Object"), (0, .class_ 3)] 3

/-- java/lang/Cloneable -/
def k3 : Class := { plain "java/lang/Cloneable" (some 0) with
  accessFlags := 1537
  interfaces := #[]
  cf := some (fileOf pool3 2 #[] #[] 1537 4 #[] #[])
  fields := #[]
  methods := #[]
  instanceTypes := #[]
  staticTypes := #[]
  resolved := Array.replicate 8 none
  statics := none }

def pool4 : Array CpInfo := pool [(1, u "java/io/Serializable"), (0, .class_ 1), (0, u "java/lang/Object"), (0, .class_ 3)] 3

/-- java/io/Serializable -/
def k4 : Class := { plain "java/io/Serializable" (some 0) with
  accessFlags := 1537
  interfaces := #[]
  cf := some (fileOf pool4 2 #[] #[] 1537 4 #[] #[])
  fields := #[]
  methods := #[]
  instanceTypes := #[]
  staticTypes := #[]
  resolved := Array.replicate 8 none
  statics := none }

/-- the primitive byte -/
def k5 : Class := { plain "byte" none with kind := .primitive 'B', accessFlags := 0x411 }
/-- [B -/
def k6 : Class := { plain "[B" (some 0) with kind := .array 5 .byte, interfaces := #[3, 4], accessFlags := 1041 }

/-- the primitive int -/
def k7 : Class := { plain "int" none with kind := .primitive 'I', accessFlags := 0x411 }
/-- [I -/
def k8 : Class := { plain "[I" (some 0) with kind := .array 7 .int, interfaces := #[3, 4], accessFlags := 1041 }

def heap : Heap := #[]
def classes : Array Class := #[k0, k1, k2, k3, k4, k5, k6, k7, k8]
def interned : List (Array UInt16 × Addr) := []
def slotsUsed : Nat := 0
def theMethod : MethodId := ⟨1, 1⟩
def args0 : Array Value := #[.long 5, .long 77]
def aboutOver (below : List Frame) : State where
  vm := { classes := classes, interned := interned.toArray }
  heap := heap
  slotsUsed := slotsUsed
  threads := #[{ frames := .invoking theMethod args0 :: below }]
def below0 : List Frame := [.native { method := ⟨0, 0⟩, args := #[] }]
def about1 : State := aboutOver below0
def p0 : Program := .bare "" "" ""
def e0 : Env := launch0.env 0 0 0
theorem w_frames : about1.frames = Frame.invoking theMethod args0 :: below0 := rfl
set_option maxRecDepth 65536 in
theorem w_args : argsFit about1.vm theMethod args0 = true := by decide +kernel
set_option maxRecDepth 65536 in
theorem w_heap : heapFits about1 = true := by decide +kernel
set_option maxRecDepth 65536 in
theorem w_runnable : about1.curStatus? = some .runnable := by decide +kernel
set_option maxRecDepth 65536 in
theorem w_alone : about1.alone = true := by decide +kernel
set_option maxRecDepth 65536 in
theorem w_named : about1.methodNamed? x = some theMethod := by decide +kernel
set_option maxRecDepth 65536 in
theorem w_hears : about1.hears theMethod below0 = true := by decide +kernel
set_option maxRecDepth 65536 in
theorem w_ripe : about1.ripe theMethod args0 below0 = true := by decide +kernel
theorem w_running : about1.status = .running := rfl
set_option maxRecDepth 65536 in
theorem w_room : about1.hasRoom e0.platform room_1 = true :=
  launch0.hasRoom_least _ room_1 (by decide +kernel) (by decide +kernel) (by decide +kernel) (by decide +kernel) (by decide +kernel) (by decide +kernel)
theorem allAtoms_all (ts : List Jvm.Cond) (a : Array Jvm.Value) (st : Jvm.State) : (allAtoms ts).before a st = ts.all (fun c => c.before a st) := by
  induction ts with
  | nil => rfl
  | cons c t ih =>
    show (Jvm.Cond.and c (allAtoms t)).before a st = _
    rw [Jvm.Cond.before_and, ih, List.all_cons]
def words1 : List Jvm.Cond := Jvm.Cond.code x code maxLocals ret :: tables_1
/-- a 'code' word, met by the world's own term for the bytes: nothing is compared byte by byte -/
theorem code_word {y : MethodName} {bytes : ByteArray} {mx : Nat} {rt : Option FieldType} {a : Array Value} {s : State} {m : MethodId} {meth : Method} {c : Code} (h1 : s.methodNamed? y = some m) (h2 : s.vm.method? m = some meth) (h3 : meth.code = some c) (h4 : c.code = bytes)
    (h5 : (c.maxLocals == mx && c.exceptionTable.isEmpty && decide (c.maxStack ≤ mostOperands) && decide (meth.sig.returnType = rt) && !meth.locks && decide (parseMethodDescriptor y.desc = some meth.sig)) = true) : (Jvm.Cond.code y bytes mx rt).before a s = true := by
  simp only [Bool.and_eq_true, beq_iff_eq, Bool.not_eq_true', decide_eq_true_eq] at h5
  obtain ⟨⟨⟨⟨⟨g1, g2⟩, g3⟩, g4⟩, g5⟩, g6⟩ := h5
  simp [Cond.before, Cond.holds, Cond.value, h1, h2, h3, h4, g1, g2, g3, g4, g5, g6]
def isCode : Jvm.Cond → Bool
  | .code _ _ _ _ => true
  | _ => false
theorem all_split {L : List Jvm.Cond} {P : Jvm.Cond → Bool} (h1 : L.all (fun c => isCode c || P c) = true) (h2 : ∀ c ∈ L.filter isCode, P c = true) : L.all P = true := by
  refine List.all_eq_true.mpr fun c hc => ?_
  have h := List.all_eq_true.mp h1 c hc
  rcases Bool.eq_false_or_eq_true (isCode c) with hi | hi
  · exact h2 c (List.mem_filter.mpr ⟨hc, hi⟩)
  · simpa [hi] using h
set_option maxRecDepth 65536 in
theorem w_c0 : (Jvm.Cond.code x code maxLocals ret).before args0 about1 = true := code_word (m := ⟨1, 1⟩) (meth := k1m1) (c := k1c1) (by decide +kernel) rfl rfl rfl (by decide +kernel)
set_option maxRecDepth 65536 in
theorem w_c1 : (Jvm.Cond.code ({ cls := "com/example/orlok/orlok/Deadline", name := "passedAt", desc := "(J)Lcom/example/orlok/orlok/Deadline;" } : Jvm.MethodName) prog_1_method_3_code (2 : Nat) (Option.some (Jvm.ClassFile.FieldType.object "com/example/orlok/orlok/Deadline"))).before args0 about1 = true := code_word (m := ⟨2, 1⟩) (meth := k2m1) (c := k2c1) (by decide +kernel) rfl rfl rfl (by decide +kernel)
set_option maxRecDepth 65536 in
theorem w_c2 : (Jvm.Cond.code ({ cls := "com/example/orlok/orlok/Deadline", name := "<init>", desc := "(JJ)V" } : Jvm.MethodName) prog_1_method_1_code (5 : Nat) (Option.none : Option Jvm.ClassFile.FieldType)).before args0 about1 = true := code_word (m := ⟨2, 0⟩) (meth := k2m0) (c := k2c0) (by decide +kernel) rfl rfl rfl (by decide +kernel)
set_option maxRecDepth 65536 in
theorem w_c3 : (Jvm.Cond.code ({ cls := "java/lang/Object", name := "<init>", desc := "()V" } : Jvm.MethodName) object_method_1_code (1 : Nat) (Option.none : Option Jvm.ClassFile.FieldType)).before args0 about1 = true := code_word (m := ⟨0, 0⟩) (meth := k0m0) (c := k0c0) (by decide +kernel) rfl rfl rfl (by decide +kernel)
set_option maxRecDepth 65536 in
theorem w_c4 : (Jvm.Cond.code ({ cls := "com/example/orlok/orlok/Deadline", name := "nanosLeftAt", desc := "(J)J" } : Jvm.MethodName) prog_1_method_4_code (3 : Nat) (Option.some Jvm.ClassFile.FieldType.long)).before args0 about1 = true := code_word (m := ⟨2, 2⟩) (meth := k2m2) (c := k2c2) (by decide +kernel) rfl rfl rfl (by decide +kernel)
def codes1 : List Jvm.Cond := [Jvm.Cond.code x code maxLocals ret, Jvm.Cond.code ({ cls := "com/example/orlok/orlok/Deadline", name := "passedAt", desc := "(J)Lcom/example/orlok/orlok/Deadline;" } : Jvm.MethodName) prog_1_method_3_code (2 : Nat) (Option.some (Jvm.ClassFile.FieldType.object "com/example/orlok/orlok/Deadline")), Jvm.Cond.code ({ cls := "com/example/orlok/orlok/Deadline", name := "<init>", desc := "(JJ)V" } : Jvm.MethodName) prog_1_method_1_code (5 : Nat) (Option.none : Option Jvm.ClassFile.FieldType), Jvm.Cond.code ({ cls := "java/lang/Object", name := "<init>", desc := "()V" } : Jvm.MethodName) object_method_1_code (1 : Nat) (Option.none : Option Jvm.ClassFile.FieldType), Jvm.Cond.code ({ cls := "com/example/orlok/orlok/Deadline", name := "nanosLeftAt", desc := "(J)J" } : Jvm.MethodName) prog_1_method_4_code (3 : Nat) (Option.some Jvm.ClassFile.FieldType.long)]
set_option maxRecDepth 65536 in
theorem codes_eq : words1.filter isCode = codes1 := rfl
theorem w_codes : ∀ c ∈ words1.filter isCode, c.before args0 about1 = true := by
  rw [codes_eq]
  intro c hc
  simp only [codes1, List.mem_cons, List.not_mem_nil, or_false] at hc
  rcases hc with rfl | rfl | rfl | rfl | rfl
  · exact w_c0
  · exact w_c1
  · exact w_c2
  · exact w_c3
  · exact w_c4
set_option maxRecDepth 65536 in
theorem w_t1 : (words1.take 24).all (fun c => isCode c || c.before args0 about1) = true := by decide +kernel
set_option maxRecDepth 65536 in
theorem w_t2 : (words1.drop 24).all (fun c => isCode c || c.before args0 about1) = true := by decide +kernel
theorem w_tables : (allAtoms (Jvm.Cond.code x code maxLocals ret :: tables_1)).before args0 about1 = true := by
  rw [allAtoms_all]
  show words1.all (fun c => c.before args0 about1) = true
  refine all_split ?_ w_codes
  rw [← List.take_append_drop 24 words1, List.all_append, w_t1, w_t2]
  rfl
set_option maxRecDepth 65536 in
theorem w_case : (Jvm.Cond.and given_1 narrow_1).before args0 about1 = true := by decide +kernel
theorem w_applies : (headSpec (Jvm.Cond.code x code maxLocals ret :: tables_1) room_1).applies x e0.platform about1 = true :=
  (Spec.applies_iff w_frames).mpr ⟨w_running, w_runnable, w_alone, w_named, w_hears, w_ripe, w_room, w_tables⟩
theorem atStart : AtStart classFile x code maxLocals ret World_1 tables_1 room_1 Calls_1 rest_1 Pre_1 launch0 p0 e0 about1 theMethod args0 below0 :=
  ⟨lists_1, trivial, launch0.admits_env _ _ _, launch0.least_env, fairChoices_fair.cas, fairChoices_fair.clock, w_frames, w_args, w_heap, w_applies, trivial, trivial, w_case⟩
end start1
theorem witness_1 : WitnessClaimed_1 := ⟨start1.p0, start1.e0, start1.about1, start1.theMethod, start1.args0, start1.below0, start1.atStart⟩
end Jvm.Pilot.@@N@@
