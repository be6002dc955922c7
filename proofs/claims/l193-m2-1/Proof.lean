import JvmDerived
import JvmDerived.Pilot.@@N@@Statement
import JvmDerived.Pilot.@@N@@Code
set_option linter.unusedVariables false
set_option linter.unusedSimpArgs false
namespace Jvm.RoadKit
open Sem ClassFile Op Lib Jvm.Stand Jvm.Free Jvm.LawKit
section New
variable {p : Program} {l : Launch} {e : Env} {R : Room} {s : State} {m : MethodId} {args : Array Value} {below : List Frame} {meth : Method} {c : Code} {T : State} {locs : List Loc} {cells slots : Nat}
theorem retI (X : Stand p l e R s m args below meth c T locs cells slots) (hx : p.tables.exec = Jvm.exec) {pc : Nat} {Ls : Array Slot} {z : Int32} {rest : List Value} (hret : meth.sig.returnType = some .int) (hd : decode c.code pc = .ok (.ireturn, 1)) {fs : List Frame}
    (hl : ∀ (f : JFrame) (acts : List Action), f.method = m → f.locked = none → f.entered = [] → (doReturn e (T.setTop f) acts (some (.int z))).1 = T.setFrames fs) : Steps p.tables e below (T.setTop (mkF m pc Ls (.int z :: rest))) (T.setFrames fs) := by
  have hm' : T.vm.method? m = some meth := X.method'
  have hn : narrow .int (.int z) = .int z := rfl
  show Steps p.tables e below (T.setTop { method := m, pc := pc, locals := Ls, stack := _ :: rest, locked := none }) _
  jvm_step X.here [X.here.top, hx, hd, hm', hret, hn]
  first | (intro acts; rw [hl _ acts rfl rfl rfl]) | rw [hl _ _ rfl rfl rfl]
  exact Steps.refl _
end New
end Jvm.RoadKit
namespace Jvm.Pilot.@@N@@
open Jvm Jvm.ClassFile Sem Op Lib Jvm.Free Jvm.Stand Jvm.LawKit Jvm.RoadKit Bundle Jvm.Pilot.@@N@@.Jvm.D

theorem own_eqI {a : Term} {n : Int32} {args : Array Value} {first s : State} {o : Option Outcome} {idx : List Nat} (h : (Jvm.Cond.eq a (Jvm.Term.int n)).value args first o s idx = some true) : a.eval args first o idx s = some (.int n) := by
  obtain ⟨x, y, hx, hy, k1, -⟩ := cmp_v (Or.inl h)
  have hb : (Jvm.Term.int n).eval args first o idx s = some (.int n) := Term.int_eval n
  rw [hb] at hy
  cases hy
  cases x with
  | int z => rw [hx]; have := gotT (P := z = n) (by simp [Cond.value, hx, hb]) h; rw [this]
  | _ => simp [Kin, Value.isRef] at k1
theorem own_eqL {a : Term} {n : Int64} {args : Array Value} {first s : State} {o : Option Outcome} {idx : List Nat} (h : (Jvm.Cond.eq a (Jvm.Term.long n)).value args first o s idx = some true) : a.eval args first o idx s = some (.long n) := by
  obtain ⟨x, y, hx, hy, k1, -⟩ := cmp_v (Or.inl h)
  have hb : (Jvm.Term.long n).eval args first o idx s = some (.long n) := rfl
  rw [hb] at hy
  cases hy
  cases x with
  | long z => rw [hx]; have := gotT (P := z = n) (by simp [Cond.value, hx, hb]) h; rw [this]
  | _ => simp [Kin, Value.isRef] at k1
theorem d1_0 : decode prog_1_method_1_code 0 = .ok (.aload_n 0, 1) := by decide +kernel
theorem d1_1 : decode prog_1_method_1_code 1 = .ok (.invokespecial 1, 3) := by decide +kernel
theorem d1_4 : decode prog_1_method_1_code 4 = .ok (.aload_n 0, 1) := by decide +kernel
theorem d1_5 : decode prog_1_method_1_code 5 = .ok (.lload_n 1, 1) := by decide +kernel
theorem d1_6 : decode prog_1_method_1_code 6 = .ok (.putfield 7, 3) := by decide +kernel
theorem d1_9 : decode prog_1_method_1_code 9 = .ok (.aload_n 0, 1) := by decide +kernel
theorem d1_10 : decode prog_1_method_1_code 10 = .ok (.lload_n 3, 1) := by decide +kernel
theorem d1_11 : decode prog_1_method_1_code 11 = .ok (.putfield 13, 3) := by decide +kernel
theorem d1_14 : decode prog_1_method_1_code 14 = .ok (.return_, 1) := by decide +kernel
theorem pn1 : plainName "com/example/orlok/orlok/Deadline" = true := by first | (simp [plainName, overriddenIn]; done) | decide +kernel
theorem ef1 (m : MethodId) (x0 : Addr) (x1 : Int64) (x2 : Int64) : entryFrame m #[(.ref x0), (.long x1), (.long x2)] 5 = mkF m 0 #[.val (.ref x0), .val (.long x1), .second, .val (.long x2), .second] [] := by first | (simp [entryFrame, mkF, argsToLocals, Value.category]; done) | rfl
def Q1 (Z : State) (x0 : Addr) (x1 : Int64) (x2 : Int64) (u0 : Value) (u1 : Value) (h0 : Heap) (n0 : Nat) (v : Option Value) (h : Heap) (L : List Loc) : Prop := v = none ∧ Fr n0 L ∧ Keep h0 h [x0] ∧ Exa Z h x0 "com/example/orlok/orlok/Deadline" ∧ Fld Z h x0 "com/example/orlok/orlok/Deadline" "startNanos" "J" (.long x1) ∧ Fld Z h x0 "com/example/orlok/orlok/Deadline" "lengthNanos" "J" (.long x2)
set_option maxRecDepth 65536 in
set_option maxHeartbeats 40000000 in
theorem rm1 (l : Launch) (Z : State) (a0 : Array Value) (hw : ∀ d ∈ tables_1, d.before a0 Z = true) (ws : List Jvm.Cond) (x0 : Addr) (x1 : Int64) (x2 : Int64) (u0 : Value) (u1 : Value) (h0 : Heap) (n0 : Nat) (Z0 : n0 ≤ h0.size) (B0 : Exa Z h0 x0 "com/example/orlok/orlok/Deadline") (B1 : Fld Z h0 x0 "com/example/orlok/orlok/Deadline" "startNanos" "J" u0) (B2 : Fld Z h0 x0 "com/example/orlok/orlok/Deadline" "lengthNanos" "J" u1) (g_x0 : n0 ≤ x0) :
    MetFree l (⟨"com/example/orlok/orlok/Deadline", "<init>", "(JJ)V"⟩ : MethodName) (head1 (Jvm.Cond.code (⟨"com/example/orlok/orlok/Deadline", "<init>", "(JJ)V"⟩ : MethodName) prog_1_method_1_code 5 none :: ws) ({ frames := 1, cells := 0, slots := 0, locals := 12 } : Room)) (fun a U => a = #[(.ref x0), (.long x1), (.long x2)] ∧ Z.Warmed39 U.vm ∧ U.heap = h0) (fun _ _ _ _ _ => True) (fun _ U o U' => ∃ v L, o = .returned v ∧ Q1 Z x0 x1 x2 u0 u1 h0 n0 v U'.heap L ∧ FrameEnd U o U' L ({ frames := 1, cells := 0, slots := 0, locals := 12 } : Room).cells ({ frames := 1, cells := 0, slots := 0, locals := 12 } : Room).slots) := by
  refine MetFree.of_bodySF (plainFor_of_name pn1) hisR ?_
  intro p e s m args below meth c s₁ Bd hml0 hP hK
  obtain ⟨rfl, hZ, hh⟩ := hP
  have hx := Bd.exec
  have hby := Bd.bytes
  have hml : c.maxLocals = 5 := hml0
  have hown : s.vm.findClass "com/example/orlok/orlok/Deadline" = some m.cls := findClass_of_methodNamed Bd.named
  have hnm := (name_of_methodNamed Bd.named Bd.method).1
  have X0 : Stand p l e ({ frames := 1, cells := 0, slots := 0, locals := 12 } : Room) s m #[(.ref x0), (.long x1), (.long x2)] below meth c s₁ [] 0 0 := Stand.of_body Bd
  have e0 : s₁.heap = h0 := by rw [← hh, Bd.state]; rfl
  have N0 := Fr.nil n0
  have pre0 : Steps p.tables e below (s₁.setTop (entryFrame m #[(.ref x0), (.long x1), (.long x2)] 5)) (s₁.setTop (mkF m 0 #[.val (.ref x0), .val (.long x1), .second, .val (.long x2), .second] [])) := castTop (ef1 m x0 x1 x2) (Steps.refl _)
  have K0 := Keep.refl h0 [x0]
  have st1 : Steps p.tables e below (s₁.setTop (mkF m 0 #[.val (.ref x0), .val (.long x1), .second, .val (.long x2), .second] [])) (s₁.setTop (mkF m 1 #[.val (.ref x0), .val (.long x1), .second, .val (.long x2), .second] [(.ref x0)])) := by
    refine XS.aloadN X0.here hx rfl (hb hby d1_0) rfl rfl ?_
    show Steps p.tables e below (s₁.setTop (mkF m 1 #[.val (.ref x0), .val (.long x1), .second, .val (.long x2), .second] [(.ref x0)])) _
    exact Steps.refl _
  have pre1 := pre0.trans st1
  obtain ⟨T2, X2, e2, st2⟩ := initO X0 hx hZ hown (hw _ (List.mem_of_getElem? (i := 26) rfl)) (hw _ (List.mem_of_getElem? (i := 27) rfl)) (hw _ (List.mem_of_getElem? (i := 28) rfl)) e0 (g := (mkF m 1 #[.val (.ref x0), .val (.long x1), .second, .val (.long x2), .second] [(.ref x0)])) rfl (by rw [hml]; rfl) rfl (hb hby d1_1) (by decide) (W := 0) (by show 2 * 0 + _ ≤ _; exact Nat.le_of_eq rfl) (by decide)
  have pre2 : Steps p.tables e below (s₁.setTop (entryFrame m #[(.ref x0), (.long x1), (.long x2)] 5)) (T2.setTop (mkF m 4 #[.val (.ref x0), .val (.long x1), .second, .val (.long x2), .second] [])) := pre1.trans (st2 _ (Steps.refl _))
  have st3 : Steps p.tables e below (T2.setTop (mkF m 4 #[.val (.ref x0), .val (.long x1), .second, .val (.long x2), .second] [])) (T2.setTop (mkF m 6 #[.val (.ref x0), .val (.long x1), .second, .val (.long x2), .second] [(.long x1), (.ref x0)])) := by
    refine XS.aloadN X2.here hx rfl (hb hby d1_4) rfl rfl ?_
    show Steps p.tables e below (T2.setTop (mkF m 5 #[.val (.ref x0), .val (.long x1), .second, .val (.long x2), .second] [(.ref x0)])) _
    refine XS.lloadN X2.here hx rfl (hb hby d1_5) rfl ?_
    show Steps p.tables e below (T2.setTop (mkF m 6 #[.val (.ref x0), .val (.long x1), .second, .val (.long x2), .second] [(.long x1), (.ref x0)])) _
    exact Steps.refl _
  have pre3 := pre2.trans st3
  obtain ⟨T4, h4, X4, e4, W4, st4⟩ := putF X2 hx hZ hown (host := "") (Or.inl (hw _ (List.mem_of_getElem? (i := 29) rfl))) Via.refl e2 B1 B0 (Or.inr ⟨(hw _ (List.mem_of_getElem? (i := 30) rfl)), rfl, hnm⟩) (hw _ (List.mem_of_getElem? (i := 11) rfl)) (ty := .long) (by decide) rfl rfl (g := (mkF m 6 #[.val (.ref x0), .val (.long x1), .second, .val (.long x2), .second] [(.long x1), (.ref x0)])) rfl rfl (hb hby d1_6)
  have pre4 : Steps p.tables e below (s₁.setTop (entryFrame m #[(.ref x0), (.long x1), (.long x2)] 5)) (T4.setTop (mkF m 9 #[.val (.ref x0), .val (.long x1), .second, .val (.long x2), .second] [])) := pre3.trans (st4 _ (Steps.refl _))
  have F5 : Exa Z h4 x0 "com/example/orlok/orlok/Deadline" := B0.wr W4
  have F7 : Fld Z h4 x0 "com/example/orlok/orlok/Deadline" "lengthNanos" "J" u1 := B2.other W4 (Or.inr (slot_ne (Or.inr (hw _ (List.mem_of_getElem? (i := 32) rfl))) (Or.inr (hw _ (List.mem_of_getElem? (i := 30) rfl))) (by decide) (t := .long) (t' := .long) (by decide) (by decide)))
  have K4 := K0.wr W4 (Or.inl (List.mem_of_getElem? (i := 0) rfl))
  have Z4 : n0 ≤ h4.size := Nat.le_trans Z0 (Keep.of_wr W4).1
  have Fw4 : Fld Z h4 x0 "com/example/orlok/orlok/Deadline" "startNanos" "J" (.long x1) := B1.same W4
  have N4 := Fr.snoc X4 N0 g_x0
  have st8 : Steps p.tables e below (T4.setTop (mkF m 9 #[.val (.ref x0), .val (.long x1), .second, .val (.long x2), .second] [])) (T4.setTop (mkF m 11 #[.val (.ref x0), .val (.long x1), .second, .val (.long x2), .second] [(.long x2), (.ref x0)])) := by
    refine XS.aloadN X4.here hx rfl (hb hby d1_9) rfl rfl ?_
    show Steps p.tables e below (T4.setTop (mkF m 10 #[.val (.ref x0), .val (.long x1), .second, .val (.long x2), .second] [(.ref x0)])) _
    refine XS.lloadN X4.here hx rfl (hb hby d1_10) rfl ?_
    show Steps p.tables e below (T4.setTop (mkF m 11 #[.val (.ref x0), .val (.long x1), .second, .val (.long x2), .second] [(.long x2), (.ref x0)])) _
    exact Steps.refl _
  have pre8 := pre4.trans st8
  obtain ⟨T9, h9, X9, e9, W9, st9⟩ := putF X4 hx hZ hown (host := "") (Or.inl (hw _ (List.mem_of_getElem? (i := 31) rfl))) Via.refl e4 F7 F5 (Or.inr ⟨(hw _ (List.mem_of_getElem? (i := 32) rfl)), rfl, hnm⟩) (hw _ (List.mem_of_getElem? (i := 11) rfl)) (ty := .long) (by decide) rfl rfl (g := (mkF m 11 #[.val (.ref x0), .val (.long x1), .second, .val (.long x2), .second] [(.long x2), (.ref x0)])) rfl rfl (hb hby d1_11)
  have pre9 : Steps p.tables e below (s₁.setTop (entryFrame m #[(.ref x0), (.long x1), (.long x2)] 5)) (T9.setTop (mkF m 14 #[.val (.ref x0), .val (.long x1), .second, .val (.long x2), .second] [])) := pre8.trans (st9 _ (Steps.refl _))
  have F10 : Exa Z h9 x0 "com/example/orlok/orlok/Deadline" := F5.wr W9
  have F12 : Fld Z h9 x0 "com/example/orlok/orlok/Deadline" "startNanos" "J" (.long x1) := Fw4.other W9 (Or.inr (slot_ne (Or.inr (hw _ (List.mem_of_getElem? (i := 30) rfl))) (Or.inr (hw _ (List.mem_of_getElem? (i := 32) rfl))) (by decide) (t := .long) (t' := .long) (by decide) (by decide)))
  have K9 := K4.wr W9 (Or.inl (List.mem_of_getElem? (i := 0) rfl))
  have Z9 : n0 ≤ h9.size := Nat.le_trans Z4 (Keep.of_wr W9).1
  have Fw9 : Fld Z h9 x0 "com/example/orlok/orlok/Deadline" "lengthNanos" "J" (.long x2) := F7.same W9
  have N9 := Fr.snoc X9 N4 g_x0
  obtain ⟨fs, hr, hrun, hended, hW, hsame⟩ := X9.leave (v := none) (fun _ => rfl)
  refine ⟨_, _, pre9.trans ?_, hrun, hended, _, _, rfl, ?_, ⟨_, rfl⟩, hW, hsame.mono (by decide) (by decide)⟩
  · show Steps p.tables e below (T9.setTop (mkF m 14 #[.val (.ref x0), .val (.long x1), .second, .val (.long x2), .second] [])) _
    exact X9.returnOut hx Bd.returns (hb hby d1_14) hr
  · show Q1 Z x0 x1 x2 u0 u1 h0 n0 _ T9.heap _
    rw [e9]
    exact ⟨rfl, N9, K9, F10, F12, Fw9⟩
theorem d2_0 : decode method_2_code 0 = .ok (.lload_n 1, 1) := by decide +kernel
theorem d2_1 : decode method_2_code 1 = .ok (.ldc2_w 9, 3) := by decide +kernel
theorem d2_4 : decode method_2_code 4 = .ok (.land, 1) := by decide +kernel
theorem d2_5 : decode method_2_code 5 = .ok (.lstore_n 3, 1) := by decide +kernel
theorem d2_6 : decode method_2_code 6 = .ok (.iload_n 0, 1) := by decide +kernel
theorem d2_7 : decode method_2_code 7 = .ok (.iconst 3, 1) := by decide +kernel
theorem d2_8 : decode method_2_code 8 = .ok (.iand, 1) := by decide +kernel
theorem d2_9 : decode method_2_code 9 = .ok (.istore 5, 2) := by decide +kernel
theorem d2_11 : decode method_2_code 11 = .ok (.iload 5, 2) := by decide +kernel
theorem d2_13 : decode method_2_code 13 = .ok (.ifCond .ne 5, 3) := by decide +kernel
theorem d2_16 : decode method_2_code 16 = .ok (.lload_n 3, 1) := by decide +kernel
theorem d2_17 : decode method_2_code 17 = .ok (.lreturn, 1) := by decide +kernel
theorem d2_18 : decode method_2_code 18 = .ok (.iload 5, 2) := by decide +kernel
theorem d2_20 : decode method_2_code 20 = .ok (.iconst 1, 1) := by decide +kernel
theorem d2_21 : decode method_2_code 21 = .ok (.if_icmp .ne 9, 3) := by decide +kernel
theorem d2_24 : decode method_2_code 24 = .ok (.lload_n 3, 1) := by decide +kernel
theorem d2_25 : decode method_2_code 25 = .ok (.ldc2_w 13, 3) := by decide +kernel
theorem d2_28 : decode method_2_code 28 = .ok (.lrem, 1) := by decide +kernel
theorem d2_29 : decode method_2_code 29 = .ok (.lreturn, 1) := by decide +kernel
theorem d2_30 : decode method_2_code 30 = .ok (.iload 5, 2) := by decide +kernel
theorem d2_32 : decode method_2_code 32 = .ok (.iconst 2, 1) := by decide +kernel
theorem d2_33 : decode method_2_code 33 = .ok (.if_icmp .ne 9, 3) := by decide +kernel
theorem d2_36 : decode method_2_code 36 = .ok (.lload_n 1, 1) := by decide +kernel
theorem d2_37 : decode method_2_code 37 = .ok (.ldc2_w 15, 3) := by decide +kernel
theorem d2_40 : decode method_2_code 40 = .ok (.land, 1) := by decide +kernel
theorem d2_41 : decode method_2_code 41 = .ok (.lreturn, 1) := by decide +kernel
theorem d2_42 : decode method_2_code 42 = .ok (.ldc2_w 17, 3) := by decide +kernel
theorem d2_45 : decode method_2_code 45 = .ok (.lload_n 1, 1) := by decide +kernel
theorem d2_46 : decode method_2_code 46 = .ok (.ldc2_w 19, 3) := by decide +kernel
theorem d2_49 : decode method_2_code 49 = .ok (.land, 1) := by decide +kernel
theorem d2_50 : decode method_2_code 50 = .ok (.ladd, 1) := by decide +kernel
theorem d2_51 : decode method_2_code 51 = .ok (.lreturn, 1) := by decide +kernel
theorem pn2 : plainName "com/example/orlok/orlok/DeadlineAfterPinLaw" = true := by first | (simp [plainName, overriddenIn]; done) | decide +kernel
theorem ef2 (m : MethodId) (x0 : Int32) (x1 : Int64) : entryFrame m #[(.int x0), (.long x1)] 6 = mkF m 0 #[.val (.int x0), .val (.long x1), .second, .unset, .unset, .unset] [] := by first | (simp [entryFrame, mkF, argsToLocals, Value.category]; done) | rfl
def own_F2 (x0 : Int32) (x1 : Int64) : Int64 := (if (x0 &&& (3 : Int32)) = (0 : Int32) then (x1 &&& (9223372036854775807 : Int64)) else (if (x0 &&& (3 : Int32)) = (1 : Int32) then ((x1 &&& (9223372036854775807 : Int64)) - ((x1 &&& (9223372036854775807 : Int64)) / (9223372036856 : Int64)) * (9223372036856 : Int64)) else (if (x0 &&& (3 : Int32)) = (2 : Int32) then (x1 &&& (65535 : Int64)) else ((9223372036853 : Int64) + (x1 &&& (3 : Int64))))))
def Q2 (Z : State) (x0 : Int32) (x1 : Int64) (h0 : Heap) (n0 : Nat) (v : Option Value) (h : Heap) (L : List Loc) : Prop := v = some (.long (own_F2 x0 x1)) ∧ Fr n0 L ∧ h = h0
set_option maxRecDepth 65536 in
set_option maxHeartbeats 40000000 in
theorem rm2 (l : Launch) (Z : State) (a0 : Array Value) (hw : ∀ d ∈ tables_1, d.before a0 Z = true) (ws : List Jvm.Cond) (x0 : Int32) (x1 : Int64) (h0 : Heap) (n0 : Nat) (Z0 : n0 ≤ h0.size) :
    MetFree l (⟨"com/example/orlok/orlok/DeadlineAfterPinLaw", "pickLease", "(IJ)J"⟩ : MethodName) (head1 (Jvm.Cond.code (⟨"com/example/orlok/orlok/DeadlineAfterPinLaw", "pickLease", "(IJ)J"⟩ : MethodName) method_2_code 6 (some .long) :: ws) ({ frames := 0, cells := 0, slots := 0, locals := 0 } : Room)) (fun a U => a = #[(.int x0), (.long x1)] ∧ Z.Warmed39 U.vm ∧ U.heap = h0) (fun _ _ _ _ _ => True) (fun _ U o U' => ∃ v L, o = .returned v ∧ Q2 Z x0 x1 h0 n0 v U'.heap L ∧ FrameEnd U o U' L ({ frames := 0, cells := 0, slots := 0, locals := 0 } : Room).cells ({ frames := 0, cells := 0, slots := 0, locals := 0 } : Room).slots) := by
  refine MetFree.of_bodySF (plainFor_of_name pn2) hisR ?_
  intro p e s m args below meth c s₁ Bd hml0 hP hK
  obtain ⟨rfl, hZ, hh⟩ := hP
  have hx := Bd.exec
  have hby := Bd.bytes
  have hml : c.maxLocals = 6 := hml0
  have hown : s.vm.findClass "com/example/orlok/orlok/DeadlineAfterPinLaw" = some m.cls := findClass_of_methodNamed Bd.named
  have hnm := (name_of_methodNamed Bd.named Bd.method).1
  have X0 : Stand p l e ({ frames := 0, cells := 0, slots := 0, locals := 0 } : Room) s m #[(.int x0), (.long x1)] below meth c s₁ [] 0 0 := Stand.of_body Bd
  have e0 : s₁.heap = h0 := by rw [← hh, Bd.state]; rfl
  have N0 := Fr.nil n0
  have pre0 : Steps p.tables e below (s₁.setTop (entryFrame m #[(.int x0), (.long x1)] 6)) (s₁.setTop (mkF m 0 #[.val (.int x0), .val (.long x1), .second, .unset, .unset, .unset] [])) := castTop (ef2 m x0 x1) (Steps.refl _)
  obtain ⟨v1, hv1⟩ : ∃ z : Int32, z = (x0 &&& (3 : Int32)) := ⟨_, rfl⟩
  obtain ⟨v2, hv2⟩ : ∃ z : Int64, z = (x1 &&& (9223372036854775807 : Int64)) := ⟨_, rfl⟩
  have st3 : Steps p.tables e below (s₁.setTop (mkF m 0 #[.val (.int x0), .val (.long x1), .second, .unset, .unset, .unset] [])) (s₁.setTop (mkF m 13 #[.val (.int x0), .val (.long x1), .second, .val (.long v2), .second, .val (.int v1)] [(.int v1)])) := by
    subst v2 v1
    refine XS.lloadN X0.here hx rfl (hb hby d2_0) rfl ?_
    show Steps p.tables e below (s₁.setTop (mkF m 1 #[.val (.int x0), .val (.long x1), .second, .unset, .unset, .unset] [(.long x1)])) _
    refine X0.ldc2Long hx hown (mvT hZ (hw _ (List.mem_of_getElem? (i := 4) rfl))) (g := (mkF m 1 #[.val (.int x0), .val (.long x1), .second, .unset, .unset, .unset] [(.long x1)])) rfl (hb hby d2_1) _ ?_
    show Steps p.tables e below (s₁.setTop (mkF m 4 #[.val (.int x0), .val (.long x1), .second, .unset, .unset, .unset] [(.long (9223372036854775807 : Int64)), (.long x1)])) _
    refine XS.land X0.here hx rfl (hb hby d2_4) rfl ?_
    show Steps p.tables e below (s₁.setTop (mkF m 5 #[.val (.int x0), .val (.long x1), .second, .unset, .unset, .unset] [(.long (x1 &&& (9223372036854775807 : Int64)))])) _
    refine XS.lstoreN X0.here hx rfl (hb hby d2_5) rfl (l' := #[.val (.int x0), .val (.long x1), .second, .val (.long (x1 &&& (9223372036854775807 : Int64))), .second, .unset]) rfl ?_
    show Steps p.tables e below (s₁.setTop (mkF m 6 #[.val (.int x0), .val (.long x1), .second, .val (.long (x1 &&& (9223372036854775807 : Int64))), .second, .unset] [])) _
    refine XS.iloadN X0.here hx rfl (hb hby d2_6) rfl ?_
    show Steps p.tables e below (s₁.setTop (mkF m 7 #[.val (.int x0), .val (.long x1), .second, .val (.long (x1 &&& (9223372036854775807 : Int64))), .second, .unset] [(.int x0)])) _
    refine XS.iconst X0.here hx rfl (hb hby d2_7) ?_
    show Steps p.tables e below (s₁.setTop (mkF m 8 #[.val (.int x0), .val (.long x1), .second, .val (.long (x1 &&& (9223372036854775807 : Int64))), .second, .unset] [(.int (3 : Int32)), (.int x0)])) _
    refine XS.iand X0.here hx rfl (hb hby d2_8) rfl ?_
    show Steps p.tables e below (s₁.setTop (mkF m 9 #[.val (.int x0), .val (.long x1), .second, .val (.long (x1 &&& (9223372036854775807 : Int64))), .second, .unset] [(.int (x0 &&& (3 : Int32)))])) _
    refine XS.istore X0.here hx rfl (hb hby d2_9) rfl (l' := #[.val (.int x0), .val (.long x1), .second, .val (.long (x1 &&& (9223372036854775807 : Int64))), .second, .val (.int (x0 &&& (3 : Int32)))]) rfl ?_
    show Steps p.tables e below (s₁.setTop (mkF m 11 #[.val (.int x0), .val (.long x1), .second, .val (.long (x1 &&& (9223372036854775807 : Int64))), .second, .val (.int (x0 &&& (3 : Int32)))] [])) _
    refine XS.iload X0.here hx rfl (hb hby d2_11) rfl ?_
    show Steps p.tables e below (s₁.setTop (mkF m 13 #[.val (.int x0), .val (.long x1), .second, .val (.long (x1 &&& (9223372036854775807 : Int64))), .second, .val (.int (x0 &&& (3 : Int32)))] [(.int (x0 &&& (3 : Int32)))])) _
    exact Steps.refl _
  have pre3 := pre0.trans st3
  by_cases hc13 : v1 = (0 : Int32)
  · have st4 : Steps p.tables e below (s₁.setTop (mkF m 13 #[.val (.int x0), .val (.long x1), .second, .val (.long v2), .second, .val (.int v1)] [(.int v1)])) (s₁.setTop (mkF m 16 #[.val (.int x0), .val (.long x1), .second, .val (.long v2), .second, .val (.int v1)] [])) := by
      refine XS.ifNo X0.here hx rfl (hb hby d2_13) rfl ((if0 _ _).trans (teq hc13).2) ?_
      exact Steps.refl _
    have pre4 := pre3.trans st4
    have st5 : Steps p.tables e below (s₁.setTop (mkF m 16 #[.val (.int x0), .val (.long x1), .second, .val (.long v2), .second, .val (.int v1)] [])) (s₁.setTop (mkF m 17 #[.val (.int x0), .val (.long x1), .second, .val (.long v2), .second, .val (.int v1)] [(.long v2)])) := by
      refine XS.lloadN X0.here hx rfl (hb hby d2_16) rfl ?_
      show Steps p.tables e below (s₁.setTop (mkF m 17 #[.val (.int x0), .val (.long x1), .second, .val (.long v2), .second, .val (.int v1)] [(.long v2)])) _
      exact Steps.refl _
    have pre5 := pre4.trans st5
    obtain ⟨fs, hr, hrun, hended, hW, hsame⟩ := X0.leave (v := some (.long v2)) (fun h => by rw [Bd.returns] at h; cases h)
    refine ⟨_, _, pre5.trans ?_, hrun, hended, _, _, rfl, ?_, ⟨_, rfl⟩, hW, hsame.mono (by decide) (by decide)⟩
    · show Steps p.tables e below (s₁.setTop (mkF m 17 #[.val (.int x0), .val (.long x1), .second, .val (.long v2), .second, .val (.int v1)] [(.long v2)])) _
      jvm_step X0.here [X0.here.top, hx, (hb hby d2_17), X0.method', Bd.returns, narrow]
      first | (intro acts; rw [hr _ acts rfl rfl rfl]) | rw [hr _ _ rfl rfl rfl]
      exact Steps.refl _
    · show Q2 Z x0 x1 h0 n0 _ s₁.heap _
      rw [e0]
      have hF : own_F2 x0 x1 = v2 := by
        subst v2 v1
        simp only [own_F2, if_pos hc13]
      exact ⟨by rw [hF], N0, rfl⟩
  · have st6 : Steps p.tables e below (s₁.setTop (mkF m 13 #[.val (.int x0), .val (.long x1), .second, .val (.long v2), .second, .val (.int v1)] [(.int v1)])) (s₁.setTop (mkF m 18 #[.val (.int x0), .val (.long x1), .second, .val (.long v2), .second, .val (.int v1)] [])) := by
      refine XS.ifYes X0.here hx rfl (pc0 := 13) (pc' := 18) rfl (hb hby d2_13) rfl ((if0 _ _).trans (feq hc13).2) (by decide) (by decide) ?_
      exact Steps.refl _
    have pre6 := pre3.trans st6
    have st7 : Steps p.tables e below (s₁.setTop (mkF m 18 #[.val (.int x0), .val (.long x1), .second, .val (.long v2), .second, .val (.int v1)] [])) (s₁.setTop (mkF m 21 #[.val (.int x0), .val (.long x1), .second, .val (.long v2), .second, .val (.int v1)] [(.int (1 : Int32)), (.int v1)])) := by
      refine XS.iload X0.here hx rfl (hb hby d2_18) rfl ?_
      show Steps p.tables e below (s₁.setTop (mkF m 20 #[.val (.int x0), .val (.long x1), .second, .val (.long v2), .second, .val (.int v1)] [(.int v1)])) _
      refine XS.iconst X0.here hx rfl (hb hby d2_20) ?_
      show Steps p.tables e below (s₁.setTop (mkF m 21 #[.val (.int x0), .val (.long x1), .second, .val (.long v2), .second, .val (.int v1)] [(.int (1 : Int32)), (.int v1)])) _
      exact Steps.refl _
    have pre7 := pre6.trans st7
    by_cases hc21 : v1 = (1 : Int32)
    · have st8 : Steps p.tables e below (s₁.setTop (mkF m 21 #[.val (.int x0), .val (.long x1), .second, .val (.long v2), .second, .val (.int v1)] [(.int (1 : Int32)), (.int v1)])) (s₁.setTop (mkF m 24 #[.val (.int x0), .val (.long x1), .second, .val (.long v2), .second, .val (.int v1)] [])) := by
        refine XS.icmpNo X0.here hx rfl (hb hby d2_21) rfl (teq hc21).2 ?_
        exact Steps.refl _
      have pre8 := pre7.trans st8
      obtain ⟨v9, hv9⟩ : ∃ z : Int64, z = (v2 - (v2 / (9223372036856 : Int64)) * (9223372036856 : Int64)) := ⟨_, rfl⟩
      have st10 : Steps p.tables e below (s₁.setTop (mkF m 24 #[.val (.int x0), .val (.long x1), .second, .val (.long v2), .second, .val (.int v1)] [])) (s₁.setTop (mkF m 29 #[.val (.int x0), .val (.long x1), .second, .val (.long v2), .second, .val (.int v1)] [(.long v9)])) := by
        subst v9
        refine XS.lloadN X0.here hx rfl (hb hby d2_24) rfl ?_
        show Steps p.tables e below (s₁.setTop (mkF m 25 #[.val (.int x0), .val (.long x1), .second, .val (.long v2), .second, .val (.int v1)] [(.long v2)])) _
        refine X0.ldc2Long hx hown (mvT hZ (hw _ (List.mem_of_getElem? (i := 44) rfl))) (g := (mkF m 25 #[.val (.int x0), .val (.long x1), .second, .val (.long v2), .second, .val (.int v1)] [(.long v2)])) rfl (hb hby d2_25) _ ?_
        show Steps p.tables e below (s₁.setTop (mkF m 28 #[.val (.int x0), .val (.long x1), .second, .val (.long v2), .second, .val (.int v1)] [(.long (9223372036856 : Int64)), (.long v2)])) _
        refine XS.lrem X0.here hx rfl (hb hby d2_28) rfl (by decide) ?_
        show Steps p.tables e below (s₁.setTop (mkF m 29 #[.val (.int x0), .val (.long x1), .second, .val (.long v2), .second, .val (.int v1)] [(.long (v2 - (v2 / (9223372036856 : Int64)) * (9223372036856 : Int64)))])) _
        exact Steps.refl _
      have pre10 := pre8.trans st10
      obtain ⟨fs, hr, hrun, hended, hW, hsame⟩ := X0.leave (v := some (.long v9)) (fun h => by rw [Bd.returns] at h; cases h)
      refine ⟨_, _, pre10.trans ?_, hrun, hended, _, _, rfl, ?_, ⟨_, rfl⟩, hW, hsame.mono (by decide) (by decide)⟩
      · show Steps p.tables e below (s₁.setTop (mkF m 29 #[.val (.int x0), .val (.long x1), .second, .val (.long v2), .second, .val (.int v1)] [(.long v9)])) _
        jvm_step X0.here [X0.here.top, hx, (hb hby d2_29), X0.method', Bd.returns, narrow]
        first | (intro acts; rw [hr _ acts rfl rfl rfl]) | rw [hr _ _ rfl rfl rfl]
        exact Steps.refl _
      · show Q2 Z x0 x1 h0 n0 _ s₁.heap _
        rw [e0]
        have hF : own_F2 x0 x1 = v9 := by
          subst v9 v2 v1
          simp only [own_F2, if_neg hc13, if_pos hc21]
        exact ⟨by rw [hF], N0, rfl⟩
    · have st11 : Steps p.tables e below (s₁.setTop (mkF m 21 #[.val (.int x0), .val (.long x1), .second, .val (.long v2), .second, .val (.int v1)] [(.int (1 : Int32)), (.int v1)])) (s₁.setTop (mkF m 30 #[.val (.int x0), .val (.long x1), .second, .val (.long v2), .second, .val (.int v1)] [])) := by
        refine XS.icmpYes X0.here hx rfl (pc0 := 21) (pc' := 30) rfl (hb hby d2_21) rfl (feq hc21).2 (by decide) (by decide) ?_
        exact Steps.refl _
      have pre11 := pre7.trans st11
      have st12 : Steps p.tables e below (s₁.setTop (mkF m 30 #[.val (.int x0), .val (.long x1), .second, .val (.long v2), .second, .val (.int v1)] [])) (s₁.setTop (mkF m 33 #[.val (.int x0), .val (.long x1), .second, .val (.long v2), .second, .val (.int v1)] [(.int (2 : Int32)), (.int v1)])) := by
        refine XS.iload X0.here hx rfl (hb hby d2_30) rfl ?_
        show Steps p.tables e below (s₁.setTop (mkF m 32 #[.val (.int x0), .val (.long x1), .second, .val (.long v2), .second, .val (.int v1)] [(.int v1)])) _
        refine XS.iconst X0.here hx rfl (hb hby d2_32) ?_
        show Steps p.tables e below (s₁.setTop (mkF m 33 #[.val (.int x0), .val (.long x1), .second, .val (.long v2), .second, .val (.int v1)] [(.int (2 : Int32)), (.int v1)])) _
        exact Steps.refl _
      have pre12 := pre11.trans st12
      by_cases hc33 : v1 = (2 : Int32)
      · have st13 : Steps p.tables e below (s₁.setTop (mkF m 33 #[.val (.int x0), .val (.long x1), .second, .val (.long v2), .second, .val (.int v1)] [(.int (2 : Int32)), (.int v1)])) (s₁.setTop (mkF m 36 #[.val (.int x0), .val (.long x1), .second, .val (.long v2), .second, .val (.int v1)] [])) := by
          refine XS.icmpNo X0.here hx rfl (hb hby d2_33) rfl (teq hc33).2 ?_
          exact Steps.refl _
        have pre13 := pre12.trans st13
        obtain ⟨v14, hv14⟩ : ∃ z : Int64, z = (x1 &&& (65535 : Int64)) := ⟨_, rfl⟩
        have st15 : Steps p.tables e below (s₁.setTop (mkF m 36 #[.val (.int x0), .val (.long x1), .second, .val (.long v2), .second, .val (.int v1)] [])) (s₁.setTop (mkF m 41 #[.val (.int x0), .val (.long x1), .second, .val (.long v2), .second, .val (.int v1)] [(.long v14)])) := by
          subst v14
          refine XS.lloadN X0.here hx rfl (hb hby d2_36) rfl ?_
          show Steps p.tables e below (s₁.setTop (mkF m 37 #[.val (.int x0), .val (.long x1), .second, .val (.long v2), .second, .val (.int v1)] [(.long x1)])) _
          refine X0.ldc2Long hx hown (mvT hZ (hw _ (List.mem_of_getElem? (i := 5) rfl))) (g := (mkF m 37 #[.val (.int x0), .val (.long x1), .second, .val (.long v2), .second, .val (.int v1)] [(.long x1)])) rfl (hb hby d2_37) _ ?_
          show Steps p.tables e below (s₁.setTop (mkF m 40 #[.val (.int x0), .val (.long x1), .second, .val (.long v2), .second, .val (.int v1)] [(.long (65535 : Int64)), (.long x1)])) _
          refine XS.land X0.here hx rfl (hb hby d2_40) rfl ?_
          show Steps p.tables e below (s₁.setTop (mkF m 41 #[.val (.int x0), .val (.long x1), .second, .val (.long v2), .second, .val (.int v1)] [(.long (x1 &&& (65535 : Int64)))])) _
          exact Steps.refl _
        have pre15 := pre13.trans st15
        obtain ⟨fs, hr, hrun, hended, hW, hsame⟩ := X0.leave (v := some (.long v14)) (fun h => by rw [Bd.returns] at h; cases h)
        refine ⟨_, _, pre15.trans ?_, hrun, hended, _, _, rfl, ?_, ⟨_, rfl⟩, hW, hsame.mono (by decide) (by decide)⟩
        · show Steps p.tables e below (s₁.setTop (mkF m 41 #[.val (.int x0), .val (.long x1), .second, .val (.long v2), .second, .val (.int v1)] [(.long v14)])) _
          jvm_step X0.here [X0.here.top, hx, (hb hby d2_41), X0.method', Bd.returns, narrow]
          first | (intro acts; rw [hr _ acts rfl rfl rfl]) | rw [hr _ _ rfl rfl rfl]
          exact Steps.refl _
        · show Q2 Z x0 x1 h0 n0 _ s₁.heap _
          rw [e0]
          have hF : own_F2 x0 x1 = v14 := by
            subst v14 v2 v1
            simp only [own_F2, if_neg hc13, if_neg hc21, if_pos hc33]
          exact ⟨by rw [hF], N0, rfl⟩
      · have st16 : Steps p.tables e below (s₁.setTop (mkF m 33 #[.val (.int x0), .val (.long x1), .second, .val (.long v2), .second, .val (.int v1)] [(.int (2 : Int32)), (.int v1)])) (s₁.setTop (mkF m 42 #[.val (.int x0), .val (.long x1), .second, .val (.long v2), .second, .val (.int v1)] [])) := by
          refine XS.icmpYes X0.here hx rfl (pc0 := 33) (pc' := 42) rfl (hb hby d2_33) rfl (feq hc33).2 (by decide) (by decide) ?_
          exact Steps.refl _
        have pre16 := pre12.trans st16
        obtain ⟨v17, hv17⟩ : ∃ z : Int64, z = ((9223372036853 : Int64) + (x1 &&& (3 : Int64))) := ⟨_, rfl⟩
        have st18 : Steps p.tables e below (s₁.setTop (mkF m 42 #[.val (.int x0), .val (.long x1), .second, .val (.long v2), .second, .val (.int v1)] [])) (s₁.setTop (mkF m 51 #[.val (.int x0), .val (.long x1), .second, .val (.long v2), .second, .val (.int v1)] [(.long v17)])) := by
          subst v17
          refine X0.ldc2Long hx hown (mvT hZ (hw _ (List.mem_of_getElem? (i := 41) rfl))) (g := (mkF m 42 #[.val (.int x0), .val (.long x1), .second, .val (.long v2), .second, .val (.int v1)] [])) rfl (hb hby d2_42) _ ?_
          show Steps p.tables e below (s₁.setTop (mkF m 45 #[.val (.int x0), .val (.long x1), .second, .val (.long v2), .second, .val (.int v1)] [(.long (9223372036853 : Int64))])) _
          refine XS.lloadN X0.here hx rfl (hb hby d2_45) rfl ?_
          show Steps p.tables e below (s₁.setTop (mkF m 46 #[.val (.int x0), .val (.long x1), .second, .val (.long v2), .second, .val (.int v1)] [(.long x1), (.long (9223372036853 : Int64))])) _
          refine X0.ldc2Long hx hown (mvT hZ (hw _ (List.mem_of_getElem? (i := 42) rfl))) (g := (mkF m 46 #[.val (.int x0), .val (.long x1), .second, .val (.long v2), .second, .val (.int v1)] [(.long x1), (.long (9223372036853 : Int64))])) rfl (hb hby d2_46) _ ?_
          show Steps p.tables e below (s₁.setTop (mkF m 49 #[.val (.int x0), .val (.long x1), .second, .val (.long v2), .second, .val (.int v1)] [(.long (3 : Int64)), (.long x1), (.long (9223372036853 : Int64))])) _
          refine XS.land X0.here hx rfl (hb hby d2_49) rfl ?_
          show Steps p.tables e below (s₁.setTop (mkF m 50 #[.val (.int x0), .val (.long x1), .second, .val (.long v2), .second, .val (.int v1)] [(.long (x1 &&& (3 : Int64))), (.long (9223372036853 : Int64))])) _
          refine XS.ladd X0.here hx rfl (hb hby d2_50) rfl ?_
          show Steps p.tables e below (s₁.setTop (mkF m 51 #[.val (.int x0), .val (.long x1), .second, .val (.long v2), .second, .val (.int v1)] [(.long ((9223372036853 : Int64) + (x1 &&& (3 : Int64))))])) _
          exact Steps.refl _
        have pre18 := pre16.trans st18
        obtain ⟨fs, hr, hrun, hended, hW, hsame⟩ := X0.leave (v := some (.long v17)) (fun h => by rw [Bd.returns] at h; cases h)
        refine ⟨_, _, pre18.trans ?_, hrun, hended, _, _, rfl, ?_, ⟨_, rfl⟩, hW, hsame.mono (by decide) (by decide)⟩
        · show Steps p.tables e below (s₁.setTop (mkF m 51 #[.val (.int x0), .val (.long x1), .second, .val (.long v2), .second, .val (.int v1)] [(.long v17)])) _
          jvm_step X0.here [X0.here.top, hx, (hb hby d2_51), X0.method', Bd.returns, narrow]
          first | (intro acts; rw [hr _ acts rfl rfl rfl]) | rw [hr _ _ rfl rfl rfl]
          exact Steps.refl _
        · show Q2 Z x0 x1 h0 n0 _ s₁.heap _
          rw [e0]
          have hF : own_F2 x0 x1 = v17 := by
            subst v17 v2 v1
            simp only [own_F2, if_neg hc13, if_neg hc21, if_neg hc33]
          exact ⟨by rw [hF], N0, rfl⟩
theorem d3_0 : decode jdk_2799_method_7_code 0 = .ok (.aload_n 0, 1) := by decide +kernel
theorem d3_1 : decode jdk_2799_method_7_code 1 = .ok (.getfield 44, 3) := by decide +kernel
theorem d3_4 : decode jdk_2799_method_7_code 4 = .ok (.dup2, 1) := by decide +kernel
theorem d3_5 : decode jdk_2799_method_7_code 5 = .ok (.lstore_n 3, 1) := by decide +kernel
theorem d3_6 : decode jdk_2799_method_7_code 6 = .ok (.lconst 1, 1) := by decide +kernel
theorem d3_7 : decode jdk_2799_method_7_code 7 = .ok (.lcmp, 1) := by decide +kernel
theorem d3_8 : decode jdk_2799_method_7_code 8 = .ok (.ifCond .ne 5, 3) := by decide +kernel
theorem d3_13 : decode jdk_2799_method_7_code 13 = .ok (.lload_n 1, 1) := by decide +kernel
theorem d3_14 : decode jdk_2799_method_7_code 14 = .ok (.aload_n 0, 1) := by decide +kernel
theorem d3_15 : decode jdk_2799_method_7_code 15 = .ok (.getfield 52, 3) := by decide +kernel
theorem d3_18 : decode jdk_2799_method_7_code 18 = .ok (.dup2, 1) := by decide +kernel
theorem d3_19 : decode jdk_2799_method_7_code 19 = .ok (.lstore 5, 2) := by decide +kernel
theorem d3_21 : decode jdk_2799_method_7_code 21 = .ok (.lcmp, 1) := by decide +kernel
theorem d3_22 : decode jdk_2799_method_7_code 22 = .ok (.ifCond .le 7, 3) := by decide +kernel
theorem d3_25 : decode jdk_2799_method_7_code 25 = .ok (.ldc2_w 50, 3) := by decide +kernel
theorem d3_28 : decode jdk_2799_method_7_code 28 = .ok (.lreturn, 1) := by decide +kernel
theorem d3_29 : decode jdk_2799_method_7_code 29 = .ok (.lload_n 1, 1) := by decide +kernel
theorem d3_30 : decode jdk_2799_method_7_code 30 = .ok (.lload 5, 2) := by decide +kernel
theorem d3_32 : decode jdk_2799_method_7_code 32 = .ok (.lneg, 1) := by decide +kernel
theorem d3_33 : decode jdk_2799_method_7_code 33 = .ok (.lcmp, 1) := by decide +kernel
theorem d3_34 : decode jdk_2799_method_7_code 34 = .ok (.ifCond .ge 7, 3) := by decide +kernel
theorem d3_41 : decode jdk_2799_method_7_code 41 = .ok (.lload_n 1, 1) := by decide +kernel
theorem d3_42 : decode jdk_2799_method_7_code 42 = .ok (.lload_n 3, 1) := by decide +kernel
theorem d3_43 : decode jdk_2799_method_7_code 43 = .ok (.lmul, 1) := by decide +kernel
theorem d3_44 : decode jdk_2799_method_7_code 44 = .ok (.lreturn, 1) := by decide +kernel
theorem pn3 : plainName "java/util/concurrent/TimeUnit" = true := by first | (simp [plainName, overriddenIn]; done) | decide +kernel
theorem ef3 (m : MethodId) (aM : Addr) (x1 : Int64) : entryFrame m #[(.ref aM), (.long x1)] 7 = mkF m 0 #[.val (.ref aM), .val (.long x1), .second, .unset, .unset, .unset, .unset] [] := by first | (simp [entryFrame, mkF, argsToLocals, Value.category]; done) | rfl
def own_F3 (aM : Addr) (x1 : Int64) : Int64 := (if (9223372036854 : Int64) < x1 then (9223372036854775807 : Int64) else (x1 * (1000000 : Int64)))
def Q3 (Z : State) (aM : Addr) (x1 : Int64) (h0 : Heap) (n0 : Nat) (v : Option Value) (h : Heap) (L : List Loc) : Prop := v = some (.long (own_F3 aM x1)) ∧ Fr n0 L ∧ h = h0
set_option maxRecDepth 65536 in
set_option maxHeartbeats 40000000 in
theorem rm3 (l : Launch) (Z : State) (a0 : Array Value) (hw : ∀ d ∈ tables_1, d.before a0 Z = true) (ws : List Jvm.Cond) (aM : Addr) (x1 : Int64) (h0 : Heap) (n0 : Nat) (Z0 : n0 ≤ h0.size) (B0 : Fld Z h0 aM "java/util/concurrent/TimeUnit" "scale" "J" (.long (1000000 : Int64))) (B1 : Fld Z h0 aM "java/util/concurrent/TimeUnit" "maxNanos" "J" (.long (9223372036854 : Int64))) (hp0 : ¬ (x1 < (-(9223372036854 : Int64)))) :
    MetFree l (⟨"java/util/concurrent/TimeUnit", "toNanos", "(J)J"⟩ : MethodName) (head1 (Jvm.Cond.code (⟨"java/util/concurrent/TimeUnit", "toNanos", "(J)J"⟩ : MethodName) jdk_2799_method_7_code 7 (some .long) :: ws) ({ frames := 0, cells := 0, slots := 0, locals := 0 } : Room)) (fun a U => a = #[(.ref aM), (.long x1)] ∧ Z.Warmed39 U.vm ∧ U.heap = h0) (fun _ _ _ _ _ => True) (fun _ U o U' => ∃ v L, o = .returned v ∧ Q3 Z aM x1 h0 n0 v U'.heap L ∧ FrameEnd U o U' L ({ frames := 0, cells := 0, slots := 0, locals := 0 } : Room).cells ({ frames := 0, cells := 0, slots := 0, locals := 0 } : Room).slots) := by
  refine MetFree.of_bodySF (plainFor_of_name pn3) hisR ?_
  intro p e s m args below meth c s₁ Bd hml0 hP hK
  obtain ⟨rfl, hZ, hh⟩ := hP
  have hx := Bd.exec
  have hby := Bd.bytes
  have hml : c.maxLocals = 7 := hml0
  have hown : s.vm.findClass "java/util/concurrent/TimeUnit" = some m.cls := findClass_of_methodNamed Bd.named
  have hnm := (name_of_methodNamed Bd.named Bd.method).1
  have X0 : Stand p l e ({ frames := 0, cells := 0, slots := 0, locals := 0 } : Room) s m #[(.ref aM), (.long x1)] below meth c s₁ [] 0 0 := Stand.of_body Bd
  have e0 : s₁.heap = h0 := by rw [← hh, Bd.state]; rfl
  have N0 := Fr.nil n0
  have pre0 : Steps p.tables e below (s₁.setTop (entryFrame m #[(.ref aM), (.long x1)] 7)) (s₁.setTop (mkF m 0 #[.val (.ref aM), .val (.long x1), .second, .unset, .unset, .unset, .unset] [])) := castTop (ef3 m aM x1) (Steps.refl _)
  have st1 : Steps p.tables e below (s₁.setTop (mkF m 0 #[.val (.ref aM), .val (.long x1), .second, .unset, .unset, .unset, .unset] [])) (s₁.setTop (mkF m 1 #[.val (.ref aM), .val (.long x1), .second, .unset, .unset, .unset, .unset] [(.ref aM)])) := by
    refine XS.aloadN X0.here hx rfl (hb hby d3_0) rfl rfl ?_
    show Steps p.tables e below (s₁.setTop (mkF m 1 #[.val (.ref aM), .val (.long x1), .second, .unset, .unset, .unset, .unset] [(.ref aM)])) _
    exact Steps.refl _
  have pre1 := pre0.trans st1
  obtain ⟨T2, X2, e2, st2⟩ := getF X0 hx hZ hown (host := "") (Or.inl (hw _ (List.mem_of_getElem? (i := 19) rfl))) Via.refl e0 B0 (g := (mkF m 1 #[.val (.ref aM), .val (.long x1), .second, .unset, .unset, .unset, .unset] [(.ref aM)])) rfl rfl (hb hby d3_1)
  have pre2 : Steps p.tables e below (s₁.setTop (entryFrame m #[(.ref aM), (.long x1)] 7)) (T2.setTop (mkF m 4 #[.val (.ref aM), .val (.long x1), .second, .unset, .unset, .unset, .unset] [(.long (1000000 : Int64))])) := pre1.trans (st2 _ (Steps.refl _))
  have st3 : Steps p.tables e below (T2.setTop (mkF m 4 #[.val (.ref aM), .val (.long x1), .second, .unset, .unset, .unset, .unset] [(.long (1000000 : Int64))])) (T2.setTop (mkF m 15 #[.val (.ref aM), .val (.long x1), .second, .val (.long (1000000 : Int64)), .second, .unset, .unset] [(.ref aM), (.long x1)])) := by
    refine Jvm.Free.XT.dup2L X2.here hx rfl (hb hby d3_4) rfl ?_
    show Steps p.tables e below (T2.setTop (mkF m 5 #[.val (.ref aM), .val (.long x1), .second, .unset, .unset, .unset, .unset] [(.long (1000000 : Int64)), (.long (1000000 : Int64))])) _
    refine XS.lstoreN X2.here hx rfl (hb hby d3_5) rfl (l' := #[.val (.ref aM), .val (.long x1), .second, .val (.long (1000000 : Int64)), .second, .unset, .unset]) rfl ?_
    show Steps p.tables e below (T2.setTop (mkF m 6 #[.val (.ref aM), .val (.long x1), .second, .val (.long (1000000 : Int64)), .second, .unset, .unset] [(.long (1000000 : Int64))])) _
    refine XS.lconst X2.here hx rfl (hb hby d3_6) ?_
    show Steps p.tables e below (T2.setTop (mkF m 7 #[.val (.ref aM), .val (.long x1), .second, .val (.long (1000000 : Int64)), .second, .unset, .unset] [(.long (1 : Int64)), (.long (1000000 : Int64))])) _
    refine XS.lcmp X2.here hx rfl (hb hby d3_7) rfl ?_
    show Steps p.tables e below (T2.setTop (mkF m 8 #[.val (.ref aM), .val (.long x1), .second, .val (.long (1000000 : Int64)), .second, .unset, .unset] [(.int (lcmpW (1000000 : Int64) (1 : Int64)))])) _
    refine XS.ifYes X2.here hx rfl (pc0 := 8) (pc' := 13) rfl (hb hby d3_8) rfl ((if0 _ _).trans (feq (fun q => (by decide : ¬ ((1000000 : Int64) = (1 : Int64))) ((lw_eq (1000000 : Int64) (1 : Int64)).mp q))).2) (by decide) (by decide) ?_
    show Steps p.tables e below (T2.setTop (mkF m 13 #[.val (.ref aM), .val (.long x1), .second, .val (.long (1000000 : Int64)), .second, .unset, .unset] [])) _
    refine XS.lloadN X2.here hx rfl (hb hby d3_13) rfl ?_
    show Steps p.tables e below (T2.setTop (mkF m 14 #[.val (.ref aM), .val (.long x1), .second, .val (.long (1000000 : Int64)), .second, .unset, .unset] [(.long x1)])) _
    refine XS.aloadN X2.here hx rfl (hb hby d3_14) rfl rfl ?_
    show Steps p.tables e below (T2.setTop (mkF m 15 #[.val (.ref aM), .val (.long x1), .second, .val (.long (1000000 : Int64)), .second, .unset, .unset] [(.ref aM), (.long x1)])) _
    exact Steps.refl _
  have pre3 := pre2.trans st3
  obtain ⟨T4, X4, e4, st4⟩ := getF X2 hx hZ hown (host := "") (Or.inl (hw _ (List.mem_of_getElem? (i := 21) rfl))) Via.refl e2 B1 (g := (mkF m 15 #[.val (.ref aM), .val (.long x1), .second, .val (.long (1000000 : Int64)), .second, .unset, .unset] [(.ref aM), (.long x1)])) rfl rfl (hb hby d3_15)
  have pre4 : Steps p.tables e below (s₁.setTop (entryFrame m #[(.ref aM), (.long x1)] 7)) (T4.setTop (mkF m 18 #[.val (.ref aM), .val (.long x1), .second, .val (.long (1000000 : Int64)), .second, .unset, .unset] [(.long (9223372036854 : Int64)), (.long x1)])) := pre3.trans (st4 _ (Steps.refl _))
  have st5 : Steps p.tables e below (T4.setTop (mkF m 18 #[.val (.ref aM), .val (.long x1), .second, .val (.long (1000000 : Int64)), .second, .unset, .unset] [(.long (9223372036854 : Int64)), (.long x1)])) (T4.setTop (mkF m 22 #[.val (.ref aM), .val (.long x1), .second, .val (.long (1000000 : Int64)), .second, .val (.long (9223372036854 : Int64)), .second] [(.int (lcmpW x1 (9223372036854 : Int64)))])) := by
    refine Jvm.Free.XT.dup2L X4.here hx rfl (hb hby d3_18) rfl ?_
    show Steps p.tables e below (T4.setTop (mkF m 19 #[.val (.ref aM), .val (.long x1), .second, .val (.long (1000000 : Int64)), .second, .unset, .unset] [(.long (9223372036854 : Int64)), (.long (9223372036854 : Int64)), (.long x1)])) _
    refine XS.lstore X4.here hx rfl (hb hby d3_19) rfl (l' := #[.val (.ref aM), .val (.long x1), .second, .val (.long (1000000 : Int64)), .second, .val (.long (9223372036854 : Int64)), .second]) rfl ?_
    show Steps p.tables e below (T4.setTop (mkF m 21 #[.val (.ref aM), .val (.long x1), .second, .val (.long (1000000 : Int64)), .second, .val (.long (9223372036854 : Int64)), .second] [(.long (9223372036854 : Int64)), (.long x1)])) _
    refine XS.lcmp X4.here hx rfl (hb hby d3_21) rfl ?_
    show Steps p.tables e below (T4.setTop (mkF m 22 #[.val (.ref aM), .val (.long x1), .second, .val (.long (1000000 : Int64)), .second, .val (.long (9223372036854 : Int64)), .second] [(.int (lcmpW x1 (9223372036854 : Int64)))])) _
    exact Steps.refl _
  have pre5 := pre4.trans st5
  by_cases hc22 : (9223372036854 : Int64) < x1
  · have st6 : Steps p.tables e below (T4.setTop (mkF m 22 #[.val (.ref aM), .val (.long x1), .second, .val (.long (1000000 : Int64)), .second, .val (.long (9223372036854 : Int64)), .second] [(.int (lcmpW x1 (9223372036854 : Int64)))])) (T4.setTop (mkF m 25 #[.val (.ref aM), .val (.long x1), .second, .val (.long (1000000 : Int64)), .second, .val (.long (9223372036854 : Int64)), .second] [])) := by
      refine XS.ifNo X4.here hx rfl (hb hby d3_22) rfl ((if0 _ _).trans (tlt ((lw_gt x1 (9223372036854 : Int64)).mpr hc22)).2.2.2) ?_
      exact Steps.refl _
    have pre6 := pre5.trans st6
    have st7 : Steps p.tables e below (T4.setTop (mkF m 25 #[.val (.ref aM), .val (.long x1), .second, .val (.long (1000000 : Int64)), .second, .val (.long (9223372036854 : Int64)), .second] [])) (T4.setTop (mkF m 28 #[.val (.ref aM), .val (.long x1), .second, .val (.long (1000000 : Int64)), .second, .val (.long (9223372036854 : Int64)), .second] [(.long (9223372036854775807 : Int64))])) := by
      refine X4.ldc2Long hx hown (mvT hZ (hw _ (List.mem_of_getElem? (i := 43) rfl))) (g := (mkF m 25 #[.val (.ref aM), .val (.long x1), .second, .val (.long (1000000 : Int64)), .second, .val (.long (9223372036854 : Int64)), .second] [])) rfl (hb hby d3_25) _ ?_
      show Steps p.tables e below (T4.setTop (mkF m 28 #[.val (.ref aM), .val (.long x1), .second, .val (.long (1000000 : Int64)), .second, .val (.long (9223372036854 : Int64)), .second] [(.long (9223372036854775807 : Int64))])) _
      exact Steps.refl _
    have pre7 := pre6.trans st7
    obtain ⟨fs, hr, hrun, hended, hW, hsame⟩ := X4.leave (v := some (.long (9223372036854775807 : Int64))) (fun h => by rw [Bd.returns] at h; cases h)
    refine ⟨_, _, pre7.trans ?_, hrun, hended, _, _, rfl, ?_, ⟨_, rfl⟩, hW, hsame.mono (by decide) (by decide)⟩
    · show Steps p.tables e below (T4.setTop (mkF m 28 #[.val (.ref aM), .val (.long x1), .second, .val (.long (1000000 : Int64)), .second, .val (.long (9223372036854 : Int64)), .second] [(.long (9223372036854775807 : Int64))])) _
      jvm_step X4.here [X4.here.top, hx, (hb hby d3_28), X4.method', Bd.returns, narrow]
      first | (intro acts; rw [hr _ acts rfl rfl rfl]) | rw [hr _ _ rfl rfl rfl]
      exact Steps.refl _
    · show Q3 Z aM x1 h0 n0 _ T4.heap _
      rw [e4]
      have hF : own_F3 aM x1 = (9223372036854775807 : Int64) := by
        simp only [own_F3, if_pos hc22]
      exact ⟨by rw [hF], N0, rfl⟩
  · have st8 : Steps p.tables e below (T4.setTop (mkF m 22 #[.val (.ref aM), .val (.long x1), .second, .val (.long (1000000 : Int64)), .second, .val (.long (9223372036854 : Int64)), .second] [(.int (lcmpW x1 (9223372036854 : Int64)))])) (T4.setTop (mkF m 29 #[.val (.ref aM), .val (.long x1), .second, .val (.long (1000000 : Int64)), .second, .val (.long (9223372036854 : Int64)), .second] [])) := by
      refine XS.ifYes X4.here hx rfl (pc0 := 22) (pc' := 29) rfl (hb hby d3_22) rfl ((if0 _ _).trans (flt (fun q => hc22 ((lw_gt x1 (9223372036854 : Int64)).mp q))).2.2.2) (by decide) (by decide) ?_
      exact Steps.refl _
    have pre8 := pre5.trans st8
    have st9 : Steps p.tables e below (T4.setTop (mkF m 29 #[.val (.ref aM), .val (.long x1), .second, .val (.long (1000000 : Int64)), .second, .val (.long (9223372036854 : Int64)), .second] [])) (T4.setTop (mkF m 34 #[.val (.ref aM), .val (.long x1), .second, .val (.long (1000000 : Int64)), .second, .val (.long (9223372036854 : Int64)), .second] [(.int (lcmpW x1 (-(9223372036854 : Int64))))])) := by
      refine XS.lloadN X4.here hx rfl (hb hby d3_29) rfl ?_
      show Steps p.tables e below (T4.setTop (mkF m 30 #[.val (.ref aM), .val (.long x1), .second, .val (.long (1000000 : Int64)), .second, .val (.long (9223372036854 : Int64)), .second] [(.long x1)])) _
      refine XS.lload X4.here hx rfl (hb hby d3_30) rfl ?_
      show Steps p.tables e below (T4.setTop (mkF m 32 #[.val (.ref aM), .val (.long x1), .second, .val (.long (1000000 : Int64)), .second, .val (.long (9223372036854 : Int64)), .second] [(.long (9223372036854 : Int64)), (.long x1)])) _
      refine XS.lneg X4.here hx rfl (hb hby d3_32) rfl ?_
      show Steps p.tables e below (T4.setTop (mkF m 33 #[.val (.ref aM), .val (.long x1), .second, .val (.long (1000000 : Int64)), .second, .val (.long (9223372036854 : Int64)), .second] [(.long (-(9223372036854 : Int64))), (.long x1)])) _
      refine XS.lcmp X4.here hx rfl (hb hby d3_33) rfl ?_
      show Steps p.tables e below (T4.setTop (mkF m 34 #[.val (.ref aM), .val (.long x1), .second, .val (.long (1000000 : Int64)), .second, .val (.long (9223372036854 : Int64)), .second] [(.int (lcmpW x1 (-(9223372036854 : Int64))))])) _
      exact Steps.refl _
    have pre9 := pre8.trans st9
    have hc34 : ¬ (x1 < (-(9223372036854 : Int64))) := by
      exact hp0
    have st10 : Steps p.tables e below (T4.setTop (mkF m 34 #[.val (.ref aM), .val (.long x1), .second, .val (.long (1000000 : Int64)), .second, .val (.long (9223372036854 : Int64)), .second] [(.int (lcmpW x1 (-(9223372036854 : Int64))))])) (T4.setTop (mkF m 41 #[.val (.ref aM), .val (.long x1), .second, .val (.long (1000000 : Int64)), .second, .val (.long (9223372036854 : Int64)), .second] [])) := by
      refine XS.ifYes X4.here hx rfl (pc0 := 34) (pc' := 41) rfl (hb hby d3_34) rfl ((if0 _ _).trans (flt (fun q => hc34 ((lw_lt x1 (-(9223372036854 : Int64))).mp q))).2.1) (by decide) (by decide) ?_
      exact Steps.refl _
    have pre10 := pre9.trans st10
    obtain ⟨v11, hv11⟩ : ∃ z : Int64, z = (x1 * (1000000 : Int64)) := ⟨_, rfl⟩
    have st12 : Steps p.tables e below (T4.setTop (mkF m 41 #[.val (.ref aM), .val (.long x1), .second, .val (.long (1000000 : Int64)), .second, .val (.long (9223372036854 : Int64)), .second] [])) (T4.setTop (mkF m 44 #[.val (.ref aM), .val (.long x1), .second, .val (.long (1000000 : Int64)), .second, .val (.long (9223372036854 : Int64)), .second] [(.long v11)])) := by
      subst v11
      refine XS.lloadN X4.here hx rfl (hb hby d3_41) rfl ?_
      show Steps p.tables e below (T4.setTop (mkF m 42 #[.val (.ref aM), .val (.long x1), .second, .val (.long (1000000 : Int64)), .second, .val (.long (9223372036854 : Int64)), .second] [(.long x1)])) _
      refine XS.lloadN X4.here hx rfl (hb hby d3_42) rfl ?_
      show Steps p.tables e below (T4.setTop (mkF m 43 #[.val (.ref aM), .val (.long x1), .second, .val (.long (1000000 : Int64)), .second, .val (.long (9223372036854 : Int64)), .second] [(.long (1000000 : Int64)), (.long x1)])) _
      refine XS.lmul X4.here hx rfl (hb hby d3_43) rfl ?_
      show Steps p.tables e below (T4.setTop (mkF m 44 #[.val (.ref aM), .val (.long x1), .second, .val (.long (1000000 : Int64)), .second, .val (.long (9223372036854 : Int64)), .second] [(.long (x1 * (1000000 : Int64)))])) _
      exact Steps.refl _
    have pre12 := pre10.trans st12
    obtain ⟨fs, hr, hrun, hended, hW, hsame⟩ := X4.leave (v := some (.long v11)) (fun h => by rw [Bd.returns] at h; cases h)
    refine ⟨_, _, pre12.trans ?_, hrun, hended, _, _, rfl, ?_, ⟨_, rfl⟩, hW, hsame.mono (by decide) (by decide)⟩
    · show Steps p.tables e below (T4.setTop (mkF m 44 #[.val (.ref aM), .val (.long x1), .second, .val (.long (1000000 : Int64)), .second, .val (.long (9223372036854 : Int64)), .second] [(.long v11)])) _
      jvm_step X4.here [X4.here.top, hx, (hb hby d3_44), X4.method', Bd.returns, narrow]
      first | (intro acts; rw [hr _ acts rfl rfl rfl]) | rw [hr _ _ rfl rfl rfl]
      exact Steps.refl _
    · show Q3 Z aM x1 h0 n0 _ T4.heap _
      rw [e4]
      have hF : own_F3 aM x1 = v11 := by
        subst v11
        simp only [own_F3, if_neg hc22]
      exact ⟨by rw [hF], N0, rfl⟩
theorem d4_0 : decode prog_1_method_2_code 0 = .ok (.new 8, 3) := by decide +kernel
theorem d4_3 : decode prog_1_method_2_code 3 = .ok (.dup, 1) := by decide +kernel
theorem d4_4 : decode prog_1_method_2_code 4 = .ok (.lload_n 0, 1) := by decide +kernel
theorem d4_5 : decode prog_1_method_2_code 5 = .ok (.getstatic 16, 3) := by decide +kernel
theorem d4_8 : decode prog_1_method_2_code 8 = .ok (.lload_n 2, 1) := by decide +kernel
theorem d4_9 : decode prog_1_method_2_code 9 = .ok (.invokevirtual 22, 3) := by decide +kernel
theorem d4_12 : decode prog_1_method_2_code 12 = .ok (.invokespecial 26, 3) := by decide +kernel
theorem d4_15 : decode prog_1_method_2_code 15 = .ok (.areturn, 1) := by decide +kernel
theorem pn4 : plainName "com/example/orlok/orlok/Deadline" = true := by first | (simp [plainName, overriddenIn]; done) | decide +kernel
theorem pd4_0 : parseMethodDescriptor "(J)J" = some ⟨[.long], some .long⟩ := by decide +kernel
theorem pd4_1 : parseMethodDescriptor "(JJ)V" = some ⟨[.long, .long], none⟩ := by decide +kernel
theorem ef4 (m : MethodId) (x0 : Int64) (x1 : Int64) : entryFrame m #[(.long x0), (.long x1)] 4 = mkF m 0 #[.val (.long x0), .second, .val (.long x1), .second] [] := by first | (simp [entryFrame, mkF, argsToLocals, Value.category]; done) | rfl
def Q4 (Z : State) (x0 : Int64) (x1 : Int64) (aM : Addr) (h0 : Heap) (n0 : Nat) (v : Option Value) (h : Heap) (L : List Loc) : Prop := ∃ res : Addr, v = some (.ref res) ∧ Fr n0 L ∧ Keep h0 h [] ∧ h0.size ≤ res ∧ Exa Z h res "com/example/orlok/orlok/Deadline" ∧ Fld Z h res "com/example/orlok/orlok/Deadline" "startNanos" "J" (.long x0) ∧ Fld Z h res "com/example/orlok/orlok/Deadline" "lengthNanos" "J" (.long (own_F3 aM x1))
set_option maxRecDepth 65536 in
set_option maxHeartbeats 40000000 in
theorem rm4 (l : Launch) (Z : State) (a0 : Array Value) (hw : ∀ d ∈ tables_1, d.before a0 Z = true) (ws : List Jvm.Cond) (x0 : Int64) (x1 : Int64) (aM : Addr) (h0 : Heap) (n0 : Nat) (Z0 : n0 ≤ h0.size) (O0 : Old Z n0 h0) (B0 : Exa Z h0 aM "java/util/concurrent/TimeUnit") (B1 : Fld Z h0 aM "java/util/concurrent/TimeUnit" "scale" "J" (.long (1000000 : Int64))) (B2 : Fld Z h0 aM "java/util/concurrent/TimeUnit" "maxNanos" "J" (.long (9223372036854 : Int64))) (S_M : Sta Z Z.heap "java/util/concurrent/TimeUnit" "MILLISECONDS" "Ljava/util/concurrent/TimeUnit;" (.ref aM)) (hp0 : ¬ (x1 < (-(9223372036854 : Int64)))) :
    MetFree l (⟨"com/example/orlok/orlok/Deadline", "after", "(JJ)Lcom/example/orlok/orlok/Deadline;"⟩ : MethodName) (head1 (Jvm.Cond.code (⟨"com/example/orlok/orlok/Deadline", "after", "(JJ)Lcom/example/orlok/orlok/Deadline;"⟩ : MethodName) prog_1_method_2_code 4 (some (.object "com/example/orlok/orlok/Deadline")) :: ws) ({ frames := 2, cells := 1, slots := 2, locals := 29 } : Room)) (fun a U => a = #[(.long x0), (.long x1)] ∧ Z.Warmed39 U.vm ∧ U.heap = h0) (fun _ _ _ _ _ => True) (fun _ U o U' => ∃ v L, o = .returned v ∧ Q4 Z x0 x1 aM h0 n0 v U'.heap L ∧ FrameEnd U o U' L ({ frames := 2, cells := 1, slots := 2, locals := 29 } : Room).cells ({ frames := 2, cells := 1, slots := 2, locals := 29 } : Room).slots) := by
  refine MetFree.of_bodySF (plainFor_of_name pn4) hisR ?_
  intro p e s m args below meth c s₁ Bd hml0 hP hK
  obtain ⟨rfl, hZ, hh⟩ := hP
  have hx := Bd.exec
  have hby := Bd.bytes
  have hml : c.maxLocals = 4 := hml0
  have hown : s.vm.findClass "com/example/orlok/orlok/Deadline" = some m.cls := findClass_of_methodNamed Bd.named
  have hnm := (name_of_methodNamed Bd.named Bd.method).1
  have X0 : Stand p l e ({ frames := 2, cells := 1, slots := 2, locals := 29 } : Room) s m #[(.long x0), (.long x1)] below meth c s₁ [] 0 0 := Stand.of_body Bd
  have e0 : s₁.heap = h0 := by rw [← hh, Bd.state]; rfl
  have N0 := Fr.nil n0
  have pre0 : Steps p.tables e below (s₁.setTop (entryFrame m #[(.long x0), (.long x1)] 4)) (s₁.setTop (mkF m 0 #[.val (.long x0), .second, .val (.long x1), .second] [])) := castTop (ef4 m x0 x1) (Steps.refl _)
  have K0 := Keep.refl h0 []
  obtain ⟨T1, h1, X1, e1, E1, A1, D1, -, st1⟩ := newO X0 hx hZ hown (hw _ (List.mem_of_getElem? (i := 10) rfl)) (hw _ (List.mem_of_getElem? (i := 11) rfl)) (hw _ (List.mem_of_getElem? (i := 8) rfl)) e0 (g := (mkF m 0 #[.val (.long x0), .second, .val (.long x1), .second] [])) rfl (hb hby d4_0) (by decide) (by decide)
  obtain ⟨b1, g1⟩ : ∃ z, z = h0.size := ⟨_, rfl⟩
  rw [← g1] at A1 D1 st1
  have pre1 : Steps p.tables e below (s₁.setTop (entryFrame m #[(.long x0), (.long x1)] 4)) (T1.setTop (mkF m 3 #[.val (.long x0), .second, .val (.long x1), .second] [(.ref b1)])) := pre0.trans (st1 _ (Steps.refl _))
  have gn1 : n0 ≤ b1 := Nat.le_trans Z0 (Nat.le_of_eq g1.symm)
  have sz1 : h0.size ≤ b1 := Nat.le_trans K0.1 (Nat.le_of_eq g1.symm)
  have neaM_b1 : aM ≠ b1 := Nat.ne_of_lt (Nat.lt_of_lt_of_le B0.lt (Nat.le_of_eq g1.symm))
  have F2 : Exa Z h1 aM "java/util/concurrent/TimeUnit" := B0.ext E1
  have F3 : Fld Z h1 aM "java/util/concurrent/TimeUnit" "scale" "J" (.long (1000000 : Int64)) := B1.ext E1
  have F4 : Fld Z h1 aM "java/util/concurrent/TimeUnit" "maxNanos" "J" (.long (9223372036854 : Int64)) := B2.ext E1
  have K1 := K0.ext E1
  have Z1 : n0 ≤ h1.size := Nat.le_trans Z0 E1.1
  have O1 := O0.ext E1
  have F5 : Fld Z h1 b1 "com/example/orlok/orlok/Deadline" "startNanos" "J" (.long (0 : Int64)) := D1 (Or.inr (hw _ (List.mem_of_getElem? (i := 30) rfl))) (ty := .long) (by decide)
  have F6 : Fld Z h1 b1 "com/example/orlok/orlok/Deadline" "lengthNanos" "J" (.long (0 : Int64)) := D1 (Or.inr (hw _ (List.mem_of_getElem? (i := 32) rfl))) (ty := .long) (by decide)
  have st7 : Steps p.tables e below (T1.setTop (mkF m 3 #[.val (.long x0), .second, .val (.long x1), .second] [(.ref b1)])) (T1.setTop (mkF m 5 #[.val (.long x0), .second, .val (.long x1), .second] [(.long x0), (.ref b1), (.ref b1)])) := by
    refine XS.dup X1.here hx rfl (hb hby d4_3) rfl rfl ?_
    show Steps p.tables e below (T1.setTop (mkF m 4 #[.val (.long x0), .second, .val (.long x1), .second] [(.ref b1), (.ref b1)])) _
    refine XS.lloadN X1.here hx rfl (hb hby d4_4) rfl ?_
    show Steps p.tables e below (T1.setTop (mkF m 5 #[.val (.long x0), .second, .val (.long x1), .second] [(.long x0), (.ref b1), (.ref b1)])) _
    exact Steps.refl _
  have pre7 := pre1.trans st7
  obtain ⟨T8, X8, e8, st8⟩ := getS2 X1 hx hZ hown (host := "") (Or.inl (hw _ (List.mem_of_getElem? (i := 12) rfl))) Via.refl e1 (S_M.ext O1.2) (g := (mkF m 5 #[.val (.long x0), .second, .val (.long x1), .second] [(.long x0), (.ref b1), (.ref b1)])) rfl (hb hby d4_5)
  have pre8 : Steps p.tables e below (s₁.setTop (entryFrame m #[(.long x0), (.long x1)] 4)) (T8.setTop (mkF m 8 #[.val (.long x0), .second, .val (.long x1), .second] [(.ref aM), (.long x0), (.ref b1), (.ref b1)])) := pre7.trans (st8 _ (Steps.refl _))
  have st9 : Steps p.tables e below (T8.setTop (mkF m 8 #[.val (.long x0), .second, .val (.long x1), .second] [(.ref aM), (.long x0), (.ref b1), (.ref b1)])) (T8.setTop (mkF m 9 #[.val (.long x0), .second, .val (.long x1), .second] [(.long x1), (.ref aM), (.long x0), (.ref b1), (.ref b1)])) := by
    refine XS.lloadN X8.here hx rfl (hb hby d4_8) rfl ?_
    show Steps p.tables e below (T8.setTop (mkF m 9 #[.val (.long x0), .second, .val (.long x1), .second] [(.long x1), (.ref aM), (.long x0), (.ref b1), (.ref b1)])) _
    exact Steps.refl _
  have pre9 := pre8.trans st9
  obtain ⟨cq10, kq10, q10a, q10b, q10c⟩ := isOf hZ e8 F2
  obtain ⟨_, _, ⟨T10, L10, k10, n10⟩, -, X10, ⟨Lc10, hQ10, l10, y10, z10⟩, st10⟩ := X8.virtualBack hx (y := (⟨"java/util/concurrent/TimeUnit", "toNanos", "(J)J"⟩ : MethodName)) (z := (⟨"java/util/concurrent/TimeUnit", "toNanos", "(J)J"⟩ : MethodName)) hown (mvT hZ (hw _ (List.mem_of_getElem? (i := 14) rfl))) (mvT hZ (hw _ (List.mem_of_getElem? (i := 15) rfl))) (notFace_of_selects (args := #[]) (mvT hZ (hw _ (List.mem_of_getElem? (i := 17) rfl)))) (mvT hZ (hw _ (List.mem_of_getElem? (i := 17) rfl))) (mvT hZ (hw _ (List.mem_of_getElem? (i := 16) rfl))) (by decide) (backOf (W := 4) (rm3 l Z a0 hw [] aM x1 h1 n0 Z1 F3 F4 hp0) hZ (hw _ (List.mem_of_getElem? (i := 18) rfl)) (hw _ (List.mem_of_getElem? (i := 13) rfl)) (by decide) (by decide)) q10a q10c (g := (mkF m 9 #[.val (.long x0), .second, .val (.long x1), .second] [(.long x1), (.ref aM), (.long x0), (.ref b1), (.ref b1)])) rfl (by rw [hml]; rfl) (Steps.refl _) (argsL := [(.long x1)]) (rest := [(.long x0), (.ref b1), (.ref b1)]) (lenOf pd4_0 rfl) rfl (by show 2 * 0 + _ ≤ _; exact Nat.le_of_eq rfl) (hb hby d4_9) (fun _ _ => ⟨rfl, e8, (by decide : 1 + 0 ≤ _), (by decide : 2 + 0 ≤ _)⟩)
  dsimp only [Pt.U, Pt.locs, Pt.cells, Pt.slots] at X10 l10 y10 z10 st10 hQ10
  subst l10 y10 z10
  obtain ⟨rfl, Nq10, e10⟩ := hQ10
  have N10 := Fr.app N0 Nq10
  have pre10 : Steps p.tables e below (s₁.setTop (entryFrame m #[(.long x0), (.long x1)] 4)) (T10.setTop (mkF m 12 #[.val (.long x0), .second, .val (.long x1), .second] [(.long (own_F3 aM x1)), (.long x0), (.ref b1), (.ref b1)])) := pre9.trans st10
  obtain ⟨_, _, ⟨T11, L11, k11, n11⟩, -, X11, ⟨Lc11, hQ11, l11, y11, z11⟩, st11⟩ := X10.specialBack hx (y := (⟨"com/example/orlok/orlok/Deadline", "<init>", "(JJ)V"⟩ : MethodName)) rfl hown (mvT hZ (hw _ (List.mem_of_getElem? (i := 23) rfl))) (mvT hZ (hw _ (List.mem_of_getElem? (i := 24) rfl))) (mvT hZ (hw _ (List.mem_of_getElem? (i := 25) rfl))) (by decide) (backOf (W := 1) (rm1 l Z a0 hw [] b1 x0 (own_F3 aM x1) (.long (0 : Int64)) (.long (0 : Int64)) h1 n0 Z1 A1 F5 F6 gn1) hZ (hw _ (List.mem_of_getElem? (i := 25) rfl)) (hw _ (List.mem_of_getElem? (i := 8) rfl)) (by decide) (by decide)) (g := (mkF m 12 #[.val (.long x0), .second, .val (.long x1), .second] [(.long (own_F3 aM x1)), (.long x0), (.ref b1), (.ref b1)])) rfl (by rw [hml]; rfl) (Steps.refl _) (a := b1) (argsL := [(.long x0), (.long (own_F3 aM x1))]) (rest := [(.ref b1)]) (lenOf pd4_1 rfl) rfl (by show 2 * 0 + _ ≤ _; exact Nat.le_of_eq rfl) (hb hby d4_12) (fun _ _ => ⟨rfl, e10, (by decide : 1 + 0 ≤ _), (by decide : 2 + 0 ≤ _)⟩)
  dsimp only [Pt.U, Pt.locs, Pt.cells, Pt.slots] at X11 l11 y11 z11 st11 hQ11
  subst l11 y11 z11
  obtain ⟨rfl, Nq11, Kq11, P11_0, P11_1, P11_2⟩ := hQ11
  have F12 : Exa Z T11.heap aM "java/util/concurrent/TimeUnit" := F2.keep Kq11
  have F13 : Fld Z T11.heap aM "java/util/concurrent/TimeUnit" "scale" "J" (.long (1000000 : Int64)) := F3.keep Kq11 (ninS neaM_b1 nin0)
  have F14 : Fld Z T11.heap aM "java/util/concurrent/TimeUnit" "maxNanos" "J" (.long (9223372036854 : Int64)) := F4.keep Kq11 (ninS neaM_b1 nin0)
  have F15 : Exa Z T11.heap b1 "com/example/orlok/orlok/Deadline" := A1.keep Kq11
  have KK11 := K1.trans Kq11 (allS (Or.inr sz1) all0)
  have Z11 : n0 ≤ T11.heap.size := Nat.le_trans Z1 Kq11.1
  have O11 := O1.keep Kq11 (allS gn1 all0)
  have N11 := Fr.app N10 Nq11
  have pre11 : Steps p.tables e below (s₁.setTop (entryFrame m #[(.long x0), (.long x1)] 4)) (T11.setTop (mkF m 15 #[.val (.long x0), .second, .val (.long x1), .second] [(.ref b1)])) := pre10.trans st11
  obtain ⟨fs, hr, hrun, hended, hW, hsame⟩ := X11.leave (v := some (.ref b1)) (fun h => by rw [Bd.returns] at h; cases h)
  refine ⟨_, _, pre11.trans ?_, hrun, hended, _, _, rfl, ?_, ⟨_, rfl⟩, hW, hsame.mono (by decide) (by decide)⟩
  · show Steps p.tables e below (T11.setTop (mkF m 15 #[.val (.long x0), .second, .val (.long x1), .second] [(.ref b1)])) _
    jvm_step X11.here [X11.here.top, hx, (hb hby d4_15), X11.method', Bd.returns, Value.isRef, FieldType.isReference]
    first | (intro acts; rw [hr _ acts rfl rfl rfl]) | rw [hr _ _ rfl rfl rfl]
    exact Steps.refl _
  · show Q4 Z x0 x1 aM h0 n0 _ T11.heap _
    exact ⟨b1, rfl, N11, KK11, sz1, F15, P11_1, P11_2⟩
theorem d5_0 : decode prog_1_method_4_code 0 = .ok (.aload_n 0, 1) := by decide +kernel
theorem d5_1 : decode prog_1_method_4_code 1 = .ok (.getfield 13, 3) := by decide +kernel
theorem d5_4 : decode prog_1_method_4_code 4 = .ok (.ldc2_w 33, 3) := by decide +kernel
theorem d5_7 : decode prog_1_method_4_code 7 = .ok (.lcmp, 1) := by decide +kernel
theorem d5_8 : decode prog_1_method_4_code 8 = .ok (.ifCond .ne 9, 3) := by decide +kernel
theorem d5_11 : decode prog_1_method_4_code 11 = .ok (.ldc2_w 33, 3) := by decide +kernel
theorem d5_14 : decode prog_1_method_4_code 14 = .ok (.goto 14, 3) := by decide +kernel
theorem d5_17 : decode prog_1_method_4_code 17 = .ok (.aload_n 0, 1) := by decide +kernel
theorem d5_18 : decode prog_1_method_4_code 18 = .ok (.getfield 13, 3) := by decide +kernel
theorem d5_21 : decode prog_1_method_4_code 21 = .ok (.lload_n 1, 1) := by decide +kernel
theorem d5_22 : decode prog_1_method_4_code 22 = .ok (.aload_n 0, 1) := by decide +kernel
theorem d5_23 : decode prog_1_method_4_code 23 = .ok (.getfield 7, 3) := by decide +kernel
theorem d5_26 : decode prog_1_method_4_code 26 = .ok (.lsub, 1) := by decide +kernel
theorem d5_27 : decode prog_1_method_4_code 27 = .ok (.lsub, 1) := by decide +kernel
theorem d5_28 : decode prog_1_method_4_code 28 = .ok (.lreturn, 1) := by decide +kernel
theorem pn5 : plainName "com/example/orlok/orlok/Deadline" = true := by first | (simp [plainName, overriddenIn]; done) | decide +kernel
theorem ef5 (m : MethodId) (x0 : Addr) (x1 : Int64) : entryFrame m #[(.ref x0), (.long x1)] 3 = mkF m 0 #[.val (.ref x0), .val (.long x1), .second] [] := by first | (simp [entryFrame, mkF, argsToLocals, Value.category]; done) | rfl
def own_F5 (x0 : Addr) (x1 : Int64) (w0 : Int64) (w1 : Int64) : Int64 := (if w0 = (9223372036854775807 : Int64) then (9223372036854775807 : Int64) else (w0 - (x1 - w1)))
def Q5 (Z : State) (x0 : Addr) (x1 : Int64) (w0 : Int64) (w1 : Int64) (h0 : Heap) (n0 : Nat) (v : Option Value) (h : Heap) (L : List Loc) : Prop := v = some (.long (own_F5 x0 x1 w0 w1)) ∧ Fr n0 L ∧ h = h0
set_option maxRecDepth 65536 in
set_option maxHeartbeats 40000000 in
theorem rm5 (l : Launch) (Z : State) (a0 : Array Value) (hw : ∀ d ∈ tables_1, d.before a0 Z = true) (ws : List Jvm.Cond) (x0 : Addr) (x1 : Int64) (w0 : Int64) (w1 : Int64) (h0 : Heap) (n0 : Nat) (Z0 : n0 ≤ h0.size) (B0 : Fld Z h0 x0 "com/example/orlok/orlok/Deadline" "lengthNanos" "J" (.long w0)) (B1 : Fld Z h0 x0 "com/example/orlok/orlok/Deadline" "startNanos" "J" (.long w1)) :
    MetFree l (⟨"com/example/orlok/orlok/Deadline", "nanosLeftAt", "(J)J"⟩ : MethodName) (head1 (Jvm.Cond.code (⟨"com/example/orlok/orlok/Deadline", "nanosLeftAt", "(J)J"⟩ : MethodName) prog_1_method_4_code 3 (some .long) :: ws) ({ frames := 0, cells := 0, slots := 0, locals := 0 } : Room)) (fun a U => a = #[(.ref x0), (.long x1)] ∧ Z.Warmed39 U.vm ∧ U.heap = h0) (fun _ _ _ _ _ => True) (fun _ U o U' => ∃ v L, o = .returned v ∧ Q5 Z x0 x1 w0 w1 h0 n0 v U'.heap L ∧ FrameEnd U o U' L ({ frames := 0, cells := 0, slots := 0, locals := 0 } : Room).cells ({ frames := 0, cells := 0, slots := 0, locals := 0 } : Room).slots) := by
  refine MetFree.of_bodySF (plainFor_of_name pn5) hisR ?_
  intro p e s m args below meth c s₁ Bd hml0 hP hK
  obtain ⟨rfl, hZ, hh⟩ := hP
  have hx := Bd.exec
  have hby := Bd.bytes
  have hml : c.maxLocals = 3 := hml0
  have hown : s.vm.findClass "com/example/orlok/orlok/Deadline" = some m.cls := findClass_of_methodNamed Bd.named
  have hnm := (name_of_methodNamed Bd.named Bd.method).1
  have X0 : Stand p l e ({ frames := 0, cells := 0, slots := 0, locals := 0 } : Room) s m #[(.ref x0), (.long x1)] below meth c s₁ [] 0 0 := Stand.of_body Bd
  have e0 : s₁.heap = h0 := by rw [← hh, Bd.state]; rfl
  have N0 := Fr.nil n0
  have pre0 : Steps p.tables e below (s₁.setTop (entryFrame m #[(.ref x0), (.long x1)] 3)) (s₁.setTop (mkF m 0 #[.val (.ref x0), .val (.long x1), .second] [])) := castTop (ef5 m x0 x1) (Steps.refl _)
  have st1 : Steps p.tables e below (s₁.setTop (mkF m 0 #[.val (.ref x0), .val (.long x1), .second] [])) (s₁.setTop (mkF m 1 #[.val (.ref x0), .val (.long x1), .second] [(.ref x0)])) := by
    refine XS.aloadN X0.here hx rfl (hb hby d5_0) rfl rfl ?_
    show Steps p.tables e below (s₁.setTop (mkF m 1 #[.val (.ref x0), .val (.long x1), .second] [(.ref x0)])) _
    exact Steps.refl _
  have pre1 := pre0.trans st1
  obtain ⟨T2, X2, e2, st2⟩ := getF X0 hx hZ hown (host := "") (Or.inl (hw _ (List.mem_of_getElem? (i := 31) rfl))) Via.refl e0 B0 (g := (mkF m 1 #[.val (.ref x0), .val (.long x1), .second] [(.ref x0)])) rfl rfl (hb hby d5_1)
  have pre2 : Steps p.tables e below (s₁.setTop (entryFrame m #[(.ref x0), (.long x1)] 3)) (T2.setTop (mkF m 4 #[.val (.ref x0), .val (.long x1), .second] [(.long w0)])) := pre1.trans (st2 _ (Steps.refl _))
  have st3 : Steps p.tables e below (T2.setTop (mkF m 4 #[.val (.ref x0), .val (.long x1), .second] [(.long w0)])) (T2.setTop (mkF m 8 #[.val (.ref x0), .val (.long x1), .second] [(.int (lcmpW w0 (9223372036854775807 : Int64)))])) := by
    refine X2.ldc2Long hx hown (mvT hZ (hw _ (List.mem_of_getElem? (i := 38) rfl))) (g := (mkF m 4 #[.val (.ref x0), .val (.long x1), .second] [(.long w0)])) rfl (hb hby d5_4) _ ?_
    show Steps p.tables e below (T2.setTop (mkF m 7 #[.val (.ref x0), .val (.long x1), .second] [(.long (9223372036854775807 : Int64)), (.long w0)])) _
    refine XS.lcmp X2.here hx rfl (hb hby d5_7) rfl ?_
    show Steps p.tables e below (T2.setTop (mkF m 8 #[.val (.ref x0), .val (.long x1), .second] [(.int (lcmpW w0 (9223372036854775807 : Int64)))])) _
    exact Steps.refl _
  have pre3 := pre2.trans st3
  by_cases hc8 : w0 = (9223372036854775807 : Int64)
  · have st4 : Steps p.tables e below (T2.setTop (mkF m 8 #[.val (.ref x0), .val (.long x1), .second] [(.int (lcmpW w0 (9223372036854775807 : Int64)))])) (T2.setTop (mkF m 11 #[.val (.ref x0), .val (.long x1), .second] [])) := by
      refine XS.ifNo X2.here hx rfl (hb hby d5_8) rfl ((if0 _ _).trans (teq ((lw_eq w0 (9223372036854775807 : Int64)).mpr hc8)).2) ?_
      exact Steps.refl _
    have pre4 := pre3.trans st4
    have st5 : Steps p.tables e below (T2.setTop (mkF m 11 #[.val (.ref x0), .val (.long x1), .second] [])) (T2.setTop (mkF m 28 #[.val (.ref x0), .val (.long x1), .second] [(.long (9223372036854775807 : Int64))])) := by
      refine X2.ldc2Long hx hown (mvT hZ (hw _ (List.mem_of_getElem? (i := 38) rfl))) (g := (mkF m 11 #[.val (.ref x0), .val (.long x1), .second] [])) rfl (hb hby d5_11) _ ?_
      show Steps p.tables e below (T2.setTop (mkF m 14 #[.val (.ref x0), .val (.long x1), .second] [(.long (9223372036854775807 : Int64))])) _
      refine XS.goto X2.here hx rfl (pc0 := 14) (pc' := 28) rfl (hb hby d5_14) (by decide) (by decide) ?_
      show Steps p.tables e below (T2.setTop (mkF m 28 #[.val (.ref x0), .val (.long x1), .second] [(.long (9223372036854775807 : Int64))])) _
      exact Steps.refl _
    have pre5 := pre4.trans st5
    obtain ⟨fs, hr, hrun, hended, hW, hsame⟩ := X2.leave (v := some (.long (9223372036854775807 : Int64))) (fun h => by rw [Bd.returns] at h; cases h)
    refine ⟨_, _, pre5.trans ?_, hrun, hended, _, _, rfl, ?_, ⟨_, rfl⟩, hW, hsame.mono (by decide) (by decide)⟩
    · show Steps p.tables e below (T2.setTop (mkF m 28 #[.val (.ref x0), .val (.long x1), .second] [(.long (9223372036854775807 : Int64))])) _
      jvm_step X2.here [X2.here.top, hx, (hb hby d5_28), X2.method', Bd.returns, narrow]
      first | (intro acts; rw [hr _ acts rfl rfl rfl]) | rw [hr _ _ rfl rfl rfl]
      exact Steps.refl _
    · show Q5 Z x0 x1 w0 w1 h0 n0 _ T2.heap _
      rw [e2]
      have hF : own_F5 x0 x1 w0 w1 = (9223372036854775807 : Int64) := by
        simp only [own_F5, if_pos hc8]
      exact ⟨by rw [hF], N0, rfl⟩
  · have st6 : Steps p.tables e below (T2.setTop (mkF m 8 #[.val (.ref x0), .val (.long x1), .second] [(.int (lcmpW w0 (9223372036854775807 : Int64)))])) (T2.setTop (mkF m 17 #[.val (.ref x0), .val (.long x1), .second] [])) := by
      refine XS.ifYes X2.here hx rfl (pc0 := 8) (pc' := 17) rfl (hb hby d5_8) rfl ((if0 _ _).trans (feq (fun q => hc8 ((lw_eq w0 (9223372036854775807 : Int64)).mp q))).2) (by decide) (by decide) ?_
      exact Steps.refl _
    have pre6 := pre3.trans st6
    have st7 : Steps p.tables e below (T2.setTop (mkF m 17 #[.val (.ref x0), .val (.long x1), .second] [])) (T2.setTop (mkF m 18 #[.val (.ref x0), .val (.long x1), .second] [(.ref x0)])) := by
      refine XS.aloadN X2.here hx rfl (hb hby d5_17) rfl rfl ?_
      show Steps p.tables e below (T2.setTop (mkF m 18 #[.val (.ref x0), .val (.long x1), .second] [(.ref x0)])) _
      exact Steps.refl _
    have pre7 := pre6.trans st7
    obtain ⟨T8, X8, e8, st8⟩ := getF X2 hx hZ hown (host := "") (Or.inl (hw _ (List.mem_of_getElem? (i := 31) rfl))) Via.refl e2 B0 (g := (mkF m 18 #[.val (.ref x0), .val (.long x1), .second] [(.ref x0)])) rfl rfl (hb hby d5_18)
    have pre8 : Steps p.tables e below (s₁.setTop (entryFrame m #[(.ref x0), (.long x1)] 3)) (T8.setTop (mkF m 21 #[.val (.ref x0), .val (.long x1), .second] [(.long w0)])) := pre7.trans (st8 _ (Steps.refl _))
    have st9 : Steps p.tables e below (T8.setTop (mkF m 21 #[.val (.ref x0), .val (.long x1), .second] [(.long w0)])) (T8.setTop (mkF m 23 #[.val (.ref x0), .val (.long x1), .second] [(.ref x0), (.long x1), (.long w0)])) := by
      refine XS.lloadN X8.here hx rfl (hb hby d5_21) rfl ?_
      show Steps p.tables e below (T8.setTop (mkF m 22 #[.val (.ref x0), .val (.long x1), .second] [(.long x1), (.long w0)])) _
      refine XS.aloadN X8.here hx rfl (hb hby d5_22) rfl rfl ?_
      show Steps p.tables e below (T8.setTop (mkF m 23 #[.val (.ref x0), .val (.long x1), .second] [(.ref x0), (.long x1), (.long w0)])) _
      exact Steps.refl _
    have pre9 := pre8.trans st9
    obtain ⟨T10, X10, e10, st10⟩ := getF X8 hx hZ hown (host := "") (Or.inl (hw _ (List.mem_of_getElem? (i := 29) rfl))) Via.refl e8 B1 (g := (mkF m 23 #[.val (.ref x0), .val (.long x1), .second] [(.ref x0), (.long x1), (.long w0)])) rfl rfl (hb hby d5_23)
    have pre10 : Steps p.tables e below (s₁.setTop (entryFrame m #[(.ref x0), (.long x1)] 3)) (T10.setTop (mkF m 26 #[.val (.ref x0), .val (.long x1), .second] [(.long w1), (.long x1), (.long w0)])) := pre9.trans (st10 _ (Steps.refl _))
    obtain ⟨v11, hv11⟩ : ∃ z : Int64, z = (w0 - (x1 - w1)) := ⟨_, rfl⟩
    have st12 : Steps p.tables e below (T10.setTop (mkF m 26 #[.val (.ref x0), .val (.long x1), .second] [(.long w1), (.long x1), (.long w0)])) (T10.setTop (mkF m 28 #[.val (.ref x0), .val (.long x1), .second] [(.long v11)])) := by
      subst v11
      refine XS.lsub X10.here hx rfl (hb hby d5_26) rfl ?_
      show Steps p.tables e below (T10.setTop (mkF m 27 #[.val (.ref x0), .val (.long x1), .second] [(.long (x1 - w1)), (.long w0)])) _
      refine XS.lsub X10.here hx rfl (hb hby d5_27) rfl ?_
      show Steps p.tables e below (T10.setTop (mkF m 28 #[.val (.ref x0), .val (.long x1), .second] [(.long (w0 - (x1 - w1)))])) _
      exact Steps.refl _
    have pre12 := pre10.trans st12
    obtain ⟨fs, hr, hrun, hended, hW, hsame⟩ := X10.leave (v := some (.long v11)) (fun h => by rw [Bd.returns] at h; cases h)
    refine ⟨_, _, pre12.trans ?_, hrun, hended, _, _, rfl, ?_, ⟨_, rfl⟩, hW, hsame.mono (by decide) (by decide)⟩
    · show Steps p.tables e below (T10.setTop (mkF m 28 #[.val (.ref x0), .val (.long x1), .second] [(.long v11)])) _
      jvm_step X10.here [X10.here.top, hx, (hb hby d5_28), X10.method', Bd.returns, narrow]
      first | (intro acts; rw [hr _ acts rfl rfl rfl]) | rw [hr _ _ rfl rfl rfl]
      exact Steps.refl _
    · show Q5 Z x0 x1 w0 w1 h0 n0 _ T10.heap _
      rw [e10]
      have hF : own_F5 x0 x1 w0 w1 = v11 := by
        subst v11
        simp only [own_F5, if_neg hc8]
      exact ⟨by rw [hF], N0, rfl⟩
theorem own_lease {i : Int32} {p v : Int64} (h : v = own_F2 i p) : 0 ≤ v.toInt := by
  have b := c_maskL p (9223372036854775807 : Int64) 63 (by decide) (by decide)
  have b2 := c_maskL p (65535 : Int64) 16 (by decide) (by decide)
  have b3 := c_maskL p (3 : Int64) 2 (by decide) (by decide)
  have e1 : (9223372036853 : Int64).toInt = 9223372036853 := by decide
  have hb : 0 ≤ (p &&& (9223372036854775807 : Int64)).toInt := by rw [b]; omega
  have r := (c_lrem (p &&& (9223372036854775807 : Int64)) (9223372036856 : Int64) 9223372036856 (by decide)).1 hb
  have q := c_ladd (9223372036853 : Int64) (p &&& (3 : Int64))
  have q' := rng64 ((9223372036853 : Int64) + (p &&& (3 : Int64)))
  subst h
  simp only [own_F2]
  repeat' split
  all_goals omega
theorem own_prem {v : Int64} (h : 0 ≤ v.toInt) : ¬ (v < (-(9223372036854 : Int64))) := by
  have e : (-(9223372036854 : Int64)).toInt = -9223372036854 := by decide
  rw [Int64.lt_iff_toInt_lt, e]
  omega
theorem own_fin {ls nw st got ex : Int64} {a b : Addr} (h0 : 0 ≤ ls.toInt) (hg : got = own_F5 a nw (own_F3 b ls) st) (he : ex = (if (9223372036854 : Int64) < ls then (9223372036854775807 : Int64) else ((ls * (1000000 : Int64)) - (nw - st)))) : got = ex := by
  subst hg he
  simp only [own_F5, own_F3]
  by_cases c : (9223372036854 : Int64) < ls
  · simp only [if_pos c, if_true]
  · simp only [if_neg c]
    rw [if_neg]
    intro q
    have e1 : (1000000 : Int64).toInt = 1000000 := by decide
    have e2 : (9223372036854775807 : Int64).toInt = 9223372036854775807 := by decide
    have e3 : (9223372036854 : Int64).toInt = 9223372036854 := by decide
    have r := c_lmul ls (1000000 : Int64)
    rw [q, e1, e2] at r
    rw [Int64.lt_iff_toInt_lt] at c
    omega
theorem pn0 : plainName "com/example/orlok/orlok/DeadlineAfterPinLaw" = true := by first | (simp [plainName, overriddenIn]; done) | decide +kernel
theorem pd0_0 : parseMethodDescriptor "(IJ)J" = some ⟨[.int, .long], some .long⟩ := by decide +kernel
theorem pd0_1 : parseMethodDescriptor "(JJ)Lcom/example/orlok/orlok/Deadline;" = some ⟨[.long, .long], some (.object "com/example/orlok/orlok/Deadline")⟩ := by decide +kernel
theorem pd0_2 : parseMethodDescriptor "(J)J" = some ⟨[.long], some .long⟩ := by decide +kernel
theorem ef0 (m : MethodId) (x0 : Int64) (x1 : Int64) (x2 : Int64) (x3 : Int32) : entryFrame m #[(.long x0), (.long x1), (.long x2), (.int x3)] maxLocals = mkF m 0 #[.val (.long x0), .second, .val (.long x1), .second, .val (.long x2), .second, .val (.int x3), .unset, .unset, .unset, .unset, .unset, .unset, .unset] [] := by first | (simp [entryFrame, mkF, argsToLocals, Value.category, maxLocals]; done) | rfl
def Q0 (Z : State) (x0 : Int64) (x1 : Int64) (x2 : Int64) (x3 : Int32) (aM : Addr) (h0 : Heap) (n0 : Nat) (v : Option Value) (h : Heap) (L : List Loc) : Prop := v = some (.int 1) ∧ Fr n0 L
set_option maxRecDepth 65536 in
set_option maxHeartbeats 40000000 in
theorem rm0 (l : Launch) (Z : State) (a0 : Array Value) (hw : ∀ d ∈ tables_1, d.before a0 Z = true) (ws : List Jvm.Cond) (x0 : Int64) (x1 : Int64) (x2 : Int64) (x3 : Int32) (aM : Addr) (h0 : Heap) (n0 : Nat) (Z0 : n0 ≤ h0.size) (O0 : Old Z n0 h0) (B0 : Exa Z h0 aM "java/util/concurrent/TimeUnit") (B1 : Fld Z h0 aM "java/util/concurrent/TimeUnit" "scale" "J" (.long (1000000 : Int64))) (B2 : Fld Z h0 aM "java/util/concurrent/TimeUnit" "maxNanos" "J" (.long (9223372036854 : Int64))) (S_M : Sta Z Z.heap "java/util/concurrent/TimeUnit" "MILLISECONDS" "Ljava/util/concurrent/TimeUnit;" (.ref aM)) :
    MetFree l x (head1 (Jvm.Cond.code x code maxLocals ret :: ws) room_1) (fun a U => a = #[(.long x0), (.long x1), (.long x2), (.int x3)] ∧ Z.Warmed39 U.vm ∧ U.heap = h0) (fun _ _ _ _ _ => True) (fun _ U o U' => ∃ v L, o = .returned v ∧ Q0 Z x0 x1 x2 x3 aM h0 n0 v U'.heap L ∧ FrameEnd U o U' L room_1.cells room_1.slots) := by
  refine MetFree.of_bodySF (plainFor_of_name pn0) hisR ?_
  intro p e s m args below meth c s₁ Bd hml0 hP hK
  obtain ⟨rfl, hZ, hh⟩ := hP
  have hx := Bd.exec
  have hby := Bd.bytes
  have hml : c.maxLocals = 14 := hml0
  have hown : s.vm.findClass "com/example/orlok/orlok/DeadlineAfterPinLaw" = some m.cls := findClass_of_methodNamed Bd.named
  have hnm := (name_of_methodNamed Bd.named Bd.method).1
  have X0 : Stand p l e room_1 s m #[(.long x0), (.long x1), (.long x2), (.int x3)] below meth c s₁ [] 0 0 := Stand.of_body Bd
  have e0 : s₁.heap = h0 := by rw [← hh, Bd.state]; rfl
  have N0 := Fr.nil n0
  have pre0 : Steps p.tables e below (s₁.setTop (entryFrame m #[(.long x0), (.long x1), (.long x2), (.int x3)] maxLocals)) (s₁.setTop (mkF m 0 #[.val (.long x0), .second, .val (.long x1), .second, .val (.long x2), .second, .val (.int x3), .unset, .unset, .unset, .unset, .unset, .unset, .unset] [])) := castTop (ef0 m x0 x1 x2 x3) (Steps.refl _)
  have K0 := Keep.refl h0 []
  have st1 : Steps p.tables e below (s₁.setTop (mkF m 0 #[.val (.long x0), .second, .val (.long x1), .second, .val (.long x2), .second, .val (.int x3), .unset, .unset, .unset, .unset, .unset, .unset, .unset] [])) (s₁.setTop (mkF m 4 #[.val (.long x0), .second, .val (.long x1), .second, .val (.long x2), .second, .val (.int x3), .unset, .unset, .unset, .unset, .unset, .unset, .unset] [(.long x2), (.int x3)])) := by
    refine XS.iload X0.here hx rfl (hb hby at_0) rfl ?_
    show Steps p.tables e below (s₁.setTop (mkF m 2 #[.val (.long x0), .second, .val (.long x1), .second, .val (.long x2), .second, .val (.int x3), .unset, .unset, .unset, .unset, .unset, .unset, .unset] [(.int x3)])) _
    refine XS.lload X0.here hx rfl (hb hby at_2) rfl ?_
    show Steps p.tables e below (s₁.setTop (mkF m 4 #[.val (.long x0), .second, .val (.long x1), .second, .val (.long x2), .second, .val (.int x3), .unset, .unset, .unset, .unset, .unset, .unset, .unset] [(.long x2), (.int x3)])) _
    exact Steps.refl _
  have pre1 := pre0.trans st1
  obtain ⟨_, _, ⟨T2, L2, k2, n2⟩, -, X2, ⟨Lc2, hQ2, l2, y2, z2⟩, st2⟩ := Jvm.LawKit.callS X0 hx (y := (⟨"com/example/orlok/orlok/DeadlineAfterPinLaw", "pickLease", "(IJ)J"⟩ : MethodName)) hown (mvT hZ (hw _ (List.mem_of_getElem? (i := 0) rfl))) (mvT hZ (hw _ (List.mem_of_getElem? (i := 1) rfl))) (mvT hZ (hw _ (List.mem_of_getElem? (i := 2) rfl))) (mvT hZ (hw _ (List.mem_of_getElem? (i := 3) rfl))) (by decide) (backOf (W := 0) (rm2 l Z a0 hw [] x3 x2 h0 n0 Z0) hZ (hw _ (List.mem_of_getElem? (i := 3) rfl)) (hw _ (List.mem_of_getElem? (i := 2) rfl)) (by decide) (by decide)) (g := (mkF m 4 #[.val (.long x0), .second, .val (.long x1), .second, .val (.long x2), .second, .val (.int x3), .unset, .unset, .unset, .unset, .unset, .unset, .unset] [(.long x2), (.int x3)])) rfl (by rw [hml]; rfl) (argsL := [(.int x3), (.long x2)]) (rest := []) (lenOf pd0_0 rfl) rfl (by show 2 * 0 + _ ≤ _; exact Nat.le_of_eq rfl) (hb hby at_4) (fun _ _ => ⟨rfl, e0, (by decide : 0 + 0 ≤ _), (by decide : 0 + 0 ≤ _)⟩)
  dsimp only [Pt.U, Pt.locs, Pt.cells, Pt.slots] at X2 l2 y2 z2 st2 hQ2
  subst l2 y2 z2
  obtain ⟨rfl, Nq2, e2⟩ := hQ2
  have N2 := Fr.app N0 Nq2
  have pre2 : Steps p.tables e below (s₁.setTop (entryFrame m #[(.long x0), (.long x1), (.long x2), (.int x3)] maxLocals)) (T2.setTop (mkF m 7 #[.val (.long x0), .second, .val (.long x1), .second, .val (.long x2), .second, .val (.int x3), .unset, .unset, .unset, .unset, .unset, .unset, .unset] [(.long (own_F2 x3 x2))])) := pre1.trans (st2 _ (Steps.refl _))
  obtain ⟨v3, hv3⟩ : ∃ z : Int64, z = (own_F2 x3 x2) := ⟨_, rfl⟩
  have st4 : Steps p.tables e below (T2.setTop (mkF m 7 #[.val (.long x0), .second, .val (.long x1), .second, .val (.long x2), .second, .val (.int x3), .unset, .unset, .unset, .unset, .unset, .unset, .unset] [(.long (own_F2 x3 x2))])) (T2.setTop (mkF m 12 #[.val (.long x0), .second, .val (.long x1), .second, .val (.long x2), .second, .val (.int x3), .val (.long v3), .second, .unset, .unset, .unset, .unset, .unset] [(.long v3), (.long x0)])) := by
    subst v3
    refine XS.lstore X2.here hx rfl (hb hby at_7) rfl (l' := #[.val (.long x0), .second, .val (.long x1), .second, .val (.long x2), .second, .val (.int x3), .val (.long (own_F2 x3 x2)), .second, .unset, .unset, .unset, .unset, .unset]) rfl ?_
    show Steps p.tables e below (T2.setTop (mkF m 9 #[.val (.long x0), .second, .val (.long x1), .second, .val (.long x2), .second, .val (.int x3), .val (.long (own_F2 x3 x2)), .second, .unset, .unset, .unset, .unset, .unset] [])) _
    refine XS.lloadN X2.here hx rfl (hb hby at_9) rfl ?_
    show Steps p.tables e below (T2.setTop (mkF m 10 #[.val (.long x0), .second, .val (.long x1), .second, .val (.long x2), .second, .val (.int x3), .val (.long (own_F2 x3 x2)), .second, .unset, .unset, .unset, .unset, .unset] [(.long x0)])) _
    refine XS.lload X2.here hx rfl (hb hby at_10) rfl ?_
    show Steps p.tables e below (T2.setTop (mkF m 12 #[.val (.long x0), .second, .val (.long x1), .second, .val (.long x2), .second, .val (.int x3), .val (.long (own_F2 x3 x2)), .second, .unset, .unset, .unset, .unset, .unset] [(.long (own_F2 x3 x2)), (.long x0)])) _
    exact Steps.refl _
  have pre4 := pre2.trans st4
  obtain ⟨_, _, ⟨T5, L5, k5, n5⟩, -, X5, ⟨Lc5, hQ5, l5, y5, z5⟩, st5⟩ := Jvm.LawKit.callS X2 hx (y := (⟨"com/example/orlok/orlok/Deadline", "after", "(JJ)Lcom/example/orlok/orlok/Deadline;"⟩ : MethodName)) hown (mvT hZ (hw _ (List.mem_of_getElem? (i := 6) rfl))) (mvT hZ (hw _ (List.mem_of_getElem? (i := 7) rfl))) (mvT hZ (hw _ (List.mem_of_getElem? (i := 8) rfl))) (mvT hZ (hw _ (List.mem_of_getElem? (i := 9) rfl))) (by decide) (backOf (W := 0) (rm4 l Z a0 hw [] x0 v3 aM h0 n0 Z0 O0 B0 B1 B2 S_M (own_prem (own_lease hv3))) hZ (hw _ (List.mem_of_getElem? (i := 9) rfl)) (hw _ (List.mem_of_getElem? (i := 8) rfl)) (by decide) (by decide)) (g := (mkF m 12 #[.val (.long x0), .second, .val (.long x1), .second, .val (.long x2), .second, .val (.int x3), .val (.long v3), .second, .unset, .unset, .unset, .unset, .unset] [(.long v3), (.long x0)])) rfl (by rw [hml]; rfl) (argsL := [(.long x0), (.long v3)]) (rest := []) (lenOf pd0_1 rfl) rfl (by show 2 * 0 + _ ≤ _; exact Nat.le_of_eq rfl) (hb hby at_12) (fun _ _ => ⟨rfl, e2, (by decide : 0 + 1 ≤ _), (by decide : 0 + 2 ≤ _)⟩)
  dsimp only [Pt.U, Pt.locs, Pt.cells, Pt.slots] at X5 l5 y5 z5 st5 hQ5
  subst l5 y5 z5
  obtain ⟨b5, rfl, Nq5, Kq5, gf5, P5_0, P5_1, P5_2⟩ := hQ5
  have gn5 : n0 ≤ b5 := Nat.le_trans Z0 gf5
  have sz5 : h0.size ≤ b5 := Nat.le_trans K0.1 gf5
  have neaM_b5 : aM ≠ b5 := Nat.ne_of_lt (Nat.lt_of_lt_of_le B0.lt gf5)
  have F6 : Exa Z T5.heap aM "java/util/concurrent/TimeUnit" := B0.keep Kq5
  have F7 : Fld Z T5.heap aM "java/util/concurrent/TimeUnit" "scale" "J" (.long (1000000 : Int64)) := B1.keep Kq5 nin0
  have F8 : Fld Z T5.heap aM "java/util/concurrent/TimeUnit" "maxNanos" "J" (.long (9223372036854 : Int64)) := B2.keep Kq5 nin0
  have KK5 := K0.trans Kq5 all0
  have Z5 : n0 ≤ T5.heap.size := Nat.le_trans Z0 Kq5.1
  have O5 := O0.keep Kq5 all0
  have N5 := Fr.app N2 Nq5
  have pre5 : Steps p.tables e below (s₁.setTop (entryFrame m #[(.long x0), (.long x1), (.long x2), (.int x3)] maxLocals)) (T5.setTop (mkF m 15 #[.val (.long x0), .second, .val (.long x1), .second, .val (.long x2), .second, .val (.int x3), .val (.long v3), .second, .unset, .unset, .unset, .unset, .unset] [(.ref b5)])) := pre4.trans (st5 _ (Steps.refl _))
  have st9 : Steps p.tables e below (T5.setTop (mkF m 15 #[.val (.long x0), .second, .val (.long x1), .second, .val (.long x2), .second, .val (.int x3), .val (.long v3), .second, .unset, .unset, .unset, .unset, .unset] [(.ref b5)])) (T5.setTop (mkF m 20 #[.val (.long x0), .second, .val (.long x1), .second, .val (.long x2), .second, .val (.int x3), .val (.long v3), .second, .val (.ref b5), .unset, .unset, .unset, .unset] [(.long x1), (.ref b5)])) := by
    refine XS.astore X5.here hx rfl (hb hby at_15) rfl rfl (l' := #[.val (.long x0), .second, .val (.long x1), .second, .val (.long x2), .second, .val (.int x3), .val (.long v3), .second, .val (.ref b5), .unset, .unset, .unset, .unset]) rfl ?_
    show Steps p.tables e below (T5.setTop (mkF m 17 #[.val (.long x0), .second, .val (.long x1), .second, .val (.long x2), .second, .val (.int x3), .val (.long v3), .second, .val (.ref b5), .unset, .unset, .unset, .unset] [])) _
    refine XS.aload X5.here hx rfl (hb hby at_17) rfl rfl ?_
    show Steps p.tables e below (T5.setTop (mkF m 19 #[.val (.long x0), .second, .val (.long x1), .second, .val (.long x2), .second, .val (.int x3), .val (.long v3), .second, .val (.ref b5), .unset, .unset, .unset, .unset] [(.ref b5)])) _
    refine XS.lloadN X5.here hx rfl (hb hby at_19) rfl ?_
    show Steps p.tables e below (T5.setTop (mkF m 20 #[.val (.long x0), .second, .val (.long x1), .second, .val (.long x2), .second, .val (.int x3), .val (.long v3), .second, .val (.ref b5), .unset, .unset, .unset, .unset] [(.long x1), (.ref b5)])) _
    exact Steps.refl _
  have pre9 := pre5.trans st9
  obtain ⟨cq10, kq10, q10a, q10b, q10c⟩ := isOf hZ rfl P5_0
  obtain ⟨_, _, ⟨T10, L10, k10, n10⟩, -, X10, ⟨Lc10, hQ10, l10, y10, z10⟩, st10⟩ := X5.virtualBack hx (y := (⟨"com/example/orlok/orlok/Deadline", "nanosLeftAt", "(J)J"⟩ : MethodName)) (z := (⟨"com/example/orlok/orlok/Deadline", "nanosLeftAt", "(J)J"⟩ : MethodName)) hown (mvT hZ (hw _ (List.mem_of_getElem? (i := 33) rfl))) (mvT hZ (hw _ (List.mem_of_getElem? (i := 34) rfl))) (notFace_of_selects (args := #[]) (mvT hZ (hw _ (List.mem_of_getElem? (i := 36) rfl)))) (mvT hZ (hw _ (List.mem_of_getElem? (i := 36) rfl))) (mvT hZ (hw _ (List.mem_of_getElem? (i := 35) rfl))) (by decide) (backOf (W := 0) (rm5 l Z a0 hw [] b5 x1 (own_F3 aM v3) x0 T5.heap n0 Z5 P5_2 P5_1) hZ (hw _ (List.mem_of_getElem? (i := 37) rfl)) (hw _ (List.mem_of_getElem? (i := 8) rfl)) (by decide) (by decide)) q10a q10c (g := (mkF m 20 #[.val (.long x0), .second, .val (.long x1), .second, .val (.long x2), .second, .val (.int x3), .val (.long v3), .second, .val (.ref b5), .unset, .unset, .unset, .unset] [(.long x1), (.ref b5)])) rfl (by rw [hml]; rfl) (Steps.refl _) (argsL := [(.long x1)]) (rest := []) (lenOf pd0_2 rfl) rfl (by show 2 * 0 + _ ≤ _; exact Nat.le_of_eq rfl) (hb hby at_20) (fun _ _ => ⟨rfl, rfl, (by decide : 1 + 0 ≤ _), (by decide : 2 + 0 ≤ _)⟩)
  dsimp only [Pt.U, Pt.locs, Pt.cells, Pt.slots] at X10 l10 y10 z10 st10 hQ10
  subst l10 y10 z10
  obtain ⟨rfl, Nq10, e10⟩ := hQ10
  have N10 := Fr.app N5 Nq10
  have pre10 : Steps p.tables e below (s₁.setTop (entryFrame m #[(.long x0), (.long x1), (.long x2), (.int x3)] maxLocals)) (T10.setTop (mkF m 23 #[.val (.long x0), .second, .val (.long x1), .second, .val (.long x2), .second, .val (.int x3), .val (.long v3), .second, .val (.ref b5), .unset, .unset, .unset, .unset] [(.long (own_F5 b5 x1 (own_F3 aM v3) x0))])) := pre9.trans st10
  obtain ⟨v11, hv11⟩ : ∃ z : Int64, z = (own_F5 b5 x1 (own_F3 aM v3) x0) := ⟨_, rfl⟩
  obtain ⟨v12, hv12⟩ : ∃ z : Int64, z = (if (9223372036854 : Int64) < v3 then (9223372036854775807 : Int64) else ((v3 * (1000000 : Int64)) - (x1 - x0))) := ⟨_, rfl⟩
  have st13 : Steps p.tables e below (T10.setTop (mkF m 23 #[.val (.long x0), .second, .val (.long x1), .second, .val (.long x2), .second, .val (.int x3), .val (.long v3), .second, .val (.ref b5), .unset, .unset, .unset, .unset] [(.long (own_F5 b5 x1 (own_F3 aM v3) x0))])) (T10.setTop (mkF m 59 #[.val (.long x0), .second, .val (.long x1), .second, .val (.long x2), .second, .val (.int x3), .val (.long v3), .second, .val (.ref b5), .val (.long v11), .second, .val (.long v12), .second] [(.int (lcmpW v11 v12))])) := by
    subst v12 v11
    refine XS.lstore X10.here hx rfl (hb hby at_23) rfl (l' := #[.val (.long x0), .second, .val (.long x1), .second, .val (.long x2), .second, .val (.int x3), .val (.long v3), .second, .val (.ref b5), .val (.long (own_F5 b5 x1 (own_F3 aM v3) x0)), .second, .unset, .unset]) rfl ?_
    show Steps p.tables e below (T10.setTop (mkF m 25 #[.val (.long x0), .second, .val (.long x1), .second, .val (.long x2), .second, .val (.int x3), .val (.long v3), .second, .val (.ref b5), .val (.long (own_F5 b5 x1 (own_F3 aM v3) x0)), .second, .unset, .unset] [])) _
    refine XS.lload X10.here hx rfl (hb hby at_25) rfl ?_
    show Steps p.tables e below (T10.setTop (mkF m 27 #[.val (.long x0), .second, .val (.long x1), .second, .val (.long x2), .second, .val (.int x3), .val (.long v3), .second, .val (.ref b5), .val (.long (own_F5 b5 x1 (own_F3 aM v3) x0)), .second, .unset, .unset] [(.long v3)])) _
    refine X10.ldc2Long hx hown (mvT hZ (hw _ (List.mem_of_getElem? (i := 39) rfl))) (g := (mkF m 27 #[.val (.long x0), .second, .val (.long x1), .second, .val (.long x2), .second, .val (.int x3), .val (.long v3), .second, .val (.ref b5), .val (.long (own_F5 b5 x1 (own_F3 aM v3) x0)), .second, .unset, .unset] [(.long v3)])) rfl (hb hby at_27) _ ?_
    show Steps p.tables e below (T10.setTop (mkF m 30 #[.val (.long x0), .second, .val (.long x1), .second, .val (.long x2), .second, .val (.int x3), .val (.long v3), .second, .val (.ref b5), .val (.long (own_F5 b5 x1 (own_F3 aM v3) x0)), .second, .unset, .unset] [(.long (9223372036854 : Int64)), (.long v3)])) _
    refine XS.lcmp X10.here hx rfl (hb hby at_30) rfl ?_
    show Steps p.tables e below (T10.setTop (mkF m 31 #[.val (.long x0), .second, .val (.long x1), .second, .val (.long x2), .second, .val (.int x3), .val (.long v3), .second, .val (.ref b5), .val (.long (own_F5 b5 x1 (own_F3 aM v3) x0)), .second, .unset, .unset] [(.int (lcmpW v3 (9223372036854 : Int64)))])) _
    refine Steps.trans (s₂ := T10.setTop (mkF m 54 #[.val (.long x0), .second, .val (.long x1), .second, .val (.long x2), .second, .val (.int x3), .val (.long v3), .second, .val (.ref b5), .val (.long (own_F5 b5 x1 (own_F3 aM v3) x0)), .second, .val (.long (if (9223372036854 : Int64) < v3 then (9223372036854775807 : Int64) else ((v3 * (1000000 : Int64)) - (x1 - x0)))), .second] [])) ?_ ?_
    · by_cases hc31 : (9223372036854 : Int64) < v3
      · refine XS.ifNo X10.here hx rfl (hb hby at_31) rfl ((if0 _ _).trans (tlt ((lw_gt v3 (9223372036854 : Int64)).mpr hc31)).2.2.2) ?_
        show Steps p.tables e below (T10.setTop (mkF m 34 #[.val (.long x0), .second, .val (.long x1), .second, .val (.long x2), .second, .val (.int x3), .val (.long v3), .second, .val (.ref b5), .val (.long (own_F5 b5 x1 (own_F3 aM v3) x0)), .second, .unset, .unset] [])) _
        refine X10.ldc2Long hx hown (mvT hZ (hw _ (List.mem_of_getElem? (i := 4) rfl))) (g := (mkF m 34 #[.val (.long x0), .second, .val (.long x1), .second, .val (.long x2), .second, .val (.int x3), .val (.long v3), .second, .val (.ref b5), .val (.long (own_F5 b5 x1 (own_F3 aM v3) x0)), .second, .unset, .unset] [])) rfl (hb hby at_34) _ ?_
        show Steps p.tables e below (T10.setTop (mkF m 37 #[.val (.long x0), .second, .val (.long x1), .second, .val (.long x2), .second, .val (.int x3), .val (.long v3), .second, .val (.ref b5), .val (.long (own_F5 b5 x1 (own_F3 aM v3) x0)), .second, .unset, .unset] [(.long (9223372036854775807 : Int64))])) _
        refine XS.lstore X10.here hx rfl (hb hby at_37) rfl (l' := #[.val (.long x0), .second, .val (.long x1), .second, .val (.long x2), .second, .val (.int x3), .val (.long v3), .second, .val (.ref b5), .val (.long (own_F5 b5 x1 (own_F3 aM v3) x0)), .second, .val (.long (9223372036854775807 : Int64)), .second]) rfl ?_
        show Steps p.tables e below (T10.setTop (mkF m 39 #[.val (.long x0), .second, .val (.long x1), .second, .val (.long x2), .second, .val (.int x3), .val (.long v3), .second, .val (.ref b5), .val (.long (own_F5 b5 x1 (own_F3 aM v3) x0)), .second, .val (.long (9223372036854775807 : Int64)), .second] [])) _
        refine XS.goto X10.here hx rfl (pc0 := 39) (pc' := 54) rfl (hb hby at_39) (by decide) (by decide) ?_
        show Steps p.tables e below (T10.setTop (mkF m 54 #[.val (.long x0), .second, .val (.long x1), .second, .val (.long x2), .second, .val (.int x3), .val (.long v3), .second, .val (.ref b5), .val (.long (own_F5 b5 x1 (own_F3 aM v3) x0)), .second, .val (.long (9223372036854775807 : Int64)), .second] [])) _
        try simp only [if_pos hc31]
        exact Steps.refl _
      · refine XS.ifYes X10.here hx rfl (pc0 := 31) (pc' := 42) rfl (hb hby at_31) rfl ((if0 _ _).trans (flt (fun q => hc31 ((lw_gt v3 (9223372036854 : Int64)).mp q))).2.2.2) (by decide) (by decide) ?_
        show Steps p.tables e below (T10.setTop (mkF m 42 #[.val (.long x0), .second, .val (.long x1), .second, .val (.long x2), .second, .val (.int x3), .val (.long v3), .second, .val (.ref b5), .val (.long (own_F5 b5 x1 (own_F3 aM v3) x0)), .second, .unset, .unset] [])) _
        refine XS.lload X10.here hx rfl (hb hby at_42) rfl ?_
        show Steps p.tables e below (T10.setTop (mkF m 44 #[.val (.long x0), .second, .val (.long x1), .second, .val (.long x2), .second, .val (.int x3), .val (.long v3), .second, .val (.ref b5), .val (.long (own_F5 b5 x1 (own_F3 aM v3) x0)), .second, .unset, .unset] [(.long v3)])) _
        refine X10.ldc2Long hx hown (mvT hZ (hw _ (List.mem_of_getElem? (i := 40) rfl))) (g := (mkF m 44 #[.val (.long x0), .second, .val (.long x1), .second, .val (.long x2), .second, .val (.int x3), .val (.long v3), .second, .val (.ref b5), .val (.long (own_F5 b5 x1 (own_F3 aM v3) x0)), .second, .unset, .unset] [(.long v3)])) rfl (hb hby at_44) _ ?_
        show Steps p.tables e below (T10.setTop (mkF m 47 #[.val (.long x0), .second, .val (.long x1), .second, .val (.long x2), .second, .val (.int x3), .val (.long v3), .second, .val (.ref b5), .val (.long (own_F5 b5 x1 (own_F3 aM v3) x0)), .second, .unset, .unset] [(.long (1000000 : Int64)), (.long v3)])) _
        refine XS.lmul X10.here hx rfl (hb hby at_47) rfl ?_
        show Steps p.tables e below (T10.setTop (mkF m 48 #[.val (.long x0), .second, .val (.long x1), .second, .val (.long x2), .second, .val (.int x3), .val (.long v3), .second, .val (.ref b5), .val (.long (own_F5 b5 x1 (own_F3 aM v3) x0)), .second, .unset, .unset] [(.long (v3 * (1000000 : Int64)))])) _
        refine XS.lloadN X10.here hx rfl (hb hby at_48) rfl ?_
        show Steps p.tables e below (T10.setTop (mkF m 49 #[.val (.long x0), .second, .val (.long x1), .second, .val (.long x2), .second, .val (.int x3), .val (.long v3), .second, .val (.ref b5), .val (.long (own_F5 b5 x1 (own_F3 aM v3) x0)), .second, .unset, .unset] [(.long x1), (.long (v3 * (1000000 : Int64)))])) _
        refine XS.lloadN X10.here hx rfl (hb hby at_49) rfl ?_
        show Steps p.tables e below (T10.setTop (mkF m 50 #[.val (.long x0), .second, .val (.long x1), .second, .val (.long x2), .second, .val (.int x3), .val (.long v3), .second, .val (.ref b5), .val (.long (own_F5 b5 x1 (own_F3 aM v3) x0)), .second, .unset, .unset] [(.long x0), (.long x1), (.long (v3 * (1000000 : Int64)))])) _
        refine XS.lsub X10.here hx rfl (hb hby at_50) rfl ?_
        show Steps p.tables e below (T10.setTop (mkF m 51 #[.val (.long x0), .second, .val (.long x1), .second, .val (.long x2), .second, .val (.int x3), .val (.long v3), .second, .val (.ref b5), .val (.long (own_F5 b5 x1 (own_F3 aM v3) x0)), .second, .unset, .unset] [(.long (x1 - x0)), (.long (v3 * (1000000 : Int64)))])) _
        refine XS.lsub X10.here hx rfl (hb hby at_51) rfl ?_
        show Steps p.tables e below (T10.setTop (mkF m 52 #[.val (.long x0), .second, .val (.long x1), .second, .val (.long x2), .second, .val (.int x3), .val (.long v3), .second, .val (.ref b5), .val (.long (own_F5 b5 x1 (own_F3 aM v3) x0)), .second, .unset, .unset] [(.long ((v3 * (1000000 : Int64)) - (x1 - x0)))])) _
        refine XS.lstore X10.here hx rfl (hb hby at_52) rfl (l' := #[.val (.long x0), .second, .val (.long x1), .second, .val (.long x2), .second, .val (.int x3), .val (.long v3), .second, .val (.ref b5), .val (.long (own_F5 b5 x1 (own_F3 aM v3) x0)), .second, .val (.long ((v3 * (1000000 : Int64)) - (x1 - x0))), .second]) rfl ?_
        show Steps p.tables e below (T10.setTop (mkF m 54 #[.val (.long x0), .second, .val (.long x1), .second, .val (.long x2), .second, .val (.int x3), .val (.long v3), .second, .val (.ref b5), .val (.long (own_F5 b5 x1 (own_F3 aM v3) x0)), .second, .val (.long ((v3 * (1000000 : Int64)) - (x1 - x0))), .second] [])) _
        try simp only [if_neg hc31]
        exact Steps.refl _
    show Steps p.tables e below (T10.setTop (mkF m 54 #[.val (.long x0), .second, .val (.long x1), .second, .val (.long x2), .second, .val (.int x3), .val (.long v3), .second, .val (.ref b5), .val (.long (own_F5 b5 x1 (own_F3 aM v3) x0)), .second, .val (.long (if (9223372036854 : Int64) < v3 then (9223372036854775807 : Int64) else ((v3 * (1000000 : Int64)) - (x1 - x0)))), .second] [])) _
    refine XS.lload X10.here hx rfl (hb hby at_54) rfl ?_
    show Steps p.tables e below (T10.setTop (mkF m 56 #[.val (.long x0), .second, .val (.long x1), .second, .val (.long x2), .second, .val (.int x3), .val (.long v3), .second, .val (.ref b5), .val (.long (own_F5 b5 x1 (own_F3 aM v3) x0)), .second, .val (.long (if (9223372036854 : Int64) < v3 then (9223372036854775807 : Int64) else ((v3 * (1000000 : Int64)) - (x1 - x0)))), .second] [(.long (own_F5 b5 x1 (own_F3 aM v3) x0))])) _
    refine XS.lload X10.here hx rfl (hb hby at_56) rfl ?_
    show Steps p.tables e below (T10.setTop (mkF m 58 #[.val (.long x0), .second, .val (.long x1), .second, .val (.long x2), .second, .val (.int x3), .val (.long v3), .second, .val (.ref b5), .val (.long (own_F5 b5 x1 (own_F3 aM v3) x0)), .second, .val (.long (if (9223372036854 : Int64) < v3 then (9223372036854775807 : Int64) else ((v3 * (1000000 : Int64)) - (x1 - x0)))), .second] [(.long (if (9223372036854 : Int64) < v3 then (9223372036854775807 : Int64) else ((v3 * (1000000 : Int64)) - (x1 - x0)))), (.long (own_F5 b5 x1 (own_F3 aM v3) x0))])) _
    refine XS.lcmp X10.here hx rfl (hb hby at_58) rfl ?_
    show Steps p.tables e below (T10.setTop (mkF m 59 #[.val (.long x0), .second, .val (.long x1), .second, .val (.long x2), .second, .val (.int x3), .val (.long v3), .second, .val (.ref b5), .val (.long (own_F5 b5 x1 (own_F3 aM v3) x0)), .second, .val (.long (if (9223372036854 : Int64) < v3 then (9223372036854775807 : Int64) else ((v3 * (1000000 : Int64)) - (x1 - x0)))), .second] [(.int (lcmpW (own_F5 b5 x1 (own_F3 aM v3) x0) (if (9223372036854 : Int64) < v3 then (9223372036854775807 : Int64) else ((v3 * (1000000 : Int64)) - (x1 - x0)))))])) _
    exact Steps.refl _
  have pre13 := pre10.trans st13
  have hc59 : v11 = v12 := by
    exact own_fin (own_lease hv3) hv11 hv12
  have st14 : Steps p.tables e below (T10.setTop (mkF m 59 #[.val (.long x0), .second, .val (.long x1), .second, .val (.long x2), .second, .val (.int x3), .val (.long v3), .second, .val (.ref b5), .val (.long v11), .second, .val (.long v12), .second] [(.int (lcmpW v11 v12))])) (T10.setTop (mkF m 62 #[.val (.long x0), .second, .val (.long x1), .second, .val (.long x2), .second, .val (.int x3), .val (.long v3), .second, .val (.ref b5), .val (.long v11), .second, .val (.long v12), .second] [])) := by
    refine XS.ifNo X10.here hx rfl (hb hby at_59) rfl ((if0 _ _).trans (teq ((lw_eq v11 v12).mpr hc59)).2) ?_
    exact Steps.refl _
  have pre14 := pre13.trans st14
  have st15 : Steps p.tables e below (T10.setTop (mkF m 62 #[.val (.long x0), .second, .val (.long x1), .second, .val (.long x2), .second, .val (.int x3), .val (.long v3), .second, .val (.ref b5), .val (.long v11), .second, .val (.long v12), .second] [])) (T10.setTop (mkF m 67 #[.val (.long x0), .second, .val (.long x1), .second, .val (.long x2), .second, .val (.int x3), .val (.long v3), .second, .val (.ref b5), .val (.long v11), .second, .val (.long v12), .second] [(.int (1 : Int32))])) := by
    refine XS.iconst X10.here hx rfl (hb hby at_62) ?_
    show Steps p.tables e below (T10.setTop (mkF m 63 #[.val (.long x0), .second, .val (.long x1), .second, .val (.long x2), .second, .val (.int x3), .val (.long v3), .second, .val (.ref b5), .val (.long v11), .second, .val (.long v12), .second] [(.int (1 : Int32))])) _
    refine XS.goto X10.here hx rfl (pc0 := 63) (pc' := 67) rfl (hb hby at_63) (by decide) (by decide) ?_
    show Steps p.tables e below (T10.setTop (mkF m 67 #[.val (.long x0), .second, .val (.long x1), .second, .val (.long x2), .second, .val (.int x3), .val (.long v3), .second, .val (.ref b5), .val (.long v11), .second, .val (.long v12), .second] [(.int (1 : Int32))])) _
    exact Steps.refl _
  have pre15 := pre14.trans st15
  obtain ⟨fs, hr, hrun, hended, hW, hsame⟩ := X10.leave (v := some (.int (1 : Int32))) (fun h => by rw [Bd.returns] at h; cases h)
  refine ⟨_, _, pre15.trans ?_, hrun, hended, _, _, rfl, ?_, ⟨_, rfl⟩, hW, hsame.mono (by decide) (by decide)⟩
  · show Steps p.tables e below (T10.setTop (mkF m 67 #[.val (.long x0), .second, .val (.long x1), .second, .val (.long x2), .second, .val (.int x3), .val (.long v3), .second, .val (.ref b5), .val (.long v11), .second, .val (.long v12), .second] [(.int (1 : Int32))])) _
    exact retN X10 hx (t := .boolean) Bd.returns (by simp) (hb hby at_67) hr
  · show Q0 Z x0 x1 x2 x3 aM h0 n0 _ T10.heap _
    rw [e10]
    exact ⟨rfl, N10⟩
set_option maxRecDepth 65536 in
set_option maxHeartbeats 40000000 in
theorem comes_1 {Post : Tables → Env → Array Value → State → Outcome → State → Prop} (hpost : ∀ tb e args s v u, (limb_1_1.after args s (.returned v) u = true ∧ limb_1_2.after args s (.returned v) u = true ∧ True) → FrameEnd s (.returned v) u (Jvm.fieldLocs frame_1_writes args s ++ Jvm.arrayLocs frame_1_arrays args s ++ Jvm.staticLocs frame_1_statics s) 16 128 → Post tb e args s (.returned v) u) :
    ArmFor flags0 classFile x code maxLocals ret World_1 tables_1 room_1 Calls_1 rest_1 Pre_1 Post := by
  intro l hfl _ _ p e ha hc hk s m args below hf hA hF happ hP
  obtain ⟨hcalls, hrest, hpre⟩ := hP
  obtain ⟨-, -, -, hnamed, -, -, -, hat⟩ := (Spec.applies_iff hf).mp happ
  obtain ⟨hg, hn⟩ := and_e (Cond.before_iff.mp (show (Jvm.Cond.and given_1 narrow_1).before args s = true from hpre))
  obtain ⟨g1, g2⟩ := and_e hg
  obtain ⟨g3, g4⟩ := and_e g2
  obtain ⟨g5, g6⟩ := and_e g4
  obtain ⟨g7, g8⟩ := and_e g6
  obtain ⟨w0, w1, w2, w3, rfl⟩ : ∃ w0 w1 w2 w3 : Value, args = #[w0, w1, w2, w3] := by
    have hs : args.size = 4 := by simpa [Cond.value, given_1] using g1
    obtain ⟨L⟩ := args
    match L, hs with
    | [w0, w1, w2, w3], _ => exact ⟨w0, w1, w2, w3, rfl⟩
  have hw := fun d (hd : d ∈ tables_1) => atoms_spec (ws := Jvm.Cond.code x code maxLocals ret :: tables_1) hat d (List.mem_cons_of_mem _ hd)
  obtain ⟨i0, ei0⟩ := isL_v g3
  obtain rfl : w0 = (.long i0) := Option.some.inj ei0
  obtain ⟨i1, ei1⟩ := isL_v g5
  obtain rfl : w1 = (.long i1) := Option.some.inj ei1
  obtain ⟨i2, ei2⟩ := isL_v g7
  obtain rfl : w2 = (.long i2) := Option.some.inj ei2
  obtain ⟨i3, ei3⟩ := is_v g8
  obtain rfl : w3 = (.int i3) := Option.some.inj ei3
  obtain ⟨hsets, hown0⟩ := atoms_of _ (rest_1_c_eq ▸ (show rest_1_c.before _ s = true from hrest))
  have hr0 := Cond.before_iff.mp hown0
  obtain ⟨aM, evM⟩ := exa_v (Cond.before_iff.mp (hsets _ (List.mem_of_getElem? (i := 2) rfl)))
  have ExM : Exa s s.heap aM "java/util/concurrent/TimeUnit" := Exa.start evM (Cond.before_iff.mp (hsets _ (List.mem_of_getElem? (i := 2) rfl)))
  have StM : Sta s s.heap "java/util/concurrent/TimeUnit" "MILLISECONDS" "Ljava/util/concurrent/TimeUnit;" (.ref aM) := Sta.start evM (Or.inl (hsets _ (List.mem_of_getElem? (i := 1) rfl)))
  have FsM_scale : Fld s s.heap aM "java/util/concurrent/TimeUnit" "scale" "J" (.long (1000000 : Int64)) := Fld.start ((fld_at evM).symm.trans (own_eqL (Cond.before_iff.mp (hsets _ (List.mem_of_getElem? (i := 5) rfl)))))
  have FsM_maxNanos : Fld s s.heap aM "java/util/concurrent/TimeUnit" "maxNanos" "J" (.long (9223372036854 : Int64)) := Fld.start ((fld_at evM).symm.trans (own_eqL (Cond.before_iff.mp (hsets _ (List.mem_of_getElem? (i := 6) rfl)))))
  obtain ⟨n, o, h1, h2, h3, _, L, rfl, ⟨rfl, N⟩, hq⟩ := rm0 l s _ hw tables_1 i0 i1 i2 i3 aM s.heap s.heap.size (Nat.le_refl _) (Old.start s) ExM FsM_scale FsM_maxNanos StM p e ha hc hk s m _ below hf ((Spec.applies_iff_loose hf).mp happ).1 ⟨rfl, State.Warmed39.refl s, rfl⟩ trivial
  refine ⟨n, _, h1, h2, h3, hpost _ _ _ _ _ _ ⟨Cond.after_iff.mpr rfl, Cond.after_iff.mpr (eq_i res_at (Term.int_eval (1)) rfl), trivial⟩ ⟨hq.1, hq.2.1, (hq.2.2.sift fun y hy => Or.inr (N y hy)).mono (by decide) (by decide)⟩⟩
theorem main_1_1 : Claimed_1_1 := comes_1 fun _ _ _ _ _ _ h hF => ⟨h.1, hF⟩
theorem main_1_2 : Claimed_1_2 := comes_1 fun _ _ _ _ _ _ h hF => ⟨h.2.1, hF⟩
end Jvm.Pilot.@@N@@
namespace Jvm.Pilot.@@N@@
open Jvm Jvm.ClassFile Sem Op Lib Jvm.Free Jvm.Stand Jvm.Pilot.@@N@@.Jvm.D
/-! MADE BY PROGRAM (witnessworld.py) out of the Statement's table words and the real class files: 16 classes; the members and pool entries that the words name. The judged class is class 1, her method 2. -/
namespace start1
open Jvm.ClassFile
def u (s : String) : CpInfo := .utf8 (stringToUtf16 s)
/-- a pool by its gaps: so many unusable entries, then the entry; so many at the end -/
def gap : Nat → List CpInfo → List CpInfo
  | 0, r => r
  | n + 1, r => .unusable :: gap n r
def poolList (es : List (Nat × CpInfo)) (last : Nat) : List CpInfo := es.foldr (fun e r => gap e.1 (e.2 :: r)) (gap last [])
def pool (es : List (Nat × CpInfo)) (last : Nat) : Array CpInfo := ⟨poolList es last⟩
def fileOf (pool : Array CpInfo) (this : Nat) (attrs : Array Attribute := #[]) (ms : Array MethodInfo := #[]) (fl : Nat := 33) (sup : Nat := 0) (ifs : Array Nat := #[]) (fds : Array FieldInfo := #[]) : ClassFile where
  minorVersion := 0
  majorVersion := 65
  constantPool := pool
  accessFlags := fl
  thisClass := this
  superClass := sup
  interfaces := ifs
  fields := fds
  methods := ms
  attributes := attrs
def plain (name : String) (sup : Option ClassId) : Class where
  name := name
  kind := .ordinary
  loader := none
  accessFlags := 33
  super := sup
  interfaces := #[]
  cf := none
  fields := #[]
  methods := #[]
  instanceTypes := #[]
  staticTypes := #[]
  resolved := #[]
  callSites := []
  init := .initialized
  statics := none
  mirror := none

def pool0 : Array CpInfo := pool [(5, u "<init>"), (0, u "()V"), (1, .class_ 10), (1, u "java/lang/Object")] 113

def k0c0 : Code := { maxStack := 0, maxLocals := 1, code := object_method_1_code, exceptionTable := #[], attributes := #[] }
def k0m0 : Method := { name := "<init>", desc := "()V", sig := { parameters := [], returnType := none }, accessFlags := 1, code := some k0c0 }
/-- java/lang/Object -/
def k0 : Class := { plain "java/lang/Object" none with
  accessFlags := 33
  interfaces := #[]
  cf := some (fileOf pool0 8 #[] #[{ accessFlags := 1, nameIndex := 5, descriptorIndex := 6, attributes := #[] }] 33 0 #[] #[])
  fields := #[]
  methods := #[k0m0]
  instanceTypes := #[]
  staticTypes := #[]
  resolved := Array.replicate 124 none
  statics := none }

def pool1 : Array CpInfo := pool [(2, .class_ 4), (1, u "java/lang/Object"), (0, u "<init>"), (0, u "()V"), (2, .long 9223372036854775807), (1, .class_ 12), (0, u "com/example/orlok/orlok/DeadlineAfterPinLaw"), (0, .long 9223372036856), (1, .long 65535), (1, .long 9223372036853), (1, .long 3), (1, .methodref 11 22), (0, .nameAndType 23 24), (0, u "pickLease"), (0, u "(IJ)J"), (0, .methodref 26 27), (0, .class_ 28), (0, .nameAndType 29 30), (0, u "com/example/orlok/orlok/Deadline"), (0, u "after"), (0, u "(JJ)Lcom/example/orlok/orlok/Deadline;"), (0, .methodref 26 32), (0, .nameAndType 33 34), (0, u "nanosLeftAt"), (0, u "(J)J"), (0, .long 9223372036854), (1, .long 1000000), (1, u "LIMIT_MS"), (0, u "J"), (4, u "law"), (0, u "(JJJI)Z")] 2

def k1m0 : Method := { name := "<init>", desc := "()V", sig := { parameters := [], returnType := none }, accessFlags := 1, code := none }
def k1c1 : Code := { maxStack := 6, maxLocals := 6, code := method_2_code, exceptionTable := #[], attributes := #[] }
def k1m1 : Method := { name := "pickLease", desc := "(IJ)J", sig := { parameters := [.int, .long], returnType := some .long }, accessFlags := 10, code := some k1c1 }
def k1c2 : Code := { maxStack := 6, maxLocals := 14, code := code, exceptionTable := #[], attributes := #[] }
def k1m2 : Method := { name := "law", desc := "(JJJI)Z", sig := { parameters := [.long, .long, .long, .int], returnType := some .boolean }, accessFlags := 9, code := some k1c2 }
/-- com/example/orlok/orlok/DeadlineAfterPinLaw -/
def k1 : Class := { plain "com/example/orlok/orlok/DeadlineAfterPinLaw" (some 0) with
  accessFlags := 49
  interfaces := #[]
  cf := some (fileOf pool1 11 #[] #[{ accessFlags := 1, nameIndex := 5, descriptorIndex := 6, attributes := #[] }, { accessFlags := 10, nameIndex := 23, descriptorIndex := 24, attributes := #[] }, { accessFlags := 9, nameIndex := 45, descriptorIndex := 46, attributes := #[] }] 49 2 #[] #[{ accessFlags := 26, nameIndex := 39, descriptorIndex := 40, attributes := #[] }])
  fields := #[{ name := "LIMIT_MS", type := .long, accessFlags := 26, slot := 0, constantValue := 0 }]
  methods := #[k1m0, k1m1, k1m2]
  instanceTypes := #[]
  staticTypes := #[.long]
  resolved := Array.replicate 49 none
  statics := none }

def pool2 : Array CpInfo := pool [(1, .methodref 2 3), (0, .class_ 4), (0, .nameAndType 5 6), (0, u "java/lang/Object"), (0, u "<init>"), (0, u "()V"), (0, .fieldref 8 9), (0, .class_ 10), (0, .nameAndType 11 12), (0, u "com/example/orlok/orlok/Deadline"), (0, u "startNanos"), (0, u "J"), (0, .fieldref 8 14), (0, .nameAndType 15 12), (0, u "lengthNanos"), (0, .fieldref 17 18), (0, .class_ 19), (0, .nameAndType 20 21), (0, u "java/util/concurrent/TimeUnit"), (0, u "MILLISECONDS"), (0, u "Ljava/util/concurrent/TimeUnit;"), (0, .methodref 17 23), (0, .nameAndType 24 25), (0, u "toNanos"), (0, u "(J)J"), (0, .methodref 8 27), (0, .nameAndType 5 28), (0, u "(JJ)V"), (4, .long 9223372036854775807), (9, u "nanosLeftAt"), (2, u "NONE"), (0, u "Lcom/example/orlok/orlok/Deadline;"), (2, u "after"), (0, u "(JJ)Lcom/example/orlok/orlok/Deadline;")] 8

def k2c0 : Code := { maxStack := 3, maxLocals := 5, code := prog_1_method_1_code, exceptionTable := #[], attributes := #[] }
def k2m0 : Method := { name := "<init>", desc := "(JJ)V", sig := { parameters := [.long, .long], returnType := none }, accessFlags := 2, code := some k2c0 }
def k2c1 : Code := { maxStack := 7, maxLocals := 4, code := prog_1_method_2_code, exceptionTable := #[], attributes := #[] }
def k2m1 : Method := { name := "after", desc := "(JJ)Lcom/example/orlok/orlok/Deadline;", sig := { parameters := [.long, .long], returnType := some (.object "com/example/orlok/orlok/Deadline") }, accessFlags := 8, code := some k2c1 }
def k2c2 : Code := { maxStack := 6, maxLocals := 3, code := prog_1_method_4_code, exceptionTable := #[], attributes := #[] }
def k2m2 : Method := { name := "nanosLeftAt", desc := "(J)J", sig := { parameters := [.long], returnType := some .long }, accessFlags := 0, code := some k2c2 }
/-- com/example/orlok/orlok/Deadline -/
def k2 : Class := { plain "com/example/orlok/orlok/Deadline" (some 0) with
  accessFlags := 48
  interfaces := #[]
  cf := some (fileOf pool2 8 #[] #[{ accessFlags := 2, nameIndex := 5, descriptorIndex := 28, attributes := #[] }, { accessFlags := 8, nameIndex := 50, descriptorIndex := 51, attributes := #[] }, { accessFlags := 0, nameIndex := 43, descriptorIndex := 25, attributes := #[] }] 48 2 #[] #[{ accessFlags := 24, nameIndex := 46, descriptorIndex := 47, attributes := #[] }, { accessFlags := 18, nameIndex := 11, descriptorIndex := 12, attributes := #[] }, { accessFlags := 18, nameIndex := 15, descriptorIndex := 12, attributes := #[] }])
  fields := #[{ name := "NONE", type := (.object "com/example/orlok/orlok/Deadline"), accessFlags := 24, slot := 0, constantValue := 0 }, { name := "startNanos", type := .long, accessFlags := 18, slot := 0, constantValue := 0 }, { name := "lengthNanos", type := .long, accessFlags := 18, slot := 1, constantValue := 0 }]
  methods := #[k2m0, k2m1, k2m2]
  instanceTypes := #[.long, .long]
  staticTypes := #[(.object "com/example/orlok/orlok/Deadline")]
  resolved := Array.replicate 60 none
  statics := none }

def pool3 : Array CpInfo := pool [(1, .class_ 2), (0, u "java/lang/constant/Constable"), (0, .class_ 4), (0, u "java/lang/Object")] 6

/-- java/lang/constant/Constable -/
def k3 : Class := { plain "java/lang/constant/Constable" (some 0) with
  accessFlags := 1537
  interfaces := #[]
  cf := some (fileOf pool3 1 #[] #[] 1537 3 #[] #[])
  fields := #[]
  methods := #[]
  instanceTypes := #[]
  staticTypes := #[]
  resolved := Array.replicate 11 none
  statics := none }

def pool4 : Array CpInfo := pool [(1, .class_ 2), (0, u "java/lang/Comparable"), (0, .class_ 4), (0, u "java/lang/Object")] 7

/-- java/lang/Comparable -/
def k4 : Class := { plain "java/lang/Comparable" (some 0) with
  accessFlags := 1537
  interfaces := #[]
  cf := some (fileOf pool4 1 #[] #[] 1537 3 #[] #[])
  fields := #[]
  methods := #[]
  instanceTypes := #[]
  staticTypes := #[]
  resolved := Array.replicate 12 none
  statics := none }

def pool5 : Array CpInfo := pool [(1, .class_ 2), (0, u "java/io/Serializable"), (0, .class_ 4), (0, u "java/lang/Object")] 2

/-- java/io/Serializable -/
def k5 : Class := { plain "java/io/Serializable" (some 0) with
  accessFlags := 1537
  interfaces := #[]
  cf := some (fileOf pool5 1 #[] #[] 1537 3 #[] #[])
  fields := #[]
  methods := #[]
  instanceTypes := #[]
  staticTypes := #[]
  resolved := Array.replicate 7 none
  statics := none }

def pool6 : Array CpInfo := pool [(2, .class_ 4), (1, u "java/lang/Enum"), (0, u "name"), (0, u "Ljava/lang/String;"), (2, u "ordinal"), (0, u "I"), (1, .class_ 14), (1, u "java/lang/Object"), (4, u "hash"), (86, .class_ 108), (1, u "java/lang/Enum$EnumDesc"), (2, .class_ 112), (0, u "java/lang/constant/Constable"), (0, .class_ 114), (0, u "java/lang/Comparable"), (0, .class_ 116), (0, u "java/io/Serializable")] 87

/-- java/lang/Enum -/
def k6 : Class := { plain "java/lang/Enum" (some 0) with
  accessFlags := 1057
  interfaces := #[3, 4, 5]
  cf := some (fileOf pool6 2 #[.nestMembers #[106]] #[] 1057 12 #[111, 113, 115] #[{ accessFlags := 18, nameIndex := 5, descriptorIndex := 6, attributes := #[] }, { accessFlags := 18, nameIndex := 9, descriptorIndex := 10, attributes := #[] }, { accessFlags := 2, nameIndex := 19, descriptorIndex := 10, attributes := #[] }])
  fields := #[{ name := "name", type := (.object "java/lang/String"), accessFlags := 18, slot := 0, constantValue := 0 }, { name := "ordinal", type := .int, accessFlags := 18, slot := 1, constantValue := 0 }, { name := "hash", type := .int, accessFlags := 2, slot := 2, constantValue := 0 }]
  methods := #[]
  instanceTypes := #[(.object "java/lang/String"), .int, .int]
  staticTypes := #[]
  resolved := Array.replicate 204 none
  statics := none }

def pool7 : Array CpInfo := pool [(1, .class_ 2), (0, u "java/util/concurrent/TimeUnit"), (2, u "NANOSECONDS"), (0, u "Ljava/util/concurrent/TimeUnit;"), (2, u "MICROSECONDS"), (2, u "MILLISECONDS"), (2, u "SECONDS"), (2, u "MINUTES"), (2, u "HOURS"), (2, u "DAYS"), (2, u "$VALUES"), (0, u "[Ljava/util/concurrent/TimeUnit;"), (6, .class_ 37), (1, u "java/lang/Enum"), (6, .fieldref 1 45), (0, .nameAndType 46 47), (0, u "scale"), (0, u "J"), (2, .long 9223372036854775807), (1, .fieldref 1 53), (0, .nameAndType 54 47), (0, u "maxNanos"), (4, u "microRatio"), (2, u "maxMicros"), (4, u "milliRatio"), (0, u "I"), (2, u "maxMillis"), (4, u "secRatio"), (2, u "maxSecs"), (8, u "toNanos"), (0, u "(J)J"), (73, .class_ 165), (1, u "java/util/concurrent/TimeUnit$1"), (46, u "NANO_SCALE"), (3, u "MICRO_SCALE"), (0, u "MILLI_SCALE"), (0, u "SECOND_SCALE"), (0, u "MINUTE_SCALE"), (0, u "HOUR_SCALE"), (0, u "DAY_SCALE")] 61

def k7c0 : Code := { maxStack := 6, maxLocals := 7, code := jdk_2799_method_7_code, exceptionTable := #[], attributes := #[] }
def k7m0 : Method := { name := "toNanos", desc := "(J)J", sig := { parameters := [.long], returnType := some .long }, accessFlags := 1, code := some k7c0 }
/-- java/util/concurrent/TimeUnit -/
def k7 : Class := { plain "java/util/concurrent/TimeUnit" (some 6) with
  accessFlags := 16433
  interfaces := #[]
  cf := some (fileOf pool7 1 #[.nestMembers #[163]] #[{ accessFlags := 1, nameIndex := 88, descriptorIndex := 89, attributes := #[] }] 16433 35 #[] #[{ accessFlags := 16409, nameIndex := 5, descriptorIndex := 6, attributes := #[] }, { accessFlags := 16409, nameIndex := 9, descriptorIndex := 6, attributes := #[] }, { accessFlags := 16409, nameIndex := 12, descriptorIndex := 6, attributes := #[] }, { accessFlags := 16409, nameIndex := 15, descriptorIndex := 6, attributes := #[] }, { accessFlags := 16409, nameIndex := 18, descriptorIndex := 6, attributes := #[] }, { accessFlags := 16409, nameIndex := 21, descriptorIndex := 6, attributes := #[] }, { accessFlags := 16409, nameIndex := 24, descriptorIndex := 6, attributes := #[] }, { accessFlags := 26, nameIndex := 212, descriptorIndex := 47, attributes := #[] }, { accessFlags := 26, nameIndex := 216, descriptorIndex := 47, attributes := #[] }, { accessFlags := 26, nameIndex := 217, descriptorIndex := 47, attributes := #[] }, { accessFlags := 26, nameIndex := 218, descriptorIndex := 47, attributes := #[] }, { accessFlags := 26, nameIndex := 219, descriptorIndex := 47, attributes := #[] }, { accessFlags := 26, nameIndex := 220, descriptorIndex := 47, attributes := #[] }, { accessFlags := 26, nameIndex := 221, descriptorIndex := 47, attributes := #[] }, { accessFlags := 18, nameIndex := 46, descriptorIndex := 47, attributes := #[] }, { accessFlags := 18, nameIndex := 54, descriptorIndex := 47, attributes := #[] }, { accessFlags := 18, nameIndex := 62, descriptorIndex := 47, attributes := #[] }, { accessFlags := 18, nameIndex := 71, descriptorIndex := 47, attributes := #[] }, { accessFlags := 18, nameIndex := 79, descriptorIndex := 47, attributes := #[] }, { accessFlags := 18, nameIndex := 59, descriptorIndex := 47, attributes := #[] }, { accessFlags := 18, nameIndex := 67, descriptorIndex := 68, attributes := #[] }, { accessFlags := 18, nameIndex := 76, descriptorIndex := 68, attributes := #[] }, { accessFlags := 4122, nameIndex := 27, descriptorIndex := 28, attributes := #[] }])
  fields := #[{ name := "NANOSECONDS", type := (.object "java/util/concurrent/TimeUnit"), accessFlags := 16409, slot := 0, constantValue := 0 }, { name := "MICROSECONDS", type := (.object "java/util/concurrent/TimeUnit"), accessFlags := 16409, slot := 1, constantValue := 0 }, { name := "MILLISECONDS", type := (.object "java/util/concurrent/TimeUnit"), accessFlags := 16409, slot := 2, constantValue := 0 }, { name := "SECONDS", type := (.object "java/util/concurrent/TimeUnit"), accessFlags := 16409, slot := 3, constantValue := 0 }, { name := "MINUTES", type := (.object "java/util/concurrent/TimeUnit"), accessFlags := 16409, slot := 4, constantValue := 0 }, { name := "HOURS", type := (.object "java/util/concurrent/TimeUnit"), accessFlags := 16409, slot := 5, constantValue := 0 }, { name := "DAYS", type := (.object "java/util/concurrent/TimeUnit"), accessFlags := 16409, slot := 6, constantValue := 0 }, { name := "NANO_SCALE", type := .long, accessFlags := 26, slot := 7, constantValue := 0 }, { name := "MICRO_SCALE", type := .long, accessFlags := 26, slot := 8, constantValue := 0 }, { name := "MILLI_SCALE", type := .long, accessFlags := 26, slot := 9, constantValue := 0 }, { name := "SECOND_SCALE", type := .long, accessFlags := 26, slot := 10, constantValue := 0 }, { name := "MINUTE_SCALE", type := .long, accessFlags := 26, slot := 11, constantValue := 0 }, { name := "HOUR_SCALE", type := .long, accessFlags := 26, slot := 12, constantValue := 0 }, { name := "DAY_SCALE", type := .long, accessFlags := 26, slot := 13, constantValue := 0 }, { name := "scale", type := .long, accessFlags := 18, slot := 3, constantValue := 0 }, { name := "maxNanos", type := .long, accessFlags := 18, slot := 4, constantValue := 0 }, { name := "maxMicros", type := .long, accessFlags := 18, slot := 5, constantValue := 0 }, { name := "maxMillis", type := .long, accessFlags := 18, slot := 6, constantValue := 0 }, { name := "maxSecs", type := .long, accessFlags := 18, slot := 7, constantValue := 0 }, { name := "microRatio", type := .long, accessFlags := 18, slot := 8, constantValue := 0 }, { name := "milliRatio", type := .int, accessFlags := 18, slot := 9, constantValue := 0 }, { name := "secRatio", type := .int, accessFlags := 18, slot := 10, constantValue := 0 }, { name := "$VALUES", type := (.array (.object "java/util/concurrent/TimeUnit")), accessFlags := 4122, slot := 14, constantValue := 0 }]
  methods := #[k7m0]
  instanceTypes := #[(.object "java/lang/String"), .int, .int, .long, .long, .long, .long, .long, .long, .int, .int]
  staticTypes := #[(.object "java/util/concurrent/TimeUnit"), (.object "java/util/concurrent/TimeUnit"), (.object "java/util/concurrent/TimeUnit"), (.object "java/util/concurrent/TimeUnit"), (.object "java/util/concurrent/TimeUnit"), (.object "java/util/concurrent/TimeUnit"), (.object "java/util/concurrent/TimeUnit"), .long, .long, .long, .long, .long, .long, .long, (.array (.object "java/util/concurrent/TimeUnit"))]
  resolved := Array.replicate 283 none
  statics := some 0 }

def pool8 : Array CpInfo := pool [(2, .class_ 4), (1, u "java/lang/CharSequence"), (42, .class_ 48), (0, u "java/lang/CharSequence$1CodePointIterator"), (10, .class_ 60), (0, u "java/lang/CharSequence$1CharIterator"), (5, .class_ 67), (0, u "java/lang/Object")] 63

/-- java/lang/CharSequence -/
def k8 : Class := { plain "java/lang/CharSequence" (some 0) with
  accessFlags := 1537
  interfaces := #[]
  cf := some (fileOf pool8 2 #[.nestMembers #[47, 59]] #[] 1537 66 #[] #[])
  fields := #[]
  methods := #[]
  instanceTypes := #[]
  staticTypes := #[]
  resolved := Array.replicate 131 none
  statics := none }

def pool9 : Array CpInfo := pool [(1, .class_ 2), (0, u "java/lang/constant/ConstantDesc"), (0, .class_ 4), (0, u "java/lang/Object")] 32

/-- java/lang/constant/ConstantDesc -/
def k9 : Class := { plain "java/lang/constant/ConstantDesc" (some 0) with
  accessFlags := 1537
  interfaces := #[]
  cf := some (fileOf pool9 1 #[] #[] 1537 3 #[] #[])
  fields := #[]
  methods := #[]
  instanceTypes := #[]
  staticTypes := #[]
  resolved := Array.replicate 37 none
  statics := none }

def pool10 : Array CpInfo := pool [(2, .class_ 4), (1, u "java/lang/Object"), (0, u "<init>"), (0, u "()V"), (3, .class_ 12), (1, u "java/lang/String"), (0, u "value"), (0, u "[B"), (2, u "coder"), (0, u "B"), (2, u "hash"), (0, u "I"), (2, u "hashIsZero"), (0, u "Z"), (13, u "COMPACT_STRINGS"), (534, .class_ 576), (0, u "java/lang/CharSequence"), (22, u "CASE_INSENSITIVE_ORDER"), (0, u "Ljava/util/Comparator;"), (500, u "serialPersistentFields"), (0, u "[Ljava/io/ObjectStreamField;"), (0, .class_ 1104), (0, u "java/lang/String$CaseInsensitiveComparator"), (1, .class_ 1107), (0, u "java/io/Serializable"), (0, .class_ 1109), (0, u "java/lang/Comparable"), (0, .class_ 1111), (0, u "java/lang/constant/Constable"), (0, .class_ 1113), (0, u "java/lang/constant/ConstantDesc"), (2, u "serialVersionUID"), (0, u "J"), (3, u "REPL"), (0, u "C"), (2, u "LATIN1"), (1, u "UTF16")] 323

def k10m0 : Method := { name := "<init>", desc := "()V", sig := { parameters := [], returnType := none }, accessFlags := 1, code := none }
/-- java/lang/String -/
def k10 : Class := { plain "java/lang/String" (some 0) with
  accessFlags := 49
  interfaces := #[5, 4, 8, 3, 9]
  cf := some (fileOf pool10 10 #[.nestMembers #[1103]] #[{ accessFlags := 1, nameIndex := 5, descriptorIndex := 6, attributes := #[] }] 49 2 #[1106, 1108, 575, 1110, 1112] #[{ accessFlags := 18, nameIndex := 13, descriptorIndex := 14, attributes := #[] }, { accessFlags := 18, nameIndex := 17, descriptorIndex := 18, attributes := #[] }, { accessFlags := 2, nameIndex := 21, descriptorIndex := 22, attributes := #[] }, { accessFlags := 2, nameIndex := 25, descriptorIndex := 26, attributes := #[] }, { accessFlags := 26, nameIndex := 1116, descriptorIndex := 1117, attributes := #[] }, { accessFlags := 24, nameIndex := 40, descriptorIndex := 26, attributes := #[] }, { accessFlags := 26, nameIndex := 1101, descriptorIndex := 1102, attributes := #[] }, { accessFlags := 26, nameIndex := 1121, descriptorIndex := 1122, attributes := #[] }, { accessFlags := 25, nameIndex := 599, descriptorIndex := 600, attributes := #[] }, { accessFlags := 24, nameIndex := 1125, descriptorIndex := 18, attributes := #[] }, { accessFlags := 24, nameIndex := 1127, descriptorIndex := 18, attributes := #[] }])
  fields := #[{ name := "value", type := (.array .byte), accessFlags := 18, slot := 0, constantValue := 0 }, { name := "coder", type := .byte, accessFlags := 18, slot := 1, constantValue := 0 }, { name := "hash", type := .int, accessFlags := 2, slot := 2, constantValue := 0 }, { name := "hashIsZero", type := .boolean, accessFlags := 2, slot := 3, constantValue := 0 }, { name := "serialVersionUID", type := .long, accessFlags := 26, slot := 0, constantValue := 0 }, { name := "COMPACT_STRINGS", type := .boolean, accessFlags := 24, slot := 1, constantValue := 0 }, { name := "serialPersistentFields", type := (.array (.object "java/io/ObjectStreamField")), accessFlags := 26, slot := 2, constantValue := 0 }, { name := "REPL", type := .char, accessFlags := 26, slot := 3, constantValue := 0 }, { name := "CASE_INSENSITIVE_ORDER", type := (.object "java/util/Comparator"), accessFlags := 25, slot := 4, constantValue := 0 }, { name := "LATIN1", type := .byte, accessFlags := 24, slot := 5, constantValue := 0 }, { name := "UTF16", type := .byte, accessFlags := 24, slot := 6, constantValue := 0 }]
  methods := #[k10m0]
  instanceTypes := #[(.array .byte), .byte, .int, .boolean]
  staticTypes := #[.long, .boolean, (.array (.object "java/io/ObjectStreamField")), .char, (.object "java/util/Comparator"), .byte, .byte]
  resolved := Array.replicate 1451 none
  statics := none }

def pool11 : Array CpInfo := pool [(1, u "java/lang/Cloneable"), (0, .class_ 1), (0, u "java/lang/Object"), (0, .class_ 3)] 3

/-- java/lang/Cloneable -/
def k11 : Class := { plain "java/lang/Cloneable" (some 0) with
  accessFlags := 1537
  interfaces := #[]
  cf := some (fileOf pool11 2 #[] #[] 1537 4 #[] #[])
  fields := #[]
  methods := #[]
  instanceTypes := #[]
  staticTypes := #[]
  resolved := Array.replicate 8 none
  statics := none }

/-- the primitive byte -/
def k12 : Class := { plain "byte" none with kind := .primitive 'B', accessFlags := 0x411 }
/-- [B -/
def k13 : Class := { plain "[B" (some 0) with kind := .array 12 .byte, interfaces := #[11, 5], accessFlags := 1041 }

/-- the primitive int -/
def k14 : Class := { plain "int" none with kind := .primitive 'I', accessFlags := 0x411 }
/-- [I -/
def k15 : Class := { plain "[I" (some 0) with kind := .array 14 .int, interfaces := #[11, 5], accessFlags := 1041 }

def heap : Heap := #[{ cls := 7, slots := #[.null, .null, .ref 2, .null, .null, .null, .null, .long 0, .long 0, .long 0, .long 0, .long 0, .long 0, .long 0, .null], vm := .statics 7 },
  { cls := 10, slots := #[.null, .int 0, .int 0, .int 0], vm := .none },
  { cls := 7, slots := #[.ref 1, .int 2, .int 0, .long 1000000, .long 9223372036854, .long 9223372036854775, .long 9223372036854775807, .long 9223372036854775, .long 1000, .int 1, .int 1000], vm := .none }]
def classes : Array Class := #[k0, k1, k2, k3, k4, k5, k6, k7, k8, k9, k10, k11, k12, k13, k14, k15]
def interned : List (Array UInt16 × Addr) := []
def slotsUsed : Nat := 30
def theMethod : MethodId := ⟨1, 2⟩
def args0 : Array Value := #[.long 5, .long 77, .long 9, .int 2]
def aboutOver (below : List Frame) : State where
  vm := { classes := classes, interned := interned.toArray }
  heap := heap
  slotsUsed := slotsUsed
  threads := #[{ frames := .invoking theMethod args0 :: below }]
def below0 : List Frame := [.native { method := ⟨0, 0⟩, args := #[] }]
def about1 : State := aboutOver below0
def p0 : Program := .bare "" "" ""
def e0 : Env := launch0.env 0 0 0
theorem w_frames : about1.frames = Frame.invoking theMethod args0 :: below0 := rfl
set_option maxRecDepth 65536 in
theorem w_args : argsFit about1.vm theMethod args0 = true := by decide +kernel
set_option maxRecDepth 65536 in
theorem w_heap : heapFits about1 = true := by decide +kernel
set_option maxRecDepth 65536 in
theorem w_runnable : about1.curStatus? = some .runnable := by decide +kernel
set_option maxRecDepth 65536 in
theorem w_alone : about1.alone = true := by decide +kernel
set_option maxRecDepth 65536 in
theorem w_named : about1.methodNamed? x = some theMethod := by decide +kernel
set_option maxRecDepth 65536 in
theorem w_hears : about1.hears theMethod below0 = true := by decide +kernel
set_option maxRecDepth 65536 in
theorem w_ripe : about1.ripe theMethod args0 below0 = true := by decide +kernel
theorem w_running : about1.status = .running := rfl
set_option maxRecDepth 65536 in
theorem w_room : about1.hasRoom e0.platform room_1 = true :=
  launch0.hasRoom_least _ room_1 (by decide +kernel) (by decide +kernel) (by decide +kernel) (by decide +kernel) (by decide +kernel) (by decide +kernel)
theorem allAtoms_all (ts : List Jvm.Cond) (a : Array Jvm.Value) (st : Jvm.State) : (allAtoms ts).before a st = ts.all (fun c => c.before a st) := by
  induction ts with
  | nil => rfl
  | cons c t ih =>
    show (Jvm.Cond.and c (allAtoms t)).before a st = _
    rw [Jvm.Cond.before_and, ih, List.all_cons]
def words1 : List Jvm.Cond := Jvm.Cond.code x code maxLocals ret :: tables_1
/-- a 'code' word, met by the world's own term for the bytes: nothing is compared byte by byte -/
theorem code_word {y : MethodName} {bytes : ByteArray} {mx : Nat} {rt : Option FieldType} {a : Array Value} {s : State} {m : MethodId} {meth : Method} {c : Code} (h1 : s.methodNamed? y = some m) (h2 : s.vm.method? m = some meth) (h3 : meth.code = some c) (h4 : c.code = bytes)
    (h5 : (c.maxLocals == mx && c.exceptionTable.isEmpty && decide (c.maxStack ≤ mostOperands) && decide (meth.sig.returnType = rt) && !meth.locks && decide (parseMethodDescriptor y.desc = some meth.sig)) = true) : (Jvm.Cond.code y bytes mx rt).before a s = true := by
  simp only [Bool.and_eq_true, beq_iff_eq, Bool.not_eq_true', decide_eq_true_eq] at h5
  obtain ⟨⟨⟨⟨⟨g1, g2⟩, g3⟩, g4⟩, g5⟩, g6⟩ := h5
  simp [Cond.before, Cond.holds, Cond.value, h1, h2, h3, h4, g1, g2, g3, g4, g5, g6]
def isCode : Jvm.Cond → Bool
  | .code _ _ _ _ => true
  | _ => false
theorem all_split {L : List Jvm.Cond} {P : Jvm.Cond → Bool} (h1 : L.all (fun c => isCode c || P c) = true) (h2 : ∀ c ∈ L.filter isCode, P c = true) : L.all P = true := by
  refine List.all_eq_true.mpr fun c hc => ?_
  have h := List.all_eq_true.mp h1 c hc
  rcases Bool.eq_false_or_eq_true (isCode c) with hi | hi
  · exact h2 c (List.mem_filter.mpr ⟨hc, hi⟩)
  · simpa [hi] using h
set_option maxRecDepth 65536 in
theorem w_c0 : (Jvm.Cond.code x code maxLocals ret).before args0 about1 = true := code_word (m := ⟨1, 2⟩) (meth := k1m2) (c := k1c2) (by decide +kernel) rfl rfl rfl (by decide +kernel)
set_option maxRecDepth 65536 in
theorem w_c1 : (Jvm.Cond.code ({ cls := "com/example/orlok/orlok/DeadlineAfterPinLaw", name := "pickLease", desc := "(IJ)J" } : Jvm.MethodName) method_2_code (6 : Nat) (Option.some Jvm.ClassFile.FieldType.long)).before args0 about1 = true := code_word (m := ⟨1, 1⟩) (meth := k1m1) (c := k1c1) (by decide +kernel) rfl rfl rfl (by decide +kernel)
set_option maxRecDepth 65536 in
theorem w_c2 : (Jvm.Cond.code ({ cls := "com/example/orlok/orlok/Deadline", name := "after", desc := "(JJ)Lcom/example/orlok/orlok/Deadline;" } : Jvm.MethodName) prog_1_method_2_code (4 : Nat) (Option.some (Jvm.ClassFile.FieldType.object "com/example/orlok/orlok/Deadline"))).before args0 about1 = true := code_word (m := ⟨2, 1⟩) (meth := k2m1) (c := k2c1) (by decide +kernel) rfl rfl rfl (by decide +kernel)
set_option maxRecDepth 65536 in
theorem w_c3 : (Jvm.Cond.code ({ cls := "java/util/concurrent/TimeUnit", name := "toNanos", desc := "(J)J" } : Jvm.MethodName) jdk_2799_method_7_code (7 : Nat) (Option.some Jvm.ClassFile.FieldType.long)).before args0 about1 = true := code_word (m := ⟨7, 0⟩) (meth := k7m0) (c := k7c0) (by decide +kernel) rfl rfl rfl (by decide +kernel)
set_option maxRecDepth 65536 in
theorem w_c4 : (Jvm.Cond.code ({ cls := "com/example/orlok/orlok/Deadline", name := "<init>", desc := "(JJ)V" } : Jvm.MethodName) prog_1_method_1_code (5 : Nat) (Option.none : Option Jvm.ClassFile.FieldType)).before args0 about1 = true := code_word (m := ⟨2, 0⟩) (meth := k2m0) (c := k2c0) (by decide +kernel) rfl rfl rfl (by decide +kernel)
set_option maxRecDepth 65536 in
theorem w_c5 : (Jvm.Cond.code ({ cls := "java/lang/Object", name := "<init>", desc := "()V" } : Jvm.MethodName) object_method_1_code (1 : Nat) (Option.none : Option Jvm.ClassFile.FieldType)).before args0 about1 = true := code_word (m := ⟨0, 0⟩) (meth := k0m0) (c := k0c0) (by decide +kernel) rfl rfl rfl (by decide +kernel)
set_option maxRecDepth 65536 in
theorem w_c6 : (Jvm.Cond.code ({ cls := "com/example/orlok/orlok/Deadline", name := "nanosLeftAt", desc := "(J)J" } : Jvm.MethodName) prog_1_method_4_code (3 : Nat) (Option.some Jvm.ClassFile.FieldType.long)).before args0 about1 = true := code_word (m := ⟨2, 2⟩) (meth := k2m2) (c := k2c2) (by decide +kernel) rfl rfl rfl (by decide +kernel)
def codes1 : List Jvm.Cond := [Jvm.Cond.code x code maxLocals ret, Jvm.Cond.code ({ cls := "com/example/orlok/orlok/DeadlineAfterPinLaw", name := "pickLease", desc := "(IJ)J" } : Jvm.MethodName) method_2_code (6 : Nat) (Option.some Jvm.ClassFile.FieldType.long), Jvm.Cond.code ({ cls := "com/example/orlok/orlok/Deadline", name := "after", desc := "(JJ)Lcom/example/orlok/orlok/Deadline;" } : Jvm.MethodName) prog_1_method_2_code (4 : Nat) (Option.some (Jvm.ClassFile.FieldType.object "com/example/orlok/orlok/Deadline")), Jvm.Cond.code ({ cls := "java/util/concurrent/TimeUnit", name := "toNanos", desc := "(J)J" } : Jvm.MethodName) jdk_2799_method_7_code (7 : Nat) (Option.some Jvm.ClassFile.FieldType.long), Jvm.Cond.code ({ cls := "com/example/orlok/orlok/Deadline", name := "<init>", desc := "(JJ)V" } : Jvm.MethodName) prog_1_method_1_code (5 : Nat) (Option.none : Option Jvm.ClassFile.FieldType), Jvm.Cond.code ({ cls := "java/lang/Object", name := "<init>", desc := "()V" } : Jvm.MethodName) object_method_1_code (1 : Nat) (Option.none : Option Jvm.ClassFile.FieldType), Jvm.Cond.code ({ cls := "com/example/orlok/orlok/Deadline", name := "nanosLeftAt", desc := "(J)J" } : Jvm.MethodName) prog_1_method_4_code (3 : Nat) (Option.some Jvm.ClassFile.FieldType.long)]
set_option maxRecDepth 65536 in
theorem codes_eq : words1.filter isCode = codes1 := rfl
theorem w_codes : ∀ c ∈ words1.filter isCode, c.before args0 about1 = true := by
  rw [codes_eq]
  intro c hc
  simp only [codes1, List.mem_cons, List.not_mem_nil, or_false] at hc
  rcases hc with rfl | rfl | rfl | rfl | rfl | rfl | rfl
  · exact w_c0
  · exact w_c1
  · exact w_c2
  · exact w_c3
  · exact w_c4
  · exact w_c5
  · exact w_c6
set_option maxRecDepth 65536 in
theorem w_t1 : (words1.take 24).all (fun c => isCode c || c.before args0 about1) = true := by decide +kernel
set_option maxRecDepth 65536 in
theorem w_t2 : (words1.drop 24).all (fun c => isCode c || c.before args0 about1) = true := by decide +kernel
theorem w_tables : (allAtoms (Jvm.Cond.code x code maxLocals ret :: tables_1)).before args0 about1 = true := by
  rw [allAtoms_all]
  show words1.all (fun c => c.before args0 about1) = true
  refine all_split ?_ w_codes
  rw [← List.take_append_drop 24 words1, List.all_append, w_t1, w_t2]
  rfl
set_option maxRecDepth 65536 in
theorem w_rest : rest_1_c.before args0 about1 = true := by decide +kernel
set_option maxRecDepth 65536 in
theorem w_case : (Jvm.Cond.and given_1 narrow_1).before args0 about1 = true := by decide +kernel
theorem w_applies : (headSpec (Jvm.Cond.code x code maxLocals ret :: tables_1) room_1).applies x e0.platform about1 = true :=
  (Spec.applies_iff w_frames).mpr ⟨w_running, w_runnable, w_alone, w_named, w_hears, w_ripe, w_room, w_tables⟩
theorem atStart : AtStart classFile x code maxLocals ret World_1 tables_1 room_1 Calls_1 rest_1 Pre_1 launch0 p0 e0 about1 theMethod args0 below0 :=
  ⟨lists_1, trivial, launch0.admits_env _ _ _, launch0.least_env, fairChoices_fair.cas, fairChoices_fair.clock, w_frames, w_args, w_heap, w_applies, trivial, w_rest, w_case⟩
end start1
theorem witness_1 : WitnessClaimed_1 := ⟨start1.p0, start1.e0, start1.about1, start1.theMethod, start1.args0, start1.below0, start1.atStart⟩
end Jvm.Pilot.@@N@@
