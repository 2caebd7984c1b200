import JvmDerived
import JvmDerived.Pilot.@@N@@Statement
import JvmDerived.Pilot.@@N@@Code
set_option linter.unusedVariables false
set_option linter.unusedSimpArgs false
namespace Jvm.RoadKit
open Sem ClassFile Op Lib Jvm.Stand Jvm.Free Jvm.LawKit
section New
variable {p : Program} {l : Launch} {e : Env} {R : Room} {s : State} {m : MethodId} {args : Array Value} {below : List Frame} {meth : Method} {c : Code} {T : State} {locs : List Loc} {cells slots : Nat}
theorem retI (X : Stand p l e R s m args below meth c T locs cells slots) (hx : p.tables.exec = Jvm.exec) {pc : Nat} {Ls : Array Slot} {z : Int32} {rest : List Value} (hret : meth.sig.returnType = some .int) (hd : decode c.code pc = .ok (.ireturn, 1)) {fs : List Frame}
    (hl : ∀ (f : JFrame) (acts : List Action), f.method = m → f.locked = none → f.entered = [] → (doReturn e (T.setTop f) acts (some (.int z))).1 = T.setFrames fs) : Steps p.tables e below (T.setTop (mkF m pc Ls (.int z :: rest))) (T.setFrames fs) := by
  have hm' : T.vm.method? m = some meth := X.method'
  have hn : narrow .int (.int z) = .int z := rfl
  show Steps p.tables e below (T.setTop { method := m, pc := pc, locals := Ls, stack := _ :: rest, locked := none }) _
  jvm_step X.here [X.here.top, hx, hd, hm', hret, hn]
  first | (intro acts; rw [hl _ acts rfl rfl rfl]) | rw [hl _ _ rfl rfl rfl]
  exact Steps.refl _
end New
end Jvm.RoadKit
namespace Jvm.Pilot.@@N@@
open Jvm Jvm.ClassFile Sem Op Lib Jvm.Free Jvm.Stand Jvm.LawKit Jvm.RoadKit Bundle Jvm.Pilot.@@N@@.Jvm.D
def own_chk (s c : Int64) : Int32 := if s = c then 1 else 0
theorem own_ne {a d : Int64} (h : ¬ d = 0) : ¬ a + d = a := fun e => by
  have h1 := c_ladd a d
  have r1 := rng64 a
  have r2 := rng64 d
  rw [e] at h1
  have h2 : d.toInt = 0 := by omega
  exact h (Int64.toInt_inj.mp (h2.trans (by decide)))
theorem d2_0 : decode jdk_30_method_1_code 0 = .ok (.aload_n 0, 1) := by decide +kernel
theorem d2_1 : decode jdk_30_method_1_code 1 = .ok (.invokespecial 1, 3) := by decide +kernel
theorem d2_4 : decode jdk_30_method_1_code 4 = .ok (.return_, 1) := by decide +kernel
theorem pn_2 : plainName "java/lang/Record" = true := by first | (simp [plainName, overriddenIn]; done) | decide +kernel
theorem ef_2 (m : MethodId) (x0 : Addr) : entryFrame m #[(.ref x0)] 1 = mkF m 0 #[.val (.ref x0)] [] := by first | (simp [entryFrame, mkF, argsToLocals, Value.category]; done) | rfl
def Q2 (Z : State) (a1 : Addr) (h0 : Heap) (n0 : Nat) (v : Option Value) (h : Heap) (L : List Loc) : Prop := v = none ∧ Fr n0 L ∧ h = h0
set_option maxRecDepth 65536 in
set_option maxHeartbeats 40000000 in
theorem rm2 (l : Launch) (Z : State) (a0 : Array Value) (hw : ∀ d ∈ tables_1, d.before a0 Z = true) (ws : List Jvm.Cond) (a1 : Addr) (h0 : Heap) (n0 : Nat) (Z0 : n0 ≤ h0.size) :
    MetFree l (⟨"java/lang/Record", "<init>", "()V"⟩ : MethodName) (head1 (Jvm.Cond.code (⟨"java/lang/Record", "<init>", "()V"⟩ : MethodName) jdk_30_method_1_code 1 none :: ws) ({ frames := 1, cells := 0, slots := 0, locals := 12 } : Room)) (fun a U => a = #[(.ref a1)] ∧ Z.Warmed39 U.vm ∧ U.heap = h0) (fun _ _ _ _ _ => True) (fun _ U o U' => ∃ v L, o = .returned v ∧ Q2 Z a1 h0 n0 v U'.heap L ∧ FrameEnd U o U' L ({ frames := 1, cells := 0, slots := 0, locals := 12 } : Room).cells ({ frames := 1, cells := 0, slots := 0, locals := 12 } : Room).slots) := by
  refine MetFree.of_bodySF (plainFor_of_name pn_2) hisR ?_
  intro p e s m args below meth c s₁ Bd hml0 hP hK
  obtain ⟨rfl, hZ, hh⟩ := hP
  have hx := Bd.exec
  have hby := Bd.bytes
  have hml : c.maxLocals = 1 := hml0
  have hown : s.vm.findClass "java/lang/Record" = some m.cls := findClass_of_methodNamed Bd.named
  have hnm := (name_of_methodNamed Bd.named Bd.method).1
  have X0 : Stand p l e ({ frames := 1, cells := 0, slots := 0, locals := 12 } : Room) s m #[(.ref a1)] below meth c s₁ [] 0 0 := Stand.of_body Bd
  have e0 : s₁.heap = h0 := by rw [← hh, Bd.state]; rfl
  have N0 := Fr.nil n0
  have pre0 : ∀ t, Steps p.tables e below (s₁.setTop (mkF m 0 #[.val (.ref a1)] [])) t → Steps p.tables e below (s₁.setTop (entryFrame m #[(.ref a1)] 1)) t := fun t k => castTop (ef_2 m a1) k
  obtain ⟨T2, X2, e2, st2⟩ := initO X0 hx hZ hown (hw _ (List.mem_of_getElem? (i := 11) rfl)) (hw _ (List.mem_of_getElem? (i := 12) rfl)) (hw _ (List.mem_of_getElem? (i := 13) rfl)) e0 (g := (mkF m 1 #[.val (.ref a1)] [(.ref a1)])) rfl (by rw [hml]; rfl) rfl (hb hby d2_1) (by decide) (W := 0) (by show 2 * 0 + _ ≤ _; exact Nat.le_of_eq rfl) (by decide)
  obtain ⟨fs, hr, hrun, hended, hW, hsame⟩ := X2.leave (v := none) (fun _ => rfl)
  refine ⟨_, _, pre0 _ ?_, hrun, hended, _, _, rfl, ?_, ⟨_, rfl⟩, hW, hsame.mono (by decide) (by decide)⟩
  · show Steps p.tables e below (s₁.setTop (mkF m 0 #[.val (.ref a1)] [])) _
    refine XS.aloadN X0.here hx rfl (hb hby d2_0) rfl rfl ?_
    show Steps p.tables e below (s₁.setTop (mkF m 1 #[.val (.ref a1)] [(.ref a1)])) _
    refine st2 _ ?_
    show Steps p.tables e below (T2.setTop (mkF m 4 #[.val (.ref a1)] [])) _
    exact X2.returnOut hx Bd.returns (hb hby d2_4) hr
  · show Q2 Z a1 h0 n0 _ T2.heap _
    rw [e2]
    exact ⟨rfl, N0, rfl⟩
theorem d1_0 : decode prog_31_method_1_code 0 = .ok (.aload_n 0, 1) := by decide +kernel
theorem d1_1 : decode prog_31_method_1_code 1 = .ok (.invokespecial 1, 3) := by decide +kernel
theorem d1_4 : decode prog_31_method_1_code 4 = .ok (.aload_n 0, 1) := by decide +kernel
theorem d1_5 : decode prog_31_method_1_code 5 = .ok (.lload_n 1, 1) := by decide +kernel
theorem d1_6 : decode prog_31_method_1_code 6 = .ok (.putfield 7, 3) := by decide +kernel
theorem d1_9 : decode prog_31_method_1_code 9 = .ok (.aload_n 0, 1) := by decide +kernel
theorem d1_10 : decode prog_31_method_1_code 10 = .ok (.lload_n 3, 1) := by decide +kernel
theorem d1_11 : decode prog_31_method_1_code 11 = .ok (.putfield 13, 3) := by decide +kernel
theorem d1_14 : decode prog_31_method_1_code 14 = .ok (.aload_n 0, 1) := by decide +kernel
theorem d1_15 : decode prog_31_method_1_code 15 = .ok (.lload 5, 2) := by decide +kernel
theorem d1_17 : decode prog_31_method_1_code 17 = .ok (.putfield 16, 3) := by decide +kernel
theorem d1_20 : decode prog_31_method_1_code 20 = .ok (.aload_n 0, 1) := by decide +kernel
theorem d1_21 : decode prog_31_method_1_code 21 = .ok (.lload 7, 2) := by decide +kernel
theorem d1_23 : decode prog_31_method_1_code 23 = .ok (.putfield 19, 3) := by decide +kernel
theorem d1_26 : decode prog_31_method_1_code 26 = .ok (.return_, 1) := by decide +kernel
theorem pn_1 : plainName "org/sluice/bench/Measurement" = true := by first | (simp [plainName, overriddenIn]; done) | decide +kernel
theorem pd_1_1 : parseMethodDescriptor "()V" = some ⟨[], none⟩ := by decide +kernel
theorem ef_1 (m : MethodId) (x0 : Addr) (x1 : Int64) (x2 : Int64) (x3 : Int64) (x4 : Int64) : entryFrame m #[(.ref x0), (.long x1), (.long x2), (.long x3), (.long x4)] 9 = mkF m 0 #[.val (.ref x0), .val (.long x1), .second, .val (.long x2), .second, .val (.long x3), .second, .val (.long x4), .second] [] := by first | (simp [entryFrame, mkF, argsToLocals, Value.category]; done) | rfl
def Q1 (Z : State) (a1 : Addr) (q2 : Int64) (q3 : Int64) (q4 : Int64) (q5 : Int64) (u_measuredOps_a1 : Value) (u_windowNanos_a1 : Value) (u_countedOps_a1 : Value) (u_sharedCount_a1 : Value) (h0 : Heap) (n0 : Nat) (v : Option Value) (h : Heap) (L : List Loc) : Prop := v = none ∧ Fr n0 L ∧ Keep h0 h [a1] ∧ Fld Z h a1 "org/sluice/bench/Measurement" "countedOps" "J" (.long q4) ∧ Fld Z h a1 "org/sluice/bench/Measurement" "sharedCount" "J" (.long q5)
set_option maxRecDepth 65536 in
set_option maxHeartbeats 40000000 in
theorem rm1 (l : Launch) (Z : State) (a0 : Array Value) (hw : ∀ d ∈ tables_1, d.before a0 Z = true) (ws : List Jvm.Cond) (a1 : Addr) (q2 : Int64) (q3 : Int64) (q4 : Int64) (q5 : Int64) (u_measuredOps_a1 : Value) (u_windowNanos_a1 : Value) (u_countedOps_a1 : Value) (u_sharedCount_a1 : Value) (h0 : Heap) (n0 : Nat) (Z0 : n0 ≤ h0.size) (E_a1 : Exa Z h0 a1 "org/sluice/bench/Measurement") (F_measuredOps_a1 : Fld Z h0 a1 "org/sluice/bench/Measurement" "measuredOps" "J" u_measuredOps_a1) (g_a1 : n0 ≤ a1) (F_windowNanos_a1 : Fld Z h0 a1 "org/sluice/bench/Measurement" "windowNanos" "J" u_windowNanos_a1) (F_countedOps_a1 : Fld Z h0 a1 "org/sluice/bench/Measurement" "countedOps" "J" u_countedOps_a1) (F_sharedCount_a1 : Fld Z h0 a1 "org/sluice/bench/Measurement" "sharedCount" "J" u_sharedCount_a1) :
    MetFree l (⟨"org/sluice/bench/Measurement", "<init>", "(JJJJ)V"⟩ : MethodName) (head1 (Jvm.Cond.code (⟨"org/sluice/bench/Measurement", "<init>", "(JJJJ)V"⟩ : MethodName) prog_31_method_1_code 9 none :: ws) ({ frames := 2, cells := 0, slots := 0, locals := 24 } : Room)) (fun a U => a = #[(.ref a1), (.long q2), (.long q3), (.long q4), (.long q5)] ∧ Z.Warmed39 U.vm ∧ U.heap = h0) (fun _ _ _ _ _ => True) (fun _ U o U' => ∃ v L, o = .returned v ∧ Q1 Z a1 q2 q3 q4 q5 u_measuredOps_a1 u_windowNanos_a1 u_countedOps_a1 u_sharedCount_a1 h0 n0 v U'.heap L ∧ FrameEnd U o U' L ({ frames := 2, cells := 0, slots := 0, locals := 24 } : Room).cells ({ frames := 2, cells := 0, slots := 0, locals := 24 } : Room).slots) := by
  refine MetFree.of_bodySF (plainFor_of_name pn_1) hisR ?_
  intro p e s m args below meth c s₁ Bd hml0 hP hK
  obtain ⟨rfl, hZ, hh⟩ := hP
  have hx := Bd.exec
  have hby := Bd.bytes
  have hml : c.maxLocals = 9 := hml0
  have hown : s.vm.findClass "org/sluice/bench/Measurement" = some m.cls := findClass_of_methodNamed Bd.named
  have hnm := (name_of_methodNamed Bd.named Bd.method).1
  have X0 : Stand p l e ({ frames := 2, cells := 0, slots := 0, locals := 24 } : Room) s m #[(.ref a1), (.long q2), (.long q3), (.long q4), (.long q5)] below meth c s₁ [] 0 0 := Stand.of_body Bd
  have e0 : s₁.heap = h0 := by rw [← hh, Bd.state]; rfl
  have N0 := Fr.nil n0
  have pre0 : ∀ t, Steps p.tables e below (s₁.setTop (mkF m 0 #[.val (.ref a1), .val (.long q2), .second, .val (.long q3), .second, .val (.long q4), .second, .val (.long q5), .second] [])) t → Steps p.tables e below (s₁.setTop (entryFrame m #[(.ref a1), (.long q2), (.long q3), (.long q4), (.long q5)] 9)) t := fun t k => castTop (ef_1 m a1 q2 q3 q4 q5) k
  obtain ⟨_, _, ⟨T6, L6, k6, n6⟩, -, X6, ⟨Lc6, hQ6, l6, y6, z6⟩, st6⟩ := X0.specialBack hx (y := (⟨"java/lang/Record", "<init>", "()V"⟩ : MethodName)) rfl hown (mvT hZ (hw _ (List.mem_of_getElem? (i := 6) rfl))) (mvT hZ (hw _ (List.mem_of_getElem? (i := 7) rfl))) (mvT hZ (hw _ (List.mem_of_getElem? (i := 10) rfl))) (by decide) (backOf (W := 0) (rm2 l Z a0 hw [] a1 h0 n0 Z0) hZ (hw _ (List.mem_of_getElem? (i := 10) rfl)) (hw _ (List.mem_of_getElem? (i := 9) rfl)) (by decide) (by decide)) (g := (mkF m 1 #[.val (.ref a1), .val (.long q2), .second, .val (.long q3), .second, .val (.long q4), .second, .val (.long q5), .second] [(.ref a1)])) rfl (by rw [hml]; rfl) (Steps.refl _) (a := a1) (argsL := []) (rest := []) (lenOf pd_1_1 rfl) rfl (by show 2 * 0 + _ ≤ _; exact Nat.le_of_eq rfl) (hb hby d1_1) (fun _ _ => ⟨rfl, e0, (by decide : 0 + 0 ≤ _), (by decide : 0 + 0 ≤ _)⟩)
  dsimp only [Pt.U, Pt.locs, Pt.cells, Pt.slots] at X6 l6 y6 z6 st6 hQ6
  subst l6 y6 z6
  obtain ⟨rfl, N6q, e6q⟩ := hQ6
  have K6q : Keep h0 T6.heap [] := by rw [e6q]; exact Keep.refl _ _
  have K6a : Keep h0 T6.heap [a1] := by rw [e6q]; exact Keep.refl _ _
  have N6 := Fr.app N0 N6q
  obtain ⟨T7, h7, X7, e7, W7, st7⟩ := putF X6 hx hZ hown (host := "") (Or.inl (hw _ (List.mem_of_getElem? (i := 14) rfl))) Via.refl rfl (F_measuredOps_a1.keep K6q nin0) (E_a1.keep K6q) (Or.inr ⟨(hw _ (List.mem_of_getElem? (i := 15) rfl)), rfl, hnm⟩) (hw _ (List.mem_of_getElem? (i := 1) rfl)) (ty := .long) (by decide) rfl rfl (g := (mkF m 6 #[.val (.ref a1), .val (.long q2), .second, .val (.long q3), .second, .val (.long q4), .second, .val (.long q5), .second] [(.long q2), (.ref a1)])) rfl rfl (hb hby d1_6)
  have Fw7 := (F_measuredOps_a1.keep K6q nin0).same W7
  have K7 : Keep h0 h7 [a1] := K6a.wr W7 (Or.inl (List.mem_of_getElem? (i := 0) rfl))
  have N7 := Fr.snoc X7 N6 g_a1
  obtain ⟨T8, h8, X8, e8, W8, st8⟩ := putF X7 hx hZ hown (host := "") (Or.inl (hw _ (List.mem_of_getElem? (i := 16) rfl))) Via.refl e7 ((F_windowNanos_a1.keep K6q nin0).other W7 (Or.inr (slot_ne (Or.inr (hw _ (List.mem_of_getElem? (i := 17) rfl))) (Or.inr (hw _ (List.mem_of_getElem? (i := 15) rfl))) (by decide) (t := .long) (t' := .long) (by decide) (by decide)))) ((E_a1.keep K6q).wr W7) (Or.inr ⟨(hw _ (List.mem_of_getElem? (i := 17) rfl)), rfl, hnm⟩) (hw _ (List.mem_of_getElem? (i := 1) rfl)) (ty := .long) (by decide) rfl rfl (g := (mkF m 11 #[.val (.ref a1), .val (.long q2), .second, .val (.long q3), .second, .val (.long q4), .second, .val (.long q5), .second] [(.long q3), (.ref a1)])) rfl rfl (hb hby d1_11)
  have Fw8 := ((F_windowNanos_a1.keep K6q nin0).other W7 (Or.inr (slot_ne (Or.inr (hw _ (List.mem_of_getElem? (i := 17) rfl))) (Or.inr (hw _ (List.mem_of_getElem? (i := 15) rfl))) (by decide) (t := .long) (t' := .long) (by decide) (by decide)))).same W8
  have K8 : Keep h0 h8 [a1] := K7.wr W8 (Or.inl (List.mem_of_getElem? (i := 0) rfl))
  have N8 := Fr.snoc X8 N7 g_a1
  obtain ⟨T9, h9, X9, e9, W9, st9⟩ := putF X8 hx hZ hown (host := "") (Or.inl (hw _ (List.mem_of_getElem? (i := 18) rfl))) Via.refl e8 (((F_countedOps_a1.keep K6q nin0).other W7 (Or.inr (slot_ne (Or.inr (hw _ (List.mem_of_getElem? (i := 19) rfl))) (Or.inr (hw _ (List.mem_of_getElem? (i := 15) rfl))) (by decide) (t := .long) (t' := .long) (by decide) (by decide)))).other W8 (Or.inr (slot_ne (Or.inr (hw _ (List.mem_of_getElem? (i := 19) rfl))) (Or.inr (hw _ (List.mem_of_getElem? (i := 17) rfl))) (by decide) (t := .long) (t' := .long) (by decide) (by decide)))) (((E_a1.keep K6q).wr W7).wr W8) (Or.inr ⟨(hw _ (List.mem_of_getElem? (i := 19) rfl)), rfl, hnm⟩) (hw _ (List.mem_of_getElem? (i := 1) rfl)) (ty := .long) (by decide) rfl rfl (g := (mkF m 17 #[.val (.ref a1), .val (.long q2), .second, .val (.long q3), .second, .val (.long q4), .second, .val (.long q5), .second] [(.long q4), (.ref a1)])) rfl rfl (hb hby d1_17)
  have Fw9 := (((F_countedOps_a1.keep K6q nin0).other W7 (Or.inr (slot_ne (Or.inr (hw _ (List.mem_of_getElem? (i := 19) rfl))) (Or.inr (hw _ (List.mem_of_getElem? (i := 15) rfl))) (by decide) (t := .long) (t' := .long) (by decide) (by decide)))).other W8 (Or.inr (slot_ne (Or.inr (hw _ (List.mem_of_getElem? (i := 19) rfl))) (Or.inr (hw _ (List.mem_of_getElem? (i := 17) rfl))) (by decide) (t := .long) (t' := .long) (by decide) (by decide)))).same W9
  have K9 : Keep h0 h9 [a1] := K8.wr W9 (Or.inl (List.mem_of_getElem? (i := 0) rfl))
  have N9 := Fr.snoc X9 N8 g_a1
  obtain ⟨T10, h10, X10, e10, W10, st10⟩ := putF X9 hx hZ hown (host := "") (Or.inl (hw _ (List.mem_of_getElem? (i := 20) rfl))) Via.refl e9 ((((F_sharedCount_a1.keep K6q nin0).other W7 (Or.inr (slot_ne (Or.inr (hw _ (List.mem_of_getElem? (i := 21) rfl))) (Or.inr (hw _ (List.mem_of_getElem? (i := 15) rfl))) (by decide) (t := .long) (t' := .long) (by decide) (by decide)))).other W8 (Or.inr (slot_ne (Or.inr (hw _ (List.mem_of_getElem? (i := 21) rfl))) (Or.inr (hw _ (List.mem_of_getElem? (i := 17) rfl))) (by decide) (t := .long) (t' := .long) (by decide) (by decide)))).other W9 (Or.inr (slot_ne (Or.inr (hw _ (List.mem_of_getElem? (i := 21) rfl))) (Or.inr (hw _ (List.mem_of_getElem? (i := 19) rfl))) (by decide) (t := .long) (t' := .long) (by decide) (by decide)))) ((((E_a1.keep K6q).wr W7).wr W8).wr W9) (Or.inr ⟨(hw _ (List.mem_of_getElem? (i := 21) rfl)), rfl, hnm⟩) (hw _ (List.mem_of_getElem? (i := 1) rfl)) (ty := .long) (by decide) rfl rfl (g := (mkF m 23 #[.val (.ref a1), .val (.long q2), .second, .val (.long q3), .second, .val (.long q4), .second, .val (.long q5), .second] [(.long q5), (.ref a1)])) rfl rfl (hb hby d1_23)
  have Fw10 := ((((F_sharedCount_a1.keep K6q nin0).other W7 (Or.inr (slot_ne (Or.inr (hw _ (List.mem_of_getElem? (i := 21) rfl))) (Or.inr (hw _ (List.mem_of_getElem? (i := 15) rfl))) (by decide) (t := .long) (t' := .long) (by decide) (by decide)))).other W8 (Or.inr (slot_ne (Or.inr (hw _ (List.mem_of_getElem? (i := 21) rfl))) (Or.inr (hw _ (List.mem_of_getElem? (i := 17) rfl))) (by decide) (t := .long) (t' := .long) (by decide) (by decide)))).other W9 (Or.inr (slot_ne (Or.inr (hw _ (List.mem_of_getElem? (i := 21) rfl))) (Or.inr (hw _ (List.mem_of_getElem? (i := 19) rfl))) (by decide) (t := .long) (t' := .long) (by decide) (by decide)))).same W10
  have K10 : Keep h0 h10 [a1] := K9.wr W10 (Or.inl (List.mem_of_getElem? (i := 0) rfl))
  have N10 := Fr.snoc X10 N9 g_a1
  obtain ⟨fs, hr, hrun, hended, hW, hsame⟩ := X10.leave (v := none) (fun _ => rfl)
  refine ⟨_, _, pre0 _ ?_, hrun, hended, _, _, rfl, ?_, ⟨_, rfl⟩, hW, hsame.mono (by decide) (by decide)⟩
  · show Steps p.tables e below (s₁.setTop (mkF m 0 #[.val (.ref a1), .val (.long q2), .second, .val (.long q3), .second, .val (.long q4), .second, .val (.long q5), .second] [])) _
    refine XS.aloadN X0.here hx rfl (hb hby d1_0) rfl rfl ?_
    show Steps p.tables e below (s₁.setTop (mkF m 1 #[.val (.ref a1), .val (.long q2), .second, .val (.long q3), .second, .val (.long q4), .second, .val (.long q5), .second] [(.ref a1)])) _
    refine st6.trans ?_
    show Steps p.tables e below (T6.setTop (mkF m 4 #[.val (.ref a1), .val (.long q2), .second, .val (.long q3), .second, .val (.long q4), .second, .val (.long q5), .second] [])) _
    refine XS.aloadN X6.here hx rfl (hb hby d1_4) rfl rfl ?_
    show Steps p.tables e below (T6.setTop (mkF m 5 #[.val (.ref a1), .val (.long q2), .second, .val (.long q3), .second, .val (.long q4), .second, .val (.long q5), .second] [(.ref a1)])) _
    refine XS.lloadN X6.here hx rfl (hb hby d1_5) rfl ?_
    show Steps p.tables e below (T6.setTop (mkF m 6 #[.val (.ref a1), .val (.long q2), .second, .val (.long q3), .second, .val (.long q4), .second, .val (.long q5), .second] [(.long q2), (.ref a1)])) _
    refine st7 _ ?_
    show Steps p.tables e below (T7.setTop (mkF m 9 #[.val (.ref a1), .val (.long q2), .second, .val (.long q3), .second, .val (.long q4), .second, .val (.long q5), .second] [])) _
    refine XS.aloadN X7.here hx rfl (hb hby d1_9) rfl rfl ?_
    show Steps p.tables e below (T7.setTop (mkF m 10 #[.val (.ref a1), .val (.long q2), .second, .val (.long q3), .second, .val (.long q4), .second, .val (.long q5), .second] [(.ref a1)])) _
    refine XS.lloadN X7.here hx rfl (hb hby d1_10) rfl ?_
    show Steps p.tables e below (T7.setTop (mkF m 11 #[.val (.ref a1), .val (.long q2), .second, .val (.long q3), .second, .val (.long q4), .second, .val (.long q5), .second] [(.long q3), (.ref a1)])) _
    refine st8 _ ?_
    show Steps p.tables e below (T8.setTop (mkF m 14 #[.val (.ref a1), .val (.long q2), .second, .val (.long q3), .second, .val (.long q4), .second, .val (.long q5), .second] [])) _
    refine XS.aloadN X8.here hx rfl (hb hby d1_14) rfl rfl ?_
    show Steps p.tables e below (T8.setTop (mkF m 15 #[.val (.ref a1), .val (.long q2), .second, .val (.long q3), .second, .val (.long q4), .second, .val (.long q5), .second] [(.ref a1)])) _
    refine XS.lload X8.here hx rfl (hb hby d1_15) rfl ?_
    show Steps p.tables e below (T8.setTop (mkF m 17 #[.val (.ref a1), .val (.long q2), .second, .val (.long q3), .second, .val (.long q4), .second, .val (.long q5), .second] [(.long q4), (.ref a1)])) _
    refine st9 _ ?_
    show Steps p.tables e below (T9.setTop (mkF m 20 #[.val (.ref a1), .val (.long q2), .second, .val (.long q3), .second, .val (.long q4), .second, .val (.long q5), .second] [])) _
    refine XS.aloadN X9.here hx rfl (hb hby d1_20) rfl rfl ?_
    show Steps p.tables e below (T9.setTop (mkF m 21 #[.val (.ref a1), .val (.long q2), .second, .val (.long q3), .second, .val (.long q4), .second, .val (.long q5), .second] [(.ref a1)])) _
    refine XS.lload X9.here hx rfl (hb hby d1_21) rfl ?_
    show Steps p.tables e below (T9.setTop (mkF m 23 #[.val (.ref a1), .val (.long q2), .second, .val (.long q3), .second, .val (.long q4), .second, .val (.long q5), .second] [(.long q5), (.ref a1)])) _
    refine st10 _ ?_
    show Steps p.tables e below (T10.setTop (mkF m 26 #[.val (.ref a1), .val (.long q2), .second, .val (.long q3), .second, .val (.long q4), .second, .val (.long q5), .second] [])) _
    exact X10.returnOut hx Bd.returns (hb hby d1_26) hr
  · show Q1 Z a1 q2 q3 q4 q5 u_measuredOps_a1 u_windowNanos_a1 u_countedOps_a1 u_sharedCount_a1 h0 n0 _ T10.heap _
    rw [e10]
    exact ⟨rfl, N10, K10, Fw9.other W10 (Or.inr (slot_ne (Or.inr (hw _ (List.mem_of_getElem? (i := 19) rfl))) (Or.inr (hw _ (List.mem_of_getElem? (i := 21) rfl))) (by decide) (t := .long) (t' := .long) (by decide) (by decide))), Fw10⟩
theorem d4_0 : decode prog_31_method_5_code 0 = .ok (.aload_n 0, 1) := by decide +kernel
theorem d4_1 : decode prog_31_method_5_code 1 = .ok (.getfield 19, 3) := by decide +kernel
theorem d4_4 : decode prog_31_method_5_code 4 = .ok (.aload_n 0, 1) := by decide +kernel
theorem d4_5 : decode prog_31_method_5_code 5 = .ok (.getfield 16, 3) := by decide +kernel
theorem d4_8 : decode prog_31_method_5_code 8 = .ok (.lcmp, 1) := by decide +kernel
theorem d4_9 : decode prog_31_method_5_code 9 = .ok (.ifCond .ne 7, 3) := by decide +kernel
theorem d4_12 : decode prog_31_method_5_code 12 = .ok (.iconst 1, 1) := by decide +kernel
theorem d4_13 : decode prog_31_method_5_code 13 = .ok (.goto 4, 3) := by decide +kernel
theorem d4_17 : decode prog_31_method_5_code 17 = .ok (.ireturn, 1) := by decide +kernel
theorem pn_4 : plainName "org/sluice/bench/Measurement" = true := by first | (simp [plainName, overriddenIn]; done) | decide +kernel
theorem ef_4 (m : MethodId) (x0 : Addr) : entryFrame m #[(.ref x0)] 1 = mkF m 0 #[.val (.ref x0)] [] := by first | (simp [entryFrame, mkF, argsToLocals, Value.category]; done) | rfl
def Q4 (Z : State) (a1 : Addr) (w2 : Int64) (w4 : Int64) (h0 : Heap) (n0 : Nat) (v : Option Value) (h : Heap) (L : List Loc) : Prop := v = some (.int (own_chk w2 w4)) ∧ Fr n0 L ∧ h = h0
set_option maxRecDepth 65536 in
set_option maxHeartbeats 40000000 in
theorem rm4_f (l : Launch) (Z : State) (a0 : Array Value) (hw : ∀ d ∈ tables_1, d.before a0 Z = true) (ws : List Jvm.Cond) (a1 : Addr) (w2 : Int64) (w4 : Int64) (h0 : Heap) (n0 : Nat) (Z0 : n0 ≤ h0.size) (F_sharedCount_a1 : Fld Z h0 a1 "org/sluice/bench/Measurement" "sharedCount" "J" (.long w2)) (F_countedOps_a1 : Fld Z h0 a1 "org/sluice/bench/Measurement" "countedOps" "J" (.long w4)) (hc9 : (lcmpW w2 w4) = (0 : Int32)) :
    MetFree l (⟨"org/sluice/bench/Measurement", "checked", "()Z"⟩ : MethodName) (head1 (Jvm.Cond.code (⟨"org/sluice/bench/Measurement", "checked", "()Z"⟩ : MethodName) prog_31_method_5_code 1 (some .boolean) :: ws) ({ frames := 0, cells := 0, slots := 0, locals := 0 } : Room)) (fun a U => a = #[(.ref a1)] ∧ Z.Warmed39 U.vm ∧ U.heap = h0) (fun _ _ _ _ _ => True) (fun _ U o U' => ∃ v L, o = .returned v ∧ Q4 Z a1 w2 w4 h0 n0 v U'.heap L ∧ FrameEnd U o U' L ({ frames := 0, cells := 0, slots := 0, locals := 0 } : Room).cells ({ frames := 0, cells := 0, slots := 0, locals := 0 } : Room).slots) := by
  refine MetFree.of_bodySF (plainFor_of_name pn_4) hisR ?_
  intro p e s m args below meth c s₁ Bd hml0 hP hK
  obtain ⟨rfl, hZ, hh⟩ := hP
  have hx := Bd.exec
  have hby := Bd.bytes
  have hml : c.maxLocals = 1 := hml0
  have hown : s.vm.findClass "org/sluice/bench/Measurement" = some m.cls := findClass_of_methodNamed Bd.named
  have hnm := (name_of_methodNamed Bd.named Bd.method).1
  have X0 : Stand p l e ({ frames := 0, cells := 0, slots := 0, locals := 0 } : Room) s m #[(.ref a1)] below meth c s₁ [] 0 0 := Stand.of_body Bd
  have e0 : s₁.heap = h0 := by rw [← hh, Bd.state]; rfl
  have N0 := Fr.nil n0
  have pre0 : ∀ t, Steps p.tables e below (s₁.setTop (mkF m 0 #[.val (.ref a1)] [])) t → Steps p.tables e below (s₁.setTop (entryFrame m #[(.ref a1)] 1)) t := fun t k => castTop (ef_4 m a1) k
  obtain ⟨T3, X3, e3, st3⟩ := getF X0 hx hZ hown (host := "") (Or.inl (hw _ (List.mem_of_getElem? (i := 20) rfl))) Via.refl e0 F_sharedCount_a1 (g := (mkF m 1 #[.val (.ref a1)] [(.ref a1)])) rfl rfl (hb hby d4_1)
  obtain ⟨T5, X5, e5, st5⟩ := getF X3 hx hZ hown (host := "") (Or.inl (hw _ (List.mem_of_getElem? (i := 18) rfl))) Via.refl e3 F_countedOps_a1 (g := (mkF m 5 #[.val (.ref a1)] [(.ref a1), (.long w2)])) rfl rfl (hb hby d4_5)
  obtain ⟨fs, hr, hrun, hended, hW, hsame⟩ := X5.leave (v := some (.int (1 : Int32))) (fun h => by rw [Bd.returns] at h; cases h)
  refine ⟨_, _, pre0 _ ?_, hrun, hended, _, _, rfl, ?_, ⟨_, rfl⟩, hW, hsame.mono (by decide) (by decide)⟩
  · show Steps p.tables e below (s₁.setTop (mkF m 0 #[.val (.ref a1)] [])) _
    refine XS.aloadN X0.here hx rfl (hb hby d4_0) rfl rfl ?_
    show Steps p.tables e below (s₁.setTop (mkF m 1 #[.val (.ref a1)] [(.ref a1)])) _
    refine st3 _ ?_
    show Steps p.tables e below (T3.setTop (mkF m 4 #[.val (.ref a1)] [(.long w2)])) _
    refine XS.aloadN X3.here hx rfl (hb hby d4_4) rfl rfl ?_
    show Steps p.tables e below (T3.setTop (mkF m 5 #[.val (.ref a1)] [(.ref a1), (.long w2)])) _
    refine st5 _ ?_
    show Steps p.tables e below (T5.setTop (mkF m 8 #[.val (.ref a1)] [(.long w4), (.long w2)])) _
    refine XS.lcmp X5.here hx rfl (hb hby d4_8) rfl ?_
    show Steps p.tables e below (T5.setTop (mkF m 9 #[.val (.ref a1)] [(.int (lcmpW w2 w4))])) _
    refine XS.ifNo X5.here hx rfl (hb hby d4_9) rfl ((if0 _ _).trans (teq hc9).2) ?_
    show Steps p.tables e below (T5.setTop (mkF m 12 #[.val (.ref a1)] [])) _
    refine XS.iconst X5.here hx rfl (hb hby d4_12) ?_
    show Steps p.tables e below (T5.setTop (mkF m 13 #[.val (.ref a1)] [(.int (1 : Int32))])) _
    refine XS.goto X5.here hx rfl (pc0 := 13) (pc' := 17) rfl (hb hby d4_13) (by decide) (by decide) ?_
    show Steps p.tables e below (T5.setTop (mkF m 17 #[.val (.ref a1)] [(.int (1 : Int32))])) _
    exact retN X5 hx (t := .boolean) Bd.returns (by simp) (hb hby d4_17) hr
  · show Q4 Z a1 w2 w4 h0 n0 _ T5.heap _
    rw [e5]
    exact ⟨by rw [own_chk, if_pos ((lw_eq _ _).mp hc9)], N0, rfl⟩
theorem d4_16 : decode prog_31_method_5_code 16 = .ok (.iconst 0, 1) := by decide +kernel
set_option maxRecDepth 65536 in
set_option maxHeartbeats 40000000 in
theorem rm4_t (l : Launch) (Z : State) (a0 : Array Value) (hw : ∀ d ∈ tables_1, d.before a0 Z = true) (ws : List Jvm.Cond) (a1 : Addr) (w2 : Int64) (w4 : Int64) (h0 : Heap) (n0 : Nat) (Z0 : n0 ≤ h0.size) (F_sharedCount_a1 : Fld Z h0 a1 "org/sluice/bench/Measurement" "sharedCount" "J" (.long w2)) (F_countedOps_a1 : Fld Z h0 a1 "org/sluice/bench/Measurement" "countedOps" "J" (.long w4)) (hc9 : ¬ ((lcmpW w2 w4) = (0 : Int32))) :
    MetFree l (⟨"org/sluice/bench/Measurement", "checked", "()Z"⟩ : MethodName) (head1 (Jvm.Cond.code (⟨"org/sluice/bench/Measurement", "checked", "()Z"⟩ : MethodName) prog_31_method_5_code 1 (some .boolean) :: ws) ({ frames := 0, cells := 0, slots := 0, locals := 0 } : Room)) (fun a U => a = #[(.ref a1)] ∧ Z.Warmed39 U.vm ∧ U.heap = h0) (fun _ _ _ _ _ => True) (fun _ U o U' => ∃ v L, o = .returned v ∧ Q4 Z a1 w2 w4 h0 n0 v U'.heap L ∧ FrameEnd U o U' L ({ frames := 0, cells := 0, slots := 0, locals := 0 } : Room).cells ({ frames := 0, cells := 0, slots := 0, locals := 0 } : Room).slots) := by
  refine MetFree.of_bodySF (plainFor_of_name pn_4) hisR ?_
  intro p e s m args below meth c s₁ Bd hml0 hP hK
  obtain ⟨rfl, hZ, hh⟩ := hP
  have hx := Bd.exec
  have hby := Bd.bytes
  have hml : c.maxLocals = 1 := hml0
  have hown : s.vm.findClass "org/sluice/bench/Measurement" = some m.cls := findClass_of_methodNamed Bd.named
  have hnm := (name_of_methodNamed Bd.named Bd.method).1
  have X0 : Stand p l e ({ frames := 0, cells := 0, slots := 0, locals := 0 } : Room) s m #[(.ref a1)] below meth c s₁ [] 0 0 := Stand.of_body Bd
  have e0 : s₁.heap = h0 := by rw [← hh, Bd.state]; rfl
  have N0 := Fr.nil n0
  have pre0 : ∀ t, Steps p.tables e below (s₁.setTop (mkF m 0 #[.val (.ref a1)] [])) t → Steps p.tables e below (s₁.setTop (entryFrame m #[(.ref a1)] 1)) t := fun t k => castTop (ef_4 m a1) k
  obtain ⟨T3, X3, e3, st3⟩ := getF X0 hx hZ hown (host := "") (Or.inl (hw _ (List.mem_of_getElem? (i := 20) rfl))) Via.refl e0 F_sharedCount_a1 (g := (mkF m 1 #[.val (.ref a1)] [(.ref a1)])) rfl rfl (hb hby d4_1)
  obtain ⟨T5, X5, e5, st5⟩ := getF X3 hx hZ hown (host := "") (Or.inl (hw _ (List.mem_of_getElem? (i := 18) rfl))) Via.refl e3 F_countedOps_a1 (g := (mkF m 5 #[.val (.ref a1)] [(.ref a1), (.long w2)])) rfl rfl (hb hby d4_5)
  obtain ⟨fs, hr, hrun, hended, hW, hsame⟩ := X5.leave (v := some (.int (0 : Int32))) (fun h => by rw [Bd.returns] at h; cases h)
  refine ⟨_, _, pre0 _ ?_, hrun, hended, _, _, rfl, ?_, ⟨_, rfl⟩, hW, hsame.mono (by decide) (by decide)⟩
  · show Steps p.tables e below (s₁.setTop (mkF m 0 #[.val (.ref a1)] [])) _
    refine XS.aloadN X0.here hx rfl (hb hby d4_0) rfl rfl ?_
    show Steps p.tables e below (s₁.setTop (mkF m 1 #[.val (.ref a1)] [(.ref a1)])) _
    refine st3 _ ?_
    show Steps p.tables e below (T3.setTop (mkF m 4 #[.val (.ref a1)] [(.long w2)])) _
    refine XS.aloadN X3.here hx rfl (hb hby d4_4) rfl rfl ?_
    show Steps p.tables e below (T3.setTop (mkF m 5 #[.val (.ref a1)] [(.ref a1), (.long w2)])) _
    refine st5 _ ?_
    show Steps p.tables e below (T5.setTop (mkF m 8 #[.val (.ref a1)] [(.long w4), (.long w2)])) _
    refine XS.lcmp X5.here hx rfl (hb hby d4_8) rfl ?_
    show Steps p.tables e below (T5.setTop (mkF m 9 #[.val (.ref a1)] [(.int (lcmpW w2 w4))])) _
    refine XS.ifYes X5.here hx rfl (pc0 := 9) (pc' := 16) rfl (hb hby d4_9) rfl ((if0 _ _).trans (feq hc9).2) (by decide) (by decide) ?_
    show Steps p.tables e below (T5.setTop (mkF m 16 #[.val (.ref a1)] [])) _
    refine XS.iconst X5.here hx rfl (hb hby d4_16) ?_
    show Steps p.tables e below (T5.setTop (mkF m 17 #[.val (.ref a1)] [(.int (0 : Int32))])) _
    exact retN X5 hx (t := .boolean) Bd.returns (by simp) (hb hby d4_17) hr
  · show Q4 Z a1 w2 w4 h0 n0 _ T5.heap _
    rw [e5]
    exact ⟨by rw [own_chk, if_neg (fun h => hc9 ((lw_eq _ _).mpr h))], N0, rfl⟩
set_option maxRecDepth 65536 in
set_option maxHeartbeats 40000000 in
theorem rm4 (l : Launch) (Z : State) (a0 : Array Value) (hw : ∀ d ∈ tables_1, d.before a0 Z = true) (ws : List Jvm.Cond) (a1 : Addr) (w2 : Int64) (w4 : Int64) (h0 : Heap) (n0 : Nat) (Z0 : n0 ≤ h0.size) (F_sharedCount_a1 : Fld Z h0 a1 "org/sluice/bench/Measurement" "sharedCount" "J" (.long w2)) (F_countedOps_a1 : Fld Z h0 a1 "org/sluice/bench/Measurement" "countedOps" "J" (.long w4)) :
    MetFree l (⟨"org/sluice/bench/Measurement", "checked", "()Z"⟩ : MethodName) (head1 (Jvm.Cond.code (⟨"org/sluice/bench/Measurement", "checked", "()Z"⟩ : MethodName) prog_31_method_5_code 1 (some .boolean) :: ws) ({ frames := 0, cells := 0, slots := 0, locals := 0 } : Room)) (fun a U => a = #[(.ref a1)] ∧ Z.Warmed39 U.vm ∧ U.heap = h0) (fun _ _ _ _ _ => True) (fun _ U o U' => ∃ v L, o = .returned v ∧ Q4 Z a1 w2 w4 h0 n0 v U'.heap L ∧ FrameEnd U o U' L ({ frames := 0, cells := 0, slots := 0, locals := 0 } : Room).cells ({ frames := 0, cells := 0, slots := 0, locals := 0 } : Room).slots) := by
  by_cases c1 : (lcmpW w2 w4) = (0 : Int32)
  · exact rm4_f l Z a0 hw ws a1 w2 w4 h0 n0 Z0 F_sharedCount_a1 F_countedOps_a1 c1
  · exact rm4_t l Z a0 hw ws a1 w2 w4 h0 n0 Z0 F_sharedCount_a1 F_countedOps_a1 c1
theorem pn_0 : plainName "org/sluice/bench/MeasurementCheckedPinLaw" = true := by first | (simp [plainName, overriddenIn]; done) | decide +kernel
theorem pd_0_0 : parseMethodDescriptor "(JJJJ)V" = some ⟨[.long, .long, .long, .long], none⟩ := by decide +kernel
theorem pd_0_2 : parseMethodDescriptor "()Z" = some ⟨[], some .boolean⟩ := by decide +kernel
theorem ef_0 (m : MethodId) (x0 : Int64) (x1 : Int64) (x2 : Int64) (x3 : Int64) : entryFrame m #[(.long x0), (.long x1), (.long x2), (.long x3)] maxLocals = mkF m 0 #[.val (.long x0), .second, .val (.long x1), .second, .val (.long x2), .second, .val (.long x3), .second, .unset, .unset, .unset, .unset] [] := by first | (simp [entryFrame, mkF, argsToLocals, Value.category, maxLocals]; done) | rfl
def Q0 (Z : State) (q1 : Int64) (q2 : Int64) (q3 : Int64) (q4 : Int64) (h0 : Heap) (n0 : Nat) (v : Option Value) (h : Heap) (L : List Loc) : Prop := v = some (.int (1 : Int32)) ∧ Fr n0 L
set_option maxRecDepth 65536 in
set_option maxHeartbeats 40000000 in
theorem rm0_f (l : Launch) (Z : State) (a0 : Array Value) (hw : ∀ d ∈ tables_1, d.before a0 Z = true) (ws : List Jvm.Cond) (q1 : Int64) (q2 : Int64) (q3 : Int64) (q4 : Int64) (h0 : Heap) (n0 : Nat) (Z0 : n0 ≤ h0.size) (hc4 : ¬ ((lcmpW q4 (0 : Int64)) = (0 : Int32))) :
    MetFree l x (head1 (Jvm.Cond.code x code maxLocals ret :: ws) room_1) (fun a U => a = #[(.long q1), (.long q2), (.long q3), (.long q4)] ∧ Z.Warmed39 U.vm ∧ U.heap = h0) (fun _ _ _ _ _ => True) (fun _ U o U' => ∃ v L, o = .returned v ∧ Q0 Z q1 q2 q3 q4 h0 n0 v U'.heap L ∧ FrameEnd U o U' L room_1.cells room_1.slots) := by
  refine MetFree.of_bodySF (plainFor_of_name pn_0) hisR ?_
  intro p e s m args below meth c s₁ Bd hml0 hP hK
  obtain ⟨rfl, hZ, hh⟩ := hP
  have hx := Bd.exec
  have hby := Bd.bytes
  have hml : c.maxLocals = 12 := hml0
  have hown : s.vm.findClass "org/sluice/bench/MeasurementCheckedPinLaw" = some m.cls := findClass_of_methodNamed Bd.named
  have hnm := (name_of_methodNamed Bd.named Bd.method).1
  have X0 : Stand p l e room_1 s m #[(.long q1), (.long q2), (.long q3), (.long q4)] below meth c s₁ [] 0 0 := Stand.of_body Bd
  have e0 : s₁.heap = h0 := by rw [← hh, Bd.state]; rfl
  have N0 := Fr.nil n0
  have pre0 : ∀ t, Steps p.tables e below (s₁.setTop (mkF m 0 #[.val (.long q1), .second, .val (.long q2), .second, .val (.long q3), .second, .val (.long q4), .second, .unset, .unset, .unset, .unset] [])) t → Steps p.tables e below (s₁.setTop (entryFrame m #[(.long q1), (.long q2), (.long q3), (.long q4)] maxLocals)) t := fun t k => castTop (ef_0 m q1 q2 q3 q4) k
  obtain ⟨T5, h5, X5, e5, E5, A5, D5, -, st5⟩ := newO X0 hx hZ hown (hw _ (List.mem_of_getElem? (i := 0) rfl)) (hw _ (List.mem_of_getElem? (i := 1) rfl)) (hw _ (List.mem_of_getElem? (i := 2) rfl)) e0 (g := (mkF m 15 #[.val (.long q1), .second, .val (.long q2), .second, .val (.long q3), .second, .val (.long q4), .second, .val (.long q4), .second, .unset, .unset] [])) rfl (hb hby at_15) (by decide) (by decide)
  obtain ⟨b5, g5⟩ : ∃ z, z = h0.size := ⟨_, rfl⟩
  rw [← g5] at A5 D5 st5
  have F_measuredOps_b5 : Fld Z h5 b5 "org/sluice/bench/Measurement" "measuredOps" "J" (.long (0 : Int64)) := D5 (Or.inr (hw _ (List.mem_of_getElem? (i := 15) rfl))) (ty := .long) (by decide)
  have F_windowNanos_b5 : Fld Z h5 b5 "org/sluice/bench/Measurement" "windowNanos" "J" (.long (0 : Int64)) := D5 (Or.inr (hw _ (List.mem_of_getElem? (i := 17) rfl))) (ty := .long) (by decide)
  have F_countedOps_b5 : Fld Z h5 b5 "org/sluice/bench/Measurement" "countedOps" "J" (.long (0 : Int64)) := D5 (Or.inr (hw _ (List.mem_of_getElem? (i := 19) rfl))) (ty := .long) (by decide)
  have F_sharedCount_b5 : Fld Z h5 b5 "org/sluice/bench/Measurement" "sharedCount" "J" (.long (0 : Int64)) := D5 (Or.inr (hw _ (List.mem_of_getElem? (i := 21) rfl))) (ty := .long) (by decide)
  have E_b5 := A5
  have Z5 : n0 ≤ h5.size := Nat.le_trans Z0 E5.1
  have g_b5 : n0 ≤ b5 := Nat.le_trans Z0 (Nat.le_of_eq g5.symm)
  have sz_b5 : h0.size ≤ b5 := (Nat.le_trans (Keep.refl h0 []).1 (Nat.le_of_eq g5.symm))
  have K5 : Keep h0 h5 [] := (Keep.refl h0 []).ext E5
  obtain ⟨_, _, ⟨T6, L6, k6, n6⟩, -, X6, ⟨Lc6, hQ6, l6, y6, z6⟩, st6⟩ := X5.specialBack hx (y := (⟨"org/sluice/bench/Measurement", "<init>", "(JJJJ)V"⟩ : MethodName)) rfl hown (mvT hZ (hw _ (List.mem_of_getElem? (i := 3) rfl))) (mvT hZ (hw _ (List.mem_of_getElem? (i := 4) rfl))) (mvT hZ (hw _ (List.mem_of_getElem? (i := 5) rfl))) (by decide) (backOf (W := 1) (rm1 l Z a0 hw [] b5 q1 q2 q3 q3 (.long (0 : Int64)) (.long (0 : Int64)) (.long (0 : Int64)) (.long (0 : Int64)) h5 n0 Z5 E_b5 F_measuredOps_b5 g_b5 F_windowNanos_b5 F_countedOps_b5 F_sharedCount_b5) hZ (hw _ (List.mem_of_getElem? (i := 5) rfl)) (hw _ (List.mem_of_getElem? (i := 2) rfl)) (by decide) (by decide)) (g := (mkF m 25 #[.val (.long q1), .second, .val (.long q2), .second, .val (.long q3), .second, .val (.long q4), .second, .val (.long q4), .second, .unset, .unset] [(.long q3), (.long q3), (.long q2), (.long q1), (.ref b5), (.ref b5)])) rfl (by rw [hml]; rfl) (Steps.refl _) (a := b5) (argsL := [(.long q1), (.long q2), (.long q3), (.long q3)]) (rest := [(.ref b5)]) (lenOf pd_0_0 rfl) rfl (by show 2 * 0 + _ ≤ _; exact Nat.le_of_eq rfl) (hb hby at_25) (fun _ _ => ⟨rfl, e5, (by decide : 1 + 0 ≤ _), (by decide : 4 + 0 ≤ _)⟩)
  dsimp only [Pt.U, Pt.locs, Pt.cells, Pt.slots] at X6 l6 y6 z6 st6 hQ6
  subst l6 y6 z6
  obtain ⟨rfl, N6q, K6, Fc6, Fs6⟩ := hQ6
  have Z6 : n0 ≤ T6.heap.size := Nat.le_trans Z5 K6.1
  have K06 : Keep h0 T6.heap [] := K5.trans K6 (allS (Or.inr sz_b5) all0)
  have N6 := Fr.app N0 N6q
  obtain ⟨T7, h7, X7, e7, E7, A7, D7, -, st7⟩ := newO X6 hx hZ hown (hw _ (List.mem_of_getElem? (i := 0) rfl)) (hw _ (List.mem_of_getElem? (i := 1) rfl)) (hw _ (List.mem_of_getElem? (i := 2) rfl)) rfl (g := (mkF m 30 #[.val (.long q1), .second, .val (.long q2), .second, .val (.long q3), .second, .val (.long q4), .second, .val (.long q4), .second, .val (.ref b5), .unset] [])) rfl (hb hby at_30) (by decide) (by decide)
  obtain ⟨b7, g7⟩ : ∃ z, z = T6.heap.size := ⟨_, rfl⟩
  rw [← g7] at A7 D7 st7
  have F_measuredOps_b7 : Fld Z h7 b7 "org/sluice/bench/Measurement" "measuredOps" "J" (.long (0 : Int64)) := D7 (Or.inr (hw _ (List.mem_of_getElem? (i := 15) rfl))) (ty := .long) (by decide)
  have F_windowNanos_b7 : Fld Z h7 b7 "org/sluice/bench/Measurement" "windowNanos" "J" (.long (0 : Int64)) := D7 (Or.inr (hw _ (List.mem_of_getElem? (i := 17) rfl))) (ty := .long) (by decide)
  have F_countedOps_b7 : Fld Z h7 b7 "org/sluice/bench/Measurement" "countedOps" "J" (.long (0 : Int64)) := D7 (Or.inr (hw _ (List.mem_of_getElem? (i := 19) rfl))) (ty := .long) (by decide)
  have F_sharedCount_b7 : Fld Z h7 b7 "org/sluice/bench/Measurement" "sharedCount" "J" (.long (0 : Int64)) := D7 (Or.inr (hw _ (List.mem_of_getElem? (i := 21) rfl))) (ty := .long) (by decide)
  have E_b7 := A7
  have Z7 : n0 ≤ h7.size := Nat.le_trans Z6 E7.1
  have g_b7 : n0 ≤ b7 := Nat.le_trans (Nat.le_trans (Nat.le_trans Z0 E5.1) K6.1) (Nat.le_of_eq g7.symm)
  have sz_b7 : h0.size ≤ b7 := (Nat.le_trans K06.1 (Nat.le_of_eq g7.symm))
  have K7 : Keep h0 h7 [] := K06.ext E7
  obtain ⟨_, _, ⟨T8, L8, k8, n8⟩, -, X8, ⟨Lc8, hQ8, l8, y8, z8⟩, st8⟩ := X7.specialBack hx (y := (⟨"org/sluice/bench/Measurement", "<init>", "(JJJJ)V"⟩ : MethodName)) rfl hown (mvT hZ (hw _ (List.mem_of_getElem? (i := 3) rfl))) (mvT hZ (hw _ (List.mem_of_getElem? (i := 4) rfl))) (mvT hZ (hw _ (List.mem_of_getElem? (i := 5) rfl))) (by decide) (backOf (W := 1) (rm1 l Z a0 hw [] b7 q1 q2 q3 (q3 + q4) (.long (0 : Int64)) (.long (0 : Int64)) (.long (0 : Int64)) (.long (0 : Int64)) h7 n0 Z7 E_b7 F_measuredOps_b7 g_b7 F_windowNanos_b7 F_countedOps_b7 F_sharedCount_b7) hZ (hw _ (List.mem_of_getElem? (i := 5) rfl)) (hw _ (List.mem_of_getElem? (i := 2) rfl)) (by decide) (by decide)) (g := (mkF m 43 #[.val (.long q1), .second, .val (.long q2), .second, .val (.long q3), .second, .val (.long q4), .second, .val (.long q4), .second, .val (.ref b5), .unset] [(.long (q3 + q4)), (.long q3), (.long q2), (.long q1), (.ref b7), (.ref b7)])) rfl (by rw [hml]; rfl) (Steps.refl _) (a := b7) (argsL := [(.long q1), (.long q2), (.long q3), (.long (q3 + q4))]) (rest := [(.ref b7)]) (lenOf pd_0_0 rfl) rfl (by show 2 * 0 + _ ≤ _; exact Nat.le_of_eq rfl) (hb hby at_43) (fun _ _ => ⟨rfl, e7, (by decide : 2 + 0 ≤ _), (by decide : 8 + 0 ≤ _)⟩)
  dsimp only [Pt.U, Pt.locs, Pt.cells, Pt.slots] at X8 l8 y8 z8 st8 hQ8
  subst l8 y8 z8
  obtain ⟨rfl, N8q, K8, Fc8, Fs8⟩ := hQ8
  have Z8 : n0 ≤ T8.heap.size := Nat.le_trans Z7 K8.1
  have ne57 : b5 ≠ b7 := Nat.ne_of_lt (Nat.lt_of_lt_of_le Fc6.lt (Nat.le_of_eq g7.symm))
  have Fc58 := (Fc6.ext E7).keep K8 (ninS ne57 nin0)
  have Fs58 := (Fs6.ext E7).keep K8 (ninS ne57 nin0)
  have N8 := Fr.app N6 N8q
  obtain ⟨cq9, kq9, q9a, q9b, q9c⟩ := isOf hZ rfl (((E_b5.keep K6).ext E7).keep K8)
  obtain ⟨_, _, ⟨T9, L9, k9, n9⟩, -, X9, ⟨Lc9, hQ9, l9, y9, z9⟩, st9⟩ := X8.virtualBack hx (y := (⟨"org/sluice/bench/Measurement", "checked", "()Z"⟩ : MethodName)) (z := (⟨"org/sluice/bench/Measurement", "checked", "()Z"⟩ : MethodName)) hown (mvT hZ (hw _ (List.mem_of_getElem? (i := 22) rfl))) (mvT hZ (hw _ (List.mem_of_getElem? (i := 23) rfl))) (notFace_of_selects (args := #[]) (mvT hZ (hw _ (List.mem_of_getElem? (i := 25) rfl)))) (mvT hZ (hw _ (List.mem_of_getElem? (i := 25) rfl))) (mvT hZ (hw _ (List.mem_of_getElem? (i := 24) rfl))) (by decide) (backOf (W := 0) (rm4 l Z a0 hw [] b5 q3 q3 T8.heap n0 Z8 Fs58 Fc58) hZ (hw _ (List.mem_of_getElem? (i := 26) rfl)) (hw _ (List.mem_of_getElem? (i := 2) rfl)) (by decide) (by decide)) q9a q9c (g := (mkF m 50 #[.val (.long q1), .second, .val (.long q2), .second, .val (.long q3), .second, .val (.long q4), .second, .val (.long q4), .second, .val (.ref b5), .val (.ref b7)] [(.ref b5)])) rfl (by rw [hml]; rfl) (Steps.refl _) (argsL := []) (rest := []) (lenOf pd_0_2 rfl) rfl (by show 2 * 0 + _ ≤ _; exact Nat.le_of_eq rfl) (hb hby at_50) (fun _ _ => ⟨rfl, rfl, (by decide : 2 + 0 ≤ _), (by decide : 8 + 0 ≤ _)⟩)
  dsimp only [Pt.U, Pt.locs, Pt.cells, Pt.slots] at X9 l9 y9 z9 st9 hQ9
  subst l9 y9 z9
  obtain ⟨rfl, N9q, e9q⟩ := hQ9
  have K9 : Keep T8.heap T9.heap [] := by rw [e9q]; exact Keep.refl _ _
  have Z9 : n0 ≤ T9.heap.size := Nat.le_trans Z8 K9.1
  have N9 := Fr.app N8 N9q
  obtain ⟨cq10, kq10, q10a, q10b, q10c⟩ := isOf hZ rfl ((E_b7.keep K8).keep K9)
  obtain ⟨_, _, ⟨T10, L10, k10, n10⟩, -, X10, ⟨Lc10, hQ10, l10, y10, z10⟩, st10⟩ := X9.virtualBack hx (y := (⟨"org/sluice/bench/Measurement", "checked", "()Z"⟩ : MethodName)) (z := (⟨"org/sluice/bench/Measurement", "checked", "()Z"⟩ : MethodName)) hown (mvT hZ (hw _ (List.mem_of_getElem? (i := 22) rfl))) (mvT hZ (hw _ (List.mem_of_getElem? (i := 23) rfl))) (notFace_of_selects (args := #[]) (mvT hZ (hw _ (List.mem_of_getElem? (i := 25) rfl)))) (mvT hZ (hw _ (List.mem_of_getElem? (i := 25) rfl))) (mvT hZ (hw _ (List.mem_of_getElem? (i := 24) rfl))) (by decide) (backOf (W := 0) (rm4 l Z a0 hw [] b7 (q3 + q4) q3 T9.heap n0 Z9 (Fs8.keep K9 nin0) (Fc8.keep K9 nin0)) hZ (hw _ (List.mem_of_getElem? (i := 26) rfl)) (hw _ (List.mem_of_getElem? (i := 2) rfl)) (by decide) (by decide)) q10a q10c (g := (mkF m 58 #[.val (.long q1), .second, .val (.long q2), .second, .val (.long q3), .second, .val (.long q4), .second, .val (.long q4), .second, .val (.ref b5), .val (.ref b7)] [(.ref b7)])) rfl (by rw [hml]; rfl) (Steps.refl _) (argsL := []) (rest := []) (lenOf pd_0_2 rfl) rfl (by show 2 * 0 + _ ≤ _; exact Nat.le_of_eq rfl) (hb hby at_58) (fun _ _ => ⟨rfl, rfl, (by decide : 2 + 0 ≤ _), (by decide : 8 + 0 ≤ _)⟩)
  dsimp only [Pt.U, Pt.locs, Pt.cells, Pt.slots] at X10 l10 y10 z10 st10 hQ10
  subst l10 y10 z10
  obtain ⟨rfl, N10q, e10q⟩ := hQ10
  have N10 := Fr.app N9 N10q
  obtain ⟨fs, hr, hrun, hended, hW, hsame⟩ := X10.leave (v := some (.int (1 : Int32))) (fun h => by rw [Bd.returns] at h; cases h)
  refine ⟨_, _, pre0 _ ?_, hrun, hended, _, _, rfl, ?_, ⟨_, rfl⟩, hW, hsame.mono (by decide) (by decide)⟩
  · show Steps p.tables e below (s₁.setTop (mkF m 0 #[.val (.long q1), .second, .val (.long q2), .second, .val (.long q3), .second, .val (.long q4), .second, .unset, .unset, .unset, .unset] [])) _
    refine XS.lload X0.here hx rfl (hb hby at_0) rfl ?_
    show Steps p.tables e below (s₁.setTop (mkF m 2 #[.val (.long q1), .second, .val (.long q2), .second, .val (.long q3), .second, .val (.long q4), .second, .unset, .unset, .unset, .unset] [(.long q4)])) _
    refine XS.lconst X0.here hx rfl (hb hby at_2) ?_
    show Steps p.tables e below (s₁.setTop (mkF m 3 #[.val (.long q1), .second, .val (.long q2), .second, .val (.long q3), .second, .val (.long q4), .second, .unset, .unset, .unset, .unset] [(.long (0 : Int64)), (.long q4)])) _
    refine XS.lcmp X0.here hx rfl (hb hby at_3) rfl ?_
    show Steps p.tables e below (s₁.setTop (mkF m 4 #[.val (.long q1), .second, .val (.long q2), .second, .val (.long q3), .second, .val (.long q4), .second, .unset, .unset, .unset, .unset] [(.int (lcmpW q4 (0 : Int64)))])) _
    refine XS.ifNo X0.here hx rfl (hb hby at_4) rfl ((if0 _ _).trans (feq hc4).1) ?_
    show Steps p.tables e below (s₁.setTop (mkF m 7 #[.val (.long q1), .second, .val (.long q2), .second, .val (.long q3), .second, .val (.long q4), .second, .unset, .unset, .unset, .unset] [])) _
    refine XS.lload X0.here hx rfl (hb hby at_7) rfl ?_
    show Steps p.tables e below (s₁.setTop (mkF m 9 #[.val (.long q1), .second, .val (.long q2), .second, .val (.long q3), .second, .val (.long q4), .second, .unset, .unset, .unset, .unset] [(.long q4)])) _
    refine XS.goto X0.here hx rfl (pc0 := 9) (pc' := 13) rfl (hb hby at_9) (by decide) (by decide) ?_
    show Steps p.tables e below (s₁.setTop (mkF m 13 #[.val (.long q1), .second, .val (.long q2), .second, .val (.long q3), .second, .val (.long q4), .second, .unset, .unset, .unset, .unset] [(.long q4)])) _
    refine XS.lstore X0.here hx rfl (hb hby at_13) rfl (l' := #[.val (.long q1), .second, .val (.long q2), .second, .val (.long q3), .second, .val (.long q4), .second, .val (.long q4), .second, .unset, .unset]) rfl ?_
    show Steps p.tables e below (s₁.setTop (mkF m 15 #[.val (.long q1), .second, .val (.long q2), .second, .val (.long q3), .second, .val (.long q4), .second, .val (.long q4), .second, .unset, .unset] [])) _
    refine st5 _ ?_
    show Steps p.tables e below (T5.setTop (mkF m 18 #[.val (.long q1), .second, .val (.long q2), .second, .val (.long q3), .second, .val (.long q4), .second, .val (.long q4), .second, .unset, .unset] [(.ref b5)])) _
    refine XS.dup X5.here hx rfl (hb hby at_18) rfl rfl ?_
    show Steps p.tables e below (T5.setTop (mkF m 19 #[.val (.long q1), .second, .val (.long q2), .second, .val (.long q3), .second, .val (.long q4), .second, .val (.long q4), .second, .unset, .unset] [(.ref b5), (.ref b5)])) _
    refine XS.lloadN X5.here hx rfl (hb hby at_19) rfl ?_
    show Steps p.tables e below (T5.setTop (mkF m 20 #[.val (.long q1), .second, .val (.long q2), .second, .val (.long q3), .second, .val (.long q4), .second, .val (.long q4), .second, .unset, .unset] [(.long q1), (.ref b5), (.ref b5)])) _
    refine XS.lloadN X5.here hx rfl (hb hby at_20) rfl ?_
    show Steps p.tables e below (T5.setTop (mkF m 21 #[.val (.long q1), .second, .val (.long q2), .second, .val (.long q3), .second, .val (.long q4), .second, .val (.long q4), .second, .unset, .unset] [(.long q2), (.long q1), (.ref b5), (.ref b5)])) _
    refine XS.lload X5.here hx rfl (hb hby at_21) rfl ?_
    show Steps p.tables e below (T5.setTop (mkF m 23 #[.val (.long q1), .second, .val (.long q2), .second, .val (.long q3), .second, .val (.long q4), .second, .val (.long q4), .second, .unset, .unset] [(.long q3), (.long q2), (.long q1), (.ref b5), (.ref b5)])) _
    refine XS.lload X5.here hx rfl (hb hby at_23) rfl ?_
    show Steps p.tables e below (T5.setTop (mkF m 25 #[.val (.long q1), .second, .val (.long q2), .second, .val (.long q3), .second, .val (.long q4), .second, .val (.long q4), .second, .unset, .unset] [(.long q3), (.long q3), (.long q2), (.long q1), (.ref b5), (.ref b5)])) _
    refine st6.trans ?_
    show Steps p.tables e below (T6.setTop (mkF m 28 #[.val (.long q1), .second, .val (.long q2), .second, .val (.long q3), .second, .val (.long q4), .second, .val (.long q4), .second, .unset, .unset] [(.ref b5)])) _
    refine XS.astore X6.here hx rfl (hb hby at_28) rfl rfl (l' := #[.val (.long q1), .second, .val (.long q2), .second, .val (.long q3), .second, .val (.long q4), .second, .val (.long q4), .second, .val (.ref b5), .unset]) rfl ?_
    show Steps p.tables e below (T6.setTop (mkF m 30 #[.val (.long q1), .second, .val (.long q2), .second, .val (.long q3), .second, .val (.long q4), .second, .val (.long q4), .second, .val (.ref b5), .unset] [])) _
    refine st7 _ ?_
    show Steps p.tables e below (T7.setTop (mkF m 33 #[.val (.long q1), .second, .val (.long q2), .second, .val (.long q3), .second, .val (.long q4), .second, .val (.long q4), .second, .val (.ref b5), .unset] [(.ref b7)])) _
    refine XS.dup X7.here hx rfl (hb hby at_33) rfl rfl ?_
    show Steps p.tables e below (T7.setTop (mkF m 34 #[.val (.long q1), .second, .val (.long q2), .second, .val (.long q3), .second, .val (.long q4), .second, .val (.long q4), .second, .val (.ref b5), .unset] [(.ref b7), (.ref b7)])) _
    refine XS.lloadN X7.here hx rfl (hb hby at_34) rfl ?_
    show Steps p.tables e below (T7.setTop (mkF m 35 #[.val (.long q1), .second, .val (.long q2), .second, .val (.long q3), .second, .val (.long q4), .second, .val (.long q4), .second, .val (.ref b5), .unset] [(.long q1), (.ref b7), (.ref b7)])) _
    refine XS.lloadN X7.here hx rfl (hb hby at_35) rfl ?_
    show Steps p.tables e below (T7.setTop (mkF m 36 #[.val (.long q1), .second, .val (.long q2), .second, .val (.long q3), .second, .val (.long q4), .second, .val (.long q4), .second, .val (.ref b5), .unset] [(.long q2), (.long q1), (.ref b7), (.ref b7)])) _
    refine XS.lload X7.here hx rfl (hb hby at_36) rfl ?_
    show Steps p.tables e below (T7.setTop (mkF m 38 #[.val (.long q1), .second, .val (.long q2), .second, .val (.long q3), .second, .val (.long q4), .second, .val (.long q4), .second, .val (.ref b5), .unset] [(.long q3), (.long q2), (.long q1), (.ref b7), (.ref b7)])) _
    refine XS.lload X7.here hx rfl (hb hby at_38) rfl ?_
    show Steps p.tables e below (T7.setTop (mkF m 40 #[.val (.long q1), .second, .val (.long q2), .second, .val (.long q3), .second, .val (.long q4), .second, .val (.long q4), .second, .val (.ref b5), .unset] [(.long q3), (.long q3), (.long q2), (.long q1), (.ref b7), (.ref b7)])) _
    refine XS.lload X7.here hx rfl (hb hby at_40) rfl ?_
    show Steps p.tables e below (T7.setTop (mkF m 42 #[.val (.long q1), .second, .val (.long q2), .second, .val (.long q3), .second, .val (.long q4), .second, .val (.long q4), .second, .val (.ref b5), .unset] [(.long q4), (.long q3), (.long q3), (.long q2), (.long q1), (.ref b7), (.ref b7)])) _
    refine XS.ladd X7.here hx rfl (hb hby at_42) rfl ?_
    show Steps p.tables e below (T7.setTop (mkF m 43 #[.val (.long q1), .second, .val (.long q2), .second, .val (.long q3), .second, .val (.long q4), .second, .val (.long q4), .second, .val (.ref b5), .unset] [(.long (q3 + q4)), (.long q3), (.long q2), (.long q1), (.ref b7), (.ref b7)])) _
    refine st8.trans ?_
    show Steps p.tables e below (T8.setTop (mkF m 46 #[.val (.long q1), .second, .val (.long q2), .second, .val (.long q3), .second, .val (.long q4), .second, .val (.long q4), .second, .val (.ref b5), .unset] [(.ref b7)])) _
    refine XS.astore X8.here hx rfl (hb hby at_46) rfl rfl (l' := #[.val (.long q1), .second, .val (.long q2), .second, .val (.long q3), .second, .val (.long q4), .second, .val (.long q4), .second, .val (.ref b5), .val (.ref b7)]) rfl ?_
    show Steps p.tables e below (T8.setTop (mkF m 48 #[.val (.long q1), .second, .val (.long q2), .second, .val (.long q3), .second, .val (.long q4), .second, .val (.long q4), .second, .val (.ref b5), .val (.ref b7)] [])) _
    refine XS.aload X8.here hx rfl (hb hby at_48) rfl rfl ?_
    show Steps p.tables e below (T8.setTop (mkF m 50 #[.val (.long q1), .second, .val (.long q2), .second, .val (.long q3), .second, .val (.long q4), .second, .val (.long q4), .second, .val (.ref b5), .val (.ref b7)] [(.ref b5)])) _
    refine st9.trans ?_
    show Steps p.tables e below (T9.setTop (mkF m 53 #[.val (.long q1), .second, .val (.long q2), .second, .val (.long q3), .second, .val (.long q4), .second, .val (.long q4), .second, .val (.ref b5), .val (.ref b7)] [(.int (own_chk q3 q3))])) _
    refine XS.ifNo X9.here hx rfl (hb hby at_53) rfl ((if0 _ _).trans (feq (by rw [own_chk, if_pos rfl]; decide : ¬ ((own_chk q3 q3) = (0 : Int32)))).1) ?_
    show Steps p.tables e below (T9.setTop (mkF m 56 #[.val (.long q1), .second, .val (.long q2), .second, .val (.long q3), .second, .val (.long q4), .second, .val (.long q4), .second, .val (.ref b5), .val (.ref b7)] [])) _
    refine XS.aload X9.here hx rfl (hb hby at_56) rfl rfl ?_
    show Steps p.tables e below (T9.setTop (mkF m 58 #[.val (.long q1), .second, .val (.long q2), .second, .val (.long q3), .second, .val (.long q4), .second, .val (.long q4), .second, .val (.ref b5), .val (.ref b7)] [(.ref b7)])) _
    refine st10.trans ?_
    show Steps p.tables e below (T10.setTop (mkF m 61 #[.val (.long q1), .second, .val (.long q2), .second, .val (.long q3), .second, .val (.long q4), .second, .val (.long q4), .second, .val (.ref b5), .val (.ref b7)] [(.int (own_chk (q3 + q4) q3))])) _
    refine XS.ifNo X10.here hx rfl (hb hby at_61) rfl ((if0 _ _).trans (teq (if_neg (own_ne (fun h => hc4 ((lw_eq _ _).mpr h))) : (own_chk (q3 + q4) q3) = (0 : Int32))).2) ?_
    show Steps p.tables e below (T10.setTop (mkF m 64 #[.val (.long q1), .second, .val (.long q2), .second, .val (.long q3), .second, .val (.long q4), .second, .val (.long q4), .second, .val (.ref b5), .val (.ref b7)] [])) _
    refine XS.iconst X10.here hx rfl (hb hby at_64) ?_
    show Steps p.tables e below (T10.setTop (mkF m 65 #[.val (.long q1), .second, .val (.long q2), .second, .val (.long q3), .second, .val (.long q4), .second, .val (.long q4), .second, .val (.ref b5), .val (.ref b7)] [(.int (1 : Int32))])) _
    refine XS.goto X10.here hx rfl (pc0 := 65) (pc' := 69) rfl (hb hby at_65) (by decide) (by decide) ?_
    show Steps p.tables e below (T10.setTop (mkF m 69 #[.val (.long q1), .second, .val (.long q2), .second, .val (.long q3), .second, .val (.long q4), .second, .val (.long q4), .second, .val (.ref b5), .val (.ref b7)] [(.int (1 : Int32))])) _
    exact retN X10 hx (t := .boolean) Bd.returns (by simp) (hb hby at_69) hr
  · show Q0 Z q1 q2 q3 q4 h0 n0 _ T10.heap _
    exact ⟨rfl, N10⟩
set_option maxRecDepth 65536 in
set_option maxHeartbeats 40000000 in
theorem rm0_t (l : Launch) (Z : State) (a0 : Array Value) (hw : ∀ d ∈ tables_1, d.before a0 Z = true) (ws : List Jvm.Cond) (q1 : Int64) (q2 : Int64) (q3 : Int64) (q4 : Int64) (h0 : Heap) (n0 : Nat) (Z0 : n0 ≤ h0.size) (hc4 : (lcmpW q4 (0 : Int64)) = (0 : Int32)) :
    MetFree l x (head1 (Jvm.Cond.code x code maxLocals ret :: ws) room_1) (fun a U => a = #[(.long q1), (.long q2), (.long q3), (.long q4)] ∧ Z.Warmed39 U.vm ∧ U.heap = h0) (fun _ _ _ _ _ => True) (fun _ U o U' => ∃ v L, o = .returned v ∧ Q0 Z q1 q2 q3 q4 h0 n0 v U'.heap L ∧ FrameEnd U o U' L room_1.cells room_1.slots) := by
  refine MetFree.of_bodySF (plainFor_of_name pn_0) hisR ?_
  intro p e s m args below meth c s₁ Bd hml0 hP hK
  obtain ⟨rfl, hZ, hh⟩ := hP
  have hx := Bd.exec
  have hby := Bd.bytes
  have hml : c.maxLocals = 12 := hml0
  have hown : s.vm.findClass "org/sluice/bench/MeasurementCheckedPinLaw" = some m.cls := findClass_of_methodNamed Bd.named
  have hnm := (name_of_methodNamed Bd.named Bd.method).1
  have X0 : Stand p l e room_1 s m #[(.long q1), (.long q2), (.long q3), (.long q4)] below meth c s₁ [] 0 0 := Stand.of_body Bd
  have e0 : s₁.heap = h0 := by rw [← hh, Bd.state]; rfl
  have N0 := Fr.nil n0
  have pre0 : ∀ t, Steps p.tables e below (s₁.setTop (mkF m 0 #[.val (.long q1), .second, .val (.long q2), .second, .val (.long q3), .second, .val (.long q4), .second, .unset, .unset, .unset, .unset] [])) t → Steps p.tables e below (s₁.setTop (entryFrame m #[(.long q1), (.long q2), (.long q3), (.long q4)] maxLocals)) t := fun t k => castTop (ef_0 m q1 q2 q3 q4) k
  obtain ⟨T5, h5, X5, e5, E5, A5, D5, -, st5⟩ := newO X0 hx hZ hown (hw _ (List.mem_of_getElem? (i := 0) rfl)) (hw _ (List.mem_of_getElem? (i := 1) rfl)) (hw _ (List.mem_of_getElem? (i := 2) rfl)) e0 (g := (mkF m 15 #[.val (.long q1), .second, .val (.long q2), .second, .val (.long q3), .second, .val (.long q4), .second, .val (.long (1 : Int64)), .second, .unset, .unset] [])) rfl (hb hby at_15) (by decide) (by decide)
  obtain ⟨b5, g5⟩ : ∃ z, z = h0.size := ⟨_, rfl⟩
  rw [← g5] at A5 D5 st5
  have F_measuredOps_b5 : Fld Z h5 b5 "org/sluice/bench/Measurement" "measuredOps" "J" (.long (0 : Int64)) := D5 (Or.inr (hw _ (List.mem_of_getElem? (i := 15) rfl))) (ty := .long) (by decide)
  have F_windowNanos_b5 : Fld Z h5 b5 "org/sluice/bench/Measurement" "windowNanos" "J" (.long (0 : Int64)) := D5 (Or.inr (hw _ (List.mem_of_getElem? (i := 17) rfl))) (ty := .long) (by decide)
  have F_countedOps_b5 : Fld Z h5 b5 "org/sluice/bench/Measurement" "countedOps" "J" (.long (0 : Int64)) := D5 (Or.inr (hw _ (List.mem_of_getElem? (i := 19) rfl))) (ty := .long) (by decide)
  have F_sharedCount_b5 : Fld Z h5 b5 "org/sluice/bench/Measurement" "sharedCount" "J" (.long (0 : Int64)) := D5 (Or.inr (hw _ (List.mem_of_getElem? (i := 21) rfl))) (ty := .long) (by decide)
  have E_b5 := A5
  have Z5 : n0 ≤ h5.size := Nat.le_trans Z0 E5.1
  have g_b5 : n0 ≤ b5 := Nat.le_trans Z0 (Nat.le_of_eq g5.symm)
  have sz_b5 : h0.size ≤ b5 := (Nat.le_trans (Keep.refl h0 []).1 (Nat.le_of_eq g5.symm))
  have K5 : Keep h0 h5 [] := (Keep.refl h0 []).ext E5
  obtain ⟨_, _, ⟨T6, L6, k6, n6⟩, -, X6, ⟨Lc6, hQ6, l6, y6, z6⟩, st6⟩ := X5.specialBack hx (y := (⟨"org/sluice/bench/Measurement", "<init>", "(JJJJ)V"⟩ : MethodName)) rfl hown (mvT hZ (hw _ (List.mem_of_getElem? (i := 3) rfl))) (mvT hZ (hw _ (List.mem_of_getElem? (i := 4) rfl))) (mvT hZ (hw _ (List.mem_of_getElem? (i := 5) rfl))) (by decide) (backOf (W := 1) (rm1 l Z a0 hw [] b5 q1 q2 q3 q3 (.long (0 : Int64)) (.long (0 : Int64)) (.long (0 : Int64)) (.long (0 : Int64)) h5 n0 Z5 E_b5 F_measuredOps_b5 g_b5 F_windowNanos_b5 F_countedOps_b5 F_sharedCount_b5) hZ (hw _ (List.mem_of_getElem? (i := 5) rfl)) (hw _ (List.mem_of_getElem? (i := 2) rfl)) (by decide) (by decide)) (g := (mkF m 25 #[.val (.long q1), .second, .val (.long q2), .second, .val (.long q3), .second, .val (.long q4), .second, .val (.long (1 : Int64)), .second, .unset, .unset] [(.long q3), (.long q3), (.long q2), (.long q1), (.ref b5), (.ref b5)])) rfl (by rw [hml]; rfl) (Steps.refl _) (a := b5) (argsL := [(.long q1), (.long q2), (.long q3), (.long q3)]) (rest := [(.ref b5)]) (lenOf pd_0_0 rfl) rfl (by show 2 * 0 + _ ≤ _; exact Nat.le_of_eq rfl) (hb hby at_25) (fun _ _ => ⟨rfl, e5, (by decide : 1 + 0 ≤ _), (by decide : 4 + 0 ≤ _)⟩)
  dsimp only [Pt.U, Pt.locs, Pt.cells, Pt.slots] at X6 l6 y6 z6 st6 hQ6
  subst l6 y6 z6
  obtain ⟨rfl, N6q, K6, Fc6, Fs6⟩ := hQ6
  have Z6 : n0 ≤ T6.heap.size := Nat.le_trans Z5 K6.1
  have K06 : Keep h0 T6.heap [] := K5.trans K6 (allS (Or.inr sz_b5) all0)
  have N6 := Fr.app N0 N6q
  obtain ⟨T7, h7, X7, e7, E7, A7, D7, -, st7⟩ := newO X6 hx hZ hown (hw _ (List.mem_of_getElem? (i := 0) rfl)) (hw _ (List.mem_of_getElem? (i := 1) rfl)) (hw _ (List.mem_of_getElem? (i := 2) rfl)) rfl (g := (mkF m 30 #[.val (.long q1), .second, .val (.long q2), .second, .val (.long q3), .second, .val (.long q4), .second, .val (.long (1 : Int64)), .second, .val (.ref b5), .unset] [])) rfl (hb hby at_30) (by decide) (by decide)
  obtain ⟨b7, g7⟩ : ∃ z, z = T6.heap.size := ⟨_, rfl⟩
  rw [← g7] at A7 D7 st7
  have F_measuredOps_b7 : Fld Z h7 b7 "org/sluice/bench/Measurement" "measuredOps" "J" (.long (0 : Int64)) := D7 (Or.inr (hw _ (List.mem_of_getElem? (i := 15) rfl))) (ty := .long) (by decide)
  have F_windowNanos_b7 : Fld Z h7 b7 "org/sluice/bench/Measurement" "windowNanos" "J" (.long (0 : Int64)) := D7 (Or.inr (hw _ (List.mem_of_getElem? (i := 17) rfl))) (ty := .long) (by decide)
  have F_countedOps_b7 : Fld Z h7 b7 "org/sluice/bench/Measurement" "countedOps" "J" (.long (0 : Int64)) := D7 (Or.inr (hw _ (List.mem_of_getElem? (i := 19) rfl))) (ty := .long) (by decide)
  have F_sharedCount_b7 : Fld Z h7 b7 "org/sluice/bench/Measurement" "sharedCount" "J" (.long (0 : Int64)) := D7 (Or.inr (hw _ (List.mem_of_getElem? (i := 21) rfl))) (ty := .long) (by decide)
  have E_b7 := A7
  have Z7 : n0 ≤ h7.size := Nat.le_trans Z6 E7.1
  have g_b7 : n0 ≤ b7 := Nat.le_trans (Nat.le_trans (Nat.le_trans Z0 E5.1) K6.1) (Nat.le_of_eq g7.symm)
  have sz_b7 : h0.size ≤ b7 := (Nat.le_trans K06.1 (Nat.le_of_eq g7.symm))
  have K7 : Keep h0 h7 [] := K06.ext E7
  obtain ⟨_, _, ⟨T8, L8, k8, n8⟩, -, X8, ⟨Lc8, hQ8, l8, y8, z8⟩, st8⟩ := X7.specialBack hx (y := (⟨"org/sluice/bench/Measurement", "<init>", "(JJJJ)V"⟩ : MethodName)) rfl hown (mvT hZ (hw _ (List.mem_of_getElem? (i := 3) rfl))) (mvT hZ (hw _ (List.mem_of_getElem? (i := 4) rfl))) (mvT hZ (hw _ (List.mem_of_getElem? (i := 5) rfl))) (by decide) (backOf (W := 1) (rm1 l Z a0 hw [] b7 q1 q2 q3 (q3 + (1 : Int64)) (.long (0 : Int64)) (.long (0 : Int64)) (.long (0 : Int64)) (.long (0 : Int64)) h7 n0 Z7 E_b7 F_measuredOps_b7 g_b7 F_windowNanos_b7 F_countedOps_b7 F_sharedCount_b7) hZ (hw _ (List.mem_of_getElem? (i := 5) rfl)) (hw _ (List.mem_of_getElem? (i := 2) rfl)) (by decide) (by decide)) (g := (mkF m 43 #[.val (.long q1), .second, .val (.long q2), .second, .val (.long q3), .second, .val (.long q4), .second, .val (.long (1 : Int64)), .second, .val (.ref b5), .unset] [(.long (q3 + (1 : Int64))), (.long q3), (.long q2), (.long q1), (.ref b7), (.ref b7)])) rfl (by rw [hml]; rfl) (Steps.refl _) (a := b7) (argsL := [(.long q1), (.long q2), (.long q3), (.long (q3 + (1 : Int64)))]) (rest := [(.ref b7)]) (lenOf pd_0_0 rfl) rfl (by show 2 * 0 + _ ≤ _; exact Nat.le_of_eq rfl) (hb hby at_43) (fun _ _ => ⟨rfl, e7, (by decide : 2 + 0 ≤ _), (by decide : 8 + 0 ≤ _)⟩)
  dsimp only [Pt.U, Pt.locs, Pt.cells, Pt.slots] at X8 l8 y8 z8 st8 hQ8
  subst l8 y8 z8
  obtain ⟨rfl, N8q, K8, Fc8, Fs8⟩ := hQ8
  have Z8 : n0 ≤ T8.heap.size := Nat.le_trans Z7 K8.1
  have ne57 : b5 ≠ b7 := Nat.ne_of_lt (Nat.lt_of_lt_of_le Fc6.lt (Nat.le_of_eq g7.symm))
  have Fc58 := (Fc6.ext E7).keep K8 (ninS ne57 nin0)
  have Fs58 := (Fs6.ext E7).keep K8 (ninS ne57 nin0)
  have N8 := Fr.app N6 N8q
  obtain ⟨cq9, kq9, q9a, q9b, q9c⟩ := isOf hZ rfl (((E_b5.keep K6).ext E7).keep K8)
  obtain ⟨_, _, ⟨T9, L9, k9, n9⟩, -, X9, ⟨Lc9, hQ9, l9, y9, z9⟩, st9⟩ := X8.virtualBack hx (y := (⟨"org/sluice/bench/Measurement", "checked", "()Z"⟩ : MethodName)) (z := (⟨"org/sluice/bench/Measurement", "checked", "()Z"⟩ : MethodName)) hown (mvT hZ (hw _ (List.mem_of_getElem? (i := 22) rfl))) (mvT hZ (hw _ (List.mem_of_getElem? (i := 23) rfl))) (notFace_of_selects (args := #[]) (mvT hZ (hw _ (List.mem_of_getElem? (i := 25) rfl)))) (mvT hZ (hw _ (List.mem_of_getElem? (i := 25) rfl))) (mvT hZ (hw _ (List.mem_of_getElem? (i := 24) rfl))) (by decide) (backOf (W := 0) (rm4 l Z a0 hw [] b5 q3 q3 T8.heap n0 Z8 Fs58 Fc58) hZ (hw _ (List.mem_of_getElem? (i := 26) rfl)) (hw _ (List.mem_of_getElem? (i := 2) rfl)) (by decide) (by decide)) q9a q9c (g := (mkF m 50 #[.val (.long q1), .second, .val (.long q2), .second, .val (.long q3), .second, .val (.long q4), .second, .val (.long (1 : Int64)), .second, .val (.ref b5), .val (.ref b7)] [(.ref b5)])) rfl (by rw [hml]; rfl) (Steps.refl _) (argsL := []) (rest := []) (lenOf pd_0_2 rfl) rfl (by show 2 * 0 + _ ≤ _; exact Nat.le_of_eq rfl) (hb hby at_50) (fun _ _ => ⟨rfl, rfl, (by decide : 2 + 0 ≤ _), (by decide : 8 + 0 ≤ _)⟩)
  dsimp only [Pt.U, Pt.locs, Pt.cells, Pt.slots] at X9 l9 y9 z9 st9 hQ9
  subst l9 y9 z9
  obtain ⟨rfl, N9q, e9q⟩ := hQ9
  have K9 : Keep T8.heap T9.heap [] := by rw [e9q]; exact Keep.refl _ _
  have Z9 : n0 ≤ T9.heap.size := Nat.le_trans Z8 K9.1
  have N9 := Fr.app N8 N9q
  obtain ⟨cq10, kq10, q10a, q10b, q10c⟩ := isOf hZ rfl ((E_b7.keep K8).keep K9)
  obtain ⟨_, _, ⟨T10, L10, k10, n10⟩, -, X10, ⟨Lc10, hQ10, l10, y10, z10⟩, st10⟩ := X9.virtualBack hx (y := (⟨"org/sluice/bench/Measurement", "checked", "()Z"⟩ : MethodName)) (z := (⟨"org/sluice/bench/Measurement", "checked", "()Z"⟩ : MethodName)) hown (mvT hZ (hw _ (List.mem_of_getElem? (i := 22) rfl))) (mvT hZ (hw _ (List.mem_of_getElem? (i := 23) rfl))) (notFace_of_selects (args := #[]) (mvT hZ (hw _ (List.mem_of_getElem? (i := 25) rfl)))) (mvT hZ (hw _ (List.mem_of_getElem? (i := 25) rfl))) (mvT hZ (hw _ (List.mem_of_getElem? (i := 24) rfl))) (by decide) (backOf (W := 0) (rm4 l Z a0 hw [] b7 (q3 + (1 : Int64)) q3 T9.heap n0 Z9 (Fs8.keep K9 nin0) (Fc8.keep K9 nin0)) hZ (hw _ (List.mem_of_getElem? (i := 26) rfl)) (hw _ (List.mem_of_getElem? (i := 2) rfl)) (by decide) (by decide)) q10a q10c (g := (mkF m 58 #[.val (.long q1), .second, .val (.long q2), .second, .val (.long q3), .second, .val (.long q4), .second, .val (.long (1 : Int64)), .second, .val (.ref b5), .val (.ref b7)] [(.ref b7)])) rfl (by rw [hml]; rfl) (Steps.refl _) (argsL := []) (rest := []) (lenOf pd_0_2 rfl) rfl (by show 2 * 0 + _ ≤ _; exact Nat.le_of_eq rfl) (hb hby at_58) (fun _ _ => ⟨rfl, rfl, (by decide : 2 + 0 ≤ _), (by decide : 8 + 0 ≤ _)⟩)
  dsimp only [Pt.U, Pt.locs, Pt.cells, Pt.slots] at X10 l10 y10 z10 st10 hQ10
  subst l10 y10 z10
  obtain ⟨rfl, N10q, e10q⟩ := hQ10
  have N10 := Fr.app N9 N10q
  obtain ⟨fs, hr, hrun, hended, hW, hsame⟩ := X10.leave (v := some (.int (1 : Int32))) (fun h => by rw [Bd.returns] at h; cases h)
  refine ⟨_, _, pre0 _ ?_, hrun, hended, _, _, rfl, ?_, ⟨_, rfl⟩, hW, hsame.mono (by decide) (by decide)⟩
  · show Steps p.tables e below (s₁.setTop (mkF m 0 #[.val (.long q1), .second, .val (.long q2), .second, .val (.long q3), .second, .val (.long q4), .second, .unset, .unset, .unset, .unset] [])) _
    refine XS.lload X0.here hx rfl (hb hby at_0) rfl ?_
    show Steps p.tables e below (s₁.setTop (mkF m 2 #[.val (.long q1), .second, .val (.long q2), .second, .val (.long q3), .second, .val (.long q4), .second, .unset, .unset, .unset, .unset] [(.long q4)])) _
    refine XS.lconst X0.here hx rfl (hb hby at_2) ?_
    show Steps p.tables e below (s₁.setTop (mkF m 3 #[.val (.long q1), .second, .val (.long q2), .second, .val (.long q3), .second, .val (.long q4), .second, .unset, .unset, .unset, .unset] [(.long (0 : Int64)), (.long q4)])) _
    refine XS.lcmp X0.here hx rfl (hb hby at_3) rfl ?_
    show Steps p.tables e below (s₁.setTop (mkF m 4 #[.val (.long q1), .second, .val (.long q2), .second, .val (.long q3), .second, .val (.long q4), .second, .unset, .unset, .unset, .unset] [(.int (lcmpW q4 (0 : Int64)))])) _
    refine XS.ifYes X0.here hx rfl (pc0 := 4) (pc' := 12) rfl (hb hby at_4) rfl ((if0 _ _).trans (teq hc4).1) (by decide) (by decide) ?_
    show Steps p.tables e below (s₁.setTop (mkF m 12 #[.val (.long q1), .second, .val (.long q2), .second, .val (.long q3), .second, .val (.long q4), .second, .unset, .unset, .unset, .unset] [])) _
    refine XS.lconst X0.here hx rfl (hb hby at_12) ?_
    show Steps p.tables e below (s₁.setTop (mkF m 13 #[.val (.long q1), .second, .val (.long q2), .second, .val (.long q3), .second, .val (.long q4), .second, .unset, .unset, .unset, .unset] [(.long (1 : Int64))])) _
    refine XS.lstore X0.here hx rfl (hb hby at_13) rfl (l' := #[.val (.long q1), .second, .val (.long q2), .second, .val (.long q3), .second, .val (.long q4), .second, .val (.long (1 : Int64)), .second, .unset, .unset]) rfl ?_
    show Steps p.tables e below (s₁.setTop (mkF m 15 #[.val (.long q1), .second, .val (.long q2), .second, .val (.long q3), .second, .val (.long q4), .second, .val (.long (1 : Int64)), .second, .unset, .unset] [])) _
    refine st5 _ ?_
    show Steps p.tables e below (T5.setTop (mkF m 18 #[.val (.long q1), .second, .val (.long q2), .second, .val (.long q3), .second, .val (.long q4), .second, .val (.long (1 : Int64)), .second, .unset, .unset] [(.ref b5)])) _
    refine XS.dup X5.here hx rfl (hb hby at_18) rfl rfl ?_
    show Steps p.tables e below (T5.setTop (mkF m 19 #[.val (.long q1), .second, .val (.long q2), .second, .val (.long q3), .second, .val (.long q4), .second, .val (.long (1 : Int64)), .second, .unset, .unset] [(.ref b5), (.ref b5)])) _
    refine XS.lloadN X5.here hx rfl (hb hby at_19) rfl ?_
    show Steps p.tables e below (T5.setTop (mkF m 20 #[.val (.long q1), .second, .val (.long q2), .second, .val (.long q3), .second, .val (.long q4), .second, .val (.long (1 : Int64)), .second, .unset, .unset] [(.long q1), (.ref b5), (.ref b5)])) _
    refine XS.lloadN X5.here hx rfl (hb hby at_20) rfl ?_
    show Steps p.tables e below (T5.setTop (mkF m 21 #[.val (.long q1), .second, .val (.long q2), .second, .val (.long q3), .second, .val (.long q4), .second, .val (.long (1 : Int64)), .second, .unset, .unset] [(.long q2), (.long q1), (.ref b5), (.ref b5)])) _
    refine XS.lload X5.here hx rfl (hb hby at_21) rfl ?_
    show Steps p.tables e below (T5.setTop (mkF m 23 #[.val (.long q1), .second, .val (.long q2), .second, .val (.long q3), .second, .val (.long q4), .second, .val (.long (1 : Int64)), .second, .unset, .unset] [(.long q3), (.long q2), (.long q1), (.ref b5), (.ref b5)])) _
    refine XS.lload X5.here hx rfl (hb hby at_23) rfl ?_
    show Steps p.tables e below (T5.setTop (mkF m 25 #[.val (.long q1), .second, .val (.long q2), .second, .val (.long q3), .second, .val (.long q4), .second, .val (.long (1 : Int64)), .second, .unset, .unset] [(.long q3), (.long q3), (.long q2), (.long q1), (.ref b5), (.ref b5)])) _
    refine st6.trans ?_
    show Steps p.tables e below (T6.setTop (mkF m 28 #[.val (.long q1), .second, .val (.long q2), .second, .val (.long q3), .second, .val (.long q4), .second, .val (.long (1 : Int64)), .second, .unset, .unset] [(.ref b5)])) _
    refine XS.astore X6.here hx rfl (hb hby at_28) rfl rfl (l' := #[.val (.long q1), .second, .val (.long q2), .second, .val (.long q3), .second, .val (.long q4), .second, .val (.long (1 : Int64)), .second, .val (.ref b5), .unset]) rfl ?_
    show Steps p.tables e below (T6.setTop (mkF m 30 #[.val (.long q1), .second, .val (.long q2), .second, .val (.long q3), .second, .val (.long q4), .second, .val (.long (1 : Int64)), .second, .val (.ref b5), .unset] [])) _
    refine st7 _ ?_
    show Steps p.tables e below (T7.setTop (mkF m 33 #[.val (.long q1), .second, .val (.long q2), .second, .val (.long q3), .second, .val (.long q4), .second, .val (.long (1 : Int64)), .second, .val (.ref b5), .unset] [(.ref b7)])) _
    refine XS.dup X7.here hx rfl (hb hby at_33) rfl rfl ?_
    show Steps p.tables e below (T7.setTop (mkF m 34 #[.val (.long q1), .second, .val (.long q2), .second, .val (.long q3), .second, .val (.long q4), .second, .val (.long (1 : Int64)), .second, .val (.ref b5), .unset] [(.ref b7), (.ref b7)])) _
    refine XS.lloadN X7.here hx rfl (hb hby at_34) rfl ?_
    show Steps p.tables e below (T7.setTop (mkF m 35 #[.val (.long q1), .second, .val (.long q2), .second, .val (.long q3), .second, .val (.long q4), .second, .val (.long (1 : Int64)), .second, .val (.ref b5), .unset] [(.long q1), (.ref b7), (.ref b7)])) _
    refine XS.lloadN X7.here hx rfl (hb hby at_35) rfl ?_
    show Steps p.tables e below (T7.setTop (mkF m 36 #[.val (.long q1), .second, .val (.long q2), .second, .val (.long q3), .second, .val (.long q4), .second, .val (.long (1 : Int64)), .second, .val (.ref b5), .unset] [(.long q2), (.long q1), (.ref b7), (.ref b7)])) _
    refine XS.lload X7.here hx rfl (hb hby at_36) rfl ?_
    show Steps p.tables e below (T7.setTop (mkF m 38 #[.val (.long q1), .second, .val (.long q2), .second, .val (.long q3), .second, .val (.long q4), .second, .val (.long (1 : Int64)), .second, .val (.ref b5), .unset] [(.long q3), (.long q2), (.long q1), (.ref b7), (.ref b7)])) _
    refine XS.lload X7.here hx rfl (hb hby at_38) rfl ?_
    show Steps p.tables e below (T7.setTop (mkF m 40 #[.val (.long q1), .second, .val (.long q2), .second, .val (.long q3), .second, .val (.long q4), .second, .val (.long (1 : Int64)), .second, .val (.ref b5), .unset] [(.long q3), (.long q3), (.long q2), (.long q1), (.ref b7), (.ref b7)])) _
    refine XS.lload X7.here hx rfl (hb hby at_40) rfl ?_
    show Steps p.tables e below (T7.setTop (mkF m 42 #[.val (.long q1), .second, .val (.long q2), .second, .val (.long q3), .second, .val (.long q4), .second, .val (.long (1 : Int64)), .second, .val (.ref b5), .unset] [(.long (1 : Int64)), (.long q3), (.long q3), (.long q2), (.long q1), (.ref b7), (.ref b7)])) _
    refine XS.ladd X7.here hx rfl (hb hby at_42) rfl ?_
    show Steps p.tables e below (T7.setTop (mkF m 43 #[.val (.long q1), .second, .val (.long q2), .second, .val (.long q3), .second, .val (.long q4), .second, .val (.long (1 : Int64)), .second, .val (.ref b5), .unset] [(.long (q3 + (1 : Int64))), (.long q3), (.long q2), (.long q1), (.ref b7), (.ref b7)])) _
    refine st8.trans ?_
    show Steps p.tables e below (T8.setTop (mkF m 46 #[.val (.long q1), .second, .val (.long q2), .second, .val (.long q3), .second, .val (.long q4), .second, .val (.long (1 : Int64)), .second, .val (.ref b5), .unset] [(.ref b7)])) _
    refine XS.astore X8.here hx rfl (hb hby at_46) rfl rfl (l' := #[.val (.long q1), .second, .val (.long q2), .second, .val (.long q3), .second, .val (.long q4), .second, .val (.long (1 : Int64)), .second, .val (.ref b5), .val (.ref b7)]) rfl ?_
    show Steps p.tables e below (T8.setTop (mkF m 48 #[.val (.long q1), .second, .val (.long q2), .second, .val (.long q3), .second, .val (.long q4), .second, .val (.long (1 : Int64)), .second, .val (.ref b5), .val (.ref b7)] [])) _
    refine XS.aload X8.here hx rfl (hb hby at_48) rfl rfl ?_
    show Steps p.tables e below (T8.setTop (mkF m 50 #[.val (.long q1), .second, .val (.long q2), .second, .val (.long q3), .second, .val (.long q4), .second, .val (.long (1 : Int64)), .second, .val (.ref b5), .val (.ref b7)] [(.ref b5)])) _
    refine st9.trans ?_
    show Steps p.tables e below (T9.setTop (mkF m 53 #[.val (.long q1), .second, .val (.long q2), .second, .val (.long q3), .second, .val (.long q4), .second, .val (.long (1 : Int64)), .second, .val (.ref b5), .val (.ref b7)] [(.int (own_chk q3 q3))])) _
    refine XS.ifNo X9.here hx rfl (hb hby at_53) rfl ((if0 _ _).trans (feq (by rw [own_chk, if_pos rfl]; decide : ¬ ((own_chk q3 q3) = (0 : Int32)))).1) ?_
    show Steps p.tables e below (T9.setTop (mkF m 56 #[.val (.long q1), .second, .val (.long q2), .second, .val (.long q3), .second, .val (.long q4), .second, .val (.long (1 : Int64)), .second, .val (.ref b5), .val (.ref b7)] [])) _
    refine XS.aload X9.here hx rfl (hb hby at_56) rfl rfl ?_
    show Steps p.tables e below (T9.setTop (mkF m 58 #[.val (.long q1), .second, .val (.long q2), .second, .val (.long q3), .second, .val (.long q4), .second, .val (.long (1 : Int64)), .second, .val (.ref b5), .val (.ref b7)] [(.ref b7)])) _
    refine st10.trans ?_
    show Steps p.tables e below (T10.setTop (mkF m 61 #[.val (.long q1), .second, .val (.long q2), .second, .val (.long q3), .second, .val (.long q4), .second, .val (.long (1 : Int64)), .second, .val (.ref b5), .val (.ref b7)] [(.int (own_chk (q3 + (1 : Int64)) q3))])) _
    refine XS.ifNo X10.here hx rfl (hb hby at_61) rfl ((if0 _ _).trans (teq (if_neg (own_ne (by decide)) : (own_chk (q3 + (1 : Int64)) q3) = (0 : Int32))).2) ?_
    show Steps p.tables e below (T10.setTop (mkF m 64 #[.val (.long q1), .second, .val (.long q2), .second, .val (.long q3), .second, .val (.long q4), .second, .val (.long (1 : Int64)), .second, .val (.ref b5), .val (.ref b7)] [])) _
    refine XS.iconst X10.here hx rfl (hb hby at_64) ?_
    show Steps p.tables e below (T10.setTop (mkF m 65 #[.val (.long q1), .second, .val (.long q2), .second, .val (.long q3), .second, .val (.long q4), .second, .val (.long (1 : Int64)), .second, .val (.ref b5), .val (.ref b7)] [(.int (1 : Int32))])) _
    refine XS.goto X10.here hx rfl (pc0 := 65) (pc' := 69) rfl (hb hby at_65) (by decide) (by decide) ?_
    show Steps p.tables e below (T10.setTop (mkF m 69 #[.val (.long q1), .second, .val (.long q2), .second, .val (.long q3), .second, .val (.long q4), .second, .val (.long (1 : Int64)), .second, .val (.ref b5), .val (.ref b7)] [(.int (1 : Int32))])) _
    exact retN X10 hx (t := .boolean) Bd.returns (by simp) (hb hby at_69) hr
  · show Q0 Z q1 q2 q3 q4 h0 n0 _ T10.heap _
    exact ⟨rfl, N10⟩
set_option maxRecDepth 65536 in
set_option maxHeartbeats 40000000 in
theorem rm0 (l : Launch) (Z : State) (a0 : Array Value) (hw : ∀ d ∈ tables_1, d.before a0 Z = true) (ws : List Jvm.Cond) (q1 : Int64) (q2 : Int64) (q3 : Int64) (q4 : Int64) (h0 : Heap) (n0 : Nat) (Z0 : n0 ≤ h0.size) :
    MetFree l x (head1 (Jvm.Cond.code x code maxLocals ret :: ws) room_1) (fun a U => a = #[(.long q1), (.long q2), (.long q3), (.long q4)] ∧ Z.Warmed39 U.vm ∧ U.heap = h0) (fun _ _ _ _ _ => True) (fun _ U o U' => ∃ v L, o = .returned v ∧ Q0 Z q1 q2 q3 q4 h0 n0 v U'.heap L ∧ FrameEnd U o U' L room_1.cells room_1.slots) := by
  by_cases c1 : (lcmpW q4 (0 : Int64)) = (0 : Int32)
  · exact rm0_t l Z a0 hw ws q1 q2 q3 q4 h0 n0 Z0 c1
  · exact rm0_f l Z a0 hw ws q1 q2 q3 q4 h0 n0 Z0 c1
set_option maxRecDepth 65536 in
set_option maxHeartbeats 40000000 in
theorem comes_1 {Post : Tables → Env → Array Value → State → Outcome → State → Prop} (hpost : ∀ tb e args s v u, (limb_1_1.after args s (.returned v) u = true ∧ limb_1_2.after args s (.returned v) u = true ∧ True) → FrameEnd s (.returned v) u (Jvm.fieldLocs frame_1_writes args s ++ Jvm.arrayLocs frame_1_arrays args s ++ Jvm.staticLocs frame_1_statics s) 16 128 → Post tb e args s (.returned v) u) :
    ArmFor flags0 classFile x code maxLocals ret World_1 tables_1 room_1 Calls_1 rest_1 Pre_1 Post := by
  intro l hfl _ _ p e ha hc hk s m args below hf hA hF happ hP
  obtain ⟨hcalls, hrest, hpre⟩ := hP
  obtain ⟨-, -, -, hnamed, -, -, -, hat⟩ := (Spec.applies_iff hf).mp happ
  obtain ⟨hg, hn⟩ := and_e (Cond.before_iff.mp (show (Jvm.Cond.and given_1 narrow_1).before args s = true from hpre))
  obtain ⟨g11, g12⟩ := and_e hg
  obtain ⟨g13, g14⟩ := and_e g12
  obtain ⟨g15, g16⟩ := and_e g14
  obtain ⟨g17, g18⟩ := and_e g16
  obtain ⟨w0, w1, w2, w3, rfl⟩ : ∃ w0 w1 w2 w3 : Value, args = #[w0, w1, w2, w3] := by
    have hs : args.size = 4 := by simpa [Cond.value, given_1] using g11
    obtain ⟨L⟩ := args
    match L, hs with
    | [w0, w1, w2, w3], _ => exact ⟨w0, w1, w2, w3, rfl⟩
  have hw := fun d (hd : d ∈ tables_1) => atoms_spec (ws := Jvm.Cond.code x code maxLocals ret :: tables_1) hat d (List.mem_cons_of_mem _ hd)
  have hfit : Fit s := fun {y c} hc i hi => by
    obtain ⟨ha, rfl⟩ := Array.getElem?_eq_some_iff.mp hc
    have q := List.all_eq_true.mp ((Array.all_eq_true_iff_forall_mem.mp hF) _ (Array.getElem_mem ha)) i (List.mem_range.mpr hi)
    simpa [Array.getElem?_eq_getElem hi] using q
  obtain ⟨i0, ei0⟩ := isL_v g13
  obtain rfl : w0 = (.long i0) := Option.some.inj ei0
  obtain ⟨i1, ei1⟩ := isL_v g15
  obtain rfl : w1 = (.long i1) := Option.some.inj ei1
  obtain ⟨i2, ei2⟩ := isL_v g17
  obtain rfl : w2 = (.long i2) := Option.some.inj ei2
  obtain ⟨i3, ei3⟩ := isL_v g18
  obtain rfl : w3 = (.long i3) := Option.some.inj ei3
  obtain ⟨n, o, h1, h2, h3, _, L, rfl, ⟨rfl, N⟩, hq⟩ := rm0 l s _ hw tables_1 i0 i1 i2 i3 s.heap s.heap.size (Nat.le_refl _) p e ha hc hk s m _ below hf ((Spec.applies_iff_loose hf).mp happ).1 ⟨rfl, State.Warmed39.refl s, rfl⟩ trivial
  refine ⟨n, _, h1, h2, h3, hpost _ _ _ _ _ _ ⟨Cond.after_iff.mpr rfl, Cond.after_iff.mpr (eq_i res_at (Term.int_eval (1)) rfl), trivial⟩ ⟨hq.1, hq.2.1, (hq.2.2.sift fun y hy => Or.inr (N y hy)).mono (by decide) (by decide)⟩⟩
theorem main_1_1 : Claimed_1_1 := comes_1 fun _ _ _ _ _ _ h hF => ⟨h.1, hF⟩
theorem main_1_2 : Claimed_1_2 := comes_1 fun _ _ _ _ _ _ h hF => ⟨h.2.1, hF⟩
end Jvm.Pilot.@@N@@
namespace Jvm.Pilot.@@N@@
open Jvm Jvm.ClassFile Sem Op Lib Jvm.Free Jvm.Stand Jvm.Pilot.@@N@@.Jvm.D
/-! MADE BY PROGRAM (witnessworld.py) out of the Statement's table words and the real class files: 8 classes; the members and pool entries that the words name. The judged class is class 1, her method 1. -/
namespace start1
open Jvm.ClassFile
def u (s : String) : CpInfo := .utf8 (stringToUtf16 s)
/-- a pool by its gaps: so many unusable entries, then the entry; so many at the end -/
def gap : Nat → List CpInfo → List CpInfo
  | 0, r => r
  | n + 1, r => .unusable :: gap n r
def poolList (es : List (Nat × CpInfo)) (last : Nat) : List CpInfo := es.foldr (fun e r => gap e.1 (e.2 :: r)) (gap last [])
def pool (es : List (Nat × CpInfo)) (last : Nat) : Array CpInfo := ⟨poolList es last⟩
def fileOf (pool : Array CpInfo) (this : Nat) (attrs : Array Attribute := #[]) (ms : Array MethodInfo := #[]) (fl : Nat := 33) (sup : Nat := 0) (ifs : Array Nat := #[]) (fds : Array FieldInfo := #[]) : ClassFile where
  minorVersion := 0
  majorVersion := 65
  constantPool := pool
  accessFlags := fl
  thisClass := this
  superClass := sup
  interfaces := ifs
  fields := fds
  methods := ms
  attributes := attrs
def plain (name : String) (sup : Option ClassId) : Class where
  name := name
  kind := .ordinary
  loader := none
  accessFlags := 33
  super := sup
  interfaces := #[]
  cf := none
  fields := #[]
  methods := #[]
  instanceTypes := #[]
  staticTypes := #[]
  resolved := #[]
  callSites := []
  init := .initialized
  statics := none
  mirror := none

def pool0 : Array CpInfo := pool [(5, u "<init>"), (0, u "()V"), (1, .class_ 10), (1, u "java/lang/Object")] 113

def k0c0 : Code := { maxStack := 0, maxLocals := 1, code := object_method_1_code, exceptionTable := #[], attributes := #[] }
def k0m0 : Method := { name := "<init>", desc := "()V", sig := { parameters := [], returnType := none }, accessFlags := 1, code := some k0c0 }
/-- java/lang/Object -/
def k0 : Class := { plain "java/lang/Object" none with
  accessFlags := 33
  interfaces := #[]
  cf := some (fileOf pool0 8 #[] #[{ accessFlags := 1, nameIndex := 5, descriptorIndex := 6, attributes := #[] }] 33 0 #[] #[])
  fields := #[]
  methods := #[k0m0]
  instanceTypes := #[]
  staticTypes := #[]
  resolved := Array.replicate 124 none
  statics := none }

def pool1 : Array CpInfo := pool [(2, .class_ 4), (1, u "java/lang/Object"), (0, u "<init>"), (0, u "()V"), (0, .class_ 8), (0, u "org/sluice/bench/Measurement"), (0, .methodref 7 10), (0, .nameAndType 5 11), (0, u "(JJJJ)V"), (0, .methodref 7 13), (0, .nameAndType 14 15), (0, u "checked"), (0, u "()Z"), (0, .class_ 17), (0, u "org/sluice/bench/MeasurementCheckedPinLaw"), (2, u "law"), (0, u "(JJJJ)Z")] 3

def k1m0 : Method := { name := "<init>", desc := "()V", sig := { parameters := [], returnType := none }, accessFlags := 1, code := none }
def k1c1 : Code := { maxStack := 12, maxLocals := 12, code := code, exceptionTable := #[], attributes := #[] }
def k1m1 : Method := { name := "law", desc := "(JJJJ)Z", sig := { parameters := [.long, .long, .long, .long], returnType := some .boolean }, accessFlags := 9, code := some k1c1 }
/-- org/sluice/bench/MeasurementCheckedPinLaw -/
def k1 : Class := { plain "org/sluice/bench/MeasurementCheckedPinLaw" (some 0) with
  accessFlags := 49
  interfaces := #[]
  cf := some (fileOf pool1 16 #[] #[{ accessFlags := 1, nameIndex := 5, descriptorIndex := 6, attributes := #[] }, { accessFlags := 9, nameIndex := 20, descriptorIndex := 21, attributes := #[] }] 49 2 #[] #[])
  fields := #[]
  methods := #[k1m0, k1m1]
  instanceTypes := #[]
  staticTypes := #[]
  resolved := Array.replicate 25 none
  statics := none }

def pool2 : Array CpInfo := pool [(1, .methodref 2 3), (0, .class_ 4), (0, .nameAndType 5 6), (0, u "java/lang/Object"), (0, u "<init>"), (0, u "()V"), (0, .class_ 8), (0, u "java/lang/Record")] 13

def k2c0 : Code := { maxStack := 1, maxLocals := 1, code := jdk_30_method_1_code, exceptionTable := #[], attributes := #[] }
def k2m0 : Method := { name := "<init>", desc := "()V", sig := { parameters := [], returnType := none }, accessFlags := 4, code := some k2c0 }
/-- java/lang/Record -/
def k2 : Class := { plain "java/lang/Record" (some 0) with
  accessFlags := 1057
  interfaces := #[]
  cf := some (fileOf pool2 7 #[] #[{ accessFlags := 4, nameIndex := 5, descriptorIndex := 6, attributes := #[] }] 1057 2 #[] #[])
  fields := #[]
  methods := #[k2m0]
  instanceTypes := #[]
  staticTypes := #[]
  resolved := Array.replicate 22 none
  statics := none }

def pool3 : Array CpInfo := pool [(1, .methodref 2 3), (0, .class_ 4), (0, .nameAndType 5 6), (0, u "java/lang/Record"), (0, u "<init>"), (0, u "()V"), (0, .fieldref 8 9), (0, .class_ 10), (0, .nameAndType 11 12), (0, u "org/sluice/bench/Measurement"), (0, u "measuredOps"), (0, u "J"), (0, .fieldref 8 14), (0, .nameAndType 15 12), (0, u "windowNanos"), (0, .fieldref 8 17), (0, .nameAndType 18 12), (0, u "countedOps"), (0, .fieldref 8 20), (0, .nameAndType 21 12), (0, u "sharedCount"), (2, u "LINE"), (0, u "Ljava/util/regex/Pattern;"), (17, u "()Z"), (12, u "(JJJJ)V"), (62, u "checked")] 26

def k3c0 : Code := { maxStack := 3, maxLocals := 9, code := prog_31_method_1_code, exceptionTable := #[], attributes := #[] }
def k3m0 : Method := { name := "<init>", desc := "(JJJJ)V", sig := { parameters := [.long, .long, .long, .long], returnType := none }, accessFlags := 0, code := some k3c0 }
def k3c1 : Code := { maxStack := 4, maxLocals := 1, code := prog_31_method_5_code, exceptionTable := #[], attributes := #[] }
def k3m1 : Method := { name := "checked", desc := "()Z", sig := { parameters := [], returnType := some .boolean }, accessFlags := 0, code := some k3c1 }
/-- org/sluice/bench/Measurement -/
def k3 : Class := { plain "org/sluice/bench/Measurement" (some 2) with
  accessFlags := 48
  interfaces := #[]
  cf := some (fileOf pool3 8 #[] #[{ accessFlags := 0, nameIndex := 5, descriptorIndex := 56, attributes := #[] }, { accessFlags := 0, nameIndex := 119, descriptorIndex := 43, attributes := #[] }] 48 2 #[] #[{ accessFlags := 18, nameIndex := 11, descriptorIndex := 12, attributes := #[] }, { accessFlags := 18, nameIndex := 15, descriptorIndex := 12, attributes := #[] }, { accessFlags := 18, nameIndex := 18, descriptorIndex := 12, attributes := #[] }, { accessFlags := 18, nameIndex := 21, descriptorIndex := 12, attributes := #[] }, { accessFlags := 26, nameIndex := 24, descriptorIndex := 25, attributes := #[] }])
  fields := #[{ name := "measuredOps", type := .long, accessFlags := 18, slot := 0, constantValue := 0 }, { name := "windowNanos", type := .long, accessFlags := 18, slot := 1, constantValue := 0 }, { name := "countedOps", type := .long, accessFlags := 18, slot := 2, constantValue := 0 }, { name := "sharedCount", type := .long, accessFlags := 18, slot := 3, constantValue := 0 }, { name := "LINE", type := (.object "java/util/regex/Pattern"), accessFlags := 26, slot := 0, constantValue := 0 }]
  methods := #[k3m0, k3m1]
  instanceTypes := #[.long, .long, .long, .long]
  staticTypes := #[(.object "java/util/regex/Pattern")]
  resolved := Array.replicate 146 none
  statics := none }

def pool4 : Array CpInfo := pool [(1, u "java/lang/Cloneable"), (0, .class_ 1), (0, u "java/lang/Object"), (0, .class_ 3)] 3

/-- java/lang/Cloneable -/
def k4 : Class := { plain "java/lang/Cloneable" (some 0) with
  accessFlags := 1537
  interfaces := #[]
  cf := some (fileOf pool4 2 #[] #[] 1537 4 #[] #[])
  fields := #[]
  methods := #[]
  instanceTypes := #[]
  staticTypes := #[]
  resolved := Array.replicate 8 none
  statics := none }

def pool5 : Array CpInfo := pool [(1, u "java/io/Serializable"), (0, .class_ 1), (0, u "java/lang/Object"), (0, .class_ 3)] 3

/-- java/io/Serializable -/
def k5 : Class := { plain "java/io/Serializable" (some 0) with
  accessFlags := 1537
  interfaces := #[]
  cf := some (fileOf pool5 2 #[] #[] 1537 4 #[] #[])
  fields := #[]
  methods := #[]
  instanceTypes := #[]
  staticTypes := #[]
  resolved := Array.replicate 8 none
  statics := none }

/-- the primitive byte -/
def k6 : Class := { plain "byte" none with kind := .primitive 'B', accessFlags := 0x411 }
/-- [B -/
def k7 : Class := { plain "[B" (some 0) with kind := .array 6 .byte, interfaces := #[4, 5], accessFlags := 1041 }

def heap : Heap := #[]
def classes : Array Class := #[k0, k1, k2, k3, k4, k5, k6, k7]
def interned : List (Array UInt16 × Addr) := []
def slotsUsed : Nat := 0
def theMethod : MethodId := ⟨1, 1⟩
def args0 : Array Value := #[.long 1, .long 2, .long 3, .long 4]
def aboutOver (below : List Frame) : State where
  vm := { classes := classes, interned := interned.toArray }
  heap := heap
  slotsUsed := slotsUsed
  threads := #[{ frames := .invoking theMethod args0 :: below }]
def below0 : List Frame := [.native { method := ⟨0, 0⟩, args := #[] }]
def about1 : State := aboutOver below0
def p0 : Program := .bare "" "" ""
def e0 : Env := launch0.env 0 0 0
theorem w_frames : about1.frames = Frame.invoking theMethod args0 :: below0 := rfl
set_option maxRecDepth 65536 in
theorem w_args : argsFit about1.vm theMethod args0 = true := by decide +kernel
set_option maxRecDepth 65536 in
theorem w_heap : heapFits about1 = true := by decide +kernel
set_option maxRecDepth 65536 in
theorem w_runnable : about1.curStatus? = some .runnable := by decide +kernel
set_option maxRecDepth 65536 in
theorem w_alone : about1.alone = true := by decide +kernel
set_option maxRecDepth 65536 in
theorem w_named : about1.methodNamed? x = some theMethod := by decide +kernel
set_option maxRecDepth 65536 in
theorem w_hears : about1.hears theMethod below0 = true := by decide +kernel
set_option maxRecDepth 65536 in
theorem w_ripe : about1.ripe theMethod args0 below0 = true := by decide +kernel
theorem w_running : about1.status = .running := rfl
set_option maxRecDepth 65536 in
theorem w_room : about1.hasRoom e0.platform room_1 = true :=
  launch0.hasRoom_least _ room_1 (by decide +kernel) (by decide +kernel) (by decide +kernel) (by decide +kernel) (by decide +kernel) (by decide +kernel)
theorem allAtoms_all (ts : List Jvm.Cond) (a : Array Jvm.Value) (st : Jvm.State) : (allAtoms ts).before a st = ts.all (fun c => c.before a st) := by
  induction ts with
  | nil => rfl
  | cons c t ih =>
    show (Jvm.Cond.and c (allAtoms t)).before a st = _
    rw [Jvm.Cond.before_and, ih, List.all_cons]
def words1 : List Jvm.Cond := Jvm.Cond.code x code maxLocals ret :: tables_1
/-- a 'code' word, met by the world's own term for the bytes: nothing is compared byte by byte -/
theorem code_word {y : MethodName} {bytes : ByteArray} {mx : Nat} {rt : Option FieldType} {a : Array Value} {s : State} {m : MethodId} {meth : Method} {c : Code} (h1 : s.methodNamed? y = some m) (h2 : s.vm.method? m = some meth) (h3 : meth.code = some c) (h4 : c.code = bytes)
    (h5 : (c.maxLocals == mx && c.exceptionTable.isEmpty && decide (c.maxStack ≤ mostOperands) && decide (meth.sig.returnType = rt) && !meth.locks && decide (parseMethodDescriptor y.desc = some meth.sig)) = true) : (Jvm.Cond.code y bytes mx rt).before a s = true := by
  simp only [Bool.and_eq_true, beq_iff_eq, Bool.not_eq_true', decide_eq_true_eq] at h5
  obtain ⟨⟨⟨⟨⟨g1, g2⟩, g3⟩, g4⟩, g5⟩, g6⟩ := h5
  simp [Cond.before, Cond.holds, Cond.value, h1, h2, h3, h4, g1, g2, g3, g4, g5, g6]
def isCode : Jvm.Cond → Bool
  | .code _ _ _ _ => true
  | _ => false
theorem all_split {L : List Jvm.Cond} {P : Jvm.Cond → Bool} (h1 : L.all (fun c => isCode c || P c) = true) (h2 : ∀ c ∈ L.filter isCode, P c = true) : L.all P = true := by
  refine List.all_eq_true.mpr fun c hc => ?_
  have h := List.all_eq_true.mp h1 c hc
  rcases Bool.eq_false_or_eq_true (isCode c) with hi | hi
  · exact h2 c (List.mem_filter.mpr ⟨hc, hi⟩)
  · simpa [hi] using h
set_option maxRecDepth 65536 in
theorem w_c0 : (Jvm.Cond.code x code maxLocals ret).before args0 about1 = true := code_word (m := ⟨1, 1⟩) (meth := k1m1) (c := k1c1) (by decide +kernel) rfl rfl rfl (by decide +kernel)
set_option maxRecDepth 65536 in
theorem w_c1 : (Jvm.Cond.code ({ cls := "org/sluice/bench/Measurement", name := "<init>", desc := "(JJJJ)V" } : Jvm.MethodName) prog_31_method_1_code (9 : Nat) (Option.none : Option Jvm.ClassFile.FieldType)).before args0 about1 = true := code_word (m := ⟨3, 0⟩) (meth := k3m0) (c := k3c0) (by decide +kernel) rfl rfl rfl (by decide +kernel)
set_option maxRecDepth 65536 in
theorem w_c2 : (Jvm.Cond.code ({ cls := "java/lang/Record", name := "<init>", desc := "()V" } : Jvm.MethodName) jdk_30_method_1_code (1 : Nat) (Option.none : Option Jvm.ClassFile.FieldType)).before args0 about1 = true := code_word (m := ⟨2, 0⟩) (meth := k2m0) (c := k2c0) (by decide +kernel) rfl rfl rfl (by decide +kernel)
set_option maxRecDepth 65536 in
theorem w_c3 : (Jvm.Cond.code ({ cls := "java/lang/Object", name := "<init>", desc := "()V" } : Jvm.MethodName) object_method_1_code (1 : Nat) (Option.none : Option Jvm.ClassFile.FieldType)).before args0 about1 = true := code_word (m := ⟨0, 0⟩) (meth := k0m0) (c := k0c0) (by decide +kernel) rfl rfl rfl (by decide +kernel)
set_option maxRecDepth 65536 in
theorem w_c4 : (Jvm.Cond.code ({ cls := "org/sluice/bench/Measurement", name := "checked", desc := "()Z" } : Jvm.MethodName) prog_31_method_5_code (1 : Nat) (Option.some Jvm.ClassFile.FieldType.boolean)).before args0 about1 = true := code_word (m := ⟨3, 1⟩) (meth := k3m1) (c := k3c1) (by decide +kernel) rfl rfl rfl (by decide +kernel)
def codes1 : List Jvm.Cond := [Jvm.Cond.code x code maxLocals ret, Jvm.Cond.code ({ cls := "org/sluice/bench/Measurement", name := "<init>", desc := "(JJJJ)V" } : Jvm.MethodName) prog_31_method_1_code (9 : Nat) (Option.none : Option Jvm.ClassFile.FieldType), Jvm.Cond.code ({ cls := "java/lang/Record", name := "<init>", desc := "()V" } : Jvm.MethodName) jdk_30_method_1_code (1 : Nat) (Option.none : Option Jvm.ClassFile.FieldType), Jvm.Cond.code ({ cls := "java/lang/Object", name := "<init>", desc := "()V" } : Jvm.MethodName) object_method_1_code (1 : Nat) (Option.none : Option Jvm.ClassFile.FieldType), Jvm.Cond.code ({ cls := "org/sluice/bench/Measurement", name := "checked", desc := "()Z" } : Jvm.MethodName) prog_31_method_5_code (1 : Nat) (Option.some Jvm.ClassFile.FieldType.boolean)]
set_option maxRecDepth 65536 in
theorem codes_eq : words1.filter isCode = codes1 := rfl
theorem w_codes : ∀ c ∈ words1.filter isCode, c.before args0 about1 = true := by
  rw [codes_eq]
  intro c hc
  simp only [codes1, List.mem_cons, List.not_mem_nil, or_false] at hc
  rcases hc with rfl | rfl | rfl | rfl | rfl
  · exact w_c0
  · exact w_c1
  · exact w_c2
  · exact w_c3
  · exact w_c4
set_option maxRecDepth 65536 in
theorem w_t1 : (words1.take 24).all (fun c => isCode c || c.before args0 about1) = true := by decide +kernel
set_option maxRecDepth 65536 in
theorem w_t2 : (words1.drop 24).all (fun c => isCode c || c.before args0 about1) = true := by decide +kernel
theorem w_tables : (allAtoms (Jvm.Cond.code x code maxLocals ret :: tables_1)).before args0 about1 = true := by
  rw [allAtoms_all]
  show words1.all (fun c => c.before args0 about1) = true
  refine all_split ?_ w_codes
  rw [← List.take_append_drop 24 words1, List.all_append, w_t1, w_t2]
  rfl
set_option maxRecDepth 65536 in
theorem w_case : (Jvm.Cond.and given_1 narrow_1).before args0 about1 = true := by decide +kernel
theorem w_applies : (headSpec (Jvm.Cond.code x code maxLocals ret :: tables_1) room_1).applies x e0.platform about1 = true :=
  (Spec.applies_iff w_frames).mpr ⟨w_running, w_runnable, w_alone, w_named, w_hears, w_ripe, w_room, w_tables⟩
theorem atStart : AtStart classFile x code maxLocals ret World_1 tables_1 room_1 Calls_1 rest_1 Pre_1 launch0 p0 e0 about1 theMethod args0 below0 :=
  ⟨lists_1, trivial, launch0.admits_env _ _ _, launch0.least_env, fairChoices_fair.cas, fairChoices_fair.clock, w_frames, w_args, w_heap, w_applies, trivial, trivial, w_case⟩
end start1
theorem witness_1 : WitnessClaimed_1 := ⟨start1.p0, start1.e0, start1.about1, start1.theMethod, start1.args0, start1.below0, start1.atStart⟩
end Jvm.Pilot.@@N@@
