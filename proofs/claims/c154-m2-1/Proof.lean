import JvmDerived
import JvmDerived.Pilot.@@N@@Statement
import JvmDerived.Pilot.@@N@@Code
set_option linter.unusedVariables false
set_option linter.unusedSimpArgs false
namespace Jvm.RoadKit
open Sem ClassFile Op Lib Jvm.Stand Jvm.Free Jvm.LawKit
section New
variable {p : Program} {l : Launch} {e : Env} {R : Room} {s : State} {m : MethodId} {args : Array Value} {below : List Frame} {meth : Method} {c : Code} {T : State} {locs : List Loc} {cells slots : Nat}
theorem retI (X : Stand p l e R s m args below meth c T locs cells slots) (hx : p.tables.exec = Jvm.exec) {pc : Nat} {Ls : Array Slot} {z : Int32} {rest : List Value} (hret : meth.sig.returnType = some .int) (hd : decode c.code pc = .ok (.ireturn, 1)) {fs : List Frame}
    (hl : ∀ (f : JFrame) (acts : List Action), f.method = m → f.locked = none → f.entered = [] → (doReturn e (T.setTop f) acts (some (.int z))).1 = T.setFrames fs) : Steps p.tables e below (T.setTop (mkF m pc Ls (.int z :: rest))) (T.setFrames fs) := by
  have hm' : T.vm.method? m = some meth := X.method'
  have hn : narrow .int (.int z) = .int z := rfl
  show Steps p.tables e below (T.setTop { method := m, pc := pc, locals := Ls, stack := _ :: rest, locked := none }) _
  jvm_step X.here [X.here.top, hx, hd, hm', hret, hn]
  first | (intro acts; rw [hl _ acts rfl rfl rfl]) | rw [hl _ _ rfl rfl rfl]
  exact Steps.refl _
theorem retJ (X : Stand p l e R s m args below meth c T locs cells slots) (hx : p.tables.exec = Jvm.exec) {pc : Nat} {Ls : Array Slot} {z : Int64} {rest : List Value} (hret : meth.sig.returnType = some .long) (hd : decode c.code pc = .ok (.lreturn, 1)) {fs : List Frame}
    (hl : ∀ (f : JFrame) (acts : List Action), f.method = m → f.locked = none → f.entered = [] → (doReturn e (T.setTop f) acts (some (.long z))).1 = T.setFrames fs) : Steps p.tables e below (T.setTop (mkF m pc Ls (.long z :: rest))) (T.setFrames fs) := by
  have hm' : T.vm.method? m = some meth := X.method'
  have hn : narrow .long (.long z) = .long z := rfl
  show Steps p.tables e below (T.setTop { method := m, pc := pc, locals := Ls, stack := _ :: rest, locked := none }) _
  jvm_step X.here [X.here.top, hx, hd, hm', hret, hn]
  first | (intro acts; rw [hl _ acts rfl rfl rfl]) | rw [hl _ _ rfl rfl rfl]
  exact Steps.refl _
end New
end Jvm.RoadKit
namespace Jvm.Pilot.@@N@@
open Jvm Jvm.ClassFile Sem Op Lib Jvm.Free Jvm.Stand Jvm.LawKit Jvm.RoadKit Bundle Jvm.Pilot.@@N@@.Jvm.D
def own_mix (q1 : Int64) : Int64 := (((((q1 ^^^ ((q1.toUInt64 >>> ((30 : Int32) &&& 0x3f).toInt64.toUInt64).toInt64)) * (-4658895280553007687 : Int64)) ^^^ ((((q1 ^^^ ((q1.toUInt64 >>> ((30 : Int32) &&& 0x3f).toInt64.toUInt64).toInt64)) * (-4658895280553007687 : Int64)).toUInt64 >>> ((27 : Int32) &&& 0x3f).toInt64.toUInt64).toInt64)) * (-7723592293110705685 : Int64)) ^^^ ((((((q1 ^^^ ((q1.toUInt64 >>> ((30 : Int32) &&& 0x3f).toInt64.toUInt64).toInt64)) * (-4658895280553007687 : Int64)) ^^^ ((((q1 ^^^ ((q1.toUInt64 >>> ((30 : Int32) &&& 0x3f).toInt64.toUInt64).toInt64)) * (-4658895280553007687 : Int64)).toUInt64 >>> ((27 : Int32) &&& 0x3f).toInt64.toUInt64).toInt64)) * (-7723592293110705685 : Int64)).toUInt64 >>> ((31 : Int32) &&& 0x3f).toInt64.toUInt64).toInt64))
theorem own_2g (s : Int64) : s + (-7046029254386353131 : Int64) + (-7046029254386353131 : Int64) = s + ((2 : Int64) * (-7046029254386353131 : Int64)) := by
  rw [Int64.add_assoc]
  have h : (-7046029254386353131 : Int64) + (-7046029254386353131 : Int64) = (2 : Int64) * (-7046029254386353131 : Int64) := by decide
  rw [h]
theorem own_anchor : own_mix (own_mix ((-(-7046029254386353131 : Int64)) + (((0 : Int64) + (1 : Int64)) * (-7046029254386353131 : Int64))) + (-7046029254386353131 : Int64)) = (-2152535657050944081 : Int64) := by decide +kernel
theorem d2_0 : decode prog_51_method_5_code 0 = .ok (.lload_n 0, 1) := by decide +kernel
theorem d2_1 : decode prog_51_method_5_code 1 = .ok (.lload_n 0, 1) := by decide +kernel
theorem d2_2 : decode prog_51_method_5_code 2 = .ok (.bipush 30, 2) := by decide +kernel
theorem d2_4 : decode prog_51_method_5_code 4 = .ok (.lushr, 1) := by decide +kernel
theorem d2_5 : decode prog_51_method_5_code 5 = .ok (.lxor, 1) := by decide +kernel
theorem d2_6 : decode prog_51_method_5_code 6 = .ok (.ldc2_w 26, 3) := by decide +kernel
theorem d2_9 : decode prog_51_method_5_code 9 = .ok (.lmul, 1) := by decide +kernel
theorem d2_10 : decode prog_51_method_5_code 10 = .ok (.lstore_n 2, 1) := by decide +kernel
theorem d2_11 : decode prog_51_method_5_code 11 = .ok (.lload_n 2, 1) := by decide +kernel
theorem d2_12 : decode prog_51_method_5_code 12 = .ok (.lload_n 2, 1) := by decide +kernel
theorem d2_13 : decode prog_51_method_5_code 13 = .ok (.bipush 27, 2) := by decide +kernel
theorem d2_15 : decode prog_51_method_5_code 15 = .ok (.lushr, 1) := by decide +kernel
theorem d2_16 : decode prog_51_method_5_code 16 = .ok (.lxor, 1) := by decide +kernel
theorem d2_17 : decode prog_51_method_5_code 17 = .ok (.ldc2_w 28, 3) := by decide +kernel
theorem d2_20 : decode prog_51_method_5_code 20 = .ok (.lmul, 1) := by decide +kernel
theorem d2_21 : decode prog_51_method_5_code 21 = .ok (.lstore_n 2, 1) := by decide +kernel
theorem d2_22 : decode prog_51_method_5_code 22 = .ok (.lload_n 2, 1) := by decide +kernel
theorem d2_23 : decode prog_51_method_5_code 23 = .ok (.lload_n 2, 1) := by decide +kernel
theorem d2_24 : decode prog_51_method_5_code 24 = .ok (.bipush 31, 2) := by decide +kernel
theorem d2_26 : decode prog_51_method_5_code 26 = .ok (.lushr, 1) := by decide +kernel
theorem d2_27 : decode prog_51_method_5_code 27 = .ok (.lxor, 1) := by decide +kernel
theorem d2_28 : decode prog_51_method_5_code 28 = .ok (.lreturn, 1) := by decide +kernel
theorem pn_2 : plainName "com/example/demine/demine/solver/SplitMix" = true := by first | (simp [plainName, overriddenIn]; done) | decide +kernel
theorem ef_2 (m : MethodId) (x0 : Int64) : entryFrame m #[(.long x0)] 4 = mkF m 0 #[.val (.long x0), .second, .unset, .unset] [] := by first | (simp [entryFrame, mkF, argsToLocals, Value.category]; done) | rfl
def Q2 (Z : State) (q1 : Int64) (h0 : Heap) (n0 : Nat) (v : Option Value) (h : Heap) (L : List Loc) : Prop := v = some (.long (own_mix q1)) ∧ Fr n0 L ∧ h = h0
set_option maxRecDepth 65536 in
set_option maxHeartbeats 40000000 in
theorem rm2 (l : Launch) (Z : State) (a0 : Array Value) (hw : ∀ d ∈ tables_1, d.before a0 Z = true) (ws : List Jvm.Cond) (q1 : Int64) (h0 : Heap) (n0 : Nat) (Z0 : n0 ≤ h0.size) :
    MetFree l (⟨"com/example/demine/demine/solver/SplitMix", "mix", "(J)J"⟩ : MethodName) (head1 (Jvm.Cond.code (⟨"com/example/demine/demine/solver/SplitMix", "mix", "(J)J"⟩ : MethodName) prog_51_method_5_code 4 (some .long) :: ws) ({ frames := 0, cells := 0, slots := 0, locals := 0 } : Room)) (fun a U => a = #[(.long q1)] ∧ Z.Warmed39 U.vm ∧ U.heap = h0) (fun _ _ _ _ _ => True) (fun _ U o U' => ∃ v L, o = .returned v ∧ Q2 Z q1 h0 n0 v U'.heap L ∧ FrameEnd U o U' L ({ frames := 0, cells := 0, slots := 0, locals := 0 } : Room).cells ({ frames := 0, cells := 0, slots := 0, locals := 0 } : Room).slots) := by
  refine MetFree.of_bodySF (plainFor_of_name pn_2) hisR ?_
  intro p e s m args below meth c s₁ Bd hml0 hP hK
  obtain ⟨rfl, hZ, hh⟩ := hP
  have hx := Bd.exec
  have hby := Bd.bytes
  have hml : c.maxLocals = 4 := hml0
  have hown : s.vm.findClass "com/example/demine/demine/solver/SplitMix" = some m.cls := findClass_of_methodNamed Bd.named
  have hnm := (name_of_methodNamed Bd.named Bd.method).1
  have X0 : Stand p l e ({ frames := 0, cells := 0, slots := 0, locals := 0 } : Room) s m #[(.long q1)] below meth c s₁ [] 0 0 := Stand.of_body Bd
  have e0 : s₁.heap = h0 := by rw [← hh, Bd.state]; rfl
  have N0 := Fr.nil n0
  have pre0 : ∀ t, Steps p.tables e below (s₁.setTop (mkF m 0 #[.val (.long q1), .second, .unset, .unset] [])) t → Steps p.tables e below (s₁.setTop (entryFrame m #[(.long q1)] 4)) t := fun t k => castTop (ef_2 m q1) k
  obtain ⟨fs, hr, hrun, hended, hW, hsame⟩ := X0.leave (v := some (.long (((((q1 ^^^ ((q1.toUInt64 >>> ((30 : Int32) &&& 0x3f).toInt64.toUInt64).toInt64)) * (-4658895280553007687 : Int64)) ^^^ ((((q1 ^^^ ((q1.toUInt64 >>> ((30 : Int32) &&& 0x3f).toInt64.toUInt64).toInt64)) * (-4658895280553007687 : Int64)).toUInt64 >>> ((27 : Int32) &&& 0x3f).toInt64.toUInt64).toInt64)) * (-7723592293110705685 : Int64)) ^^^ ((((((q1 ^^^ ((q1.toUInt64 >>> ((30 : Int32) &&& 0x3f).toInt64.toUInt64).toInt64)) * (-4658895280553007687 : Int64)) ^^^ ((((q1 ^^^ ((q1.toUInt64 >>> ((30 : Int32) &&& 0x3f).toInt64.toUInt64).toInt64)) * (-4658895280553007687 : Int64)).toUInt64 >>> ((27 : Int32) &&& 0x3f).toInt64.toUInt64).toInt64)) * (-7723592293110705685 : Int64)).toUInt64 >>> ((31 : Int32) &&& 0x3f).toInt64.toUInt64).toInt64)))) (fun h => by rw [Bd.returns] at h; cases h)
  refine ⟨_, _, pre0 _ ?_, hrun, hended, _, _, rfl, ?_, ⟨_, rfl⟩, hW, hsame.mono (by decide) (by decide)⟩
  · show Steps p.tables e below (s₁.setTop (mkF m 0 #[.val (.long q1), .second, .unset, .unset] [])) _
    refine XS.lloadN X0.here hx rfl (hb hby d2_0) rfl ?_
    show Steps p.tables e below (s₁.setTop (mkF m 1 #[.val (.long q1), .second, .unset, .unset] [(.long q1)])) _
    refine XS.lloadN X0.here hx rfl (hb hby d2_1) rfl ?_
    show Steps p.tables e below (s₁.setTop (mkF m 2 #[.val (.long q1), .second, .unset, .unset] [(.long q1), (.long q1)])) _
    refine XS.bipush X0.here hx rfl (hb hby d2_2) ?_
    show Steps p.tables e below (s₁.setTop (mkF m 4 #[.val (.long q1), .second, .unset, .unset] [(.int (30 : Int32)), (.long q1), (.long q1)])) _
    refine XS.lushr X0.here hx rfl (hb hby d2_4) rfl ?_
    show Steps p.tables e below (s₁.setTop (mkF m 5 #[.val (.long q1), .second, .unset, .unset] [(.long ((q1.toUInt64 >>> ((30 : Int32) &&& 0x3f).toInt64.toUInt64).toInt64)), (.long q1)])) _
    refine XS.lxor X0.here hx rfl (hb hby d2_5) rfl ?_
    show Steps p.tables e below (s₁.setTop (mkF m 6 #[.val (.long q1), .second, .unset, .unset] [(.long (q1 ^^^ ((q1.toUInt64 >>> ((30 : Int32) &&& 0x3f).toInt64.toUInt64).toInt64)))])) _
    refine X0.ldc2Long hx hown (mvT hZ (hw _ (List.mem_of_getElem? (i := 11) rfl))) (g := (mkF m 6 #[.val (.long q1), .second, .unset, .unset] [(.long (q1 ^^^ ((q1.toUInt64 >>> ((30 : Int32) &&& 0x3f).toInt64.toUInt64).toInt64)))])) rfl (hb hby d2_6) _ ?_
    show Steps p.tables e below (s₁.setTop (mkF m 9 #[.val (.long q1), .second, .unset, .unset] [(.long (-4658895280553007687 : Int64)), (.long (q1 ^^^ ((q1.toUInt64 >>> ((30 : Int32) &&& 0x3f).toInt64.toUInt64).toInt64)))])) _
    refine XS.lmul X0.here hx rfl (hb hby d2_9) rfl ?_
    show Steps p.tables e below (s₁.setTop (mkF m 10 #[.val (.long q1), .second, .unset, .unset] [(.long ((q1 ^^^ ((q1.toUInt64 >>> ((30 : Int32) &&& 0x3f).toInt64.toUInt64).toInt64)) * (-4658895280553007687 : Int64)))])) _
    refine XS.lstoreN X0.here hx rfl (hb hby d2_10) rfl (l' := #[.val (.long q1), .second, .val (.long ((q1 ^^^ ((q1.toUInt64 >>> ((30 : Int32) &&& 0x3f).toInt64.toUInt64).toInt64)) * (-4658895280553007687 : Int64))), .second]) rfl ?_
    show Steps p.tables e below (s₁.setTop (mkF m 11 #[.val (.long q1), .second, .val (.long ((q1 ^^^ ((q1.toUInt64 >>> ((30 : Int32) &&& 0x3f).toInt64.toUInt64).toInt64)) * (-4658895280553007687 : Int64))), .second] [])) _
    refine XS.lloadN X0.here hx rfl (hb hby d2_11) rfl ?_
    show Steps p.tables e below (s₁.setTop (mkF m 12 #[.val (.long q1), .second, .val (.long ((q1 ^^^ ((q1.toUInt64 >>> ((30 : Int32) &&& 0x3f).toInt64.toUInt64).toInt64)) * (-4658895280553007687 : Int64))), .second] [(.long ((q1 ^^^ ((q1.toUInt64 >>> ((30 : Int32) &&& 0x3f).toInt64.toUInt64).toInt64)) * (-4658895280553007687 : Int64)))])) _
    refine XS.lloadN X0.here hx rfl (hb hby d2_12) rfl ?_
    show Steps p.tables e below (s₁.setTop (mkF m 13 #[.val (.long q1), .second, .val (.long ((q1 ^^^ ((q1.toUInt64 >>> ((30 : Int32) &&& 0x3f).toInt64.toUInt64).toInt64)) * (-4658895280553007687 : Int64))), .second] [(.long ((q1 ^^^ ((q1.toUInt64 >>> ((30 : Int32) &&& 0x3f).toInt64.toUInt64).toInt64)) * (-4658895280553007687 : Int64))), (.long ((q1 ^^^ ((q1.toUInt64 >>> ((30 : Int32) &&& 0x3f).toInt64.toUInt64).toInt64)) * (-4658895280553007687 : Int64)))])) _
    refine XS.bipush X0.here hx rfl (hb hby d2_13) ?_
    show Steps p.tables e below (s₁.setTop (mkF m 15 #[.val (.long q1), .second, .val (.long ((q1 ^^^ ((q1.toUInt64 >>> ((30 : Int32) &&& 0x3f).toInt64.toUInt64).toInt64)) * (-4658895280553007687 : Int64))), .second] [(.int (27 : Int32)), (.long ((q1 ^^^ ((q1.toUInt64 >>> ((30 : Int32) &&& 0x3f).toInt64.toUInt64).toInt64)) * (-4658895280553007687 : Int64))), (.long ((q1 ^^^ ((q1.toUInt64 >>> ((30 : Int32) &&& 0x3f).toInt64.toUInt64).toInt64)) * (-4658895280553007687 : Int64)))])) _
    refine XS.lushr X0.here hx rfl (hb hby d2_15) rfl ?_
    show Steps p.tables e below (s₁.setTop (mkF m 16 #[.val (.long q1), .second, .val (.long ((q1 ^^^ ((q1.toUInt64 >>> ((30 : Int32) &&& 0x3f).toInt64.toUInt64).toInt64)) * (-4658895280553007687 : Int64))), .second] [(.long ((((q1 ^^^ ((q1.toUInt64 >>> ((30 : Int32) &&& 0x3f).toInt64.toUInt64).toInt64)) * (-4658895280553007687 : Int64)).toUInt64 >>> ((27 : Int32) &&& 0x3f).toInt64.toUInt64).toInt64)), (.long ((q1 ^^^ ((q1.toUInt64 >>> ((30 : Int32) &&& 0x3f).toInt64.toUInt64).toInt64)) * (-4658895280553007687 : Int64)))])) _
    refine XS.lxor X0.here hx rfl (hb hby d2_16) rfl ?_
    show Steps p.tables e below (s₁.setTop (mkF m 17 #[.val (.long q1), .second, .val (.long ((q1 ^^^ ((q1.toUInt64 >>> ((30 : Int32) &&& 0x3f).toInt64.toUInt64).toInt64)) * (-4658895280553007687 : Int64))), .second] [(.long (((q1 ^^^ ((q1.toUInt64 >>> ((30 : Int32) &&& 0x3f).toInt64.toUInt64).toInt64)) * (-4658895280553007687 : Int64)) ^^^ ((((q1 ^^^ ((q1.toUInt64 >>> ((30 : Int32) &&& 0x3f).toInt64.toUInt64).toInt64)) * (-4658895280553007687 : Int64)).toUInt64 >>> ((27 : Int32) &&& 0x3f).toInt64.toUInt64).toInt64)))])) _
    refine X0.ldc2Long hx hown (mvT hZ (hw _ (List.mem_of_getElem? (i := 12) rfl))) (g := (mkF m 17 #[.val (.long q1), .second, .val (.long ((q1 ^^^ ((q1.toUInt64 >>> ((30 : Int32) &&& 0x3f).toInt64.toUInt64).toInt64)) * (-4658895280553007687 : Int64))), .second] [(.long (((q1 ^^^ ((q1.toUInt64 >>> ((30 : Int32) &&& 0x3f).toInt64.toUInt64).toInt64)) * (-4658895280553007687 : Int64)) ^^^ ((((q1 ^^^ ((q1.toUInt64 >>> ((30 : Int32) &&& 0x3f).toInt64.toUInt64).toInt64)) * (-4658895280553007687 : Int64)).toUInt64 >>> ((27 : Int32) &&& 0x3f).toInt64.toUInt64).toInt64)))])) rfl (hb hby d2_17) _ ?_
    show Steps p.tables e below (s₁.setTop (mkF m 20 #[.val (.long q1), .second, .val (.long ((q1 ^^^ ((q1.toUInt64 >>> ((30 : Int32) &&& 0x3f).toInt64.toUInt64).toInt64)) * (-4658895280553007687 : Int64))), .second] [(.long (-7723592293110705685 : Int64)), (.long (((q1 ^^^ ((q1.toUInt64 >>> ((30 : Int32) &&& 0x3f).toInt64.toUInt64).toInt64)) * (-4658895280553007687 : Int64)) ^^^ ((((q1 ^^^ ((q1.toUInt64 >>> ((30 : Int32) &&& 0x3f).toInt64.toUInt64).toInt64)) * (-4658895280553007687 : Int64)).toUInt64 >>> ((27 : Int32) &&& 0x3f).toInt64.toUInt64).toInt64)))])) _
    refine XS.lmul X0.here hx rfl (hb hby d2_20) rfl ?_
    show Steps p.tables e below (s₁.setTop (mkF m 21 #[.val (.long q1), .second, .val (.long ((q1 ^^^ ((q1.toUInt64 >>> ((30 : Int32) &&& 0x3f).toInt64.toUInt64).toInt64)) * (-4658895280553007687 : Int64))), .second] [(.long ((((q1 ^^^ ((q1.toUInt64 >>> ((30 : Int32) &&& 0x3f).toInt64.toUInt64).toInt64)) * (-4658895280553007687 : Int64)) ^^^ ((((q1 ^^^ ((q1.toUInt64 >>> ((30 : Int32) &&& 0x3f).toInt64.toUInt64).toInt64)) * (-4658895280553007687 : Int64)).toUInt64 >>> ((27 : Int32) &&& 0x3f).toInt64.toUInt64).toInt64)) * (-7723592293110705685 : Int64)))])) _
    refine XS.lstoreN X0.here hx rfl (hb hby d2_21) rfl (l' := #[.val (.long q1), .second, .val (.long ((((q1 ^^^ ((q1.toUInt64 >>> ((30 : Int32) &&& 0x3f).toInt64.toUInt64).toInt64)) * (-4658895280553007687 : Int64)) ^^^ ((((q1 ^^^ ((q1.toUInt64 >>> ((30 : Int32) &&& 0x3f).toInt64.toUInt64).toInt64)) * (-4658895280553007687 : Int64)).toUInt64 >>> ((27 : Int32) &&& 0x3f).toInt64.toUInt64).toInt64)) * (-7723592293110705685 : Int64))), .second]) rfl ?_
    show Steps p.tables e below (s₁.setTop (mkF m 22 #[.val (.long q1), .second, .val (.long ((((q1 ^^^ ((q1.toUInt64 >>> ((30 : Int32) &&& 0x3f).toInt64.toUInt64).toInt64)) * (-4658895280553007687 : Int64)) ^^^ ((((q1 ^^^ ((q1.toUInt64 >>> ((30 : Int32) &&& 0x3f).toInt64.toUInt64).toInt64)) * (-4658895280553007687 : Int64)).toUInt64 >>> ((27 : Int32) &&& 0x3f).toInt64.toUInt64).toInt64)) * (-7723592293110705685 : Int64))), .second] [])) _
    refine XS.lloadN X0.here hx rfl (hb hby d2_22) rfl ?_
    show Steps p.tables e below (s₁.setTop (mkF m 23 #[.val (.long q1), .second, .val (.long ((((q1 ^^^ ((q1.toUInt64 >>> ((30 : Int32) &&& 0x3f).toInt64.toUInt64).toInt64)) * (-4658895280553007687 : Int64)) ^^^ ((((q1 ^^^ ((q1.toUInt64 >>> ((30 : Int32) &&& 0x3f).toInt64.toUInt64).toInt64)) * (-4658895280553007687 : Int64)).toUInt64 >>> ((27 : Int32) &&& 0x3f).toInt64.toUInt64).toInt64)) * (-7723592293110705685 : Int64))), .second] [(.long ((((q1 ^^^ ((q1.toUInt64 >>> ((30 : Int32) &&& 0x3f).toInt64.toUInt64).toInt64)) * (-4658895280553007687 : Int64)) ^^^ ((((q1 ^^^ ((q1.toUInt64 >>> ((30 : Int32) &&& 0x3f).toInt64.toUInt64).toInt64)) * (-4658895280553007687 : Int64)).toUInt64 >>> ((27 : Int32) &&& 0x3f).toInt64.toUInt64).toInt64)) * (-7723592293110705685 : Int64)))])) _
    refine XS.lloadN X0.here hx rfl (hb hby d2_23) rfl ?_
    show Steps p.tables e below (s₁.setTop (mkF m 24 #[.val (.long q1), .second, .val (.long ((((q1 ^^^ ((q1.toUInt64 >>> ((30 : Int32) &&& 0x3f).toInt64.toUInt64).toInt64)) * (-4658895280553007687 : Int64)) ^^^ ((((q1 ^^^ ((q1.toUInt64 >>> ((30 : Int32) &&& 0x3f).toInt64.toUInt64).toInt64)) * (-4658895280553007687 : Int64)).toUInt64 >>> ((27 : Int32) &&& 0x3f).toInt64.toUInt64).toInt64)) * (-7723592293110705685 : Int64))), .second] [(.long ((((q1 ^^^ ((q1.toUInt64 >>> ((30 : Int32) &&& 0x3f).toInt64.toUInt64).toInt64)) * (-4658895280553007687 : Int64)) ^^^ ((((q1 ^^^ ((q1.toUInt64 >>> ((30 : Int32) &&& 0x3f).toInt64.toUInt64).toInt64)) * (-4658895280553007687 : Int64)).toUInt64 >>> ((27 : Int32) &&& 0x3f).toInt64.toUInt64).toInt64)) * (-7723592293110705685 : Int64))), (.long ((((q1 ^^^ ((q1.toUInt64 >>> ((30 : Int32) &&& 0x3f).toInt64.toUInt64).toInt64)) * (-4658895280553007687 : Int64)) ^^^ ((((q1 ^^^ ((q1.toUInt64 >>> ((30 : Int32) &&& 0x3f).toInt64.toUInt64).toInt64)) * (-4658895280553007687 : Int64)).toUInt64 >>> ((27 : Int32) &&& 0x3f).toInt64.toUInt64).toInt64)) * (-7723592293110705685 : Int64)))])) _
    refine XS.bipush X0.here hx rfl (hb hby d2_24) ?_
    show Steps p.tables e below (s₁.setTop (mkF m 26 #[.val (.long q1), .second, .val (.long ((((q1 ^^^ ((q1.toUInt64 >>> ((30 : Int32) &&& 0x3f).toInt64.toUInt64).toInt64)) * (-4658895280553007687 : Int64)) ^^^ ((((q1 ^^^ ((q1.toUInt64 >>> ((30 : Int32) &&& 0x3f).toInt64.toUInt64).toInt64)) * (-4658895280553007687 : Int64)).toUInt64 >>> ((27 : Int32) &&& 0x3f).toInt64.toUInt64).toInt64)) * (-7723592293110705685 : Int64))), .second] [(.int (31 : Int32)), (.long ((((q1 ^^^ ((q1.toUInt64 >>> ((30 : Int32) &&& 0x3f).toInt64.toUInt64).toInt64)) * (-4658895280553007687 : Int64)) ^^^ ((((q1 ^^^ ((q1.toUInt64 >>> ((30 : Int32) &&& 0x3f).toInt64.toUInt64).toInt64)) * (-4658895280553007687 : Int64)).toUInt64 >>> ((27 : Int32) &&& 0x3f).toInt64.toUInt64).toInt64)) * (-7723592293110705685 : Int64))), (.long ((((q1 ^^^ ((q1.toUInt64 >>> ((30 : Int32) &&& 0x3f).toInt64.toUInt64).toInt64)) * (-4658895280553007687 : Int64)) ^^^ ((((q1 ^^^ ((q1.toUInt64 >>> ((30 : Int32) &&& 0x3f).toInt64.toUInt64).toInt64)) * (-4658895280553007687 : Int64)).toUInt64 >>> ((27 : Int32) &&& 0x3f).toInt64.toUInt64).toInt64)) * (-7723592293110705685 : Int64)))])) _
    refine XS.lushr X0.here hx rfl (hb hby d2_26) rfl ?_
    show Steps p.tables e below (s₁.setTop (mkF m 27 #[.val (.long q1), .second, .val (.long ((((q1 ^^^ ((q1.toUInt64 >>> ((30 : Int32) &&& 0x3f).toInt64.toUInt64).toInt64)) * (-4658895280553007687 : Int64)) ^^^ ((((q1 ^^^ ((q1.toUInt64 >>> ((30 : Int32) &&& 0x3f).toInt64.toUInt64).toInt64)) * (-4658895280553007687 : Int64)).toUInt64 >>> ((27 : Int32) &&& 0x3f).toInt64.toUInt64).toInt64)) * (-7723592293110705685 : Int64))), .second] [(.long ((((((q1 ^^^ ((q1.toUInt64 >>> ((30 : Int32) &&& 0x3f).toInt64.toUInt64).toInt64)) * (-4658895280553007687 : Int64)) ^^^ ((((q1 ^^^ ((q1.toUInt64 >>> ((30 : Int32) &&& 0x3f).toInt64.toUInt64).toInt64)) * (-4658895280553007687 : Int64)).toUInt64 >>> ((27 : Int32) &&& 0x3f).toInt64.toUInt64).toInt64)) * (-7723592293110705685 : Int64)).toUInt64 >>> ((31 : Int32) &&& 0x3f).toInt64.toUInt64).toInt64)), (.long ((((q1 ^^^ ((q1.toUInt64 >>> ((30 : Int32) &&& 0x3f).toInt64.toUInt64).toInt64)) * (-4658895280553007687 : Int64)) ^^^ ((((q1 ^^^ ((q1.toUInt64 >>> ((30 : Int32) &&& 0x3f).toInt64.toUInt64).toInt64)) * (-4658895280553007687 : Int64)).toUInt64 >>> ((27 : Int32) &&& 0x3f).toInt64.toUInt64).toInt64)) * (-7723592293110705685 : Int64)))])) _
    refine XS.lxor X0.here hx rfl (hb hby d2_27) rfl ?_
    show Steps p.tables e below (s₁.setTop (mkF m 28 #[.val (.long q1), .second, .val (.long ((((q1 ^^^ ((q1.toUInt64 >>> ((30 : Int32) &&& 0x3f).toInt64.toUInt64).toInt64)) * (-4658895280553007687 : Int64)) ^^^ ((((q1 ^^^ ((q1.toUInt64 >>> ((30 : Int32) &&& 0x3f).toInt64.toUInt64).toInt64)) * (-4658895280553007687 : Int64)).toUInt64 >>> ((27 : Int32) &&& 0x3f).toInt64.toUInt64).toInt64)) * (-7723592293110705685 : Int64))), .second] [(.long (((((q1 ^^^ ((q1.toUInt64 >>> ((30 : Int32) &&& 0x3f).toInt64.toUInt64).toInt64)) * (-4658895280553007687 : Int64)) ^^^ ((((q1 ^^^ ((q1.toUInt64 >>> ((30 : Int32) &&& 0x3f).toInt64.toUInt64).toInt64)) * (-4658895280553007687 : Int64)).toUInt64 >>> ((27 : Int32) &&& 0x3f).toInt64.toUInt64).toInt64)) * (-7723592293110705685 : Int64)) ^^^ ((((((q1 ^^^ ((q1.toUInt64 >>> ((30 : Int32) &&& 0x3f).toInt64.toUInt64).toInt64)) * (-4658895280553007687 : Int64)) ^^^ ((((q1 ^^^ ((q1.toUInt64 >>> ((30 : Int32) &&& 0x3f).toInt64.toUInt64).toInt64)) * (-4658895280553007687 : Int64)).toUInt64 >>> ((27 : Int32) &&& 0x3f).toInt64.toUInt64).toInt64)) * (-7723592293110705685 : Int64)).toUInt64 >>> ((31 : Int32) &&& 0x3f).toInt64.toUInt64).toInt64)))])) _
    exact retJ X0 hx Bd.returns (hb hby d2_28) hr
  · show Q2 Z q1 h0 n0 _ s₁.heap _
    rw [e0]
    exact ⟨rfl, N0, rfl⟩
theorem d6_0 : decode method_3_code 0 = .ok (.lload_n 0, 1) := by decide +kernel
theorem d6_1 : decode method_3_code 1 = .ok (.lload_n 0, 1) := by decide +kernel
theorem d6_2 : decode method_3_code 2 = .ok (.bipush 30, 2) := by decide +kernel
theorem d6_4 : decode method_3_code 4 = .ok (.lushr, 1) := by decide +kernel
theorem d6_5 : decode method_3_code 5 = .ok (.lxor, 1) := by decide +kernel
theorem d6_6 : decode method_3_code 6 = .ok (.ldc2_w 29, 3) := by decide +kernel
theorem d6_9 : decode method_3_code 9 = .ok (.lmul, 1) := by decide +kernel
theorem d6_10 : decode method_3_code 10 = .ok (.lstore_n 2, 1) := by decide +kernel
theorem d6_11 : decode method_3_code 11 = .ok (.lload_n 2, 1) := by decide +kernel
theorem d6_12 : decode method_3_code 12 = .ok (.lload_n 2, 1) := by decide +kernel
theorem d6_13 : decode method_3_code 13 = .ok (.bipush 27, 2) := by decide +kernel
theorem d6_15 : decode method_3_code 15 = .ok (.lushr, 1) := by decide +kernel
theorem d6_16 : decode method_3_code 16 = .ok (.lxor, 1) := by decide +kernel
theorem d6_17 : decode method_3_code 17 = .ok (.ldc2_w 31, 3) := by decide +kernel
theorem d6_20 : decode method_3_code 20 = .ok (.lmul, 1) := by decide +kernel
theorem d6_21 : decode method_3_code 21 = .ok (.lstore 4, 2) := by decide +kernel
theorem d6_23 : decode method_3_code 23 = .ok (.lload 4, 2) := by decide +kernel
theorem d6_25 : decode method_3_code 25 = .ok (.lload 4, 2) := by decide +kernel
theorem d6_27 : decode method_3_code 27 = .ok (.bipush 31, 2) := by decide +kernel
theorem d6_29 : decode method_3_code 29 = .ok (.lushr, 1) := by decide +kernel
theorem d6_30 : decode method_3_code 30 = .ok (.lxor, 1) := by decide +kernel
theorem d6_31 : decode method_3_code 31 = .ok (.lreturn, 1) := by decide +kernel
theorem pn_6 : plainName "com/example/demine/demine/solver/SplitMixForGamePinLaw" = true := by first | (simp [plainName, overriddenIn]; done) | decide +kernel
theorem ef_6 (m : MethodId) (x0 : Int64) : entryFrame m #[(.long x0)] 6 = mkF m 0 #[.val (.long x0), .second, .unset, .unset, .unset, .unset] [] := by first | (simp [entryFrame, mkF, argsToLocals, Value.category]; done) | rfl
def Q6 (Z : State) (q1 : Int64) (h0 : Heap) (n0 : Nat) (v : Option Value) (h : Heap) (L : List Loc) : Prop := v = some (.long (own_mix q1)) ∧ Fr n0 L ∧ h = h0
set_option maxRecDepth 65536 in
set_option maxHeartbeats 40000000 in
theorem rm6 (l : Launch) (Z : State) (a0 : Array Value) (hw : ∀ d ∈ tables_1, d.before a0 Z = true) (ws : List Jvm.Cond) (q1 : Int64) (h0 : Heap) (n0 : Nat) (Z0 : n0 ≤ h0.size) :
    MetFree l (⟨"com/example/demine/demine/solver/SplitMixForGamePinLaw", "mix64", "(J)J"⟩ : MethodName) (head1 (Jvm.Cond.code (⟨"com/example/demine/demine/solver/SplitMixForGamePinLaw", "mix64", "(J)J"⟩ : MethodName) method_3_code 6 (some .long) :: ws) ({ frames := 0, cells := 0, slots := 0, locals := 0 } : Room)) (fun a U => a = #[(.long q1)] ∧ Z.Warmed39 U.vm ∧ U.heap = h0) (fun _ _ _ _ _ => True) (fun _ U o U' => ∃ v L, o = .returned v ∧ Q6 Z q1 h0 n0 v U'.heap L ∧ FrameEnd U o U' L ({ frames := 0, cells := 0, slots := 0, locals := 0 } : Room).cells ({ frames := 0, cells := 0, slots := 0, locals := 0 } : Room).slots) := by
  refine MetFree.of_bodySF (plainFor_of_name pn_6) hisR ?_
  intro p e s m args below meth c s₁ Bd hml0 hP hK
  obtain ⟨rfl, hZ, hh⟩ := hP
  have hx := Bd.exec
  have hby := Bd.bytes
  have hml : c.maxLocals = 6 := hml0
  have hown : s.vm.findClass "com/example/demine/demine/solver/SplitMixForGamePinLaw" = some m.cls := findClass_of_methodNamed Bd.named
  have hnm := (name_of_methodNamed Bd.named Bd.method).1
  have X0 : Stand p l e ({ frames := 0, cells := 0, slots := 0, locals := 0 } : Room) s m #[(.long q1)] below meth c s₁ [] 0 0 := Stand.of_body Bd
  have e0 : s₁.heap = h0 := by rw [← hh, Bd.state]; rfl
  have N0 := Fr.nil n0
  have pre0 : ∀ t, Steps p.tables e below (s₁.setTop (mkF m 0 #[.val (.long q1), .second, .unset, .unset, .unset, .unset] [])) t → Steps p.tables e below (s₁.setTop (entryFrame m #[(.long q1)] 6)) t := fun t k => castTop (ef_6 m q1) k
  obtain ⟨fs, hr, hrun, hended, hW, hsame⟩ := X0.leave (v := some (.long (((((q1 ^^^ ((q1.toUInt64 >>> ((30 : Int32) &&& 0x3f).toInt64.toUInt64).toInt64)) * (-4658895280553007687 : Int64)) ^^^ ((((q1 ^^^ ((q1.toUInt64 >>> ((30 : Int32) &&& 0x3f).toInt64.toUInt64).toInt64)) * (-4658895280553007687 : Int64)).toUInt64 >>> ((27 : Int32) &&& 0x3f).toInt64.toUInt64).toInt64)) * (-7723592293110705685 : Int64)) ^^^ ((((((q1 ^^^ ((q1.toUInt64 >>> ((30 : Int32) &&& 0x3f).toInt64.toUInt64).toInt64)) * (-4658895280553007687 : Int64)) ^^^ ((((q1 ^^^ ((q1.toUInt64 >>> ((30 : Int32) &&& 0x3f).toInt64.toUInt64).toInt64)) * (-4658895280553007687 : Int64)).toUInt64 >>> ((27 : Int32) &&& 0x3f).toInt64.toUInt64).toInt64)) * (-7723592293110705685 : Int64)).toUInt64 >>> ((31 : Int32) &&& 0x3f).toInt64.toUInt64).toInt64)))) (fun h => by rw [Bd.returns] at h; cases h)
  refine ⟨_, _, pre0 _ ?_, hrun, hended, _, _, rfl, ?_, ⟨_, rfl⟩, hW, hsame.mono (by decide) (by decide)⟩
  · show Steps p.tables e below (s₁.setTop (mkF m 0 #[.val (.long q1), .second, .unset, .unset, .unset, .unset] [])) _
    refine XS.lloadN X0.here hx rfl (hb hby d6_0) rfl ?_
    show Steps p.tables e below (s₁.setTop (mkF m 1 #[.val (.long q1), .second, .unset, .unset, .unset, .unset] [(.long q1)])) _
    refine XS.lloadN X0.here hx rfl (hb hby d6_1) rfl ?_
    show Steps p.tables e below (s₁.setTop (mkF m 2 #[.val (.long q1), .second, .unset, .unset, .unset, .unset] [(.long q1), (.long q1)])) _
    refine XS.bipush X0.here hx rfl (hb hby d6_2) ?_
    show Steps p.tables e below (s₁.setTop (mkF m 4 #[.val (.long q1), .second, .unset, .unset, .unset, .unset] [(.int (30 : Int32)), (.long q1), (.long q1)])) _
    refine XS.lushr X0.here hx rfl (hb hby d6_4) rfl ?_
    show Steps p.tables e below (s₁.setTop (mkF m 5 #[.val (.long q1), .second, .unset, .unset, .unset, .unset] [(.long ((q1.toUInt64 >>> ((30 : Int32) &&& 0x3f).toInt64.toUInt64).toInt64)), (.long q1)])) _
    refine XS.lxor X0.here hx rfl (hb hby d6_5) rfl ?_
    show Steps p.tables e below (s₁.setTop (mkF m 6 #[.val (.long q1), .second, .unset, .unset, .unset, .unset] [(.long (q1 ^^^ ((q1.toUInt64 >>> ((30 : Int32) &&& 0x3f).toInt64.toUInt64).toInt64)))])) _
    refine X0.ldc2Long hx hown (mvT hZ (hw _ (List.mem_of_getElem? (i := 30) rfl))) (g := (mkF m 6 #[.val (.long q1), .second, .unset, .unset, .unset, .unset] [(.long (q1 ^^^ ((q1.toUInt64 >>> ((30 : Int32) &&& 0x3f).toInt64.toUInt64).toInt64)))])) rfl (hb hby d6_6) _ ?_
    show Steps p.tables e below (s₁.setTop (mkF m 9 #[.val (.long q1), .second, .unset, .unset, .unset, .unset] [(.long (-4658895280553007687 : Int64)), (.long (q1 ^^^ ((q1.toUInt64 >>> ((30 : Int32) &&& 0x3f).toInt64.toUInt64).toInt64)))])) _
    refine XS.lmul X0.here hx rfl (hb hby d6_9) rfl ?_
    show Steps p.tables e below (s₁.setTop (mkF m 10 #[.val (.long q1), .second, .unset, .unset, .unset, .unset] [(.long ((q1 ^^^ ((q1.toUInt64 >>> ((30 : Int32) &&& 0x3f).toInt64.toUInt64).toInt64)) * (-4658895280553007687 : Int64)))])) _
    refine XS.lstoreN X0.here hx rfl (hb hby d6_10) rfl (l' := #[.val (.long q1), .second, .val (.long ((q1 ^^^ ((q1.toUInt64 >>> ((30 : Int32) &&& 0x3f).toInt64.toUInt64).toInt64)) * (-4658895280553007687 : Int64))), .second, .unset, .unset]) rfl ?_
    show Steps p.tables e below (s₁.setTop (mkF m 11 #[.val (.long q1), .second, .val (.long ((q1 ^^^ ((q1.toUInt64 >>> ((30 : Int32) &&& 0x3f).toInt64.toUInt64).toInt64)) * (-4658895280553007687 : Int64))), .second, .unset, .unset] [])) _
    refine XS.lloadN X0.here hx rfl (hb hby d6_11) rfl ?_
    show Steps p.tables e below (s₁.setTop (mkF m 12 #[.val (.long q1), .second, .val (.long ((q1 ^^^ ((q1.toUInt64 >>> ((30 : Int32) &&& 0x3f).toInt64.toUInt64).toInt64)) * (-4658895280553007687 : Int64))), .second, .unset, .unset] [(.long ((q1 ^^^ ((q1.toUInt64 >>> ((30 : Int32) &&& 0x3f).toInt64.toUInt64).toInt64)) * (-4658895280553007687 : Int64)))])) _
    refine XS.lloadN X0.here hx rfl (hb hby d6_12) rfl ?_
    show Steps p.tables e below (s₁.setTop (mkF m 13 #[.val (.long q1), .second, .val (.long ((q1 ^^^ ((q1.toUInt64 >>> ((30 : Int32) &&& 0x3f).toInt64.toUInt64).toInt64)) * (-4658895280553007687 : Int64))), .second, .unset, .unset] [(.long ((q1 ^^^ ((q1.toUInt64 >>> ((30 : Int32) &&& 0x3f).toInt64.toUInt64).toInt64)) * (-4658895280553007687 : Int64))), (.long ((q1 ^^^ ((q1.toUInt64 >>> ((30 : Int32) &&& 0x3f).toInt64.toUInt64).toInt64)) * (-4658895280553007687 : Int64)))])) _
    refine XS.bipush X0.here hx rfl (hb hby d6_13) ?_
    show Steps p.tables e below (s₁.setTop (mkF m 15 #[.val (.long q1), .second, .val (.long ((q1 ^^^ ((q1.toUInt64 >>> ((30 : Int32) &&& 0x3f).toInt64.toUInt64).toInt64)) * (-4658895280553007687 : Int64))), .second, .unset, .unset] [(.int (27 : Int32)), (.long ((q1 ^^^ ((q1.toUInt64 >>> ((30 : Int32) &&& 0x3f).toInt64.toUInt64).toInt64)) * (-4658895280553007687 : Int64))), (.long ((q1 ^^^ ((q1.toUInt64 >>> ((30 : Int32) &&& 0x3f).toInt64.toUInt64).toInt64)) * (-4658895280553007687 : Int64)))])) _
    refine XS.lushr X0.here hx rfl (hb hby d6_15) rfl ?_
    show Steps p.tables e below (s₁.setTop (mkF m 16 #[.val (.long q1), .second, .val (.long ((q1 ^^^ ((q1.toUInt64 >>> ((30 : Int32) &&& 0x3f).toInt64.toUInt64).toInt64)) * (-4658895280553007687 : Int64))), .second, .unset, .unset] [(.long ((((q1 ^^^ ((q1.toUInt64 >>> ((30 : Int32) &&& 0x3f).toInt64.toUInt64).toInt64)) * (-4658895280553007687 : Int64)).toUInt64 >>> ((27 : Int32) &&& 0x3f).toInt64.toUInt64).toInt64)), (.long ((q1 ^^^ ((q1.toUInt64 >>> ((30 : Int32) &&& 0x3f).toInt64.toUInt64).toInt64)) * (-4658895280553007687 : Int64)))])) _
    refine XS.lxor X0.here hx rfl (hb hby d6_16) rfl ?_
    show Steps p.tables e below (s₁.setTop (mkF m 17 #[.val (.long q1), .second, .val (.long ((q1 ^^^ ((q1.toUInt64 >>> ((30 : Int32) &&& 0x3f).toInt64.toUInt64).toInt64)) * (-4658895280553007687 : Int64))), .second, .unset, .unset] [(.long (((q1 ^^^ ((q1.toUInt64 >>> ((30 : Int32) &&& 0x3f).toInt64.toUInt64).toInt64)) * (-4658895280553007687 : Int64)) ^^^ ((((q1 ^^^ ((q1.toUInt64 >>> ((30 : Int32) &&& 0x3f).toInt64.toUInt64).toInt64)) * (-4658895280553007687 : Int64)).toUInt64 >>> ((27 : Int32) &&& 0x3f).toInt64.toUInt64).toInt64)))])) _
    refine X0.ldc2Long hx hown (mvT hZ (hw _ (List.mem_of_getElem? (i := 31) rfl))) (g := (mkF m 17 #[.val (.long q1), .second, .val (.long ((q1 ^^^ ((q1.toUInt64 >>> ((30 : Int32) &&& 0x3f).toInt64.toUInt64).toInt64)) * (-4658895280553007687 : Int64))), .second, .unset, .unset] [(.long (((q1 ^^^ ((q1.toUInt64 >>> ((30 : Int32) &&& 0x3f).toInt64.toUInt64).toInt64)) * (-4658895280553007687 : Int64)) ^^^ ((((q1 ^^^ ((q1.toUInt64 >>> ((30 : Int32) &&& 0x3f).toInt64.toUInt64).toInt64)) * (-4658895280553007687 : Int64)).toUInt64 >>> ((27 : Int32) &&& 0x3f).toInt64.toUInt64).toInt64)))])) rfl (hb hby d6_17) _ ?_
    show Steps p.tables e below (s₁.setTop (mkF m 20 #[.val (.long q1), .second, .val (.long ((q1 ^^^ ((q1.toUInt64 >>> ((30 : Int32) &&& 0x3f).toInt64.toUInt64).toInt64)) * (-4658895280553007687 : Int64))), .second, .unset, .unset] [(.long (-7723592293110705685 : Int64)), (.long (((q1 ^^^ ((q1.toUInt64 >>> ((30 : Int32) &&& 0x3f).toInt64.toUInt64).toInt64)) * (-4658895280553007687 : Int64)) ^^^ ((((q1 ^^^ ((q1.toUInt64 >>> ((30 : Int32) &&& 0x3f).toInt64.toUInt64).toInt64)) * (-4658895280553007687 : Int64)).toUInt64 >>> ((27 : Int32) &&& 0x3f).toInt64.toUInt64).toInt64)))])) _
    refine XS.lmul X0.here hx rfl (hb hby d6_20) rfl ?_
    show Steps p.tables e below (s₁.setTop (mkF m 21 #[.val (.long q1), .second, .val (.long ((q1 ^^^ ((q1.toUInt64 >>> ((30 : Int32) &&& 0x3f).toInt64.toUInt64).toInt64)) * (-4658895280553007687 : Int64))), .second, .unset, .unset] [(.long ((((q1 ^^^ ((q1.toUInt64 >>> ((30 : Int32) &&& 0x3f).toInt64.toUInt64).toInt64)) * (-4658895280553007687 : Int64)) ^^^ ((((q1 ^^^ ((q1.toUInt64 >>> ((30 : Int32) &&& 0x3f).toInt64.toUInt64).toInt64)) * (-4658895280553007687 : Int64)).toUInt64 >>> ((27 : Int32) &&& 0x3f).toInt64.toUInt64).toInt64)) * (-7723592293110705685 : Int64)))])) _
    refine XS.lstore X0.here hx rfl (hb hby d6_21) rfl (l' := #[.val (.long q1), .second, .val (.long ((q1 ^^^ ((q1.toUInt64 >>> ((30 : Int32) &&& 0x3f).toInt64.toUInt64).toInt64)) * (-4658895280553007687 : Int64))), .second, .val (.long ((((q1 ^^^ ((q1.toUInt64 >>> ((30 : Int32) &&& 0x3f).toInt64.toUInt64).toInt64)) * (-4658895280553007687 : Int64)) ^^^ ((((q1 ^^^ ((q1.toUInt64 >>> ((30 : Int32) &&& 0x3f).toInt64.toUInt64).toInt64)) * (-4658895280553007687 : Int64)).toUInt64 >>> ((27 : Int32) &&& 0x3f).toInt64.toUInt64).toInt64)) * (-7723592293110705685 : Int64))), .second]) rfl ?_
    show Steps p.tables e below (s₁.setTop (mkF m 23 #[.val (.long q1), .second, .val (.long ((q1 ^^^ ((q1.toUInt64 >>> ((30 : Int32) &&& 0x3f).toInt64.toUInt64).toInt64)) * (-4658895280553007687 : Int64))), .second, .val (.long ((((q1 ^^^ ((q1.toUInt64 >>> ((30 : Int32) &&& 0x3f).toInt64.toUInt64).toInt64)) * (-4658895280553007687 : Int64)) ^^^ ((((q1 ^^^ ((q1.toUInt64 >>> ((30 : Int32) &&& 0x3f).toInt64.toUInt64).toInt64)) * (-4658895280553007687 : Int64)).toUInt64 >>> ((27 : Int32) &&& 0x3f).toInt64.toUInt64).toInt64)) * (-7723592293110705685 : Int64))), .second] [])) _
    refine XS.lload X0.here hx rfl (hb hby d6_23) rfl ?_
    show Steps p.tables e below (s₁.setTop (mkF m 25 #[.val (.long q1), .second, .val (.long ((q1 ^^^ ((q1.toUInt64 >>> ((30 : Int32) &&& 0x3f).toInt64.toUInt64).toInt64)) * (-4658895280553007687 : Int64))), .second, .val (.long ((((q1 ^^^ ((q1.toUInt64 >>> ((30 : Int32) &&& 0x3f).toInt64.toUInt64).toInt64)) * (-4658895280553007687 : Int64)) ^^^ ((((q1 ^^^ ((q1.toUInt64 >>> ((30 : Int32) &&& 0x3f).toInt64.toUInt64).toInt64)) * (-4658895280553007687 : Int64)).toUInt64 >>> ((27 : Int32) &&& 0x3f).toInt64.toUInt64).toInt64)) * (-7723592293110705685 : Int64))), .second] [(.long ((((q1 ^^^ ((q1.toUInt64 >>> ((30 : Int32) &&& 0x3f).toInt64.toUInt64).toInt64)) * (-4658895280553007687 : Int64)) ^^^ ((((q1 ^^^ ((q1.toUInt64 >>> ((30 : Int32) &&& 0x3f).toInt64.toUInt64).toInt64)) * (-4658895280553007687 : Int64)).toUInt64 >>> ((27 : Int32) &&& 0x3f).toInt64.toUInt64).toInt64)) * (-7723592293110705685 : Int64)))])) _
    refine XS.lload X0.here hx rfl (hb hby d6_25) rfl ?_
    show Steps p.tables e below (s₁.setTop (mkF m 27 #[.val (.long q1), .second, .val (.long ((q1 ^^^ ((q1.toUInt64 >>> ((30 : Int32) &&& 0x3f).toInt64.toUInt64).toInt64)) * (-4658895280553007687 : Int64))), .second, .val (.long ((((q1 ^^^ ((q1.toUInt64 >>> ((30 : Int32) &&& 0x3f).toInt64.toUInt64).toInt64)) * (-4658895280553007687 : Int64)) ^^^ ((((q1 ^^^ ((q1.toUInt64 >>> ((30 : Int32) &&& 0x3f).toInt64.toUInt64).toInt64)) * (-4658895280553007687 : Int64)).toUInt64 >>> ((27 : Int32) &&& 0x3f).toInt64.toUInt64).toInt64)) * (-7723592293110705685 : Int64))), .second] [(.long ((((q1 ^^^ ((q1.toUInt64 >>> ((30 : Int32) &&& 0x3f).toInt64.toUInt64).toInt64)) * (-4658895280553007687 : Int64)) ^^^ ((((q1 ^^^ ((q1.toUInt64 >>> ((30 : Int32) &&& 0x3f).toInt64.toUInt64).toInt64)) * (-4658895280553007687 : Int64)).toUInt64 >>> ((27 : Int32) &&& 0x3f).toInt64.toUInt64).toInt64)) * (-7723592293110705685 : Int64))), (.long ((((q1 ^^^ ((q1.toUInt64 >>> ((30 : Int32) &&& 0x3f).toInt64.toUInt64).toInt64)) * (-4658895280553007687 : Int64)) ^^^ ((((q1 ^^^ ((q1.toUInt64 >>> ((30 : Int32) &&& 0x3f).toInt64.toUInt64).toInt64)) * (-4658895280553007687 : Int64)).toUInt64 >>> ((27 : Int32) &&& 0x3f).toInt64.toUInt64).toInt64)) * (-7723592293110705685 : Int64)))])) _
    refine XS.bipush X0.here hx rfl (hb hby d6_27) ?_
    show Steps p.tables e below (s₁.setTop (mkF m 29 #[.val (.long q1), .second, .val (.long ((q1 ^^^ ((q1.toUInt64 >>> ((30 : Int32) &&& 0x3f).toInt64.toUInt64).toInt64)) * (-4658895280553007687 : Int64))), .second, .val (.long ((((q1 ^^^ ((q1.toUInt64 >>> ((30 : Int32) &&& 0x3f).toInt64.toUInt64).toInt64)) * (-4658895280553007687 : Int64)) ^^^ ((((q1 ^^^ ((q1.toUInt64 >>> ((30 : Int32) &&& 0x3f).toInt64.toUInt64).toInt64)) * (-4658895280553007687 : Int64)).toUInt64 >>> ((27 : Int32) &&& 0x3f).toInt64.toUInt64).toInt64)) * (-7723592293110705685 : Int64))), .second] [(.int (31 : Int32)), (.long ((((q1 ^^^ ((q1.toUInt64 >>> ((30 : Int32) &&& 0x3f).toInt64.toUInt64).toInt64)) * (-4658895280553007687 : Int64)) ^^^ ((((q1 ^^^ ((q1.toUInt64 >>> ((30 : Int32) &&& 0x3f).toInt64.toUInt64).toInt64)) * (-4658895280553007687 : Int64)).toUInt64 >>> ((27 : Int32) &&& 0x3f).toInt64.toUInt64).toInt64)) * (-7723592293110705685 : Int64))), (.long ((((q1 ^^^ ((q1.toUInt64 >>> ((30 : Int32) &&& 0x3f).toInt64.toUInt64).toInt64)) * (-4658895280553007687 : Int64)) ^^^ ((((q1 ^^^ ((q1.toUInt64 >>> ((30 : Int32) &&& 0x3f).toInt64.toUInt64).toInt64)) * (-4658895280553007687 : Int64)).toUInt64 >>> ((27 : Int32) &&& 0x3f).toInt64.toUInt64).toInt64)) * (-7723592293110705685 : Int64)))])) _
    refine XS.lushr X0.here hx rfl (hb hby d6_29) rfl ?_
    show Steps p.tables e below (s₁.setTop (mkF m 30 #[.val (.long q1), .second, .val (.long ((q1 ^^^ ((q1.toUInt64 >>> ((30 : Int32) &&& 0x3f).toInt64.toUInt64).toInt64)) * (-4658895280553007687 : Int64))), .second, .val (.long ((((q1 ^^^ ((q1.toUInt64 >>> ((30 : Int32) &&& 0x3f).toInt64.toUInt64).toInt64)) * (-4658895280553007687 : Int64)) ^^^ ((((q1 ^^^ ((q1.toUInt64 >>> ((30 : Int32) &&& 0x3f).toInt64.toUInt64).toInt64)) * (-4658895280553007687 : Int64)).toUInt64 >>> ((27 : Int32) &&& 0x3f).toInt64.toUInt64).toInt64)) * (-7723592293110705685 : Int64))), .second] [(.long ((((((q1 ^^^ ((q1.toUInt64 >>> ((30 : Int32) &&& 0x3f).toInt64.toUInt64).toInt64)) * (-4658895280553007687 : Int64)) ^^^ ((((q1 ^^^ ((q1.toUInt64 >>> ((30 : Int32) &&& 0x3f).toInt64.toUInt64).toInt64)) * (-4658895280553007687 : Int64)).toUInt64 >>> ((27 : Int32) &&& 0x3f).toInt64.toUInt64).toInt64)) * (-7723592293110705685 : Int64)).toUInt64 >>> ((31 : Int32) &&& 0x3f).toInt64.toUInt64).toInt64)), (.long ((((q1 ^^^ ((q1.toUInt64 >>> ((30 : Int32) &&& 0x3f).toInt64.toUInt64).toInt64)) * (-4658895280553007687 : Int64)) ^^^ ((((q1 ^^^ ((q1.toUInt64 >>> ((30 : Int32) &&& 0x3f).toInt64.toUInt64).toInt64)) * (-4658895280553007687 : Int64)).toUInt64 >>> ((27 : Int32) &&& 0x3f).toInt64.toUInt64).toInt64)) * (-7723592293110705685 : Int64)))])) _
    refine XS.lxor X0.here hx rfl (hb hby d6_30) rfl ?_
    show Steps p.tables e below (s₁.setTop (mkF m 31 #[.val (.long q1), .second, .val (.long ((q1 ^^^ ((q1.toUInt64 >>> ((30 : Int32) &&& 0x3f).toInt64.toUInt64).toInt64)) * (-4658895280553007687 : Int64))), .second, .val (.long ((((q1 ^^^ ((q1.toUInt64 >>> ((30 : Int32) &&& 0x3f).toInt64.toUInt64).toInt64)) * (-4658895280553007687 : Int64)) ^^^ ((((q1 ^^^ ((q1.toUInt64 >>> ((30 : Int32) &&& 0x3f).toInt64.toUInt64).toInt64)) * (-4658895280553007687 : Int64)).toUInt64 >>> ((27 : Int32) &&& 0x3f).toInt64.toUInt64).toInt64)) * (-7723592293110705685 : Int64))), .second] [(.long (((((q1 ^^^ ((q1.toUInt64 >>> ((30 : Int32) &&& 0x3f).toInt64.toUInt64).toInt64)) * (-4658895280553007687 : Int64)) ^^^ ((((q1 ^^^ ((q1.toUInt64 >>> ((30 : Int32) &&& 0x3f).toInt64.toUInt64).toInt64)) * (-4658895280553007687 : Int64)).toUInt64 >>> ((27 : Int32) &&& 0x3f).toInt64.toUInt64).toInt64)) * (-7723592293110705685 : Int64)) ^^^ ((((((q1 ^^^ ((q1.toUInt64 >>> ((30 : Int32) &&& 0x3f).toInt64.toUInt64).toInt64)) * (-4658895280553007687 : Int64)) ^^^ ((((q1 ^^^ ((q1.toUInt64 >>> ((30 : Int32) &&& 0x3f).toInt64.toUInt64).toInt64)) * (-4658895280553007687 : Int64)).toUInt64 >>> ((27 : Int32) &&& 0x3f).toInt64.toUInt64).toInt64)) * (-7723592293110705685 : Int64)).toUInt64 >>> ((31 : Int32) &&& 0x3f).toInt64.toUInt64).toInt64)))])) _
    exact retJ X0 hx Bd.returns (hb hby d6_31) hr
  · show Q6 Z q1 h0 n0 _ s₁.heap _
    rw [e0]
    exact ⟨rfl, N0, rfl⟩
theorem d3_0 : decode prog_51_method_1_code 0 = .ok (.aload_n 0, 1) := by decide +kernel
theorem d3_1 : decode prog_51_method_1_code 1 = .ok (.invokespecial 1, 3) := by decide +kernel
theorem d3_4 : decode prog_51_method_1_code 4 = .ok (.aload_n 0, 1) := by decide +kernel
theorem d3_5 : decode prog_51_method_1_code 5 = .ok (.lload_n 1, 1) := by decide +kernel
theorem d3_6 : decode prog_51_method_1_code 6 = .ok (.putfield 7, 3) := by decide +kernel
theorem d3_9 : decode prog_51_method_1_code 9 = .ok (.return_, 1) := by decide +kernel
theorem pn_3 : plainName "com/example/demine/demine/solver/SplitMix" = true := by first | (simp [plainName, overriddenIn]; done) | decide +kernel
theorem ef_3 (m : MethodId) (x0 : Addr) (x1 : Int64) : entryFrame m #[(.ref x0), (.long x1)] 3 = mkF m 0 #[.val (.ref x0), .val (.long x1), .second] [] := by first | (simp [entryFrame, mkF, argsToLocals, Value.category]; done) | rfl
def Q3 (Z : State) (a1 : Addr) (q2 : Int64) (u_state_a1 : Value) (h0 : Heap) (n0 : Nat) (v : Option Value) (h : Heap) (L : List Loc) : Prop := v = none ∧ Fr n0 L ∧ Keep h0 h [a1] ∧ Exa Z h a1 "com/example/demine/demine/solver/SplitMix" ∧ Fld Z h a1 "com/example/demine/demine/solver/SplitMix" "state" "J" (.long q2)
set_option maxRecDepth 65536 in
set_option maxHeartbeats 40000000 in
theorem rm3 (l : Launch) (Z : State) (a0 : Array Value) (hw : ∀ d ∈ tables_1, d.before a0 Z = true) (ws : List Jvm.Cond) (a1 : Addr) (q2 : Int64) (u_state_a1 : Value) (h0 : Heap) (n0 : Nat) (Z0 : n0 ≤ h0.size) (E_a1 : Exa Z h0 a1 "com/example/demine/demine/solver/SplitMix") (F_state_a1 : Fld Z h0 a1 "com/example/demine/demine/solver/SplitMix" "state" "J" u_state_a1) (g_a1 : n0 ≤ a1) :
    MetFree l (⟨"com/example/demine/demine/solver/SplitMix", "<init>", "(J)V"⟩ : MethodName) (head1 (Jvm.Cond.code (⟨"com/example/demine/demine/solver/SplitMix", "<init>", "(J)V"⟩ : MethodName) prog_51_method_1_code 3 none :: ws) ({ frames := 1, cells := 0, slots := 0, locals := 12 } : Room)) (fun a U => a = #[(.ref a1), (.long q2)] ∧ Z.Warmed39 U.vm ∧ U.heap = h0) (fun _ _ _ _ _ => True) (fun _ U o U' => ∃ v L, o = .returned v ∧ Q3 Z a1 q2 u_state_a1 h0 n0 v U'.heap L ∧ FrameEnd U o U' L ({ frames := 1, cells := 0, slots := 0, locals := 12 } : Room).cells ({ frames := 1, cells := 0, slots := 0, locals := 12 } : Room).slots) := by
  refine MetFree.of_bodySF (plainFor_of_name pn_3) hisR ?_
  intro p e s m args below meth c s₁ Bd hml0 hP hK
  obtain ⟨rfl, hZ, hh⟩ := hP
  have hx := Bd.exec
  have hby := Bd.bytes
  have hml : c.maxLocals = 3 := hml0
  have hown : s.vm.findClass "com/example/demine/demine/solver/SplitMix" = some m.cls := findClass_of_methodNamed Bd.named
  have hnm := (name_of_methodNamed Bd.named Bd.method).1
  have X0 : Stand p l e ({ frames := 1, cells := 0, slots := 0, locals := 12 } : Room) s m #[(.ref a1), (.long q2)] below meth c s₁ [] 0 0 := Stand.of_body Bd
  have e0 : s₁.heap = h0 := by rw [← hh, Bd.state]; rfl
  have N0 := Fr.nil n0
  have pre0 : ∀ t, Steps p.tables e below (s₁.setTop (mkF m 0 #[.val (.ref a1), .val (.long q2), .second] [])) t → Steps p.tables e below (s₁.setTop (entryFrame m #[(.ref a1), (.long q2)] 3)) t := fun t k => castTop (ef_3 m a1 q2) k
  obtain ⟨T3, X3, e3, st3⟩ := initO X0 hx hZ hown (hw _ (List.mem_of_getElem? (i := 16) rfl)) (hw _ (List.mem_of_getElem? (i := 17) rfl)) (hw _ (List.mem_of_getElem? (i := 18) rfl)) e0 (g := (mkF m 1 #[.val (.ref a1), .val (.long q2), .second] [(.ref a1)])) rfl (by rw [hml]; rfl) rfl (hb hby d3_1) (by decide) (W := 0) (by show 2 * 0 + _ ≤ _; exact Nat.le_of_eq rfl) (by decide)
  obtain ⟨T4, h4, X4, e4, W4, st4⟩ := putF X3 hx hZ hown (host := "") (Or.inl (hw _ (List.mem_of_getElem? (i := 19) rfl))) Via.refl e3 F_state_a1 E_a1 (Or.inl (hw _ (List.mem_of_getElem? (i := 20) rfl))) (hw _ (List.mem_of_getElem? (i := 6) rfl)) (ty := .long) (by decide) rfl rfl (g := (mkF m 6 #[.val (.ref a1), .val (.long q2), .second] [(.long q2), (.ref a1)])) rfl rfl (hb hby d3_6)
  have Fw4 := F_state_a1.same W4
  have K4 : Keep h0 h4 [a1] := (Keep.refl h0 [a1]).wr W4 (Or.inl (List.mem_of_getElem? (i := 0) rfl))
  have N4 := Fr.snoc X4 N0 g_a1
  obtain ⟨fs, hr, hrun, hended, hW, hsame⟩ := X4.leave (v := none) (fun _ => rfl)
  refine ⟨_, _, pre0 _ ?_, hrun, hended, _, _, rfl, ?_, ⟨_, rfl⟩, hW, hsame.mono (by decide) (by decide)⟩
  · show Steps p.tables e below (s₁.setTop (mkF m 0 #[.val (.ref a1), .val (.long q2), .second] [])) _
    refine XS.aloadN X0.here hx rfl (hb hby d3_0) rfl rfl ?_
    show Steps p.tables e below (s₁.setTop (mkF m 1 #[.val (.ref a1), .val (.long q2), .second] [(.ref a1)])) _
    refine st3 _ ?_
    show Steps p.tables e below (T3.setTop (mkF m 4 #[.val (.ref a1), .val (.long q2), .second] [])) _
    refine XS.aloadN X3.here hx rfl (hb hby d3_4) rfl rfl ?_
    show Steps p.tables e below (T3.setTop (mkF m 5 #[.val (.ref a1), .val (.long q2), .second] [(.ref a1)])) _
    refine XS.lloadN X3.here hx rfl (hb hby d3_5) rfl ?_
    show Steps p.tables e below (T3.setTop (mkF m 6 #[.val (.ref a1), .val (.long q2), .second] [(.long q2), (.ref a1)])) _
    refine st4 _ ?_
    show Steps p.tables e below (T4.setTop (mkF m 9 #[.val (.ref a1), .val (.long q2), .second] [])) _
    exact X4.returnOut hx Bd.returns (hb hby d3_9) hr
  · show Q3 Z a1 q2 u_state_a1 h0 n0 _ T4.heap _
    rw [e4]
    exact ⟨rfl, N4, K4, (E_a1.wr W4), Fw4⟩
theorem d1_0 : decode prog_51_method_2_code 0 = .ok (.new 8, 3) := by decide +kernel
theorem d1_3 : decode prog_51_method_2_code 3 = .ok (.dup, 1) := by decide +kernel
theorem d1_4 : decode prog_51_method_2_code 4 = .ok (.lload_n 0, 1) := by decide +kernel
theorem d1_5 : decode prog_51_method_2_code 5 = .ok (.lload_n 2, 1) := by decide +kernel
theorem d1_6 : decode prog_51_method_2_code 6 = .ok (.lconst 1, 1) := by decide +kernel
theorem d1_7 : decode prog_51_method_2_code 7 = .ok (.ladd, 1) := by decide +kernel
theorem d1_8 : decode prog_51_method_2_code 8 = .ok (.ldc2_w 13, 3) := by decide +kernel
theorem d1_11 : decode prog_51_method_2_code 11 = .ok (.lmul, 1) := by decide +kernel
theorem d1_12 : decode prog_51_method_2_code 12 = .ok (.ladd, 1) := by decide +kernel
theorem d1_13 : decode prog_51_method_2_code 13 = .ok (.invokestatic 15, 3) := by decide +kernel
theorem d1_16 : decode prog_51_method_2_code 16 = .ok (.invokespecial 19, 3) := by decide +kernel
theorem d1_19 : decode prog_51_method_2_code 19 = .ok (.areturn, 1) := by decide +kernel
theorem pn_1 : plainName "com/example/demine/demine/solver/SplitMix" = true := by first | (simp [plainName, overriddenIn]; done) | decide +kernel
theorem pd_1_1 : parseMethodDescriptor "(J)J" = some ⟨[.long], some .long⟩ := by decide +kernel
theorem pd_1_2 : parseMethodDescriptor "(J)V" = some ⟨[.long], none⟩ := by decide +kernel
theorem ef_1 (m : MethodId) (x0 : Int64) (x1 : Int64) : entryFrame m #[(.long x0), (.long x1)] 4 = mkF m 0 #[.val (.long x0), .second, .val (.long x1), .second] [] := by first | (simp [entryFrame, mkF, argsToLocals, Value.category]; done) | rfl
def Q1 (Z : State) (q1 : Int64) (q2 : Int64) (h0 : Heap) (n0 : Nat) (v : Option Value) (h : Heap) (L : List Loc) : Prop := v = some (.ref h0.size) ∧ Fr n0 L ∧ Keep h0 h [] ∧ Exa Z h h0.size "com/example/demine/demine/solver/SplitMix" ∧ Fld Z h h0.size "com/example/demine/demine/solver/SplitMix" "state" "J" (.long (own_mix (q1 + ((q2 + (1 : Int64)) * (-7046029254386353131 : Int64)))))
set_option maxRecDepth 65536 in
set_option maxHeartbeats 40000000 in
theorem rm1 (l : Launch) (Z : State) (a0 : Array Value) (hw : ∀ d ∈ tables_1, d.before a0 Z = true) (ws : List Jvm.Cond) (q1 : Int64) (q2 : Int64) (h0 : Heap) (n0 : Nat) (Z0 : n0 ≤ h0.size) :
    MetFree l (⟨"com/example/demine/demine/solver/SplitMix", "forGame", "(JJ)Lcom/example/demine/demine/solver/SplitMix;"⟩ : MethodName) (head1 (Jvm.Cond.code (⟨"com/example/demine/demine/solver/SplitMix", "forGame", "(JJ)Lcom/example/demine/demine/solver/SplitMix;"⟩ : MethodName) prog_51_method_2_code 4 (some (.object "com/example/demine/demine/solver/SplitMix")) :: ws) ({ frames := 2, cells := 1, slots := 1, locals := 27 } : Room)) (fun a U => a = #[(.long q1), (.long q2)] ∧ Z.Warmed39 U.vm ∧ U.heap = h0) (fun _ _ _ _ _ => True) (fun _ U o U' => ∃ v L, o = .returned v ∧ Q1 Z q1 q2 h0 n0 v U'.heap L ∧ FrameEnd U o U' L ({ frames := 2, cells := 1, slots := 1, locals := 27 } : Room).cells ({ frames := 2, cells := 1, slots := 1, locals := 27 } : Room).slots) := by
  refine MetFree.of_bodySF (plainFor_of_name pn_1) hisR ?_
  intro p e s m args below meth c s₁ Bd hml0 hP hK
  obtain ⟨rfl, hZ, hh⟩ := hP
  have hx := Bd.exec
  have hby := Bd.bytes
  have hml : c.maxLocals = 4 := hml0
  have hown : s.vm.findClass "com/example/demine/demine/solver/SplitMix" = some m.cls := findClass_of_methodNamed Bd.named
  have hnm := (name_of_methodNamed Bd.named Bd.method).1
  have X0 : Stand p l e ({ frames := 2, cells := 1, slots := 1, locals := 27 } : Room) s m #[(.long q1), (.long q2)] below meth c s₁ [] 0 0 := Stand.of_body Bd
  have e0 : s₁.heap = h0 := by rw [← hh, Bd.state]; rfl
  have N0 := Fr.nil n0
  have pre0 : ∀ t, Steps p.tables e below (s₁.setTop (mkF m 0 #[.val (.long q1), .second, .val (.long q2), .second] [])) t → Steps p.tables e below (s₁.setTop (entryFrame m #[(.long q1), (.long q2)] 4)) t := fun t k => castTop (ef_1 m q1 q2) k
  obtain ⟨T3, h3, X3, e3, E3, A3, D3, -, st3⟩ := newO X0 hx hZ hown (hw _ (List.mem_of_getElem? (i := 5) rfl)) (hw _ (List.mem_of_getElem? (i := 6) rfl)) (hw _ (List.mem_of_getElem? (i := 3) rfl)) e0 (g := (mkF m 0 #[.val (.long q1), .second, .val (.long q2), .second] [])) rfl (hb hby d1_0) (by decide) (by decide)
  obtain ⟨b3, g3⟩ : ∃ z, z = h0.size := ⟨_, rfl⟩
  rw [← g3] at A3 D3 st3
  have F_state_b3 : Fld Z h3 b3 "com/example/demine/demine/solver/SplitMix" "state" "J" (.long (0 : Int64)) := D3 (Or.inl (hw _ (List.mem_of_getElem? (i := 20) rfl))) (ty := .long) (by decide)
  have E_b3 := A3
  have Z3 : n0 ≤ h3.size := Nat.le_trans Z0 E3.1
  have g_b3 : n0 ≤ b3 := Nat.le_trans Z0 (Nat.le_of_eq g3.symm)
  have sz_b3 : h0.size ≤ b3 := (Nat.le_trans (Keep.refl h0 []).1 (Nat.le_of_eq g3.symm))
  have K3 : Keep h0 h3 [] := (Keep.refl h0 []).ext E3
  obtain ⟨_, _, ⟨T4, L4, k4, n4⟩, -, X4, ⟨Lc4, hQ4, l4, y4, z4⟩, st4⟩ := Jvm.LawKit.callS X3 hx (y := (⟨"com/example/demine/demine/solver/SplitMix", "mix", "(J)J"⟩ : MethodName)) hown (mvT hZ (hw _ (List.mem_of_getElem? (i := 8) rfl))) (mvT hZ (hw _ (List.mem_of_getElem? (i := 9) rfl))) (mvT hZ (hw _ (List.mem_of_getElem? (i := 3) rfl))) (mvT hZ (hw _ (List.mem_of_getElem? (i := 10) rfl))) (by decide) (backOf (W := 2) (rm2 l Z a0 hw [] (q1 + ((q2 + (1 : Int64)) * (-7046029254386353131 : Int64))) h3 n0 Z3) hZ (hw _ (List.mem_of_getElem? (i := 10) rfl)) (hw _ (List.mem_of_getElem? (i := 3) rfl)) (by decide) (by decide)) (g := (mkF m 13 #[.val (.long q1), .second, .val (.long q2), .second] [(.long (q1 + ((q2 + (1 : Int64)) * (-7046029254386353131 : Int64)))), (.ref b3), (.ref b3)])) rfl (by rw [hml]; rfl) (argsL := [(.long (q1 + ((q2 + (1 : Int64)) * (-7046029254386353131 : Int64))))]) (rest := [(.ref b3), (.ref b3)]) (lenOf pd_1_1 rfl) rfl (by show 2 * 0 + _ ≤ _; exact Nat.le_of_eq rfl) (hb hby d1_13) (fun _ _ => ⟨rfl, e3, (by decide : 1 + 0 ≤ _), (by decide : 1 + 0 ≤ _)⟩)
  dsimp only [Pt.U, Pt.locs, Pt.cells, Pt.slots] at X4 l4 y4 z4 st4 hQ4
  subst l4 y4 z4
  obtain ⟨rfl, N4q, e4q⟩ := hQ4
  have K4 : Keep h3 T4.heap [] := by rw [e4q]; exact Keep.refl _ _
  have Z4 : n0 ≤ T4.heap.size := Nat.le_trans Z3 K4.1
  have N4 := Fr.app N0 N4q
  obtain ⟨_, _, ⟨T5, L5, k5, n5⟩, -, X5, ⟨Lc5, hQ5, l5, y5, z5⟩, st5⟩ := X4.specialBack hx (y := (⟨"com/example/demine/demine/solver/SplitMix", "<init>", "(J)V"⟩ : MethodName)) rfl hown (mvT hZ (hw _ (List.mem_of_getElem? (i := 13) rfl))) (mvT hZ (hw _ (List.mem_of_getElem? (i := 14) rfl))) (mvT hZ (hw _ (List.mem_of_getElem? (i := 15) rfl))) (by decide) (backOf (W := 1) (rm3 l Z a0 hw [] b3 (own_mix (q1 + ((q2 + (1 : Int64)) * (-7046029254386353131 : Int64)))) (.long (0 : Int64)) T4.heap n0 Z4 (E_b3.keep K4) (F_state_b3.keep K4 nin0) g_b3) hZ (hw _ (List.mem_of_getElem? (i := 15) rfl)) (hw _ (List.mem_of_getElem? (i := 3) rfl)) (by decide) (by decide)) (g := (mkF m 16 #[.val (.long q1), .second, .val (.long q2), .second] [(.long (own_mix (q1 + ((q2 + (1 : Int64)) * (-7046029254386353131 : Int64))))), (.ref b3), (.ref b3)])) rfl (by rw [hml]; rfl) (Steps.refl _) (a := b3) (argsL := [(.long (own_mix (q1 + ((q2 + (1 : Int64)) * (-7046029254386353131 : Int64)))))]) (rest := [(.ref b3)]) (lenOf pd_1_2 rfl) rfl (by show 2 * 0 + _ ≤ _; exact Nat.le_of_eq rfl) (hb hby d1_16) (fun _ _ => ⟨rfl, rfl, (by decide : 1 + 0 ≤ _), (by decide : 1 + 0 ≤ _)⟩)
  dsimp only [Pt.U, Pt.locs, Pt.cells, Pt.slots] at X5 l5 y5 z5 st5 hQ5
  subst l5 y5 z5
  obtain ⟨rfl, N5q, K5, E5, F5⟩ := hQ5
  have N5 := Fr.app N4 N5q
  obtain ⟨fs, hr, hrun, hended, hW, hsame⟩ := X5.leave (v := some (.ref b3)) (fun h => by rw [Bd.returns] at h; cases h)
  refine ⟨_, _, pre0 _ ?_, hrun, hended, _, _, rfl, ?_, ⟨_, rfl⟩, hW, hsame.mono (by decide) (by decide)⟩
  · show Steps p.tables e below (s₁.setTop (mkF m 0 #[.val (.long q1), .second, .val (.long q2), .second] [])) _
    refine st3 _ ?_
    show Steps p.tables e below (T3.setTop (mkF m 3 #[.val (.long q1), .second, .val (.long q2), .second] [(.ref b3)])) _
    refine XS.dup X3.here hx rfl (hb hby d1_3) rfl rfl ?_
    show Steps p.tables e below (T3.setTop (mkF m 4 #[.val (.long q1), .second, .val (.long q2), .second] [(.ref b3), (.ref b3)])) _
    refine XS.lloadN X3.here hx rfl (hb hby d1_4) rfl ?_
    show Steps p.tables e below (T3.setTop (mkF m 5 #[.val (.long q1), .second, .val (.long q2), .second] [(.long q1), (.ref b3), (.ref b3)])) _
    refine XS.lloadN X3.here hx rfl (hb hby d1_5) rfl ?_
    show Steps p.tables e below (T3.setTop (mkF m 6 #[.val (.long q1), .second, .val (.long q2), .second] [(.long q2), (.long q1), (.ref b3), (.ref b3)])) _
    refine XS.lconst X3.here hx rfl (hb hby d1_6) ?_
    show Steps p.tables e below (T3.setTop (mkF m 7 #[.val (.long q1), .second, .val (.long q2), .second] [(.long (1 : Int64)), (.long q2), (.long q1), (.ref b3), (.ref b3)])) _
    refine XS.ladd X3.here hx rfl (hb hby d1_7) rfl ?_
    show Steps p.tables e below (T3.setTop (mkF m 8 #[.val (.long q1), .second, .val (.long q2), .second] [(.long (q2 + (1 : Int64))), (.long q1), (.ref b3), (.ref b3)])) _
    refine X3.ldc2Long hx hown (mvT hZ (hw _ (List.mem_of_getElem? (i := 7) rfl))) (g := (mkF m 8 #[.val (.long q1), .second, .val (.long q2), .second] [(.long (q2 + (1 : Int64))), (.long q1), (.ref b3), (.ref b3)])) rfl (hb hby d1_8) _ ?_
    show Steps p.tables e below (T3.setTop (mkF m 11 #[.val (.long q1), .second, .val (.long q2), .second] [(.long (-7046029254386353131 : Int64)), (.long (q2 + (1 : Int64))), (.long q1), (.ref b3), (.ref b3)])) _
    refine XS.lmul X3.here hx rfl (hb hby d1_11) rfl ?_
    show Steps p.tables e below (T3.setTop (mkF m 12 #[.val (.long q1), .second, .val (.long q2), .second] [(.long ((q2 + (1 : Int64)) * (-7046029254386353131 : Int64))), (.long q1), (.ref b3), (.ref b3)])) _
    refine XS.ladd X3.here hx rfl (hb hby d1_12) rfl ?_
    show Steps p.tables e below (T3.setTop (mkF m 13 #[.val (.long q1), .second, .val (.long q2), .second] [(.long (q1 + ((q2 + (1 : Int64)) * (-7046029254386353131 : Int64)))), (.ref b3), (.ref b3)])) _
    refine st4 _ ?_
    show Steps p.tables e below (T4.setTop (mkF m 16 #[.val (.long q1), .second, .val (.long q2), .second] [(.long (own_mix (q1 + ((q2 + (1 : Int64)) * (-7046029254386353131 : Int64))))), (.ref b3), (.ref b3)])) _
    refine st5.trans ?_
    show Steps p.tables e below (T5.setTop (mkF m 19 #[.val (.long q1), .second, .val (.long q2), .second] [(.ref b3)])) _
    jvm_step X5.here [X5.here.top, hx, (hb hby d1_19), X5.method', Bd.returns, Value.isRef, FieldType.isReference]
    first | (intro acts; rw [hr _ acts rfl rfl rfl]) | rw [hr _ _ rfl rfl rfl]
    exact Steps.refl _
  · show Q1 Z q1 q2 h0 n0 _ T5.heap _
    exact ⟨by rw [g3], N5, (K3.trans K4 all0).trans K5 (allS (Or.inr sz_b3) all0), g3 ▸ E5, g3 ▸ F5⟩
theorem d5_0 : decode prog_51_method_3_code 0 = .ok (.aload_n 0, 1) := by decide +kernel
theorem d5_1 : decode prog_51_method_3_code 1 = .ok (.dup, 1) := by decide +kernel
theorem d5_2 : decode prog_51_method_3_code 2 = .ok (.getfield 7, 3) := by decide +kernel
theorem d5_5 : decode prog_51_method_3_code 5 = .ok (.ldc2_w 13, 3) := by decide +kernel
theorem d5_8 : decode prog_51_method_3_code 8 = .ok (.ladd, 1) := by decide +kernel
theorem d5_9 : decode prog_51_method_3_code 9 = .ok (.putfield 7, 3) := by decide +kernel
theorem d5_12 : decode prog_51_method_3_code 12 = .ok (.aload_n 0, 1) := by decide +kernel
theorem d5_13 : decode prog_51_method_3_code 13 = .ok (.getfield 7, 3) := by decide +kernel
theorem d5_16 : decode prog_51_method_3_code 16 = .ok (.invokestatic 15, 3) := by decide +kernel
theorem d5_19 : decode prog_51_method_3_code 19 = .ok (.lreturn, 1) := by decide +kernel
theorem pn_5 : plainName "com/example/demine/demine/solver/SplitMix" = true := by first | (simp [plainName, overriddenIn]; done) | decide +kernel
theorem pd_5_1 : parseMethodDescriptor "(J)J" = some ⟨[.long], some .long⟩ := by decide +kernel
theorem ef_5 (m : MethodId) (x0 : Addr) : entryFrame m #[(.ref x0)] 1 = mkF m 0 #[.val (.ref x0)] [] := by first | (simp [entryFrame, mkF, argsToLocals, Value.category]; done) | rfl
def Q5 (Z : State) (a1 : Addr) (w2 : Int64) (h0 : Heap) (n0 : Nat) (v : Option Value) (h : Heap) (L : List Loc) : Prop := v = some (.long (own_mix (w2 + (-7046029254386353131 : Int64)))) ∧ Fr n0 L ∧ Keep h0 h [a1] ∧ Exa Z h a1 "com/example/demine/demine/solver/SplitMix" ∧ Fld Z h a1 "com/example/demine/demine/solver/SplitMix" "state" "J" (.long (w2 + (-7046029254386353131 : Int64)))
set_option maxRecDepth 65536 in
set_option maxHeartbeats 40000000 in
theorem rm5 (l : Launch) (Z : State) (a0 : Array Value) (hw : ∀ d ∈ tables_1, d.before a0 Z = true) (ws : List Jvm.Cond) (a1 : Addr) (w2 : Int64) (h0 : Heap) (n0 : Nat) (Z0 : n0 ≤ h0.size) (F_state_a1 : Fld Z h0 a1 "com/example/demine/demine/solver/SplitMix" "state" "J" (.long w2)) (E_a1 : Exa Z h0 a1 "com/example/demine/demine/solver/SplitMix") (g_a1 : n0 ≤ a1) :
    MetFree l (⟨"com/example/demine/demine/solver/SplitMix", "nextLong", "()J"⟩ : MethodName) (head1 (Jvm.Cond.code (⟨"com/example/demine/demine/solver/SplitMix", "nextLong", "()J"⟩ : MethodName) prog_51_method_3_code 1 (some .long) :: ws) ({ frames := 1, cells := 0, slots := 0, locals := 15 } : Room)) (fun a U => a = #[(.ref a1)] ∧ Z.Warmed39 U.vm ∧ U.heap = h0) (fun _ _ _ _ _ => True) (fun _ U o U' => ∃ v L, o = .returned v ∧ Q5 Z a1 w2 h0 n0 v U'.heap L ∧ FrameEnd U o U' L ({ frames := 1, cells := 0, slots := 0, locals := 15 } : Room).cells ({ frames := 1, cells := 0, slots := 0, locals := 15 } : Room).slots) := by
  refine MetFree.of_bodySF (plainFor_of_name pn_5) hisR ?_
  intro p e s m args below meth c s₁ Bd hml0 hP hK
  obtain ⟨rfl, hZ, hh⟩ := hP
  have hx := Bd.exec
  have hby := Bd.bytes
  have hml : c.maxLocals = 1 := hml0
  have hown : s.vm.findClass "com/example/demine/demine/solver/SplitMix" = some m.cls := findClass_of_methodNamed Bd.named
  have hnm := (name_of_methodNamed Bd.named Bd.method).1
  have X0 : Stand p l e ({ frames := 1, cells := 0, slots := 0, locals := 15 } : Room) s m #[(.ref a1)] below meth c s₁ [] 0 0 := Stand.of_body Bd
  have e0 : s₁.heap = h0 := by rw [← hh, Bd.state]; rfl
  have N0 := Fr.nil n0
  have pre0 : ∀ t, Steps p.tables e below (s₁.setTop (mkF m 0 #[.val (.ref a1)] [])) t → Steps p.tables e below (s₁.setTop (entryFrame m #[(.ref a1)] 1)) t := fun t k => castTop (ef_5 m a1) k
  obtain ⟨T3, X3, e3, st3⟩ := getF X0 hx hZ hown (host := "") (Or.inl (hw _ (List.mem_of_getElem? (i := 19) rfl))) Via.refl e0 F_state_a1 (g := (mkF m 2 #[.val (.ref a1)] [(.ref a1), (.ref a1)])) rfl rfl (hb hby d5_2)
  obtain ⟨T4, h4, X4, e4, W4, st4⟩ := putF X3 hx hZ hown (host := "") (Or.inl (hw _ (List.mem_of_getElem? (i := 19) rfl))) Via.refl e3 F_state_a1 E_a1 (Or.inl (hw _ (List.mem_of_getElem? (i := 20) rfl))) (hw _ (List.mem_of_getElem? (i := 6) rfl)) (ty := .long) (by decide) rfl rfl (g := (mkF m 9 #[.val (.ref a1)] [(.long (w2 + (-7046029254386353131 : Int64))), (.ref a1)])) rfl rfl (hb hby d5_9)
  have Fw4 := F_state_a1.same W4
  have K4 : Keep h0 h4 [a1] := (Keep.refl h0 [a1]).wr W4 (Or.inl (List.mem_of_getElem? (i := 0) rfl))
  have N4 := Fr.snoc X4 N0 g_a1
  obtain ⟨T5, X5, e5, st5⟩ := getF X4 hx hZ hown (host := "") (Or.inl (hw _ (List.mem_of_getElem? (i := 19) rfl))) Via.refl e4 Fw4 (g := (mkF m 13 #[.val (.ref a1)] [(.ref a1)])) rfl rfl (hb hby d5_13)
  obtain ⟨_, _, ⟨T6, L6, k6, n6⟩, -, X6, ⟨Lc6, hQ6, l6, y6, z6⟩, st6⟩ := Jvm.LawKit.callS X5 hx (y := (⟨"com/example/demine/demine/solver/SplitMix", "mix", "(J)J"⟩ : MethodName)) hown (mvT hZ (hw _ (List.mem_of_getElem? (i := 8) rfl))) (mvT hZ (hw _ (List.mem_of_getElem? (i := 9) rfl))) (mvT hZ (hw _ (List.mem_of_getElem? (i := 3) rfl))) (mvT hZ (hw _ (List.mem_of_getElem? (i := 10) rfl))) (by decide) (backOf (W := 0) (rm2 l Z a0 hw [] (w2 + (-7046029254386353131 : Int64)) h4 n0 (Nat.le_trans Z0 K4.1)) hZ (hw _ (List.mem_of_getElem? (i := 10) rfl)) (hw _ (List.mem_of_getElem? (i := 3) rfl)) (by decide) (by decide)) (g := (mkF m 16 #[.val (.ref a1)] [(.long (w2 + (-7046029254386353131 : Int64)))])) rfl (by rw [hml]; rfl) (argsL := [(.long (w2 + (-7046029254386353131 : Int64)))]) (rest := []) (lenOf pd_5_1 rfl) rfl (by show 2 * 0 + _ ≤ _; exact Nat.le_of_eq rfl) (hb hby d5_16) (fun _ _ => ⟨rfl, e5, (by decide : 0 + 0 ≤ _), (by decide : 0 + 0 ≤ _)⟩)
  dsimp only [Pt.U, Pt.locs, Pt.cells, Pt.slots] at X6 l6 y6 z6 st6 hQ6
  subst l6 y6 z6
  obtain ⟨rfl, N6q, e6q⟩ := hQ6
  have K6 : Keep h4 T6.heap [] := by rw [e6q]; exact Keep.refl _ _
  have N6 := Fr.app N4 N6q
  obtain ⟨fs, hr, hrun, hended, hW, hsame⟩ := X6.leave (v := some (.long (own_mix (w2 + (-7046029254386353131 : Int64))))) (fun h => by rw [Bd.returns] at h; cases h)
  refine ⟨_, _, pre0 _ ?_, hrun, hended, _, _, rfl, ?_, ⟨_, rfl⟩, hW, hsame.mono (by decide) (by decide)⟩
  · show Steps p.tables e below (s₁.setTop (mkF m 0 #[.val (.ref a1)] [])) _
    refine XS.aloadN X0.here hx rfl (hb hby d5_0) rfl rfl ?_
    show Steps p.tables e below (s₁.setTop (mkF m 1 #[.val (.ref a1)] [(.ref a1)])) _
    refine XS.dup X0.here hx rfl (hb hby d5_1) rfl rfl ?_
    show Steps p.tables e below (s₁.setTop (mkF m 2 #[.val (.ref a1)] [(.ref a1), (.ref a1)])) _
    refine st3 _ ?_
    show Steps p.tables e below (T3.setTop (mkF m 5 #[.val (.ref a1)] [(.long w2), (.ref a1)])) _
    refine X3.ldc2Long hx hown (mvT hZ (hw _ (List.mem_of_getElem? (i := 7) rfl))) (g := (mkF m 5 #[.val (.ref a1)] [(.long w2), (.ref a1)])) rfl (hb hby d5_5) _ ?_
    show Steps p.tables e below (T3.setTop (mkF m 8 #[.val (.ref a1)] [(.long (-7046029254386353131 : Int64)), (.long w2), (.ref a1)])) _
    refine XS.ladd X3.here hx rfl (hb hby d5_8) rfl ?_
    show Steps p.tables e below (T3.setTop (mkF m 9 #[.val (.ref a1)] [(.long (w2 + (-7046029254386353131 : Int64))), (.ref a1)])) _
    refine st4 _ ?_
    show Steps p.tables e below (T4.setTop (mkF m 12 #[.val (.ref a1)] [])) _
    refine XS.aloadN X4.here hx rfl (hb hby d5_12) rfl rfl ?_
    show Steps p.tables e below (T4.setTop (mkF m 13 #[.val (.ref a1)] [(.ref a1)])) _
    refine st5 _ ?_
    show Steps p.tables e below (T5.setTop (mkF m 16 #[.val (.ref a1)] [(.long (w2 + (-7046029254386353131 : Int64)))])) _
    refine st6 _ ?_
    show Steps p.tables e below (T6.setTop (mkF m 19 #[.val (.ref a1)] [(.long (own_mix (w2 + (-7046029254386353131 : Int64))))])) _
    exact retJ X6 hx Bd.returns (hb hby d5_19) hr
  · show Q5 Z a1 w2 h0 n0 _ T6.heap _
    exact ⟨rfl, N6, K4.trans K6 all0, (E_a1.wr W4).keep K6, Fw4.keep K6 nin0⟩
theorem pn_0 : plainName "com/example/demine/demine/solver/SplitMixForGamePinLaw" = true := by first | (simp [plainName, overriddenIn]; done) | decide +kernel
theorem pd_0_0 : parseMethodDescriptor "(JJ)Lcom/example/demine/demine/solver/SplitMix;" = some ⟨[.long, .long], some (.object "com/example/demine/demine/solver/SplitMix")⟩ := by decide +kernel
theorem pd_0_4 : parseMethodDescriptor "()J" = some ⟨[], some .long⟩ := by decide +kernel
theorem pd_0_1 : parseMethodDescriptor "(J)J" = some ⟨[.long], some .long⟩ := by decide +kernel
theorem ef_0 (m : MethodId) (x0 : Int64) (x1 : Int64) : entryFrame m #[(.long x0), (.long x1)] maxLocals = mkF m 0 #[.val (.long x0), .second, .val (.long x1), .second, .unset, .unset, .unset, .unset, .unset, .unset, .unset, .unset, .unset, .unset, .unset, .unset, .unset, .unset] [] := by first | (simp [entryFrame, mkF, argsToLocals, Value.category, maxLocals]; done) | rfl
def Q0 (Z : State) (q1 : Int64) (q2 : Int64) (h0 : Heap) (n0 : Nat) (v : Option Value) (h : Heap) (L : List Loc) : Prop := v = some (.int (1 : Int32)) ∧ Fr n0 L
set_option maxRecDepth 65536 in
set_option maxHeartbeats 40000000 in
theorem rm0 (l : Launch) (Z : State) (a0 : Array Value) (hw : ∀ d ∈ tables_1, d.before a0 Z = true) (ws : List Jvm.Cond) (q1 : Int64) (q2 : Int64) (h0 : Heap) (n0 : Nat) (Z0 : n0 ≤ h0.size) (hc112 : ¬ ((1 : Int32) = (0 : Int32))) (hc117 : ¬ ((1 : Int32) = (0 : Int32))) :
    MetFree l x (head1 (Jvm.Cond.code x code maxLocals ret :: ws) room_1) (fun a U => a = #[(.long q1), (.long q2)] ∧ Z.Warmed39 U.vm ∧ U.heap = h0) (fun _ _ _ _ _ => True) (fun _ U o U' => ∃ v L, o = .returned v ∧ Q0 Z q1 q2 h0 n0 v U'.heap L ∧ FrameEnd U o U' L room_1.cells room_1.slots) := by
  refine MetFree.of_bodySF (plainFor_of_name pn_0) hisR ?_
  intro p e s m args below meth c s₁ Bd hml0 hP hK
  obtain ⟨rfl, hZ, hh⟩ := hP
  have hx := Bd.exec
  have hby := Bd.bytes
  have hml : c.maxLocals = 18 := hml0
  have hown : s.vm.findClass "com/example/demine/demine/solver/SplitMixForGamePinLaw" = some m.cls := findClass_of_methodNamed Bd.named
  have hnm := (name_of_methodNamed Bd.named Bd.method).1
  have X0 : Stand p l e room_1 s m #[(.long q1), (.long q2)] below meth c s₁ [] 0 0 := Stand.of_body Bd
  have e0 : s₁.heap = h0 := by rw [← hh, Bd.state]; rfl
  have N0 := Fr.nil n0
  have pre0 : ∀ t, Steps p.tables e below (s₁.setTop (mkF m 0 #[.val (.long q1), .second, .val (.long q2), .second, .unset, .unset, .unset, .unset, .unset, .unset, .unset, .unset, .unset, .unset, .unset, .unset, .unset, .unset] [])) t → Steps p.tables e below (s₁.setTop (entryFrame m #[(.long q1), (.long q2)] maxLocals)) t := fun t k => castTop (ef_0 m q1 q2) k
  obtain ⟨_, _, ⟨T3, L3, k3, n3⟩, -, X3, ⟨Lc3, hQ3, l3, y3, z3⟩, st3⟩ := Jvm.LawKit.callS X0 hx (y := (⟨"com/example/demine/demine/solver/SplitMix", "forGame", "(JJ)Lcom/example/demine/demine/solver/SplitMix;"⟩ : MethodName)) hown (mvT hZ (hw _ (List.mem_of_getElem? (i := 1) rfl))) (mvT hZ (hw _ (List.mem_of_getElem? (i := 2) rfl))) (mvT hZ (hw _ (List.mem_of_getElem? (i := 3) rfl))) (mvT hZ (hw _ (List.mem_of_getElem? (i := 4) rfl))) (by decide) (backOf (W := 0) (rm1 l Z a0 hw [] q1 q2 h0 n0 Z0) hZ (hw _ (List.mem_of_getElem? (i := 4) rfl)) (hw _ (List.mem_of_getElem? (i := 3) rfl)) (by decide) (by decide)) (g := (mkF m 7 #[.val (.long q1), .second, .val (.long q2), .second, .val (.long (-7046029254386353131 : Int64)), .second, .unset, .unset, .unset, .unset, .unset, .unset, .unset, .unset, .unset, .unset, .unset, .unset] [(.long q2), (.long q1)])) rfl (by rw [hml]; rfl) (argsL := [(.long q1), (.long q2)]) (rest := []) (lenOf pd_0_0 rfl) rfl (by show 2 * 0 + _ ≤ _; exact Nat.le_of_eq rfl) (hb hby at_7) (fun _ _ => ⟨rfl, e0, (by decide : 0 + 1 ≤ _), (by decide : 0 + 1 ≤ _)⟩)
  dsimp only [Pt.U, Pt.locs, Pt.cells, Pt.slots] at X3 l3 y3 z3 st3 hQ3
  subst l3 y3 z3
  obtain ⟨rfl, N3q, K3, E3x, F3⟩ := hQ3
  have Z3 : n0 ≤ T3.heap.size := Nat.le_trans Z0 K3.1
  have N3 := Fr.app N0 N3q
  obtain ⟨cq4, kq4, q4a, q4b, q4c⟩ := isOf hZ rfl E3x
  obtain ⟨_, _, ⟨T4, L4, k4, n4⟩, -, X4, ⟨Lc4, hQ4, l4, y4, z4⟩, st4⟩ := X3.virtualBack hx (y := (⟨"com/example/demine/demine/solver/SplitMix", "nextLong", "()J"⟩ : MethodName)) (z := (⟨"com/example/demine/demine/solver/SplitMix", "nextLong", "()J"⟩ : MethodName)) hown (mvT hZ (hw _ (List.mem_of_getElem? (i := 21) rfl))) (mvT hZ (hw _ (List.mem_of_getElem? (i := 22) rfl))) (notFace_of_selects (args := #[]) (mvT hZ (hw _ (List.mem_of_getElem? (i := 24) rfl)))) (mvT hZ (hw _ (List.mem_of_getElem? (i := 24) rfl))) (mvT hZ (hw _ (List.mem_of_getElem? (i := 23) rfl))) (by decide) (backOf (W := 0) (rm5 l Z a0 hw [] h0.size (own_mix (q1 + ((q2 + (1 : Int64)) * (-7046029254386353131 : Int64)))) T3.heap n0 Z3 F3 E3x Z0) hZ (hw _ (List.mem_of_getElem? (i := 25) rfl)) (hw _ (List.mem_of_getElem? (i := 3) rfl)) (by decide) (by decide)) q4a q4c (g := (mkF m 14 #[.val (.long q1), .second, .val (.long q2), .second, .val (.long (-7046029254386353131 : Int64)), .second, .val (.ref h0.size), .unset, .unset, .unset, .unset, .unset, .unset, .unset, .unset, .unset, .unset, .unset] [(.ref h0.size)])) rfl (by rw [hml]; rfl) (Steps.refl _) (argsL := []) (rest := []) (lenOf pd_0_4 rfl) rfl (by show 2 * 0 + _ ≤ _; exact Nat.le_of_eq rfl) (hb hby at_14) (fun _ _ => ⟨rfl, rfl, (by decide : 1 + 0 ≤ _), (by decide : 1 + 0 ≤ _)⟩)
  dsimp only [Pt.U, Pt.locs, Pt.cells, Pt.slots] at X4 l4 y4 z4 st4 hQ4
  subst l4 y4 z4
  obtain ⟨rfl, N4q, K4, E4x, F4⟩ := hQ4
  have Z4 : n0 ≤ T4.heap.size := Nat.le_trans Z3 K4.1
  have N4 := Fr.app N3 N4q
  obtain ⟨cq5, kq5, q5a, q5b, q5c⟩ := isOf hZ rfl (E4x.keep (Keep.refl T4.heap []))
  obtain ⟨_, _, ⟨T5, L5, k5, n5⟩, -, X5, ⟨Lc5, hQ5, l5, y5, z5⟩, st5⟩ := X4.virtualBack hx (y := (⟨"com/example/demine/demine/solver/SplitMix", "nextLong", "()J"⟩ : MethodName)) (z := (⟨"com/example/demine/demine/solver/SplitMix", "nextLong", "()J"⟩ : MethodName)) hown (mvT hZ (hw _ (List.mem_of_getElem? (i := 21) rfl))) (mvT hZ (hw _ (List.mem_of_getElem? (i := 22) rfl))) (notFace_of_selects (args := #[]) (mvT hZ (hw _ (List.mem_of_getElem? (i := 24) rfl)))) (mvT hZ (hw _ (List.mem_of_getElem? (i := 24) rfl))) (mvT hZ (hw _ (List.mem_of_getElem? (i := 23) rfl))) (by decide) (backOf (W := 0) (rm5 l Z a0 hw [] h0.size ((own_mix (q1 + ((q2 + (1 : Int64)) * (-7046029254386353131 : Int64)))) + (-7046029254386353131 : Int64)) T4.heap n0 Z4 F4 E4x Z0) hZ (hw _ (List.mem_of_getElem? (i := 25) rfl)) (hw _ (List.mem_of_getElem? (i := 3) rfl)) (by decide) (by decide)) q5a q5c (g := (mkF m 21 #[.val (.long q1), .second, .val (.long q2), .second, .val (.long (-7046029254386353131 : Int64)), .second, .val (.ref h0.size), .val (.long (own_mix ((own_mix (q1 + ((q2 + (1 : Int64)) * (-7046029254386353131 : Int64)))) + (-7046029254386353131 : Int64)))), .second, .unset, .unset, .unset, .unset, .unset, .unset, .unset, .unset, .unset] [(.ref h0.size)])) rfl (by rw [hml]; rfl) (Steps.refl _) (argsL := []) (rest := []) (lenOf pd_0_4 rfl) rfl (by show 2 * 0 + _ ≤ _; exact Nat.le_of_eq rfl) (hb hby at_21) (fun _ _ => ⟨rfl, rfl, (by decide : 1 + 0 ≤ _), (by decide : 1 + 0 ≤ _)⟩)
  dsimp only [Pt.U, Pt.locs, Pt.cells, Pt.slots] at X5 l5 y5 z5 st5 hQ5
  subst l5 y5 z5
  obtain ⟨rfl, N5q, K5, E5x, F5⟩ := hQ5
  have Z5 : n0 ≤ T5.heap.size := Nat.le_trans Z4 K5.1
  have N5 := Fr.app N4 N5q
  obtain ⟨_, _, ⟨T6, L6, k6, n6⟩, -, X6, ⟨Lc6, hQ6, l6, y6, z6⟩, st6⟩ := Jvm.LawKit.callS X5 hx (y := (⟨"com/example/demine/demine/solver/SplitMixForGamePinLaw", "mix64", "(J)J"⟩ : MethodName)) hown (mvT hZ (hw _ (List.mem_of_getElem? (i := 26) rfl))) (mvT hZ (hw _ (List.mem_of_getElem? (i := 27) rfl))) (mvT hZ (hw _ (List.mem_of_getElem? (i := 28) rfl))) (mvT hZ (hw _ (List.mem_of_getElem? (i := 29) rfl))) (by decide) (backOf (W := 0) (rm6 l Z a0 hw [] (q1 + ((q2 + (1 : Int64)) * (-7046029254386353131 : Int64))) T5.heap n0 Z5) hZ (hw _ (List.mem_of_getElem? (i := 29) rfl)) (hw _ (List.mem_of_getElem? (i := 28) rfl)) (by decide) (by decide)) (g := (mkF m 34 #[.val (.long q1), .second, .val (.long q2), .second, .val (.long (-7046029254386353131 : Int64)), .second, .val (.ref h0.size), .val (.long (own_mix ((own_mix (q1 + ((q2 + (1 : Int64)) * (-7046029254386353131 : Int64)))) + (-7046029254386353131 : Int64)))), .second, .val (.long (own_mix ((own_mix (q1 + ((q2 + (1 : Int64)) * (-7046029254386353131 : Int64)))) + (-7046029254386353131 : Int64) + (-7046029254386353131 : Int64)))), .second, .unset, .unset, .unset, .unset, .unset, .unset, .unset] [(.long (q1 + ((q2 + (1 : Int64)) * (-7046029254386353131 : Int64))))])) rfl (by rw [hml]; rfl) (argsL := [(.long (q1 + ((q2 + (1 : Int64)) * (-7046029254386353131 : Int64))))]) (rest := []) (lenOf pd_0_1 rfl) rfl (by show 2 * 0 + _ ≤ _; exact Nat.le_of_eq rfl) (hb hby at_34) (fun _ _ => ⟨rfl, rfl, (by decide : 1 + 0 ≤ _), (by decide : 1 + 0 ≤ _)⟩)
  dsimp only [Pt.U, Pt.locs, Pt.cells, Pt.slots] at X6 l6 y6 z6 st6 hQ6
  subst l6 y6 z6
  obtain ⟨rfl, N6q, e6q⟩ := hQ6
  have K6 : Keep T5.heap T6.heap [] := by rw [e6q]; exact Keep.refl _ _
  have Z6 : n0 ≤ T6.heap.size := Nat.le_trans Z5 K6.1
  have N6 := Fr.app N5 N6q
  obtain ⟨_, _, ⟨T7, L7, k7, n7⟩, -, X7, ⟨Lc7, hQ7, l7, y7, z7⟩, st7⟩ := Jvm.LawKit.callS X6 hx (y := (⟨"com/example/demine/demine/solver/SplitMix", "forGame", "(JJ)Lcom/example/demine/demine/solver/SplitMix;"⟩ : MethodName)) hown (mvT hZ (hw _ (List.mem_of_getElem? (i := 1) rfl))) (mvT hZ (hw _ (List.mem_of_getElem? (i := 2) rfl))) (mvT hZ (hw _ (List.mem_of_getElem? (i := 3) rfl))) (mvT hZ (hw _ (List.mem_of_getElem? (i := 4) rfl))) (by decide) (backOf (W := 0) (rm1 l Z a0 hw [] (-(-7046029254386353131 : Int64)) (0 : Int64) T6.heap n0 Z6) hZ (hw _ (List.mem_of_getElem? (i := 4) rfl)) (hw _ (List.mem_of_getElem? (i := 3) rfl)) (by decide) (by decide)) (g := (mkF m 43 #[.val (.long q1), .second, .val (.long q2), .second, .val (.long (-7046029254386353131 : Int64)), .second, .val (.ref h0.size), .val (.long (own_mix ((own_mix (q1 + ((q2 + (1 : Int64)) * (-7046029254386353131 : Int64)))) + (-7046029254386353131 : Int64)))), .second, .val (.long (own_mix ((own_mix (q1 + ((q2 + (1 : Int64)) * (-7046029254386353131 : Int64)))) + (-7046029254386353131 : Int64) + (-7046029254386353131 : Int64)))), .second, .val (.long (own_mix (q1 + ((q2 + (1 : Int64)) * (-7046029254386353131 : Int64))))), .second, .unset, .unset, .unset, .unset, .unset] [(.long (0 : Int64)), (.long (-(-7046029254386353131 : Int64)))])) rfl (by rw [hml]; rfl) (argsL := [(.long (-(-7046029254386353131 : Int64))), (.long (0 : Int64))]) (rest := []) (lenOf pd_0_0 rfl) rfl (by show 2 * 0 + _ ≤ _; exact Nat.le_of_eq rfl) (hb hby at_43) (fun _ _ => ⟨rfl, rfl, (by decide : 1 + 1 ≤ _), (by decide : 1 + 1 ≤ _)⟩)
  dsimp only [Pt.U, Pt.locs, Pt.cells, Pt.slots] at X7 l7 y7 z7 st7 hQ7
  subst l7 y7 z7
  obtain ⟨rfl, N7q, K7, E7x, F7⟩ := hQ7
  have Z7 : n0 ≤ T7.heap.size := Nat.le_trans Z6 K7.1
  have N7 := Fr.app N6 N7q
  obtain ⟨cq8, kq8, q8a, q8b, q8c⟩ := isOf hZ rfl E7x
  obtain ⟨_, _, ⟨T8, L8, k8, n8⟩, -, X8, ⟨Lc8, hQ8, l8, y8, z8⟩, st8⟩ := X7.virtualBack hx (y := (⟨"com/example/demine/demine/solver/SplitMix", "nextLong", "()J"⟩ : MethodName)) (z := (⟨"com/example/demine/demine/solver/SplitMix", "nextLong", "()J"⟩ : MethodName)) hown (mvT hZ (hw _ (List.mem_of_getElem? (i := 21) rfl))) (mvT hZ (hw _ (List.mem_of_getElem? (i := 22) rfl))) (notFace_of_selects (args := #[]) (mvT hZ (hw _ (List.mem_of_getElem? (i := 24) rfl)))) (mvT hZ (hw _ (List.mem_of_getElem? (i := 24) rfl))) (mvT hZ (hw _ (List.mem_of_getElem? (i := 23) rfl))) (by decide) (backOf (W := 0) (rm5 l Z a0 hw [] T6.heap.size (own_mix ((-(-7046029254386353131 : Int64)) + (((0 : Int64) + (1 : Int64)) * (-7046029254386353131 : Int64)))) T7.heap n0 Z7 F7 E7x Z6) hZ (hw _ (List.mem_of_getElem? (i := 25) rfl)) (hw _ (List.mem_of_getElem? (i := 3) rfl)) (by decide) (by decide)) q8a q8c (g := (mkF m 50 #[.val (.long q1), .second, .val (.long q2), .second, .val (.long (-7046029254386353131 : Int64)), .second, .val (.ref h0.size), .val (.long (own_mix ((own_mix (q1 + ((q2 + (1 : Int64)) * (-7046029254386353131 : Int64)))) + (-7046029254386353131 : Int64)))), .second, .val (.long (own_mix ((own_mix (q1 + ((q2 + (1 : Int64)) * (-7046029254386353131 : Int64)))) + (-7046029254386353131 : Int64) + (-7046029254386353131 : Int64)))), .second, .val (.long (own_mix (q1 + ((q2 + (1 : Int64)) * (-7046029254386353131 : Int64))))), .second, .val (.ref T6.heap.size), .unset, .unset, .unset, .unset] [(.ref T6.heap.size)])) rfl (by rw [hml]; rfl) (Steps.refl _) (argsL := []) (rest := []) (lenOf pd_0_4 rfl) rfl (by show 2 * 0 + _ ≤ _; exact Nat.le_of_eq rfl) (hb hby at_50) (fun _ _ => ⟨rfl, rfl, (by decide : 2 + 0 ≤ _), (by decide : 2 + 0 ≤ _)⟩)
  dsimp only [Pt.U, Pt.locs, Pt.cells, Pt.slots] at X8 l8 y8 z8 st8 hQ8
  subst l8 y8 z8
  obtain ⟨rfl, N8q, K8, E8x, F8⟩ := hQ8
  have Z8 : n0 ≤ T8.heap.size := Nat.le_trans Z7 K8.1
  have N8 := Fr.app N7 N8q
  obtain ⟨_, _, ⟨T9, L9, k9, n9⟩, -, X9, ⟨Lc9, hQ9, l9, y9, z9⟩, st9⟩ := Jvm.LawKit.callS X8 hx (y := (⟨"com/example/demine/demine/solver/SplitMixForGamePinLaw", "mix64", "(J)J"⟩ : MethodName)) hown (mvT hZ (hw _ (List.mem_of_getElem? (i := 26) rfl))) (mvT hZ (hw _ (List.mem_of_getElem? (i := 27) rfl))) (mvT hZ (hw _ (List.mem_of_getElem? (i := 28) rfl))) (mvT hZ (hw _ (List.mem_of_getElem? (i := 29) rfl))) (by decide) (backOf (W := 2) (rm6 l Z a0 hw [] ((own_mix (q1 + ((q2 + (1 : Int64)) * (-7046029254386353131 : Int64)))) + (-7046029254386353131 : Int64)) T8.heap n0 Z8) hZ (hw _ (List.mem_of_getElem? (i := 29) rfl)) (hw _ (List.mem_of_getElem? (i := 28) rfl)) (by decide) (by decide)) (g := (mkF m 62 #[.val (.long q1), .second, .val (.long q2), .second, .val (.long (-7046029254386353131 : Int64)), .second, .val (.ref h0.size), .val (.long (own_mix ((own_mix (q1 + ((q2 + (1 : Int64)) * (-7046029254386353131 : Int64)))) + (-7046029254386353131 : Int64)))), .second, .val (.long (own_mix ((own_mix (q1 + ((q2 + (1 : Int64)) * (-7046029254386353131 : Int64)))) + (-7046029254386353131 : Int64) + (-7046029254386353131 : Int64)))), .second, .val (.long (own_mix (q1 + ((q2 + (1 : Int64)) * (-7046029254386353131 : Int64))))), .second, .val (.ref T6.heap.size), .val (.long (own_mix (own_mix ((-(-7046029254386353131 : Int64)) + (((0 : Int64) + (1 : Int64)) * (-7046029254386353131 : Int64))) + (-7046029254386353131 : Int64)))), .second, .unset, .unset] [(.long ((own_mix (q1 + ((q2 + (1 : Int64)) * (-7046029254386353131 : Int64)))) + (-7046029254386353131 : Int64))), (.long (own_mix ((own_mix (q1 + ((q2 + (1 : Int64)) * (-7046029254386353131 : Int64)))) + (-7046029254386353131 : Int64))))])) rfl (by rw [hml]; rfl) (argsL := [(.long ((own_mix (q1 + ((q2 + (1 : Int64)) * (-7046029254386353131 : Int64)))) + (-7046029254386353131 : Int64)))]) (rest := [(.long (own_mix ((own_mix (q1 + ((q2 + (1 : Int64)) * (-7046029254386353131 : Int64)))) + (-7046029254386353131 : Int64))))]) (lenOf pd_0_1 rfl) rfl (by show 2 * 0 + _ ≤ _; exact Nat.le_of_eq rfl) (hb hby at_62) (fun _ _ => ⟨rfl, rfl, (by decide : 2 + 0 ≤ _), (by decide : 2 + 0 ≤ _)⟩)
  dsimp only [Pt.U, Pt.locs, Pt.cells, Pt.slots] at X9 l9 y9 z9 st9 hQ9
  subst l9 y9 z9
  obtain ⟨rfl, N9q, e9q⟩ := hQ9
  have K9 : Keep T8.heap T9.heap [] := by rw [e9q]; exact Keep.refl _ _
  have Z9 : n0 ≤ T9.heap.size := Nat.le_trans Z8 K9.1
  have N9 := Fr.app N8 N9q
  obtain ⟨_, _, ⟨T10, L10, k10, n10⟩, -, X10, ⟨Lc10, hQ10, l10, y10, z10⟩, st10⟩ := Jvm.LawKit.callS X9 hx (y := (⟨"com/example/demine/demine/solver/SplitMixForGamePinLaw", "mix64", "(J)J"⟩ : MethodName)) hown (mvT hZ (hw _ (List.mem_of_getElem? (i := 26) rfl))) (mvT hZ (hw _ (List.mem_of_getElem? (i := 27) rfl))) (mvT hZ (hw _ (List.mem_of_getElem? (i := 28) rfl))) (mvT hZ (hw _ (List.mem_of_getElem? (i := 29) rfl))) (by decide) (backOf (W := 2) (rm6 l Z a0 hw [] ((own_mix (q1 + ((q2 + (1 : Int64)) * (-7046029254386353131 : Int64)))) + ((2 : Int64) * (-7046029254386353131 : Int64))) T9.heap n0 Z9) hZ (hw _ (List.mem_of_getElem? (i := 29) rfl)) (hw _ (List.mem_of_getElem? (i := 28) rfl)) (by decide) (by decide)) (g := (mkF m 80 #[.val (.long q1), .second, .val (.long q2), .second, .val (.long (-7046029254386353131 : Int64)), .second, .val (.ref h0.size), .val (.long (own_mix ((own_mix (q1 + ((q2 + (1 : Int64)) * (-7046029254386353131 : Int64)))) + (-7046029254386353131 : Int64)))), .second, .val (.long (own_mix ((own_mix (q1 + ((q2 + (1 : Int64)) * (-7046029254386353131 : Int64)))) + (-7046029254386353131 : Int64) + (-7046029254386353131 : Int64)))), .second, .val (.long (own_mix (q1 + ((q2 + (1 : Int64)) * (-7046029254386353131 : Int64))))), .second, .val (.ref T6.heap.size), .val (.long (own_mix (own_mix ((-(-7046029254386353131 : Int64)) + (((0 : Int64) + (1 : Int64)) * (-7046029254386353131 : Int64))) + (-7046029254386353131 : Int64)))), .second, .unset, .unset] [(.long ((own_mix (q1 + ((q2 + (1 : Int64)) * (-7046029254386353131 : Int64)))) + ((2 : Int64) * (-7046029254386353131 : Int64)))), (.long (own_mix ((own_mix (q1 + ((q2 + (1 : Int64)) * (-7046029254386353131 : Int64)))) + (-7046029254386353131 : Int64) + (-7046029254386353131 : Int64))))])) rfl (by rw [hml]; rfl) (argsL := [(.long ((own_mix (q1 + ((q2 + (1 : Int64)) * (-7046029254386353131 : Int64)))) + ((2 : Int64) * (-7046029254386353131 : Int64))))]) (rest := [(.long (own_mix ((own_mix (q1 + ((q2 + (1 : Int64)) * (-7046029254386353131 : Int64)))) + (-7046029254386353131 : Int64) + (-7046029254386353131 : Int64))))]) (lenOf pd_0_1 rfl) rfl (by show 2 * 0 + _ ≤ _; exact Nat.le_of_eq rfl) (hb hby at_80) (fun _ _ => ⟨rfl, rfl, (by decide : 2 + 0 ≤ _), (by decide : 2 + 0 ≤ _)⟩)
  dsimp only [Pt.U, Pt.locs, Pt.cells, Pt.slots] at X10 l10 y10 z10 st10 hQ10
  subst l10 y10 z10
  obtain ⟨rfl, N10q, e10q⟩ := hQ10
  have K10 : Keep T9.heap T10.heap [] := by rw [e10q]; exact Keep.refl _ _
  have Z10 : n0 ≤ T10.heap.size := Nat.le_trans Z9 K10.1
  have N10 := Fr.app N9 N10q
  obtain ⟨fs, hr, hrun, hended, hW, hsame⟩ := X10.leave (v := some (.int (1 : Int32))) (fun h => by rw [Bd.returns] at h; cases h)
  refine ⟨_, _, pre0 _ ?_, hrun, hended, _, _, rfl, ?_, ⟨_, rfl⟩, hW, hsame.mono (by decide) (by decide)⟩
  · show Steps p.tables e below (s₁.setTop (mkF m 0 #[.val (.long q1), .second, .val (.long q2), .second, .unset, .unset, .unset, .unset, .unset, .unset, .unset, .unset, .unset, .unset, .unset, .unset, .unset, .unset] [])) _
    refine X0.ldc2Long hx hown (mvT hZ (hw _ (List.mem_of_getElem? (i := 0) rfl))) (g := (mkF m 0 #[.val (.long q1), .second, .val (.long q2), .second, .unset, .unset, .unset, .unset, .unset, .unset, .unset, .unset, .unset, .unset, .unset, .unset, .unset, .unset] [])) rfl (hb hby at_0) _ ?_
    show Steps p.tables e below (s₁.setTop (mkF m 3 #[.val (.long q1), .second, .val (.long q2), .second, .unset, .unset, .unset, .unset, .unset, .unset, .unset, .unset, .unset, .unset, .unset, .unset, .unset, .unset] [(.long (-7046029254386353131 : Int64))])) _
    refine XS.lstore X0.here hx rfl (hb hby at_3) rfl (l' := #[.val (.long q1), .second, .val (.long q2), .second, .val (.long (-7046029254386353131 : Int64)), .second, .unset, .unset, .unset, .unset, .unset, .unset, .unset, .unset, .unset, .unset, .unset, .unset]) rfl ?_
    show Steps p.tables e below (s₁.setTop (mkF m 5 #[.val (.long q1), .second, .val (.long q2), .second, .val (.long (-7046029254386353131 : Int64)), .second, .unset, .unset, .unset, .unset, .unset, .unset, .unset, .unset, .unset, .unset, .unset, .unset] [])) _
    refine XS.lloadN X0.here hx rfl (hb hby at_5) rfl ?_
    show Steps p.tables e below (s₁.setTop (mkF m 6 #[.val (.long q1), .second, .val (.long q2), .second, .val (.long (-7046029254386353131 : Int64)), .second, .unset, .unset, .unset, .unset, .unset, .unset, .unset, .unset, .unset, .unset, .unset, .unset] [(.long q1)])) _
    refine XS.lloadN X0.here hx rfl (hb hby at_6) rfl ?_
    show Steps p.tables e below (s₁.setTop (mkF m 7 #[.val (.long q1), .second, .val (.long q2), .second, .val (.long (-7046029254386353131 : Int64)), .second, .unset, .unset, .unset, .unset, .unset, .unset, .unset, .unset, .unset, .unset, .unset, .unset] [(.long q2), (.long q1)])) _
    refine st3 _ ?_
    show Steps p.tables e below (T3.setTop (mkF m 10 #[.val (.long q1), .second, .val (.long q2), .second, .val (.long (-7046029254386353131 : Int64)), .second, .unset, .unset, .unset, .unset, .unset, .unset, .unset, .unset, .unset, .unset, .unset, .unset] [(.ref h0.size)])) _
    refine XS.astore X3.here hx rfl (hb hby at_10) rfl rfl (l' := #[.val (.long q1), .second, .val (.long q2), .second, .val (.long (-7046029254386353131 : Int64)), .second, .val (.ref h0.size), .unset, .unset, .unset, .unset, .unset, .unset, .unset, .unset, .unset, .unset, .unset]) rfl ?_
    show Steps p.tables e below (T3.setTop (mkF m 12 #[.val (.long q1), .second, .val (.long q2), .second, .val (.long (-7046029254386353131 : Int64)), .second, .val (.ref h0.size), .unset, .unset, .unset, .unset, .unset, .unset, .unset, .unset, .unset, .unset, .unset] [])) _
    refine XS.aload X3.here hx rfl (hb hby at_12) rfl rfl ?_
    show Steps p.tables e below (T3.setTop (mkF m 14 #[.val (.long q1), .second, .val (.long q2), .second, .val (.long (-7046029254386353131 : Int64)), .second, .val (.ref h0.size), .unset, .unset, .unset, .unset, .unset, .unset, .unset, .unset, .unset, .unset, .unset] [(.ref h0.size)])) _
    refine st4.trans ?_
    show Steps p.tables e below (T4.setTop (mkF m 17 #[.val (.long q1), .second, .val (.long q2), .second, .val (.long (-7046029254386353131 : Int64)), .second, .val (.ref h0.size), .unset, .unset, .unset, .unset, .unset, .unset, .unset, .unset, .unset, .unset, .unset] [(.long (own_mix ((own_mix (q1 + ((q2 + (1 : Int64)) * (-7046029254386353131 : Int64)))) + (-7046029254386353131 : Int64))))])) _
    refine XS.lstore X4.here hx rfl (hb hby at_17) rfl (l' := #[.val (.long q1), .second, .val (.long q2), .second, .val (.long (-7046029254386353131 : Int64)), .second, .val (.ref h0.size), .val (.long (own_mix ((own_mix (q1 + ((q2 + (1 : Int64)) * (-7046029254386353131 : Int64)))) + (-7046029254386353131 : Int64)))), .second, .unset, .unset, .unset, .unset, .unset, .unset, .unset, .unset, .unset]) rfl ?_
    show Steps p.tables e below (T4.setTop (mkF m 19 #[.val (.long q1), .second, .val (.long q2), .second, .val (.long (-7046029254386353131 : Int64)), .second, .val (.ref h0.size), .val (.long (own_mix ((own_mix (q1 + ((q2 + (1 : Int64)) * (-7046029254386353131 : Int64)))) + (-7046029254386353131 : Int64)))), .second, .unset, .unset, .unset, .unset, .unset, .unset, .unset, .unset, .unset] [])) _
    refine XS.aload X4.here hx rfl (hb hby at_19) rfl rfl ?_
    show Steps p.tables e below (T4.setTop (mkF m 21 #[.val (.long q1), .second, .val (.long q2), .second, .val (.long (-7046029254386353131 : Int64)), .second, .val (.ref h0.size), .val (.long (own_mix ((own_mix (q1 + ((q2 + (1 : Int64)) * (-7046029254386353131 : Int64)))) + (-7046029254386353131 : Int64)))), .second, .unset, .unset, .unset, .unset, .unset, .unset, .unset, .unset, .unset] [(.ref h0.size)])) _
    refine st5.trans ?_
    show Steps p.tables e below (T5.setTop (mkF m 24 #[.val (.long q1), .second, .val (.long q2), .second, .val (.long (-7046029254386353131 : Int64)), .second, .val (.ref h0.size), .val (.long (own_mix ((own_mix (q1 + ((q2 + (1 : Int64)) * (-7046029254386353131 : Int64)))) + (-7046029254386353131 : Int64)))), .second, .unset, .unset, .unset, .unset, .unset, .unset, .unset, .unset, .unset] [(.long (own_mix ((own_mix (q1 + ((q2 + (1 : Int64)) * (-7046029254386353131 : Int64)))) + (-7046029254386353131 : Int64) + (-7046029254386353131 : Int64))))])) _
    refine XS.lstore X5.here hx rfl (hb hby at_24) rfl (l' := #[.val (.long q1), .second, .val (.long q2), .second, .val (.long (-7046029254386353131 : Int64)), .second, .val (.ref h0.size), .val (.long (own_mix ((own_mix (q1 + ((q2 + (1 : Int64)) * (-7046029254386353131 : Int64)))) + (-7046029254386353131 : Int64)))), .second, .val (.long (own_mix ((own_mix (q1 + ((q2 + (1 : Int64)) * (-7046029254386353131 : Int64)))) + (-7046029254386353131 : Int64) + (-7046029254386353131 : Int64)))), .second, .unset, .unset, .unset, .unset, .unset, .unset, .unset]) rfl ?_
    show Steps p.tables e below (T5.setTop (mkF m 26 #[.val (.long q1), .second, .val (.long q2), .second, .val (.long (-7046029254386353131 : Int64)), .second, .val (.ref h0.size), .val (.long (own_mix ((own_mix (q1 + ((q2 + (1 : Int64)) * (-7046029254386353131 : Int64)))) + (-7046029254386353131 : Int64)))), .second, .val (.long (own_mix ((own_mix (q1 + ((q2 + (1 : Int64)) * (-7046029254386353131 : Int64)))) + (-7046029254386353131 : Int64) + (-7046029254386353131 : Int64)))), .second, .unset, .unset, .unset, .unset, .unset, .unset, .unset] [])) _
    refine XS.lloadN X5.here hx rfl (hb hby at_26) rfl ?_
    show Steps p.tables e below (T5.setTop (mkF m 27 #[.val (.long q1), .second, .val (.long q2), .second, .val (.long (-7046029254386353131 : Int64)), .second, .val (.ref h0.size), .val (.long (own_mix ((own_mix (q1 + ((q2 + (1 : Int64)) * (-7046029254386353131 : Int64)))) + (-7046029254386353131 : Int64)))), .second, .val (.long (own_mix ((own_mix (q1 + ((q2 + (1 : Int64)) * (-7046029254386353131 : Int64)))) + (-7046029254386353131 : Int64) + (-7046029254386353131 : Int64)))), .second, .unset, .unset, .unset, .unset, .unset, .unset, .unset] [(.long q1)])) _
    refine XS.lloadN X5.here hx rfl (hb hby at_27) rfl ?_
    show Steps p.tables e below (T5.setTop (mkF m 28 #[.val (.long q1), .second, .val (.long q2), .second, .val (.long (-7046029254386353131 : Int64)), .second, .val (.ref h0.size), .val (.long (own_mix ((own_mix (q1 + ((q2 + (1 : Int64)) * (-7046029254386353131 : Int64)))) + (-7046029254386353131 : Int64)))), .second, .val (.long (own_mix ((own_mix (q1 + ((q2 + (1 : Int64)) * (-7046029254386353131 : Int64)))) + (-7046029254386353131 : Int64) + (-7046029254386353131 : Int64)))), .second, .unset, .unset, .unset, .unset, .unset, .unset, .unset] [(.long q2), (.long q1)])) _
    refine XS.lconst X5.here hx rfl (hb hby at_28) ?_
    show Steps p.tables e below (T5.setTop (mkF m 29 #[.val (.long q1), .second, .val (.long q2), .second, .val (.long (-7046029254386353131 : Int64)), .second, .val (.ref h0.size), .val (.long (own_mix ((own_mix (q1 + ((q2 + (1 : Int64)) * (-7046029254386353131 : Int64)))) + (-7046029254386353131 : Int64)))), .second, .val (.long (own_mix ((own_mix (q1 + ((q2 + (1 : Int64)) * (-7046029254386353131 : Int64)))) + (-7046029254386353131 : Int64) + (-7046029254386353131 : Int64)))), .second, .unset, .unset, .unset, .unset, .unset, .unset, .unset] [(.long (1 : Int64)), (.long q2), (.long q1)])) _
    refine XS.ladd X5.here hx rfl (hb hby at_29) rfl ?_
    show Steps p.tables e below (T5.setTop (mkF m 30 #[.val (.long q1), .second, .val (.long q2), .second, .val (.long (-7046029254386353131 : Int64)), .second, .val (.ref h0.size), .val (.long (own_mix ((own_mix (q1 + ((q2 + (1 : Int64)) * (-7046029254386353131 : Int64)))) + (-7046029254386353131 : Int64)))), .second, .val (.long (own_mix ((own_mix (q1 + ((q2 + (1 : Int64)) * (-7046029254386353131 : Int64)))) + (-7046029254386353131 : Int64) + (-7046029254386353131 : Int64)))), .second, .unset, .unset, .unset, .unset, .unset, .unset, .unset] [(.long (q2 + (1 : Int64))), (.long q1)])) _
    refine XS.lload X5.here hx rfl (hb hby at_30) rfl ?_
    show Steps p.tables e below (T5.setTop (mkF m 32 #[.val (.long q1), .second, .val (.long q2), .second, .val (.long (-7046029254386353131 : Int64)), .second, .val (.ref h0.size), .val (.long (own_mix ((own_mix (q1 + ((q2 + (1 : Int64)) * (-7046029254386353131 : Int64)))) + (-7046029254386353131 : Int64)))), .second, .val (.long (own_mix ((own_mix (q1 + ((q2 + (1 : Int64)) * (-7046029254386353131 : Int64)))) + (-7046029254386353131 : Int64) + (-7046029254386353131 : Int64)))), .second, .unset, .unset, .unset, .unset, .unset, .unset, .unset] [(.long (-7046029254386353131 : Int64)), (.long (q2 + (1 : Int64))), (.long q1)])) _
    refine XS.lmul X5.here hx rfl (hb hby at_32) rfl ?_
    show Steps p.tables e below (T5.setTop (mkF m 33 #[.val (.long q1), .second, .val (.long q2), .second, .val (.long (-7046029254386353131 : Int64)), .second, .val (.ref h0.size), .val (.long (own_mix ((own_mix (q1 + ((q2 + (1 : Int64)) * (-7046029254386353131 : Int64)))) + (-7046029254386353131 : Int64)))), .second, .val (.long (own_mix ((own_mix (q1 + ((q2 + (1 : Int64)) * (-7046029254386353131 : Int64)))) + (-7046029254386353131 : Int64) + (-7046029254386353131 : Int64)))), .second, .unset, .unset, .unset, .unset, .unset, .unset, .unset] [(.long ((q2 + (1 : Int64)) * (-7046029254386353131 : Int64))), (.long q1)])) _
    refine XS.ladd X5.here hx rfl (hb hby at_33) rfl ?_
    show Steps p.tables e below (T5.setTop (mkF m 34 #[.val (.long q1), .second, .val (.long q2), .second, .val (.long (-7046029254386353131 : Int64)), .second, .val (.ref h0.size), .val (.long (own_mix ((own_mix (q1 + ((q2 + (1 : Int64)) * (-7046029254386353131 : Int64)))) + (-7046029254386353131 : Int64)))), .second, .val (.long (own_mix ((own_mix (q1 + ((q2 + (1 : Int64)) * (-7046029254386353131 : Int64)))) + (-7046029254386353131 : Int64) + (-7046029254386353131 : Int64)))), .second, .unset, .unset, .unset, .unset, .unset, .unset, .unset] [(.long (q1 + ((q2 + (1 : Int64)) * (-7046029254386353131 : Int64))))])) _
    refine st6 _ ?_
    show Steps p.tables e below (T6.setTop (mkF m 37 #[.val (.long q1), .second, .val (.long q2), .second, .val (.long (-7046029254386353131 : Int64)), .second, .val (.ref h0.size), .val (.long (own_mix ((own_mix (q1 + ((q2 + (1 : Int64)) * (-7046029254386353131 : Int64)))) + (-7046029254386353131 : Int64)))), .second, .val (.long (own_mix ((own_mix (q1 + ((q2 + (1 : Int64)) * (-7046029254386353131 : Int64)))) + (-7046029254386353131 : Int64) + (-7046029254386353131 : Int64)))), .second, .unset, .unset, .unset, .unset, .unset, .unset, .unset] [(.long (own_mix (q1 + ((q2 + (1 : Int64)) * (-7046029254386353131 : Int64)))))])) _
    refine XS.lstore X6.here hx rfl (hb hby at_37) rfl (l' := #[.val (.long q1), .second, .val (.long q2), .second, .val (.long (-7046029254386353131 : Int64)), .second, .val (.ref h0.size), .val (.long (own_mix ((own_mix (q1 + ((q2 + (1 : Int64)) * (-7046029254386353131 : Int64)))) + (-7046029254386353131 : Int64)))), .second, .val (.long (own_mix ((own_mix (q1 + ((q2 + (1 : Int64)) * (-7046029254386353131 : Int64)))) + (-7046029254386353131 : Int64) + (-7046029254386353131 : Int64)))), .second, .val (.long (own_mix (q1 + ((q2 + (1 : Int64)) * (-7046029254386353131 : Int64))))), .second, .unset, .unset, .unset, .unset, .unset]) rfl ?_
    show Steps p.tables e below (T6.setTop (mkF m 39 #[.val (.long q1), .second, .val (.long q2), .second, .val (.long (-7046029254386353131 : Int64)), .second, .val (.ref h0.size), .val (.long (own_mix ((own_mix (q1 + ((q2 + (1 : Int64)) * (-7046029254386353131 : Int64)))) + (-7046029254386353131 : Int64)))), .second, .val (.long (own_mix ((own_mix (q1 + ((q2 + (1 : Int64)) * (-7046029254386353131 : Int64)))) + (-7046029254386353131 : Int64) + (-7046029254386353131 : Int64)))), .second, .val (.long (own_mix (q1 + ((q2 + (1 : Int64)) * (-7046029254386353131 : Int64))))), .second, .unset, .unset, .unset, .unset, .unset] [])) _
    refine XS.lload X6.here hx rfl (hb hby at_39) rfl ?_
    show Steps p.tables e below (T6.setTop (mkF m 41 #[.val (.long q1), .second, .val (.long q2), .second, .val (.long (-7046029254386353131 : Int64)), .second, .val (.ref h0.size), .val (.long (own_mix ((own_mix (q1 + ((q2 + (1 : Int64)) * (-7046029254386353131 : Int64)))) + (-7046029254386353131 : Int64)))), .second, .val (.long (own_mix ((own_mix (q1 + ((q2 + (1 : Int64)) * (-7046029254386353131 : Int64)))) + (-7046029254386353131 : Int64) + (-7046029254386353131 : Int64)))), .second, .val (.long (own_mix (q1 + ((q2 + (1 : Int64)) * (-7046029254386353131 : Int64))))), .second, .unset, .unset, .unset, .unset, .unset] [(.long (-7046029254386353131 : Int64))])) _
    refine XS.lneg X6.here hx rfl (hb hby at_41) rfl ?_
    show Steps p.tables e below (T6.setTop (mkF m 42 #[.val (.long q1), .second, .val (.long q2), .second, .val (.long (-7046029254386353131 : Int64)), .second, .val (.ref h0.size), .val (.long (own_mix ((own_mix (q1 + ((q2 + (1 : Int64)) * (-7046029254386353131 : Int64)))) + (-7046029254386353131 : Int64)))), .second, .val (.long (own_mix ((own_mix (q1 + ((q2 + (1 : Int64)) * (-7046029254386353131 : Int64)))) + (-7046029254386353131 : Int64) + (-7046029254386353131 : Int64)))), .second, .val (.long (own_mix (q1 + ((q2 + (1 : Int64)) * (-7046029254386353131 : Int64))))), .second, .unset, .unset, .unset, .unset, .unset] [(.long (-(-7046029254386353131 : Int64)))])) _
    refine XS.lconst X6.here hx rfl (hb hby at_42) ?_
    show Steps p.tables e below (T6.setTop (mkF m 43 #[.val (.long q1), .second, .val (.long q2), .second, .val (.long (-7046029254386353131 : Int64)), .second, .val (.ref h0.size), .val (.long (own_mix ((own_mix (q1 + ((q2 + (1 : Int64)) * (-7046029254386353131 : Int64)))) + (-7046029254386353131 : Int64)))), .second, .val (.long (own_mix ((own_mix (q1 + ((q2 + (1 : Int64)) * (-7046029254386353131 : Int64)))) + (-7046029254386353131 : Int64) + (-7046029254386353131 : Int64)))), .second, .val (.long (own_mix (q1 + ((q2 + (1 : Int64)) * (-7046029254386353131 : Int64))))), .second, .unset, .unset, .unset, .unset, .unset] [(.long (0 : Int64)), (.long (-(-7046029254386353131 : Int64)))])) _
    refine st7 _ ?_
    show Steps p.tables e below (T7.setTop (mkF m 46 #[.val (.long q1), .second, .val (.long q2), .second, .val (.long (-7046029254386353131 : Int64)), .second, .val (.ref h0.size), .val (.long (own_mix ((own_mix (q1 + ((q2 + (1 : Int64)) * (-7046029254386353131 : Int64)))) + (-7046029254386353131 : Int64)))), .second, .val (.long (own_mix ((own_mix (q1 + ((q2 + (1 : Int64)) * (-7046029254386353131 : Int64)))) + (-7046029254386353131 : Int64) + (-7046029254386353131 : Int64)))), .second, .val (.long (own_mix (q1 + ((q2 + (1 : Int64)) * (-7046029254386353131 : Int64))))), .second, .unset, .unset, .unset, .unset, .unset] [(.ref T6.heap.size)])) _
    refine XS.astore X7.here hx rfl (hb hby at_46) rfl rfl (l' := #[.val (.long q1), .second, .val (.long q2), .second, .val (.long (-7046029254386353131 : Int64)), .second, .val (.ref h0.size), .val (.long (own_mix ((own_mix (q1 + ((q2 + (1 : Int64)) * (-7046029254386353131 : Int64)))) + (-7046029254386353131 : Int64)))), .second, .val (.long (own_mix ((own_mix (q1 + ((q2 + (1 : Int64)) * (-7046029254386353131 : Int64)))) + (-7046029254386353131 : Int64) + (-7046029254386353131 : Int64)))), .second, .val (.long (own_mix (q1 + ((q2 + (1 : Int64)) * (-7046029254386353131 : Int64))))), .second, .val (.ref T6.heap.size), .unset, .unset, .unset, .unset]) rfl ?_
    show Steps p.tables e below (T7.setTop (mkF m 48 #[.val (.long q1), .second, .val (.long q2), .second, .val (.long (-7046029254386353131 : Int64)), .second, .val (.ref h0.size), .val (.long (own_mix ((own_mix (q1 + ((q2 + (1 : Int64)) * (-7046029254386353131 : Int64)))) + (-7046029254386353131 : Int64)))), .second, .val (.long (own_mix ((own_mix (q1 + ((q2 + (1 : Int64)) * (-7046029254386353131 : Int64)))) + (-7046029254386353131 : Int64) + (-7046029254386353131 : Int64)))), .second, .val (.long (own_mix (q1 + ((q2 + (1 : Int64)) * (-7046029254386353131 : Int64))))), .second, .val (.ref T6.heap.size), .unset, .unset, .unset, .unset] [])) _
    refine XS.aload X7.here hx rfl (hb hby at_48) rfl rfl ?_
    show Steps p.tables e below (T7.setTop (mkF m 50 #[.val (.long q1), .second, .val (.long q2), .second, .val (.long (-7046029254386353131 : Int64)), .second, .val (.ref h0.size), .val (.long (own_mix ((own_mix (q1 + ((q2 + (1 : Int64)) * (-7046029254386353131 : Int64)))) + (-7046029254386353131 : Int64)))), .second, .val (.long (own_mix ((own_mix (q1 + ((q2 + (1 : Int64)) * (-7046029254386353131 : Int64)))) + (-7046029254386353131 : Int64) + (-7046029254386353131 : Int64)))), .second, .val (.long (own_mix (q1 + ((q2 + (1 : Int64)) * (-7046029254386353131 : Int64))))), .second, .val (.ref T6.heap.size), .unset, .unset, .unset, .unset] [(.ref T6.heap.size)])) _
    refine st8.trans ?_
    show Steps p.tables e below (T8.setTop (mkF m 53 #[.val (.long q1), .second, .val (.long q2), .second, .val (.long (-7046029254386353131 : Int64)), .second, .val (.ref h0.size), .val (.long (own_mix ((own_mix (q1 + ((q2 + (1 : Int64)) * (-7046029254386353131 : Int64)))) + (-7046029254386353131 : Int64)))), .second, .val (.long (own_mix ((own_mix (q1 + ((q2 + (1 : Int64)) * (-7046029254386353131 : Int64)))) + (-7046029254386353131 : Int64) + (-7046029254386353131 : Int64)))), .second, .val (.long (own_mix (q1 + ((q2 + (1 : Int64)) * (-7046029254386353131 : Int64))))), .second, .val (.ref T6.heap.size), .unset, .unset, .unset, .unset] [(.long (own_mix (own_mix ((-(-7046029254386353131 : Int64)) + (((0 : Int64) + (1 : Int64)) * (-7046029254386353131 : Int64))) + (-7046029254386353131 : Int64))))])) _
    refine XS.lstore X8.here hx rfl (hb hby at_53) rfl (l' := #[.val (.long q1), .second, .val (.long q2), .second, .val (.long (-7046029254386353131 : Int64)), .second, .val (.ref h0.size), .val (.long (own_mix ((own_mix (q1 + ((q2 + (1 : Int64)) * (-7046029254386353131 : Int64)))) + (-7046029254386353131 : Int64)))), .second, .val (.long (own_mix ((own_mix (q1 + ((q2 + (1 : Int64)) * (-7046029254386353131 : Int64)))) + (-7046029254386353131 : Int64) + (-7046029254386353131 : Int64)))), .second, .val (.long (own_mix (q1 + ((q2 + (1 : Int64)) * (-7046029254386353131 : Int64))))), .second, .val (.ref T6.heap.size), .val (.long (own_mix (own_mix ((-(-7046029254386353131 : Int64)) + (((0 : Int64) + (1 : Int64)) * (-7046029254386353131 : Int64))) + (-7046029254386353131 : Int64)))), .second, .unset, .unset]) rfl ?_
    show Steps p.tables e below (T8.setTop (mkF m 55 #[.val (.long q1), .second, .val (.long q2), .second, .val (.long (-7046029254386353131 : Int64)), .second, .val (.ref h0.size), .val (.long (own_mix ((own_mix (q1 + ((q2 + (1 : Int64)) * (-7046029254386353131 : Int64)))) + (-7046029254386353131 : Int64)))), .second, .val (.long (own_mix ((own_mix (q1 + ((q2 + (1 : Int64)) * (-7046029254386353131 : Int64)))) + (-7046029254386353131 : Int64) + (-7046029254386353131 : Int64)))), .second, .val (.long (own_mix (q1 + ((q2 + (1 : Int64)) * (-7046029254386353131 : Int64))))), .second, .val (.ref T6.heap.size), .val (.long (own_mix (own_mix ((-(-7046029254386353131 : Int64)) + (((0 : Int64) + (1 : Int64)) * (-7046029254386353131 : Int64))) + (-7046029254386353131 : Int64)))), .second, .unset, .unset] [])) _
    refine XS.lload X8.here hx rfl (hb hby at_55) rfl ?_
    show Steps p.tables e below (T8.setTop (mkF m 57 #[.val (.long q1), .second, .val (.long q2), .second, .val (.long (-7046029254386353131 : Int64)), .second, .val (.ref h0.size), .val (.long (own_mix ((own_mix (q1 + ((q2 + (1 : Int64)) * (-7046029254386353131 : Int64)))) + (-7046029254386353131 : Int64)))), .second, .val (.long (own_mix ((own_mix (q1 + ((q2 + (1 : Int64)) * (-7046029254386353131 : Int64)))) + (-7046029254386353131 : Int64) + (-7046029254386353131 : Int64)))), .second, .val (.long (own_mix (q1 + ((q2 + (1 : Int64)) * (-7046029254386353131 : Int64))))), .second, .val (.ref T6.heap.size), .val (.long (own_mix (own_mix ((-(-7046029254386353131 : Int64)) + (((0 : Int64) + (1 : Int64)) * (-7046029254386353131 : Int64))) + (-7046029254386353131 : Int64)))), .second, .unset, .unset] [(.long (own_mix ((own_mix (q1 + ((q2 + (1 : Int64)) * (-7046029254386353131 : Int64)))) + (-7046029254386353131 : Int64))))])) _
    refine XS.lload X8.here hx rfl (hb hby at_57) rfl ?_
    show Steps p.tables e below (T8.setTop (mkF m 59 #[.val (.long q1), .second, .val (.long q2), .second, .val (.long (-7046029254386353131 : Int64)), .second, .val (.ref h0.size), .val (.long (own_mix ((own_mix (q1 + ((q2 + (1 : Int64)) * (-7046029254386353131 : Int64)))) + (-7046029254386353131 : Int64)))), .second, .val (.long (own_mix ((own_mix (q1 + ((q2 + (1 : Int64)) * (-7046029254386353131 : Int64)))) + (-7046029254386353131 : Int64) + (-7046029254386353131 : Int64)))), .second, .val (.long (own_mix (q1 + ((q2 + (1 : Int64)) * (-7046029254386353131 : Int64))))), .second, .val (.ref T6.heap.size), .val (.long (own_mix (own_mix ((-(-7046029254386353131 : Int64)) + (((0 : Int64) + (1 : Int64)) * (-7046029254386353131 : Int64))) + (-7046029254386353131 : Int64)))), .second, .unset, .unset] [(.long (own_mix (q1 + ((q2 + (1 : Int64)) * (-7046029254386353131 : Int64))))), (.long (own_mix ((own_mix (q1 + ((q2 + (1 : Int64)) * (-7046029254386353131 : Int64)))) + (-7046029254386353131 : Int64))))])) _
    refine XS.lload X8.here hx rfl (hb hby at_59) rfl ?_
    show Steps p.tables e below (T8.setTop (mkF m 61 #[.val (.long q1), .second, .val (.long q2), .second, .val (.long (-7046029254386353131 : Int64)), .second, .val (.ref h0.size), .val (.long (own_mix ((own_mix (q1 + ((q2 + (1 : Int64)) * (-7046029254386353131 : Int64)))) + (-7046029254386353131 : Int64)))), .second, .val (.long (own_mix ((own_mix (q1 + ((q2 + (1 : Int64)) * (-7046029254386353131 : Int64)))) + (-7046029254386353131 : Int64) + (-7046029254386353131 : Int64)))), .second, .val (.long (own_mix (q1 + ((q2 + (1 : Int64)) * (-7046029254386353131 : Int64))))), .second, .val (.ref T6.heap.size), .val (.long (own_mix (own_mix ((-(-7046029254386353131 : Int64)) + (((0 : Int64) + (1 : Int64)) * (-7046029254386353131 : Int64))) + (-7046029254386353131 : Int64)))), .second, .unset, .unset] [(.long (-7046029254386353131 : Int64)), (.long (own_mix (q1 + ((q2 + (1 : Int64)) * (-7046029254386353131 : Int64))))), (.long (own_mix ((own_mix (q1 + ((q2 + (1 : Int64)) * (-7046029254386353131 : Int64)))) + (-7046029254386353131 : Int64))))])) _
    refine XS.ladd X8.here hx rfl (hb hby at_61) rfl ?_
    show Steps p.tables e below (T8.setTop (mkF m 62 #[.val (.long q1), .second, .val (.long q2), .second, .val (.long (-7046029254386353131 : Int64)), .second, .val (.ref h0.size), .val (.long (own_mix ((own_mix (q1 + ((q2 + (1 : Int64)) * (-7046029254386353131 : Int64)))) + (-7046029254386353131 : Int64)))), .second, .val (.long (own_mix ((own_mix (q1 + ((q2 + (1 : Int64)) * (-7046029254386353131 : Int64)))) + (-7046029254386353131 : Int64) + (-7046029254386353131 : Int64)))), .second, .val (.long (own_mix (q1 + ((q2 + (1 : Int64)) * (-7046029254386353131 : Int64))))), .second, .val (.ref T6.heap.size), .val (.long (own_mix (own_mix ((-(-7046029254386353131 : Int64)) + (((0 : Int64) + (1 : Int64)) * (-7046029254386353131 : Int64))) + (-7046029254386353131 : Int64)))), .second, .unset, .unset] [(.long ((own_mix (q1 + ((q2 + (1 : Int64)) * (-7046029254386353131 : Int64)))) + (-7046029254386353131 : Int64))), (.long (own_mix ((own_mix (q1 + ((q2 + (1 : Int64)) * (-7046029254386353131 : Int64)))) + (-7046029254386353131 : Int64))))])) _
    refine st9 _ ?_
    show Steps p.tables e below (T9.setTop (mkF m 65 #[.val (.long q1), .second, .val (.long q2), .second, .val (.long (-7046029254386353131 : Int64)), .second, .val (.ref h0.size), .val (.long (own_mix ((own_mix (q1 + ((q2 + (1 : Int64)) * (-7046029254386353131 : Int64)))) + (-7046029254386353131 : Int64)))), .second, .val (.long (own_mix ((own_mix (q1 + ((q2 + (1 : Int64)) * (-7046029254386353131 : Int64)))) + (-7046029254386353131 : Int64) + (-7046029254386353131 : Int64)))), .second, .val (.long (own_mix (q1 + ((q2 + (1 : Int64)) * (-7046029254386353131 : Int64))))), .second, .val (.ref T6.heap.size), .val (.long (own_mix (own_mix ((-(-7046029254386353131 : Int64)) + (((0 : Int64) + (1 : Int64)) * (-7046029254386353131 : Int64))) + (-7046029254386353131 : Int64)))), .second, .unset, .unset] [(.long (own_mix ((own_mix (q1 + ((q2 + (1 : Int64)) * (-7046029254386353131 : Int64)))) + (-7046029254386353131 : Int64)))), (.long (own_mix ((own_mix (q1 + ((q2 + (1 : Int64)) * (-7046029254386353131 : Int64)))) + (-7046029254386353131 : Int64))))])) _
    refine XS.lcmp X9.here hx rfl (hb hby at_65) rfl ?_
    show Steps p.tables e below (T9.setTop (mkF m 66 #[.val (.long q1), .second, .val (.long q2), .second, .val (.long (-7046029254386353131 : Int64)), .second, .val (.ref h0.size), .val (.long (own_mix ((own_mix (q1 + ((q2 + (1 : Int64)) * (-7046029254386353131 : Int64)))) + (-7046029254386353131 : Int64)))), .second, .val (.long (own_mix ((own_mix (q1 + ((q2 + (1 : Int64)) * (-7046029254386353131 : Int64)))) + (-7046029254386353131 : Int64) + (-7046029254386353131 : Int64)))), .second, .val (.long (own_mix (q1 + ((q2 + (1 : Int64)) * (-7046029254386353131 : Int64))))), .second, .val (.ref T6.heap.size), .val (.long (own_mix (own_mix ((-(-7046029254386353131 : Int64)) + (((0 : Int64) + (1 : Int64)) * (-7046029254386353131 : Int64))) + (-7046029254386353131 : Int64)))), .second, .unset, .unset] [(.int (lcmpW (own_mix ((own_mix (q1 + ((q2 + (1 : Int64)) * (-7046029254386353131 : Int64)))) + (-7046029254386353131 : Int64))) (own_mix ((own_mix (q1 + ((q2 + (1 : Int64)) * (-7046029254386353131 : Int64)))) + (-7046029254386353131 : Int64)))))])) _
    refine XS.ifNo X9.here hx rfl (hb hby at_66) rfl ((if0 _ _).trans (teq ((lw_eq _ _).mpr rfl : (lcmpW (own_mix ((own_mix (q1 + ((q2 + (1 : Int64)) * (-7046029254386353131 : Int64)))) + (-7046029254386353131 : Int64))) (own_mix ((own_mix (q1 + ((q2 + (1 : Int64)) * (-7046029254386353131 : Int64)))) + (-7046029254386353131 : Int64)))) = (0 : Int32))).2) ?_
    show Steps p.tables e below (T9.setTop (mkF m 69 #[.val (.long q1), .second, .val (.long q2), .second, .val (.long (-7046029254386353131 : Int64)), .second, .val (.ref h0.size), .val (.long (own_mix ((own_mix (q1 + ((q2 + (1 : Int64)) * (-7046029254386353131 : Int64)))) + (-7046029254386353131 : Int64)))), .second, .val (.long (own_mix ((own_mix (q1 + ((q2 + (1 : Int64)) * (-7046029254386353131 : Int64)))) + (-7046029254386353131 : Int64) + (-7046029254386353131 : Int64)))), .second, .val (.long (own_mix (q1 + ((q2 + (1 : Int64)) * (-7046029254386353131 : Int64))))), .second, .val (.ref T6.heap.size), .val (.long (own_mix (own_mix ((-(-7046029254386353131 : Int64)) + (((0 : Int64) + (1 : Int64)) * (-7046029254386353131 : Int64))) + (-7046029254386353131 : Int64)))), .second, .unset, .unset] [])) _
    refine XS.lload X9.here hx rfl (hb hby at_69) rfl ?_
    show Steps p.tables e below (T9.setTop (mkF m 71 #[.val (.long q1), .second, .val (.long q2), .second, .val (.long (-7046029254386353131 : Int64)), .second, .val (.ref h0.size), .val (.long (own_mix ((own_mix (q1 + ((q2 + (1 : Int64)) * (-7046029254386353131 : Int64)))) + (-7046029254386353131 : Int64)))), .second, .val (.long (own_mix ((own_mix (q1 + ((q2 + (1 : Int64)) * (-7046029254386353131 : Int64)))) + (-7046029254386353131 : Int64) + (-7046029254386353131 : Int64)))), .second, .val (.long (own_mix (q1 + ((q2 + (1 : Int64)) * (-7046029254386353131 : Int64))))), .second, .val (.ref T6.heap.size), .val (.long (own_mix (own_mix ((-(-7046029254386353131 : Int64)) + (((0 : Int64) + (1 : Int64)) * (-7046029254386353131 : Int64))) + (-7046029254386353131 : Int64)))), .second, .unset, .unset] [(.long (own_mix ((own_mix (q1 + ((q2 + (1 : Int64)) * (-7046029254386353131 : Int64)))) + (-7046029254386353131 : Int64) + (-7046029254386353131 : Int64))))])) _
    refine XS.lload X9.here hx rfl (hb hby at_71) rfl ?_
    show Steps p.tables e below (T9.setTop (mkF m 73 #[.val (.long q1), .second, .val (.long q2), .second, .val (.long (-7046029254386353131 : Int64)), .second, .val (.ref h0.size), .val (.long (own_mix ((own_mix (q1 + ((q2 + (1 : Int64)) * (-7046029254386353131 : Int64)))) + (-7046029254386353131 : Int64)))), .second, .val (.long (own_mix ((own_mix (q1 + ((q2 + (1 : Int64)) * (-7046029254386353131 : Int64)))) + (-7046029254386353131 : Int64) + (-7046029254386353131 : Int64)))), .second, .val (.long (own_mix (q1 + ((q2 + (1 : Int64)) * (-7046029254386353131 : Int64))))), .second, .val (.ref T6.heap.size), .val (.long (own_mix (own_mix ((-(-7046029254386353131 : Int64)) + (((0 : Int64) + (1 : Int64)) * (-7046029254386353131 : Int64))) + (-7046029254386353131 : Int64)))), .second, .unset, .unset] [(.long (own_mix (q1 + ((q2 + (1 : Int64)) * (-7046029254386353131 : Int64))))), (.long (own_mix ((own_mix (q1 + ((q2 + (1 : Int64)) * (-7046029254386353131 : Int64)))) + (-7046029254386353131 : Int64) + (-7046029254386353131 : Int64))))])) _
    refine X9.ldc2Long hx hown (mvT hZ (hw _ (List.mem_of_getElem? (i := 32) rfl))) (g := (mkF m 73 #[.val (.long q1), .second, .val (.long q2), .second, .val (.long (-7046029254386353131 : Int64)), .second, .val (.ref h0.size), .val (.long (own_mix ((own_mix (q1 + ((q2 + (1 : Int64)) * (-7046029254386353131 : Int64)))) + (-7046029254386353131 : Int64)))), .second, .val (.long (own_mix ((own_mix (q1 + ((q2 + (1 : Int64)) * (-7046029254386353131 : Int64)))) + (-7046029254386353131 : Int64) + (-7046029254386353131 : Int64)))), .second, .val (.long (own_mix (q1 + ((q2 + (1 : Int64)) * (-7046029254386353131 : Int64))))), .second, .val (.ref T6.heap.size), .val (.long (own_mix (own_mix ((-(-7046029254386353131 : Int64)) + (((0 : Int64) + (1 : Int64)) * (-7046029254386353131 : Int64))) + (-7046029254386353131 : Int64)))), .second, .unset, .unset] [(.long (own_mix (q1 + ((q2 + (1 : Int64)) * (-7046029254386353131 : Int64))))), (.long (own_mix ((own_mix (q1 + ((q2 + (1 : Int64)) * (-7046029254386353131 : Int64)))) + (-7046029254386353131 : Int64) + (-7046029254386353131 : Int64))))])) rfl (hb hby at_73) _ ?_
    show Steps p.tables e below (T9.setTop (mkF m 76 #[.val (.long q1), .second, .val (.long q2), .second, .val (.long (-7046029254386353131 : Int64)), .second, .val (.ref h0.size), .val (.long (own_mix ((own_mix (q1 + ((q2 + (1 : Int64)) * (-7046029254386353131 : Int64)))) + (-7046029254386353131 : Int64)))), .second, .val (.long (own_mix ((own_mix (q1 + ((q2 + (1 : Int64)) * (-7046029254386353131 : Int64)))) + (-7046029254386353131 : Int64) + (-7046029254386353131 : Int64)))), .second, .val (.long (own_mix (q1 + ((q2 + (1 : Int64)) * (-7046029254386353131 : Int64))))), .second, .val (.ref T6.heap.size), .val (.long (own_mix (own_mix ((-(-7046029254386353131 : Int64)) + (((0 : Int64) + (1 : Int64)) * (-7046029254386353131 : Int64))) + (-7046029254386353131 : Int64)))), .second, .unset, .unset] [(.long (2 : Int64)), (.long (own_mix (q1 + ((q2 + (1 : Int64)) * (-7046029254386353131 : Int64))))), (.long (own_mix ((own_mix (q1 + ((q2 + (1 : Int64)) * (-7046029254386353131 : Int64)))) + (-7046029254386353131 : Int64) + (-7046029254386353131 : Int64))))])) _
    refine XS.lload X9.here hx rfl (hb hby at_76) rfl ?_
    show Steps p.tables e below (T9.setTop (mkF m 78 #[.val (.long q1), .second, .val (.long q2), .second, .val (.long (-7046029254386353131 : Int64)), .second, .val (.ref h0.size), .val (.long (own_mix ((own_mix (q1 + ((q2 + (1 : Int64)) * (-7046029254386353131 : Int64)))) + (-7046029254386353131 : Int64)))), .second, .val (.long (own_mix ((own_mix (q1 + ((q2 + (1 : Int64)) * (-7046029254386353131 : Int64)))) + (-7046029254386353131 : Int64) + (-7046029254386353131 : Int64)))), .second, .val (.long (own_mix (q1 + ((q2 + (1 : Int64)) * (-7046029254386353131 : Int64))))), .second, .val (.ref T6.heap.size), .val (.long (own_mix (own_mix ((-(-7046029254386353131 : Int64)) + (((0 : Int64) + (1 : Int64)) * (-7046029254386353131 : Int64))) + (-7046029254386353131 : Int64)))), .second, .unset, .unset] [(.long (-7046029254386353131 : Int64)), (.long (2 : Int64)), (.long (own_mix (q1 + ((q2 + (1 : Int64)) * (-7046029254386353131 : Int64))))), (.long (own_mix ((own_mix (q1 + ((q2 + (1 : Int64)) * (-7046029254386353131 : Int64)))) + (-7046029254386353131 : Int64) + (-7046029254386353131 : Int64))))])) _
    refine XS.lmul X9.here hx rfl (hb hby at_78) rfl ?_
    show Steps p.tables e below (T9.setTop (mkF m 79 #[.val (.long q1), .second, .val (.long q2), .second, .val (.long (-7046029254386353131 : Int64)), .second, .val (.ref h0.size), .val (.long (own_mix ((own_mix (q1 + ((q2 + (1 : Int64)) * (-7046029254386353131 : Int64)))) + (-7046029254386353131 : Int64)))), .second, .val (.long (own_mix ((own_mix (q1 + ((q2 + (1 : Int64)) * (-7046029254386353131 : Int64)))) + (-7046029254386353131 : Int64) + (-7046029254386353131 : Int64)))), .second, .val (.long (own_mix (q1 + ((q2 + (1 : Int64)) * (-7046029254386353131 : Int64))))), .second, .val (.ref T6.heap.size), .val (.long (own_mix (own_mix ((-(-7046029254386353131 : Int64)) + (((0 : Int64) + (1 : Int64)) * (-7046029254386353131 : Int64))) + (-7046029254386353131 : Int64)))), .second, .unset, .unset] [(.long ((2 : Int64) * (-7046029254386353131 : Int64))), (.long (own_mix (q1 + ((q2 + (1 : Int64)) * (-7046029254386353131 : Int64))))), (.long (own_mix ((own_mix (q1 + ((q2 + (1 : Int64)) * (-7046029254386353131 : Int64)))) + (-7046029254386353131 : Int64) + (-7046029254386353131 : Int64))))])) _
    refine XS.ladd X9.here hx rfl (hb hby at_79) rfl ?_
    show Steps p.tables e below (T9.setTop (mkF m 80 #[.val (.long q1), .second, .val (.long q2), .second, .val (.long (-7046029254386353131 : Int64)), .second, .val (.ref h0.size), .val (.long (own_mix ((own_mix (q1 + ((q2 + (1 : Int64)) * (-7046029254386353131 : Int64)))) + (-7046029254386353131 : Int64)))), .second, .val (.long (own_mix ((own_mix (q1 + ((q2 + (1 : Int64)) * (-7046029254386353131 : Int64)))) + (-7046029254386353131 : Int64) + (-7046029254386353131 : Int64)))), .second, .val (.long (own_mix (q1 + ((q2 + (1 : Int64)) * (-7046029254386353131 : Int64))))), .second, .val (.ref T6.heap.size), .val (.long (own_mix (own_mix ((-(-7046029254386353131 : Int64)) + (((0 : Int64) + (1 : Int64)) * (-7046029254386353131 : Int64))) + (-7046029254386353131 : Int64)))), .second, .unset, .unset] [(.long ((own_mix (q1 + ((q2 + (1 : Int64)) * (-7046029254386353131 : Int64)))) + ((2 : Int64) * (-7046029254386353131 : Int64)))), (.long (own_mix ((own_mix (q1 + ((q2 + (1 : Int64)) * (-7046029254386353131 : Int64)))) + (-7046029254386353131 : Int64) + (-7046029254386353131 : Int64))))])) _
    refine st10 _ ?_
    show Steps p.tables e below (T10.setTop (mkF m 83 #[.val (.long q1), .second, .val (.long q2), .second, .val (.long (-7046029254386353131 : Int64)), .second, .val (.ref h0.size), .val (.long (own_mix ((own_mix (q1 + ((q2 + (1 : Int64)) * (-7046029254386353131 : Int64)))) + (-7046029254386353131 : Int64)))), .second, .val (.long (own_mix ((own_mix (q1 + ((q2 + (1 : Int64)) * (-7046029254386353131 : Int64)))) + (-7046029254386353131 : Int64) + (-7046029254386353131 : Int64)))), .second, .val (.long (own_mix (q1 + ((q2 + (1 : Int64)) * (-7046029254386353131 : Int64))))), .second, .val (.ref T6.heap.size), .val (.long (own_mix (own_mix ((-(-7046029254386353131 : Int64)) + (((0 : Int64) + (1 : Int64)) * (-7046029254386353131 : Int64))) + (-7046029254386353131 : Int64)))), .second, .unset, .unset] [(.long (own_mix ((own_mix (q1 + ((q2 + (1 : Int64)) * (-7046029254386353131 : Int64)))) + ((2 : Int64) * (-7046029254386353131 : Int64))))), (.long (own_mix ((own_mix (q1 + ((q2 + (1 : Int64)) * (-7046029254386353131 : Int64)))) + (-7046029254386353131 : Int64) + (-7046029254386353131 : Int64))))])) _
    refine XS.lcmp X10.here hx rfl (hb hby at_83) rfl ?_
    show Steps p.tables e below (T10.setTop (mkF m 84 #[.val (.long q1), .second, .val (.long q2), .second, .val (.long (-7046029254386353131 : Int64)), .second, .val (.ref h0.size), .val (.long (own_mix ((own_mix (q1 + ((q2 + (1 : Int64)) * (-7046029254386353131 : Int64)))) + (-7046029254386353131 : Int64)))), .second, .val (.long (own_mix ((own_mix (q1 + ((q2 + (1 : Int64)) * (-7046029254386353131 : Int64)))) + (-7046029254386353131 : Int64) + (-7046029254386353131 : Int64)))), .second, .val (.long (own_mix (q1 + ((q2 + (1 : Int64)) * (-7046029254386353131 : Int64))))), .second, .val (.ref T6.heap.size), .val (.long (own_mix (own_mix ((-(-7046029254386353131 : Int64)) + (((0 : Int64) + (1 : Int64)) * (-7046029254386353131 : Int64))) + (-7046029254386353131 : Int64)))), .second, .unset, .unset] [(.int (lcmpW (own_mix ((own_mix (q1 + ((q2 + (1 : Int64)) * (-7046029254386353131 : Int64)))) + (-7046029254386353131 : Int64) + (-7046029254386353131 : Int64))) (own_mix ((own_mix (q1 + ((q2 + (1 : Int64)) * (-7046029254386353131 : Int64)))) + ((2 : Int64) * (-7046029254386353131 : Int64))))))])) _
    refine XS.ifNo X10.here hx rfl (hb hby at_84) rfl ((if0 _ _).trans (teq ((lw_eq _ _).mpr (congrArg own_mix (own_2g _)) : (lcmpW (own_mix ((own_mix (q1 + ((q2 + (1 : Int64)) * (-7046029254386353131 : Int64)))) + (-7046029254386353131 : Int64) + (-7046029254386353131 : Int64))) (own_mix ((own_mix (q1 + ((q2 + (1 : Int64)) * (-7046029254386353131 : Int64)))) + ((2 : Int64) * (-7046029254386353131 : Int64))))) = (0 : Int32))).2) ?_
    show Steps p.tables e below (T10.setTop (mkF m 87 #[.val (.long q1), .second, .val (.long q2), .second, .val (.long (-7046029254386353131 : Int64)), .second, .val (.ref h0.size), .val (.long (own_mix ((own_mix (q1 + ((q2 + (1 : Int64)) * (-7046029254386353131 : Int64)))) + (-7046029254386353131 : Int64)))), .second, .val (.long (own_mix ((own_mix (q1 + ((q2 + (1 : Int64)) * (-7046029254386353131 : Int64)))) + (-7046029254386353131 : Int64) + (-7046029254386353131 : Int64)))), .second, .val (.long (own_mix (q1 + ((q2 + (1 : Int64)) * (-7046029254386353131 : Int64))))), .second, .val (.ref T6.heap.size), .val (.long (own_mix (own_mix ((-(-7046029254386353131 : Int64)) + (((0 : Int64) + (1 : Int64)) * (-7046029254386353131 : Int64))) + (-7046029254386353131 : Int64)))), .second, .unset, .unset] [])) _
    refine XS.iconst X10.here hx rfl (hb hby at_87) ?_
    show Steps p.tables e below (T10.setTop (mkF m 88 #[.val (.long q1), .second, .val (.long q2), .second, .val (.long (-7046029254386353131 : Int64)), .second, .val (.ref h0.size), .val (.long (own_mix ((own_mix (q1 + ((q2 + (1 : Int64)) * (-7046029254386353131 : Int64)))) + (-7046029254386353131 : Int64)))), .second, .val (.long (own_mix ((own_mix (q1 + ((q2 + (1 : Int64)) * (-7046029254386353131 : Int64)))) + (-7046029254386353131 : Int64) + (-7046029254386353131 : Int64)))), .second, .val (.long (own_mix (q1 + ((q2 + (1 : Int64)) * (-7046029254386353131 : Int64))))), .second, .val (.ref T6.heap.size), .val (.long (own_mix (own_mix ((-(-7046029254386353131 : Int64)) + (((0 : Int64) + (1 : Int64)) * (-7046029254386353131 : Int64))) + (-7046029254386353131 : Int64)))), .second, .unset, .unset] [(.int (1 : Int32))])) _
    refine XS.goto X10.here hx rfl (pc0 := 88) (pc' := 92) rfl (hb hby at_88) (by decide) (by decide) ?_
    show Steps p.tables e below (T10.setTop (mkF m 92 #[.val (.long q1), .second, .val (.long q2), .second, .val (.long (-7046029254386353131 : Int64)), .second, .val (.ref h0.size), .val (.long (own_mix ((own_mix (q1 + ((q2 + (1 : Int64)) * (-7046029254386353131 : Int64)))) + (-7046029254386353131 : Int64)))), .second, .val (.long (own_mix ((own_mix (q1 + ((q2 + (1 : Int64)) * (-7046029254386353131 : Int64)))) + (-7046029254386353131 : Int64) + (-7046029254386353131 : Int64)))), .second, .val (.long (own_mix (q1 + ((q2 + (1 : Int64)) * (-7046029254386353131 : Int64))))), .second, .val (.ref T6.heap.size), .val (.long (own_mix (own_mix ((-(-7046029254386353131 : Int64)) + (((0 : Int64) + (1 : Int64)) * (-7046029254386353131 : Int64))) + (-7046029254386353131 : Int64)))), .second, .unset, .unset] [(.int (1 : Int32))])) _
    refine XS.istore X10.here hx rfl (hb hby at_92) rfl (l' := #[.val (.long q1), .second, .val (.long q2), .second, .val (.long (-7046029254386353131 : Int64)), .second, .val (.ref h0.size), .val (.long (own_mix ((own_mix (q1 + ((q2 + (1 : Int64)) * (-7046029254386353131 : Int64)))) + (-7046029254386353131 : Int64)))), .second, .val (.long (own_mix ((own_mix (q1 + ((q2 + (1 : Int64)) * (-7046029254386353131 : Int64)))) + (-7046029254386353131 : Int64) + (-7046029254386353131 : Int64)))), .second, .val (.long (own_mix (q1 + ((q2 + (1 : Int64)) * (-7046029254386353131 : Int64))))), .second, .val (.ref T6.heap.size), .val (.long (own_mix (own_mix ((-(-7046029254386353131 : Int64)) + (((0 : Int64) + (1 : Int64)) * (-7046029254386353131 : Int64))) + (-7046029254386353131 : Int64)))), .second, .val (.int (1 : Int32)), .unset]) rfl ?_
    show Steps p.tables e below (T10.setTop (mkF m 94 #[.val (.long q1), .second, .val (.long q2), .second, .val (.long (-7046029254386353131 : Int64)), .second, .val (.ref h0.size), .val (.long (own_mix ((own_mix (q1 + ((q2 + (1 : Int64)) * (-7046029254386353131 : Int64)))) + (-7046029254386353131 : Int64)))), .second, .val (.long (own_mix ((own_mix (q1 + ((q2 + (1 : Int64)) * (-7046029254386353131 : Int64)))) + (-7046029254386353131 : Int64) + (-7046029254386353131 : Int64)))), .second, .val (.long (own_mix (q1 + ((q2 + (1 : Int64)) * (-7046029254386353131 : Int64))))), .second, .val (.ref T6.heap.size), .val (.long (own_mix (own_mix ((-(-7046029254386353131 : Int64)) + (((0 : Int64) + (1 : Int64)) * (-7046029254386353131 : Int64))) + (-7046029254386353131 : Int64)))), .second, .val (.int (1 : Int32)), .unset] [])) _
    refine XS.lload X10.here hx rfl (hb hby at_94) rfl ?_
    show Steps p.tables e below (T10.setTop (mkF m 96 #[.val (.long q1), .second, .val (.long q2), .second, .val (.long (-7046029254386353131 : Int64)), .second, .val (.ref h0.size), .val (.long (own_mix ((own_mix (q1 + ((q2 + (1 : Int64)) * (-7046029254386353131 : Int64)))) + (-7046029254386353131 : Int64)))), .second, .val (.long (own_mix ((own_mix (q1 + ((q2 + (1 : Int64)) * (-7046029254386353131 : Int64)))) + (-7046029254386353131 : Int64) + (-7046029254386353131 : Int64)))), .second, .val (.long (own_mix (q1 + ((q2 + (1 : Int64)) * (-7046029254386353131 : Int64))))), .second, .val (.ref T6.heap.size), .val (.long (own_mix (own_mix ((-(-7046029254386353131 : Int64)) + (((0 : Int64) + (1 : Int64)) * (-7046029254386353131 : Int64))) + (-7046029254386353131 : Int64)))), .second, .val (.int (1 : Int32)), .unset] [(.long (own_mix (own_mix ((-(-7046029254386353131 : Int64)) + (((0 : Int64) + (1 : Int64)) * (-7046029254386353131 : Int64))) + (-7046029254386353131 : Int64))))])) _
    refine X10.ldc2Long hx hown (mvT hZ (hw _ (List.mem_of_getElem? (i := 33) rfl))) (g := (mkF m 96 #[.val (.long q1), .second, .val (.long q2), .second, .val (.long (-7046029254386353131 : Int64)), .second, .val (.ref h0.size), .val (.long (own_mix ((own_mix (q1 + ((q2 + (1 : Int64)) * (-7046029254386353131 : Int64)))) + (-7046029254386353131 : Int64)))), .second, .val (.long (own_mix ((own_mix (q1 + ((q2 + (1 : Int64)) * (-7046029254386353131 : Int64)))) + (-7046029254386353131 : Int64) + (-7046029254386353131 : Int64)))), .second, .val (.long (own_mix (q1 + ((q2 + (1 : Int64)) * (-7046029254386353131 : Int64))))), .second, .val (.ref T6.heap.size), .val (.long (own_mix (own_mix ((-(-7046029254386353131 : Int64)) + (((0 : Int64) + (1 : Int64)) * (-7046029254386353131 : Int64))) + (-7046029254386353131 : Int64)))), .second, .val (.int (1 : Int32)), .unset] [(.long (own_mix (own_mix ((-(-7046029254386353131 : Int64)) + (((0 : Int64) + (1 : Int64)) * (-7046029254386353131 : Int64))) + (-7046029254386353131 : Int64))))])) rfl (hb hby at_96) _ ?_
    show Steps p.tables e below (T10.setTop (mkF m 99 #[.val (.long q1), .second, .val (.long q2), .second, .val (.long (-7046029254386353131 : Int64)), .second, .val (.ref h0.size), .val (.long (own_mix ((own_mix (q1 + ((q2 + (1 : Int64)) * (-7046029254386353131 : Int64)))) + (-7046029254386353131 : Int64)))), .second, .val (.long (own_mix ((own_mix (q1 + ((q2 + (1 : Int64)) * (-7046029254386353131 : Int64)))) + (-7046029254386353131 : Int64) + (-7046029254386353131 : Int64)))), .second, .val (.long (own_mix (q1 + ((q2 + (1 : Int64)) * (-7046029254386353131 : Int64))))), .second, .val (.ref T6.heap.size), .val (.long (own_mix (own_mix ((-(-7046029254386353131 : Int64)) + (((0 : Int64) + (1 : Int64)) * (-7046029254386353131 : Int64))) + (-7046029254386353131 : Int64)))), .second, .val (.int (1 : Int32)), .unset] [(.long (-2152535657050944081 : Int64)), (.long (own_mix (own_mix ((-(-7046029254386353131 : Int64)) + (((0 : Int64) + (1 : Int64)) * (-7046029254386353131 : Int64))) + (-7046029254386353131 : Int64))))])) _
    refine XS.lcmp X10.here hx rfl (hb hby at_99) rfl ?_
    show Steps p.tables e below (T10.setTop (mkF m 100 #[.val (.long q1), .second, .val (.long q2), .second, .val (.long (-7046029254386353131 : Int64)), .second, .val (.ref h0.size), .val (.long (own_mix ((own_mix (q1 + ((q2 + (1 : Int64)) * (-7046029254386353131 : Int64)))) + (-7046029254386353131 : Int64)))), .second, .val (.long (own_mix ((own_mix (q1 + ((q2 + (1 : Int64)) * (-7046029254386353131 : Int64)))) + (-7046029254386353131 : Int64) + (-7046029254386353131 : Int64)))), .second, .val (.long (own_mix (q1 + ((q2 + (1 : Int64)) * (-7046029254386353131 : Int64))))), .second, .val (.ref T6.heap.size), .val (.long (own_mix (own_mix ((-(-7046029254386353131 : Int64)) + (((0 : Int64) + (1 : Int64)) * (-7046029254386353131 : Int64))) + (-7046029254386353131 : Int64)))), .second, .val (.int (1 : Int32)), .unset] [(.int (lcmpW (own_mix (own_mix ((-(-7046029254386353131 : Int64)) + (((0 : Int64) + (1 : Int64)) * (-7046029254386353131 : Int64))) + (-7046029254386353131 : Int64))) (-2152535657050944081 : Int64)))])) _
    refine XS.ifNo X10.here hx rfl (hb hby at_100) rfl ((if0 _ _).trans (teq ((lw_eq _ _).mpr own_anchor : (lcmpW (own_mix (own_mix ((-(-7046029254386353131 : Int64)) + (((0 : Int64) + (1 : Int64)) * (-7046029254386353131 : Int64))) + (-7046029254386353131 : Int64))) (-2152535657050944081 : Int64)) = (0 : Int32))).2) ?_
    show Steps p.tables e below (T10.setTop (mkF m 103 #[.val (.long q1), .second, .val (.long q2), .second, .val (.long (-7046029254386353131 : Int64)), .second, .val (.ref h0.size), .val (.long (own_mix ((own_mix (q1 + ((q2 + (1 : Int64)) * (-7046029254386353131 : Int64)))) + (-7046029254386353131 : Int64)))), .second, .val (.long (own_mix ((own_mix (q1 + ((q2 + (1 : Int64)) * (-7046029254386353131 : Int64)))) + (-7046029254386353131 : Int64) + (-7046029254386353131 : Int64)))), .second, .val (.long (own_mix (q1 + ((q2 + (1 : Int64)) * (-7046029254386353131 : Int64))))), .second, .val (.ref T6.heap.size), .val (.long (own_mix (own_mix ((-(-7046029254386353131 : Int64)) + (((0 : Int64) + (1 : Int64)) * (-7046029254386353131 : Int64))) + (-7046029254386353131 : Int64)))), .second, .val (.int (1 : Int32)), .unset] [])) _
    refine XS.iconst X10.here hx rfl (hb hby at_103) ?_
    show Steps p.tables e below (T10.setTop (mkF m 104 #[.val (.long q1), .second, .val (.long q2), .second, .val (.long (-7046029254386353131 : Int64)), .second, .val (.ref h0.size), .val (.long (own_mix ((own_mix (q1 + ((q2 + (1 : Int64)) * (-7046029254386353131 : Int64)))) + (-7046029254386353131 : Int64)))), .second, .val (.long (own_mix ((own_mix (q1 + ((q2 + (1 : Int64)) * (-7046029254386353131 : Int64)))) + (-7046029254386353131 : Int64) + (-7046029254386353131 : Int64)))), .second, .val (.long (own_mix (q1 + ((q2 + (1 : Int64)) * (-7046029254386353131 : Int64))))), .second, .val (.ref T6.heap.size), .val (.long (own_mix (own_mix ((-(-7046029254386353131 : Int64)) + (((0 : Int64) + (1 : Int64)) * (-7046029254386353131 : Int64))) + (-7046029254386353131 : Int64)))), .second, .val (.int (1 : Int32)), .unset] [(.int (1 : Int32))])) _
    refine XS.goto X10.here hx rfl (pc0 := 104) (pc' := 108) rfl (hb hby at_104) (by decide) (by decide) ?_
    show Steps p.tables e below (T10.setTop (mkF m 108 #[.val (.long q1), .second, .val (.long q2), .second, .val (.long (-7046029254386353131 : Int64)), .second, .val (.ref h0.size), .val (.long (own_mix ((own_mix (q1 + ((q2 + (1 : Int64)) * (-7046029254386353131 : Int64)))) + (-7046029254386353131 : Int64)))), .second, .val (.long (own_mix ((own_mix (q1 + ((q2 + (1 : Int64)) * (-7046029254386353131 : Int64)))) + (-7046029254386353131 : Int64) + (-7046029254386353131 : Int64)))), .second, .val (.long (own_mix (q1 + ((q2 + (1 : Int64)) * (-7046029254386353131 : Int64))))), .second, .val (.ref T6.heap.size), .val (.long (own_mix (own_mix ((-(-7046029254386353131 : Int64)) + (((0 : Int64) + (1 : Int64)) * (-7046029254386353131 : Int64))) + (-7046029254386353131 : Int64)))), .second, .val (.int (1 : Int32)), .unset] [(.int (1 : Int32))])) _
    refine XS.istore X10.here hx rfl (hb hby at_108) rfl (l' := #[.val (.long q1), .second, .val (.long q2), .second, .val (.long (-7046029254386353131 : Int64)), .second, .val (.ref h0.size), .val (.long (own_mix ((own_mix (q1 + ((q2 + (1 : Int64)) * (-7046029254386353131 : Int64)))) + (-7046029254386353131 : Int64)))), .second, .val (.long (own_mix ((own_mix (q1 + ((q2 + (1 : Int64)) * (-7046029254386353131 : Int64)))) + (-7046029254386353131 : Int64) + (-7046029254386353131 : Int64)))), .second, .val (.long (own_mix (q1 + ((q2 + (1 : Int64)) * (-7046029254386353131 : Int64))))), .second, .val (.ref T6.heap.size), .val (.long (own_mix (own_mix ((-(-7046029254386353131 : Int64)) + (((0 : Int64) + (1 : Int64)) * (-7046029254386353131 : Int64))) + (-7046029254386353131 : Int64)))), .second, .val (.int (1 : Int32)), .val (.int (1 : Int32))]) rfl ?_
    show Steps p.tables e below (T10.setTop (mkF m 110 #[.val (.long q1), .second, .val (.long q2), .second, .val (.long (-7046029254386353131 : Int64)), .second, .val (.ref h0.size), .val (.long (own_mix ((own_mix (q1 + ((q2 + (1 : Int64)) * (-7046029254386353131 : Int64)))) + (-7046029254386353131 : Int64)))), .second, .val (.long (own_mix ((own_mix (q1 + ((q2 + (1 : Int64)) * (-7046029254386353131 : Int64)))) + (-7046029254386353131 : Int64) + (-7046029254386353131 : Int64)))), .second, .val (.long (own_mix (q1 + ((q2 + (1 : Int64)) * (-7046029254386353131 : Int64))))), .second, .val (.ref T6.heap.size), .val (.long (own_mix (own_mix ((-(-7046029254386353131 : Int64)) + (((0 : Int64) + (1 : Int64)) * (-7046029254386353131 : Int64))) + (-7046029254386353131 : Int64)))), .second, .val (.int (1 : Int32)), .val (.int (1 : Int32))] [])) _
    refine XS.iload X10.here hx rfl (hb hby at_110) rfl ?_
    show Steps p.tables e below (T10.setTop (mkF m 112 #[.val (.long q1), .second, .val (.long q2), .second, .val (.long (-7046029254386353131 : Int64)), .second, .val (.ref h0.size), .val (.long (own_mix ((own_mix (q1 + ((q2 + (1 : Int64)) * (-7046029254386353131 : Int64)))) + (-7046029254386353131 : Int64)))), .second, .val (.long (own_mix ((own_mix (q1 + ((q2 + (1 : Int64)) * (-7046029254386353131 : Int64)))) + (-7046029254386353131 : Int64) + (-7046029254386353131 : Int64)))), .second, .val (.long (own_mix (q1 + ((q2 + (1 : Int64)) * (-7046029254386353131 : Int64))))), .second, .val (.ref T6.heap.size), .val (.long (own_mix (own_mix ((-(-7046029254386353131 : Int64)) + (((0 : Int64) + (1 : Int64)) * (-7046029254386353131 : Int64))) + (-7046029254386353131 : Int64)))), .second, .val (.int (1 : Int32)), .val (.int (1 : Int32))] [(.int (1 : Int32))])) _
    refine XS.ifNo X10.here hx rfl (hb hby at_112) rfl ((if0 _ _).trans (feq hc112).1) ?_
    show Steps p.tables e below (T10.setTop (mkF m 115 #[.val (.long q1), .second, .val (.long q2), .second, .val (.long (-7046029254386353131 : Int64)), .second, .val (.ref h0.size), .val (.long (own_mix ((own_mix (q1 + ((q2 + (1 : Int64)) * (-7046029254386353131 : Int64)))) + (-7046029254386353131 : Int64)))), .second, .val (.long (own_mix ((own_mix (q1 + ((q2 + (1 : Int64)) * (-7046029254386353131 : Int64)))) + (-7046029254386353131 : Int64) + (-7046029254386353131 : Int64)))), .second, .val (.long (own_mix (q1 + ((q2 + (1 : Int64)) * (-7046029254386353131 : Int64))))), .second, .val (.ref T6.heap.size), .val (.long (own_mix (own_mix ((-(-7046029254386353131 : Int64)) + (((0 : Int64) + (1 : Int64)) * (-7046029254386353131 : Int64))) + (-7046029254386353131 : Int64)))), .second, .val (.int (1 : Int32)), .val (.int (1 : Int32))] [])) _
    refine XS.iload X10.here hx rfl (hb hby at_115) rfl ?_
    show Steps p.tables e below (T10.setTop (mkF m 117 #[.val (.long q1), .second, .val (.long q2), .second, .val (.long (-7046029254386353131 : Int64)), .second, .val (.ref h0.size), .val (.long (own_mix ((own_mix (q1 + ((q2 + (1 : Int64)) * (-7046029254386353131 : Int64)))) + (-7046029254386353131 : Int64)))), .second, .val (.long (own_mix ((own_mix (q1 + ((q2 + (1 : Int64)) * (-7046029254386353131 : Int64)))) + (-7046029254386353131 : Int64) + (-7046029254386353131 : Int64)))), .second, .val (.long (own_mix (q1 + ((q2 + (1 : Int64)) * (-7046029254386353131 : Int64))))), .second, .val (.ref T6.heap.size), .val (.long (own_mix (own_mix ((-(-7046029254386353131 : Int64)) + (((0 : Int64) + (1 : Int64)) * (-7046029254386353131 : Int64))) + (-7046029254386353131 : Int64)))), .second, .val (.int (1 : Int32)), .val (.int (1 : Int32))] [(.int (1 : Int32))])) _
    refine XS.ifNo X10.here hx rfl (hb hby at_117) rfl ((if0 _ _).trans (feq hc117).1) ?_
    show Steps p.tables e below (T10.setTop (mkF m 120 #[.val (.long q1), .second, .val (.long q2), .second, .val (.long (-7046029254386353131 : Int64)), .second, .val (.ref h0.size), .val (.long (own_mix ((own_mix (q1 + ((q2 + (1 : Int64)) * (-7046029254386353131 : Int64)))) + (-7046029254386353131 : Int64)))), .second, .val (.long (own_mix ((own_mix (q1 + ((q2 + (1 : Int64)) * (-7046029254386353131 : Int64)))) + (-7046029254386353131 : Int64) + (-7046029254386353131 : Int64)))), .second, .val (.long (own_mix (q1 + ((q2 + (1 : Int64)) * (-7046029254386353131 : Int64))))), .second, .val (.ref T6.heap.size), .val (.long (own_mix (own_mix ((-(-7046029254386353131 : Int64)) + (((0 : Int64) + (1 : Int64)) * (-7046029254386353131 : Int64))) + (-7046029254386353131 : Int64)))), .second, .val (.int (1 : Int32)), .val (.int (1 : Int32))] [])) _
    refine XS.iconst X10.here hx rfl (hb hby at_120) ?_
    show Steps p.tables e below (T10.setTop (mkF m 121 #[.val (.long q1), .second, .val (.long q2), .second, .val (.long (-7046029254386353131 : Int64)), .second, .val (.ref h0.size), .val (.long (own_mix ((own_mix (q1 + ((q2 + (1 : Int64)) * (-7046029254386353131 : Int64)))) + (-7046029254386353131 : Int64)))), .second, .val (.long (own_mix ((own_mix (q1 + ((q2 + (1 : Int64)) * (-7046029254386353131 : Int64)))) + (-7046029254386353131 : Int64) + (-7046029254386353131 : Int64)))), .second, .val (.long (own_mix (q1 + ((q2 + (1 : Int64)) * (-7046029254386353131 : Int64))))), .second, .val (.ref T6.heap.size), .val (.long (own_mix (own_mix ((-(-7046029254386353131 : Int64)) + (((0 : Int64) + (1 : Int64)) * (-7046029254386353131 : Int64))) + (-7046029254386353131 : Int64)))), .second, .val (.int (1 : Int32)), .val (.int (1 : Int32))] [(.int (1 : Int32))])) _
    refine XS.goto X10.here hx rfl (pc0 := 121) (pc' := 125) rfl (hb hby at_121) (by decide) (by decide) ?_
    show Steps p.tables e below (T10.setTop (mkF m 125 #[.val (.long q1), .second, .val (.long q2), .second, .val (.long (-7046029254386353131 : Int64)), .second, .val (.ref h0.size), .val (.long (own_mix ((own_mix (q1 + ((q2 + (1 : Int64)) * (-7046029254386353131 : Int64)))) + (-7046029254386353131 : Int64)))), .second, .val (.long (own_mix ((own_mix (q1 + ((q2 + (1 : Int64)) * (-7046029254386353131 : Int64)))) + (-7046029254386353131 : Int64) + (-7046029254386353131 : Int64)))), .second, .val (.long (own_mix (q1 + ((q2 + (1 : Int64)) * (-7046029254386353131 : Int64))))), .second, .val (.ref T6.heap.size), .val (.long (own_mix (own_mix ((-(-7046029254386353131 : Int64)) + (((0 : Int64) + (1 : Int64)) * (-7046029254386353131 : Int64))) + (-7046029254386353131 : Int64)))), .second, .val (.int (1 : Int32)), .val (.int (1 : Int32))] [(.int (1 : Int32))])) _
    exact retN X10 hx (t := .boolean) Bd.returns (by simp) (hb hby at_125) hr
  · show Q0 Z q1 q2 h0 n0 _ T10.heap _
    exact ⟨rfl, N10⟩
set_option maxRecDepth 65536 in
set_option maxHeartbeats 40000000 in
theorem comes_1 {Post : Tables → Env → Array Value → State → Outcome → State → Prop} (hpost : ∀ tb e args s v u, (limb_1_1.after args s (.returned v) u = true ∧ limb_1_2.after args s (.returned v) u = true ∧ True) → FrameEnd s (.returned v) u (Jvm.fieldLocs frame_1_writes args s ++ Jvm.arrayLocs frame_1_arrays args s ++ Jvm.staticLocs frame_1_statics s) 16 128 → Post tb e args s (.returned v) u) :
    ArmFor flags0 classFile x code maxLocals ret World_1 tables_1 room_1 Calls_1 rest_1 Pre_1 Post := by
  intro l hfl _ _ p e ha hc hk s m args below hf hA hF happ hP
  obtain ⟨hcalls, hrest, hpre⟩ := hP
  obtain ⟨-, -, -, hnamed, -, -, -, hat⟩ := (Spec.applies_iff hf).mp happ
  obtain ⟨hg, hn⟩ := and_e (Cond.before_iff.mp (show (Jvm.Cond.and given_1 narrow_1).before args s = true from hpre))
  obtain ⟨g11, g12⟩ := and_e hg
  obtain ⟨g13, g14⟩ := and_e g12
  obtain ⟨w0, w1, rfl⟩ : ∃ w0 w1 : Value, args = #[w0, w1] := by
    have hs : args.size = 2 := by simpa [Cond.value, given_1] using g11
    obtain ⟨L⟩ := args
    match L, hs with
    | [w0, w1], _ => exact ⟨w0, w1, rfl⟩
  have hw := fun d (hd : d ∈ tables_1) => atoms_spec (ws := Jvm.Cond.code x code maxLocals ret :: tables_1) hat d (List.mem_cons_of_mem _ hd)
  have hfit : Fit s := fun {y c} hc i hi => by
    obtain ⟨ha, rfl⟩ := Array.getElem?_eq_some_iff.mp hc
    have q := List.all_eq_true.mp ((Array.all_eq_true_iff_forall_mem.mp hF) _ (Array.getElem_mem ha)) i (List.mem_range.mpr hi)
    simpa [Array.getElem?_eq_getElem hi] using q
  obtain ⟨i0, ei0⟩ := isL_v g13
  obtain rfl : w0 = (.long i0) := Option.some.inj ei0
  obtain ⟨i1, ei1⟩ := isL_v g14
  obtain rfl : w1 = (.long i1) := Option.some.inj ei1
  obtain ⟨n, o, h1, h2, h3, _, L, rfl, ⟨rfl, N⟩, hq⟩ := rm0 l s _ hw tables_1 i0 i1 s.heap s.heap.size (Nat.le_refl _) (by decide) (by decide) p e ha hc hk s m _ below hf ((Spec.applies_iff_loose hf).mp happ).1 ⟨rfl, State.Warmed39.refl s, rfl⟩ trivial
  refine ⟨n, _, h1, h2, h3, hpost _ _ _ _ _ _ ⟨Cond.after_iff.mpr rfl, Cond.after_iff.mpr (eq_i res_at (Term.int_eval (1)) rfl), trivial⟩ ⟨hq.1, hq.2.1, (hq.2.2.sift fun y hy => Or.inr (N y hy)).mono (by decide) (by decide)⟩⟩
theorem main_1_1 : Claimed_1_1 := comes_1 fun _ _ _ _ _ _ h hF => ⟨h.1, hF⟩
theorem main_1_2 : Claimed_1_2 := comes_1 fun _ _ _ _ _ _ h hF => ⟨h.2.1, hF⟩
end Jvm.Pilot.@@N@@
namespace Jvm.Pilot.@@N@@
open Jvm Jvm.ClassFile Sem Op Lib Jvm.Free Jvm.Stand Jvm.Pilot.@@N@@.Jvm.D
/-! MADE BY PROGRAM (witnessworld.py) out of the Statement's table words and the real class files: 9 classes; the members and pool entries that the words name. The judged class is class 1, her method 1. -/
namespace start1
open Jvm.ClassFile
def u (s : String) : CpInfo := .utf8 (stringToUtf16 s)
/-- a pool by its gaps: so many unusable entries, then the entry; so many at the end -/
def gap : Nat → List CpInfo → List CpInfo
  | 0, r => r
  | n + 1, r => .unusable :: gap n r
def poolList (es : List (Nat × CpInfo)) (last : Nat) : List CpInfo := es.foldr (fun e r => gap e.1 (e.2 :: r)) (gap last [])
def pool (es : List (Nat × CpInfo)) (last : Nat) : Array CpInfo := ⟨poolList es last⟩
def fileOf (pool : Array CpInfo) (this : Nat) (attrs : Array Attribute := #[]) (ms : Array MethodInfo := #[]) (fl : Nat := 33) (sup : Nat := 0) (ifs : Array Nat := #[]) (fds : Array FieldInfo := #[]) : ClassFile where
  minorVersion := 0
  majorVersion := 65
  constantPool := pool
  accessFlags := fl
  thisClass := this
  superClass := sup
  interfaces := ifs
  fields := fds
  methods := ms
  attributes := attrs
def plain (name : String) (sup : Option ClassId) : Class where
  name := name
  kind := .ordinary
  loader := none
  accessFlags := 33
  super := sup
  interfaces := #[]
  cf := none
  fields := #[]
  methods := #[]
  instanceTypes := #[]
  staticTypes := #[]
  resolved := #[]
  callSites := []
  init := .initialized
  statics := none
  mirror := none

def pool0 : Array CpInfo := pool [(5, u "<init>"), (0, u "()V"), (1, .class_ 10), (1, u "java/lang/Object")] 113

def k0c0 : Code := { maxStack := 0, maxLocals := 1, code := object_method_1_code, exceptionTable := #[], attributes := #[] }
def k0m0 : Method := { name := "<init>", desc := "()V", sig := { parameters := [], returnType := none }, accessFlags := 1, code := some k0c0 }
/-- java/lang/Object -/
def k0 : Class := { plain "java/lang/Object" none with
  accessFlags := 33
  interfaces := #[]
  cf := some (fileOf pool0 8 #[] #[{ accessFlags := 1, nameIndex := 5, descriptorIndex := 6, attributes := #[] }] 33 0 #[] #[])
  fields := #[]
  methods := #[k0m0]
  instanceTypes := #[]
  staticTypes := #[]
  resolved := Array.replicate 124 none
  statics := none }

def pool1 : Array CpInfo := pool [(2, .class_ 4), (1, u "java/lang/Object"), (0, u "<init>"), (0, u "()V"), (0, .long 11400714819323198485), (1, .methodref 10 11), (0, .class_ 12), (0, .nameAndType 13 14), (0, u "com/example/demine/demine/solver/SplitMix"), (0, u "forGame"), (0, u "(JJ)Lcom/example/demine/demine/solver/SplitMix;"), (0, .methodref 10 16), (0, .nameAndType 17 18), (0, u "nextLong"), (0, u "()J"), (0, .methodref 20 21), (0, .class_ 22), (0, .nameAndType 23 24), (0, u "com/example/demine/demine/solver/SplitMixForGamePinLaw"), (0, u "mix64"), (0, u "(J)J"), (0, .long 2), (1, .long 16294208416658607535), (1, .long 13787848793156543929), (1, .long 10723151780598845931), (3, u "law"), (0, u "(JJ)Z")] 3

def k1m0 : Method := { name := "<init>", desc := "()V", sig := { parameters := [], returnType := none }, accessFlags := 1, code := none }
def k1c1 : Code := { maxStack := 8, maxLocals := 18, code := code, exceptionTable := #[], attributes := #[] }
def k1m1 : Method := { name := "law", desc := "(JJ)Z", sig := { parameters := [.long, .long], returnType := some .boolean }, accessFlags := 9, code := some k1c1 }
def k1c2 : Code := { maxStack := 5, maxLocals := 6, code := method_3_code, exceptionTable := #[], attributes := #[] }
def k1m2 : Method := { name := "mix64", desc := "(J)J", sig := { parameters := [.long], returnType := some .long }, accessFlags := 10, code := some k1c2 }
/-- com/example/demine/demine/solver/SplitMixForGamePinLaw -/
def k1 : Class := { plain "com/example/demine/demine/solver/SplitMixForGamePinLaw" (some 0) with
  accessFlags := 49
  interfaces := #[]
  cf := some (fileOf pool1 20 #[] #[{ accessFlags := 1, nameIndex := 5, descriptorIndex := 6, attributes := #[] }, { accessFlags := 9, nameIndex := 35, descriptorIndex := 36, attributes := #[] }, { accessFlags := 10, nameIndex := 23, descriptorIndex := 24, attributes := #[] }] 49 2 #[] #[])
  fields := #[]
  methods := #[k1m0, k1m1, k1m2]
  instanceTypes := #[]
  staticTypes := #[]
  resolved := Array.replicate 40 none
  statics := none }

def pool2 : Array CpInfo := pool [(1, .methodref 2 3), (0, .class_ 4), (0, .nameAndType 5 6), (0, u "java/lang/Object"), (0, u "<init>"), (0, u "()V"), (0, .fieldref 8 9), (0, .class_ 10), (0, .nameAndType 11 12), (0, u "com/example/demine/demine/solver/SplitMix"), (0, u "state"), (0, u "J"), (0, .long 11400714819323198485), (1, .methodref 8 16), (0, .nameAndType 17 18), (0, u "mix"), (0, u "(J)J"), (0, .methodref 8 20), (0, .nameAndType 5 21), (0, u "(J)V"), (2, u "nextLong"), (0, u "()J"), (0, .long 13787848793156543929), (1, .long 10723151780598845931), (1, u "GAMMA"), (3, u "forGame"), (0, u "(JJ)Lcom/example/demine/demine/solver/SplitMix;")] 5

def k2c0 : Code := { maxStack := 3, maxLocals := 3, code := prog_51_method_1_code, exceptionTable := #[], attributes := #[] }
def k2m0 : Method := { name := "<init>", desc := "(J)V", sig := { parameters := [.long], returnType := none }, accessFlags := 2, code := some k2c0 }
def k2c1 : Code := { maxStack := 8, maxLocals := 4, code := prog_51_method_2_code, exceptionTable := #[], attributes := #[] }
def k2m1 : Method := { name := "forGame", desc := "(JJ)Lcom/example/demine/demine/solver/SplitMix;", sig := { parameters := [.long, .long], returnType := some (.object "com/example/demine/demine/solver/SplitMix") }, accessFlags := 8, code := some k2c1 }
def k2c2 : Code := { maxStack := 5, maxLocals := 1, code := prog_51_method_3_code, exceptionTable := #[], attributes := #[] }
def k2m2 : Method := { name := "nextLong", desc := "()J", sig := { parameters := [], returnType := some .long }, accessFlags := 0, code := some k2c2 }
def k2c3 : Code := { maxStack := 5, maxLocals := 4, code := prog_51_method_5_code, exceptionTable := #[], attributes := #[] }
def k2m3 : Method := { name := "mix", desc := "(J)J", sig := { parameters := [.long], returnType := some .long }, accessFlags := 10, code := some k2c3 }
/-- com/example/demine/demine/solver/SplitMix -/
def k2 : Class := { plain "com/example/demine/demine/solver/SplitMix" (some 0) with
  accessFlags := 48
  interfaces := #[]
  cf := some (fileOf pool2 8 #[] #[{ accessFlags := 2, nameIndex := 5, descriptorIndex := 21, attributes := #[] }, { accessFlags := 8, nameIndex := 34, descriptorIndex := 35, attributes := #[] }, { accessFlags := 0, nameIndex := 24, descriptorIndex := 25, attributes := #[] }, { accessFlags := 10, nameIndex := 17, descriptorIndex := 18, attributes := #[] }] 48 2 #[] #[{ accessFlags := 26, nameIndex := 30, descriptorIndex := 12, attributes := #[] }, { accessFlags := 2, nameIndex := 11, descriptorIndex := 12, attributes := #[] }])
  fields := #[{ name := "GAMMA", type := .long, accessFlags := 26, slot := 0, constantValue := 0 }, { name := "state", type := .long, accessFlags := 2, slot := 0, constantValue := 0 }]
  methods := #[k2m0, k2m1, k2m2, k2m3]
  instanceTypes := #[.long]
  staticTypes := #[.long]
  resolved := Array.replicate 41 none
  statics := none }

def pool3 : Array CpInfo := pool [(1, u "java/lang/Cloneable"), (0, .class_ 1), (0, u "java/lang/Object"), (0, .class_ 3)] 3

/-- java/lang/Cloneable -/
def k3 : Class := { plain "java/lang/Cloneable" (some 0) with
  accessFlags := 1537
  interfaces := #[]
  cf := some (fileOf pool3 2 #[] #[] 1537 4 #[] #[])
  fields := #[]
  methods := #[]
  instanceTypes := #[]
  staticTypes := #[]
  resolved := Array.replicate 8 none
  statics := none }

def pool4 : Array CpInfo := pool [(1, u "java/io/Serializable"), (0, .class_ 1), (0, u "java/lang/Object"), (0, .class_ 3)] 3

/-- java/io/Serializable -/
def k4 : Class := { plain "java/io/Serializable" (some 0) with
  accessFlags := 1537
  interfaces := #[]
  cf := some (fileOf pool4 2 #[] #[] 1537 4 #[] #[])
  fields := #[]
  methods := #[]
  instanceTypes := #[]
  staticTypes := #[]
  resolved := Array.replicate 8 none
  statics := none }

/-- the primitive byte -/
def k5 : Class := { plain "byte" none with kind := .primitive 'B', accessFlags := 0x411 }
/-- [B -/
def k6 : Class := { plain "[B" (some 0) with kind := .array 5 .byte, interfaces := #[3, 4], accessFlags := 1041 }

/-- the primitive int -/
def k7 : Class := { plain "int" none with kind := .primitive 'I', accessFlags := 0x411 }
/-- [I -/
def k8 : Class := { plain "[I" (some 0) with kind := .array 7 .int, interfaces := #[3, 4], accessFlags := 1041 }

def heap : Heap := #[]
def classes : Array Class := #[k0, k1, k2, k3, k4, k5, k6, k7, k8]
def interned : List (Array UInt16 × Addr) := []
def slotsUsed : Nat := 0
def theMethod : MethodId := ⟨1, 1⟩
def args0 : Array Value := #[.long 1, .long 2]
def aboutOver (below : List Frame) : State where
  vm := { classes := classes, interned := interned.toArray }
  heap := heap
  slotsUsed := slotsUsed
  threads := #[{ frames := .invoking theMethod args0 :: below }]
def below0 : List Frame := [.native { method := ⟨0, 0⟩, args := #[] }]
def about1 : State := aboutOver below0
def p0 : Program := .bare "" "" ""
def e0 : Env := launch0.env 0 0 0
theorem w_frames : about1.frames = Frame.invoking theMethod args0 :: below0 := rfl
set_option maxRecDepth 65536 in
theorem w_args : argsFit about1.vm theMethod args0 = true := by decide +kernel
set_option maxRecDepth 65536 in
theorem w_heap : heapFits about1 = true := by decide +kernel
set_option maxRecDepth 65536 in
theorem w_runnable : about1.curStatus? = some .runnable := by decide +kernel
set_option maxRecDepth 65536 in
theorem w_alone : about1.alone = true := by decide +kernel
set_option maxRecDepth 65536 in
theorem w_named : about1.methodNamed? x = some theMethod := by decide +kernel
set_option maxRecDepth 65536 in
theorem w_hears : about1.hears theMethod below0 = true := by decide +kernel
set_option maxRecDepth 65536 in
theorem w_ripe : about1.ripe theMethod args0 below0 = true := by decide +kernel
theorem w_running : about1.status = .running := rfl
set_option maxRecDepth 65536 in
theorem w_room : about1.hasRoom e0.platform room_1 = true :=
  launch0.hasRoom_least _ room_1 (by decide +kernel) (by decide +kernel) (by decide +kernel) (by decide +kernel) (by decide +kernel) (by decide +kernel)
theorem allAtoms_all (ts : List Jvm.Cond) (a : Array Jvm.Value) (st : Jvm.State) : (allAtoms ts).before a st = ts.all (fun c => c.before a st) := by
  induction ts with
  | nil => rfl
  | cons c t ih =>
    show (Jvm.Cond.and c (allAtoms t)).before a st = _
    rw [Jvm.Cond.before_and, ih, List.all_cons]
def words1 : List Jvm.Cond := Jvm.Cond.code x code maxLocals ret :: tables_1
/-- a 'code' word, met by the world's own term for the bytes: nothing is compared byte by byte -/
theorem code_word {y : MethodName} {bytes : ByteArray} {mx : Nat} {rt : Option FieldType} {a : Array Value} {s : State} {m : MethodId} {meth : Method} {c : Code} (h1 : s.methodNamed? y = some m) (h2 : s.vm.method? m = some meth) (h3 : meth.code = some c) (h4 : c.code = bytes)
    (h5 : (c.maxLocals == mx && c.exceptionTable.isEmpty && decide (c.maxStack ≤ mostOperands) && decide (meth.sig.returnType = rt) && !meth.locks && decide (parseMethodDescriptor y.desc = some meth.sig)) = true) : (Jvm.Cond.code y bytes mx rt).before a s = true := by
  simp only [Bool.and_eq_true, beq_iff_eq, Bool.not_eq_true', decide_eq_true_eq] at h5
  obtain ⟨⟨⟨⟨⟨g1, g2⟩, g3⟩, g4⟩, g5⟩, g6⟩ := h5
  simp [Cond.before, Cond.holds, Cond.value, h1, h2, h3, h4, g1, g2, g3, g4, g5, g6]
def isCode : Jvm.Cond → Bool
  | .code _ _ _ _ => true
  | _ => false
theorem all_split {L : List Jvm.Cond} {P : Jvm.Cond → Bool} (h1 : L.all (fun c => isCode c || P c) = true) (h2 : ∀ c ∈ L.filter isCode, P c = true) : L.all P = true := by
  refine List.all_eq_true.mpr fun c hc => ?_
  have h := List.all_eq_true.mp h1 c hc
  rcases Bool.eq_false_or_eq_true (isCode c) with hi | hi
  · exact h2 c (List.mem_filter.mpr ⟨hc, hi⟩)
  · simpa [hi] using h
set_option maxRecDepth 65536 in
theorem w_c0 : (Jvm.Cond.code x code maxLocals ret).before args0 about1 = true := code_word (m := ⟨1, 1⟩) (meth := k1m1) (c := k1c1) (by decide +kernel) rfl rfl rfl (by decide +kernel)
set_option maxRecDepth 65536 in
theorem w_c1 : (Jvm.Cond.code ({ cls := "com/example/demine/demine/solver/SplitMix", name := "forGame", desc := "(JJ)Lcom/example/demine/demine/solver/SplitMix;" } : Jvm.MethodName) prog_51_method_2_code (4 : Nat) (Option.some (Jvm.ClassFile.FieldType.object "com/example/demine/demine/solver/SplitMix"))).before args0 about1 = true := code_word (m := ⟨2, 1⟩) (meth := k2m1) (c := k2c1) (by decide +kernel) rfl rfl rfl (by decide +kernel)
set_option maxRecDepth 65536 in
theorem w_c2 : (Jvm.Cond.code ({ cls := "com/example/demine/demine/solver/SplitMix", name := "mix", desc := "(J)J" } : Jvm.MethodName) prog_51_method_5_code (4 : Nat) (Option.some Jvm.ClassFile.FieldType.long)).before args0 about1 = true := code_word (m := ⟨2, 3⟩) (meth := k2m3) (c := k2c3) (by decide +kernel) rfl rfl rfl (by decide +kernel)
set_option maxRecDepth 65536 in
theorem w_c3 : (Jvm.Cond.code ({ cls := "com/example/demine/demine/solver/SplitMix", name := "<init>", desc := "(J)V" } : Jvm.MethodName) prog_51_method_1_code (3 : Nat) (Option.none : Option Jvm.ClassFile.FieldType)).before args0 about1 = true := code_word (m := ⟨2, 0⟩) (meth := k2m0) (c := k2c0) (by decide +kernel) rfl rfl rfl (by decide +kernel)
set_option maxRecDepth 65536 in
theorem w_c4 : (Jvm.Cond.code ({ cls := "java/lang/Object", name := "<init>", desc := "()V" } : Jvm.MethodName) object_method_1_code (1 : Nat) (Option.none : Option Jvm.ClassFile.FieldType)).before args0 about1 = true := code_word (m := ⟨0, 0⟩) (meth := k0m0) (c := k0c0) (by decide +kernel) rfl rfl rfl (by decide +kernel)
set_option maxRecDepth 65536 in
theorem w_c5 : (Jvm.Cond.code ({ cls := "com/example/demine/demine/solver/SplitMix", name := "nextLong", desc := "()J" } : Jvm.MethodName) prog_51_method_3_code (1 : Nat) (Option.some Jvm.ClassFile.FieldType.long)).before args0 about1 = true := code_word (m := ⟨2, 2⟩) (meth := k2m2) (c := k2c2) (by decide +kernel) rfl rfl rfl (by decide +kernel)
set_option maxRecDepth 65536 in
theorem w_c6 : (Jvm.Cond.code ({ cls := "com/example/demine/demine/solver/SplitMixForGamePinLaw", name := "mix64", desc := "(J)J" } : Jvm.MethodName) method_3_code (6 : Nat) (Option.some Jvm.ClassFile.FieldType.long)).before args0 about1 = true := code_word (m := ⟨1, 2⟩) (meth := k1m2) (c := k1c2) (by decide +kernel) rfl rfl rfl (by decide +kernel)
def codes1 : List Jvm.Cond := [Jvm.Cond.code x code maxLocals ret, Jvm.Cond.code ({ cls := "com/example/demine/demine/solver/SplitMix", name := "forGame", desc := "(JJ)Lcom/example/demine/demine/solver/SplitMix;" } : Jvm.MethodName) prog_51_method_2_code (4 : Nat) (Option.some (Jvm.ClassFile.FieldType.object "com/example/demine/demine/solver/SplitMix")), Jvm.Cond.code ({ cls := "com/example/demine/demine/solver/SplitMix", name := "mix", desc := "(J)J" } : Jvm.MethodName) prog_51_method_5_code (4 : Nat) (Option.some Jvm.ClassFile.FieldType.long), Jvm.Cond.code ({ cls := "com/example/demine/demine/solver/SplitMix", name := "<init>", desc := "(J)V" } : Jvm.MethodName) prog_51_method_1_code (3 : Nat) (Option.none : Option Jvm.ClassFile.FieldType), Jvm.Cond.code ({ cls := "java/lang/Object", name := "<init>", desc := "()V" } : Jvm.MethodName) object_method_1_code (1 : Nat) (Option.none : Option Jvm.ClassFile.FieldType), Jvm.Cond.code ({ cls := "com/example/demine/demine/solver/SplitMix", name := "nextLong", desc := "()J" } : Jvm.MethodName) prog_51_method_3_code (1 : Nat) (Option.some Jvm.ClassFile.FieldType.long), Jvm.Cond.code ({ cls := "com/example/demine/demine/solver/SplitMixForGamePinLaw", name := "mix64", desc := "(J)J" } : Jvm.MethodName) method_3_code (6 : Nat) (Option.some Jvm.ClassFile.FieldType.long)]
set_option maxRecDepth 65536 in
theorem codes_eq : words1.filter isCode = codes1 := rfl
theorem w_codes : ∀ c ∈ words1.filter isCode, c.before args0 about1 = true := by
  rw [codes_eq]
  intro c hc
  simp only [codes1, List.mem_cons, List.not_mem_nil, or_false] at hc
  rcases hc with rfl | rfl | rfl | rfl | rfl | rfl | rfl
  · exact w_c0
  · exact w_c1
  · exact w_c2
  · exact w_c3
  · exact w_c4
  · exact w_c5
  · exact w_c6
set_option maxRecDepth 65536 in
theorem w_t1 : (words1.take 24).all (fun c => isCode c || c.before args0 about1) = true := by decide +kernel
set_option maxRecDepth 65536 in
theorem w_t2 : (words1.drop 24).all (fun c => isCode c || c.before args0 about1) = true := by decide +kernel
theorem w_tables : (allAtoms (Jvm.Cond.code x code maxLocals ret :: tables_1)).before args0 about1 = true := by
  rw [allAtoms_all]
  show words1.all (fun c => c.before args0 about1) = true
  refine all_split ?_ w_codes
  rw [← List.take_append_drop 24 words1, List.all_append, w_t1, w_t2]
  rfl
set_option maxRecDepth 65536 in
theorem w_case : (Jvm.Cond.and given_1 narrow_1).before args0 about1 = true := by decide +kernel
theorem w_applies : (headSpec (Jvm.Cond.code x code maxLocals ret :: tables_1) room_1).applies x e0.platform about1 = true :=
  (Spec.applies_iff w_frames).mpr ⟨w_running, w_runnable, w_alone, w_named, w_hears, w_ripe, w_room, w_tables⟩
theorem atStart : AtStart classFile x code maxLocals ret World_1 tables_1 room_1 Calls_1 rest_1 Pre_1 launch0 p0 e0 about1 theMethod args0 below0 :=
  ⟨lists_1, trivial, launch0.admits_env _ _ _, launch0.least_env, fairChoices_fair.cas, fairChoices_fair.clock, w_frames, w_args, w_heap, w_applies, trivial, trivial, w_case⟩
end start1
theorem witness_1 : WitnessClaimed_1 := ⟨start1.p0, start1.e0, start1.about1, start1.theMethod, start1.args0, start1.below0, start1.atStart⟩
end Jvm.Pilot.@@N@@
