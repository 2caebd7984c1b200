import JvmDerived
import JvmDerived.Pilot.@@N@@Statement
import JvmDerived.Pilot.@@N@@Code
set_option linter.unusedVariables false
set_option linter.unusedSimpArgs false
namespace Jvm.RoadKit
open Sem ClassFile Op Lib Jvm.Stand Jvm.Free Jvm.LawKit
section New
variable {p : Program} {l : Launch} {e : Env} {R : Room} {s : State} {m : MethodId} {args : Array Value} {below : List Frame} {meth : Method} {c : Code} {T : State} {locs : List Loc} {cells slots : Nat}
theorem retI (X : Stand p l e R s m args below meth c T locs cells slots) (hx : p.tables.exec = Jvm.exec) {pc : Nat} {Ls : Array Slot} {z : Int32} {rest : List Value} (hret : meth.sig.returnType = some .int) (hd : decode c.code pc = .ok (.ireturn, 1)) {fs : List Frame}
    (hl : ∀ (f : JFrame) (acts : List Action), f.method = m → f.locked = none → f.entered = [] → (doReturn e (T.setTop f) acts (some (.int z))).1 = T.setFrames fs) : Steps p.tables e below (T.setTop (mkF m pc Ls (.int z :: rest))) (T.setFrames fs) := by
  have hm' : T.vm.method? m = some meth := X.method'
  have hn : narrow .int (.int z) = .int z := rfl
  show Steps p.tables e below (T.setTop { method := m, pc := pc, locals := Ls, stack := _ :: rest, locked := none }) _
  jvm_step X.here [X.here.top, hx, hd, hm', hret, hn]
  first | (intro acts; rw [hl _ acts rfl rfl rfl]) | rw [hl _ _ rfl rfl rfl]
  exact Steps.refl _
theorem retJ (X : Stand p l e R s m args below meth c T locs cells slots) (hx : p.tables.exec = Jvm.exec) {pc : Nat} {Ls : Array Slot} {z : Int64} {rest : List Value} (hret : meth.sig.returnType = some .long) (hd : decode c.code pc = .ok (.lreturn, 1)) {fs : List Frame}
    (hl : ∀ (f : JFrame) (acts : List Action), f.method = m → f.locked = none → f.entered = [] → (doReturn e (T.setTop f) acts (some (.long z))).1 = T.setFrames fs) : Steps p.tables e below (T.setTop (mkF m pc Ls (.long z :: rest))) (T.setFrames fs) := by
  have hm' : T.vm.method? m = some meth := X.method'
  have hn : narrow .long (.long z) = .long z := rfl
  show Steps p.tables e below (T.setTop { method := m, pc := pc, locals := Ls, stack := _ :: rest, locked := none }) _
  jvm_step X.here [X.here.top, hx, hd, hm', hret, hn]
  first | (intro acts; rw [hl _ acts rfl rfl rfl]) | rw [hl _ _ rfl rfl rfl]
  exact Steps.refl _
end New
end Jvm.RoadKit
namespace Jvm.Pilot.@@N@@
open Jvm Jvm.ClassFile Sem Op Lib Jvm.Free Jvm.Stand Jvm.LawKit Jvm.RoadKit Bundle Jvm.Pilot.@@N@@.Jvm.D
def own_max (x y : Int32) : Int32 := if x < y then y else x
def own_tail (x : Int32) : Int32 := if x &&& (192 : Int32) = (128 : Int32) then 1 else 0
def own_arr (cl : Cell) (f : Int32 → Int32) : Prop := ∀ j : Int32, 0 ≤ j.toInt → j.toInt ≤ 5 → ¬ (j < 0 ∨ cl.slots.size ≤ j.toNatClampNeg) ∧ cl.slots[j.toNatClampNeg]? = some (.int (f j))
def own_SP (f : Int32 → Int32) (lo A z : Int32) : Prop :=
  (lo.toInt ≤ z.toInt ∧ z.toInt ≤ A.toInt ∧ own_tail (f z) = 0 ∧ ∀ j : Int32, z.toInt < j.toInt → j.toInt ≤ A.toInt → ¬ own_tail (f j) = 0) ∨
  (z = A ∧ ∀ j : Int32, lo.toInt ≤ j.toInt → j.toInt ≤ A.toInt → ¬ own_tail (f j) = 0)
theorem own_i1 : (1 : Int32).toInt = 1 := by decide
theorem own_i2 : (2 : Int32).toInt = 2 := by decide
theorem own_i3 : (3 : Int32).toInt = 3 := by decide
theorem own_im : (-1 : Int32).toInt = -1 := by decide
theorem own_i0 : (0 : Int32).toInt = 0 := by decide
theorem own_add (x y : Int32) (h1 : -100 ≤ x.toInt) (h2 : x.toInt ≤ 100) (h3 : -100 ≤ y.toInt) (h4 : y.toInt ≤ 100) : (x + y).toInt = x.toInt + y.toInt := by
  have h := c_iadd x y
  have r := rng32 (x + y)
  omega
theorem own_sub (x y : Int32) (h1 : -100 ≤ x.toInt) (h2 : x.toInt ≤ 100) (h3 : -100 ≤ y.toInt) (h4 : y.toInt ≤ 100) : (x - y).toInt = x.toInt - y.toInt := by
  have h := c_isub x y
  have r := rng32 (x - y)
  omega
theorem own_dec (i : Int32) (h1 : -100 ≤ i.toInt) (h2 : i.toInt ≤ 100) : (i + (-1 : Int32)).toInt = i.toInt - 1 := by
  rw [own_add i (-1) h1 h2 (by decide) (by decide), own_im]
  rfl
theorem own_lt {x y : Int32} : x < y ↔ x.toInt < y.toInt := Int32.lt_iff_toInt_lt
theorem own_A (x : Int32) : 0 ≤ ((x &&& (2147483647 : Int32)) % (6 : Int32)).toInt ∧ ((x &&& (2147483647 : Int32)) % (6 : Int32)).toInt ≤ 5 := by
  have h1 := c_mask x 2147483647 31 (by decide) (by decide)
  have h2 := (c_irem (x &&& (2147483647 : Int32)) 6 6 (by decide)).1 (by omega)
  omega
theorem own_F (y A : Int32) (h0 : 0 ≤ A.toInt) (h5 : A.toInt ≤ 5) : 0 ≤ ((y &&& (2147483647 : Int32)) % (A + (1 : Int32))).toInt ∧ ((y &&& (2147483647 : Int32)) % (A + (1 : Int32))).toInt ≤ A.toInt := by
  have h1 := c_mask y 2147483647 31 (by decide) (by decide)
  have i1 := own_i1
  have h2 : (A + (1 : Int32)).toInt = A.toInt + 1 := by rw [own_add A 1 (by omega) (by omega) (by omega) (by omega), i1]
  have h3 := (c_iremV (y &&& (2147483647 : Int32)) (A + (1 : Int32))).1 (by omega) (by omega)
  omega
theorem own_nz (A : Int32) (h0 : 0 ≤ A.toInt) (h5 : A.toInt ≤ 5) : ¬ (A + (1 : Int32) = (0 : Int32)) := fun e => by
  have i1 := own_i1
  have h2 : (A + (1 : Int32)).toInt = A.toInt + 1 := by rw [own_add A 1 (by omega) (by omega) (by omega) (by omega), i1]
  rw [e, own_i0] at h2
  omega
theorem own_maxI (x y : Int32) : x.toInt ≤ (own_max x y).toInt ∧ y.toInt ≤ (own_max x y).toInt ∧ ((own_max x y).toInt = x.toInt ∨ (own_max x y).toInt = y.toInt) := by
  by_cases h : x < y
  · rw [own_max, if_pos h]; rw [own_lt] at h; omega
  · rw [own_max, if_neg h]; rw [own_lt] at h; omega
theorem own_lo (F A : Int32) (h0 : 0 ≤ F.toInt) (h1 : F.toInt ≤ A.toInt) (h2 : A.toInt ≤ 5) : 0 ≤ (own_max F (A - (3 : Int32))).toInt ∧ A.toInt - 3 ≤ (own_max F (A - (3 : Int32))).toInt ∧ (own_max F (A - (3 : Int32))).toInt ≤ A.toInt := by
  have i3 := own_i3
  have h3 : (A - (3 : Int32)).toInt = A.toInt - 3 := by rw [own_sub A 3 (by omega) (by omega) (by omega) (by omega), i3]
  have h4 := own_maxI F (A - (3 : Int32))
  omega
theorem d1_0 : decode jdk_29_method_65_code 0 = .ok (.iload_n 0, 1) := by decide +kernel
theorem d1_1 : decode jdk_29_method_65_code 1 = .ok (.iload_n 1, 1) := by decide +kernel
theorem d1_2 : decode jdk_29_method_65_code 2 = .ok (.if_icmp .lt 7, 3) := by decide +kernel
theorem d1_9 : decode jdk_29_method_65_code 9 = .ok (.iload_n 1, 1) := by decide +kernel
theorem d1_10 : decode jdk_29_method_65_code 10 = .ok (.ireturn, 1) := by decide +kernel
theorem ef_1 (m : MethodId) (x0 : Int32) (x1 : Int32) : entryFrame m #[(.int x0), (.int x1)] 2 = mkF m 0 #[.val (.int x0), .val (.int x1)] [] := by first | (simp [entryFrame, mkF, argsToLocals, Value.category]; done) | rfl
def Q1 (Z : State) (p1 : Int32) (p2 : Int32) (h0 : Heap) (n0 : Nat) (v : Option Value) (h : Heap) (L : List Loc) : Prop := v = some (.int (own_max p1 p2)) ∧ Fr n0 L ∧ h = h0
set_option maxRecDepth 65536 in
set_option maxHeartbeats 40000000 in
theorem rm1_t (l : Launch) (Z : State) (a0 : Array Value) (hw : ∀ d ∈ tables_1, d.before a0 Z = true) (ws : List Jvm.Cond) (p1 : Int32) (p2 : Int32) (h0 : Heap) (n0 : Nat) (Z0 : n0 ≤ h0.size) (hc2 : p1 < p2) :
    MetFree l (⟨"java/lang/Math", "max", "(II)I"⟩ : MethodName) (head1 (Jvm.Cond.code (⟨"java/lang/Math", "max", "(II)I"⟩ : MethodName) jdk_29_method_65_code 2 (some .int) :: ws) ({ frames := 0, cells := 0, slots := 0, locals := 0 } : Room)) (fun a U => a = #[(.int p1), (.int p2)] ∧ Z.Warmed39 U.vm ∧ U.heap = h0) (fun _ _ _ _ _ => True) (fun _ U o U' => ∃ v L, o = .returned v ∧ Q1 Z p1 p2 h0 n0 v U'.heap L ∧ FrameEnd U o U' L ({ frames := 0, cells := 0, slots := 0, locals := 0 } : Room).cells ({ frames := 0, cells := 0, slots := 0, locals := 0 } : Room).slots) := by
  refine MetFree.of_bodySF (Jvm.Free.JP.mathPlain rfl (by decide +kernel)) hisR ?_
  intro p e s m args below meth c s₁ Bd hml0 hP hK
  obtain ⟨rfl, hZ, hh⟩ := hP
  have hx := Bd.exec
  have hby := Bd.bytes
  have hml : c.maxLocals = 2 := hml0
  have hown : s.vm.findClass "java/lang/Math" = some m.cls := findClass_of_methodNamed Bd.named
  have hnm := (name_of_methodNamed Bd.named Bd.method).1
  have X0 : Stand p l e ({ frames := 0, cells := 0, slots := 0, locals := 0 } : Room) s m #[(.int p1), (.int p2)] below meth c s₁ [] 0 0 := Stand.of_body Bd
  have e0 : s₁.heap = h0 := by rw [← hh, Bd.state]; rfl
  have N0 := Fr.nil n0
  have pre0 : ∀ t, Steps p.tables e below (s₁.setTop (mkF m 0 #[.val (.int p1), .val (.int p2)] [])) t → Steps p.tables e below (s₁.setTop (entryFrame m #[(.int p1), (.int p2)] 2)) t := fun t k => castTop (ef_1 m p1 p2) k
  obtain ⟨fs, hr, hrun, hended, hW, hsame⟩ := X0.leave (v := some (.int p2)) (fun h => by rw [Bd.returns] at h; cases h)
  refine ⟨_, _, pre0 _ ?_, hrun, hended, _, _, rfl, ?_, ⟨_, rfl⟩, hW, hsame.mono (by decide) (by decide)⟩
  · show Steps p.tables e below (s₁.setTop (mkF m 0 #[.val (.int p1), .val (.int p2)] [])) _
    refine XS.iloadN X0.here hx rfl (hb hby d1_0) rfl ?_
    show Steps p.tables e below (s₁.setTop (mkF m 1 #[.val (.int p1), .val (.int p2)] [(.int p1)])) _
    refine XS.iloadN X0.here hx rfl (hb hby d1_1) rfl ?_
    show Steps p.tables e below (s₁.setTop (mkF m 2 #[.val (.int p1), .val (.int p2)] [(.int p2), (.int p1)])) _
    refine XS.icmpYes X0.here hx rfl (pc0 := 2) (pc' := 9) rfl (hb hby d1_2) rfl (tlt hc2).1 (by decide) (by decide) ?_
    show Steps p.tables e below (s₁.setTop (mkF m 9 #[.val (.int p1), .val (.int p2)] [])) _
    refine XS.iloadN X0.here hx rfl (hb hby d1_9) rfl ?_
    show Steps p.tables e below (s₁.setTop (mkF m 10 #[.val (.int p1), .val (.int p2)] [(.int p2)])) _
    exact retI X0 hx Bd.returns (hb hby d1_10) hr
  · show Q1 Z p1 p2 h0 n0 _ s₁.heap _
    rw [e0]
    exact ⟨by rw [own_max, if_pos hc2], N0, rfl⟩
theorem d1_5 : decode jdk_29_method_65_code 5 = .ok (.iload_n 0, 1) := by decide +kernel
theorem d1_6 : decode jdk_29_method_65_code 6 = .ok (.goto 4, 3) := by decide +kernel
set_option maxRecDepth 65536 in
set_option maxHeartbeats 40000000 in
theorem rm1_f (l : Launch) (Z : State) (a0 : Array Value) (hw : ∀ d ∈ tables_1, d.before a0 Z = true) (ws : List Jvm.Cond) (p1 : Int32) (p2 : Int32) (h0 : Heap) (n0 : Nat) (Z0 : n0 ≤ h0.size) (hc2 : ¬ (p1 < p2)) :
    MetFree l (⟨"java/lang/Math", "max", "(II)I"⟩ : MethodName) (head1 (Jvm.Cond.code (⟨"java/lang/Math", "max", "(II)I"⟩ : MethodName) jdk_29_method_65_code 2 (some .int) :: ws) ({ frames := 0, cells := 0, slots := 0, locals := 0 } : Room)) (fun a U => a = #[(.int p1), (.int p2)] ∧ Z.Warmed39 U.vm ∧ U.heap = h0) (fun _ _ _ _ _ => True) (fun _ U o U' => ∃ v L, o = .returned v ∧ Q1 Z p1 p2 h0 n0 v U'.heap L ∧ FrameEnd U o U' L ({ frames := 0, cells := 0, slots := 0, locals := 0 } : Room).cells ({ frames := 0, cells := 0, slots := 0, locals := 0 } : Room).slots) := by
  refine MetFree.of_bodySF (Jvm.Free.JP.mathPlain rfl (by decide +kernel)) hisR ?_
  intro p e s m args below meth c s₁ Bd hml0 hP hK
  obtain ⟨rfl, hZ, hh⟩ := hP
  have hx := Bd.exec
  have hby := Bd.bytes
  have hml : c.maxLocals = 2 := hml0
  have hown : s.vm.findClass "java/lang/Math" = some m.cls := findClass_of_methodNamed Bd.named
  have hnm := (name_of_methodNamed Bd.named Bd.method).1
  have X0 : Stand p l e ({ frames := 0, cells := 0, slots := 0, locals := 0 } : Room) s m #[(.int p1), (.int p2)] below meth c s₁ [] 0 0 := Stand.of_body Bd
  have e0 : s₁.heap = h0 := by rw [← hh, Bd.state]; rfl
  have N0 := Fr.nil n0
  have pre0 : ∀ t, Steps p.tables e below (s₁.setTop (mkF m 0 #[.val (.int p1), .val (.int p2)] [])) t → Steps p.tables e below (s₁.setTop (entryFrame m #[(.int p1), (.int p2)] 2)) t := fun t k => castTop (ef_1 m p1 p2) k
  obtain ⟨fs, hr, hrun, hended, hW, hsame⟩ := X0.leave (v := some (.int p1)) (fun h => by rw [Bd.returns] at h; cases h)
  refine ⟨_, _, pre0 _ ?_, hrun, hended, _, _, rfl, ?_, ⟨_, rfl⟩, hW, hsame.mono (by decide) (by decide)⟩
  · show Steps p.tables e below (s₁.setTop (mkF m 0 #[.val (.int p1), .val (.int p2)] [])) _
    refine XS.iloadN X0.here hx rfl (hb hby d1_0) rfl ?_
    show Steps p.tables e below (s₁.setTop (mkF m 1 #[.val (.int p1), .val (.int p2)] [(.int p1)])) _
    refine XS.iloadN X0.here hx rfl (hb hby d1_1) rfl ?_
    show Steps p.tables e below (s₁.setTop (mkF m 2 #[.val (.int p1), .val (.int p2)] [(.int p2), (.int p1)])) _
    refine XS.icmpNo X0.here hx rfl (hb hby d1_2) rfl (flt hc2).1 ?_
    show Steps p.tables e below (s₁.setTop (mkF m 5 #[.val (.int p1), .val (.int p2)] [])) _
    refine XS.iloadN X0.here hx rfl (hb hby d1_5) rfl ?_
    show Steps p.tables e below (s₁.setTop (mkF m 6 #[.val (.int p1), .val (.int p2)] [(.int p1)])) _
    refine XS.goto X0.here hx rfl (pc0 := 6) (pc' := 10) rfl (hb hby d1_6) (by decide) (by decide) ?_
    show Steps p.tables e below (s₁.setTop (mkF m 10 #[.val (.int p1), .val (.int p2)] [(.int p1)])) _
    exact retI X0 hx Bd.returns (hb hby d1_10) hr
  · show Q1 Z p1 p2 h0 n0 _ s₁.heap _
    rw [e0]
    exact ⟨by rw [own_max, if_neg hc2], N0, rfl⟩
set_option maxRecDepth 65536 in
set_option maxHeartbeats 40000000 in
theorem rm1 (l : Launch) (Z : State) (a0 : Array Value) (hw : ∀ d ∈ tables_1, d.before a0 Z = true) (ws : List Jvm.Cond) (p1 : Int32) (p2 : Int32) (h0 : Heap) (n0 : Nat) (Z0 : n0 ≤ h0.size) :
    MetFree l (⟨"java/lang/Math", "max", "(II)I"⟩ : MethodName) (head1 (Jvm.Cond.code (⟨"java/lang/Math", "max", "(II)I"⟩ : MethodName) jdk_29_method_65_code 2 (some .int) :: ws) ({ frames := 0, cells := 0, slots := 0, locals := 0 } : Room)) (fun a U => a = #[(.int p1), (.int p2)] ∧ Z.Warmed39 U.vm ∧ U.heap = h0) (fun _ _ _ _ _ => True) (fun _ U o U' => ∃ v L, o = .returned v ∧ Q1 Z p1 p2 h0 n0 v U'.heap L ∧ FrameEnd U o U' L ({ frames := 0, cells := 0, slots := 0, locals := 0 } : Room).cells ({ frames := 0, cells := 0, slots := 0, locals := 0 } : Room).slots) := by
  by_cases c1 : p1 < p2
  · exact rm1_t l Z a0 hw ws p1 p2 h0 n0 Z0 c1
  · exact rm1_f l Z a0 hw ws p1 p2 h0 n0 Z0 c1
theorem d3_0 : decode prog_12_method_53_code 0 = .ok (.iload_n 0, 1) := by decide +kernel
theorem d3_1 : decode prog_12_method_53_code 1 = .ok (.sipush 192, 3) := by decide +kernel
theorem d3_4 : decode prog_12_method_53_code 4 = .ok (.iand, 1) := by decide +kernel
theorem d3_5 : decode prog_12_method_53_code 5 = .ok (.sipush 128, 3) := by decide +kernel
theorem d3_8 : decode prog_12_method_53_code 8 = .ok (.if_icmp .ne 7, 3) := by decide +kernel
theorem d3_11 : decode prog_12_method_53_code 11 = .ok (.iconst 1, 1) := by decide +kernel
theorem d3_12 : decode prog_12_method_53_code 12 = .ok (.goto 4, 3) := by decide +kernel
theorem d3_16 : decode prog_12_method_53_code 16 = .ok (.ireturn, 1) := by decide +kernel
theorem pn_3 : plainName "com/example/liboctet/liboctet/Utf8" = true := by first | (simp [plainName, overriddenIn]; done) | decide +kernel
theorem ef_3 (m : MethodId) (x0 : Int32) : entryFrame m #[(.int x0)] 1 = mkF m 0 #[.val (.int x0)] [] := by first | (simp [entryFrame, mkF, argsToLocals, Value.category]; done) | rfl
def Q3 (Z : State) (p1 : Int32) (h0 : Heap) (n0 : Nat) (v : Option Value) (h : Heap) (L : List Loc) : Prop := v = some (.int (own_tail p1)) ∧ Fr n0 L ∧ h = h0
set_option maxRecDepth 65536 in
set_option maxHeartbeats 40000000 in
theorem rm3_f (l : Launch) (Z : State) (a0 : Array Value) (hw : ∀ d ∈ tables_1, d.before a0 Z = true) (ws : List Jvm.Cond) (p1 : Int32) (h0 : Heap) (n0 : Nat) (Z0 : n0 ≤ h0.size) (hc8 : (p1 &&& (192 : Int32)) = (128 : Int32)) :
    MetFree l (⟨"com/example/liboctet/liboctet/Utf8", "isTail", "(B)Z"⟩ : MethodName) (head1 (Jvm.Cond.code (⟨"com/example/liboctet/liboctet/Utf8", "isTail", "(B)Z"⟩ : MethodName) prog_12_method_53_code 1 (some .boolean) :: ws) ({ frames := 0, cells := 0, slots := 0, locals := 0 } : Room)) (fun a U => a = #[(.int p1)] ∧ Z.Warmed39 U.vm ∧ U.heap = h0) (fun _ _ _ _ _ => True) (fun _ U o U' => ∃ v L, o = .returned v ∧ Q3 Z p1 h0 n0 v U'.heap L ∧ FrameEnd U o U' L ({ frames := 0, cells := 0, slots := 0, locals := 0 } : Room).cells ({ frames := 0, cells := 0, slots := 0, locals := 0 } : Room).slots) := by
  refine MetFree.of_bodySF (plainFor_of_name pn_3) hisR ?_
  intro p e s m args below meth c s₁ Bd hml0 hP hK
  obtain ⟨rfl, hZ, hh⟩ := hP
  have hx := Bd.exec
  have hby := Bd.bytes
  have hml : c.maxLocals = 1 := hml0
  have hown : s.vm.findClass "com/example/liboctet/liboctet/Utf8" = some m.cls := findClass_of_methodNamed Bd.named
  have hnm := (name_of_methodNamed Bd.named Bd.method).1
  have X0 : Stand p l e ({ frames := 0, cells := 0, slots := 0, locals := 0 } : Room) s m #[(.int p1)] below meth c s₁ [] 0 0 := Stand.of_body Bd
  have e0 : s₁.heap = h0 := by rw [← hh, Bd.state]; rfl
  have N0 := Fr.nil n0
  have pre0 : ∀ t, Steps p.tables e below (s₁.setTop (mkF m 0 #[.val (.int p1)] [])) t → Steps p.tables e below (s₁.setTop (entryFrame m #[(.int p1)] 1)) t := fun t k => castTop (ef_3 m p1) k
  obtain ⟨fs, hr, hrun, hended, hW, hsame⟩ := X0.leave (v := some (.int (1 : Int32))) (fun h => by rw [Bd.returns] at h; cases h)
  refine ⟨_, _, pre0 _ ?_, hrun, hended, _, _, rfl, ?_, ⟨_, rfl⟩, hW, hsame.mono (by decide) (by decide)⟩
  · show Steps p.tables e below (s₁.setTop (mkF m 0 #[.val (.int p1)] [])) _
    refine XS.iloadN X0.here hx rfl (hb hby d3_0) rfl ?_
    show Steps p.tables e below (s₁.setTop (mkF m 1 #[.val (.int p1)] [(.int p1)])) _
    refine XS.sipush X0.here hx rfl (hb hby d3_1) ?_
    show Steps p.tables e below (s₁.setTop (mkF m 4 #[.val (.int p1)] [(.int (192 : Int32)), (.int p1)])) _
    refine XS.iand X0.here hx rfl (hb hby d3_4) rfl ?_
    show Steps p.tables e below (s₁.setTop (mkF m 5 #[.val (.int p1)] [(.int (p1 &&& (192 : Int32)))])) _
    refine XS.sipush X0.here hx rfl (hb hby d3_5) ?_
    show Steps p.tables e below (s₁.setTop (mkF m 8 #[.val (.int p1)] [(.int (128 : Int32)), (.int (p1 &&& (192 : Int32)))])) _
    refine XS.icmpNo X0.here hx rfl (hb hby d3_8) rfl (teq hc8).2 ?_
    show Steps p.tables e below (s₁.setTop (mkF m 11 #[.val (.int p1)] [])) _
    refine XS.iconst X0.here hx rfl (hb hby d3_11) ?_
    show Steps p.tables e below (s₁.setTop (mkF m 12 #[.val (.int p1)] [(.int (1 : Int32))])) _
    refine XS.goto X0.here hx rfl (pc0 := 12) (pc' := 16) rfl (hb hby d3_12) (by decide) (by decide) ?_
    show Steps p.tables e below (s₁.setTop (mkF m 16 #[.val (.int p1)] [(.int (1 : Int32))])) _
    exact retN X0 hx (t := .boolean) Bd.returns (by simp) (hb hby d3_16) hr
  · show Q3 Z p1 h0 n0 _ s₁.heap _
    rw [e0]
    exact ⟨by rw [own_tail, if_pos hc8], N0, rfl⟩
theorem d3_15 : decode prog_12_method_53_code 15 = .ok (.iconst 0, 1) := by decide +kernel
set_option maxRecDepth 65536 in
set_option maxHeartbeats 40000000 in
theorem rm3_t (l : Launch) (Z : State) (a0 : Array Value) (hw : ∀ d ∈ tables_1, d.before a0 Z = true) (ws : List Jvm.Cond) (p1 : Int32) (h0 : Heap) (n0 : Nat) (Z0 : n0 ≤ h0.size) (hc8 : ¬ ((p1 &&& (192 : Int32)) = (128 : Int32))) :
    MetFree l (⟨"com/example/liboctet/liboctet/Utf8", "isTail", "(B)Z"⟩ : MethodName) (head1 (Jvm.Cond.code (⟨"com/example/liboctet/liboctet/Utf8", "isTail", "(B)Z"⟩ : MethodName) prog_12_method_53_code 1 (some .boolean) :: ws) ({ frames := 0, cells := 0, slots := 0, locals := 0 } : Room)) (fun a U => a = #[(.int p1)] ∧ Z.Warmed39 U.vm ∧ U.heap = h0) (fun _ _ _ _ _ => True) (fun _ U o U' => ∃ v L, o = .returned v ∧ Q3 Z p1 h0 n0 v U'.heap L ∧ FrameEnd U o U' L ({ frames := 0, cells := 0, slots := 0, locals := 0 } : Room).cells ({ frames := 0, cells := 0, slots := 0, locals := 0 } : Room).slots) := by
  refine MetFree.of_bodySF (plainFor_of_name pn_3) hisR ?_
  intro p e s m args below meth c s₁ Bd hml0 hP hK
  obtain ⟨rfl, hZ, hh⟩ := hP
  have hx := Bd.exec
  have hby := Bd.bytes
  have hml : c.maxLocals = 1 := hml0
  have hown : s.vm.findClass "com/example/liboctet/liboctet/Utf8" = some m.cls := findClass_of_methodNamed Bd.named
  have hnm := (name_of_methodNamed Bd.named Bd.method).1
  have X0 : Stand p l e ({ frames := 0, cells := 0, slots := 0, locals := 0 } : Room) s m #[(.int p1)] below meth c s₁ [] 0 0 := Stand.of_body Bd
  have e0 : s₁.heap = h0 := by rw [← hh, Bd.state]; rfl
  have N0 := Fr.nil n0
  have pre0 : ∀ t, Steps p.tables e below (s₁.setTop (mkF m 0 #[.val (.int p1)] [])) t → Steps p.tables e below (s₁.setTop (entryFrame m #[(.int p1)] 1)) t := fun t k => castTop (ef_3 m p1) k
  obtain ⟨fs, hr, hrun, hended, hW, hsame⟩ := X0.leave (v := some (.int (0 : Int32))) (fun h => by rw [Bd.returns] at h; cases h)
  refine ⟨_, _, pre0 _ ?_, hrun, hended, _, _, rfl, ?_, ⟨_, rfl⟩, hW, hsame.mono (by decide) (by decide)⟩
  · show Steps p.tables e below (s₁.setTop (mkF m 0 #[.val (.int p1)] [])) _
    refine XS.iloadN X0.here hx rfl (hb hby d3_0) rfl ?_
    show Steps p.tables e below (s₁.setTop (mkF m 1 #[.val (.int p1)] [(.int p1)])) _
    refine XS.sipush X0.here hx rfl (hb hby d3_1) ?_
    show Steps p.tables e below (s₁.setTop (mkF m 4 #[.val (.int p1)] [(.int (192 : Int32)), (.int p1)])) _
    refine XS.iand X0.here hx rfl (hb hby d3_4) rfl ?_
    show Steps p.tables e below (s₁.setTop (mkF m 5 #[.val (.int p1)] [(.int (p1 &&& (192 : Int32)))])) _
    refine XS.sipush X0.here hx rfl (hb hby d3_5) ?_
    show Steps p.tables e below (s₁.setTop (mkF m 8 #[.val (.int p1)] [(.int (128 : Int32)), (.int (p1 &&& (192 : Int32)))])) _
    refine XS.icmpYes X0.here hx rfl (pc0 := 8) (pc' := 15) rfl (hb hby d3_8) rfl (feq hc8).2 (by decide) (by decide) ?_
    show Steps p.tables e below (s₁.setTop (mkF m 15 #[.val (.int p1)] [])) _
    refine XS.iconst X0.here hx rfl (hb hby d3_15) ?_
    show Steps p.tables e below (s₁.setTop (mkF m 16 #[.val (.int p1)] [(.int (0 : Int32))])) _
    exact retN X0 hx (t := .boolean) Bd.returns (by simp) (hb hby d3_16) hr
  · show Q3 Z p1 h0 n0 _ s₁.heap _
    rw [e0]
    exact ⟨by rw [own_tail, if_neg hc8], N0, rfl⟩
set_option maxRecDepth 65536 in
set_option maxHeartbeats 40000000 in
theorem rm3 (l : Launch) (Z : State) (a0 : Array Value) (hw : ∀ d ∈ tables_1, d.before a0 Z = true) (ws : List Jvm.Cond) (p1 : Int32) (h0 : Heap) (n0 : Nat) (Z0 : n0 ≤ h0.size) :
    MetFree l (⟨"com/example/liboctet/liboctet/Utf8", "isTail", "(B)Z"⟩ : MethodName) (head1 (Jvm.Cond.code (⟨"com/example/liboctet/liboctet/Utf8", "isTail", "(B)Z"⟩ : MethodName) prog_12_method_53_code 1 (some .boolean) :: ws) ({ frames := 0, cells := 0, slots := 0, locals := 0 } : Room)) (fun a U => a = #[(.int p1)] ∧ Z.Warmed39 U.vm ∧ U.heap = h0) (fun _ _ _ _ _ => True) (fun _ U o U' => ∃ v L, o = .returned v ∧ Q3 Z p1 h0 n0 v U'.heap L ∧ FrameEnd U o U' L ({ frames := 0, cells := 0, slots := 0, locals := 0 } : Room).cells ({ frames := 0, cells := 0, slots := 0, locals := 0 } : Room).slots) := by
  by_cases c1 : (p1 &&& (192 : Int32)) = (128 : Int32)
  · exact rm3_f l Z a0 hw ws p1 h0 n0 Z0 c1
  · exact rm3_t l Z a0 hw ws p1 h0 n0 Z0 c1
theorem d4_0 : decode method_2_code 0 = .ok (.iload_n 0, 1) := by decide +kernel
theorem d4_1 : decode method_2_code 1 = .ok (.sipush 192, 3) := by decide +kernel
theorem d4_4 : decode method_2_code 4 = .ok (.iand, 1) := by decide +kernel
theorem d4_5 : decode method_2_code 5 = .ok (.sipush 128, 3) := by decide +kernel
theorem d4_8 : decode method_2_code 8 = .ok (.if_icmp .ne 7, 3) := by decide +kernel
theorem d4_11 : decode method_2_code 11 = .ok (.iconst 1, 1) := by decide +kernel
theorem d4_12 : decode method_2_code 12 = .ok (.goto 4, 3) := by decide +kernel
theorem d4_16 : decode method_2_code 16 = .ok (.ireturn, 1) := by decide +kernel
theorem pn_4 : plainName "com/example/liboctet/liboctet/Utf8SplitPointPinLaw" = true := by first | (simp [plainName, overriddenIn]; done) | decide +kernel
theorem ef_4 (m : MethodId) (x0 : Int32) : entryFrame m #[(.int x0)] 1 = mkF m 0 #[.val (.int x0)] [] := by first | (simp [entryFrame, mkF, argsToLocals, Value.category]; done) | rfl
def Q4 (Z : State) (p1 : Int32) (h0 : Heap) (n0 : Nat) (v : Option Value) (h : Heap) (L : List Loc) : Prop := v = some (.int (own_tail p1)) ∧ Fr n0 L ∧ h = h0
set_option maxRecDepth 65536 in
set_option maxHeartbeats 40000000 in
theorem rm4_f (l : Launch) (Z : State) (a0 : Array Value) (hw : ∀ d ∈ tables_1, d.before a0 Z = true) (ws : List Jvm.Cond) (p1 : Int32) (h0 : Heap) (n0 : Nat) (Z0 : n0 ≤ h0.size) (hc8 : (p1 &&& (192 : Int32)) = (128 : Int32)) :
    MetFree l (⟨"com/example/liboctet/liboctet/Utf8SplitPointPinLaw", "tail", "(B)Z"⟩ : MethodName) (head1 (Jvm.Cond.code (⟨"com/example/liboctet/liboctet/Utf8SplitPointPinLaw", "tail", "(B)Z"⟩ : MethodName) method_2_code 1 (some .boolean) :: ws) ({ frames := 0, cells := 0, slots := 0, locals := 0 } : Room)) (fun a U => a = #[(.int p1)] ∧ Z.Warmed39 U.vm ∧ U.heap = h0) (fun _ _ _ _ _ => True) (fun _ U o U' => ∃ v L, o = .returned v ∧ Q4 Z p1 h0 n0 v U'.heap L ∧ FrameEnd U o U' L ({ frames := 0, cells := 0, slots := 0, locals := 0 } : Room).cells ({ frames := 0, cells := 0, slots := 0, locals := 0 } : Room).slots) := by
  refine MetFree.of_bodySF (plainFor_of_name pn_4) hisR ?_
  intro p e s m args below meth c s₁ Bd hml0 hP hK
  obtain ⟨rfl, hZ, hh⟩ := hP
  have hx := Bd.exec
  have hby := Bd.bytes
  have hml : c.maxLocals = 1 := hml0
  have hown : s.vm.findClass "com/example/liboctet/liboctet/Utf8SplitPointPinLaw" = some m.cls := findClass_of_methodNamed Bd.named
  have hnm := (name_of_methodNamed Bd.named Bd.method).1
  have X0 : Stand p l e ({ frames := 0, cells := 0, slots := 0, locals := 0 } : Room) s m #[(.int p1)] below meth c s₁ [] 0 0 := Stand.of_body Bd
  have e0 : s₁.heap = h0 := by rw [← hh, Bd.state]; rfl
  have N0 := Fr.nil n0
  have pre0 : ∀ t, Steps p.tables e below (s₁.setTop (mkF m 0 #[.val (.int p1)] [])) t → Steps p.tables e below (s₁.setTop (entryFrame m #[(.int p1)] 1)) t := fun t k => castTop (ef_4 m p1) k
  obtain ⟨fs, hr, hrun, hended, hW, hsame⟩ := X0.leave (v := some (.int (1 : Int32))) (fun h => by rw [Bd.returns] at h; cases h)
  refine ⟨_, _, pre0 _ ?_, hrun, hended, _, _, rfl, ?_, ⟨_, rfl⟩, hW, hsame.mono (by decide) (by decide)⟩
  · show Steps p.tables e below (s₁.setTop (mkF m 0 #[.val (.int p1)] [])) _
    refine XS.iloadN X0.here hx rfl (hb hby d4_0) rfl ?_
    show Steps p.tables e below (s₁.setTop (mkF m 1 #[.val (.int p1)] [(.int p1)])) _
    refine XS.sipush X0.here hx rfl (hb hby d4_1) ?_
    show Steps p.tables e below (s₁.setTop (mkF m 4 #[.val (.int p1)] [(.int (192 : Int32)), (.int p1)])) _
    refine XS.iand X0.here hx rfl (hb hby d4_4) rfl ?_
    show Steps p.tables e below (s₁.setTop (mkF m 5 #[.val (.int p1)] [(.int (p1 &&& (192 : Int32)))])) _
    refine XS.sipush X0.here hx rfl (hb hby d4_5) ?_
    show Steps p.tables e below (s₁.setTop (mkF m 8 #[.val (.int p1)] [(.int (128 : Int32)), (.int (p1 &&& (192 : Int32)))])) _
    refine XS.icmpNo X0.here hx rfl (hb hby d4_8) rfl (teq hc8).2 ?_
    show Steps p.tables e below (s₁.setTop (mkF m 11 #[.val (.int p1)] [])) _
    refine XS.iconst X0.here hx rfl (hb hby d4_11) ?_
    show Steps p.tables e below (s₁.setTop (mkF m 12 #[.val (.int p1)] [(.int (1 : Int32))])) _
    refine XS.goto X0.here hx rfl (pc0 := 12) (pc' := 16) rfl (hb hby d4_12) (by decide) (by decide) ?_
    show Steps p.tables e below (s₁.setTop (mkF m 16 #[.val (.int p1)] [(.int (1 : Int32))])) _
    exact retN X0 hx (t := .boolean) Bd.returns (by simp) (hb hby d4_16) hr
  · show Q4 Z p1 h0 n0 _ s₁.heap _
    rw [e0]
    exact ⟨by rw [own_tail, if_pos hc8], N0, rfl⟩
theorem d4_15 : decode method_2_code 15 = .ok (.iconst 0, 1) := by decide +kernel
set_option maxRecDepth 65536 in
set_option maxHeartbeats 40000000 in
theorem rm4_t (l : Launch) (Z : State) (a0 : Array Value) (hw : ∀ d ∈ tables_1, d.before a0 Z = true) (ws : List Jvm.Cond) (p1 : Int32) (h0 : Heap) (n0 : Nat) (Z0 : n0 ≤ h0.size) (hc8 : ¬ ((p1 &&& (192 : Int32)) = (128 : Int32))) :
    MetFree l (⟨"com/example/liboctet/liboctet/Utf8SplitPointPinLaw", "tail", "(B)Z"⟩ : MethodName) (head1 (Jvm.Cond.code (⟨"com/example/liboctet/liboctet/Utf8SplitPointPinLaw", "tail", "(B)Z"⟩ : MethodName) method_2_code 1 (some .boolean) :: ws) ({ frames := 0, cells := 0, slots := 0, locals := 0 } : Room)) (fun a U => a = #[(.int p1)] ∧ Z.Warmed39 U.vm ∧ U.heap = h0) (fun _ _ _ _ _ => True) (fun _ U o U' => ∃ v L, o = .returned v ∧ Q4 Z p1 h0 n0 v U'.heap L ∧ FrameEnd U o U' L ({ frames := 0, cells := 0, slots := 0, locals := 0 } : Room).cells ({ frames := 0, cells := 0, slots := 0, locals := 0 } : Room).slots) := by
  refine MetFree.of_bodySF (plainFor_of_name pn_4) hisR ?_
  intro p e s m args below meth c s₁ Bd hml0 hP hK
  obtain ⟨rfl, hZ, hh⟩ := hP
  have hx := Bd.exec
  have hby := Bd.bytes
  have hml : c.maxLocals = 1 := hml0
  have hown : s.vm.findClass "com/example/liboctet/liboctet/Utf8SplitPointPinLaw" = some m.cls := findClass_of_methodNamed Bd.named
  have hnm := (name_of_methodNamed Bd.named Bd.method).1
  have X0 : Stand p l e ({ frames := 0, cells := 0, slots := 0, locals := 0 } : Room) s m #[(.int p1)] below meth c s₁ [] 0 0 := Stand.of_body Bd
  have e0 : s₁.heap = h0 := by rw [← hh, Bd.state]; rfl
  have N0 := Fr.nil n0
  have pre0 : ∀ t, Steps p.tables e below (s₁.setTop (mkF m 0 #[.val (.int p1)] [])) t → Steps p.tables e below (s₁.setTop (entryFrame m #[(.int p1)] 1)) t := fun t k => castTop (ef_4 m p1) k
  obtain ⟨fs, hr, hrun, hended, hW, hsame⟩ := X0.leave (v := some (.int (0 : Int32))) (fun h => by rw [Bd.returns] at h; cases h)
  refine ⟨_, _, pre0 _ ?_, hrun, hended, _, _, rfl, ?_, ⟨_, rfl⟩, hW, hsame.mono (by decide) (by decide)⟩
  · show Steps p.tables e below (s₁.setTop (mkF m 0 #[.val (.int p1)] [])) _
    refine XS.iloadN X0.here hx rfl (hb hby d4_0) rfl ?_
    show Steps p.tables e below (s₁.setTop (mkF m 1 #[.val (.int p1)] [(.int p1)])) _
    refine XS.sipush X0.here hx rfl (hb hby d4_1) ?_
    show Steps p.tables e below (s₁.setTop (mkF m 4 #[.val (.int p1)] [(.int (192 : Int32)), (.int p1)])) _
    refine XS.iand X0.here hx rfl (hb hby d4_4) rfl ?_
    show Steps p.tables e below (s₁.setTop (mkF m 5 #[.val (.int p1)] [(.int (p1 &&& (192 : Int32)))])) _
    refine XS.sipush X0.here hx rfl (hb hby d4_5) ?_
    show Steps p.tables e below (s₁.setTop (mkF m 8 #[.val (.int p1)] [(.int (128 : Int32)), (.int (p1 &&& (192 : Int32)))])) _
    refine XS.icmpYes X0.here hx rfl (pc0 := 8) (pc' := 15) rfl (hb hby d4_8) rfl (feq hc8).2 (by decide) (by decide) ?_
    show Steps p.tables e below (s₁.setTop (mkF m 15 #[.val (.int p1)] [])) _
    refine XS.iconst X0.here hx rfl (hb hby d4_15) ?_
    show Steps p.tables e below (s₁.setTop (mkF m 16 #[.val (.int p1)] [(.int (0 : Int32))])) _
    exact retN X0 hx (t := .boolean) Bd.returns (by simp) (hb hby d4_16) hr
  · show Q4 Z p1 h0 n0 _ s₁.heap _
    rw [e0]
    exact ⟨by rw [own_tail, if_neg hc8], N0, rfl⟩
set_option maxRecDepth 65536 in
set_option maxHeartbeats 40000000 in
theorem rm4 (l : Launch) (Z : State) (a0 : Array Value) (hw : ∀ d ∈ tables_1, d.before a0 Z = true) (ws : List Jvm.Cond) (p1 : Int32) (h0 : Heap) (n0 : Nat) (Z0 : n0 ≤ h0.size) :
    MetFree l (⟨"com/example/liboctet/liboctet/Utf8SplitPointPinLaw", "tail", "(B)Z"⟩ : MethodName) (head1 (Jvm.Cond.code (⟨"com/example/liboctet/liboctet/Utf8SplitPointPinLaw", "tail", "(B)Z"⟩ : MethodName) method_2_code 1 (some .boolean) :: ws) ({ frames := 0, cells := 0, slots := 0, locals := 0 } : Room)) (fun a U => a = #[(.int p1)] ∧ Z.Warmed39 U.vm ∧ U.heap = h0) (fun _ _ _ _ _ => True) (fun _ U o U' => ∃ v L, o = .returned v ∧ Q4 Z p1 h0 n0 v U'.heap L ∧ FrameEnd U o U' L ({ frames := 0, cells := 0, slots := 0, locals := 0 } : Room).cells ({ frames := 0, cells := 0, slots := 0, locals := 0 } : Room).slots) := by
  by_cases c1 : (p1 &&& (192 : Int32)) = (128 : Int32)
  · exact rm4_f l Z a0 hw ws p1 h0 n0 Z0 c1
  · exact rm4_t l Z a0 hw ws p1 h0 n0 Z0 c1
theorem d2_11 : decode prog_12_method_39_code 11 = .ok (.iload 4, 2) := by decide +kernel
theorem d2_13 : decode prog_12_method_39_code 13 = .ok (.iload_n 3, 1) := by decide +kernel
theorem d2_14 : decode prog_12_method_39_code 14 = .ok (.if_icmp .lt 22, 3) := by decide +kernel
theorem d2_17 : decode prog_12_method_39_code 17 = .ok (.aload_n 0, 1) := by decide +kernel
theorem d2_18 : decode prog_12_method_39_code 18 = .ok (.iload 4, 2) := by decide +kernel
theorem d2_20 : decode prog_12_method_39_code 20 = .ok (.baload, 1) := by decide +kernel
theorem d2_21 : decode prog_12_method_39_code 21 = .ok (.invokestatic 209, 3) := by decide +kernel
theorem d2_24 : decode prog_12_method_39_code 24 = .ok (.ifCond .ne 6, 3) := by decide +kernel
theorem d2_30 : decode prog_12_method_39_code 30 = .ok (.iinc 4 (-1), 3) := by decide +kernel
theorem d2_33 : decode prog_12_method_39_code 33 = .ok (.goto (-22), 3) := by decide +kernel
theorem pd_2_2 : parseMethodDescriptor "(B)Z" = some ⟨[.byte], some .boolean⟩ := by decide +kernel
set_option maxRecDepth 65536 in
set_option maxHeartbeats 40000000 in
theorem tn2_turn {p : Program} {l : Launch} {e : Env} {s : State} {m : MethodId} {args : Array Value} {below : List Frame} {meth : Method} {c : Code} {T0 : State} {locs : List Loc} {Z : State} {a0 : Array Value} {h0 : Heap} (o0 : Addr) (s1 : Slot) (s2 : Slot) (i3 : Int32) (i4 : Int32) (w4 : Int32) (cl_o0 : Cell)
    (X0 : Stand p l e ({ frames := 1, cells := 0, slots := 0, locals := 13 } : Room) s m args below meth c T0 locs 0 0) (hx : p.tables.exec = Jvm.exec) (hZ : Z.Warmed39 s.vm) (hw : ∀ d ∈ tables_1, d.before a0 Z = true) (hby : c.code = prog_12_method_39_code) (hml : c.maxLocals = 5) (hown : s.vm.findClass "com/example/liboctet/liboctet/Utf8" = some m.cls) (e0 : T0.heap = h0) (n0 : Nat) (Z0 : n0 ≤ h0.size) (N0 : Fr n0 locs) (Ar_o0 : Arr Z h0 o0 cl_o0 .byte) (hin20 : ¬ (i4 < 0 ∨ cl_o0.slots.size ≤ (i4).toNatClampNeg)) (hat20 : cl_o0.slots[(i4).toNatClampNeg]? = some (.int w4)) (hc14 : ¬ (i4 < i3)) (hc24 : ¬ (own_tail w4 = (0 : Int32))) :
    ∃ (T' : State) (locs' : List Loc), Stand p l e ({ frames := 1, cells := 0, slots := 0, locals := 13 } : Room) s m args below meth c T' locs' 0 0 ∧ Fr n0 locs' ∧ T'.heap = h0 ∧
      ∀ target, Steps p.tables e below (T'.setTop (mkF m 11 #[.val (.ref o0), s1, s2, .val (.int i3), .val (.int (i4 + (-1 : Int32)))] [])) target → Steps p.tables e below (T0.setTop (mkF m 11 #[.val (.ref o0), s1, s2, .val (.int i3), .val (.int i4)] [])) target := by
  obtain ⟨_, _, ⟨T5, L5, k5, n5⟩, -, X5, ⟨Lc5, hQ5, l5, y5, z5⟩, st5⟩ := Jvm.LawKit.callS X0 hx (y := (⟨"com/example/liboctet/liboctet/Utf8", "isTail", "(B)Z"⟩ : MethodName)) hown (mvT hZ (hw _ (List.mem_of_getElem? (i := 11) rfl))) (mvT hZ (hw _ (List.mem_of_getElem? (i := 12) rfl))) (mvT hZ (hw _ (List.mem_of_getElem? (i := 8) rfl))) (mvT hZ (hw _ (List.mem_of_getElem? (i := 13) rfl))) (by decide) (backOf (W := 0) (rm3 l Z a0 hw [] w4 h0 n0 Z0) hZ (hw _ (List.mem_of_getElem? (i := 13) rfl)) (hw _ (List.mem_of_getElem? (i := 8) rfl)) (by decide) (by decide)) (g := (mkF m 21 #[.val (.ref o0), s1, s2, .val (.int i3), .val (.int i4)] [(.int w4)])) rfl (by rw [hml]; rfl) (argsL := [(.int w4)]) (rest := []) (lenOf pd_2_2 rfl) rfl (by show 2 * 0 + _ ≤ _; exact Nat.le_of_eq rfl) (hb hby d2_21) (fun _ _ => ⟨rfl, e0, (by decide : 0 + 0 ≤ _), (by decide : 0 + 0 ≤ _)⟩)
  dsimp only [Pt.U, Pt.locs, Pt.cells, Pt.slots] at X5 l5 y5 z5 st5 hQ5
  subst l5 y5 z5
  obtain ⟨rfl, N5q, e5q⟩ := hQ5
  have N5 := Fr.app N0 N5q
  refine ⟨T5, _, X5, N5, e5q, fun target kt => ?_⟩
  show Steps p.tables e below (T0.setTop (mkF m 11 #[.val (.ref o0), s1, s2, .val (.int i3), .val (.int i4)] [])) _
  refine XS.iload X0.here hx rfl (hb hby d2_11) rfl ?_
  show Steps p.tables e below (T0.setTop (mkF m 13 #[.val (.ref o0), s1, s2, .val (.int i3), .val (.int i4)] [(.int i4)])) _
  refine XS.iloadN X0.here hx rfl (hb hby d2_13) rfl ?_
  show Steps p.tables e below (T0.setTop (mkF m 14 #[.val (.ref o0), s1, s2, .val (.int i3), .val (.int i4)] [(.int i3), (.int i4)])) _
  refine XS.icmpNo X0.here hx rfl (hb hby d2_14) rfl (flt hc14).1 ?_
  show Steps p.tables e below (T0.setTop (mkF m 17 #[.val (.ref o0), s1, s2, .val (.int i3), .val (.int i4)] [])) _
  refine XS.aloadN X0.here hx rfl (hb hby d2_17) rfl rfl ?_
  show Steps p.tables e below (T0.setTop (mkF m 18 #[.val (.ref o0), s1, s2, .val (.int i3), .val (.int i4)] [(.ref o0)])) _
  refine XS.iload X0.here hx rfl (hb hby d2_18) rfl ?_
  show Steps p.tables e below (T0.setTop (mkF m 20 #[.val (.ref o0), s1, s2, .val (.int i3), .val (.int i4)] [(.int i4), (.ref o0)])) _
  refine X0.baloadBytes hx (j := i4) (v := (.int w4)) (by rw [e0]; exact Ar_o0.1) (State.isArrayOf_alike hZ.alike Ar_o0.2.1) Ar_o0.2.2 hin20 hat20 (g := (mkF m 20 #[.val (.ref o0), s1, s2, .val (.int i3), .val (.int i4)] [(.int i4), (.ref o0)])) rfl rfl (hb hby d2_20) _ ?_
  show Steps p.tables e below (T0.setTop (mkF m 21 #[.val (.ref o0), s1, s2, .val (.int i3), .val (.int i4)] [(.int w4)])) _
  refine st5 _ ?_
  show Steps p.tables e below (T5.setTop (mkF m 24 #[.val (.ref o0), s1, s2, .val (.int i3), .val (.int i4)] [(.int (own_tail w4))])) _
  refine XS.ifYes X5.here hx rfl (pc0 := 24) (pc' := 30) rfl (hb hby d2_24) rfl ((if0 _ _).trans (feq (hc24 : ¬ ((own_tail w4) = (0 : Int32)))).2) (by decide) (by decide) ?_
  show Steps p.tables e below (T5.setTop (mkF m 30 #[.val (.ref o0), s1, s2, .val (.int i3), .val (.int i4)] [])) _
  refine XS.iinc X5.here hx rfl (hb hby d2_30) rfl (l' := #[.val (.ref o0), s1, s2, .val (.int i3), .val (.int (i4 + (-1 : Int32)))]) rfl ?_
  show Steps p.tables e below (T5.setTop (mkF m 33 #[.val (.ref o0), s1, s2, .val (.int i3), .val (.int (i4 + (-1 : Int32)))] [])) _
  refine XS.goto X5.here hx rfl (pc0 := 33) (pc' := 11) rfl (hb hby d2_33) (by decide) (by decide) ?_
  exact kt
set_option maxRecDepth 65536 in
set_option maxHeartbeats 40000000 in
theorem tn2_mid {p : Program} {l : Launch} {e : Env} {s : State} {m : MethodId} {args : Array Value} {below : List Frame} {meth : Method} {c : Code} {T0 : State} {locs : List Loc} {Z : State} {a0 : Array Value} {h0 : Heap} (o0 : Addr) (s1 : Slot) (s2 : Slot) (i3 : Int32) (i4 : Int32) (w4 : Int32) (cl_o0 : Cell)
    (X0 : Stand p l e ({ frames := 1, cells := 0, slots := 0, locals := 13 } : Room) s m args below meth c T0 locs 0 0) (hx : p.tables.exec = Jvm.exec) (hZ : Z.Warmed39 s.vm) (hw : ∀ d ∈ tables_1, d.before a0 Z = true) (hby : c.code = prog_12_method_39_code) (hml : c.maxLocals = 5) (hown : s.vm.findClass "com/example/liboctet/liboctet/Utf8" = some m.cls) (e0 : T0.heap = h0) (n0 : Nat) (Z0 : n0 ≤ h0.size) (N0 : Fr n0 locs) (Ar_o0 : Arr Z h0 o0 cl_o0 .byte) (hin20 : ¬ (i4 < 0 ∨ cl_o0.slots.size ≤ (i4).toNatClampNeg)) (hat20 : cl_o0.slots[(i4).toNatClampNeg]? = some (.int w4)) (hc14 : ¬ (i4 < i3)) (hc24 : own_tail w4 = (0 : Int32)) :
    ∃ (T' : State) (locs' : List Loc), Stand p l e ({ frames := 1, cells := 0, slots := 0, locals := 13 } : Room) s m args below meth c T' locs' 0 0 ∧ Fr n0 locs' ∧ T'.heap = h0 ∧
      ∀ target, Steps p.tables e below (T'.setTop (mkF m 27 #[.val (.ref o0), s1, s2, .val (.int i3), .val (.int i4)] [])) target → Steps p.tables e below (T0.setTop (mkF m 11 #[.val (.ref o0), s1, s2, .val (.int i3), .val (.int i4)] [])) target := by
  obtain ⟨_, _, ⟨T5, L5, k5, n5⟩, -, X5, ⟨Lc5, hQ5, l5, y5, z5⟩, st5⟩ := Jvm.LawKit.callS X0 hx (y := (⟨"com/example/liboctet/liboctet/Utf8", "isTail", "(B)Z"⟩ : MethodName)) hown (mvT hZ (hw _ (List.mem_of_getElem? (i := 11) rfl))) (mvT hZ (hw _ (List.mem_of_getElem? (i := 12) rfl))) (mvT hZ (hw _ (List.mem_of_getElem? (i := 8) rfl))) (mvT hZ (hw _ (List.mem_of_getElem? (i := 13) rfl))) (by decide) (backOf (W := 0) (rm3 l Z a0 hw [] w4 h0 n0 Z0) hZ (hw _ (List.mem_of_getElem? (i := 13) rfl)) (hw _ (List.mem_of_getElem? (i := 8) rfl)) (by decide) (by decide)) (g := (mkF m 21 #[.val (.ref o0), s1, s2, .val (.int i3), .val (.int i4)] [(.int w4)])) rfl (by rw [hml]; rfl) (argsL := [(.int w4)]) (rest := []) (lenOf pd_2_2 rfl) rfl (by show 2 * 0 + _ ≤ _; exact Nat.le_of_eq rfl) (hb hby d2_21) (fun _ _ => ⟨rfl, e0, (by decide : 0 + 0 ≤ _), (by decide : 0 + 0 ≤ _)⟩)
  dsimp only [Pt.U, Pt.locs, Pt.cells, Pt.slots] at X5 l5 y5 z5 st5 hQ5
  subst l5 y5 z5
  obtain ⟨rfl, N5q, e5q⟩ := hQ5
  have N5 := Fr.app N0 N5q
  refine ⟨T5, _, X5, N5, e5q, fun target kt => ?_⟩
  show Steps p.tables e below (T0.setTop (mkF m 11 #[.val (.ref o0), s1, s2, .val (.int i3), .val (.int i4)] [])) _
  refine XS.iload X0.here hx rfl (hb hby d2_11) rfl ?_
  show Steps p.tables e below (T0.setTop (mkF m 13 #[.val (.ref o0), s1, s2, .val (.int i3), .val (.int i4)] [(.int i4)])) _
  refine XS.iloadN X0.here hx rfl (hb hby d2_13) rfl ?_
  show Steps p.tables e below (T0.setTop (mkF m 14 #[.val (.ref o0), s1, s2, .val (.int i3), .val (.int i4)] [(.int i3), (.int i4)])) _
  refine XS.icmpNo X0.here hx rfl (hb hby d2_14) rfl (flt hc14).1 ?_
  show Steps p.tables e below (T0.setTop (mkF m 17 #[.val (.ref o0), s1, s2, .val (.int i3), .val (.int i4)] [])) _
  refine XS.aloadN X0.here hx rfl (hb hby d2_17) rfl rfl ?_
  show Steps p.tables e below (T0.setTop (mkF m 18 #[.val (.ref o0), s1, s2, .val (.int i3), .val (.int i4)] [(.ref o0)])) _
  refine XS.iload X0.here hx rfl (hb hby d2_18) rfl ?_
  show Steps p.tables e below (T0.setTop (mkF m 20 #[.val (.ref o0), s1, s2, .val (.int i3), .val (.int i4)] [(.int i4), (.ref o0)])) _
  refine X0.baloadBytes hx (j := i4) (v := (.int w4)) (by rw [e0]; exact Ar_o0.1) (State.isArrayOf_alike hZ.alike Ar_o0.2.1) Ar_o0.2.2 hin20 hat20 (g := (mkF m 20 #[.val (.ref o0), s1, s2, .val (.int i3), .val (.int i4)] [(.int i4), (.ref o0)])) rfl rfl (hb hby d2_20) _ ?_
  show Steps p.tables e below (T0.setTop (mkF m 21 #[.val (.ref o0), s1, s2, .val (.int i3), .val (.int i4)] [(.int w4)])) _
  refine st5 _ ?_
  show Steps p.tables e below (T5.setTop (mkF m 24 #[.val (.ref o0), s1, s2, .val (.int i3), .val (.int i4)] [(.int (own_tail w4))])) _
  refine XS.ifNo X5.here hx rfl (hb hby d2_24) rfl ((if0 _ _).trans (teq (hc24 : (own_tail w4) = (0 : Int32))).2) ?_
  exact kt
set_option maxRecDepth 65536 in
set_option maxHeartbeats 40000000 in
theorem tn2_end {p : Program} {l : Launch} {e : Env} {s : State} {m : MethodId} {args : Array Value} {below : List Frame} {meth : Method} {c : Code} {T0 : State} {locs : List Loc} {Z : State} {a0 : Array Value} {h0 : Heap} (s0 : Slot) (s1 : Slot) (s2 : Slot) (i3 : Int32) (i4 : Int32)
    (X0 : Stand p l e ({ frames := 1, cells := 0, slots := 0, locals := 13 } : Room) s m args below meth c T0 locs 0 0) (hx : p.tables.exec = Jvm.exec) (hZ : Z.Warmed39 s.vm) (hw : ∀ d ∈ tables_1, d.before a0 Z = true) (hby : c.code = prog_12_method_39_code) (hml : c.maxLocals = 5) (hown : s.vm.findClass "com/example/liboctet/liboctet/Utf8" = some m.cls) (e0 : T0.heap = h0) (n0 : Nat) (Z0 : n0 ≤ h0.size) (N0 : Fr n0 locs) (hc14 : i4 < i3) :
    ∃ (T' : State) (locs' : List Loc), Stand p l e ({ frames := 1, cells := 0, slots := 0, locals := 13 } : Room) s m args below meth c T' locs' 0 0 ∧ Fr n0 locs' ∧ T'.heap = h0 ∧
      ∀ target, Steps p.tables e below (T'.setTop (mkF m 36 #[s0, s1, s2, .val (.int i3), .val (.int i4)] [])) target → Steps p.tables e below (T0.setTop (mkF m 11 #[s0, s1, s2, .val (.int i3), .val (.int i4)] [])) target := by
  refine ⟨T0, _, X0, N0, e0, fun target kt => ?_⟩
  show Steps p.tables e below (T0.setTop (mkF m 11 #[s0, s1, s2, .val (.int i3), .val (.int i4)] [])) _
  refine XS.iload X0.here hx rfl (hb hby d2_11) rfl ?_
  show Steps p.tables e below (T0.setTop (mkF m 13 #[s0, s1, s2, .val (.int i3), .val (.int i4)] [(.int i4)])) _
  refine XS.iloadN X0.here hx rfl (hb hby d2_13) rfl ?_
  show Steps p.tables e below (T0.setTop (mkF m 14 #[s0, s1, s2, .val (.int i3), .val (.int i4)] [(.int i3), (.int i4)])) _
  refine XS.icmpYes X0.here hx rfl (pc0 := 14) (pc' := 36) rfl (hb hby d2_14) rfl (tlt hc14).1 (by decide) (by decide) ?_
  exact kt
theorem loop2 {p : Program} {l : Launch} {e : Env} {s : State} {m : MethodId} {args : Array Value} {below : List Frame} {meth : Method} {c : Code} {Z : State} {a0 : Array Value} {h0 : Heap} (o0 : Addr) (s1 s2 : Slot) (lo A : Int32) (f : Int32 → Int32) (hx : p.tables.exec = Jvm.exec) (hZ : Z.Warmed39 s.vm) (hw : ∀ d ∈ tables_1, d.before a0 Z = true) (hby : c.code = prog_12_method_39_code) (hml : c.maxLocals = 5) (hown : s.vm.findClass "com/example/liboctet/liboctet/Utf8" = some m.cls) (n0 : Nat) (Z0 : n0 ≤ h0.size) (cl : Cell) (Ar : Arr Z h0 o0 cl .byte) (hf : own_arr cl f) (hlo : 0 ≤ lo.toInt) (hA : A.toInt ≤ 5) :
    ∀ (k : Nat) (i : Int32) (T0 : State) (locs : List Loc), i.toInt = lo.toInt + (k : Int) - 1 → i.toInt ≤ A.toInt → Stand p l e ({ frames := 1, cells := 0, slots := 0, locals := 13 } : Room) s m args below meth c T0 locs 0 0 → Fr n0 locs → T0.heap = h0 →
      (∃ (T' : State) (locs' : List Loc) (z : Int32), Stand p l e ({ frames := 1, cells := 0, slots := 0, locals := 13 } : Room) s m args below meth c T' locs' 0 0 ∧ Fr n0 locs' ∧ T'.heap = h0 ∧ (lo.toInt ≤ z.toInt ∧ z.toInt ≤ i.toInt ∧ own_tail (f z) = 0 ∧ ∀ j : Int32, z.toInt < j.toInt → j.toInt ≤ i.toInt → ¬ own_tail (f j) = 0) ∧
        ∀ target, Steps p.tables e below (T'.setTop (mkF m 27 #[.val (.ref o0), s1, s2, .val (.int lo), .val (.int z)] [])) target → Steps p.tables e below (T0.setTop (mkF m 11 #[.val (.ref o0), s1, s2, .val (.int lo), .val (.int i)] [])) target) ∨
      (∃ (T' : State) (locs' : List Loc) (z : Int32), Stand p l e ({ frames := 1, cells := 0, slots := 0, locals := 13 } : Room) s m args below meth c T' locs' 0 0 ∧ Fr n0 locs' ∧ T'.heap = h0 ∧ (∀ j : Int32, lo.toInt ≤ j.toInt → j.toInt ≤ i.toInt → ¬ own_tail (f j) = 0) ∧
        ∀ target, Steps p.tables e below (T'.setTop (mkF m 36 #[.val (.ref o0), s1, s2, .val (.int lo), .val (.int z)] [])) target → Steps p.tables e below (T0.setTop (mkF m 11 #[.val (.ref o0), s1, s2, .val (.int lo), .val (.int i)] [])) target) := by
  intro k
  induction k with
  | zero =>
    intro i T0 locs hi hiA X0 N0 e0
    have hlt : i < lo := by rw [own_lt]; omega
    obtain ⟨T1, L1, X1, N1, e1, st1⟩ := tn2_end (.val (.ref o0)) s1 s2 lo i X0 hx hZ hw hby hml hown e0 n0 Z0 N0 hlt
    exact Or.inr ⟨T1, L1, i, X1, N1, e1, fun j h1 h2 => absurd h2 (by omega), st1⟩
  | succ k ih =>
    intro i T0 locs hi hiA X0 N0 e0
    have hge : ¬ i < lo := by rw [own_lt]; omega
    obtain ⟨hin, hai⟩ := hf i (by omega) (by omega)
    by_cases q : own_tail (f i) = 0
    · obtain ⟨T1, L1, X1, N1, e1, st1⟩ := tn2_mid o0 s1 s2 lo i (f i) cl X0 hx hZ hw hby hml hown e0 n0 Z0 N0 Ar hin hai hge q
      exact Or.inl ⟨T1, L1, i, X1, N1, e1, ⟨by omega, by omega, q, fun j h1 h2 => absurd h1 (by omega)⟩, st1⟩
    · obtain ⟨T1, L1, X1, N1, e1, st1⟩ := tn2_turn o0 s1 s2 lo i (f i) cl X0 hx hZ hw hby hml hown e0 n0 Z0 N0 Ar hin hai hge q
      have hi1 := own_dec i (by omega) (by omega)
      obtain ⟨i', hI⟩ : ∃ i' : Int32, i' = i + (-1 : Int32) := ⟨_, rfl⟩
      rw [← hI] at hi1 st1
      have hj : ∀ j : Int32, j.toInt = i.toInt → ¬ own_tail (f j) = 0 := fun j h => by rw [Int32.toInt_inj.mp h]; exact q
      rcases ih i' T1 L1 (by omega) (by omega) X1 N1 e1 with ⟨T', L', z, X', N', e', ⟨z1, z2, z3, z4⟩, st⟩ | ⟨T', L', z, X', N', e', z4, st⟩
      · refine Or.inl ⟨T', L', z, X', N', e', ⟨z1, by omega, z3, fun j h1 h2 => ?_⟩, fun target h => st1 target (st target h)⟩
        by_cases g : j.toInt = i.toInt
        · exact hj j g
        · exact z4 j h1 (by omega)
      · refine Or.inr ⟨T', L', z, X', N', e', fun j h1 h2 => ?_, fun target h => st1 target (st target h)⟩
        by_cases g : j.toInt = i.toInt
        · exact hj j g
        · exact z4 j h1 (by omega)
theorem d2_0 : decode prog_12_method_39_code 0 = .ok (.iload_n 1, 1) := by decide +kernel
theorem d2_1 : decode prog_12_method_39_code 1 = .ok (.iload_n 2, 1) := by decide +kernel
theorem d2_2 : decode prog_12_method_39_code 2 = .ok (.iconst 3, 1) := by decide +kernel
theorem d2_3 : decode prog_12_method_39_code 3 = .ok (.isub, 1) := by decide +kernel
theorem d2_4 : decode prog_12_method_39_code 4 = .ok (.invokestatic 357, 3) := by decide +kernel
theorem d2_7 : decode prog_12_method_39_code 7 = .ok (.istore_n 3, 1) := by decide +kernel
theorem d2_8 : decode prog_12_method_39_code 8 = .ok (.iload_n 2, 1) := by decide +kernel
theorem d2_9 : decode prog_12_method_39_code 9 = .ok (.istore 4, 2) := by decide +kernel
theorem d2_36 : decode prog_12_method_39_code 36 = .ok (.iload_n 2, 1) := by decide +kernel
theorem d2_37 : decode prog_12_method_39_code 37 = .ok (.ireturn, 1) := by decide +kernel
theorem pn_2 : plainName "com/example/liboctet/liboctet/Utf8" = true := by first | (simp [plainName, overriddenIn]; done) | decide +kernel
theorem pd_2_0 : parseMethodDescriptor "(II)I" = some ⟨[.int, .int], some .int⟩ := by decide +kernel
theorem ef_2 (m : MethodId) (x0 : Addr) (x1 : Int32) (x2 : Int32) : entryFrame m #[(.ref x0), (.int x1), (.int x2)] 5 = mkF m 0 #[.val (.ref x0), .val (.int x1), .val (.int x2), .unset, .unset] [] := by first | (simp [entryFrame, mkF, argsToLocals, Value.category]; done) | rfl
def Q2 (Z : State) (a1 : Addr) (p2 : Int32) (p3 : Int32) (f : Int32 → Int32) (h0 : Heap) (n0 : Nat) (v : Option Value) (h : Heap) (L : List Loc) : Prop := ∃ z : Int32, v = some (.int z) ∧ own_SP f (own_max p2 (p3 - (3 : Int32))) p3 z ∧ Fr n0 L ∧ h = h0
theorem d2_27 : decode prog_12_method_39_code 27 = .ok (.iload 4, 2) := by decide +kernel
theorem d2_29 : decode prog_12_method_39_code 29 = .ok (.ireturn, 1) := by decide +kernel
set_option maxRecDepth 65536 in
set_option maxHeartbeats 40000000 in
theorem rm2 (l : Launch) (Z : State) (a0 : Array Value) (hw : ∀ d ∈ tables_1, d.before a0 Z = true) (ws : List Jvm.Cond) (a1 : Addr) (p2 : Int32) (p3 : Int32) (f : Int32 → Int32) (cl : Cell) (h0 : Heap) (n0 : Nat) (Z0 : n0 ≤ h0.size) (Ar : Arr Z h0 a1 cl .byte) (hf : own_arr cl f) (hF0 : 0 ≤ p2.toInt) (hFA : p2.toInt ≤ p3.toInt) (hA5 : p3.toInt ≤ 5) :
    MetFree l (⟨"com/example/liboctet/liboctet/Utf8", "splitPoint", "([BII)I"⟩ : MethodName) (head1 (Jvm.Cond.code (⟨"com/example/liboctet/liboctet/Utf8", "splitPoint", "([BII)I"⟩ : MethodName) prog_12_method_39_code 5 (some .int) :: ws) ({ frames := 1, cells := 0, slots := 0, locals := 13 } : Room)) (fun a U => a = #[(.ref a1), (.int p2), (.int p3)] ∧ Z.Warmed39 U.vm ∧ U.heap = h0) (fun _ _ _ _ _ => True) (fun _ U o U' => ∃ v L, o = .returned v ∧ Q2 Z a1 p2 p3 f h0 n0 v U'.heap L ∧ FrameEnd U o U' L ({ frames := 1, cells := 0, slots := 0, locals := 13 } : Room).cells ({ frames := 1, cells := 0, slots := 0, locals := 13 } : Room).slots) := by
  refine MetFree.of_bodySF (plainFor_of_name pn_2) hisR ?_
  intro p e s m args below meth c s₁ Bd hml0 hP hK
  obtain ⟨rfl, hZ, hh⟩ := hP
  have hx := Bd.exec
  have hby := Bd.bytes
  have hml : c.maxLocals = 5 := hml0
  have hown : s.vm.findClass "com/example/liboctet/liboctet/Utf8" = some m.cls := findClass_of_methodNamed Bd.named
  have hnm := (name_of_methodNamed Bd.named Bd.method).1
  have X0 : Stand p l e ({ frames := 1, cells := 0, slots := 0, locals := 13 } : Room) s m #[(.ref a1), (.int p2), (.int p3)] below meth c s₁ [] 0 0 := Stand.of_body Bd
  have e0 : s₁.heap = h0 := by rw [← hh, Bd.state]; rfl
  have N0 := Fr.nil n0
  have pre0 : ∀ t, Steps p.tables e below (s₁.setTop (mkF m 0 #[.val (.ref a1), .val (.int p2), .val (.int p3), .unset, .unset] [])) t → Steps p.tables e below (s₁.setTop (entryFrame m #[(.ref a1), (.int p2), (.int p3)] 5)) t := fun t k => castTop (ef_2 m a1 p2 p3) k
  obtain ⟨_, _, ⟨T4, L4, k4, n4⟩, -, X4, ⟨Lc4, hQ4, l4, y4, z4⟩, st4⟩ := Jvm.LawKit.callS X0 hx (y := (⟨"java/lang/Math", "max", "(II)I"⟩ : MethodName)) hown (mvT hZ (hw _ (List.mem_of_getElem? (i := 10) rfl))) (mvT hZ (hw _ (List.mem_of_getElem? (i := 3) rfl))) (mvT hZ (hw _ (List.mem_of_getElem? (i := 4) rfl))) (mvT hZ (hw _ (List.mem_of_getElem? (i := 5) rfl))) (by decide) (backOf (W := 0) (rm1 l Z a0 hw [] p2 (p3 - (3 : Int32)) h0 n0 Z0) hZ (hw _ (List.mem_of_getElem? (i := 5) rfl)) (hw _ (List.mem_of_getElem? (i := 4) rfl)) (by decide) (by decide)) (g := (mkF m 4 #[.val (.ref a1), .val (.int p2), .val (.int p3), .unset, .unset] [(.int (p3 - (3 : Int32))), (.int p2)])) rfl (by rw [hml]; rfl) (argsL := [(.int p2), (.int (p3 - (3 : Int32)))]) (rest := []) (lenOf pd_2_0 rfl) rfl (by show 2 * 0 + _ ≤ _; exact Nat.le_of_eq rfl) (hb hby d2_4) (fun _ _ => ⟨rfl, e0, (by decide : 0 + 0 ≤ _), (by decide : 0 + 0 ≤ _)⟩)
  dsimp only [Pt.U, Pt.locs, Pt.cells, Pt.slots] at X4 l4 y4 z4 st4 hQ4
  subst l4 y4 z4
  obtain ⟨rfl, N4q, e4q⟩ := hQ4
  have N4 := Fr.app N0 N4q
  obtain ⟨l0, l3, lA⟩ := own_lo p2 p3 hF0 hFA hA5
  rcases loop2 a1 (.val (.int p2)) (.val (.int p3)) (own_max p2 (p3 - (3 : Int32))) p3 f hx hZ hw hby hml hown n0 Z0 cl Ar hf l0 hA5 (p3.toInt - (own_max p2 (p3 - (3 : Int32))).toInt + 1).toNat p3 T4 _ (by omega) (Int.le_refl _) X4 N4 e4q with ⟨T1, L1, z, X1, N1, e1, sp, st1⟩ | ⟨T1, L1, z, X1, N1, e1, sp, st1⟩
  · obtain ⟨fs, hr, hrun, hended, hW, hsame⟩ := X1.leave (v := some (.int z)) (fun h => by rw [Bd.returns] at h; cases h)
    refine ⟨_, _, pre0 _ ?_, hrun, hended, _, _, rfl, ?_, ⟨_, rfl⟩, hW, hsame.mono (by decide) (by decide)⟩
    · show Steps p.tables e below (s₁.setTop (mkF m 0 #[.val (.ref a1), .val (.int p2), .val (.int p3), .unset, .unset] [])) _
      refine XS.iloadN X0.here hx rfl (hb hby d2_0) rfl ?_
      show Steps p.tables e below (s₁.setTop (mkF m 1 #[.val (.ref a1), .val (.int p2), .val (.int p3), .unset, .unset] [(.int p2)])) _
      refine XS.iloadN X0.here hx rfl (hb hby d2_1) rfl ?_
      show Steps p.tables e below (s₁.setTop (mkF m 2 #[.val (.ref a1), .val (.int p2), .val (.int p3), .unset, .unset] [(.int p3), (.int p2)])) _
      refine XS.iconst X0.here hx rfl (hb hby d2_2) ?_
      show Steps p.tables e below (s₁.setTop (mkF m 3 #[.val (.ref a1), .val (.int p2), .val (.int p3), .unset, .unset] [(.int (3 : Int32)), (.int p3), (.int p2)])) _
      refine XS.isub X0.here hx rfl (hb hby d2_3) rfl ?_
      show Steps p.tables e below (s₁.setTop (mkF m 4 #[.val (.ref a1), .val (.int p2), .val (.int p3), .unset, .unset] [(.int (p3 - (3 : Int32))), (.int p2)])) _
      refine st4 _ ?_
      show Steps p.tables e below (T4.setTop (mkF m 7 #[.val (.ref a1), .val (.int p2), .val (.int p3), .unset, .unset] [(.int (own_max p2 (p3 - (3 : Int32))))])) _
      refine XS.istoreN X4.here hx rfl (hb hby d2_7) rfl (l' := #[.val (.ref a1), .val (.int p2), .val (.int p3), .val (.int (own_max p2 (p3 - (3 : Int32)))), .unset]) rfl ?_
      show Steps p.tables e below (T4.setTop (mkF m 8 #[.val (.ref a1), .val (.int p2), .val (.int p3), .val (.int (own_max p2 (p3 - (3 : Int32)))), .unset] [])) _
      refine XS.iloadN X4.here hx rfl (hb hby d2_8) rfl ?_
      show Steps p.tables e below (T4.setTop (mkF m 9 #[.val (.ref a1), .val (.int p2), .val (.int p3), .val (.int (own_max p2 (p3 - (3 : Int32)))), .unset] [(.int p3)])) _
      refine XS.istore X4.here hx rfl (hb hby d2_9) rfl (l' := #[.val (.ref a1), .val (.int p2), .val (.int p3), .val (.int (own_max p2 (p3 - (3 : Int32)))), .val (.int p3)]) rfl ?_
      show Steps p.tables e below (T4.setTop (mkF m 11 #[.val (.ref a1), .val (.int p2), .val (.int p3), .val (.int (own_max p2 (p3 - (3 : Int32)))), .val (.int p3)] [])) _
      refine st1 _ ?_
      show Steps p.tables e below (T1.setTop (mkF m 27 #[.val (.ref a1), .val (.int p2), .val (.int p3), .val (.int (own_max p2 (p3 - (3 : Int32)))), .val (.int z)] [])) _
      refine XS.iload X1.here hx rfl (hb hby d2_27) rfl ?_
      show Steps p.tables e below (T1.setTop (mkF m 29 #[.val (.ref a1), .val (.int p2), .val (.int p3), .val (.int (own_max p2 (p3 - (3 : Int32)))), .val (.int z)] [(.int z)])) _
      exact retI X1 hx Bd.returns (hb hby d2_29) hr
    · show Q2 Z a1 p2 p3 f h0 n0 _ T1.heap _
      rw [e1]
      exact ⟨z, rfl, Or.inl sp, N1, rfl⟩
  · obtain ⟨fs, hr, hrun, hended, hW, hsame⟩ := X1.leave (v := some (.int p3)) (fun h => by rw [Bd.returns] at h; cases h)
    refine ⟨_, _, pre0 _ ?_, hrun, hended, _, _, rfl, ?_, ⟨_, rfl⟩, hW, hsame.mono (by decide) (by decide)⟩
    · show Steps p.tables e below (s₁.setTop (mkF m 0 #[.val (.ref a1), .val (.int p2), .val (.int p3), .unset, .unset] [])) _
      refine XS.iloadN X0.here hx rfl (hb hby d2_0) rfl ?_
      show Steps p.tables e below (s₁.setTop (mkF m 1 #[.val (.ref a1), .val (.int p2), .val (.int p3), .unset, .unset] [(.int p2)])) _
      refine XS.iloadN X0.here hx rfl (hb hby d2_1) rfl ?_
      show Steps p.tables e below (s₁.setTop (mkF m 2 #[.val (.ref a1), .val (.int p2), .val (.int p3), .unset, .unset] [(.int p3), (.int p2)])) _
      refine XS.iconst X0.here hx rfl (hb hby d2_2) ?_
      show Steps p.tables e below (s₁.setTop (mkF m 3 #[.val (.ref a1), .val (.int p2), .val (.int p3), .unset, .unset] [(.int (3 : Int32)), (.int p3), (.int p2)])) _
      refine XS.isub X0.here hx rfl (hb hby d2_3) rfl ?_
      show Steps p.tables e below (s₁.setTop (mkF m 4 #[.val (.ref a1), .val (.int p2), .val (.int p3), .unset, .unset] [(.int (p3 - (3 : Int32))), (.int p2)])) _
      refine st4 _ ?_
      show Steps p.tables e below (T4.setTop (mkF m 7 #[.val (.ref a1), .val (.int p2), .val (.int p3), .unset, .unset] [(.int (own_max p2 (p3 - (3 : Int32))))])) _
      refine XS.istoreN X4.here hx rfl (hb hby d2_7) rfl (l' := #[.val (.ref a1), .val (.int p2), .val (.int p3), .val (.int (own_max p2 (p3 - (3 : Int32)))), .unset]) rfl ?_
      show Steps p.tables e below (T4.setTop (mkF m 8 #[.val (.ref a1), .val (.int p2), .val (.int p3), .val (.int (own_max p2 (p3 - (3 : Int32)))), .unset] [])) _
      refine XS.iloadN X4.here hx rfl (hb hby d2_8) rfl ?_
      show Steps p.tables e below (T4.setTop (mkF m 9 #[.val (.ref a1), .val (.int p2), .val (.int p3), .val (.int (own_max p2 (p3 - (3 : Int32)))), .unset] [(.int p3)])) _
      refine XS.istore X4.here hx rfl (hb hby d2_9) rfl (l' := #[.val (.ref a1), .val (.int p2), .val (.int p3), .val (.int (own_max p2 (p3 - (3 : Int32)))), .val (.int p3)]) rfl ?_
      show Steps p.tables e below (T4.setTop (mkF m 11 #[.val (.ref a1), .val (.int p2), .val (.int p3), .val (.int (own_max p2 (p3 - (3 : Int32)))), .val (.int p3)] [])) _
      refine st1 _ ?_
      show Steps p.tables e below (T1.setTop (mkF m 36 #[.val (.ref a1), .val (.int p2), .val (.int p3), .val (.int (own_max p2 (p3 - (3 : Int32)))), .val (.int z)] [])) _
      refine XS.iloadN X1.here hx rfl (hb hby d2_36) rfl ?_
      show Steps p.tables e below (T1.setTop (mkF m 37 #[.val (.ref a1), .val (.int p2), .val (.int p3), .val (.int (own_max p2 (p3 - (3 : Int32)))), .val (.int z)] [(.int p3)])) _
      exact retI X1 hx Bd.returns (hb hby d2_37) hr
    · show Q2 Z a1 p2 p3 f h0 n0 _ T1.heap _
      rw [e1]
      exact ⟨p3, rfl, Or.inr ⟨rfl, sp⟩, N1, rfl⟩
theorem os_tn0_47_70_54 {s0 : Slot} {s1 : Slot} {z2 : Value} {s3 : Slot} {s4 : Slot} {s5 : Slot} {s6 : Slot} {s7 : Slot} {v : Int32} (h : One s4) : storeLocals #[s0, s1, .val z2, s3, s4, s5, s6, s7] 4 (.int v) = some #[s0, s1, .val z2, s3, .val (.int v), s5, s6, s7] := by
  rcases h with rfl | ⟨w, rfl, hw⟩
  · rfl
  · cases w <;> first | rfl | (simp [Value.category] at hw)
theorem os_tn0_47_70_68 {s0 : Slot} {s1 : Slot} {z2 : Value} {s3 : Slot} {z4 : Value} {s5 : Slot} {s6 : Slot} {s7 : Slot} {v : Int32} (h : One s5) : storeLocals #[s0, s1, .val z2, s3, .val z4, s5, s6, s7] 5 (.int v) = some #[s0, s1, .val z2, s3, .val z4, .val (.int v), s6, s7] := by
  rcases h with rfl | ⟨w, rfl, hw⟩
  · rfl
  · cases w <;> first | rfl | (simp [Value.category] at hw)
set_option maxRecDepth 65536 in
set_option maxHeartbeats 40000000 in
theorem tn0_47_70 {p : Program} {l : Launch} {e : Env} {s : State} {m : MethodId} {args : Array Value} {below : List Frame} {meth : Method} {c : Code} {T0 : State} {locs : List Loc} {Z : State} {a0 : Array Value} {h0 : Heap} (s0 : Slot) (s1 : Slot) (i2 : Int32) (s3 : Slot) (s4 : Slot) (s5 : Slot) (s6 : Slot) (s7 : Slot)
    (X0 : Stand p l e room_1 s m args below meth c T0 locs 1 6) (hx : p.tables.exec = Jvm.exec) (hZ : Z.Warmed39 s.vm) (hw : ∀ d ∈ tables_1, d.before a0 Z = true) (hby : c.code = code) (hml : c.maxLocals = 8) (hown : s.vm.findClass "com/example/liboctet/liboctet/Utf8SplitPointPinLaw" = some m.cls) (e0 : T0.heap = h0) (n0 : Nat) (Z0 : n0 ≤ h0.size) (N0 : Fr n0 locs) (hs4 : One s4) (hs5 : One s5) (hnz53 : ¬ ((6 : Int32) = (0 : Int32))) (hnz67 : ¬ ((((i2 &&& (2147483647 : Int32)) % (6 : Int32)) + (1 : Int32)) = (0 : Int32))) :
    ∃ (T' : State) (locs' : List Loc), Stand p l e room_1 s m args below meth c T' locs' 1 6 ∧ Fr n0 locs' ∧ T'.heap = h0 ∧
      ∀ target, Steps p.tables e below (T'.setTop (mkF m 70 #[s0, s1, .val (.int i2), s3, .val (.int ((i2 &&& (2147483647 : Int32)) % (6 : Int32))), .val (.int ((((i2.toUInt32 >>> ((8 : Int32) &&& 31).toUInt32).toInt32) &&& (2147483647 : Int32)) % (((i2 &&& (2147483647 : Int32)) % (6 : Int32)) + (1 : Int32)))), s6, s7] [])) target → Steps p.tables e below (T0.setTop (mkF m 47 #[s0, s1, .val (.int i2), s3, s4, s5, s6, s7] [])) target := by
  refine ⟨T0, _, X0, N0, e0, fun target kt => ?_⟩
  show Steps p.tables e below (T0.setTop (mkF m 47 #[s0, s1, .val (.int i2), s3, s4, s5, s6, s7] [])) _
  refine XS.iloadN X0.here hx rfl (hb hby at_47) rfl ?_
  show Steps p.tables e below (T0.setTop (mkF m 48 #[s0, s1, .val (.int i2), s3, s4, s5, s6, s7] [(.int i2)])) _
  refine X0.ldcInt hx hown (mvT hZ (hw _ (List.mem_of_getElem? (i := 1) rfl))) (g := (mkF m 48 #[s0, s1, .val (.int i2), s3, s4, s5, s6, s7] [(.int i2)])) rfl (hb hby at_48) _ ?_
  show Steps p.tables e below (T0.setTop (mkF m 50 #[s0, s1, .val (.int i2), s3, s4, s5, s6, s7] [(.int (2147483647 : Int32)), (.int i2)])) _
  refine XS.iand X0.here hx rfl (hb hby at_50) rfl ?_
  show Steps p.tables e below (T0.setTop (mkF m 51 #[s0, s1, .val (.int i2), s3, s4, s5, s6, s7] [(.int (i2 &&& (2147483647 : Int32)))])) _
  refine XS.bipush X0.here hx rfl (hb hby at_51) ?_
  show Steps p.tables e below (T0.setTop (mkF m 53 #[s0, s1, .val (.int i2), s3, s4, s5, s6, s7] [(.int (6 : Int32)), (.int (i2 &&& (2147483647 : Int32)))])) _
  refine iremM X0 hx rfl (hb hby at_53) rfl hnz53 ?_
  show Steps p.tables e below (T0.setTop (mkF m 54 #[s0, s1, .val (.int i2), s3, s4, s5, s6, s7] [(.int ((i2 &&& (2147483647 : Int32)) % (6 : Int32)))])) _
  refine XS.istore X0.here hx rfl (hb hby at_54) rfl (l' := #[s0, s1, .val (.int i2), s3, .val (.int ((i2 &&& (2147483647 : Int32)) % (6 : Int32))), s5, s6, s7]) (os_tn0_47_70_54 hs4) ?_
  show Steps p.tables e below (T0.setTop (mkF m 56 #[s0, s1, .val (.int i2), s3, .val (.int ((i2 &&& (2147483647 : Int32)) % (6 : Int32))), s5, s6, s7] [])) _
  refine XS.iloadN X0.here hx rfl (hb hby at_56) rfl ?_
  show Steps p.tables e below (T0.setTop (mkF m 57 #[s0, s1, .val (.int i2), s3, .val (.int ((i2 &&& (2147483647 : Int32)) % (6 : Int32))), s5, s6, s7] [(.int i2)])) _
  refine XS.bipush X0.here hx rfl (hb hby at_57) ?_
  show Steps p.tables e below (T0.setTop (mkF m 59 #[s0, s1, .val (.int i2), s3, .val (.int ((i2 &&& (2147483647 : Int32)) % (6 : Int32))), s5, s6, s7] [(.int (8 : Int32)), (.int i2)])) _
  refine XS.iushr X0.here hx rfl (hb hby at_59) rfl ?_
  show Steps p.tables e below (T0.setTop (mkF m 60 #[s0, s1, .val (.int i2), s3, .val (.int ((i2 &&& (2147483647 : Int32)) % (6 : Int32))), s5, s6, s7] [(.int ((i2.toUInt32 >>> ((8 : Int32) &&& 31).toUInt32).toInt32))])) _
  refine X0.ldcInt hx hown (mvT hZ (hw _ (List.mem_of_getElem? (i := 1) rfl))) (g := (mkF m 60 #[s0, s1, .val (.int i2), s3, .val (.int ((i2 &&& (2147483647 : Int32)) % (6 : Int32))), s5, s6, s7] [(.int ((i2.toUInt32 >>> ((8 : Int32) &&& 31).toUInt32).toInt32))])) rfl (hb hby at_60) _ ?_
  show Steps p.tables e below (T0.setTop (mkF m 62 #[s0, s1, .val (.int i2), s3, .val (.int ((i2 &&& (2147483647 : Int32)) % (6 : Int32))), s5, s6, s7] [(.int (2147483647 : Int32)), (.int ((i2.toUInt32 >>> ((8 : Int32) &&& 31).toUInt32).toInt32))])) _
  refine XS.iand X0.here hx rfl (hb hby at_62) rfl ?_
  show Steps p.tables e below (T0.setTop (mkF m 63 #[s0, s1, .val (.int i2), s3, .val (.int ((i2 &&& (2147483647 : Int32)) % (6 : Int32))), s5, s6, s7] [(.int (((i2.toUInt32 >>> ((8 : Int32) &&& 31).toUInt32).toInt32) &&& (2147483647 : Int32)))])) _
  refine XS.iload X0.here hx rfl (hb hby at_63) rfl ?_
  show Steps p.tables e below (T0.setTop (mkF m 65 #[s0, s1, .val (.int i2), s3, .val (.int ((i2 &&& (2147483647 : Int32)) % (6 : Int32))), s5, s6, s7] [(.int ((i2 &&& (2147483647 : Int32)) % (6 : Int32))), (.int (((i2.toUInt32 >>> ((8 : Int32) &&& 31).toUInt32).toInt32) &&& (2147483647 : Int32)))])) _
  refine XS.iconst X0.here hx rfl (hb hby at_65) ?_
  show Steps p.tables e below (T0.setTop (mkF m 66 #[s0, s1, .val (.int i2), s3, .val (.int ((i2 &&& (2147483647 : Int32)) % (6 : Int32))), s5, s6, s7] [(.int (1 : Int32)), (.int ((i2 &&& (2147483647 : Int32)) % (6 : Int32))), (.int (((i2.toUInt32 >>> ((8 : Int32) &&& 31).toUInt32).toInt32) &&& (2147483647 : Int32)))])) _
  refine XS.iadd X0.here hx rfl (hb hby at_66) rfl ?_
  show Steps p.tables e below (T0.setTop (mkF m 67 #[s0, s1, .val (.int i2), s3, .val (.int ((i2 &&& (2147483647 : Int32)) % (6 : Int32))), s5, s6, s7] [(.int (((i2 &&& (2147483647 : Int32)) % (6 : Int32)) + (1 : Int32))), (.int (((i2.toUInt32 >>> ((8 : Int32) &&& 31).toUInt32).toInt32) &&& (2147483647 : Int32)))])) _
  refine iremM X0 hx rfl (hb hby at_67) rfl hnz67 ?_
  show Steps p.tables e below (T0.setTop (mkF m 68 #[s0, s1, .val (.int i2), s3, .val (.int ((i2 &&& (2147483647 : Int32)) % (6 : Int32))), s5, s6, s7] [(.int ((((i2.toUInt32 >>> ((8 : Int32) &&& 31).toUInt32).toInt32) &&& (2147483647 : Int32)) % (((i2 &&& (2147483647 : Int32)) % (6 : Int32)) + (1 : Int32))))])) _
  refine XS.istore X0.here hx rfl (hb hby at_68) rfl (l' := #[s0, s1, .val (.int i2), s3, .val (.int ((i2 &&& (2147483647 : Int32)) % (6 : Int32))), .val (.int ((((i2.toUInt32 >>> ((8 : Int32) &&& 31).toUInt32).toInt32) &&& (2147483647 : Int32)) % (((i2 &&& (2147483647 : Int32)) % (6 : Int32)) + (1 : Int32)))), s6, s7]) (os_tn0_47_70_68 hs5) ?_
  exact kt
theorem pd_0_0 : parseMethodDescriptor "(II)I" = some ⟨[.int, .int], some .int⟩ := by decide +kernel
theorem pd_0_1 : parseMethodDescriptor "([BII)I" = some ⟨[(.array .byte), .int, .int], some .int⟩ := by decide +kernel
theorem os_tn0_70_91_79 {s0 : Slot} {s1 : Slot} {s2 : Slot} {z3 : Value} {z4 : Value} {z5 : Value} {s6 : Slot} {s7 : Slot} {v : Int32} (h : One s6) : storeLocals #[s0, s1, s2, .val z3, .val z4, .val z5, s6, s7] 6 (.int v) = some #[s0, s1, s2, .val z3, .val z4, .val z5, .val (.int v), s7] := by
  rcases h with rfl | ⟨w, rfl, hw⟩
  · rfl
  · cases w <;> first | rfl | (simp [Value.category] at hw)
theorem os_tn0_70_91_89 {s0 : Slot} {s1 : Slot} {s2 : Slot} {z3 : Value} {z4 : Value} {z5 : Value} {z6 : Value} {s7 : Slot} {v : Int32} (h : One s7) : storeLocals #[s0, s1, s2, .val z3, .val z4, .val z5, .val z6, s7] 7 (.int v) = some #[s0, s1, s2, .val z3, .val z4, .val z5, .val z6, .val (.int v)] := by
  rcases h with rfl | ⟨w, rfl, hw⟩
  · rfl
  · cases w <;> first | rfl | (simp [Value.category] at hw)
set_option maxRecDepth 65536 in
set_option maxHeartbeats 40000000 in
theorem tn0_70_91 {p : Program} {l : Launch} {e : Env} {s : State} {m : MethodId} {args : Array Value} {below : List Frame} {meth : Method} {c : Code} {T0 : State} {locs : List Loc} {Z : State} {a0 : Array Value} {h0 : Heap} (s0 : Slot) (s1 : Slot) (s2 : Slot) (o3 : Addr) (i4 : Int32) (i5 : Int32) (s6 : Slot) (s7 : Slot)
    (X0 : Stand p l e room_1 s m args below meth c T0 locs 1 6) (hx : p.tables.exec = Jvm.exec) (hZ : Z.Warmed39 s.vm) (hw : ∀ d ∈ tables_1, d.before a0 Z = true) (hby : c.code = code) (hml : c.maxLocals = 8) (hown : s.vm.findClass "com/example/liboctet/liboctet/Utf8SplitPointPinLaw" = some m.cls) (e0 : T0.heap = h0) (n0 : Nat) (Z0 : n0 ≤ h0.size) (N0 : Fr n0 locs) (hs6 : One s6) (hs7 : One s7) (f : Int32 → Int32) (cl : Cell) (Ar : Arr Z h0 o3 cl .byte) (hf : own_arr cl f) (hF0 : 0 ≤ i5.toInt) (hFA : i5.toInt ≤ i4.toInt) (hA5 : i4.toInt ≤ 5) :
    ∃ (T' : State) (locs' : List Loc) (z : Int32), Stand p l e room_1 s m args below meth c T' locs' 1 6 ∧ Fr n0 locs' ∧ T'.heap = h0 ∧ own_SP f (own_max i5 (i4 - (3 : Int32))) i4 z ∧
      ∀ target, Steps p.tables e below (T'.setTop (mkF m 91 #[s0, s1, s2, .val (.ref o3), .val (.int i4), .val (.int i5), .val (.int (own_max i5 (i4 - (3 : Int32)))), .val (.int z)] [])) target → Steps p.tables e below (T0.setTop (mkF m 70 #[s0, s1, s2, .val (.ref o3), .val (.int i4), .val (.int i5), s6, s7] [])) target := by
  obtain ⟨_, _, ⟨T5, L5, k5, n5⟩, -, X5, ⟨Lc5, hQ5, l5, y5, z5⟩, st5⟩ := Jvm.LawKit.callS X0 hx (y := (⟨"java/lang/Math", "max", "(II)I"⟩ : MethodName)) hown (mvT hZ (hw _ (List.mem_of_getElem? (i := 2) rfl))) (mvT hZ (hw _ (List.mem_of_getElem? (i := 3) rfl))) (mvT hZ (hw _ (List.mem_of_getElem? (i := 4) rfl))) (mvT hZ (hw _ (List.mem_of_getElem? (i := 5) rfl))) (by decide) (backOf (W := 0) (rm1 l Z a0 hw [] i5 (i4 - (3 : Int32)) h0 n0 Z0) hZ (hw _ (List.mem_of_getElem? (i := 5) rfl)) (hw _ (List.mem_of_getElem? (i := 4) rfl)) (by decide) (by decide)) (g := (mkF m 76 #[s0, s1, s2, .val (.ref o3), .val (.int i4), .val (.int i5), s6, s7] [(.int (i4 - (3 : Int32))), (.int i5)])) rfl (by rw [hml]; rfl) (argsL := [(.int i5), (.int (i4 - (3 : Int32)))]) (rest := []) (lenOf pd_0_0 rfl) rfl (by show 2 * 0 + _ ≤ _; exact Nat.le_of_eq rfl) (hb hby at_76) (fun _ _ => ⟨rfl, e0, (by decide : 1 + 0 ≤ _), (by decide : 6 + 0 ≤ _)⟩)
  dsimp only [Pt.U, Pt.locs, Pt.cells, Pt.slots] at X5 l5 y5 z5 st5 hQ5
  subst l5 y5 z5
  obtain ⟨rfl, N5q, e5q⟩ := hQ5
  have N5 := Fr.app N0 N5q
  obtain ⟨_, _, ⟨T6, L6, k6, n6⟩, -, X6, ⟨Lc6, hQ6, l6, y6, z6⟩, st6⟩ := Jvm.LawKit.callS X5 hx (y := (⟨"com/example/liboctet/liboctet/Utf8", "splitPoint", "([BII)I"⟩ : MethodName)) hown (mvT hZ (hw _ (List.mem_of_getElem? (i := 6) rfl))) (mvT hZ (hw _ (List.mem_of_getElem? (i := 7) rfl))) (mvT hZ (hw _ (List.mem_of_getElem? (i := 8) rfl))) (mvT hZ (hw _ (List.mem_of_getElem? (i := 9) rfl))) (by decide) (backOf (W := 0) (rm2 l Z a0 hw [] o3 i5 i4 f cl T5.heap n0 (by rw [e5q]; exact Z0) (by rw [e5q]; exact Ar) hf hF0 hFA hA5) hZ (hw _ (List.mem_of_getElem? (i := 9) rfl)) (hw _ (List.mem_of_getElem? (i := 8) rfl)) (by decide) (by decide)) (g := (mkF m 86 #[s0, s1, s2, .val (.ref o3), .val (.int i4), .val (.int i5), .val (.int (own_max i5 (i4 - (3 : Int32)))), s7] [(.int i4), (.int i5), (.ref o3)])) rfl (by rw [hml]; rfl) (argsL := [(.ref o3), (.int i5), (.int i4)]) (rest := []) (lenOf pd_0_1 rfl) rfl (by show 2 * 0 + _ ≤ _; exact Nat.le_of_eq rfl) (hb hby at_86) (fun _ _ => ⟨rfl, rfl, (by decide : 1 + 0 ≤ _), (by decide : 6 + 0 ≤ _)⟩)
  dsimp only [Pt.U, Pt.locs, Pt.cells, Pt.slots] at X6 l6 y6 z6 st6 hQ6
  subst l6 y6 z6
  obtain ⟨z, rfl, sp, N6q, e6q⟩ := hQ6
  have N6 := Fr.app N5 N6q
  refine ⟨T6, _, z, X6, N6, e6q.trans e5q, sp, fun target kt => ?_⟩
  show Steps p.tables e below (T0.setTop (mkF m 70 #[s0, s1, s2, .val (.ref o3), .val (.int i4), .val (.int i5), s6, s7] [])) _
  refine XS.iload X0.here hx rfl (hb hby at_70) rfl ?_
  show Steps p.tables e below (T0.setTop (mkF m 72 #[s0, s1, s2, .val (.ref o3), .val (.int i4), .val (.int i5), s6, s7] [(.int i5)])) _
  refine XS.iload X0.here hx rfl (hb hby at_72) rfl ?_
  show Steps p.tables e below (T0.setTop (mkF m 74 #[s0, s1, s2, .val (.ref o3), .val (.int i4), .val (.int i5), s6, s7] [(.int i4), (.int i5)])) _
  refine XS.iconst X0.here hx rfl (hb hby at_74) ?_
  show Steps p.tables e below (T0.setTop (mkF m 75 #[s0, s1, s2, .val (.ref o3), .val (.int i4), .val (.int i5), s6, s7] [(.int (3 : Int32)), (.int i4), (.int i5)])) _
  refine XS.isub X0.here hx rfl (hb hby at_75) rfl ?_
  show Steps p.tables e below (T0.setTop (mkF m 76 #[s0, s1, s2, .val (.ref o3), .val (.int i4), .val (.int i5), s6, s7] [(.int (i4 - (3 : Int32))), (.int i5)])) _
  refine st5 _ ?_
  show Steps p.tables e below (T5.setTop (mkF m 79 #[s0, s1, s2, .val (.ref o3), .val (.int i4), .val (.int i5), s6, s7] [(.int (own_max i5 (i4 - (3 : Int32))))])) _
  refine XS.istore X5.here hx rfl (hb hby at_79) rfl (l' := #[s0, s1, s2, .val (.ref o3), .val (.int i4), .val (.int i5), .val (.int (own_max i5 (i4 - (3 : Int32)))), s7]) (os_tn0_70_91_79 hs6) ?_
  show Steps p.tables e below (T5.setTop (mkF m 81 #[s0, s1, s2, .val (.ref o3), .val (.int i4), .val (.int i5), .val (.int (own_max i5 (i4 - (3 : Int32)))), s7] [])) _
  refine XS.aloadN X5.here hx rfl (hb hby at_81) rfl rfl ?_
  show Steps p.tables e below (T5.setTop (mkF m 82 #[s0, s1, s2, .val (.ref o3), .val (.int i4), .val (.int i5), .val (.int (own_max i5 (i4 - (3 : Int32)))), s7] [(.ref o3)])) _
  refine XS.iload X5.here hx rfl (hb hby at_82) rfl ?_
  show Steps p.tables e below (T5.setTop (mkF m 84 #[s0, s1, s2, .val (.ref o3), .val (.int i4), .val (.int i5), .val (.int (own_max i5 (i4 - (3 : Int32)))), s7] [(.int i5), (.ref o3)])) _
  refine XS.iload X5.here hx rfl (hb hby at_84) rfl ?_
  show Steps p.tables e below (T5.setTop (mkF m 86 #[s0, s1, s2, .val (.ref o3), .val (.int i4), .val (.int i5), .val (.int (own_max i5 (i4 - (3 : Int32)))), s7] [(.int i4), (.int i5), (.ref o3)])) _
  refine st6 _ ?_
  show Steps p.tables e below (T6.setTop (mkF m 89 #[s0, s1, s2, .val (.ref o3), .val (.int i4), .val (.int i5), .val (.int (own_max i5 (i4 - (3 : Int32)))), s7] [(.int z)])) _
  refine XS.istore X6.here hx rfl (hb hby at_89) rfl (l' := #[s0, s1, s2, .val (.ref o3), .val (.int i4), .val (.int i5), .val (.int (own_max i5 (i4 - (3 : Int32)))), .val (.int z)]) (os_tn0_70_91_89 hs7) ?_
  exact kt
theorem pd_0_2 : parseMethodDescriptor "(B)Z" = some ⟨[.byte], some .boolean⟩ := by decide +kernel
set_option maxRecDepth 65536 in
set_option maxHeartbeats 40000000 in
theorem tn0_91_117 {p : Program} {l : Launch} {e : Env} {s : State} {m : MethodId} {args : Array Value} {below : List Frame} {meth : Method} {c : Code} {T0 : State} {locs : List Loc} {Z : State} {a0 : Array Value} {h0 : Heap} (s0 : Slot) (s1 : Slot) (s2 : Slot) (o3 : Addr) (i4 : Int32) (s5 : Slot) (i6 : Int32) (i7 : Int32) (w4 : Int32) (cl_o3 : Cell)
    (X0 : Stand p l e room_1 s m args below meth c T0 locs 1 6) (hx : p.tables.exec = Jvm.exec) (hZ : Z.Warmed39 s.vm) (hw : ∀ d ∈ tables_1, d.before a0 Z = true) (hby : c.code = code) (hml : c.maxLocals = 8) (hown : s.vm.findClass "com/example/liboctet/liboctet/Utf8SplitPointPinLaw" = some m.cls) (e0 : T0.heap = h0) (n0 : Nat) (Z0 : n0 ≤ h0.size) (N0 : Fr n0 locs) (Ar_o3 : Arr Z h0 o3 cl_o3 .byte) (hin110 : ¬ (i7 < 0 ∨ cl_o3.slots.size ≤ (i7).toNatClampNeg)) (hat110 : cl_o3.slots[(i7).toNatClampNeg]? = some (.int w4)) (hc95 : ¬ (i7 < i6)) (hc102 : ¬ (i4 < i7)) (hc114 : own_tail w4 = (0 : Int32)) :
    ∃ (T' : State) (locs' : List Loc), Stand p l e room_1 s m args below meth c T' locs' 1 6 ∧ Fr n0 locs' ∧ T'.heap = h0 ∧
      ∀ target, Steps p.tables e below (T'.setTop (mkF m 117 #[s0, s1, s2, .val (.ref o3), .val (.int i4), s5, .val (.int i6), .val (.int i7)] [])) target → Steps p.tables e below (T0.setTop (mkF m 91 #[s0, s1, s2, .val (.ref o3), .val (.int i4), s5, .val (.int i6), .val (.int i7)] [])) target := by
  obtain ⟨_, _, ⟨T5, L5, k5, n5⟩, -, X5, ⟨Lc5, hQ5, l5, y5, z5⟩, st5⟩ := Jvm.LawKit.callS X0 hx (y := (⟨"com/example/liboctet/liboctet/Utf8SplitPointPinLaw", "tail", "(B)Z"⟩ : MethodName)) hown (mvT hZ (hw _ (List.mem_of_getElem? (i := 14) rfl))) (mvT hZ (hw _ (List.mem_of_getElem? (i := 15) rfl))) (mvT hZ (hw _ (List.mem_of_getElem? (i := 16) rfl))) (mvT hZ (hw _ (List.mem_of_getElem? (i := 17) rfl))) (by decide) (backOf (W := 0) (rm4 l Z a0 hw [] w4 h0 n0 Z0) hZ (hw _ (List.mem_of_getElem? (i := 17) rfl)) (hw _ (List.mem_of_getElem? (i := 16) rfl)) (by decide) (by decide)) (g := (mkF m 111 #[s0, s1, s2, .val (.ref o3), .val (.int i4), s5, .val (.int i6), .val (.int i7)] [(.int w4)])) rfl (by rw [hml]; rfl) (argsL := [(.int w4)]) (rest := []) (lenOf pd_0_2 rfl) rfl (by show 2 * 0 + _ ≤ _; exact Nat.le_of_eq rfl) (hb hby at_111) (fun _ _ => ⟨rfl, e0, (by decide : 1 + 0 ≤ _), (by decide : 6 + 0 ≤ _)⟩)
  dsimp only [Pt.U, Pt.locs, Pt.cells, Pt.slots] at X5 l5 y5 z5 st5 hQ5
  subst l5 y5 z5
  obtain ⟨rfl, N5q, e5q⟩ := hQ5
  have N5 := Fr.app N0 N5q
  refine ⟨T5, _, X5, N5, e5q, fun target kt => ?_⟩
  show Steps p.tables e below (T0.setTop (mkF m 91 #[s0, s1, s2, .val (.ref o3), .val (.int i4), s5, .val (.int i6), .val (.int i7)] [])) _
  refine XS.iload X0.here hx rfl (hb hby at_91) rfl ?_
  show Steps p.tables e below (T0.setTop (mkF m 93 #[s0, s1, s2, .val (.ref o3), .val (.int i4), s5, .val (.int i6), .val (.int i7)] [(.int i7)])) _
  refine XS.iload X0.here hx rfl (hb hby at_93) rfl ?_
  show Steps p.tables e below (T0.setTop (mkF m 95 #[s0, s1, s2, .val (.ref o3), .val (.int i4), s5, .val (.int i6), .val (.int i7)] [(.int i6), (.int i7)])) _
  refine XS.icmpNo X0.here hx rfl (hb hby at_95) rfl (flt hc95).1 ?_
  show Steps p.tables e below (T0.setTop (mkF m 98 #[s0, s1, s2, .val (.ref o3), .val (.int i4), s5, .val (.int i6), .val (.int i7)] [])) _
  refine XS.iload X0.here hx rfl (hb hby at_98) rfl ?_
  show Steps p.tables e below (T0.setTop (mkF m 100 #[s0, s1, s2, .val (.ref o3), .val (.int i4), s5, .val (.int i6), .val (.int i7)] [(.int i7)])) _
  refine XS.iload X0.here hx rfl (hb hby at_100) rfl ?_
  show Steps p.tables e below (T0.setTop (mkF m 102 #[s0, s1, s2, .val (.ref o3), .val (.int i4), s5, .val (.int i6), .val (.int i7)] [(.int i4), (.int i7)])) _
  refine XS.icmpYes X0.here hx rfl (pc0 := 102) (pc' := 107) rfl (hb hby at_102) rfl (flt hc102).2.2.2 (by decide) (by decide) ?_
  show Steps p.tables e below (T0.setTop (mkF m 107 #[s0, s1, s2, .val (.ref o3), .val (.int i4), s5, .val (.int i6), .val (.int i7)] [])) _
  refine XS.aloadN X0.here hx rfl (hb hby at_107) rfl rfl ?_
  show Steps p.tables e below (T0.setTop (mkF m 108 #[s0, s1, s2, .val (.ref o3), .val (.int i4), s5, .val (.int i6), .val (.int i7)] [(.ref o3)])) _
  refine XS.iload X0.here hx rfl (hb hby at_108) rfl ?_
  show Steps p.tables e below (T0.setTop (mkF m 110 #[s0, s1, s2, .val (.ref o3), .val (.int i4), s5, .val (.int i6), .val (.int i7)] [(.int i7), (.ref o3)])) _
  refine X0.baloadBytes hx (j := i7) (v := (.int w4)) (by rw [e0]; exact Ar_o3.1) (State.isArrayOf_alike hZ.alike Ar_o3.2.1) Ar_o3.2.2 hin110 hat110 (g := (mkF m 110 #[s0, s1, s2, .val (.ref o3), .val (.int i4), s5, .val (.int i6), .val (.int i7)] [(.int i7), (.ref o3)])) rfl rfl (hb hby at_110) _ ?_
  show Steps p.tables e below (T0.setTop (mkF m 111 #[s0, s1, s2, .val (.ref o3), .val (.int i4), s5, .val (.int i6), .val (.int i7)] [(.int w4)])) _
  refine st5 _ ?_
  show Steps p.tables e below (T5.setTop (mkF m 114 #[s0, s1, s2, .val (.ref o3), .val (.int i4), s5, .val (.int i6), .val (.int i7)] [(.int (own_tail w4))])) _
  refine XS.ifNo X5.here hx rfl (hb hby at_114) rfl ((if0 _ _).trans (teq (hc114 : (own_tail w4) = (0 : Int32))).2) ?_
  exact kt
set_option maxRecDepth 65536 in
set_option maxHeartbeats 40000000 in
theorem tn0_91_193 {p : Program} {l : Launch} {e : Env} {s : State} {m : MethodId} {args : Array Value} {below : List Frame} {meth : Method} {c : Code} {T0 : State} {locs : List Loc} {Z : State} {a0 : Array Value} {h0 : Heap} (s0 : Slot) (s1 : Slot) (s2 : Slot) (o3 : Addr) (i4 : Int32) (s5 : Slot) (i6 : Int32) (i7 : Int32) (w4 : Int32) (cl_o3 : Cell)
    (X0 : Stand p l e room_1 s m args below meth c T0 locs 1 6) (hx : p.tables.exec = Jvm.exec) (hZ : Z.Warmed39 s.vm) (hw : ∀ d ∈ tables_1, d.before a0 Z = true) (hby : c.code = code) (hml : c.maxLocals = 8) (hown : s.vm.findClass "com/example/liboctet/liboctet/Utf8SplitPointPinLaw" = some m.cls) (e0 : T0.heap = h0) (n0 : Nat) (Z0 : n0 ≤ h0.size) (N0 : Fr n0 locs) (Ar_o3 : Arr Z h0 o3 cl_o3 .byte) (hin110 : ¬ (i7 < 0 ∨ cl_o3.slots.size ≤ (i7).toNatClampNeg)) (hat110 : cl_o3.slots[(i7).toNatClampNeg]? = some (.int w4)) (hc95 : ¬ (i7 < i6)) (hc102 : ¬ (i4 < i7)) (hc190 : i7 = i4) (hc114 : ¬ (own_tail w4 = (0 : Int32))) :
    ∃ (T' : State) (locs' : List Loc), Stand p l e room_1 s m args below meth c T' locs' 1 6 ∧ Fr n0 locs' ∧ T'.heap = h0 ∧
      ∀ target, Steps p.tables e below (T'.setTop (mkF m 193 #[s0, s1, s2, .val (.ref o3), .val (.int i4), s5, .val (.int i6), .val (.int i7)] [])) target → Steps p.tables e below (T0.setTop (mkF m 91 #[s0, s1, s2, .val (.ref o3), .val (.int i4), s5, .val (.int i6), .val (.int i7)] [])) target := by
  obtain ⟨_, _, ⟨T5, L5, k5, n5⟩, -, X5, ⟨Lc5, hQ5, l5, y5, z5⟩, st5⟩ := Jvm.LawKit.callS X0 hx (y := (⟨"com/example/liboctet/liboctet/Utf8SplitPointPinLaw", "tail", "(B)Z"⟩ : MethodName)) hown (mvT hZ (hw _ (List.mem_of_getElem? (i := 14) rfl))) (mvT hZ (hw _ (List.mem_of_getElem? (i := 15) rfl))) (mvT hZ (hw _ (List.mem_of_getElem? (i := 16) rfl))) (mvT hZ (hw _ (List.mem_of_getElem? (i := 17) rfl))) (by decide) (backOf (W := 0) (rm4 l Z a0 hw [] w4 h0 n0 Z0) hZ (hw _ (List.mem_of_getElem? (i := 17) rfl)) (hw _ (List.mem_of_getElem? (i := 16) rfl)) (by decide) (by decide)) (g := (mkF m 111 #[s0, s1, s2, .val (.ref o3), .val (.int i4), s5, .val (.int i6), .val (.int i7)] [(.int w4)])) rfl (by rw [hml]; rfl) (argsL := [(.int w4)]) (rest := []) (lenOf pd_0_2 rfl) rfl (by show 2 * 0 + _ ≤ _; exact Nat.le_of_eq rfl) (hb hby at_111) (fun _ _ => ⟨rfl, e0, (by decide : 1 + 0 ≤ _), (by decide : 6 + 0 ≤ _)⟩)
  dsimp only [Pt.U, Pt.locs, Pt.cells, Pt.slots] at X5 l5 y5 z5 st5 hQ5
  subst l5 y5 z5
  obtain ⟨rfl, N5q, e5q⟩ := hQ5
  have N5 := Fr.app N0 N5q
  refine ⟨T5, _, X5, N5, e5q, fun target kt => ?_⟩
  show Steps p.tables e below (T0.setTop (mkF m 91 #[s0, s1, s2, .val (.ref o3), .val (.int i4), s5, .val (.int i6), .val (.int i7)] [])) _
  refine XS.iload X0.here hx rfl (hb hby at_91) rfl ?_
  show Steps p.tables e below (T0.setTop (mkF m 93 #[s0, s1, s2, .val (.ref o3), .val (.int i4), s5, .val (.int i6), .val (.int i7)] [(.int i7)])) _
  refine XS.iload X0.here hx rfl (hb hby at_93) rfl ?_
  show Steps p.tables e below (T0.setTop (mkF m 95 #[s0, s1, s2, .val (.ref o3), .val (.int i4), s5, .val (.int i6), .val (.int i7)] [(.int i6), (.int i7)])) _
  refine XS.icmpNo X0.here hx rfl (hb hby at_95) rfl (flt hc95).1 ?_
  show Steps p.tables e below (T0.setTop (mkF m 98 #[s0, s1, s2, .val (.ref o3), .val (.int i4), s5, .val (.int i6), .val (.int i7)] [])) _
  refine XS.iload X0.here hx rfl (hb hby at_98) rfl ?_
  show Steps p.tables e below (T0.setTop (mkF m 100 #[s0, s1, s2, .val (.ref o3), .val (.int i4), s5, .val (.int i6), .val (.int i7)] [(.int i7)])) _
  refine XS.iload X0.here hx rfl (hb hby at_100) rfl ?_
  show Steps p.tables e below (T0.setTop (mkF m 102 #[s0, s1, s2, .val (.ref o3), .val (.int i4), s5, .val (.int i6), .val (.int i7)] [(.int i4), (.int i7)])) _
  refine XS.icmpYes X0.here hx rfl (pc0 := 102) (pc' := 107) rfl (hb hby at_102) rfl (flt hc102).2.2.2 (by decide) (by decide) ?_
  show Steps p.tables e below (T0.setTop (mkF m 107 #[s0, s1, s2, .val (.ref o3), .val (.int i4), s5, .val (.int i6), .val (.int i7)] [])) _
  refine XS.aloadN X0.here hx rfl (hb hby at_107) rfl rfl ?_
  show Steps p.tables e below (T0.setTop (mkF m 108 #[s0, s1, s2, .val (.ref o3), .val (.int i4), s5, .val (.int i6), .val (.int i7)] [(.ref o3)])) _
  refine XS.iload X0.here hx rfl (hb hby at_108) rfl ?_
  show Steps p.tables e below (T0.setTop (mkF m 110 #[s0, s1, s2, .val (.ref o3), .val (.int i4), s5, .val (.int i6), .val (.int i7)] [(.int i7), (.ref o3)])) _
  refine X0.baloadBytes hx (j := i7) (v := (.int w4)) (by rw [e0]; exact Ar_o3.1) (State.isArrayOf_alike hZ.alike Ar_o3.2.1) Ar_o3.2.2 hin110 hat110 (g := (mkF m 110 #[s0, s1, s2, .val (.ref o3), .val (.int i4), s5, .val (.int i6), .val (.int i7)] [(.int i7), (.ref o3)])) rfl rfl (hb hby at_110) _ ?_
  show Steps p.tables e below (T0.setTop (mkF m 111 #[s0, s1, s2, .val (.ref o3), .val (.int i4), s5, .val (.int i6), .val (.int i7)] [(.int w4)])) _
  refine st5 _ ?_
  show Steps p.tables e below (T5.setTop (mkF m 114 #[s0, s1, s2, .val (.ref o3), .val (.int i4), s5, .val (.int i6), .val (.int i7)] [(.int (own_tail w4))])) _
  refine XS.ifYes X5.here hx rfl (pc0 := 114) (pc' := 186) rfl (hb hby at_114) rfl ((if0 _ _).trans (feq (hc114 : ¬ ((own_tail w4) = (0 : Int32)))).2) (by decide) (by decide) ?_
  show Steps p.tables e below (T5.setTop (mkF m 186 #[s0, s1, s2, .val (.ref o3), .val (.int i4), s5, .val (.int i6), .val (.int i7)] [])) _
  refine XS.iload X5.here hx rfl (hb hby at_186) rfl ?_
  show Steps p.tables e below (T5.setTop (mkF m 188 #[s0, s1, s2, .val (.ref o3), .val (.int i4), s5, .val (.int i6), .val (.int i7)] [(.int i7)])) _
  refine XS.iload X5.here hx rfl (hb hby at_188) rfl ?_
  show Steps p.tables e below (T5.setTop (mkF m 190 #[s0, s1, s2, .val (.ref o3), .val (.int i4), s5, .val (.int i6), .val (.int i7)] [(.int i4), (.int i7)])) _
  refine XS.icmpNo X5.here hx rfl (hb hby at_190) rfl (teq hc190).2 ?_
  exact kt
set_option maxRecDepth 65536 in
set_option maxHeartbeats 40000000 in
theorem tn0_117_138_t {p : Program} {l : Launch} {e : Env} {s : State} {m : MethodId} {args : Array Value} {below : List Frame} {meth : Method} {c : Code} {T0 : State} {locs : List Loc} {Z : State} {a0 : Array Value} {h0 : Heap} (s0 : Slot) (s1 : Slot) (s2 : Slot) (s3 : Slot) (i4 : Int32) (s5 : Slot) (s6 : Slot) (i7 : Int32)
    (X0 : Stand p l e room_1 s m args below meth c T0 locs 1 6) (hx : p.tables.exec = Jvm.exec) (hZ : Z.Warmed39 s.vm) (hw : ∀ d ∈ tables_1, d.before a0 Z = true) (hby : c.code = code) (hml : c.maxLocals = 8) (hown : s.vm.findClass "com/example/liboctet/liboctet/Utf8SplitPointPinLaw" = some m.cls) (e0 : T0.heap = h0) (n0 : Nat) (Z0 : n0 ≤ h0.size) (N0 : Fr n0 locs) (hc123 : i4 < (i7 + (1 : Int32))) :
    ∃ (T' : State) (locs' : List Loc), Stand p l e room_1 s m args below meth c T' locs' 1 6 ∧ Fr n0 locs' ∧ T'.heap = h0 ∧
      ∀ target, Steps p.tables e below (T'.setTop (mkF m 138 #[s0, s1, s2, s3, .val (.int i4), s5, s6, .val (.int i7)] [])) target → Steps p.tables e below (T0.setTop (mkF m 117 #[s0, s1, s2, s3, .val (.int i4), s5, s6, .val (.int i7)] [])) target := by
  refine ⟨T0, _, X0, N0, e0, fun target kt => ?_⟩
  show Steps p.tables e below (T0.setTop (mkF m 117 #[s0, s1, s2, s3, .val (.int i4), s5, s6, .val (.int i7)] [])) _
  refine XS.iload X0.here hx rfl (hb hby at_117) rfl ?_
  show Steps p.tables e below (T0.setTop (mkF m 119 #[s0, s1, s2, s3, .val (.int i4), s5, s6, .val (.int i7)] [(.int i7)])) _
  refine XS.iconst X0.here hx rfl (hb hby at_119) ?_
  show Steps p.tables e below (T0.setTop (mkF m 120 #[s0, s1, s2, s3, .val (.int i4), s5, s6, .val (.int i7)] [(.int (1 : Int32)), (.int i7)])) _
  refine XS.iadd X0.here hx rfl (hb hby at_120) rfl ?_
  show Steps p.tables e below (T0.setTop (mkF m 121 #[s0, s1, s2, s3, .val (.int i4), s5, s6, .val (.int i7)] [(.int (i7 + (1 : Int32)))])) _
  refine XS.iload X0.here hx rfl (hb hby at_121) rfl ?_
  show Steps p.tables e below (T0.setTop (mkF m 123 #[s0, s1, s2, s3, .val (.int i4), s5, s6, .val (.int i7)] [(.int i4), (.int (i7 + (1 : Int32)))])) _
  refine XS.icmpYes X0.here hx rfl (pc0 := 123) (pc' := 138) rfl (hb hby at_123) rfl (tlt hc123).2.2.1 (by decide) (by decide) ?_
  exact kt
set_option maxRecDepth 65536 in
set_option maxHeartbeats 40000000 in
theorem tn0_117_138_f {p : Program} {l : Launch} {e : Env} {s : State} {m : MethodId} {args : Array Value} {below : List Frame} {meth : Method} {c : Code} {T0 : State} {locs : List Loc} {Z : State} {a0 : Array Value} {h0 : Heap} (s0 : Slot) (s1 : Slot) (s2 : Slot) (o3 : Addr) (i4 : Int32) (s5 : Slot) (s6 : Slot) (i7 : Int32) (w4 : Int32) (cl_o3 : Cell)
    (X0 : Stand p l e room_1 s m args below meth c T0 locs 1 6) (hx : p.tables.exec = Jvm.exec) (hZ : Z.Warmed39 s.vm) (hw : ∀ d ∈ tables_1, d.before a0 Z = true) (hby : c.code = code) (hml : c.maxLocals = 8) (hown : s.vm.findClass "com/example/liboctet/liboctet/Utf8SplitPointPinLaw" = some m.cls) (e0 : T0.heap = h0) (n0 : Nat) (Z0 : n0 ≤ h0.size) (N0 : Fr n0 locs) (Ar_o3 : Arr Z h0 o3 cl_o3 .byte) (hin131 : ¬ ((i7 + (1 : Int32)) < 0 ∨ cl_o3.slots.size ≤ ((i7 + (1 : Int32))).toNatClampNeg)) (hat131 : cl_o3.slots[((i7 + (1 : Int32))).toNatClampNeg]? = some (.int w4)) (hc123 : ¬ (i4 < (i7 + (1 : Int32)))) (hc135 : ¬ (own_tail w4 = (0 : Int32))) :
    ∃ (T' : State) (locs' : List Loc), Stand p l e room_1 s m args below meth c T' locs' 1 6 ∧ Fr n0 locs' ∧ T'.heap = h0 ∧
      ∀ target, Steps p.tables e below (T'.setTop (mkF m 138 #[s0, s1, s2, .val (.ref o3), .val (.int i4), s5, s6, .val (.int i7)] [])) target → Steps p.tables e below (T0.setTop (mkF m 117 #[s0, s1, s2, .val (.ref o3), .val (.int i4), s5, s6, .val (.int i7)] [])) target := by
  obtain ⟨_, _, ⟨T5, L5, k5, n5⟩, -, X5, ⟨Lc5, hQ5, l5, y5, z5⟩, st5⟩ := Jvm.LawKit.callS X0 hx (y := (⟨"com/example/liboctet/liboctet/Utf8SplitPointPinLaw", "tail", "(B)Z"⟩ : MethodName)) hown (mvT hZ (hw _ (List.mem_of_getElem? (i := 14) rfl))) (mvT hZ (hw _ (List.mem_of_getElem? (i := 15) rfl))) (mvT hZ (hw _ (List.mem_of_getElem? (i := 16) rfl))) (mvT hZ (hw _ (List.mem_of_getElem? (i := 17) rfl))) (by decide) (backOf (W := 0) (rm4 l Z a0 hw [] w4 h0 n0 Z0) hZ (hw _ (List.mem_of_getElem? (i := 17) rfl)) (hw _ (List.mem_of_getElem? (i := 16) rfl)) (by decide) (by decide)) (g := (mkF m 132 #[s0, s1, s2, .val (.ref o3), .val (.int i4), s5, s6, .val (.int i7)] [(.int w4)])) rfl (by rw [hml]; rfl) (argsL := [(.int w4)]) (rest := []) (lenOf pd_0_2 rfl) rfl (by show 2 * 0 + _ ≤ _; exact Nat.le_of_eq rfl) (hb hby at_132) (fun _ _ => ⟨rfl, e0, (by decide : 1 + 0 ≤ _), (by decide : 6 + 0 ≤ _)⟩)
  dsimp only [Pt.U, Pt.locs, Pt.cells, Pt.slots] at X5 l5 y5 z5 st5 hQ5
  subst l5 y5 z5
  obtain ⟨rfl, N5q, e5q⟩ := hQ5
  have N5 := Fr.app N0 N5q
  refine ⟨T5, _, X5, N5, e5q, fun target kt => ?_⟩
  show Steps p.tables e below (T0.setTop (mkF m 117 #[s0, s1, s2, .val (.ref o3), .val (.int i4), s5, s6, .val (.int i7)] [])) _
  refine XS.iload X0.here hx rfl (hb hby at_117) rfl ?_
  show Steps p.tables e below (T0.setTop (mkF m 119 #[s0, s1, s2, .val (.ref o3), .val (.int i4), s5, s6, .val (.int i7)] [(.int i7)])) _
  refine XS.iconst X0.here hx rfl (hb hby at_119) ?_
  show Steps p.tables e below (T0.setTop (mkF m 120 #[s0, s1, s2, .val (.ref o3), .val (.int i4), s5, s6, .val (.int i7)] [(.int (1 : Int32)), (.int i7)])) _
  refine XS.iadd X0.here hx rfl (hb hby at_120) rfl ?_
  show Steps p.tables e below (T0.setTop (mkF m 121 #[s0, s1, s2, .val (.ref o3), .val (.int i4), s5, s6, .val (.int i7)] [(.int (i7 + (1 : Int32)))])) _
  refine XS.iload X0.here hx rfl (hb hby at_121) rfl ?_
  show Steps p.tables e below (T0.setTop (mkF m 123 #[s0, s1, s2, .val (.ref o3), .val (.int i4), s5, s6, .val (.int i7)] [(.int i4), (.int (i7 + (1 : Int32)))])) _
  refine XS.icmpNo X0.here hx rfl (hb hby at_123) rfl (flt hc123).2.2.1 ?_
  show Steps p.tables e below (T0.setTop (mkF m 126 #[s0, s1, s2, .val (.ref o3), .val (.int i4), s5, s6, .val (.int i7)] [])) _
  refine XS.aloadN X0.here hx rfl (hb hby at_126) rfl rfl ?_
  show Steps p.tables e below (T0.setTop (mkF m 127 #[s0, s1, s2, .val (.ref o3), .val (.int i4), s5, s6, .val (.int i7)] [(.ref o3)])) _
  refine XS.iload X0.here hx rfl (hb hby at_127) rfl ?_
  show Steps p.tables e below (T0.setTop (mkF m 129 #[s0, s1, s2, .val (.ref o3), .val (.int i4), s5, s6, .val (.int i7)] [(.int i7), (.ref o3)])) _
  refine XS.iconst X0.here hx rfl (hb hby at_129) ?_
  show Steps p.tables e below (T0.setTop (mkF m 130 #[s0, s1, s2, .val (.ref o3), .val (.int i4), s5, s6, .val (.int i7)] [(.int (1 : Int32)), (.int i7), (.ref o3)])) _
  refine XS.iadd X0.here hx rfl (hb hby at_130) rfl ?_
  show Steps p.tables e below (T0.setTop (mkF m 131 #[s0, s1, s2, .val (.ref o3), .val (.int i4), s5, s6, .val (.int i7)] [(.int (i7 + (1 : Int32))), (.ref o3)])) _
  refine X0.baloadBytes hx (j := (i7 + (1 : Int32))) (v := (.int w4)) (by rw [e0]; exact Ar_o3.1) (State.isArrayOf_alike hZ.alike Ar_o3.2.1) Ar_o3.2.2 hin131 hat131 (g := (mkF m 131 #[s0, s1, s2, .val (.ref o3), .val (.int i4), s5, s6, .val (.int i7)] [(.int (i7 + (1 : Int32))), (.ref o3)])) rfl rfl (hb hby at_131) _ ?_
  show Steps p.tables e below (T0.setTop (mkF m 132 #[s0, s1, s2, .val (.ref o3), .val (.int i4), s5, s6, .val (.int i7)] [(.int w4)])) _
  refine st5 _ ?_
  show Steps p.tables e below (T5.setTop (mkF m 135 #[s0, s1, s2, .val (.ref o3), .val (.int i4), s5, s6, .val (.int i7)] [(.int (own_tail w4))])) _
  refine XS.ifNo X5.here hx rfl (hb hby at_135) rfl ((if0 _ _).trans (feq (hc135 : ¬ ((own_tail w4) = (0 : Int32)))).1) ?_
  exact kt
set_option maxRecDepth 65536 in
set_option maxHeartbeats 40000000 in
theorem tn0_138_159_t {p : Program} {l : Launch} {e : Env} {s : State} {m : MethodId} {args : Array Value} {below : List Frame} {meth : Method} {c : Code} {T0 : State} {locs : List Loc} {Z : State} {a0 : Array Value} {h0 : Heap} (s0 : Slot) (s1 : Slot) (s2 : Slot) (s3 : Slot) (i4 : Int32) (s5 : Slot) (s6 : Slot) (i7 : Int32)
    (X0 : Stand p l e room_1 s m args below meth c T0 locs 1 6) (hx : p.tables.exec = Jvm.exec) (hZ : Z.Warmed39 s.vm) (hw : ∀ d ∈ tables_1, d.before a0 Z = true) (hby : c.code = code) (hml : c.maxLocals = 8) (hown : s.vm.findClass "com/example/liboctet/liboctet/Utf8SplitPointPinLaw" = some m.cls) (e0 : T0.heap = h0) (n0 : Nat) (Z0 : n0 ≤ h0.size) (N0 : Fr n0 locs) (hc144 : i4 < (i7 + (2 : Int32))) :
    ∃ (T' : State) (locs' : List Loc), Stand p l e room_1 s m args below meth c T' locs' 1 6 ∧ Fr n0 locs' ∧ T'.heap = h0 ∧
      ∀ target, Steps p.tables e below (T'.setTop (mkF m 159 #[s0, s1, s2, s3, .val (.int i4), s5, s6, .val (.int i7)] [])) target → Steps p.tables e below (T0.setTop (mkF m 138 #[s0, s1, s2, s3, .val (.int i4), s5, s6, .val (.int i7)] [])) target := by
  refine ⟨T0, _, X0, N0, e0, fun target kt => ?_⟩
  show Steps p.tables e below (T0.setTop (mkF m 138 #[s0, s1, s2, s3, .val (.int i4), s5, s6, .val (.int i7)] [])) _
  refine XS.iload X0.here hx rfl (hb hby at_138) rfl ?_
  show Steps p.tables e below (T0.setTop (mkF m 140 #[s0, s1, s2, s3, .val (.int i4), s5, s6, .val (.int i7)] [(.int i7)])) _
  refine XS.iconst X0.here hx rfl (hb hby at_140) ?_
  show Steps p.tables e below (T0.setTop (mkF m 141 #[s0, s1, s2, s3, .val (.int i4), s5, s6, .val (.int i7)] [(.int (2 : Int32)), (.int i7)])) _
  refine XS.iadd X0.here hx rfl (hb hby at_141) rfl ?_
  show Steps p.tables e below (T0.setTop (mkF m 142 #[s0, s1, s2, s3, .val (.int i4), s5, s6, .val (.int i7)] [(.int (i7 + (2 : Int32)))])) _
  refine XS.iload X0.here hx rfl (hb hby at_142) rfl ?_
  show Steps p.tables e below (T0.setTop (mkF m 144 #[s0, s1, s2, s3, .val (.int i4), s5, s6, .val (.int i7)] [(.int i4), (.int (i7 + (2 : Int32)))])) _
  refine XS.icmpYes X0.here hx rfl (pc0 := 144) (pc' := 159) rfl (hb hby at_144) rfl (tlt hc144).2.2.1 (by decide) (by decide) ?_
  exact kt
set_option maxRecDepth 65536 in
set_option maxHeartbeats 40000000 in
theorem tn0_138_159_f {p : Program} {l : Launch} {e : Env} {s : State} {m : MethodId} {args : Array Value} {below : List Frame} {meth : Method} {c : Code} {T0 : State} {locs : List Loc} {Z : State} {a0 : Array Value} {h0 : Heap} (s0 : Slot) (s1 : Slot) (s2 : Slot) (o3 : Addr) (i4 : Int32) (s5 : Slot) (s6 : Slot) (i7 : Int32) (w4 : Int32) (cl_o3 : Cell)
    (X0 : Stand p l e room_1 s m args below meth c T0 locs 1 6) (hx : p.tables.exec = Jvm.exec) (hZ : Z.Warmed39 s.vm) (hw : ∀ d ∈ tables_1, d.before a0 Z = true) (hby : c.code = code) (hml : c.maxLocals = 8) (hown : s.vm.findClass "com/example/liboctet/liboctet/Utf8SplitPointPinLaw" = some m.cls) (e0 : T0.heap = h0) (n0 : Nat) (Z0 : n0 ≤ h0.size) (N0 : Fr n0 locs) (Ar_o3 : Arr Z h0 o3 cl_o3 .byte) (hin152 : ¬ ((i7 + (2 : Int32)) < 0 ∨ cl_o3.slots.size ≤ ((i7 + (2 : Int32))).toNatClampNeg)) (hat152 : cl_o3.slots[((i7 + (2 : Int32))).toNatClampNeg]? = some (.int w4)) (hc144 : ¬ (i4 < (i7 + (2 : Int32)))) (hc156 : ¬ (own_tail w4 = (0 : Int32))) :
    ∃ (T' : State) (locs' : List Loc), Stand p l e room_1 s m args below meth c T' locs' 1 6 ∧ Fr n0 locs' ∧ T'.heap = h0 ∧
      ∀ target, Steps p.tables e below (T'.setTop (mkF m 159 #[s0, s1, s2, .val (.ref o3), .val (.int i4), s5, s6, .val (.int i7)] [])) target → Steps p.tables e below (T0.setTop (mkF m 138 #[s0, s1, s2, .val (.ref o3), .val (.int i4), s5, s6, .val (.int i7)] [])) target := by
  obtain ⟨_, _, ⟨T5, L5, k5, n5⟩, -, X5, ⟨Lc5, hQ5, l5, y5, z5⟩, st5⟩ := Jvm.LawKit.callS X0 hx (y := (⟨"com/example/liboctet/liboctet/Utf8SplitPointPinLaw", "tail", "(B)Z"⟩ : MethodName)) hown (mvT hZ (hw _ (List.mem_of_getElem? (i := 14) rfl))) (mvT hZ (hw _ (List.mem_of_getElem? (i := 15) rfl))) (mvT hZ (hw _ (List.mem_of_getElem? (i := 16) rfl))) (mvT hZ (hw _ (List.mem_of_getElem? (i := 17) rfl))) (by decide) (backOf (W := 0) (rm4 l Z a0 hw [] w4 h0 n0 Z0) hZ (hw _ (List.mem_of_getElem? (i := 17) rfl)) (hw _ (List.mem_of_getElem? (i := 16) rfl)) (by decide) (by decide)) (g := (mkF m 153 #[s0, s1, s2, .val (.ref o3), .val (.int i4), s5, s6, .val (.int i7)] [(.int w4)])) rfl (by rw [hml]; rfl) (argsL := [(.int w4)]) (rest := []) (lenOf pd_0_2 rfl) rfl (by show 2 * 0 + _ ≤ _; exact Nat.le_of_eq rfl) (hb hby at_153) (fun _ _ => ⟨rfl, e0, (by decide : 1 + 0 ≤ _), (by decide : 6 + 0 ≤ _)⟩)
  dsimp only [Pt.U, Pt.locs, Pt.cells, Pt.slots] at X5 l5 y5 z5 st5 hQ5
  subst l5 y5 z5
  obtain ⟨rfl, N5q, e5q⟩ := hQ5
  have N5 := Fr.app N0 N5q
  refine ⟨T5, _, X5, N5, e5q, fun target kt => ?_⟩
  show Steps p.tables e below (T0.setTop (mkF m 138 #[s0, s1, s2, .val (.ref o3), .val (.int i4), s5, s6, .val (.int i7)] [])) _
  refine XS.iload X0.here hx rfl (hb hby at_138) rfl ?_
  show Steps p.tables e below (T0.setTop (mkF m 140 #[s0, s1, s2, .val (.ref o3), .val (.int i4), s5, s6, .val (.int i7)] [(.int i7)])) _
  refine XS.iconst X0.here hx rfl (hb hby at_140) ?_
  show Steps p.tables e below (T0.setTop (mkF m 141 #[s0, s1, s2, .val (.ref o3), .val (.int i4), s5, s6, .val (.int i7)] [(.int (2 : Int32)), (.int i7)])) _
  refine XS.iadd X0.here hx rfl (hb hby at_141) rfl ?_
  show Steps p.tables e below (T0.setTop (mkF m 142 #[s0, s1, s2, .val (.ref o3), .val (.int i4), s5, s6, .val (.int i7)] [(.int (i7 + (2 : Int32)))])) _
  refine XS.iload X0.here hx rfl (hb hby at_142) rfl ?_
  show Steps p.tables e below (T0.setTop (mkF m 144 #[s0, s1, s2, .val (.ref o3), .val (.int i4), s5, s6, .val (.int i7)] [(.int i4), (.int (i7 + (2 : Int32)))])) _
  refine XS.icmpNo X0.here hx rfl (hb hby at_144) rfl (flt hc144).2.2.1 ?_
  show Steps p.tables e below (T0.setTop (mkF m 147 #[s0, s1, s2, .val (.ref o3), .val (.int i4), s5, s6, .val (.int i7)] [])) _
  refine XS.aloadN X0.here hx rfl (hb hby at_147) rfl rfl ?_
  show Steps p.tables e below (T0.setTop (mkF m 148 #[s0, s1, s2, .val (.ref o3), .val (.int i4), s5, s6, .val (.int i7)] [(.ref o3)])) _
  refine XS.iload X0.here hx rfl (hb hby at_148) rfl ?_
  show Steps p.tables e below (T0.setTop (mkF m 150 #[s0, s1, s2, .val (.ref o3), .val (.int i4), s5, s6, .val (.int i7)] [(.int i7), (.ref o3)])) _
  refine XS.iconst X0.here hx rfl (hb hby at_150) ?_
  show Steps p.tables e below (T0.setTop (mkF m 151 #[s0, s1, s2, .val (.ref o3), .val (.int i4), s5, s6, .val (.int i7)] [(.int (2 : Int32)), (.int i7), (.ref o3)])) _
  refine XS.iadd X0.here hx rfl (hb hby at_151) rfl ?_
  show Steps p.tables e below (T0.setTop (mkF m 152 #[s0, s1, s2, .val (.ref o3), .val (.int i4), s5, s6, .val (.int i7)] [(.int (i7 + (2 : Int32))), (.ref o3)])) _
  refine X0.baloadBytes hx (j := (i7 + (2 : Int32))) (v := (.int w4)) (by rw [e0]; exact Ar_o3.1) (State.isArrayOf_alike hZ.alike Ar_o3.2.1) Ar_o3.2.2 hin152 hat152 (g := (mkF m 152 #[s0, s1, s2, .val (.ref o3), .val (.int i4), s5, s6, .val (.int i7)] [(.int (i7 + (2 : Int32))), (.ref o3)])) rfl rfl (hb hby at_152) _ ?_
  show Steps p.tables e below (T0.setTop (mkF m 153 #[s0, s1, s2, .val (.ref o3), .val (.int i4), s5, s6, .val (.int i7)] [(.int w4)])) _
  refine st5 _ ?_
  show Steps p.tables e below (T5.setTop (mkF m 156 #[s0, s1, s2, .val (.ref o3), .val (.int i4), s5, s6, .val (.int i7)] [(.int (own_tail w4))])) _
  refine XS.ifNo X5.here hx rfl (hb hby at_156) rfl ((if0 _ _).trans (feq (hc156 : ¬ ((own_tail w4) = (0 : Int32)))).1) ?_
  exact kt
set_option maxRecDepth 65536 in
set_option maxHeartbeats 40000000 in
theorem tn0_159_180_t {p : Program} {l : Launch} {e : Env} {s : State} {m : MethodId} {args : Array Value} {below : List Frame} {meth : Method} {c : Code} {T0 : State} {locs : List Loc} {Z : State} {a0 : Array Value} {h0 : Heap} (s0 : Slot) (s1 : Slot) (s2 : Slot) (s3 : Slot) (i4 : Int32) (s5 : Slot) (s6 : Slot) (i7 : Int32)
    (X0 : Stand p l e room_1 s m args below meth c T0 locs 1 6) (hx : p.tables.exec = Jvm.exec) (hZ : Z.Warmed39 s.vm) (hw : ∀ d ∈ tables_1, d.before a0 Z = true) (hby : c.code = code) (hml : c.maxLocals = 8) (hown : s.vm.findClass "com/example/liboctet/liboctet/Utf8SplitPointPinLaw" = some m.cls) (e0 : T0.heap = h0) (n0 : Nat) (Z0 : n0 ≤ h0.size) (N0 : Fr n0 locs) (hc165 : i4 < (i7 + (3 : Int32))) :
    ∃ (T' : State) (locs' : List Loc), Stand p l e room_1 s m args below meth c T' locs' 1 6 ∧ Fr n0 locs' ∧ T'.heap = h0 ∧
      ∀ target, Steps p.tables e below (T'.setTop (mkF m 180 #[s0, s1, s2, s3, .val (.int i4), s5, s6, .val (.int i7)] [])) target → Steps p.tables e below (T0.setTop (mkF m 159 #[s0, s1, s2, s3, .val (.int i4), s5, s6, .val (.int i7)] [])) target := by
  refine ⟨T0, _, X0, N0, e0, fun target kt => ?_⟩
  show Steps p.tables e below (T0.setTop (mkF m 159 #[s0, s1, s2, s3, .val (.int i4), s5, s6, .val (.int i7)] [])) _
  refine XS.iload X0.here hx rfl (hb hby at_159) rfl ?_
  show Steps p.tables e below (T0.setTop (mkF m 161 #[s0, s1, s2, s3, .val (.int i4), s5, s6, .val (.int i7)] [(.int i7)])) _
  refine XS.iconst X0.here hx rfl (hb hby at_161) ?_
  show Steps p.tables e below (T0.setTop (mkF m 162 #[s0, s1, s2, s3, .val (.int i4), s5, s6, .val (.int i7)] [(.int (3 : Int32)), (.int i7)])) _
  refine XS.iadd X0.here hx rfl (hb hby at_162) rfl ?_
  show Steps p.tables e below (T0.setTop (mkF m 163 #[s0, s1, s2, s3, .val (.int i4), s5, s6, .val (.int i7)] [(.int (i7 + (3 : Int32)))])) _
  refine XS.iload X0.here hx rfl (hb hby at_163) rfl ?_
  show Steps p.tables e below (T0.setTop (mkF m 165 #[s0, s1, s2, s3, .val (.int i4), s5, s6, .val (.int i7)] [(.int i4), (.int (i7 + (3 : Int32)))])) _
  refine XS.icmpYes X0.here hx rfl (pc0 := 165) (pc' := 180) rfl (hb hby at_165) rfl (tlt hc165).2.2.1 (by decide) (by decide) ?_
  exact kt
set_option maxRecDepth 65536 in
set_option maxHeartbeats 40000000 in
theorem tn0_159_180_f {p : Program} {l : Launch} {e : Env} {s : State} {m : MethodId} {args : Array Value} {below : List Frame} {meth : Method} {c : Code} {T0 : State} {locs : List Loc} {Z : State} {a0 : Array Value} {h0 : Heap} (s0 : Slot) (s1 : Slot) (s2 : Slot) (o3 : Addr) (i4 : Int32) (s5 : Slot) (s6 : Slot) (i7 : Int32) (w4 : Int32) (cl_o3 : Cell)
    (X0 : Stand p l e room_1 s m args below meth c T0 locs 1 6) (hx : p.tables.exec = Jvm.exec) (hZ : Z.Warmed39 s.vm) (hw : ∀ d ∈ tables_1, d.before a0 Z = true) (hby : c.code = code) (hml : c.maxLocals = 8) (hown : s.vm.findClass "com/example/liboctet/liboctet/Utf8SplitPointPinLaw" = some m.cls) (e0 : T0.heap = h0) (n0 : Nat) (Z0 : n0 ≤ h0.size) (N0 : Fr n0 locs) (Ar_o3 : Arr Z h0 o3 cl_o3 .byte) (hin173 : ¬ ((i7 + (3 : Int32)) < 0 ∨ cl_o3.slots.size ≤ ((i7 + (3 : Int32))).toNatClampNeg)) (hat173 : cl_o3.slots[((i7 + (3 : Int32))).toNatClampNeg]? = some (.int w4)) (hc165 : ¬ (i4 < (i7 + (3 : Int32)))) (hc177 : ¬ (own_tail w4 = (0 : Int32))) :
    ∃ (T' : State) (locs' : List Loc), Stand p l e room_1 s m args below meth c T' locs' 1 6 ∧ Fr n0 locs' ∧ T'.heap = h0 ∧
      ∀ target, Steps p.tables e below (T'.setTop (mkF m 180 #[s0, s1, s2, .val (.ref o3), .val (.int i4), s5, s6, .val (.int i7)] [])) target → Steps p.tables e below (T0.setTop (mkF m 159 #[s0, s1, s2, .val (.ref o3), .val (.int i4), s5, s6, .val (.int i7)] [])) target := by
  obtain ⟨_, _, ⟨T5, L5, k5, n5⟩, -, X5, ⟨Lc5, hQ5, l5, y5, z5⟩, st5⟩ := Jvm.LawKit.callS X0 hx (y := (⟨"com/example/liboctet/liboctet/Utf8SplitPointPinLaw", "tail", "(B)Z"⟩ : MethodName)) hown (mvT hZ (hw _ (List.mem_of_getElem? (i := 14) rfl))) (mvT hZ (hw _ (List.mem_of_getElem? (i := 15) rfl))) (mvT hZ (hw _ (List.mem_of_getElem? (i := 16) rfl))) (mvT hZ (hw _ (List.mem_of_getElem? (i := 17) rfl))) (by decide) (backOf (W := 0) (rm4 l Z a0 hw [] w4 h0 n0 Z0) hZ (hw _ (List.mem_of_getElem? (i := 17) rfl)) (hw _ (List.mem_of_getElem? (i := 16) rfl)) (by decide) (by decide)) (g := (mkF m 174 #[s0, s1, s2, .val (.ref o3), .val (.int i4), s5, s6, .val (.int i7)] [(.int w4)])) rfl (by rw [hml]; rfl) (argsL := [(.int w4)]) (rest := []) (lenOf pd_0_2 rfl) rfl (by show 2 * 0 + _ ≤ _; exact Nat.le_of_eq rfl) (hb hby at_174) (fun _ _ => ⟨rfl, e0, (by decide : 1 + 0 ≤ _), (by decide : 6 + 0 ≤ _)⟩)
  dsimp only [Pt.U, Pt.locs, Pt.cells, Pt.slots] at X5 l5 y5 z5 st5 hQ5
  subst l5 y5 z5
  obtain ⟨rfl, N5q, e5q⟩ := hQ5
  have N5 := Fr.app N0 N5q
  refine ⟨T5, _, X5, N5, e5q, fun target kt => ?_⟩
  show Steps p.tables e below (T0.setTop (mkF m 159 #[s0, s1, s2, .val (.ref o3), .val (.int i4), s5, s6, .val (.int i7)] [])) _
  refine XS.iload X0.here hx rfl (hb hby at_159) rfl ?_
  show Steps p.tables e below (T0.setTop (mkF m 161 #[s0, s1, s2, .val (.ref o3), .val (.int i4), s5, s6, .val (.int i7)] [(.int i7)])) _
  refine XS.iconst X0.here hx rfl (hb hby at_161) ?_
  show Steps p.tables e below (T0.setTop (mkF m 162 #[s0, s1, s2, .val (.ref o3), .val (.int i4), s5, s6, .val (.int i7)] [(.int (3 : Int32)), (.int i7)])) _
  refine XS.iadd X0.here hx rfl (hb hby at_162) rfl ?_
  show Steps p.tables e below (T0.setTop (mkF m 163 #[s0, s1, s2, .val (.ref o3), .val (.int i4), s5, s6, .val (.int i7)] [(.int (i7 + (3 : Int32)))])) _
  refine XS.iload X0.here hx rfl (hb hby at_163) rfl ?_
  show Steps p.tables e below (T0.setTop (mkF m 165 #[s0, s1, s2, .val (.ref o3), .val (.int i4), s5, s6, .val (.int i7)] [(.int i4), (.int (i7 + (3 : Int32)))])) _
  refine XS.icmpNo X0.here hx rfl (hb hby at_165) rfl (flt hc165).2.2.1 ?_
  show Steps p.tables e below (T0.setTop (mkF m 168 #[s0, s1, s2, .val (.ref o3), .val (.int i4), s5, s6, .val (.int i7)] [])) _
  refine XS.aloadN X0.here hx rfl (hb hby at_168) rfl rfl ?_
  show Steps p.tables e below (T0.setTop (mkF m 169 #[s0, s1, s2, .val (.ref o3), .val (.int i4), s5, s6, .val (.int i7)] [(.ref o3)])) _
  refine XS.iload X0.here hx rfl (hb hby at_169) rfl ?_
  show Steps p.tables e below (T0.setTop (mkF m 171 #[s0, s1, s2, .val (.ref o3), .val (.int i4), s5, s6, .val (.int i7)] [(.int i7), (.ref o3)])) _
  refine XS.iconst X0.here hx rfl (hb hby at_171) ?_
  show Steps p.tables e below (T0.setTop (mkF m 172 #[s0, s1, s2, .val (.ref o3), .val (.int i4), s5, s6, .val (.int i7)] [(.int (3 : Int32)), (.int i7), (.ref o3)])) _
  refine XS.iadd X0.here hx rfl (hb hby at_172) rfl ?_
  show Steps p.tables e below (T0.setTop (mkF m 173 #[s0, s1, s2, .val (.ref o3), .val (.int i4), s5, s6, .val (.int i7)] [(.int (i7 + (3 : Int32))), (.ref o3)])) _
  refine X0.baloadBytes hx (j := (i7 + (3 : Int32))) (v := (.int w4)) (by rw [e0]; exact Ar_o3.1) (State.isArrayOf_alike hZ.alike Ar_o3.2.1) Ar_o3.2.2 hin173 hat173 (g := (mkF m 173 #[s0, s1, s2, .val (.ref o3), .val (.int i4), s5, s6, .val (.int i7)] [(.int (i7 + (3 : Int32))), (.ref o3)])) rfl rfl (hb hby at_173) _ ?_
  show Steps p.tables e below (T0.setTop (mkF m 174 #[s0, s1, s2, .val (.ref o3), .val (.int i4), s5, s6, .val (.int i7)] [(.int w4)])) _
  refine st5 _ ?_
  show Steps p.tables e below (T5.setTop (mkF m 177 #[s0, s1, s2, .val (.ref o3), .val (.int i4), s5, s6, .val (.int i7)] [(.int (own_tail w4))])) _
  refine XS.ifNo X5.here hx rfl (hb hby at_177) rfl ((if0 _ _).trans (feq (hc177 : ¬ ((own_tail w4) = (0 : Int32)))).1) ?_
  exact kt
set_option maxRecDepth 65536 in
set_option maxHeartbeats 40000000 in
theorem tn0_193_214_t {p : Program} {l : Launch} {e : Env} {s : State} {m : MethodId} {args : Array Value} {below : List Frame} {meth : Method} {c : Code} {T0 : State} {locs : List Loc} {Z : State} {a0 : Array Value} {h0 : Heap} (s0 : Slot) (s1 : Slot) (s2 : Slot) (s3 : Slot) (i4 : Int32) (s5 : Slot) (i6 : Int32) (s7 : Slot)
    (X0 : Stand p l e room_1 s m args below meth c T0 locs 1 6) (hx : p.tables.exec = Jvm.exec) (hZ : Z.Warmed39 s.vm) (hw : ∀ d ∈ tables_1, d.before a0 Z = true) (hby : c.code = code) (hml : c.maxLocals = 8) (hown : s.vm.findClass "com/example/liboctet/liboctet/Utf8SplitPointPinLaw" = some m.cls) (e0 : T0.heap = h0) (n0 : Nat) (Z0 : n0 ≤ h0.size) (N0 : Fr n0 locs) (hc199 : (i4 - (1 : Int32)) < i6) :
    ∃ (T' : State) (locs' : List Loc), Stand p l e room_1 s m args below meth c T' locs' 1 6 ∧ Fr n0 locs' ∧ T'.heap = h0 ∧
      ∀ target, Steps p.tables e below (T'.setTop (mkF m 214 #[s0, s1, s2, s3, .val (.int i4), s5, .val (.int i6), s7] [])) target → Steps p.tables e below (T0.setTop (mkF m 193 #[s0, s1, s2, s3, .val (.int i4), s5, .val (.int i6), s7] [])) target := by
  refine ⟨T0, _, X0, N0, e0, fun target kt => ?_⟩
  show Steps p.tables e below (T0.setTop (mkF m 193 #[s0, s1, s2, s3, .val (.int i4), s5, .val (.int i6), s7] [])) _
  refine XS.iload X0.here hx rfl (hb hby at_193) rfl ?_
  show Steps p.tables e below (T0.setTop (mkF m 195 #[s0, s1, s2, s3, .val (.int i4), s5, .val (.int i6), s7] [(.int i4)])) _
  refine XS.iconst X0.here hx rfl (hb hby at_195) ?_
  show Steps p.tables e below (T0.setTop (mkF m 196 #[s0, s1, s2, s3, .val (.int i4), s5, .val (.int i6), s7] [(.int (1 : Int32)), (.int i4)])) _
  refine XS.isub X0.here hx rfl (hb hby at_196) rfl ?_
  show Steps p.tables e below (T0.setTop (mkF m 197 #[s0, s1, s2, s3, .val (.int i4), s5, .val (.int i6), s7] [(.int (i4 - (1 : Int32)))])) _
  refine XS.iload X0.here hx rfl (hb hby at_197) rfl ?_
  show Steps p.tables e below (T0.setTop (mkF m 199 #[s0, s1, s2, s3, .val (.int i4), s5, .val (.int i6), s7] [(.int i6), (.int (i4 - (1 : Int32)))])) _
  refine XS.icmpYes X0.here hx rfl (pc0 := 199) (pc' := 214) rfl (hb hby at_199) rfl (tlt hc199).1 (by decide) (by decide) ?_
  exact kt
set_option maxRecDepth 65536 in
set_option maxHeartbeats 40000000 in
theorem tn0_193_214_f {p : Program} {l : Launch} {e : Env} {s : State} {m : MethodId} {args : Array Value} {below : List Frame} {meth : Method} {c : Code} {T0 : State} {locs : List Loc} {Z : State} {a0 : Array Value} {h0 : Heap} (s0 : Slot) (s1 : Slot) (s2 : Slot) (o3 : Addr) (i4 : Int32) (s5 : Slot) (i6 : Int32) (s7 : Slot) (w4 : Int32) (cl_o3 : Cell)
    (X0 : Stand p l e room_1 s m args below meth c T0 locs 1 6) (hx : p.tables.exec = Jvm.exec) (hZ : Z.Warmed39 s.vm) (hw : ∀ d ∈ tables_1, d.before a0 Z = true) (hby : c.code = code) (hml : c.maxLocals = 8) (hown : s.vm.findClass "com/example/liboctet/liboctet/Utf8SplitPointPinLaw" = some m.cls) (e0 : T0.heap = h0) (n0 : Nat) (Z0 : n0 ≤ h0.size) (N0 : Fr n0 locs) (Ar_o3 : Arr Z h0 o3 cl_o3 .byte) (hin207 : ¬ ((i4 - (1 : Int32)) < 0 ∨ cl_o3.slots.size ≤ ((i4 - (1 : Int32))).toNatClampNeg)) (hat207 : cl_o3.slots[((i4 - (1 : Int32))).toNatClampNeg]? = some (.int w4)) (hc199 : ¬ ((i4 - (1 : Int32)) < i6)) (hc211 : ¬ (own_tail w4 = (0 : Int32))) :
    ∃ (T' : State) (locs' : List Loc), Stand p l e room_1 s m args below meth c T' locs' 1 6 ∧ Fr n0 locs' ∧ T'.heap = h0 ∧
      ∀ target, Steps p.tables e below (T'.setTop (mkF m 214 #[s0, s1, s2, .val (.ref o3), .val (.int i4), s5, .val (.int i6), s7] [])) target → Steps p.tables e below (T0.setTop (mkF m 193 #[s0, s1, s2, .val (.ref o3), .val (.int i4), s5, .val (.int i6), s7] [])) target := by
  obtain ⟨_, _, ⟨T5, L5, k5, n5⟩, -, X5, ⟨Lc5, hQ5, l5, y5, z5⟩, st5⟩ := Jvm.LawKit.callS X0 hx (y := (⟨"com/example/liboctet/liboctet/Utf8SplitPointPinLaw", "tail", "(B)Z"⟩ : MethodName)) hown (mvT hZ (hw _ (List.mem_of_getElem? (i := 14) rfl))) (mvT hZ (hw _ (List.mem_of_getElem? (i := 15) rfl))) (mvT hZ (hw _ (List.mem_of_getElem? (i := 16) rfl))) (mvT hZ (hw _ (List.mem_of_getElem? (i := 17) rfl))) (by decide) (backOf (W := 0) (rm4 l Z a0 hw [] w4 h0 n0 Z0) hZ (hw _ (List.mem_of_getElem? (i := 17) rfl)) (hw _ (List.mem_of_getElem? (i := 16) rfl)) (by decide) (by decide)) (g := (mkF m 208 #[s0, s1, s2, .val (.ref o3), .val (.int i4), s5, .val (.int i6), s7] [(.int w4)])) rfl (by rw [hml]; rfl) (argsL := [(.int w4)]) (rest := []) (lenOf pd_0_2 rfl) rfl (by show 2 * 0 + _ ≤ _; exact Nat.le_of_eq rfl) (hb hby at_208) (fun _ _ => ⟨rfl, e0, (by decide : 1 + 0 ≤ _), (by decide : 6 + 0 ≤ _)⟩)
  dsimp only [Pt.U, Pt.locs, Pt.cells, Pt.slots] at X5 l5 y5 z5 st5 hQ5
  subst l5 y5 z5
  obtain ⟨rfl, N5q, e5q⟩ := hQ5
  have N5 := Fr.app N0 N5q
  refine ⟨T5, _, X5, N5, e5q, fun target kt => ?_⟩
  show Steps p.tables e below (T0.setTop (mkF m 193 #[s0, s1, s2, .val (.ref o3), .val (.int i4), s5, .val (.int i6), s7] [])) _
  refine XS.iload X0.here hx rfl (hb hby at_193) rfl ?_
  show Steps p.tables e below (T0.setTop (mkF m 195 #[s0, s1, s2, .val (.ref o3), .val (.int i4), s5, .val (.int i6), s7] [(.int i4)])) _
  refine XS.iconst X0.here hx rfl (hb hby at_195) ?_
  show Steps p.tables e below (T0.setTop (mkF m 196 #[s0, s1, s2, .val (.ref o3), .val (.int i4), s5, .val (.int i6), s7] [(.int (1 : Int32)), (.int i4)])) _
  refine XS.isub X0.here hx rfl (hb hby at_196) rfl ?_
  show Steps p.tables e below (T0.setTop (mkF m 197 #[s0, s1, s2, .val (.ref o3), .val (.int i4), s5, .val (.int i6), s7] [(.int (i4 - (1 : Int32)))])) _
  refine XS.iload X0.here hx rfl (hb hby at_197) rfl ?_
  show Steps p.tables e below (T0.setTop (mkF m 199 #[s0, s1, s2, .val (.ref o3), .val (.int i4), s5, .val (.int i6), s7] [(.int i6), (.int (i4 - (1 : Int32)))])) _
  refine XS.icmpNo X0.here hx rfl (hb hby at_199) rfl (flt hc199).1 ?_
  show Steps p.tables e below (T0.setTop (mkF m 202 #[s0, s1, s2, .val (.ref o3), .val (.int i4), s5, .val (.int i6), s7] [])) _
  refine XS.aloadN X0.here hx rfl (hb hby at_202) rfl rfl ?_
  show Steps p.tables e below (T0.setTop (mkF m 203 #[s0, s1, s2, .val (.ref o3), .val (.int i4), s5, .val (.int i6), s7] [(.ref o3)])) _
  refine XS.iload X0.here hx rfl (hb hby at_203) rfl ?_
  show Steps p.tables e below (T0.setTop (mkF m 205 #[s0, s1, s2, .val (.ref o3), .val (.int i4), s5, .val (.int i6), s7] [(.int i4), (.ref o3)])) _
  refine XS.iconst X0.here hx rfl (hb hby at_205) ?_
  show Steps p.tables e below (T0.setTop (mkF m 206 #[s0, s1, s2, .val (.ref o3), .val (.int i4), s5, .val (.int i6), s7] [(.int (1 : Int32)), (.int i4), (.ref o3)])) _
  refine XS.isub X0.here hx rfl (hb hby at_206) rfl ?_
  show Steps p.tables e below (T0.setTop (mkF m 207 #[s0, s1, s2, .val (.ref o3), .val (.int i4), s5, .val (.int i6), s7] [(.int (i4 - (1 : Int32))), (.ref o3)])) _
  refine X0.baloadBytes hx (j := (i4 - (1 : Int32))) (v := (.int w4)) (by rw [e0]; exact Ar_o3.1) (State.isArrayOf_alike hZ.alike Ar_o3.2.1) Ar_o3.2.2 hin207 hat207 (g := (mkF m 207 #[s0, s1, s2, .val (.ref o3), .val (.int i4), s5, .val (.int i6), s7] [(.int (i4 - (1 : Int32))), (.ref o3)])) rfl rfl (hb hby at_207) _ ?_
  show Steps p.tables e below (T0.setTop (mkF m 208 #[s0, s1, s2, .val (.ref o3), .val (.int i4), s5, .val (.int i6), s7] [(.int w4)])) _
  refine st5 _ ?_
  show Steps p.tables e below (T5.setTop (mkF m 211 #[s0, s1, s2, .val (.ref o3), .val (.int i4), s5, .val (.int i6), s7] [(.int (own_tail w4))])) _
  refine XS.ifNo X5.here hx rfl (hb hby at_211) rfl ((if0 _ _).trans (feq (hc211 : ¬ ((own_tail w4) = (0 : Int32)))).1) ?_
  exact kt
set_option maxRecDepth 65536 in
set_option maxHeartbeats 40000000 in
theorem tn0_214_235_t {p : Program} {l : Launch} {e : Env} {s : State} {m : MethodId} {args : Array Value} {below : List Frame} {meth : Method} {c : Code} {T0 : State} {locs : List Loc} {Z : State} {a0 : Array Value} {h0 : Heap} (s0 : Slot) (s1 : Slot) (s2 : Slot) (s3 : Slot) (i4 : Int32) (s5 : Slot) (i6 : Int32) (s7 : Slot)
    (X0 : Stand p l e room_1 s m args below meth c T0 locs 1 6) (hx : p.tables.exec = Jvm.exec) (hZ : Z.Warmed39 s.vm) (hw : ∀ d ∈ tables_1, d.before a0 Z = true) (hby : c.code = code) (hml : c.maxLocals = 8) (hown : s.vm.findClass "com/example/liboctet/liboctet/Utf8SplitPointPinLaw" = some m.cls) (e0 : T0.heap = h0) (n0 : Nat) (Z0 : n0 ≤ h0.size) (N0 : Fr n0 locs) (hc220 : (i4 - (2 : Int32)) < i6) :
    ∃ (T' : State) (locs' : List Loc), Stand p l e room_1 s m args below meth c T' locs' 1 6 ∧ Fr n0 locs' ∧ T'.heap = h0 ∧
      ∀ target, Steps p.tables e below (T'.setTop (mkF m 235 #[s0, s1, s2, s3, .val (.int i4), s5, .val (.int i6), s7] [])) target → Steps p.tables e below (T0.setTop (mkF m 214 #[s0, s1, s2, s3, .val (.int i4), s5, .val (.int i6), s7] [])) target := by
  refine ⟨T0, _, X0, N0, e0, fun target kt => ?_⟩
  show Steps p.tables e below (T0.setTop (mkF m 214 #[s0, s1, s2, s3, .val (.int i4), s5, .val (.int i6), s7] [])) _
  refine XS.iload X0.here hx rfl (hb hby at_214) rfl ?_
  show Steps p.tables e below (T0.setTop (mkF m 216 #[s0, s1, s2, s3, .val (.int i4), s5, .val (.int i6), s7] [(.int i4)])) _
  refine XS.iconst X0.here hx rfl (hb hby at_216) ?_
  show Steps p.tables e below (T0.setTop (mkF m 217 #[s0, s1, s2, s3, .val (.int i4), s5, .val (.int i6), s7] [(.int (2 : Int32)), (.int i4)])) _
  refine XS.isub X0.here hx rfl (hb hby at_217) rfl ?_
  show Steps p.tables e below (T0.setTop (mkF m 218 #[s0, s1, s2, s3, .val (.int i4), s5, .val (.int i6), s7] [(.int (i4 - (2 : Int32)))])) _
  refine XS.iload X0.here hx rfl (hb hby at_218) rfl ?_
  show Steps p.tables e below (T0.setTop (mkF m 220 #[s0, s1, s2, s3, .val (.int i4), s5, .val (.int i6), s7] [(.int i6), (.int (i4 - (2 : Int32)))])) _
  refine XS.icmpYes X0.here hx rfl (pc0 := 220) (pc' := 235) rfl (hb hby at_220) rfl (tlt hc220).1 (by decide) (by decide) ?_
  exact kt
set_option maxRecDepth 65536 in
set_option maxHeartbeats 40000000 in
theorem tn0_214_235_f {p : Program} {l : Launch} {e : Env} {s : State} {m : MethodId} {args : Array Value} {below : List Frame} {meth : Method} {c : Code} {T0 : State} {locs : List Loc} {Z : State} {a0 : Array Value} {h0 : Heap} (s0 : Slot) (s1 : Slot) (s2 : Slot) (o3 : Addr) (i4 : Int32) (s5 : Slot) (i6 : Int32) (s7 : Slot) (w4 : Int32) (cl_o3 : Cell)
    (X0 : Stand p l e room_1 s m args below meth c T0 locs 1 6) (hx : p.tables.exec = Jvm.exec) (hZ : Z.Warmed39 s.vm) (hw : ∀ d ∈ tables_1, d.before a0 Z = true) (hby : c.code = code) (hml : c.maxLocals = 8) (hown : s.vm.findClass "com/example/liboctet/liboctet/Utf8SplitPointPinLaw" = some m.cls) (e0 : T0.heap = h0) (n0 : Nat) (Z0 : n0 ≤ h0.size) (N0 : Fr n0 locs) (Ar_o3 : Arr Z h0 o3 cl_o3 .byte) (hin228 : ¬ ((i4 - (2 : Int32)) < 0 ∨ cl_o3.slots.size ≤ ((i4 - (2 : Int32))).toNatClampNeg)) (hat228 : cl_o3.slots[((i4 - (2 : Int32))).toNatClampNeg]? = some (.int w4)) (hc220 : ¬ ((i4 - (2 : Int32)) < i6)) (hc232 : ¬ (own_tail w4 = (0 : Int32))) :
    ∃ (T' : State) (locs' : List Loc), Stand p l e room_1 s m args below meth c T' locs' 1 6 ∧ Fr n0 locs' ∧ T'.heap = h0 ∧
      ∀ target, Steps p.tables e below (T'.setTop (mkF m 235 #[s0, s1, s2, .val (.ref o3), .val (.int i4), s5, .val (.int i6), s7] [])) target → Steps p.tables e below (T0.setTop (mkF m 214 #[s0, s1, s2, .val (.ref o3), .val (.int i4), s5, .val (.int i6), s7] [])) target := by
  obtain ⟨_, _, ⟨T5, L5, k5, n5⟩, -, X5, ⟨Lc5, hQ5, l5, y5, z5⟩, st5⟩ := Jvm.LawKit.callS X0 hx (y := (⟨"com/example/liboctet/liboctet/Utf8SplitPointPinLaw", "tail", "(B)Z"⟩ : MethodName)) hown (mvT hZ (hw _ (List.mem_of_getElem? (i := 14) rfl))) (mvT hZ (hw _ (List.mem_of_getElem? (i := 15) rfl))) (mvT hZ (hw _ (List.mem_of_getElem? (i := 16) rfl))) (mvT hZ (hw _ (List.mem_of_getElem? (i := 17) rfl))) (by decide) (backOf (W := 0) (rm4 l Z a0 hw [] w4 h0 n0 Z0) hZ (hw _ (List.mem_of_getElem? (i := 17) rfl)) (hw _ (List.mem_of_getElem? (i := 16) rfl)) (by decide) (by decide)) (g := (mkF m 229 #[s0, s1, s2, .val (.ref o3), .val (.int i4), s5, .val (.int i6), s7] [(.int w4)])) rfl (by rw [hml]; rfl) (argsL := [(.int w4)]) (rest := []) (lenOf pd_0_2 rfl) rfl (by show 2 * 0 + _ ≤ _; exact Nat.le_of_eq rfl) (hb hby at_229) (fun _ _ => ⟨rfl, e0, (by decide : 1 + 0 ≤ _), (by decide : 6 + 0 ≤ _)⟩)
  dsimp only [Pt.U, Pt.locs, Pt.cells, Pt.slots] at X5 l5 y5 z5 st5 hQ5
  subst l5 y5 z5
  obtain ⟨rfl, N5q, e5q⟩ := hQ5
  have N5 := Fr.app N0 N5q
  refine ⟨T5, _, X5, N5, e5q, fun target kt => ?_⟩
  show Steps p.tables e below (T0.setTop (mkF m 214 #[s0, s1, s2, .val (.ref o3), .val (.int i4), s5, .val (.int i6), s7] [])) _
  refine XS.iload X0.here hx rfl (hb hby at_214) rfl ?_
  show Steps p.tables e below (T0.setTop (mkF m 216 #[s0, s1, s2, .val (.ref o3), .val (.int i4), s5, .val (.int i6), s7] [(.int i4)])) _
  refine XS.iconst X0.here hx rfl (hb hby at_216) ?_
  show Steps p.tables e below (T0.setTop (mkF m 217 #[s0, s1, s2, .val (.ref o3), .val (.int i4), s5, .val (.int i6), s7] [(.int (2 : Int32)), (.int i4)])) _
  refine XS.isub X0.here hx rfl (hb hby at_217) rfl ?_
  show Steps p.tables e below (T0.setTop (mkF m 218 #[s0, s1, s2, .val (.ref o3), .val (.int i4), s5, .val (.int i6), s7] [(.int (i4 - (2 : Int32)))])) _
  refine XS.iload X0.here hx rfl (hb hby at_218) rfl ?_
  show Steps p.tables e below (T0.setTop (mkF m 220 #[s0, s1, s2, .val (.ref o3), .val (.int i4), s5, .val (.int i6), s7] [(.int i6), (.int (i4 - (2 : Int32)))])) _
  refine XS.icmpNo X0.here hx rfl (hb hby at_220) rfl (flt hc220).1 ?_
  show Steps p.tables e below (T0.setTop (mkF m 223 #[s0, s1, s2, .val (.ref o3), .val (.int i4), s5, .val (.int i6), s7] [])) _
  refine XS.aloadN X0.here hx rfl (hb hby at_223) rfl rfl ?_
  show Steps p.tables e below (T0.setTop (mkF m 224 #[s0, s1, s2, .val (.ref o3), .val (.int i4), s5, .val (.int i6), s7] [(.ref o3)])) _
  refine XS.iload X0.here hx rfl (hb hby at_224) rfl ?_
  show Steps p.tables e below (T0.setTop (mkF m 226 #[s0, s1, s2, .val (.ref o3), .val (.int i4), s5, .val (.int i6), s7] [(.int i4), (.ref o3)])) _
  refine XS.iconst X0.here hx rfl (hb hby at_226) ?_
  show Steps p.tables e below (T0.setTop (mkF m 227 #[s0, s1, s2, .val (.ref o3), .val (.int i4), s5, .val (.int i6), s7] [(.int (2 : Int32)), (.int i4), (.ref o3)])) _
  refine XS.isub X0.here hx rfl (hb hby at_227) rfl ?_
  show Steps p.tables e below (T0.setTop (mkF m 228 #[s0, s1, s2, .val (.ref o3), .val (.int i4), s5, .val (.int i6), s7] [(.int (i4 - (2 : Int32))), (.ref o3)])) _
  refine X0.baloadBytes hx (j := (i4 - (2 : Int32))) (v := (.int w4)) (by rw [e0]; exact Ar_o3.1) (State.isArrayOf_alike hZ.alike Ar_o3.2.1) Ar_o3.2.2 hin228 hat228 (g := (mkF m 228 #[s0, s1, s2, .val (.ref o3), .val (.int i4), s5, .val (.int i6), s7] [(.int (i4 - (2 : Int32))), (.ref o3)])) rfl rfl (hb hby at_228) _ ?_
  show Steps p.tables e below (T0.setTop (mkF m 229 #[s0, s1, s2, .val (.ref o3), .val (.int i4), s5, .val (.int i6), s7] [(.int w4)])) _
  refine st5 _ ?_
  show Steps p.tables e below (T5.setTop (mkF m 232 #[s0, s1, s2, .val (.ref o3), .val (.int i4), s5, .val (.int i6), s7] [(.int (own_tail w4))])) _
  refine XS.ifNo X5.here hx rfl (hb hby at_232) rfl ((if0 _ _).trans (feq (hc232 : ¬ ((own_tail w4) = (0 : Int32)))).1) ?_
  exact kt
set_option maxRecDepth 65536 in
set_option maxHeartbeats 40000000 in
theorem tn0_235_256_t {p : Program} {l : Launch} {e : Env} {s : State} {m : MethodId} {args : Array Value} {below : List Frame} {meth : Method} {c : Code} {T0 : State} {locs : List Loc} {Z : State} {a0 : Array Value} {h0 : Heap} (s0 : Slot) (s1 : Slot) (s2 : Slot) (s3 : Slot) (i4 : Int32) (s5 : Slot) (i6 : Int32) (s7 : Slot)
    (X0 : Stand p l e room_1 s m args below meth c T0 locs 1 6) (hx : p.tables.exec = Jvm.exec) (hZ : Z.Warmed39 s.vm) (hw : ∀ d ∈ tables_1, d.before a0 Z = true) (hby : c.code = code) (hml : c.maxLocals = 8) (hown : s.vm.findClass "com/example/liboctet/liboctet/Utf8SplitPointPinLaw" = some m.cls) (e0 : T0.heap = h0) (n0 : Nat) (Z0 : n0 ≤ h0.size) (N0 : Fr n0 locs) (hc241 : (i4 - (3 : Int32)) < i6) :
    ∃ (T' : State) (locs' : List Loc), Stand p l e room_1 s m args below meth c T' locs' 1 6 ∧ Fr n0 locs' ∧ T'.heap = h0 ∧
      ∀ target, Steps p.tables e below (T'.setTop (mkF m 256 #[s0, s1, s2, s3, .val (.int i4), s5, .val (.int i6), s7] [])) target → Steps p.tables e below (T0.setTop (mkF m 235 #[s0, s1, s2, s3, .val (.int i4), s5, .val (.int i6), s7] [])) target := by
  refine ⟨T0, _, X0, N0, e0, fun target kt => ?_⟩
  show Steps p.tables e below (T0.setTop (mkF m 235 #[s0, s1, s2, s3, .val (.int i4), s5, .val (.int i6), s7] [])) _
  refine XS.iload X0.here hx rfl (hb hby at_235) rfl ?_
  show Steps p.tables e below (T0.setTop (mkF m 237 #[s0, s1, s2, s3, .val (.int i4), s5, .val (.int i6), s7] [(.int i4)])) _
  refine XS.iconst X0.here hx rfl (hb hby at_237) ?_
  show Steps p.tables e below (T0.setTop (mkF m 238 #[s0, s1, s2, s3, .val (.int i4), s5, .val (.int i6), s7] [(.int (3 : Int32)), (.int i4)])) _
  refine XS.isub X0.here hx rfl (hb hby at_238) rfl ?_
  show Steps p.tables e below (T0.setTop (mkF m 239 #[s0, s1, s2, s3, .val (.int i4), s5, .val (.int i6), s7] [(.int (i4 - (3 : Int32)))])) _
  refine XS.iload X0.here hx rfl (hb hby at_239) rfl ?_
  show Steps p.tables e below (T0.setTop (mkF m 241 #[s0, s1, s2, s3, .val (.int i4), s5, .val (.int i6), s7] [(.int i6), (.int (i4 - (3 : Int32)))])) _
  refine XS.icmpYes X0.here hx rfl (pc0 := 241) (pc' := 256) rfl (hb hby at_241) rfl (tlt hc241).1 (by decide) (by decide) ?_
  exact kt
set_option maxRecDepth 65536 in
set_option maxHeartbeats 40000000 in
theorem tn0_235_256_f {p : Program} {l : Launch} {e : Env} {s : State} {m : MethodId} {args : Array Value} {below : List Frame} {meth : Method} {c : Code} {T0 : State} {locs : List Loc} {Z : State} {a0 : Array Value} {h0 : Heap} (s0 : Slot) (s1 : Slot) (s2 : Slot) (o3 : Addr) (i4 : Int32) (s5 : Slot) (i6 : Int32) (s7 : Slot) (w4 : Int32) (cl_o3 : Cell)
    (X0 : Stand p l e room_1 s m args below meth c T0 locs 1 6) (hx : p.tables.exec = Jvm.exec) (hZ : Z.Warmed39 s.vm) (hw : ∀ d ∈ tables_1, d.before a0 Z = true) (hby : c.code = code) (hml : c.maxLocals = 8) (hown : s.vm.findClass "com/example/liboctet/liboctet/Utf8SplitPointPinLaw" = some m.cls) (e0 : T0.heap = h0) (n0 : Nat) (Z0 : n0 ≤ h0.size) (N0 : Fr n0 locs) (Ar_o3 : Arr Z h0 o3 cl_o3 .byte) (hin249 : ¬ ((i4 - (3 : Int32)) < 0 ∨ cl_o3.slots.size ≤ ((i4 - (3 : Int32))).toNatClampNeg)) (hat249 : cl_o3.slots[((i4 - (3 : Int32))).toNatClampNeg]? = some (.int w4)) (hc241 : ¬ ((i4 - (3 : Int32)) < i6)) (hc253 : ¬ (own_tail w4 = (0 : Int32))) :
    ∃ (T' : State) (locs' : List Loc), Stand p l e room_1 s m args below meth c T' locs' 1 6 ∧ Fr n0 locs' ∧ T'.heap = h0 ∧
      ∀ target, Steps p.tables e below (T'.setTop (mkF m 256 #[s0, s1, s2, .val (.ref o3), .val (.int i4), s5, .val (.int i6), s7] [])) target → Steps p.tables e below (T0.setTop (mkF m 235 #[s0, s1, s2, .val (.ref o3), .val (.int i4), s5, .val (.int i6), s7] [])) target := by
  obtain ⟨_, _, ⟨T5, L5, k5, n5⟩, -, X5, ⟨Lc5, hQ5, l5, y5, z5⟩, st5⟩ := Jvm.LawKit.callS X0 hx (y := (⟨"com/example/liboctet/liboctet/Utf8SplitPointPinLaw", "tail", "(B)Z"⟩ : MethodName)) hown (mvT hZ (hw _ (List.mem_of_getElem? (i := 14) rfl))) (mvT hZ (hw _ (List.mem_of_getElem? (i := 15) rfl))) (mvT hZ (hw _ (List.mem_of_getElem? (i := 16) rfl))) (mvT hZ (hw _ (List.mem_of_getElem? (i := 17) rfl))) (by decide) (backOf (W := 0) (rm4 l Z a0 hw [] w4 h0 n0 Z0) hZ (hw _ (List.mem_of_getElem? (i := 17) rfl)) (hw _ (List.mem_of_getElem? (i := 16) rfl)) (by decide) (by decide)) (g := (mkF m 250 #[s0, s1, s2, .val (.ref o3), .val (.int i4), s5, .val (.int i6), s7] [(.int w4)])) rfl (by rw [hml]; rfl) (argsL := [(.int w4)]) (rest := []) (lenOf pd_0_2 rfl) rfl (by show 2 * 0 + _ ≤ _; exact Nat.le_of_eq rfl) (hb hby at_250) (fun _ _ => ⟨rfl, e0, (by decide : 1 + 0 ≤ _), (by decide : 6 + 0 ≤ _)⟩)
  dsimp only [Pt.U, Pt.locs, Pt.cells, Pt.slots] at X5 l5 y5 z5 st5 hQ5
  subst l5 y5 z5
  obtain ⟨rfl, N5q, e5q⟩ := hQ5
  have N5 := Fr.app N0 N5q
  refine ⟨T5, _, X5, N5, e5q, fun target kt => ?_⟩
  show Steps p.tables e below (T0.setTop (mkF m 235 #[s0, s1, s2, .val (.ref o3), .val (.int i4), s5, .val (.int i6), s7] [])) _
  refine XS.iload X0.here hx rfl (hb hby at_235) rfl ?_
  show Steps p.tables e below (T0.setTop (mkF m 237 #[s0, s1, s2, .val (.ref o3), .val (.int i4), s5, .val (.int i6), s7] [(.int i4)])) _
  refine XS.iconst X0.here hx rfl (hb hby at_237) ?_
  show Steps p.tables e below (T0.setTop (mkF m 238 #[s0, s1, s2, .val (.ref o3), .val (.int i4), s5, .val (.int i6), s7] [(.int (3 : Int32)), (.int i4)])) _
  refine XS.isub X0.here hx rfl (hb hby at_238) rfl ?_
  show Steps p.tables e below (T0.setTop (mkF m 239 #[s0, s1, s2, .val (.ref o3), .val (.int i4), s5, .val (.int i6), s7] [(.int (i4 - (3 : Int32)))])) _
  refine XS.iload X0.here hx rfl (hb hby at_239) rfl ?_
  show Steps p.tables e below (T0.setTop (mkF m 241 #[s0, s1, s2, .val (.ref o3), .val (.int i4), s5, .val (.int i6), s7] [(.int i6), (.int (i4 - (3 : Int32)))])) _
  refine XS.icmpNo X0.here hx rfl (hb hby at_241) rfl (flt hc241).1 ?_
  show Steps p.tables e below (T0.setTop (mkF m 244 #[s0, s1, s2, .val (.ref o3), .val (.int i4), s5, .val (.int i6), s7] [])) _
  refine XS.aloadN X0.here hx rfl (hb hby at_244) rfl rfl ?_
  show Steps p.tables e below (T0.setTop (mkF m 245 #[s0, s1, s2, .val (.ref o3), .val (.int i4), s5, .val (.int i6), s7] [(.ref o3)])) _
  refine XS.iload X0.here hx rfl (hb hby at_245) rfl ?_
  show Steps p.tables e below (T0.setTop (mkF m 247 #[s0, s1, s2, .val (.ref o3), .val (.int i4), s5, .val (.int i6), s7] [(.int i4), (.ref o3)])) _
  refine XS.iconst X0.here hx rfl (hb hby at_247) ?_
  show Steps p.tables e below (T0.setTop (mkF m 248 #[s0, s1, s2, .val (.ref o3), .val (.int i4), s5, .val (.int i6), s7] [(.int (3 : Int32)), (.int i4), (.ref o3)])) _
  refine XS.isub X0.here hx rfl (hb hby at_248) rfl ?_
  show Steps p.tables e below (T0.setTop (mkF m 249 #[s0, s1, s2, .val (.ref o3), .val (.int i4), s5, .val (.int i6), s7] [(.int (i4 - (3 : Int32))), (.ref o3)])) _
  refine X0.baloadBytes hx (j := (i4 - (3 : Int32))) (v := (.int w4)) (by rw [e0]; exact Ar_o3.1) (State.isArrayOf_alike hZ.alike Ar_o3.2.1) Ar_o3.2.2 hin249 hat249 (g := (mkF m 249 #[s0, s1, s2, .val (.ref o3), .val (.int i4), s5, .val (.int i6), s7] [(.int (i4 - (3 : Int32))), (.ref o3)])) rfl rfl (hb hby at_249) _ ?_
  show Steps p.tables e below (T0.setTop (mkF m 250 #[s0, s1, s2, .val (.ref o3), .val (.int i4), s5, .val (.int i6), s7] [(.int w4)])) _
  refine st5 _ ?_
  show Steps p.tables e below (T5.setTop (mkF m 253 #[s0, s1, s2, .val (.ref o3), .val (.int i4), s5, .val (.int i6), s7] [(.int (own_tail w4))])) _
  refine XS.ifNo X5.here hx rfl (hb hby at_253) rfl ((if0 _ _).trans (feq (hc253 : ¬ ((own_tail w4) = (0 : Int32)))).1) ?_
  exact kt
theorem own_open {Z : State} {h : Heap} {a : Addr} {k : ClassId} {vs : List Value} {d : Value} (V : Arv Z h a k .byte (6 : Int32) vs d) : ∃ (cl : Cell) (f : Int32 → Int32), Arr Z h a cl .byte ∧ own_arr cl f := by
  obtain ⟨cl, Ar, -, S, -, H, G⟩ := V
  refine ⟨cl, atv cl, Ar, fun j j0 j5 => ?_⟩
  have i6 : (6 : Int32).toInt = 6 := by decide
  have hin : ¬ (j < 0 ∨ cl.slots.size ≤ j.toNatClampNeg) := inb_of S ⟨by rw [own_lt, own_i0]; omega, by rw [own_lt, i6]; omega⟩
  refine ⟨hin, ?_⟩
  have hk : j.toNatClampNeg < cl.slots.size := Nat.lt_of_not_le fun y => hin (Or.inr y)
  have q := H j.toNatClampNeg hk
  obtain ⟨x, hx⟩ := fit_I (G _ hk) (Or.inr (Or.inr (Or.inl rfl)))
  rw [hx] at q
  rw [q, atv_of q]
theorem post0 {p : Program} {l : Launch} {e : Env} {s : State} {m : MethodId} {args : Array Value} {below : List Frame} {meth : Method} {c : Code} {Z : State} {a0 : Array Value} {h0 : Heap} {T0 : State} {locs : List Loc} (s0 s1 s2 : Slot) (o3 : Addr) (A : Int32) (s5 : Slot) (lo z : Int32) (f : Int32 → Int32) (cl : Cell)
    (X0 : Stand p l e room_1 s m args below meth c T0 locs 1 6) (hx : p.tables.exec = Jvm.exec) (hZ : Z.Warmed39 s.vm) (hw : ∀ d ∈ tables_1, d.before a0 Z = true) (hby : c.code = code) (hml : c.maxLocals = 8) (hown : s.vm.findClass "com/example/liboctet/liboctet/Utf8SplitPointPinLaw" = some m.cls) (e0 : T0.heap = h0) (n0 : Nat) (Z0 : n0 ≤ h0.size) (N0 : Fr n0 locs) (Ar : Arr Z h0 o3 cl .byte) (hf : own_arr cl f) (A0 : 0 ≤ A.toInt) (A5 : A.toInt ≤ 5) (l0 : 0 ≤ lo.toInt) (l3 : A.toInt - 3 ≤ lo.toInt) (lA : lo.toInt ≤ A.toInt) (sp : own_SP f lo A z) :
    ∃ (T' : State) (locs' : List Loc), Stand p l e room_1 s m args below meth c T' locs' 1 6 ∧ Fr n0 locs' ∧ T'.heap = h0 ∧
      ((∀ target, Steps p.tables e below (T'.setTop (mkF m 180 #[s0, s1, s2, .val (.ref o3), .val (.int A), s5, .val (.int lo), .val (.int z)] [])) target → Steps p.tables e below (T0.setTop (mkF m 91 #[s0, s1, s2, .val (.ref o3), .val (.int A), s5, .val (.int lo), .val (.int z)] [])) target) ∨
       (∀ target, Steps p.tables e below (T'.setTop (mkF m 256 #[s0, s1, s2, .val (.ref o3), .val (.int A), s5, .val (.int lo), .val (.int z)] [])) target → Steps p.tables e below (T0.setTop (mkF m 91 #[s0, s1, s2, .val (.ref o3), .val (.int A), s5, .val (.int lo), .val (.int z)] [])) target)) := by
  rcases sp with ⟨z1, z2, z3, z4⟩ | ⟨hzA, z4⟩
  · obtain ⟨hin, hai⟩ := hf z (by omega) (by omega)
    obtain ⟨T1, L1, X1, N1, e1, st1⟩ := tn0_91_117 s0 s1 s2 o3 A s5 lo z (f z) cl X0 hx hZ hw hby hml hown e0 n0 Z0 N0 Ar hin hai (by rw [own_lt]; omega) (by rw [own_lt]; omega) z3
    have hz1 : (z + (1 : Int32)).toInt = z.toInt + 1 := by rw [own_add z 1 (by omega) (by omega) (by decide) (by decide), own_i1]
    obtain ⟨y1, hy1⟩ : ∃ y : Int32, y = z + (1 : Int32) := ⟨_, rfl⟩
    rw [← hy1] at hz1
    obtain ⟨T2, L2, X2, N2, e2, st2⟩ : ∃ (T' : State) (locs' : List Loc), Stand p l e room_1 s m args below meth c T' locs' 1 6 ∧ Fr n0 locs' ∧ T'.heap = h0 ∧ ∀ target, Steps p.tables e below (T'.setTop (mkF m 138 #[s0, s1, s2, .val (.ref o3), .val (.int A), s5, .val (.int lo), .val (.int z)] [])) target → Steps p.tables e below (T1.setTop (mkF m 117 #[s0, s1, s2, .val (.ref o3), .val (.int A), s5, .val (.int lo), .val (.int z)] [])) target := by
      by_cases q : A < z + (1 : Int32)
      · exact tn0_117_138_t s0 s1 s2 (.val (.ref o3)) A s5 (.val (.int lo)) z X1 hx hZ hw hby hml hown e1 n0 Z0 N1 q
      · have q' := q
        rw [own_lt] at q'
        rw [← hy1] at q'
        obtain ⟨hin, hai⟩ := hf y1 (by omega) (by omega)
        have hz4 := z4 y1 (by omega) (by omega)
        rw [hy1] at hin hai hz4
        exact tn0_117_138_f s0 s1 s2 o3 A s5 (.val (.int lo)) z (f (z + (1 : Int32))) cl X1 hx hZ hw hby hml hown e1 n0 Z0 N1 Ar hin hai q hz4
    have hz2 : (z + (2 : Int32)).toInt = z.toInt + 2 := by rw [own_add z 2 (by omega) (by omega) (by decide) (by decide), own_i2]
    obtain ⟨y2, hy2⟩ : ∃ y : Int32, y = z + (2 : Int32) := ⟨_, rfl⟩
    rw [← hy2] at hz2
    obtain ⟨T3, L3, X3, N3, e3, st3⟩ : ∃ (T' : State) (locs' : List Loc), Stand p l e room_1 s m args below meth c T' locs' 1 6 ∧ Fr n0 locs' ∧ T'.heap = h0 ∧ ∀ target, Steps p.tables e below (T'.setTop (mkF m 159 #[s0, s1, s2, .val (.ref o3), .val (.int A), s5, .val (.int lo), .val (.int z)] [])) target → Steps p.tables e below (T2.setTop (mkF m 138 #[s0, s1, s2, .val (.ref o3), .val (.int A), s5, .val (.int lo), .val (.int z)] [])) target := by
      by_cases q : A < z + (2 : Int32)
      · exact tn0_138_159_t s0 s1 s2 (.val (.ref o3)) A s5 (.val (.int lo)) z X2 hx hZ hw hby hml hown e2 n0 Z0 N2 q
      · have q' := q
        rw [own_lt] at q'
        rw [← hy2] at q'
        obtain ⟨hin, hai⟩ := hf y2 (by omega) (by omega)
        have hz4 := z4 y2 (by omega) (by omega)
        rw [hy2] at hin hai hz4
        exact tn0_138_159_f s0 s1 s2 o3 A s5 (.val (.int lo)) z (f (z + (2 : Int32))) cl X2 hx hZ hw hby hml hown e2 n0 Z0 N2 Ar hin hai q hz4
    have hz3 : (z + (3 : Int32)).toInt = z.toInt + 3 := by rw [own_add z 3 (by omega) (by omega) (by decide) (by decide), own_i3]
    obtain ⟨y3, hy3⟩ : ∃ y : Int32, y = z + (3 : Int32) := ⟨_, rfl⟩
    rw [← hy3] at hz3
    obtain ⟨T4, L4, X4, N4, e4, st4⟩ : ∃ (T' : State) (locs' : List Loc), Stand p l e room_1 s m args below meth c T' locs' 1 6 ∧ Fr n0 locs' ∧ T'.heap = h0 ∧ ∀ target, Steps p.tables e below (T'.setTop (mkF m 180 #[s0, s1, s2, .val (.ref o3), .val (.int A), s5, .val (.int lo), .val (.int z)] [])) target → Steps p.tables e below (T3.setTop (mkF m 159 #[s0, s1, s2, .val (.ref o3), .val (.int A), s5, .val (.int lo), .val (.int z)] [])) target := by
      by_cases q : A < z + (3 : Int32)
      · exact tn0_159_180_t s0 s1 s2 (.val (.ref o3)) A s5 (.val (.int lo)) z X3 hx hZ hw hby hml hown e3 n0 Z0 N3 q
      · have q' := q
        rw [own_lt] at q'
        rw [← hy3] at q'
        obtain ⟨hin, hai⟩ := hf y3 (by omega) (by omega)
        have hz4 := z4 y3 (by omega) (by omega)
        rw [hy3] at hin hai hz4
        exact tn0_159_180_f s0 s1 s2 o3 A s5 (.val (.int lo)) z (f (z + (3 : Int32))) cl X3 hx hZ hw hby hml hown e3 n0 Z0 N3 Ar hin hai q hz4
    exact ⟨T4, L4, X4, N4, e4, Or.inl fun target h => st1 target (st2 target (st3 target (st4 target h)))⟩
  · have hzi : z.toInt = A.toInt := by rw [hzA]
    obtain ⟨hin, hai⟩ := hf z (by omega) (by omega)
    obtain ⟨T1, L1, X1, N1, e1, st1⟩ := tn0_91_193 s0 s1 s2 o3 A s5 lo z (f z) cl X0 hx hZ hw hby hml hown e0 n0 Z0 N0 Ar hin hai (by rw [own_lt]; omega) (by rw [own_lt]; omega) hzA (z4 z (by omega) (by omega))
    have hz1 : (A - (1 : Int32)).toInt = A.toInt - 1 := by rw [own_sub A 1 (by omega) (by omega) (by decide) (by decide), own_i1]
    obtain ⟨y1, hy1⟩ : ∃ y : Int32, y = A - (1 : Int32) := ⟨_, rfl⟩
    rw [← hy1] at hz1
    obtain ⟨T2, L2, X2, N2, e2, st2⟩ : ∃ (T' : State) (locs' : List Loc), Stand p l e room_1 s m args below meth c T' locs' 1 6 ∧ Fr n0 locs' ∧ T'.heap = h0 ∧ ∀ target, Steps p.tables e below (T'.setTop (mkF m 214 #[s0, s1, s2, .val (.ref o3), .val (.int A), s5, .val (.int lo), .val (.int z)] [])) target → Steps p.tables e below (T1.setTop (mkF m 193 #[s0, s1, s2, .val (.ref o3), .val (.int A), s5, .val (.int lo), .val (.int z)] [])) target := by
      by_cases q : A - (1 : Int32) < lo
      · exact tn0_193_214_t s0 s1 s2 (.val (.ref o3)) A s5 lo (.val (.int z)) X1 hx hZ hw hby hml hown e1 n0 Z0 N1 q
      · have q' := q
        rw [own_lt] at q'
        rw [← hy1] at q'
        obtain ⟨hin, hai⟩ := hf y1 (by omega) (by omega)
        have hz4 := z4 y1 (by omega) (by omega)
        rw [hy1] at hin hai hz4
        exact tn0_193_214_f s0 s1 s2 o3 A s5 lo (.val (.int z)) (f (A - (1 : Int32))) cl X1 hx hZ hw hby hml hown e1 n0 Z0 N1 Ar hin hai q hz4
    have hz2 : (A - (2 : Int32)).toInt = A.toInt - 2 := by rw [own_sub A 2 (by omega) (by omega) (by decide) (by decide), own_i2]
    obtain ⟨y2, hy2⟩ : ∃ y : Int32, y = A - (2 : Int32) := ⟨_, rfl⟩
    rw [← hy2] at hz2
    obtain ⟨T3, L3, X3, N3, e3, st3⟩ : ∃ (T' : State) (locs' : List Loc), Stand p l e room_1 s m args below meth c T' locs' 1 6 ∧ Fr n0 locs' ∧ T'.heap = h0 ∧ ∀ target, Steps p.tables e below (T'.setTop (mkF m 235 #[s0, s1, s2, .val (.ref o3), .val (.int A), s5, .val (.int lo), .val (.int z)] [])) target → Steps p.tables e below (T2.setTop (mkF m 214 #[s0, s1, s2, .val (.ref o3), .val (.int A), s5, .val (.int lo), .val (.int z)] [])) target := by
      by_cases q : A - (2 : Int32) < lo
      · exact tn0_214_235_t s0 s1 s2 (.val (.ref o3)) A s5 lo (.val (.int z)) X2 hx hZ hw hby hml hown e2 n0 Z0 N2 q
      · have q' := q
        rw [own_lt] at q'
        rw [← hy2] at q'
        obtain ⟨hin, hai⟩ := hf y2 (by omega) (by omega)
        have hz4 := z4 y2 (by omega) (by omega)
        rw [hy2] at hin hai hz4
        exact tn0_214_235_f s0 s1 s2 o3 A s5 lo (.val (.int z)) (f (A - (2 : Int32))) cl X2 hx hZ hw hby hml hown e2 n0 Z0 N2 Ar hin hai q hz4
    have hz3 : (A - (3 : Int32)).toInt = A.toInt - 3 := by rw [own_sub A 3 (by omega) (by omega) (by decide) (by decide), own_i3]
    obtain ⟨y3, hy3⟩ : ∃ y : Int32, y = A - (3 : Int32) := ⟨_, rfl⟩
    rw [← hy3] at hz3
    obtain ⟨T4, L4, X4, N4, e4, st4⟩ : ∃ (T' : State) (locs' : List Loc), Stand p l e room_1 s m args below meth c T' locs' 1 6 ∧ Fr n0 locs' ∧ T'.heap = h0 ∧ ∀ target, Steps p.tables e below (T'.setTop (mkF m 256 #[s0, s1, s2, .val (.ref o3), .val (.int A), s5, .val (.int lo), .val (.int z)] [])) target → Steps p.tables e below (T3.setTop (mkF m 235 #[s0, s1, s2, .val (.ref o3), .val (.int A), s5, .val (.int lo), .val (.int z)] [])) target := by
      by_cases q : A - (3 : Int32) < lo
      · exact tn0_235_256_t s0 s1 s2 (.val (.ref o3)) A s5 lo (.val (.int z)) X3 hx hZ hw hby hml hown e3 n0 Z0 N3 q
      · have q' := q
        rw [own_lt] at q'
        rw [← hy3] at q'
        obtain ⟨hin, hai⟩ := hf y3 (by omega) (by omega)
        have hz4 := z4 y3 (by omega) (by omega)
        rw [hy3] at hin hai hz4
        exact tn0_235_256_f s0 s1 s2 o3 A s5 lo (.val (.int z)) (f (A - (3 : Int32))) cl X3 hx hZ hw hby hml hown e3 n0 Z0 N3 Ar hin hai q hz4
    exact ⟨T4, L4, X4, N4, e4, Or.inr fun target h => st1 target (st2 target (st3 target (st4 target h)))⟩
theorem pn_0 : plainName "com/example/liboctet/liboctet/Utf8SplitPointPinLaw" = true := by first | (simp [plainName, overriddenIn]; done) | decide +kernel
theorem ef_0 (m : MethodId) (x0 : Int32) (x1 : Int32) (x2 : Int32) : entryFrame m #[(.int x0), (.int x1), (.int x2)] maxLocals = mkF m 0 #[.val (.int x0), .val (.int x1), .val (.int x2), .unset, .unset, .unset, .unset, .unset] [] := by first | (simp [entryFrame, mkF, argsToLocals, Value.category, maxLocals]; done) | rfl
def Q0 (Z : State) (p1 : Int32) (p2 : Int32) (p3 : Int32) (h0 : Heap) (n0 : Nat) (v : Option Value) (h : Heap) (L : List Loc) : Prop := v = some (.int (1 : Int32)) ∧ Fr n0 L
set_option maxRecDepth 65536 in
set_option maxHeartbeats 40000000 in
theorem rm0 (l : Launch) (Z : State) (a0 : Array Value) (hw : ∀ d ∈ tables_1, d.before a0 Z = true) (ws : List Jvm.Cond) (p1 : Int32) (p2 : Int32) (p3 : Int32) (h0 : Heap) (n0 : Nat) (Z0 : n0 ≤ h0.size) :
    MetFree l x (head1 (Jvm.Cond.code x code maxLocals ret :: ws) room_1) (fun a U => a = #[(.int p1), (.int p2), (.int p3)] ∧ Z.Warmed39 U.vm ∧ U.heap = h0) (fun _ _ _ _ _ => True) (fun _ U o U' => ∃ v L, o = .returned v ∧ Q0 Z p1 p2 p3 h0 n0 v U'.heap L ∧ FrameEnd U o U' L room_1.cells room_1.slots) := by
  refine MetFree.of_bodySF (plainFor_of_name pn_0) hisR ?_
  intro p e s m args below meth c s₁ Bd hml0 hP hK
  obtain ⟨rfl, hZ, hh⟩ := hP
  have hx := Bd.exec
  have hby := Bd.bytes
  have hml : c.maxLocals = 8 := hml0
  have hown : s.vm.findClass "com/example/liboctet/liboctet/Utf8SplitPointPinLaw" = some m.cls := findClass_of_methodNamed Bd.named
  have hnm := (name_of_methodNamed Bd.named Bd.method).1
  have X0 : Stand p l e room_1 s m #[(.int p1), (.int p2), (.int p3)] below meth c s₁ [] 0 0 := Stand.of_body Bd
  have e0 : s₁.heap = h0 := by rw [← hh, Bd.state]; rfl
  have N0 := Fr.nil n0
  have pre0 : ∀ t, Steps p.tables e below (s₁.setTop (mkF m 0 #[.val (.int p1), .val (.int p2), .val (.int p3), .unset, .unset, .unset, .unset, .unset] [])) t → Steps p.tables e below (s₁.setTop (entryFrame m #[(.int p1), (.int p2), (.int p3)] maxLocals)) t := fun t k => castTop (ef_0 m p1 p2 p3) k
  obtain ⟨T4, h4, k4, X4, e4, E4, A4, st4⟩ := newP X0 hx hZ (hw _ (List.mem_of_getElem? (i := 0) rfl)) e0 (g := (mkF m 2 #[.val (.int p1), .val (.int p2), .val (.int p3), .unset, .unset, .unset, .unset, .unset] [(.int (6 : Int32))])) rfl (hb hby at_2) rfl (by decide) (cap := 6) (by decide) (by decide) (by decide) (by decide)
  obtain ⟨b4, g4⟩ : ∃ z, z = h0.size := ⟨_, rfl⟩
  rw [← g4] at A4 st4
  have V_b4 : Arv Z h4 b4 k4 .byte (6 : Int32) [(.int (0 : Int32)), (.int (0 : Int32)), (.int (0 : Int32)), (.int (0 : Int32)), (.int (0 : Int32)), (.int (0 : Int32))] (.int (0 : Int32)) := (Arv.new A4 (by decide)).pad (pad_rep [] (.int (0 : Int32)) 6)
  have g_b4 : n0 ≤ b4 := Nat.le_trans Z0 (Nat.le_of_eq g4.symm)
  have sz_b4 : h0.size ≤ b4 := (Nat.le_trans (Keep.refl h0 []).1 (Nat.le_of_eq g4.symm))
  have K4 : Keep h0 h4 [] := (Keep.refl h0 []).ext E4
  obtain ⟨cl_b4_9, Ar_b4, q_b4, S_b4, N_b4, H_b4, G_b4⟩ := V_b4
  have hin9 : ¬ ((0 : Int32) < 0 ∨ cl_b4_9.slots.size ≤ ((0 : Int32)).toNatClampNeg) := inb_of S_b4 ⟨by decide, by decide⟩
  obtain ⟨T5, h5, X5, e5, W5, st5⟩ := stB X4 hx hZ e4 Ar_b4 (j := (0 : Int32)) hin9 (g := (mkF m 9 #[.val (.int p1), .val (.int p2), .val (.int p3), .val (.ref b4), .unset, .unset, .unset, .unset] [(.int (p1.toInt8.toInt32)), (.int (0 : Int32)), (.ref b4)])) rfl rfl (hb hby at_9)
  have V_b4_5 := Arv.set Ar_b4 q_b4 S_b4 N_b4 H_b4 G_b4 (fits_nar_byte _) W5 0 rfl (Nat.le_of_ble_eq_true rfl)
  have K5 : Keep h0 h5 [] := K4.wr W5 (Or.inr sz_b4)
  have N5 := Fr.snoc X5 N0 g_b4
  obtain ⟨cl_b4_17, Ar_b4, q_b4, S_b4, N_b4, H_b4, G_b4⟩ := V_b4_5
  have hin17 : ¬ ((1 : Int32) < 0 ∨ cl_b4_17.slots.size ≤ ((1 : Int32)).toNatClampNeg) := inb_of S_b4 ⟨by decide, by decide⟩
  obtain ⟨T6, h6, X6, e6, W6, st6⟩ := stB X5 hx hZ e5 Ar_b4 (j := (1 : Int32)) hin17 (g := (mkF m 17 #[.val (.int p1), .val (.int p2), .val (.int p3), .val (.ref b4), .unset, .unset, .unset, .unset] [(.int (((p1.toUInt32 >>> ((8 : Int32) &&& 31).toUInt32).toInt32).toInt8.toInt32)), (.int (1 : Int32)), (.ref b4)])) rfl rfl (hb hby at_17)
  have V_b4_6 := Arv.set Ar_b4 q_b4 S_b4 N_b4 H_b4 G_b4 (fits_nar_byte _) W6 1 rfl (Nat.le_of_ble_eq_true rfl)
  have K6 : Keep h0 h6 [] := K5.wr W6 (Or.inr sz_b4)
  have N6 := Fr.snoc X6 N5 g_b4
  obtain ⟨cl_b4_25, Ar_b4, q_b4, S_b4, N_b4, H_b4, G_b4⟩ := V_b4_6
  have hin25 : ¬ ((2 : Int32) < 0 ∨ cl_b4_25.slots.size ≤ ((2 : Int32)).toNatClampNeg) := inb_of S_b4 ⟨by decide, by decide⟩
  obtain ⟨T7, h7, X7, e7, W7, st7⟩ := stB X6 hx hZ e6 Ar_b4 (j := (2 : Int32)) hin25 (g := (mkF m 25 #[.val (.int p1), .val (.int p2), .val (.int p3), .val (.ref b4), .unset, .unset, .unset, .unset] [(.int (((p1.toUInt32 >>> ((16 : Int32) &&& 31).toUInt32).toInt32).toInt8.toInt32)), (.int (2 : Int32)), (.ref b4)])) rfl rfl (hb hby at_25)
  have V_b4_7 := Arv.set Ar_b4 q_b4 S_b4 N_b4 H_b4 G_b4 (fits_nar_byte _) W7 2 rfl (Nat.le_of_ble_eq_true rfl)
  have K7 : Keep h0 h7 [] := K6.wr W7 (Or.inr sz_b4)
  have N7 := Fr.snoc X7 N6 g_b4
  obtain ⟨cl_b4_33, Ar_b4, q_b4, S_b4, N_b4, H_b4, G_b4⟩ := V_b4_7
  have hin33 : ¬ ((3 : Int32) < 0 ∨ cl_b4_33.slots.size ≤ ((3 : Int32)).toNatClampNeg) := inb_of S_b4 ⟨by decide, by decide⟩
  obtain ⟨T8, h8, X8, e8, W8, st8⟩ := stB X7 hx hZ e7 Ar_b4 (j := (3 : Int32)) hin33 (g := (mkF m 33 #[.val (.int p1), .val (.int p2), .val (.int p3), .val (.ref b4), .unset, .unset, .unset, .unset] [(.int (((p1.toUInt32 >>> ((24 : Int32) &&& 31).toUInt32).toInt32).toInt8.toInt32)), (.int (3 : Int32)), (.ref b4)])) rfl rfl (hb hby at_33)
  have V_b4_8 := Arv.set Ar_b4 q_b4 S_b4 N_b4 H_b4 G_b4 (fits_nar_byte _) W8 3 rfl (Nat.le_of_ble_eq_true rfl)
  have K8 : Keep h0 h8 [] := K7.wr W8 (Or.inr sz_b4)
  have N8 := Fr.snoc X8 N7 g_b4
  obtain ⟨cl_b4_38, Ar_b4, q_b4, S_b4, N_b4, H_b4, G_b4⟩ := V_b4_8
  have hin38 : ¬ ((4 : Int32) < 0 ∨ cl_b4_38.slots.size ≤ ((4 : Int32)).toNatClampNeg) := inb_of S_b4 ⟨by decide, by decide⟩
  obtain ⟨T9, h9, X9, e9, W9, st9⟩ := stB X8 hx hZ e8 Ar_b4 (j := (4 : Int32)) hin38 (g := (mkF m 38 #[.val (.int p1), .val (.int p2), .val (.int p3), .val (.ref b4), .unset, .unset, .unset, .unset] [(.int (p2.toInt8.toInt32)), (.int (4 : Int32)), (.ref b4)])) rfl rfl (hb hby at_38)
  have V_b4_9 := Arv.set Ar_b4 q_b4 S_b4 N_b4 H_b4 G_b4 (fits_nar_byte _) W9 4 rfl (Nat.le_of_ble_eq_true rfl)
  have K9 : Keep h0 h9 [] := K8.wr W9 (Or.inr sz_b4)
  have N9 := Fr.snoc X9 N8 g_b4
  obtain ⟨cl_b4_46, Ar_b4, q_b4, S_b4, N_b4, H_b4, G_b4⟩ := V_b4_9
  have hin46 : ¬ ((5 : Int32) < 0 ∨ cl_b4_46.slots.size ≤ ((5 : Int32)).toNatClampNeg) := inb_of S_b4 ⟨by decide, by decide⟩
  obtain ⟨T10, h10, X10, e10, W10, st10⟩ := stB X9 hx hZ e9 Ar_b4 (j := (5 : Int32)) hin46 (g := (mkF m 46 #[.val (.int p1), .val (.int p2), .val (.int p3), .val (.ref b4), .unset, .unset, .unset, .unset] [(.int (((p2.toUInt32 >>> ((8 : Int32) &&& 31).toUInt32).toInt32).toInt8.toInt32)), (.int (5 : Int32)), (.ref b4)])) rfl rfl (hb hby at_46)
  have V_b4_10 := Arv.set Ar_b4 q_b4 S_b4 N_b4 H_b4 G_b4 (fits_nar_byte _) W10 5 rfl (Nat.le_of_ble_eq_true rfl)
  have K10 : Keep h0 h10 [] := K9.wr W10 (Or.inr sz_b4)
  have N10 := Fr.snoc X10 N9 g_b4
  obtain ⟨cl, f, Ar, hf⟩ := own_open V_b4_10
  have Z10 : n0 ≤ h10.size := Nat.le_trans Z0 K10.1
  obtain ⟨A0, A5⟩ := own_A p3
  obtain ⟨T11, L11, X11, N11, e11, st11⟩ := tn0_47_70 (.val (.int p1)) (.val (.int p2)) p3 (.val (.ref b4)) .unset .unset .unset .unset X10 hx hZ hw hby hml hown e10 n0 Z10 N10 One.u One.u (by decide) (own_nz _ A0 A5)
  obtain ⟨F0, FA⟩ := own_F ((p3.toUInt32 >>> ((8 : Int32) &&& 31).toUInt32).toInt32) ((p3 &&& (2147483647 : Int32)) % (6 : Int32)) A0 A5
  obtain ⟨T12, L12, z, X12, N12, e12, sp, st12⟩ := tn0_70_91 (.val (.int p1)) (.val (.int p2)) (.val (.int p3)) b4 ((p3 &&& (2147483647 : Int32)) % (6 : Int32)) ((((p3.toUInt32 >>> ((8 : Int32) &&& 31).toUInt32).toInt32) &&& (2147483647 : Int32)) % (((p3 &&& (2147483647 : Int32)) % (6 : Int32)) + (1 : Int32))) .unset .unset X11 hx hZ hw hby hml hown e11 n0 Z10 N11 One.u One.u f cl Ar hf F0 FA A5
  obtain ⟨l0, l3, lA⟩ := own_lo ((((p3.toUInt32 >>> ((8 : Int32) &&& 31).toUInt32).toInt32) &&& (2147483647 : Int32)) % (((p3 &&& (2147483647 : Int32)) % (6 : Int32)) + (1 : Int32))) ((p3 &&& (2147483647 : Int32)) % (6 : Int32)) F0 FA A5
  obtain ⟨T13, L13, X13, N13, e13, fin⟩ := post0 (.val (.int p1)) (.val (.int p2)) (.val (.int p3)) b4 ((p3 &&& (2147483647 : Int32)) % (6 : Int32)) (.val (.int ((((p3.toUInt32 >>> ((8 : Int32) &&& 31).toUInt32).toInt32) &&& (2147483647 : Int32)) % (((p3 &&& (2147483647 : Int32)) % (6 : Int32)) + (1 : Int32))))) (own_max ((((p3.toUInt32 >>> ((8 : Int32) &&& 31).toUInt32).toInt32) &&& (2147483647 : Int32)) % (((p3 &&& (2147483647 : Int32)) % (6 : Int32)) + (1 : Int32))) (((p3 &&& (2147483647 : Int32)) % (6 : Int32)) - (3 : Int32))) z f cl X12 hx hZ hw hby hml hown e12 n0 Z10 N12 Ar hf A0 A5 l0 l3 lA sp
  rcases fin with st13 | st13
  · obtain ⟨fs, hr, hrun, hended, hW, hsame⟩ := X13.leave (v := some (.int (1 : Int32))) (fun h => by rw [Bd.returns] at h; cases h)
    refine ⟨_, _, pre0 _ ?_, hrun, hended, _, _, rfl, ?_, ⟨_, rfl⟩, hW, hsame.mono (by decide) (by decide)⟩
    · show Steps p.tables e below (s₁.setTop (mkF m 0 #[.val (.int p1), .val (.int p2), .val (.int p3), .unset, .unset, .unset, .unset, .unset] [])) _
      refine XS.bipush X0.here hx rfl (hb hby at_0) ?_
      show Steps p.tables e below (s₁.setTop (mkF m 2 #[.val (.int p1), .val (.int p2), .val (.int p3), .unset, .unset, .unset, .unset, .unset] [(.int (6 : Int32))])) _
      refine st4 _ ?_
      show Steps p.tables e below (T4.setTop (mkF m 4 #[.val (.int p1), .val (.int p2), .val (.int p3), .unset, .unset, .unset, .unset, .unset] [(.ref b4)])) _
      refine XS.astoreN X4.here hx rfl (hb hby at_4) rfl rfl (l' := #[.val (.int p1), .val (.int p2), .val (.int p3), .val (.ref b4), .unset, .unset, .unset, .unset]) rfl ?_
      show Steps p.tables e below (T4.setTop (mkF m 5 #[.val (.int p1), .val (.int p2), .val (.int p3), .val (.ref b4), .unset, .unset, .unset, .unset] [])) _
      refine XS.aloadN X4.here hx rfl (hb hby at_5) rfl rfl ?_
      show Steps p.tables e below (T4.setTop (mkF m 6 #[.val (.int p1), .val (.int p2), .val (.int p3), .val (.ref b4), .unset, .unset, .unset, .unset] [(.ref b4)])) _
      refine XS.iconst X4.here hx rfl (hb hby at_6) ?_
      show Steps p.tables e below (T4.setTop (mkF m 7 #[.val (.int p1), .val (.int p2), .val (.int p3), .val (.ref b4), .unset, .unset, .unset, .unset] [(.int (0 : Int32)), (.ref b4)])) _
      refine XS.iloadN X4.here hx rfl (hb hby at_7) rfl ?_
      show Steps p.tables e below (T4.setTop (mkF m 8 #[.val (.int p1), .val (.int p2), .val (.int p3), .val (.ref b4), .unset, .unset, .unset, .unset] [(.int p1), (.int (0 : Int32)), (.ref b4)])) _
      refine XS.i2b X4.here hx rfl (hb hby at_8) rfl ?_
      show Steps p.tables e below (T4.setTop (mkF m 9 #[.val (.int p1), .val (.int p2), .val (.int p3), .val (.ref b4), .unset, .unset, .unset, .unset] [(.int (p1.toInt8.toInt32)), (.int (0 : Int32)), (.ref b4)])) _
      refine st5 _ ?_
      show Steps p.tables e below (T5.setTop (mkF m 10 #[.val (.int p1), .val (.int p2), .val (.int p3), .val (.ref b4), .unset, .unset, .unset, .unset] [])) _
      refine XS.aloadN X5.here hx rfl (hb hby at_10) rfl rfl ?_
      show Steps p.tables e below (T5.setTop (mkF m 11 #[.val (.int p1), .val (.int p2), .val (.int p3), .val (.ref b4), .unset, .unset, .unset, .unset] [(.ref b4)])) _
      refine XS.iconst X5.here hx rfl (hb hby at_11) ?_
      show Steps p.tables e below (T5.setTop (mkF m 12 #[.val (.int p1), .val (.int p2), .val (.int p3), .val (.ref b4), .unset, .unset, .unset, .unset] [(.int (1 : Int32)), (.ref b4)])) _
      refine XS.iloadN X5.here hx rfl (hb hby at_12) rfl ?_
      show Steps p.tables e below (T5.setTop (mkF m 13 #[.val (.int p1), .val (.int p2), .val (.int p3), .val (.ref b4), .unset, .unset, .unset, .unset] [(.int p1), (.int (1 : Int32)), (.ref b4)])) _
      refine XS.bipush X5.here hx rfl (hb hby at_13) ?_
      show Steps p.tables e below (T5.setTop (mkF m 15 #[.val (.int p1), .val (.int p2), .val (.int p3), .val (.ref b4), .unset, .unset, .unset, .unset] [(.int (8 : Int32)), (.int p1), (.int (1 : Int32)), (.ref b4)])) _
      refine XS.iushr X5.here hx rfl (hb hby at_15) rfl ?_
      show Steps p.tables e below (T5.setTop (mkF m 16 #[.val (.int p1), .val (.int p2), .val (.int p3), .val (.ref b4), .unset, .unset, .unset, .unset] [(.int ((p1.toUInt32 >>> ((8 : Int32) &&& 31).toUInt32).toInt32)), (.int (1 : Int32)), (.ref b4)])) _
      refine XS.i2b X5.here hx rfl (hb hby at_16) rfl ?_
      show Steps p.tables e below (T5.setTop (mkF m 17 #[.val (.int p1), .val (.int p2), .val (.int p3), .val (.ref b4), .unset, .unset, .unset, .unset] [(.int (((p1.toUInt32 >>> ((8 : Int32) &&& 31).toUInt32).toInt32).toInt8.toInt32)), (.int (1 : Int32)), (.ref b4)])) _
      refine st6 _ ?_
      show Steps p.tables e below (T6.setTop (mkF m 18 #[.val (.int p1), .val (.int p2), .val (.int p3), .val (.ref b4), .unset, .unset, .unset, .unset] [])) _
      refine XS.aloadN X6.here hx rfl (hb hby at_18) rfl rfl ?_
      show Steps p.tables e below (T6.setTop (mkF m 19 #[.val (.int p1), .val (.int p2), .val (.int p3), .val (.ref b4), .unset, .unset, .unset, .unset] [(.ref b4)])) _
      refine XS.iconst X6.here hx rfl (hb hby at_19) ?_
      show Steps p.tables e below (T6.setTop (mkF m 20 #[.val (.int p1), .val (.int p2), .val (.int p3), .val (.ref b4), .unset, .unset, .unset, .unset] [(.int (2 : Int32)), (.ref b4)])) _
      refine XS.iloadN X6.here hx rfl (hb hby at_20) rfl ?_
      show Steps p.tables e below (T6.setTop (mkF m 21 #[.val (.int p1), .val (.int p2), .val (.int p3), .val (.ref b4), .unset, .unset, .unset, .unset] [(.int p1), (.int (2 : Int32)), (.ref b4)])) _
      refine XS.bipush X6.here hx rfl (hb hby at_21) ?_
      show Steps p.tables e below (T6.setTop (mkF m 23 #[.val (.int p1), .val (.int p2), .val (.int p3), .val (.ref b4), .unset, .unset, .unset, .unset] [(.int (16 : Int32)), (.int p1), (.int (2 : Int32)), (.ref b4)])) _
      refine XS.iushr X6.here hx rfl (hb hby at_23) rfl ?_
      show Steps p.tables e below (T6.setTop (mkF m 24 #[.val (.int p1), .val (.int p2), .val (.int p3), .val (.ref b4), .unset, .unset, .unset, .unset] [(.int ((p1.toUInt32 >>> ((16 : Int32) &&& 31).toUInt32).toInt32)), (.int (2 : Int32)), (.ref b4)])) _
      refine XS.i2b X6.here hx rfl (hb hby at_24) rfl ?_
      show Steps p.tables e below (T6.setTop (mkF m 25 #[.val (.int p1), .val (.int p2), .val (.int p3), .val (.ref b4), .unset, .unset, .unset, .unset] [(.int (((p1.toUInt32 >>> ((16 : Int32) &&& 31).toUInt32).toInt32).toInt8.toInt32)), (.int (2 : Int32)), (.ref b4)])) _
      refine st7 _ ?_
      show Steps p.tables e below (T7.setTop (mkF m 26 #[.val (.int p1), .val (.int p2), .val (.int p3), .val (.ref b4), .unset, .unset, .unset, .unset] [])) _
      refine XS.aloadN X7.here hx rfl (hb hby at_26) rfl rfl ?_
      show Steps p.tables e below (T7.setTop (mkF m 27 #[.val (.int p1), .val (.int p2), .val (.int p3), .val (.ref b4), .unset, .unset, .unset, .unset] [(.ref b4)])) _
      refine XS.iconst X7.here hx rfl (hb hby at_27) ?_
      show Steps p.tables e below (T7.setTop (mkF m 28 #[.val (.int p1), .val (.int p2), .val (.int p3), .val (.ref b4), .unset, .unset, .unset, .unset] [(.int (3 : Int32)), (.ref b4)])) _
      refine XS.iloadN X7.here hx rfl (hb hby at_28) rfl ?_
      show Steps p.tables e below (T7.setTop (mkF m 29 #[.val (.int p1), .val (.int p2), .val (.int p3), .val (.ref b4), .unset, .unset, .unset, .unset] [(.int p1), (.int (3 : Int32)), (.ref b4)])) _
      refine XS.bipush X7.here hx rfl (hb hby at_29) ?_
      show Steps p.tables e below (T7.setTop (mkF m 31 #[.val (.int p1), .val (.int p2), .val (.int p3), .val (.ref b4), .unset, .unset, .unset, .unset] [(.int (24 : Int32)), (.int p1), (.int (3 : Int32)), (.ref b4)])) _
      refine XS.iushr X7.here hx rfl (hb hby at_31) rfl ?_
      show Steps p.tables e below (T7.setTop (mkF m 32 #[.val (.int p1), .val (.int p2), .val (.int p3), .val (.ref b4), .unset, .unset, .unset, .unset] [(.int ((p1.toUInt32 >>> ((24 : Int32) &&& 31).toUInt32).toInt32)), (.int (3 : Int32)), (.ref b4)])) _
      refine XS.i2b X7.here hx rfl (hb hby at_32) rfl ?_
      show Steps p.tables e below (T7.setTop (mkF m 33 #[.val (.int p1), .val (.int p2), .val (.int p3), .val (.ref b4), .unset, .unset, .unset, .unset] [(.int (((p1.toUInt32 >>> ((24 : Int32) &&& 31).toUInt32).toInt32).toInt8.toInt32)), (.int (3 : Int32)), (.ref b4)])) _
      refine st8 _ ?_
      show Steps p.tables e below (T8.setTop (mkF m 34 #[.val (.int p1), .val (.int p2), .val (.int p3), .val (.ref b4), .unset, .unset, .unset, .unset] [])) _
      refine XS.aloadN X8.here hx rfl (hb hby at_34) rfl rfl ?_
      show Steps p.tables e below (T8.setTop (mkF m 35 #[.val (.int p1), .val (.int p2), .val (.int p3), .val (.ref b4), .unset, .unset, .unset, .unset] [(.ref b4)])) _
      refine XS.iconst X8.here hx rfl (hb hby at_35) ?_
      show Steps p.tables e below (T8.setTop (mkF m 36 #[.val (.int p1), .val (.int p2), .val (.int p3), .val (.ref b4), .unset, .unset, .unset, .unset] [(.int (4 : Int32)), (.ref b4)])) _
      refine XS.iloadN X8.here hx rfl (hb hby at_36) rfl ?_
      show Steps p.tables e below (T8.setTop (mkF m 37 #[.val (.int p1), .val (.int p2), .val (.int p3), .val (.ref b4), .unset, .unset, .unset, .unset] [(.int p2), (.int (4 : Int32)), (.ref b4)])) _
      refine XS.i2b X8.here hx rfl (hb hby at_37) rfl ?_
      show Steps p.tables e below (T8.setTop (mkF m 38 #[.val (.int p1), .val (.int p2), .val (.int p3), .val (.ref b4), .unset, .unset, .unset, .unset] [(.int (p2.toInt8.toInt32)), (.int (4 : Int32)), (.ref b4)])) _
      refine st9 _ ?_
      show Steps p.tables e below (T9.setTop (mkF m 39 #[.val (.int p1), .val (.int p2), .val (.int p3), .val (.ref b4), .unset, .unset, .unset, .unset] [])) _
      refine XS.aloadN X9.here hx rfl (hb hby at_39) rfl rfl ?_
      show Steps p.tables e below (T9.setTop (mkF m 40 #[.val (.int p1), .val (.int p2), .val (.int p3), .val (.ref b4), .unset, .unset, .unset, .unset] [(.ref b4)])) _
      refine XS.iconst X9.here hx rfl (hb hby at_40) ?_
      show Steps p.tables e below (T9.setTop (mkF m 41 #[.val (.int p1), .val (.int p2), .val (.int p3), .val (.ref b4), .unset, .unset, .unset, .unset] [(.int (5 : Int32)), (.ref b4)])) _
      refine XS.iloadN X9.here hx rfl (hb hby at_41) rfl ?_
      show Steps p.tables e below (T9.setTop (mkF m 42 #[.val (.int p1), .val (.int p2), .val (.int p3), .val (.ref b4), .unset, .unset, .unset, .unset] [(.int p2), (.int (5 : Int32)), (.ref b4)])) _
      refine XS.bipush X9.here hx rfl (hb hby at_42) ?_
      show Steps p.tables e below (T9.setTop (mkF m 44 #[.val (.int p1), .val (.int p2), .val (.int p3), .val (.ref b4), .unset, .unset, .unset, .unset] [(.int (8 : Int32)), (.int p2), (.int (5 : Int32)), (.ref b4)])) _
      refine XS.iushr X9.here hx rfl (hb hby at_44) rfl ?_
      show Steps p.tables e below (T9.setTop (mkF m 45 #[.val (.int p1), .val (.int p2), .val (.int p3), .val (.ref b4), .unset, .unset, .unset, .unset] [(.int ((p2.toUInt32 >>> ((8 : Int32) &&& 31).toUInt32).toInt32)), (.int (5 : Int32)), (.ref b4)])) _
      refine XS.i2b X9.here hx rfl (hb hby at_45) rfl ?_
      show Steps p.tables e below (T9.setTop (mkF m 46 #[.val (.int p1), .val (.int p2), .val (.int p3), .val (.ref b4), .unset, .unset, .unset, .unset] [(.int (((p2.toUInt32 >>> ((8 : Int32) &&& 31).toUInt32).toInt32).toInt8.toInt32)), (.int (5 : Int32)), (.ref b4)])) _
      refine st10 _ ?_
      show Steps p.tables e below (T10.setTop (mkF m 47 #[.val (.int p1), .val (.int p2), .val (.int p3), .val (.ref b4), .unset, .unset, .unset, .unset] [])) _
      refine st11 _ (st12 _ (st13 _ ?_))
      show Steps p.tables e below (T13.setTop (mkF m 180 #[.val (.int p1), .val (.int p2), .val (.int p3), .val (.ref b4), .val (.int ((p3 &&& (2147483647 : Int32)) % (6 : Int32))), .val (.int ((((p3.toUInt32 >>> ((8 : Int32) &&& 31).toUInt32).toInt32) &&& (2147483647 : Int32)) % (((p3 &&& (2147483647 : Int32)) % (6 : Int32)) + (1 : Int32)))), .val (.int (own_max ((((p3.toUInt32 >>> ((8 : Int32) &&& 31).toUInt32).toInt32) &&& (2147483647 : Int32)) % (((p3 &&& (2147483647 : Int32)) % (6 : Int32)) + (1 : Int32))) (((p3 &&& (2147483647 : Int32)) % (6 : Int32)) - (3 : Int32)))), .val (.int z)] [])) _
      refine XS.iconst X13.here hx rfl (hb hby at_180) ?_
      show Steps p.tables e below (T13.setTop (mkF m 181 #[.val (.int p1), .val (.int p2), .val (.int p3), .val (.ref b4), .val (.int ((p3 &&& (2147483647 : Int32)) % (6 : Int32))), .val (.int ((((p3.toUInt32 >>> ((8 : Int32) &&& 31).toUInt32).toInt32) &&& (2147483647 : Int32)) % (((p3 &&& (2147483647 : Int32)) % (6 : Int32)) + (1 : Int32)))), .val (.int (own_max ((((p3.toUInt32 >>> ((8 : Int32) &&& 31).toUInt32).toInt32) &&& (2147483647 : Int32)) % (((p3 &&& (2147483647 : Int32)) % (6 : Int32)) + (1 : Int32))) (((p3 &&& (2147483647 : Int32)) % (6 : Int32)) - (3 : Int32)))), .val (.int z)] [(.int (1 : Int32))])) _
      refine XS.goto X13.here hx rfl (pc0 := 181) (pc' := 185) rfl (hb hby at_181) (by decide) (by decide) ?_
      show Steps p.tables e below (T13.setTop (mkF m 185 #[.val (.int p1), .val (.int p2), .val (.int p3), .val (.ref b4), .val (.int ((p3 &&& (2147483647 : Int32)) % (6 : Int32))), .val (.int ((((p3.toUInt32 >>> ((8 : Int32) &&& 31).toUInt32).toInt32) &&& (2147483647 : Int32)) % (((p3 &&& (2147483647 : Int32)) % (6 : Int32)) + (1 : Int32)))), .val (.int (own_max ((((p3.toUInt32 >>> ((8 : Int32) &&& 31).toUInt32).toInt32) &&& (2147483647 : Int32)) % (((p3 &&& (2147483647 : Int32)) % (6 : Int32)) + (1 : Int32))) (((p3 &&& (2147483647 : Int32)) % (6 : Int32)) - (3 : Int32)))), .val (.int z)] [(.int (1 : Int32))])) _
      exact retN X13 hx (t := .boolean) Bd.returns (by simp) (hb hby at_185) hr
    · show Q0 Z p1 p2 p3 h0 n0 _ T13.heap _
      exact ⟨rfl, N13⟩
  · obtain ⟨fs, hr, hrun, hended, hW, hsame⟩ := X13.leave (v := some (.int (1 : Int32))) (fun h => by rw [Bd.returns] at h; cases h)
    refine ⟨_, _, pre0 _ ?_, hrun, hended, _, _, rfl, ?_, ⟨_, rfl⟩, hW, hsame.mono (by decide) (by decide)⟩
    · show Steps p.tables e below (s₁.setTop (mkF m 0 #[.val (.int p1), .val (.int p2), .val (.int p3), .unset, .unset, .unset, .unset, .unset] [])) _
      refine XS.bipush X0.here hx rfl (hb hby at_0) ?_
      show Steps p.tables e below (s₁.setTop (mkF m 2 #[.val (.int p1), .val (.int p2), .val (.int p3), .unset, .unset, .unset, .unset, .unset] [(.int (6 : Int32))])) _
      refine st4 _ ?_
      show Steps p.tables e below (T4.setTop (mkF m 4 #[.val (.int p1), .val (.int p2), .val (.int p3), .unset, .unset, .unset, .unset, .unset] [(.ref b4)])) _
      refine XS.astoreN X4.here hx rfl (hb hby at_4) rfl rfl (l' := #[.val (.int p1), .val (.int p2), .val (.int p3), .val (.ref b4), .unset, .unset, .unset, .unset]) rfl ?_
      show Steps p.tables e below (T4.setTop (mkF m 5 #[.val (.int p1), .val (.int p2), .val (.int p3), .val (.ref b4), .unset, .unset, .unset, .unset] [])) _
      refine XS.aloadN X4.here hx rfl (hb hby at_5) rfl rfl ?_
      show Steps p.tables e below (T4.setTop (mkF m 6 #[.val (.int p1), .val (.int p2), .val (.int p3), .val (.ref b4), .unset, .unset, .unset, .unset] [(.ref b4)])) _
      refine XS.iconst X4.here hx rfl (hb hby at_6) ?_
      show Steps p.tables e below (T4.setTop (mkF m 7 #[.val (.int p1), .val (.int p2), .val (.int p3), .val (.ref b4), .unset, .unset, .unset, .unset] [(.int (0 : Int32)), (.ref b4)])) _
      refine XS.iloadN X4.here hx rfl (hb hby at_7) rfl ?_
      show Steps p.tables e below (T4.setTop (mkF m 8 #[.val (.int p1), .val (.int p2), .val (.int p3), .val (.ref b4), .unset, .unset, .unset, .unset] [(.int p1), (.int (0 : Int32)), (.ref b4)])) _
      refine XS.i2b X4.here hx rfl (hb hby at_8) rfl ?_
      show Steps p.tables e below (T4.setTop (mkF m 9 #[.val (.int p1), .val (.int p2), .val (.int p3), .val (.ref b4), .unset, .unset, .unset, .unset] [(.int (p1.toInt8.toInt32)), (.int (0 : Int32)), (.ref b4)])) _
      refine st5 _ ?_
      show Steps p.tables e below (T5.setTop (mkF m 10 #[.val (.int p1), .val (.int p2), .val (.int p3), .val (.ref b4), .unset, .unset, .unset, .unset] [])) _
      refine XS.aloadN X5.here hx rfl (hb hby at_10) rfl rfl ?_
      show Steps p.tables e below (T5.setTop (mkF m 11 #[.val (.int p1), .val (.int p2), .val (.int p3), .val (.ref b4), .unset, .unset, .unset, .unset] [(.ref b4)])) _
      refine XS.iconst X5.here hx rfl (hb hby at_11) ?_
      show Steps p.tables e below (T5.setTop (mkF m 12 #[.val (.int p1), .val (.int p2), .val (.int p3), .val (.ref b4), .unset, .unset, .unset, .unset] [(.int (1 : Int32)), (.ref b4)])) _
      refine XS.iloadN X5.here hx rfl (hb hby at_12) rfl ?_
      show Steps p.tables e below (T5.setTop (mkF m 13 #[.val (.int p1), .val (.int p2), .val (.int p3), .val (.ref b4), .unset, .unset, .unset, .unset] [(.int p1), (.int (1 : Int32)), (.ref b4)])) _
      refine XS.bipush X5.here hx rfl (hb hby at_13) ?_
      show Steps p.tables e below (T5.setTop (mkF m 15 #[.val (.int p1), .val (.int p2), .val (.int p3), .val (.ref b4), .unset, .unset, .unset, .unset] [(.int (8 : Int32)), (.int p1), (.int (1 : Int32)), (.ref b4)])) _
      refine XS.iushr X5.here hx rfl (hb hby at_15) rfl ?_
      show Steps p.tables e below (T5.setTop (mkF m 16 #[.val (.int p1), .val (.int p2), .val (.int p3), .val (.ref b4), .unset, .unset, .unset, .unset] [(.int ((p1.toUInt32 >>> ((8 : Int32) &&& 31).toUInt32).toInt32)), (.int (1 : Int32)), (.ref b4)])) _
      refine XS.i2b X5.here hx rfl (hb hby at_16) rfl ?_
      show Steps p.tables e below (T5.setTop (mkF m 17 #[.val (.int p1), .val (.int p2), .val (.int p3), .val (.ref b4), .unset, .unset, .unset, .unset] [(.int (((p1.toUInt32 >>> ((8 : Int32) &&& 31).toUInt32).toInt32).toInt8.toInt32)), (.int (1 : Int32)), (.ref b4)])) _
      refine st6 _ ?_
      show Steps p.tables e below (T6.setTop (mkF m 18 #[.val (.int p1), .val (.int p2), .val (.int p3), .val (.ref b4), .unset, .unset, .unset, .unset] [])) _
      refine XS.aloadN X6.here hx rfl (hb hby at_18) rfl rfl ?_
      show Steps p.tables e below (T6.setTop (mkF m 19 #[.val (.int p1), .val (.int p2), .val (.int p3), .val (.ref b4), .unset, .unset, .unset, .unset] [(.ref b4)])) _
      refine XS.iconst X6.here hx rfl (hb hby at_19) ?_
      show Steps p.tables e below (T6.setTop (mkF m 20 #[.val (.int p1), .val (.int p2), .val (.int p3), .val (.ref b4), .unset, .unset, .unset, .unset] [(.int (2 : Int32)), (.ref b4)])) _
      refine XS.iloadN X6.here hx rfl (hb hby at_20) rfl ?_
      show Steps p.tables e below (T6.setTop (mkF m 21 #[.val (.int p1), .val (.int p2), .val (.int p3), .val (.ref b4), .unset, .unset, .unset, .unset] [(.int p1), (.int (2 : Int32)), (.ref b4)])) _
      refine XS.bipush X6.here hx rfl (hb hby at_21) ?_
      show Steps p.tables e below (T6.setTop (mkF m 23 #[.val (.int p1), .val (.int p2), .val (.int p3), .val (.ref b4), .unset, .unset, .unset, .unset] [(.int (16 : Int32)), (.int p1), (.int (2 : Int32)), (.ref b4)])) _
      refine XS.iushr X6.here hx rfl (hb hby at_23) rfl ?_
      show Steps p.tables e below (T6.setTop (mkF m 24 #[.val (.int p1), .val (.int p2), .val (.int p3), .val (.ref b4), .unset, .unset, .unset, .unset] [(.int ((p1.toUInt32 >>> ((16 : Int32) &&& 31).toUInt32).toInt32)), (.int (2 : Int32)), (.ref b4)])) _
      refine XS.i2b X6.here hx rfl (hb hby at_24) rfl ?_
      show Steps p.tables e below (T6.setTop (mkF m 25 #[.val (.int p1), .val (.int p2), .val (.int p3), .val (.ref b4), .unset, .unset, .unset, .unset] [(.int (((p1.toUInt32 >>> ((16 : Int32) &&& 31).toUInt32).toInt32).toInt8.toInt32)), (.int (2 : Int32)), (.ref b4)])) _
      refine st7 _ ?_
      show Steps p.tables e below (T7.setTop (mkF m 26 #[.val (.int p1), .val (.int p2), .val (.int p3), .val (.ref b4), .unset, .unset, .unset, .unset] [])) _
      refine XS.aloadN X7.here hx rfl (hb hby at_26) rfl rfl ?_
      show Steps p.tables e below (T7.setTop (mkF m 27 #[.val (.int p1), .val (.int p2), .val (.int p3), .val (.ref b4), .unset, .unset, .unset, .unset] [(.ref b4)])) _
      refine XS.iconst X7.here hx rfl (hb hby at_27) ?_
      show Steps p.tables e below (T7.setTop (mkF m 28 #[.val (.int p1), .val (.int p2), .val (.int p3), .val (.ref b4), .unset, .unset, .unset, .unset] [(.int (3 : Int32)), (.ref b4)])) _
      refine XS.iloadN X7.here hx rfl (hb hby at_28) rfl ?_
      show Steps p.tables e below (T7.setTop (mkF m 29 #[.val (.int p1), .val (.int p2), .val (.int p3), .val (.ref b4), .unset, .unset, .unset, .unset] [(.int p1), (.int (3 : Int32)), (.ref b4)])) _
      refine XS.bipush X7.here hx rfl (hb hby at_29) ?_
      show Steps p.tables e below (T7.setTop (mkF m 31 #[.val (.int p1), .val (.int p2), .val (.int p3), .val (.ref b4), .unset, .unset, .unset, .unset] [(.int (24 : Int32)), (.int p1), (.int (3 : Int32)), (.ref b4)])) _
      refine XS.iushr X7.here hx rfl (hb hby at_31) rfl ?_
      show Steps p.tables e below (T7.setTop (mkF m 32 #[.val (.int p1), .val (.int p2), .val (.int p3), .val (.ref b4), .unset, .unset, .unset, .unset] [(.int ((p1.toUInt32 >>> ((24 : Int32) &&& 31).toUInt32).toInt32)), (.int (3 : Int32)), (.ref b4)])) _
      refine XS.i2b X7.here hx rfl (hb hby at_32) rfl ?_
      show Steps p.tables e below (T7.setTop (mkF m 33 #[.val (.int p1), .val (.int p2), .val (.int p3), .val (.ref b4), .unset, .unset, .unset, .unset] [(.int (((p1.toUInt32 >>> ((24 : Int32) &&& 31).toUInt32).toInt32).toInt8.toInt32)), (.int (3 : Int32)), (.ref b4)])) _
      refine st8 _ ?_
      show Steps p.tables e below (T8.setTop (mkF m 34 #[.val (.int p1), .val (.int p2), .val (.int p3), .val (.ref b4), .unset, .unset, .unset, .unset] [])) _
      refine XS.aloadN X8.here hx rfl (hb hby at_34) rfl rfl ?_
      show Steps p.tables e below (T8.setTop (mkF m 35 #[.val (.int p1), .val (.int p2), .val (.int p3), .val (.ref b4), .unset, .unset, .unset, .unset] [(.ref b4)])) _
      refine XS.iconst X8.here hx rfl (hb hby at_35) ?_
      show Steps p.tables e below (T8.setTop (mkF m 36 #[.val (.int p1), .val (.int p2), .val (.int p3), .val (.ref b4), .unset, .unset, .unset, .unset] [(.int (4 : Int32)), (.ref b4)])) _
      refine XS.iloadN X8.here hx rfl (hb hby at_36) rfl ?_
      show Steps p.tables e below (T8.setTop (mkF m 37 #[.val (.int p1), .val (.int p2), .val (.int p3), .val (.ref b4), .unset, .unset, .unset, .unset] [(.int p2), (.int (4 : Int32)), (.ref b4)])) _
      refine XS.i2b X8.here hx rfl (hb hby at_37) rfl ?_
      show Steps p.tables e below (T8.setTop (mkF m 38 #[.val (.int p1), .val (.int p2), .val (.int p3), .val (.ref b4), .unset, .unset, .unset, .unset] [(.int (p2.toInt8.toInt32)), (.int (4 : Int32)), (.ref b4)])) _
      refine st9 _ ?_
      show Steps p.tables e below (T9.setTop (mkF m 39 #[.val (.int p1), .val (.int p2), .val (.int p3), .val (.ref b4), .unset, .unset, .unset, .unset] [])) _
      refine XS.aloadN X9.here hx rfl (hb hby at_39) rfl rfl ?_
      show Steps p.tables e below (T9.setTop (mkF m 40 #[.val (.int p1), .val (.int p2), .val (.int p3), .val (.ref b4), .unset, .unset, .unset, .unset] [(.ref b4)])) _
      refine XS.iconst X9.here hx rfl (hb hby at_40) ?_
      show Steps p.tables e below (T9.setTop (mkF m 41 #[.val (.int p1), .val (.int p2), .val (.int p3), .val (.ref b4), .unset, .unset, .unset, .unset] [(.int (5 : Int32)), (.ref b4)])) _
      refine XS.iloadN X9.here hx rfl (hb hby at_41) rfl ?_
      show Steps p.tables e below (T9.setTop (mkF m 42 #[.val (.int p1), .val (.int p2), .val (.int p3), .val (.ref b4), .unset, .unset, .unset, .unset] [(.int p2), (.int (5 : Int32)), (.ref b4)])) _
      refine XS.bipush X9.here hx rfl (hb hby at_42) ?_
      show Steps p.tables e below (T9.setTop (mkF m 44 #[.val (.int p1), .val (.int p2), .val (.int p3), .val (.ref b4), .unset, .unset, .unset, .unset] [(.int (8 : Int32)), (.int p2), (.int (5 : Int32)), (.ref b4)])) _
      refine XS.iushr X9.here hx rfl (hb hby at_44) rfl ?_
      show Steps p.tables e below (T9.setTop (mkF m 45 #[.val (.int p1), .val (.int p2), .val (.int p3), .val (.ref b4), .unset, .unset, .unset, .unset] [(.int ((p2.toUInt32 >>> ((8 : Int32) &&& 31).toUInt32).toInt32)), (.int (5 : Int32)), (.ref b4)])) _
      refine XS.i2b X9.here hx rfl (hb hby at_45) rfl ?_
      show Steps p.tables e below (T9.setTop (mkF m 46 #[.val (.int p1), .val (.int p2), .val (.int p3), .val (.ref b4), .unset, .unset, .unset, .unset] [(.int (((p2.toUInt32 >>> ((8 : Int32) &&& 31).toUInt32).toInt32).toInt8.toInt32)), (.int (5 : Int32)), (.ref b4)])) _
      refine st10 _ ?_
      show Steps p.tables e below (T10.setTop (mkF m 47 #[.val (.int p1), .val (.int p2), .val (.int p3), .val (.ref b4), .unset, .unset, .unset, .unset] [])) _
      refine st11 _ (st12 _ (st13 _ ?_))
      show Steps p.tables e below (T13.setTop (mkF m 256 #[.val (.int p1), .val (.int p2), .val (.int p3), .val (.ref b4), .val (.int ((p3 &&& (2147483647 : Int32)) % (6 : Int32))), .val (.int ((((p3.toUInt32 >>> ((8 : Int32) &&& 31).toUInt32).toInt32) &&& (2147483647 : Int32)) % (((p3 &&& (2147483647 : Int32)) % (6 : Int32)) + (1 : Int32)))), .val (.int (own_max ((((p3.toUInt32 >>> ((8 : Int32) &&& 31).toUInt32).toInt32) &&& (2147483647 : Int32)) % (((p3 &&& (2147483647 : Int32)) % (6 : Int32)) + (1 : Int32))) (((p3 &&& (2147483647 : Int32)) % (6 : Int32)) - (3 : Int32)))), .val (.int z)] [])) _
      refine XS.iconst X13.here hx rfl (hb hby at_256) ?_
      show Steps p.tables e below (T13.setTop (mkF m 257 #[.val (.int p1), .val (.int p2), .val (.int p3), .val (.ref b4), .val (.int ((p3 &&& (2147483647 : Int32)) % (6 : Int32))), .val (.int ((((p3.toUInt32 >>> ((8 : Int32) &&& 31).toUInt32).toInt32) &&& (2147483647 : Int32)) % (((p3 &&& (2147483647 : Int32)) % (6 : Int32)) + (1 : Int32)))), .val (.int (own_max ((((p3.toUInt32 >>> ((8 : Int32) &&& 31).toUInt32).toInt32) &&& (2147483647 : Int32)) % (((p3 &&& (2147483647 : Int32)) % (6 : Int32)) + (1 : Int32))) (((p3 &&& (2147483647 : Int32)) % (6 : Int32)) - (3 : Int32)))), .val (.int z)] [(.int (1 : Int32))])) _
      refine XS.goto X13.here hx rfl (pc0 := 257) (pc' := 261) rfl (hb hby at_257) (by decide) (by decide) ?_
      show Steps p.tables e below (T13.setTop (mkF m 261 #[.val (.int p1), .val (.int p2), .val (.int p3), .val (.ref b4), .val (.int ((p3 &&& (2147483647 : Int32)) % (6 : Int32))), .val (.int ((((p3.toUInt32 >>> ((8 : Int32) &&& 31).toUInt32).toInt32) &&& (2147483647 : Int32)) % (((p3 &&& (2147483647 : Int32)) % (6 : Int32)) + (1 : Int32)))), .val (.int (own_max ((((p3.toUInt32 >>> ((8 : Int32) &&& 31).toUInt32).toInt32) &&& (2147483647 : Int32)) % (((p3 &&& (2147483647 : Int32)) % (6 : Int32)) + (1 : Int32))) (((p3 &&& (2147483647 : Int32)) % (6 : Int32)) - (3 : Int32)))), .val (.int z)] [(.int (1 : Int32))])) _
      exact retN X13 hx (t := .boolean) Bd.returns (by simp) (hb hby at_261) hr
    · show Q0 Z p1 p2 p3 h0 n0 _ T13.heap _
      exact ⟨rfl, N13⟩
set_option maxRecDepth 65536 in
set_option maxHeartbeats 40000000 in
theorem comes_1 {Post : Tables → Env → Array Value → State → Outcome → State → Prop} (hpost : ∀ tb e args s v u, (limb_1_1.after args s (.returned v) u = true ∧ limb_1_2.after args s (.returned v) u = true ∧ True) → FrameEnd s (.returned v) u (Jvm.fieldLocs frame_1_writes args s ++ Jvm.arrayLocs frame_1_arrays args s ++ Jvm.staticLocs frame_1_statics s) 16 128 → Post tb e args s (.returned v) u) :
    ArmFor flags0 classFile x code maxLocals ret World_1 tables_1 room_1 Calls_1 rest_1 Pre_1 Post := by
  intro l hfl _ _ p e ha hc hk s m args below hf hA hF happ hP
  obtain ⟨hcalls, hrest, hpre⟩ := hP
  obtain ⟨-, -, -, hnamed, -, -, -, hat⟩ := (Spec.applies_iff hf).mp happ
  obtain ⟨hg, hn⟩ := and_e (Cond.before_iff.mp (show (Jvm.Cond.and given_1 narrow_1).before args s = true from hpre))
  obtain ⟨g15, g16⟩ := and_e hg
  obtain ⟨g17, g18⟩ := and_e g16
  obtain ⟨g19, g20⟩ := and_e g18
  obtain ⟨w0, w1, w2, rfl⟩ : ∃ w0 w1 w2 : Value, args = #[w0, w1, w2] := by
    have hs : args.size = 3 := by simpa [Cond.value, given_1] using g15
    obtain ⟨L⟩ := args
    match L, hs with
    | [w0, w1, w2], _ => exact ⟨w0, w1, w2, rfl⟩
  have hw := fun d (hd : d ∈ tables_1) => atoms_spec (ws := Jvm.Cond.code x code maxLocals ret :: tables_1) hat d (List.mem_cons_of_mem _ hd)
  have hfit : Fit s := fun {y c} hc i hi => by
    obtain ⟨ha, rfl⟩ := Array.getElem?_eq_some_iff.mp hc
    have q := List.all_eq_true.mp ((Array.all_eq_true_iff_forall_mem.mp hF) _ (Array.getElem_mem ha)) i (List.mem_range.mpr hi)
    simpa [Array.getElem?_eq_getElem hi] using q
  obtain ⟨i0, ei0⟩ := is_v g17
  obtain rfl : w0 = (.int i0) := Option.some.inj ei0
  obtain ⟨i1, ei1⟩ := is_v g19
  obtain rfl : w1 = (.int i1) := Option.some.inj ei1
  obtain ⟨i2, ei2⟩ := is_v g20
  obtain rfl : w2 = (.int i2) := Option.some.inj ei2
  obtain ⟨n, o, h1, h2, h3, _, L, rfl, ⟨rfl, N⟩, hq⟩ := rm0 l s _ hw tables_1 i0 i1 i2 s.heap s.heap.size (Nat.le_refl _) p e ha hc hk s m _ below hf ((Spec.applies_iff_loose hf).mp happ).1 ⟨rfl, State.Warmed39.refl s, rfl⟩ trivial
  refine ⟨n, _, h1, h2, h3, hpost _ _ _ _ _ _ ⟨Cond.after_iff.mpr rfl, Cond.after_iff.mpr (eq_i res_at (Term.int_eval (1)) rfl), trivial⟩ ⟨hq.1, hq.2.1, (hq.2.2.sift fun y hy => Or.inr (N y hy)).mono (by decide) (by decide)⟩⟩
theorem main_1_1 : Claimed_1_1 := comes_1 fun _ _ _ _ _ _ h hF => ⟨h.1, hF⟩
theorem main_1_2 : Claimed_1_2 := comes_1 fun _ _ _ _ _ _ h hF => ⟨h.2.1, hF⟩
end Jvm.Pilot.@@N@@
namespace Jvm.Pilot.@@N@@
open Jvm Jvm.ClassFile Sem Op Lib Jvm.Free Jvm.Stand Jvm.Pilot.@@N@@.Jvm.D
/-! MADE BY PROGRAM (witnessworld.py) out of the Statement's table words and the real class files: 10 classes; the members and pool entries that the words name. The judged class is class 1, her method 2. -/
namespace start1
open Jvm.ClassFile
def u (s : String) : CpInfo := .utf8 (stringToUtf16 s)
/-- a pool by its gaps: so many unusable entries, then the entry; so many at the end -/
def gap : Nat → List CpInfo → List CpInfo
  | 0, r => r
  | n + 1, r => .unusable :: gap n r
def poolList (es : List (Nat × CpInfo)) (last : Nat) : List CpInfo := es.foldr (fun e r => gap e.1 (e.2 :: r)) (gap last [])
def pool (es : List (Nat × CpInfo)) (last : Nat) : Array CpInfo := ⟨poolList es last⟩
def fileOf (pool : Array CpInfo) (this : Nat) (attrs : Array Attribute := #[]) (ms : Array MethodInfo := #[]) (fl : Nat := 33) (sup : Nat := 0) (ifs : Array Nat := #[]) (fds : Array FieldInfo := #[]) : ClassFile where
  minorVersion := 0
  majorVersion := 65
  constantPool := pool
  accessFlags := fl
  thisClass := this
  superClass := sup
  interfaces := ifs
  fields := fds
  methods := ms
  attributes := attrs
def plain (name : String) (sup : Option ClassId) : Class where
  name := name
  kind := .ordinary
  loader := none
  accessFlags := 33
  super := sup
  interfaces := #[]
  cf := none
  fields := #[]
  methods := #[]
  instanceTypes := #[]
  staticTypes := #[]
  resolved := #[]
  callSites := []
  init := .initialized
  statics := none
  mirror := none

def pool0 : Array CpInfo := pool [(5, u "<init>"), (0, u "()V"), (1, .class_ 10), (1, u "java/lang/Object")] 113

def k0m0 : Method := { name := "<init>", desc := "()V", sig := { parameters := [], returnType := none }, accessFlags := 1, code := none }
/-- java/lang/Object -/
def k0 : Class := { plain "java/lang/Object" none with
  accessFlags := 33
  interfaces := #[]
  cf := some (fileOf pool0 8 #[] #[{ accessFlags := 1, nameIndex := 5, descriptorIndex := 6, attributes := #[] }] 33 0 #[] #[])
  fields := #[]
  methods := #[k0m0]
  instanceTypes := #[]
  staticTypes := #[]
  resolved := Array.replicate 124 none
  statics := none }

def pool1 : Array CpInfo := pool [(2, .class_ 4), (1, u "java/lang/Object"), (0, u "<init>"), (0, u "()V"), (0, .integer 2147483647), (0, .methodref 9 10), (0, .class_ 11), (0, .nameAndType 12 13), (0, u "java/lang/Math"), (0, u "max"), (0, u "(II)I"), (0, .methodref 15 16), (0, .class_ 17), (0, .nameAndType 18 19), (0, u "com/example/liboctet/liboctet/Utf8"), (0, u "splitPoint"), (0, u "([BII)I"), (0, .methodref 21 22), (0, .class_ 23), (0, .nameAndType 24 25), (0, u "com/example/liboctet/liboctet/Utf8SplitPointPinLaw"), (0, u "tail"), (0, u "(B)Z"), (3, u "law"), (0, u "(III)Z")] 4

def k1m0 : Method := { name := "<init>", desc := "()V", sig := { parameters := [], returnType := none }, accessFlags := 1, code := none }
def k1c1 : Code := { maxStack := 2, maxLocals := 1, code := method_2_code, exceptionTable := #[], attributes := #[] }
def k1m1 : Method := { name := "tail", desc := "(B)Z", sig := { parameters := [.byte], returnType := some .boolean }, accessFlags := 10, code := some k1c1 }
def k1c2 : Code := { maxStack := 4, maxLocals := 8, code := code, exceptionTable := #[], attributes := #[] }
def k1m2 : Method := { name := "law", desc := "(III)Z", sig := { parameters := [.int, .int, .int], returnType := some .boolean }, accessFlags := 9, code := some k1c2 }
/-- com/example/liboctet/liboctet/Utf8SplitPointPinLaw -/
def k1 : Class := { plain "com/example/liboctet/liboctet/Utf8SplitPointPinLaw" (some 0) with
  accessFlags := 49
  interfaces := #[]
  cf := some (fileOf pool1 21 #[] #[{ accessFlags := 1, nameIndex := 5, descriptorIndex := 6, attributes := #[] }, { accessFlags := 10, nameIndex := 24, descriptorIndex := 25, attributes := #[] }, { accessFlags := 9, nameIndex := 29, descriptorIndex := 30, attributes := #[] }] 49 2 #[] #[])
  fields := #[]
  methods := #[k1m0, k1m1, k1m2]
  instanceTypes := #[]
  staticTypes := #[]
  resolved := Array.replicate 35 none
  statics := none }

def pool2 : Array CpInfo := pool [(1, .class_ 2), (0, u "java/lang/Math"), (1, .class_ 6), (1, u "java/lang/Object"), (0, u "<init>"), (0, u "()V"), (89, .class_ 100), (1, u "java/lang/Math$RandomNumberGeneratorHolder"), (71, u "negativeZeroFloatBits"), (0, u "J"), (2, u "negativeZeroDoubleBits"), (21, u "max"), (46, u "$assertionsDisabled"), (0, u "Z"), (88, u "(II)I"), (2, u "twoToTheDoubleScaleDown"), (0, u "D"), (4, u "twoToTheDoubleScaleUp"), (9, u "E"), (3, u "PI"), (2, u "TAU"), (2, u "DEGREES_TO_RADIANS"), (0, u "RADIANS_TO_DEGREES")] 94

def k2m0 : Method := { name := "<init>", desc := "()V", sig := { parameters := [], returnType := none }, accessFlags := 2, code := none }
def k2c1 : Code := { maxStack := 2, maxLocals := 2, code := jdk_29_method_65_code, exceptionTable := #[], attributes := #[] }
def k2m1 : Method := { name := "max", desc := "(II)I", sig := { parameters := [.int, .int], returnType := some .int }, accessFlags := 9, code := some k2c1 }
/-- java/lang/Math -/
def k2 : Class := { plain "java/lang/Math" (some 0) with
  accessFlags := 49
  interfaces := #[]
  cf := some (fileOf pool2 1 #[.nestMembers #[98]] #[{ accessFlags := 2, nameIndex := 7, descriptorIndex := 8, attributes := #[] }, { accessFlags := 9, nameIndex := 198, descriptorIndex := 335, attributes := #[] }] 49 4 #[] #[{ accessFlags := 25, nameIndex := 354, descriptorIndex := 339, attributes := #[] }, { accessFlags := 25, nameIndex := 358, descriptorIndex := 339, attributes := #[] }, { accessFlags := 25, nameIndex := 361, descriptorIndex := 339, attributes := #[] }, { accessFlags := 26, nameIndex := 364, descriptorIndex := 339, attributes := #[] }, { accessFlags := 26, nameIndex := 365, descriptorIndex := 339, attributes := #[] }, { accessFlags := 26, nameIndex := 172, descriptorIndex := 173, attributes := #[] }, { accessFlags := 26, nameIndex := 176, descriptorIndex := 173, attributes := #[] }, { accessFlags := 8, nameIndex := 344, descriptorIndex := 339, attributes := #[] }, { accessFlags := 8, nameIndex := 338, descriptorIndex := 339, attributes := #[] }, { accessFlags := 4120, nameIndex := 245, descriptorIndex := 246, attributes := #[] }])
  fields := #[{ name := "E", type := .double, accessFlags := 25, slot := 0, constantValue := 0 }, { name := "PI", type := .double, accessFlags := 25, slot := 1, constantValue := 0 }, { name := "TAU", type := .double, accessFlags := 25, slot := 2, constantValue := 0 }, { name := "DEGREES_TO_RADIANS", type := .double, accessFlags := 26, slot := 3, constantValue := 0 }, { name := "RADIANS_TO_DEGREES", type := .double, accessFlags := 26, slot := 4, constantValue := 0 }, { name := "negativeZeroFloatBits", type := .long, accessFlags := 26, slot := 5, constantValue := 0 }, { name := "negativeZeroDoubleBits", type := .long, accessFlags := 26, slot := 6, constantValue := 0 }, { name := "twoToTheDoubleScaleUp", type := .double, accessFlags := 8, slot := 7, constantValue := 0 }, { name := "twoToTheDoubleScaleDown", type := .double, accessFlags := 8, slot := 8, constantValue := 0 }, { name := "$assertionsDisabled", type := .boolean, accessFlags := 4120, slot := 9, constantValue := 0 }]
  methods := #[k2m0, k2m1]
  instanceTypes := #[]
  staticTypes := #[.double, .double, .double, .double, .double, .long, .long, .double, .double, .boolean]
  resolved := Array.replicate 460 none
  statics := none }

def pool3 : Array CpInfo := pool [(1, .class_ 2), (0, u "com/example/liboctet/liboctet/Utf8"), (3, .class_ 8), (1, u "java/lang/Object"), (0, u "<init>"), (0, u "()V"), (9, u "[B"), (7, u "([BII)I"), (29, .class_ 60), (1, u "com/example/liboctet/liboctet/Utf8$PartVisitor"), (46, .class_ 108), (0, u "com/example/liboctet/liboctet/Utf8$Decoder"), (21, .class_ 131), (0, u "com/example/liboctet/liboctet/Utf8$Encoder"), (9, u "BYTE_ORDER_MARK"), (67, .methodref 1 210), (0, .nameAndType 211 212), (0, u "isTail"), (0, u "(B)Z"), (38, u "NEXT"), (0, u "[J"), (10, .class_ 264), (0, u "com/example/liboctet/liboctet/Utf8$Screen"), (7, u "UNFLAGGED"), (6, u "LONGS"), (0, u "Ljava/lang/invoke/VarHandle;"), (8, .class_ 291), (1, u "java/lang/Math"), (1, u "(II)I"), (36, u "FORM_LENGTH"), (5, u "SECOND_MIN"), (0, u "[I"), (2, u "SECOND_MAX"), (2, u "REFUSED_AS"), (0, u "[Lcom/example/liboctet/liboctet/Utf8Error$Kind;"), (12, .methodref 289 358), (0, .nameAndType 359 293), (0, u "max"), (37, u "INTS"), (46, u "FORM_START"), (16, u "LEAD_OF_TWO"), (0, u "I"), (2, u "PAST_LEADS"), (2, u "LEAD_OF_THREE"), (2, u "LEAD_OF_FOUR"), (3, u "FOURTH_NARROWED"), (66, u "FIRST_NARROWED"), (2, u "SECOND_NARROWED"), (2, u "THIRD_NARROWED"), (3, u "REPLACEMENT_CHARACTER"), (0, u "C"), (1, u "LONGEST_FORM"), (1, u "PIECE_CHARS"), (1, u "TABLE_RUN"), (1, u "SHORT_TEXT"), (0, u "MOST_OCTETS_A_CHAR"), (1, u "OCTETS"), (1, u "FIRST_TAIL"), (1, u "LAST_TAIL"), (1, u "STATE_BITS"), (1, u "STATE_MASK"), (0, u "J"), (0, u "REFUSED"), (1, u "BETWEEN"), (0, u "ASCII_BLOCK"), (0, u "HIGH_BITS"), (0, u "FOUR_LEADS"), (2, u "FOUR_LEAD_MARKS"), (2, u "LANES"), (0, u "LANE_ONES"), (0, u "LANE_LOW_BITS"), (0, u "LANE_HIGH_BITS"), (0, u "NOT_ASCII_BITS"), (0, u "PAIR_BITS"), (2, u "TWO_PAIRS"), (2, u "WINDOW"), (0, u "SCREEN"), (1, u "LONG_WINDOW"), (0, u "FLAG"), (23, u "splitPoint"), (21, .class_ 647), (0, u "com/example/liboctet/liboctet/Utf8$PartVisitor$1")] 38

def k3m0 : Method := { name := "<init>", desc := "()V", sig := { parameters := [], returnType := none }, accessFlags := 2, code := none }
def k3c1 : Code := { maxStack := 3, maxLocals := 5, code := prog_12_method_39_code, exceptionTable := #[], attributes := #[] }
def k3m1 : Method := { name := "splitPoint", desc := "([BII)I", sig := { parameters := [(.array .byte), .int, .int], returnType := some .int }, accessFlags := 8, code := some k3c1 }
def k3c2 : Code := { maxStack := 2, maxLocals := 1, code := prog_12_method_53_code, exceptionTable := #[], attributes := #[] }
def k3m2 : Method := { name := "isTail", desc := "(B)Z", sig := { parameters := [.byte], returnType := some .boolean }, accessFlags := 10, code := some k3c2 }
/-- com/example/liboctet/liboctet/Utf8 -/
def k3 : Class := { plain "com/example/liboctet/liboctet/Utf8" (some 0) with
  accessFlags := 49
  interfaces := #[]
  cf := some (fileOf pool3 1 #[.nestMembers #[130, 107, 263, 58, 646]] #[{ accessFlags := 2, nameIndex := 9, descriptorIndex := 10, attributes := #[] }, { accessFlags := 8, nameIndex := 624, descriptorIndex := 28, attributes := #[] }, { accessFlags := 10, nameIndex := 211, descriptorIndex := 212, attributes := #[] }] 49 6 #[] #[{ accessFlags := 24, nameIndex := 552, descriptorIndex := 553, attributes := #[] }, { accessFlags := 26, nameIndex := 141, descriptorIndex := 20, attributes := #[] }, { accessFlags := 24, nameIndex := 555, descriptorIndex := 462, attributes := #[] }, { accessFlags := 26, nameIndex := 557, descriptorIndex := 462, attributes := #[] }, { accessFlags := 26, nameIndex := 559, descriptorIndex := 462, attributes := #[] }, { accessFlags := 24, nameIndex := 561, descriptorIndex := 462, attributes := #[] }, { accessFlags := 26, nameIndex := 562, descriptorIndex := 462, attributes := #[] }, { accessFlags := 26, nameIndex := 564, descriptorIndex := 462, attributes := #[] }, { accessFlags := 26, nameIndex := 566, descriptorIndex := 462, attributes := #[] }, { accessFlags := 26, nameIndex := 568, descriptorIndex := 462, attributes := #[] }, { accessFlags := 26, nameIndex := 330, descriptorIndex := 20, attributes := #[] }, { accessFlags := 26, nameIndex := 336, descriptorIndex := 337, attributes := #[] }, { accessFlags := 26, nameIndex := 340, descriptorIndex := 337, attributes := #[] }, { accessFlags := 26, nameIndex := 343, descriptorIndex := 344, attributes := #[] }, { accessFlags := 26, nameIndex := 251, descriptorIndex := 252, attributes := #[] }, { accessFlags := 26, nameIndex := 570, descriptorIndex := 462, attributes := #[] }, { accessFlags := 26, nameIndex := 572, descriptorIndex := 573, attributes := #[] }, { accessFlags := 26, nameIndex := 574, descriptorIndex := 462, attributes := #[] }, { accessFlags := 26, nameIndex := 576, descriptorIndex := 462, attributes := #[] }, { accessFlags := 26, nameIndex := 577, descriptorIndex := 462, attributes := #[] }, { accessFlags := 24, nameIndex := 578, descriptorIndex := 573, attributes := #[] }, { accessFlags := 24, nameIndex := 279, descriptorIndex := 280, attributes := #[] }, { accessFlags := 26, nameIndex := 397, descriptorIndex := 280, attributes := #[] }, { accessFlags := 26, nameIndex := 579, descriptorIndex := 573, attributes := #[] }, { accessFlags := 26, nameIndex := 582, descriptorIndex := 573, attributes := #[] }, { accessFlags := 26, nameIndex := 444, descriptorIndex := 337, attributes := #[] }, { accessFlags := 26, nameIndex := 585, descriptorIndex := 462, attributes := #[] }, { accessFlags := 26, nameIndex := 586, descriptorIndex := 573, attributes := #[] }, { accessFlags := 26, nameIndex := 587, descriptorIndex := 573, attributes := #[] }, { accessFlags := 26, nameIndex := 588, descriptorIndex := 573, attributes := #[] }, { accessFlags := 26, nameIndex := 589, descriptorIndex := 573, attributes := #[] }, { accessFlags := 26, nameIndex := 590, descriptorIndex := 573, attributes := #[] }, { accessFlags := 26, nameIndex := 593, descriptorIndex := 573, attributes := #[] }, { accessFlags := 26, nameIndex := 596, descriptorIndex := 462, attributes := #[] }, { accessFlags := 24, nameIndex := 597, descriptorIndex := 462, attributes := #[] }, { accessFlags := 26, nameIndex := 599, descriptorIndex := 462, attributes := #[] }, { accessFlags := 26, nameIndex := 600, descriptorIndex := 462, attributes := #[] }, { accessFlags := 26, nameIndex := 272, descriptorIndex := 20, attributes := #[] }, { accessFlags := 26, nameIndex := 461, descriptorIndex := 462, attributes := #[] }, { accessFlags := 26, nameIndex := 468, descriptorIndex := 462, attributes := #[] }, { accessFlags := 26, nameIndex := 471, descriptorIndex := 462, attributes := #[] }, { accessFlags := 26, nameIndex := 465, descriptorIndex := 462, attributes := #[] }, { accessFlags := 26, nameIndex := 542, descriptorIndex := 462, attributes := #[] }, { accessFlags := 26, nameIndex := 545, descriptorIndex := 462, attributes := #[] }, { accessFlags := 26, nameIndex := 548, descriptorIndex := 462, attributes := #[] }, { accessFlags := 26, nameIndex := 475, descriptorIndex := 462, attributes := #[] }])
  fields := #[{ name := "REPLACEMENT_CHARACTER", type := .char, accessFlags := 24, slot := 0, constantValue := 0 }, { name := "BYTE_ORDER_MARK", type := (.array .byte), accessFlags := 26, slot := 1, constantValue := 0 }, { name := "LONGEST_FORM", type := .int, accessFlags := 24, slot := 2, constantValue := 0 }, { name := "PIECE_CHARS", type := .int, accessFlags := 26, slot := 3, constantValue := 0 }, { name := "TABLE_RUN", type := .int, accessFlags := 26, slot := 4, constantValue := 0 }, { name := "SHORT_TEXT", type := .int, accessFlags := 24, slot := 5, constantValue := 0 }, { name := "MOST_OCTETS_A_CHAR", type := .int, accessFlags := 26, slot := 6, constantValue := 0 }, { name := "OCTETS", type := .int, accessFlags := 26, slot := 7, constantValue := 0 }, { name := "FIRST_TAIL", type := .int, accessFlags := 26, slot := 8, constantValue := 0 }, { name := "LAST_TAIL", type := .int, accessFlags := 26, slot := 9, constantValue := 0 }, { name := "FORM_LENGTH", type := (.array .byte), accessFlags := 26, slot := 10, constantValue := 0 }, { name := "SECOND_MIN", type := (.array .int), accessFlags := 26, slot := 11, constantValue := 0 }, { name := "SECOND_MAX", type := (.array .int), accessFlags := 26, slot := 12, constantValue := 0 }, { name := "REFUSED_AS", type := (.array (.object "com/example/liboctet/liboctet/Utf8Error$Kind")), accessFlags := 26, slot := 13, constantValue := 0 }, { name := "NEXT", type := (.array .long), accessFlags := 26, slot := 14, constantValue := 0 }, { name := "STATE_BITS", type := .int, accessFlags := 26, slot := 15, constantValue := 0 }, { name := "STATE_MASK", type := .long, accessFlags := 26, slot := 16, constantValue := 0 }, { name := "REFUSED", type := .int, accessFlags := 26, slot := 17, constantValue := 0 }, { name := "BETWEEN", type := .int, accessFlags := 26, slot := 18, constantValue := 0 }, { name := "ASCII_BLOCK", type := .int, accessFlags := 26, slot := 19, constantValue := 0 }, { name := "HIGH_BITS", type := .long, accessFlags := 24, slot := 20, constantValue := 0 }, { name := "LONGS", type := (.object "java/lang/invoke/VarHandle"), accessFlags := 24, slot := 21, constantValue := 0 }, { name := "INTS", type := (.object "java/lang/invoke/VarHandle"), accessFlags := 26, slot := 22, constantValue := 0 }, { name := "FOUR_LEADS", type := .long, accessFlags := 26, slot := 23, constantValue := 0 }, { name := "FOUR_LEAD_MARKS", type := .long, accessFlags := 26, slot := 24, constantValue := 0 }, { name := "FORM_START", type := (.array .int), accessFlags := 26, slot := 25, constantValue := 0 }, { name := "LANES", type := .int, accessFlags := 26, slot := 26, constantValue := 0 }, { name := "LANE_ONES", type := .long, accessFlags := 26, slot := 27, constantValue := 0 }, { name := "LANE_LOW_BITS", type := .long, accessFlags := 26, slot := 28, constantValue := 0 }, { name := "LANE_HIGH_BITS", type := .long, accessFlags := 26, slot := 29, constantValue := 0 }, { name := "NOT_ASCII_BITS", type := .long, accessFlags := 26, slot := 30, constantValue := 0 }, { name := "PAIR_BITS", type := .long, accessFlags := 26, slot := 31, constantValue := 0 }, { name := "TWO_PAIRS", type := .long, accessFlags := 26, slot := 32, constantValue := 0 }, { name := "WINDOW", type := .int, accessFlags := 26, slot := 33, constantValue := 0 }, { name := "SCREEN", type := .int, accessFlags := 24, slot := 34, constantValue := 0 }, { name := "LONG_WINDOW", type := .int, accessFlags := 26, slot := 35, constantValue := 0 }, { name := "FLAG", type := .int, accessFlags := 26, slot := 36, constantValue := 0 }, { name := "UNFLAGGED", type := (.array .byte), accessFlags := 26, slot := 37, constantValue := 0 }, { name := "LEAD_OF_TWO", type := .int, accessFlags := 26, slot := 38, constantValue := 0 }, { name := "LEAD_OF_THREE", type := .int, accessFlags := 26, slot := 39, constantValue := 0 }, { name := "LEAD_OF_FOUR", type := .int, accessFlags := 26, slot := 40, constantValue := 0 }, { name := "PAST_LEADS", type := .int, accessFlags := 26, slot := 41, constantValue := 0 }, { name := "FIRST_NARROWED", type := .int, accessFlags := 26, slot := 42, constantValue := 0 }, { name := "SECOND_NARROWED", type := .int, accessFlags := 26, slot := 43, constantValue := 0 }, { name := "THIRD_NARROWED", type := .int, accessFlags := 26, slot := 44, constantValue := 0 }, { name := "FOURTH_NARROWED", type := .int, accessFlags := 26, slot := 45, constantValue := 0 }]
  methods := #[k3m0, k3m1, k3m2]
  instanceTypes := #[]
  staticTypes := #[.char, (.array .byte), .int, .int, .int, .int, .int, .int, .int, .int, (.array .byte), (.array .int), (.array .int), (.array (.object "com/example/liboctet/liboctet/Utf8Error$Kind")), (.array .long), .int, .long, .int, .int, .int, .long, (.object "java/lang/invoke/VarHandle"), (.object "java/lang/invoke/VarHandle"), .long, .long, (.array .int), .int, .long, .long, .long, .long, .long, .long, .int, .int, .int, .int, (.array .byte), .int, .int, .int, .int, .int, .int, .int, .int]
  resolved := Array.replicate 686 none
  statics := none }

def pool4 : Array CpInfo := pool [(1, u "java/lang/Cloneable"), (0, .class_ 1), (0, u "java/lang/Object"), (0, .class_ 3)] 3

/-- java/lang/Cloneable -/
def k4 : Class := { plain "java/lang/Cloneable" (some 0) with
  accessFlags := 1537
  interfaces := #[]
  cf := some (fileOf pool4 2 #[] #[] 1537 4 #[] #[])
  fields := #[]
  methods := #[]
  instanceTypes := #[]
  staticTypes := #[]
  resolved := Array.replicate 8 none
  statics := none }

def pool5 : Array CpInfo := pool [(1, u "java/io/Serializable"), (0, .class_ 1), (0, u "java/lang/Object"), (0, .class_ 3)] 3

/-- java/io/Serializable -/
def k5 : Class := { plain "java/io/Serializable" (some 0) with
  accessFlags := 1537
  interfaces := #[]
  cf := some (fileOf pool5 2 #[] #[] 1537 4 #[] #[])
  fields := #[]
  methods := #[]
  instanceTypes := #[]
  staticTypes := #[]
  resolved := Array.replicate 8 none
  statics := none }

/-- the primitive byte -/
def k6 : Class := { plain "byte" none with kind := .primitive 'B', accessFlags := 0x411 }
/-- [B -/
def k7 : Class := { plain "[B" (some 0) with kind := .array 6 .byte, interfaces := #[4, 5], accessFlags := 1041 }

/-- the primitive int -/
def k8 : Class := { plain "int" none with kind := .primitive 'I', accessFlags := 0x411 }
/-- [I -/
def k9 : Class := { plain "[I" (some 0) with kind := .array 8 .int, interfaces := #[4, 5], accessFlags := 1041 }

def heap : Heap := #[]
def classes : Array Class := #[k0, k1, k2, k3, k4, k5, k6, k7, k8, k9]
def interned : List (Array UInt16 × Addr) := []
def slotsUsed : Nat := 0
def theMethod : MethodId := ⟨1, 2⟩
def args0 : Array Value := #[.int 1, .int 2, .int 3]
def aboutOver (below : List Frame) : State where
  vm := { classes := classes, interned := interned.toArray }
  heap := heap
  slotsUsed := slotsUsed
  threads := #[{ frames := .invoking theMethod args0 :: below }]
def below0 : List Frame := [.native { method := ⟨0, 0⟩, args := #[] }]
def about1 : State := aboutOver below0
def p0 : Program := .bare "" "" ""
def e0 : Env := launch0.env 0 0 0
theorem w_frames : about1.frames = Frame.invoking theMethod args0 :: below0 := rfl
set_option maxRecDepth 65536 in
theorem w_args : argsFit about1.vm theMethod args0 = true := by decide +kernel
set_option maxRecDepth 65536 in
theorem w_heap : heapFits about1 = true := by decide +kernel
set_option maxRecDepth 65536 in
theorem w_runnable : about1.curStatus? = some .runnable := by decide +kernel
set_option maxRecDepth 65536 in
theorem w_alone : about1.alone = true := by decide +kernel
set_option maxRecDepth 65536 in
theorem w_named : about1.methodNamed? x = some theMethod := by decide +kernel
set_option maxRecDepth 65536 in
theorem w_hears : about1.hears theMethod below0 = true := by decide +kernel
set_option maxRecDepth 65536 in
theorem w_ripe : about1.ripe theMethod args0 below0 = true := by decide +kernel
theorem w_running : about1.status = .running := rfl
set_option maxRecDepth 65536 in
theorem w_room : about1.hasRoom e0.platform room_1 = true :=
  launch0.hasRoom_least _ room_1 (by decide +kernel) (by decide +kernel) (by decide +kernel) (by decide +kernel) (by decide +kernel) (by decide +kernel)
theorem allAtoms_all (ts : List Jvm.Cond) (a : Array Jvm.Value) (st : Jvm.State) : (allAtoms ts).before a st = ts.all (fun c => c.before a st) := by
  induction ts with
  | nil => rfl
  | cons c t ih =>
    show (Jvm.Cond.and c (allAtoms t)).before a st = _
    rw [Jvm.Cond.before_and, ih, List.all_cons]
def words1 : List Jvm.Cond := Jvm.Cond.code x code maxLocals ret :: tables_1
/-- a 'code' word, met by the world's own term for the bytes: nothing is compared byte by byte -/
theorem code_word {y : MethodName} {bytes : ByteArray} {mx : Nat} {rt : Option FieldType} {a : Array Value} {s : State} {m : MethodId} {meth : Method} {c : Code} (h1 : s.methodNamed? y = some m) (h2 : s.vm.method? m = some meth) (h3 : meth.code = some c) (h4 : c.code = bytes)
    (h5 : (c.maxLocals == mx && c.exceptionTable.isEmpty && decide (c.maxStack ≤ mostOperands) && decide (meth.sig.returnType = rt) && !meth.locks && decide (parseMethodDescriptor y.desc = some meth.sig)) = true) : (Jvm.Cond.code y bytes mx rt).before a s = true := by
  simp only [Bool.and_eq_true, beq_iff_eq, Bool.not_eq_true', decide_eq_true_eq] at h5
  obtain ⟨⟨⟨⟨⟨g1, g2⟩, g3⟩, g4⟩, g5⟩, g6⟩ := h5
  simp [Cond.before, Cond.holds, Cond.value, h1, h2, h3, h4, g1, g2, g3, g4, g5, g6]
def isCode : Jvm.Cond → Bool
  | .code _ _ _ _ => true
  | _ => false
theorem all_split {L : List Jvm.Cond} {P : Jvm.Cond → Bool} (h1 : L.all (fun c => isCode c || P c) = true) (h2 : ∀ c ∈ L.filter isCode, P c = true) : L.all P = true := by
  refine List.all_eq_true.mpr fun c hc => ?_
  have h := List.all_eq_true.mp h1 c hc
  rcases Bool.eq_false_or_eq_true (isCode c) with hi | hi
  · exact h2 c (List.mem_filter.mpr ⟨hc, hi⟩)
  · simpa [hi] using h
set_option maxRecDepth 65536 in
theorem w_c0 : (Jvm.Cond.code x code maxLocals ret).before args0 about1 = true := code_word (m := ⟨1, 2⟩) (meth := k1m2) (c := k1c2) (by decide +kernel) rfl rfl rfl (by decide +kernel)
set_option maxRecDepth 65536 in
theorem w_c1 : (Jvm.Cond.code ({ cls := "java/lang/Math", name := "max", desc := "(II)I" } : Jvm.MethodName) jdk_29_method_65_code (2 : Nat) (Option.some Jvm.ClassFile.FieldType.int)).before args0 about1 = true := code_word (m := ⟨2, 1⟩) (meth := k2m1) (c := k2c1) (by decide +kernel) rfl rfl rfl (by decide +kernel)
set_option maxRecDepth 65536 in
theorem w_c2 : (Jvm.Cond.code ({ cls := "com/example/liboctet/liboctet/Utf8", name := "splitPoint", desc := "([BII)I" } : Jvm.MethodName) prog_12_method_39_code (5 : Nat) (Option.some Jvm.ClassFile.FieldType.int)).before args0 about1 = true := code_word (m := ⟨3, 1⟩) (meth := k3m1) (c := k3c1) (by decide +kernel) rfl rfl rfl (by decide +kernel)
set_option maxRecDepth 65536 in
theorem w_c3 : (Jvm.Cond.code ({ cls := "com/example/liboctet/liboctet/Utf8", name := "isTail", desc := "(B)Z" } : Jvm.MethodName) prog_12_method_53_code (1 : Nat) (Option.some Jvm.ClassFile.FieldType.boolean)).before args0 about1 = true := code_word (m := ⟨3, 2⟩) (meth := k3m2) (c := k3c2) (by decide +kernel) rfl rfl rfl (by decide +kernel)
set_option maxRecDepth 65536 in
theorem w_c4 : (Jvm.Cond.code ({ cls := "com/example/liboctet/liboctet/Utf8SplitPointPinLaw", name := "tail", desc := "(B)Z" } : Jvm.MethodName) method_2_code (1 : Nat) (Option.some Jvm.ClassFile.FieldType.boolean)).before args0 about1 = true := code_word (m := ⟨1, 1⟩) (meth := k1m1) (c := k1c1) (by decide +kernel) rfl rfl rfl (by decide +kernel)
def codes1 : List Jvm.Cond := [Jvm.Cond.code x code maxLocals ret, Jvm.Cond.code ({ cls := "java/lang/Math", name := "max", desc := "(II)I" } : Jvm.MethodName) jdk_29_method_65_code (2 : Nat) (Option.some Jvm.ClassFile.FieldType.int), Jvm.Cond.code ({ cls := "com/example/liboctet/liboctet/Utf8", name := "splitPoint", desc := "([BII)I" } : Jvm.MethodName) prog_12_method_39_code (5 : Nat) (Option.some Jvm.ClassFile.FieldType.int), Jvm.Cond.code ({ cls := "com/example/liboctet/liboctet/Utf8", name := "isTail", desc := "(B)Z" } : Jvm.MethodName) prog_12_method_53_code (1 : Nat) (Option.some Jvm.ClassFile.FieldType.boolean), Jvm.Cond.code ({ cls := "com/example/liboctet/liboctet/Utf8SplitPointPinLaw", name := "tail", desc := "(B)Z" } : Jvm.MethodName) method_2_code (1 : Nat) (Option.some Jvm.ClassFile.FieldType.boolean)]
set_option maxRecDepth 65536 in
theorem codes_eq : words1.filter isCode = codes1 := rfl
theorem w_codes : ∀ c ∈ words1.filter isCode, c.before args0 about1 = true := by
  rw [codes_eq]
  intro c hc
  simp only [codes1, List.mem_cons, List.not_mem_nil, or_false] at hc
  rcases hc with rfl | rfl | rfl | rfl | rfl
  · exact w_c0
  · exact w_c1
  · exact w_c2
  · exact w_c3
  · exact w_c4
set_option maxRecDepth 65536 in
theorem w_t1 : words1.all (fun c => isCode c || c.before args0 about1) = true := by decide +kernel
theorem w_tables : (allAtoms (Jvm.Cond.code x code maxLocals ret :: tables_1)).before args0 about1 = true := by
  rw [allAtoms_all]
  show words1.all (fun c => c.before args0 about1) = true
  refine all_split ?_ w_codes
  rw [w_t1]
set_option maxRecDepth 65536 in
theorem w_case : (Jvm.Cond.and given_1 narrow_1).before args0 about1 = true := by decide +kernel
theorem w_applies : (headSpec (Jvm.Cond.code x code maxLocals ret :: tables_1) room_1).applies x e0.platform about1 = true :=
  (Spec.applies_iff w_frames).mpr ⟨w_running, w_runnable, w_alone, w_named, w_hears, w_ripe, w_room, w_tables⟩
theorem atStart : AtStart classFile x code maxLocals ret World_1 tables_1 room_1 Calls_1 rest_1 Pre_1 launch0 p0 e0 about1 theMethod args0 below0 :=
  ⟨lists_1, trivial, launch0.admits_env _ _ _, launch0.least_env, fairChoices_fair.cas, fairChoices_fair.clock, w_frames, w_args, w_heap, w_applies, trivial, trivial, w_case⟩
end start1
theorem witness_1 : WitnessClaimed_1 := ⟨start1.p0, start1.e0, start1.about1, start1.theMethod, start1.args0, start1.below0, start1.atStart⟩
end Jvm.Pilot.@@N@@
